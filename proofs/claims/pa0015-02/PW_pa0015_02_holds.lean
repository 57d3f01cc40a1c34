import PyProof.Rows.All
import Wide.All
import OpenK.AllK
import Wide.FinOn
import PySem.Challenge.RW_pa0015_02
set_option linter.all false
set_option tactic.hygienic false
set_option genInjectivity false
set_option genSizeOf false
set_option genSizeOfSpec false
set_option Elab.async false
set_option maxRecDepth 100000
namespace Mine
theorem e0a2 {A0 A1 : Prop} {g : Prop} (h : A0 ∧ A1) (k : A0 → A1 → g) : g := k h.1 h.2
theorem e0a3 {A0 A1 A2 : Prop} {g : Prop} (h : A0 ∧ A1 ∧ A2) (k : A0 → A1 → A2 → g) : g := k h.1 h.2.1 h.2.2
theorem e0a4 {A0 A1 A2 A3 : Prop} {g : Prop} (h : A0 ∧ A1 ∧ A2 ∧ A3) (k : A0 → A1 → A2 → A3 → g) : g := k h.1 h.2.1 h.2.2.1 h.2.2.2
theorem e0a5 {A0 A1 A2 A3 A4 : Prop} {g : Prop} (h : A0 ∧ A1 ∧ A2 ∧ A3 ∧ A4) (k : A0 → A1 → A2 → A3 → A4 → g) : g := k h.1 h.2.1 h.2.2.1 h.2.2.2.1 h.2.2.2.2
theorem e0a7 {A0 A1 A2 A3 A4 A5 A6 : Prop} {g : Prop} (h : A0 ∧ A1 ∧ A2 ∧ A3 ∧ A4 ∧ A5 ∧ A6) (k : A0 → A1 → A2 → A3 → A4 → A5 → A6 → g) : g := k h.1 h.2.1 h.2.2.1 h.2.2.2.1 h.2.2.2.2.1 h.2.2.2.2.2.1 h.2.2.2.2.2.2
theorem e1a1 {α0 : Type} {A0 : α0 → Prop} {g : Prop} (h : ∃ x0, A0 x0) (k : ∀ x0, A0 x0 → g) : g := h.elim fun x0 h => k x0 h
theorem e1a2 {α0 : Type} {A0 A1 : α0 → Prop} {g : Prop} (h : ∃ x0, A0 x0 ∧ A1 x0) (k : ∀ x0, A0 x0 → A1 x0 → g) : g := h.elim fun x0 h => k x0 h.1 h.2
theorem e1a3 {α0 : Type} {A0 A1 A2 : α0 → Prop} {g : Prop} (h : ∃ x0, A0 x0 ∧ A1 x0 ∧ A2 x0) (k : ∀ x0, A0 x0 → A1 x0 → A2 x0 → g) : g := h.elim fun x0 h => k x0 h.1 h.2.1 h.2.2
theorem e2a1 {α0 : Type} {α1 : Type} {A0 : α0 → α1 → Prop} {g : Prop} (h : ∃ x0 x1, A0 x0 x1) (k : ∀ x0 x1, A0 x0 x1 → g) : g := h.elim fun x0 h => h.elim fun x1 h => k x0 x1 h
theorem e2a2 {α0 : Type} {α1 : Type} {A0 A1 : α0 → α1 → Prop} {g : Prop} (h : ∃ x0 x1, A0 x0 x1 ∧ A1 x0 x1) (k : ∀ x0 x1, A0 x0 x1 → A1 x0 x1 → g) : g := h.elim fun x0 h => h.elim fun x1 h => k x0 x1 h.1 h.2
theorem e2a3 {α0 : Type} {α1 : Type} {A0 A1 A2 : α0 → α1 → Prop} {g : Prop} (h : ∃ x0 x1, A0 x0 x1 ∧ A1 x0 x1 ∧ A2 x0 x1) (k : ∀ x0 x1, A0 x0 x1 → A1 x0 x1 → A2 x0 x1 → g) : g := h.elim fun x0 h => h.elim fun x1 h => k x0 x1 h.1 h.2.1 h.2.2
theorem e2a4 {α0 : Type} {α1 : Type} {A0 A1 A2 A3 : α0 → α1 → Prop} {g : Prop} (h : ∃ x0 x1, A0 x0 x1 ∧ A1 x0 x1 ∧ A2 x0 x1 ∧ A3 x0 x1) (k : ∀ x0 x1, A0 x0 x1 → A1 x0 x1 → A2 x0 x1 → A3 x0 x1 → g) : g := h.elim fun x0 h => h.elim fun x1 h => k x0 x1 h.1 h.2.1 h.2.2.1 h.2.2.2
theorem e3a2 {α0 : Type} {α1 : Type} {α2 : Type} {A0 A1 : α0 → α1 → α2 → Prop} {g : Prop} (h : ∃ x0 x1 x2, A0 x0 x1 x2 ∧ A1 x0 x1 x2) (k : ∀ x0 x1 x2, A0 x0 x1 x2 → A1 x0 x1 x2 → g) : g := h.elim fun x0 h => h.elim fun x1 h => h.elim fun x2 h => k x0 x1 x2 h.1 h.2
theorem e3a3 {α0 : Type} {α1 : Type} {α2 : Type} {A0 A1 A2 : α0 → α1 → α2 → Prop} {g : Prop} (h : ∃ x0 x1 x2, A0 x0 x1 x2 ∧ A1 x0 x1 x2 ∧ A2 x0 x1 x2) (k : ∀ x0 x1 x2, A0 x0 x1 x2 → A1 x0 x1 x2 → A2 x0 x1 x2 → g) : g := h.elim fun x0 h => h.elim fun x1 h => h.elim fun x2 h => k x0 x1 x2 h.1 h.2.1 h.2.2
theorem e3a4 {α0 : Type} {α1 : Type} {α2 : Type} {A0 A1 A2 A3 : α0 → α1 → α2 → Prop} {g : Prop} (h : ∃ x0 x1 x2, A0 x0 x1 x2 ∧ A1 x0 x1 x2 ∧ A2 x0 x1 x2 ∧ A3 x0 x1 x2) (k : ∀ x0 x1 x2, A0 x0 x1 x2 → A1 x0 x1 x2 → A2 x0 x1 x2 → A3 x0 x1 x2 → g) : g := h.elim fun x0 h => h.elim fun x1 h => h.elim fun x2 h => k x0 x1 x2 h.1 h.2.1 h.2.2.1 h.2.2.2
theorem e3a6 {α0 : Type} {α1 : Type} {α2 : Type} {A0 A1 A2 A3 A4 A5 : α0 → α1 → α2 → Prop} {g : Prop} (h : ∃ x0 x1 x2, A0 x0 x1 x2 ∧ A1 x0 x1 x2 ∧ A2 x0 x1 x2 ∧ A3 x0 x1 x2 ∧ A4 x0 x1 x2 ∧ A5 x0 x1 x2) (k : ∀ x0 x1 x2, A0 x0 x1 x2 → A1 x0 x1 x2 → A2 x0 x1 x2 → A3 x0 x1 x2 → A4 x0 x1 x2 → A5 x0 x1 x2 → g) : g := h.elim fun x0 h => h.elim fun x1 h => h.elim fun x2 h => k x0 x1 x2 h.1 h.2.1 h.2.2.1 h.2.2.2.1 h.2.2.2.2.1 h.2.2.2.2.2
theorem e4a2 {α0 : Type} {α1 : Type} {α2 : Type} {α3 : Type} {A0 A1 : α0 → α1 → α2 → α3 → Prop} {g : Prop} (h : ∃ x0 x1 x2 x3, A0 x0 x1 x2 x3 ∧ A1 x0 x1 x2 x3) (k : ∀ x0 x1 x2 x3, A0 x0 x1 x2 x3 → A1 x0 x1 x2 x3 → g) : g := h.elim fun x0 h => h.elim fun x1 h => h.elim fun x2 h => h.elim fun x3 h => k x0 x1 x2 x3 h.1 h.2
theorem e4a6 {α0 : Type} {α1 : Type} {α2 : Type} {α3 : Type} {A0 A1 A2 A3 A4 A5 : α0 → α1 → α2 → α3 → Prop} {g : Prop} (h : ∃ x0 x1 x2 x3, A0 x0 x1 x2 x3 ∧ A1 x0 x1 x2 x3 ∧ A2 x0 x1 x2 x3 ∧ A3 x0 x1 x2 x3 ∧ A4 x0 x1 x2 x3 ∧ A5 x0 x1 x2 x3) (k : ∀ x0 x1 x2 x3, A0 x0 x1 x2 x3 → A1 x0 x1 x2 x3 → A2 x0 x1 x2 x3 → A3 x0 x1 x2 x3 → A4 x0 x1 x2 x3 → A5 x0 x1 x2 x3 → g) : g := h.elim fun x0 h => h.elim fun x1 h => h.elim fun x2 h => h.elim fun x3 h => k x0 x1 x2 x3 h.1 h.2.1 h.2.2.1 h.2.2.2.1 h.2.2.2.2.1 h.2.2.2.2.2
theorem e5a7 {α0 : Type} {α1 : Type} {α2 : Type} {α3 : Type} {α4 : Type} {A0 A1 A2 A3 A4 A5 A6 : α0 → α1 → α2 → α3 → α4 → Prop} {g : Prop} (h : ∃ x0 x1 x2 x3 x4, A0 x0 x1 x2 x3 x4 ∧ A1 x0 x1 x2 x3 x4 ∧ A2 x0 x1 x2 x3 x4 ∧ A3 x0 x1 x2 x3 x4 ∧ A4 x0 x1 x2 x3 x4 ∧ A5 x0 x1 x2 x3 x4 ∧ A6 x0 x1 x2 x3 x4) (k : ∀ x0 x1 x2 x3 x4, A0 x0 x1 x2 x3 x4 → A1 x0 x1 x2 x3 x4 → A2 x0 x1 x2 x3 x4 → A3 x0 x1 x2 x3 x4 → A4 x0 x1 x2 x3 x4 → A5 x0 x1 x2 x3 x4 → A6 x0 x1 x2 x3 x4 → g) : g := h.elim fun x0 h => h.elim fun x1 h => h.elim fun x2 h => h.elim fun x3 h => h.elim fun x4 h => k x0 x1 x2 x3 x4 h.1 h.2.1 h.2.2.1 h.2.2.2.1 h.2.2.2.2.1 h.2.2.2.2.2.1 h.2.2.2.2.2.2
end Mine

namespace Mine
open PySem PySem.W PySem.Calls PyProof.Rows
theorem no_some {α : Type} {r : α} {P : Prop} (h : some r = none) : P := (Option.some_ne_none r h).elim
theorem no_ft {P : Prop} (h : false = true) : P := (Bool.false_ne_true h).elim
theorem no_tf {P : Prop} (h : true = false) : P := (Bool.false_ne_true h.symm).elim
theorem no_mem {α : Type} {a : α} {P : Prop} (h : a ∈ ([] : List α)) : P := (List.not_mem_nil h).elim
theorem no_none {α : Type} {r : α} {P : Prop} (h : (none : Option α) = some r) : P := (Option.some_ne_none r h.symm).elim

inductive D where
  | none
  | bool (b : Bool)
  | int (i : Int)
  | str (s : List Nat)
  | bytes (b : List UInt8)
  | list (l : List D)
  | tup (l : List D)
  | inst (c : Addr) (fs : List (Str × D))
  | rng (a b c : Int)
  | val (v : Value)
  deriving Inhabited

/-! combinators -/
noncomputable abbrev o1 {α β : Type} (f : α → Option β) : Option α → Option β
  | some a => f a
  | none => none
noncomputable abbrev o2 {α β γ : Type} (f : α → β → Option γ) (x : Option α) (y : Option β) : Option γ := o1 (fun a => o1 (f a) y) x
noncomputable abbrev o3 {α β γ δ : Type} (f : α → β → γ → Option δ) (x : Option α) (y : Option β) (z : Option γ) : Option δ := o1 (fun a => o2 (f a) y z) x
theorem o1_inv {α β : Type} {f : α → Option β} {x : Option α} {r : β} (h : o1 f x = some r) : ∃ a, x = some a ∧ f a = some r := by
  induction x using Option.casesOn with
  | none => exact no_none h
  | some a => exact ⟨a, rfl, h⟩
theorem o2_inv {α β γ : Type} {f : α → β → Option γ} {x : Option α} {y : Option β} {r : γ} (h : o2 f x y = some r) : ∃ a b, x = some a ∧ y = some b ∧ f a b = some r := by
  refine e1a2 (o1_inv h) fun a e h => ?_
  refine e1a2 (o1_inv h) fun b e' h => ?_
  exact ⟨a, b, e, e', h⟩
theorem o3_inv {α β γ δ : Type} {f : α → β → γ → Option δ} {x : Option α} {y : Option β} {z : Option γ} {r : δ} (h : o3 f x y z = some r) : ∃ a b c, x = some a ∧ y = some b ∧ z = some c ∧ f a b c = some r := by
  refine e1a2 (o1_inv h) fun a e h => ?_
  refine e2a3 (o2_inv h) fun b c e' e'' h => ?_
  exact ⟨a, b, c, e, e', e'', h⟩
theorem oif_inv {α : Type} {c : Prop} [Decidable c] {x : Option α} {r : α} (h : (if c then x else none) = some r) : c ∧ x = some r := by
  by_cases k : c
  · rw [if_pos k] at h; exact ⟨k, h⟩
  · rw [if_neg k] at h; exact no_none h
theorem some_inv {α : Type} {a b : α} (h : some a = some b) : b = a := (Option.some.inj h).symm
theorem and_inv {a b : Bool} (h : (a && b) = true) : a = true ∧ b = true := Bool.and_eq_true_iff.mp h
theorem o1_e {α β : Type} {f : α → Option β} {x : Option α} {r : β} {g : Prop} (h : o1 f x = some r) (k : ∀ a, x = some a → f a = some r → g) : g := e1a2 (o1_inv h) k
theorem o2_e {α β γ : Type} {f : α → β → Option γ} {x : Option α} {y : Option β} {r : γ} {g : Prop} (h : o2 f x y = some r) (k : ∀ a b, x = some a → y = some b → f a b = some r → g) : g := e2a3 (o2_inv h) k
theorem o3_e {α β γ δ : Type} {f : α → β → γ → Option δ} {x : Option α} {y : Option β} {z : Option γ} {r : δ} {g : Prop} (h : o3 f x y z = some r) (k : ∀ a b c, x = some a → y = some b → z = some c → f a b c = some r → g) : g := e3a4 (o3_inv h) k
@[elab_as_elim] theorem some_e {α : Type} {P : α → Prop} {a b : α} (h : some a = some b) (k : P a) : P b := Option.some.inj h ▸ k
theorem oif_e {α : Type} {c : Prop} [Decidable c] {x : Option α} {r : α} {g : Prop} (h : (if c then x else none) = some r) (k : c → x = some r → g) : g := k (oif_inv h).1 (oif_inv h).2
theorem and_e {a b : Bool} {g : Prop} (h : (a && b) = true) (k : a = true → b = true → g) : g := k (and_inv h).1 (and_inv h).2
noncomputable def onE {α : Type} (d : α) (nm : Str → Pos → α) (tp : List Expr → Nat → Pos → α) (at' : Expr → Str → Pos → α) (sb : Expr → Expr → Pos → α) (cl : Expr → List Expr → List Keyword → Pos → α) : Expr → α
  | .Name x p => nm x p
  | .Tuple ts k p => tp ts k p
  | .Attribute o a p => at' o a p
  | .Subscript v i p => sb v i p
  | .Call f as ks p => cl f as ks p
  | _ => d
noncomputable def nameOf : Expr → Option Str := onE none (fun x _ => some x) (fun _ _ _ => none) (fun _ _ _ => none) (fun _ _ _ => none) (fun _ _ _ _ => none)
noncomputable def noE (k : Nat) (e : Expr) : Bool := !(Nat.beq e.ctorIdx k)
theorem nameOf_inv {e : Expr} {x : Str} (h : nameOf e = some x) : ∃ p, e = .Name x p := by
  induction e using PySem.Expr.casesOn <;> first | exact no_none h | exact ⟨_, by rw [some_inv h]⟩
noncomputable def tupD : D → Option (List D)
  | .tup ds => some ds
  | _ => none
theorem tupD_inv {d : D} {l : List D} (h : tupD d = some l) : d = .tup l := by
  induction d using Mine.D.casesOn <;> first | exact no_none h | rw [some_inv h]
noncomputable def intD : D → Option Int
  | .int i => some i
  | _ => none
theorem intD_inv {d : D} {i : Int} (h : intD d = some i) : d = .int i := by
  induction d using Mine.D.casesOn <;> first | exact no_none h | rw [some_inv h]
noncomputable def bytD : D → Option (List UInt8)
  | .bytes x => some x
  | _ => none
theorem bytD_inv {d : D} {x : List UInt8} (h : bytD d = some x) : d = .bytes x := by
  induction d using Mine.D.casesOn <;> first | exact no_none h | rw [some_inv h]
noncomputable def valD : D → Option Value
  | .val v => some v
  | _ => none
theorem valD_inv {d : D} {v : Value} (h : valD d = some v) : d = .val v := by
  induction d using Mine.D.casesOn <;> first | exact no_none h | rw [some_inv h]
noncomputable def strD : D → Option (List Nat)
  | .str x => some x
  | _ => none
theorem strD_inv {d : D} {x : List Nat} (h : strD d = some x) : d = .str x := by
  induction d using Mine.D.casesOn <;> first | exact no_none h | rw [some_inv h]
noncomputable def lstD : D → Option (List D)
  | .list x => some x
  | _ => none
theorem lstD_inv {d : D} {x : List D} (h : lstD d = some x) : d = .list x := by
  induction d using Mine.D.casesOn <;> first | exact no_none h | rw [some_inv h]
noncomputable abbrev Fz := Addr → Option Obj

noncomputable def lsO (vs : List Value) (n : Nat) : Obj := { cls := .type "list", data := .seq vs.toArray n }
noncomputable def tpO (vs : List Value) (n : Nat) : Obj := { cls := .type "tuple", data := .seq vs.toArray n }
noncomputable def rgO (a b c : Int) (t u v : Tok) : Obj := { cls := .type "range", data := .fields #[.int a t, .int b u, .int c v] }

mutual
inductive Rep (φ : Fz) : Value → D → Prop
  | none : Rep φ .none .none
  | bool (b : Bool) : Rep φ (.bool b) (.bool b)
  | int (i : Int) (t : Tok) : Rep φ (.int i t) (.int i)
  | str (l : List Nat) (t : Tok) : Rep φ (.str ⟨l.toArray⟩ t) (.str l)
  | bytes (l : List UInt8) (t : Tok) : Rep φ (.bytes l.toArray t) (.bytes l)
  | list {a : Addr} {vs : List Value} {n : Nat} {ds : List D} : φ a = some (lsO vs n) → RepL φ vs ds → Rep φ (.ref a) (.list ds)
  | tup {a : Addr} {vs : List Value} {n : Nat} {ds : List D} : φ a = some (tpO vs n) → RepL φ vs ds → Rep φ (.ref a) (.tup ds)
  | inst {x dx C : Addr} {es : List DictEntry} {n : Nat} {fs : List (Str × D)} : φ x = some (instObj C dx) → φ dx = some (dictOf es n) → RepF φ es fs → Rep φ (.ref x) (.inst C fs)
  | rng {r : Addr} {a b c : Int} {t u v : Tok} : φ r = some (rgO a b c t u v) → Rep φ (.ref r) (.rng a b c)
  | val (v : Value) : Rep φ v (.val v)
inductive RepL (φ : Fz) : List Value → List D → Prop
  | nil : RepL φ [] []
  | cons {v : Value} {vs : List Value} {d : D} {ds : List D} : Rep φ v d → RepL φ vs ds → RepL φ (v :: vs) (d :: ds)
inductive RepF (φ : Fz) : List DictEntry → List (Str × D) → Prop
  | nil : RepF φ [] []
  | cons {h : Int} {x : Str} {t : Tok} {v : Value} {es : List DictEntry} {d : D} {fs : List (Str × D)} : Rep φ v d → RepF φ es fs → RepF φ (⟨h, .str x t, v⟩ :: es) ((x, d) :: fs)
end

section
variable {φ φ' : Fz} (h : ∀ a o, φ a = some o → φ' a = some o)
include h
theorem Rep.mono {v : Value} {d : D} (r : Rep φ v d) : Rep φ' v d :=
  Rep.rec (motive_1 := fun v d _ => Rep φ' v d) (motive_2 := fun vs ds _ => RepL φ' vs ds) (motive_3 := fun es fs _ => RepF φ' es fs)
    .none (fun b => .bool b) (fun i t => .int i t) (fun l t => .str l t) (fun l t => .bytes l t) (fun e _ r => .list (h _ _ e) r) (fun e _ r => .tup (h _ _ e) r) (fun e f _ r => .inst (h _ _ e) (h _ _ f) r) (fun e => .rng (h _ _ e)) (fun v => .val v) .nil (fun _ _ x r => .cons x r) .nil (fun _ _ x r => .cons x r) r
theorem RepL.mono {vs : List Value} {ds : List D} (r : RepL φ vs ds) : RepL φ' vs ds :=
  RepL.rec (motive_1 := fun v d _ => Rep φ' v d) (motive_2 := fun vs ds _ => RepL φ' vs ds) (motive_3 := fun es fs _ => RepF φ' es fs)
    .none (fun b => .bool b) (fun i t => .int i t) (fun l t => .str l t) (fun l t => .bytes l t) (fun e _ r => .list (h _ _ e) r) (fun e _ r => .tup (h _ _ e) r) (fun e f _ r => .inst (h _ _ e) (h _ _ f) r) (fun e => .rng (h _ _ e)) (fun v => .val v) .nil (fun _ _ x r => .cons x r) .nil (fun _ _ x r => .cons x r) r
theorem RepF.mono {es : List DictEntry} {fs : List (Str × D)} (r : RepF φ es fs) : RepF φ' es fs :=
  RepF.rec (motive_1 := fun v d _ => Rep φ' v d) (motive_2 := fun vs ds _ => RepL φ' vs ds) (motive_3 := fun es fs _ => RepF φ' es fs)
    .none (fun b => .bool b) (fun i t => .int i t) (fun l t => .str l t) (fun l t => .bytes l t) (fun e _ r => .list (h _ _ e) r) (fun e _ r => .tup (h _ _ e) r) (fun e f _ r => .inst (h _ _ e) (h _ _ f) r) (fun e => .rng (h _ _ e)) (fun v => .val v) .nil (fun _ _ x r => .cons x r) .nil (fun _ _ x r => .cons x r) r
end

/-! what a datum says of its value -/
section
variable {φ : Fz} {v : Value}
noncomputable def RepI (φ : Fz) (v : Value) : D → Prop
  | .none => v = .none
  | .bool b => v = .bool b
  | .int i => ∃ t, v = .int i t
  | .str l => ∃ t, v = .str ⟨l.toArray⟩ t
  | .bytes l => ∃ t, v = .bytes l.toArray t
  | .list ds => ∃ a vs n, v = .ref a ∧ φ a = some (lsO vs n) ∧ RepL φ vs ds
  | .tup ds => ∃ a vs n, v = .ref a ∧ φ a = some (tpO vs n) ∧ RepL φ vs ds
  | .inst C fs => ∃ x dx es n, v = .ref x ∧ φ x = some (instObj C dx) ∧ φ dx = some (dictOf es n) ∧ RepF φ es fs
  | .rng a b c => ∃ r t u w, v = .ref r ∧ φ r = some (rgO a b c t u w)
  | .val w => v = w
set_option tactic.hygienic true in
theorem Rep.inv {d : D} (h : Rep φ v d) : RepI φ v d := by
  cases h
  case none => rfl
  case bool => rfl
  case int i t => exact ⟨t, rfl⟩
  case str l t => exact ⟨t, rfl⟩
  case bytes l t => exact ⟨t, rfl⟩
  case list e r => exact ⟨_, _, _, rfl, e, r⟩
  case tup e r => exact ⟨_, _, _, rfl, e, r⟩
  case inst e f r => exact ⟨_, _, _, _, rfl, e, f, r⟩
  case rng e => exact ⟨_, _, _, _, rfl, e⟩
  case val => rfl
theorem Rep.iNone (h : Rep φ v .none) : v = .none := h.inv
theorem Rep.iBool {b : Bool} (h : Rep φ v (.bool b)) : v = .bool b := h.inv
theorem Rep.iInt {i : Int} (h : Rep φ v (.int i)) : ∃ t, v = .int i t := h.inv
theorem Rep.iStr {l : List Nat} (h : Rep φ v (.str l)) : ∃ t, v = .str ⟨l.toArray⟩ t := h.inv
theorem Rep.iBytes {l : List UInt8} (h : Rep φ v (.bytes l)) : ∃ t, v = .bytes l.toArray t := h.inv
theorem Rep.iVal {w : Value} (h : Rep φ v (.val w)) : v = w := h.inv
theorem Rep.iList {ds : List D} (h : Rep φ v (.list ds)) : ∃ a vs n, v = .ref a ∧ φ a = some (lsO vs n) ∧ RepL φ vs ds := h.inv
theorem Rep.iTup {ds : List D} (h : Rep φ v (.tup ds)) : ∃ a vs n, v = .ref a ∧ φ a = some (tpO vs n) ∧ RepL φ vs ds := h.inv
theorem Rep.iInst {C : Addr} {fs : List (Str × D)} (h : Rep φ v (.inst C fs)) : ∃ x dx es n, v = .ref x ∧ φ x = some (instObj C dx) ∧ φ dx = some (dictOf es n) ∧ RepF φ es fs := h.inv
theorem Rep.iRng {a b c : Int} (h : Rep φ v (.rng a b c)) : ∃ r t u w, v = .ref r ∧ φ r = some (rgO a b c t u w) := h.inv
theorem RepL.iNil {vs : List Value} (h : RepL φ vs []) : vs = [] := by cases h; rfl
theorem RepL.iCons {vs : List Value} {d : D} {ds : List D} (h : RepL φ vs (d :: ds)) : ∃ v ws, vs = v :: ws ∧ Rep φ v d ∧ RepL φ ws ds := by cases h with | cons r rs => exact ⟨_, _, rfl, r, rs⟩
end

section
variable {φ : Fz} {v : Value} {P : Value → Prop}
@[elab_as_elim] theorem Rep.sInt {i : Int} (h : Rep φ v (.int i)) (k : ∀ t, P (.int i t)) : P v := h.iInt.elim fun t e => e ▸ k t
@[elab_as_elim] theorem Rep.sStr {l : List Nat} (h : Rep φ v (.str l)) (k : ∀ t, P (.str ⟨l.toArray⟩ t)) : P v := h.iStr.elim fun t e => e ▸ k t
@[elab_as_elim] theorem Rep.sBytes {l : List UInt8} (h : Rep φ v (.bytes l)) (k : ∀ t, P (.bytes l.toArray t)) : P v := h.iBytes.elim fun t e => e ▸ k t
@[elab_as_elim] theorem Rep.sList {ds : List D} (h : Rep φ v (.list ds)) (k : ∀ a vs n, φ a = some (lsO vs n) → RepL φ vs ds → P (.ref a)) : P v := e3a3 h.iList fun a vs n e f r => e ▸ k a vs n f r
@[elab_as_elim] theorem Rep.sTup {ds : List D} (h : Rep φ v (.tup ds)) (k : ∀ a vs n, φ a = some (tpO vs n) → RepL φ vs ds → P (.ref a)) : P v := e3a3 h.iTup fun a vs n e f r => e ▸ k a vs n f r
@[elab_as_elim] theorem RepL.sCons {P : List Value → Prop} {vs : List Value} {d : D} {ds : List D} (h : RepL φ vs (d :: ds)) (k : ∀ v ws, Rep φ v d → RepL φ ws ds → P (v :: ws)) : P vs := e2a3 h.iCons fun v ws e f r => e ▸ k v ws f r
theorem RepL.jNil {ds : List D} (h : RepL φ [] ds) : ds = [] := by cases h; rfl
theorem RepL.jCons {vs : List Value} {ds : List D} (h : RepL φ (v :: vs) ds) : ∃ d es, ds = d :: es ∧ Rep φ v d ∧ RepL φ vs es := by cases h with | cons r rs => exact ⟨_, _, rfl, r, rs⟩
@[elab_as_elim] theorem RepL.uNil {P : List D → Prop} {ds : List D} (h : RepL φ [] ds) (k : P []) : P ds := h.jNil ▸ k
@[elab_as_elim] theorem RepL.uCons {P : List D → Prop} {vs : List Value} {ds : List D} (h : RepL φ (v :: vs) ds) (k : ∀ d es, Rep φ v d → RepL φ vs es → P (d :: es)) : P ds := e2a3 h.jCons fun d es e f r => e ▸ k d es f r
end

section
variable {φ : Fz} {v w : Value} {d e : D} {vs ws : List Value} {ds es : List D}
theorem RepL.length (h : RepL φ vs ds) : vs.length = ds.length := by
  induction vs generalizing ds with
  | nil => exact h.uNil rfl
  | cons v vs ih => exact h.uCons fun _ _ _ r => congrArg Nat.succ (ih r)
theorem RepL.append (h : RepL φ vs ds) (k : RepL φ ws es) : RepL φ (vs ++ ws) (ds ++ es) := by
  induction vs generalizing ds with
  | nil => exact h.uNil k
  | cons v vs ih => exact h.uCons fun _ _ x r => .cons x (ih r)
theorem RepL.get (h : RepL φ vs ds) {k : Nat} {d : D} (e : ds[k]? = some d) : ∃ v, vs[k]? = some v ∧ Rep φ v d := by
  induction ds generalizing vs k with
  | nil => exact no_none (List.getElem?_nil.symm.trans e)
  | cons x xs ih =>
    refine h.sCons fun v ws r rs => ?_
    induction k using Nat.casesAuxOn with
    | zero => exact ⟨v, rfl, Option.some.inj e ▸ r⟩
    | succ k => exact ih rs e
theorem RepL.getV (h : RepL φ vs ds) {k : Nat} {v : Value} (e : vs[k]? = some v) : ∃ d, ds[k]? = some d ∧ Rep φ v d := by
  induction vs generalizing ds k with
  | nil => exact no_none (List.getElem?_nil.symm.trans e)
  | cons x xs ih =>
    refine h.uCons fun d es r rs => ?_
    induction k using Nat.casesAuxOn with
    | zero => exact ⟨d, rfl, Option.some.inj e ▸ r⟩
    | succ k => exact ih rs e
theorem RepL.take (h : RepL φ vs ds) (k : Nat) : RepL φ (vs.take k) (ds.take k) := by
  induction vs generalizing ds k with
  | nil => refine h.uNil ?_; rw [List.take_nil, List.take_nil]; exact .nil
  | cons v vs ih =>
    refine h.uCons fun d es r rs => ?_
    induction k using Nat.casesAuxOn with
    | zero => exact .nil
    | succ k => exact .cons r (ih rs k)
theorem RepL.drop (h : RepL φ vs ds) (k : Nat) : RepL φ (vs.drop k) (ds.drop k) := by
  induction vs generalizing ds k with
  | nil => refine h.uNil ?_; rw [List.drop_nil, List.drop_nil]; exact .nil
  | cons v vs ih =>
    refine h.uCons fun d es r rs => ?_
    induction k using Nat.casesAuxOn with
    | zero => exact .cons r rs
    | succ k => exact ih rs k
theorem RepL.reverse (h : RepL φ vs ds) : RepL φ vs.reverse ds.reverse := by
  induction vs generalizing ds with
  | nil => exact h.uNil .nil
  | cons v vs ih => refine h.uCons fun d es r rs => ?_; rw [List.reverse_cons, List.reverse_cons]; exact (ih rs).append (.cons r .nil)
theorem RepL.set (h : RepL φ vs ds) (k : Nat) (x : Rep φ v d) : RepL φ (vs.set k v) (ds.set k d) := by
  induction vs generalizing ds k with
  | nil => exact h.uNil .nil
  | cons w vs ih =>
    refine h.uCons fun d' es r rs => ?_
    induction k using Nat.casesAuxOn with
    | zero => exact .cons x rs
    | succ k => exact .cons r (ih rs k)
theorem RepL.one (h : Rep φ v d) : RepL φ [v] [d] := .cons h .nil
end

structure Step (φ : Fz) (s : Shared) (φ' : Fz) (s' : Shared) : Prop where
  eq : ∃ h' tk, s' = { s with heap := h', toks := tk }
  ext : ∀ b o, s.heap.get? b = some o → s'.heap.get? b = some o
  up : ∀ a o, φ a = some o → φ' a = some o
  new : ∀ a o, φ' a = some o → φ a = some o ∨ s.heap.get? a = none
  fin : ∀ a o, φ' a = some o → s'.heap.get? a = some o

theorem none_of_ext {h h' : Heap} (e : ∀ b o, h.get? b = some o → h'.get? b = some o) {a : Addr} (n : h'.get? a = none) : h.get? a = none := by
  generalize q : h.get? a = r_; induction r_ using Option.casesOn with
  | none => rfl
  | some o => rw [e a o q] at n; exact no_some n

section
variable {φ φ₁ φ₂ : Fz} {s s₁ s₂ : Shared}
theorem Step.refl (fin : ∀ a o, φ a = some o → s.heap.get? a = some o) : Step φ s φ s := ⟨⟨s.heap, s.toks, rfl⟩, fun _ _ e => e, fun _ _ e => e, fun _ _ e => .inl e, fin⟩
theorem Step.trans (x : Step φ s φ₁ s₁) (y : Step φ₁ s₁ φ₂ s₂) : Step φ s φ₂ s₂ := by
  refine e2a1 (x.eq) fun h1 t1 e1 => ?_
  refine e2a1 (y.eq) fun h2 t2 e2 => ?_
  refine ⟨⟨h2, t2, by rw [e2, e1]⟩, fun b o e => y.ext b o (x.ext b o e), fun a o e => y.up a o (x.up a o e), fun a o e => ?_, y.fin⟩
  rcases y.new a o e with q | q
  · exact x.new a o q
  · exact .inr (none_of_ext x.ext q)
theorem Step.toks (fin : ∀ a o, φ a = some o → s.heap.get? a = some o) (k : Nat) : Step φ s φ { s with toks := k } := ⟨⟨s.heap, k, rfl⟩, fun _ _ e => e, fun _ _ e => e, fun _ _ e => .inl e, fin⟩
theorem Step.heap (fin : ∀ a o, φ a = some o → s.heap.get? a = some o) {h' : Heap} {tk : Nat} (ext : ∀ b o, s.heap.get? b = some o → h'.get? b = some o) : Step φ s φ { s with heap := h', toks := tk } :=
  ⟨⟨h', tk, rfl⟩, ext, fun _ _ e => e, fun _ _ e => .inl e, fun a o e => ext _ _ (fin a o e)⟩
end

noncomputable def Fz.put (φ : Fz) (a : Addr) (o : Obj) : Fz := fun b => if b = a then some o else φ b
theorem Fz.put_self (φ : Fz) (a : Addr) (o : Obj) : φ.put a o a = some o := by simp [Fz.put]
theorem Fz.put_ne (φ : Fz) {a b : Addr} (o : Obj) (h : b ≠ a) : φ.put a o b = φ b := by simp [Fz.put, h]
theorem Fz.put_inv {φ : Fz} {a b : Addr} {o p : Obj} {g : Prop} (q : φ.put a o b = some p) (k1 : b = a → o = p → g) (k2 : φ b = some p → g) : g := by
  by_cases z : b = a
  · refine k1 z (Option.some.inj (Eq.trans ?_ q)); rw [z, Fz.put_self]
  · exact k2 ((Fz.put_ne φ o z).symm.trans q)

theorem Step.freeze {φ φ₁ : Fz} {s s₁ : Shared} {a : Addr} {o : Obj} (x : Step φ s φ₁ s₁) (n : s.heap.get? a = none) (h : s₁.heap.get? a = some o) (f : φ₁ a = none) : Step φ s (φ₁.put a o) s₁ := by
  refine ⟨x.eq, x.ext, fun b p e => ?_, fun b p e => ?_, fun b p e => ?_⟩
  · by_cases q : b = a
    · subst q; rw [x.up _ _ e] at f; exact no_some f
    · rw [Fz.put_ne _ _ q]; exact x.up b p e
  · exact Fz.put_inv e (fun z _ => .inr (z ▸ n)) (x.new b p)
  · exact Fz.put_inv e (fun z w => z ▸ w ▸ h) (x.fin b p)
theorem Fz.put_up {φ : Fz} {a : Addr} {o : Obj} (f : φ a = none) : ∀ b p, φ b = some p → φ.put a o b = some p := fun b p e => by
  by_cases q : b = a
  · subst q; rw [e] at f; exact no_some f
  · rw [Fz.put_ne _ _ q]; exact e

noncomputable def EP (φ : Fz) (s : Shared) (d : D) (v : Value) (s' : Shared) : Prop := ∃ φ', Step φ s φ' s' ∧ Rep φ' v d
noncomputable def EPL (φ : Fz) (s : Shared) (l : List D) (v : Value) (s' : Shared) : Prop :=
  ∃ φ' a n vs, Step φ s φ' s' ∧ v = .ref a ∧ s'.heap.get? a = some (lsO vs n) ∧ RepL φ' vs l ∧ φ' a = none ∧ s.heap.get? a = none
noncomputable def EPs (φ : Fz) (s : Shared) (ds : List D) (vs : List Value) (s' : Shared) : Prop := ∃ φ', Step φ s φ' s' ∧ RepL φ' vs ds
theorem EP.after {φ φ₁ : Fz} {s s₁ s₂ : Shared} {d : D} {v : Value} (x : Step φ s φ₁ s₁) (y : EP φ₁ s₁ d v s₂) : EP φ s d v s₂ := e1a2 y fun φ' z r => ⟨φ', x.trans z, r⟩
theorem EPs.after {φ φ₁ : Fz} {s s₁ s₂ : Shared} {d : List D} {v : List Value} (x : Step φ s φ₁ s₁) (y : EPs φ₁ s₁ d v s₂) : EPs φ s d v s₂ := e1a2 y fun φ' z r => ⟨φ', x.trans z, r⟩
theorem EPL.after {φ φ₁ : Fz} {s s₁ s₂ : Shared} {d : List D} {v : Value} (x : Step φ s φ₁ s₁) (y : EPL φ₁ s₁ d v s₂) : EPL φ s d v s₂ :=
  e4a6 y fun φ' a n vs z e g r f k => ⟨φ', a, n, vs, x.trans z, e, g, r, f, none_of_ext x.ext k⟩
theorem EPL.ep {φ : Fz} {s s' : Shared} {l : List D} {v : Value} (x : EPL φ s l v s') : EP φ s (.list l) v s' := by
  refine e4a6 (x) fun φ' a n vs z rr5 g r f k => ?_
  subst rr5
  exact ⟨φ'.put a (lsO vs n), z.freeze k g f, .list (Fz.put_self ..) (r.mono (Fz.put_up f))⟩
theorem EP.pure {φ : Fz} {s : Shared} {d : D} {v : Value} (fin : ∀ a o, φ a = some o → s.heap.get? a = some o) (r : Rep φ v d) : EP φ s d v s := ⟨φ, .refl fin, r⟩
theorem EP.tk {φ : Fz} {s : Shared} {d : D} {v : Value} {k : Nat} (fin : ∀ a o, φ a = some o → s.heap.get? a = some o) (r : Rep φ v d) : EP φ s d v { s with toks := k } := ⟨φ, .toks fin k, r⟩

theorem get_size_none (h : Heap) : h.get? h.objs.size = none := by
  generalize q : h.get? h.objs.size = r_; induction r_ using Option.casesOn with
  | none => rfl
  | some o => exact absurd (Heap.lt_size q) (Nat.lt_irrefl _)
theorem Step.push {φ : Fz} {s : Shared} (fin : ∀ a o, φ a = some o → s.heap.get? a = some o) (o : Obj) (tk : Nat) : Step φ s φ { s with heap := s.heap.push o, toks := tk } :=
  .heap fin fun _ _ e => Heap.get?_push_of_some _ e
theorem fz_size {φ : Fz} {h : Heap} (fin : ∀ a o, φ a = some o → h.get? a = some o) : φ h.objs.size = none := by
  generalize q : φ h.objs.size = r_; induction r_ using Option.casesOn with
  | none => rfl
  | some o => have := fin _ _ q; rw [get_size_none] at this; exact no_none this
end Mine

namespace Mine
open PySem PySem.W PySem.Calls PyProof.Rows PySem.SeqAt

/-! equality -/
noncomputable def eqLD (f : D → D → Option Bool) : List D → List D → Option Bool
  | [], [] => some true
  | x :: xs, y :: ys => o2 (fun a b => some (a && b)) (f x y) (eqLD f xs ys)
  | [], _ :: _ => some false
  | _ :: _, [] => some false
noncomputable def nonD : D → Option Unit
  | .none => some ()
  | _ => none
theorem nonD_inv {d : D} {u : Unit} (h : nonD d = some u) : d = .none := by
  induction d using Mine.D.casesOn <;> first | exact no_none h | rfl
noncomputable def booD : D → Option Bool
  | .bool b => some b
  | _ => none
theorem booD_inv {d : D} {b : Bool} (h : booD d = some b) : d = .bool b := by
  induction d using Mine.D.casesOn <;> first | exact no_none h | rw [some_inv h]
noncomputable def eqD : Nat → D → D → Option Bool
  | 0, _, _ => none
  | n + 1, d, e => match d with
    | .none => o1 (fun _ => some true) (nonD e)
    | .bool a => o1 (fun b => some (a == b)) (booD e)
    | .int a => o1 (fun b => some (decide (a = b))) (intD e)
    | .str a => o1 (fun b => some (decide (a = b))) (strD e)
    | .bytes a => o1 (fun b => some (decide (a = b))) (bytD e)
    | .list a => o1 (fun b => if a.length = b.length then eqLD (eqD n) a b else some false) (lstD e)
    | .tup a => o1 (fun b => eqLD (eqD n) a b) (tupD e)
    | _ => none

theorem Rep.listOf {φ : Fz} {a : Addr} {ds : List D} (h : Rep φ (.ref a) (.list ds)) : ∃ vs n, φ a = some (lsO vs n) ∧ RepL φ vs ds := by
  cases h with | list e r => exact ⟨_, _, e, r⟩
theorem lsO_inj {vs ws : List Value} {n m : Nat} (h : some (lsO vs n) = some (lsO ws m)) : vs = ws := by
  simp [lsO] at h; exact h.1
theorem tpO_inj {vs ws : List Value} {n m : Nat} (h : some (tpO vs n) = some (tpO ws m)) : vs = ws := by
  simp [tpO] at h; exact h.1
theorem lsO_isList {h : Heap} {a : Addr} {vs : List Value} {n : Nat} (e : h.get? a = some (lsO vs n)) : h.IsList a vs.toArray := ⟨_, e, rfl, n, rfl⟩
theorem tpO_isTuple {h : Heap} {a : Addr} {vs : List Value} {n : Nat} (e : h.get? a = some (tpO vs n)) : h.IsTuple a vs.toArray := ⟨_, e, rfl, n, rfl⟩

theorem eqLD_inv {f : D → D → Option Bool} {x y : D} {xs ys : List D} {r : Bool} (h : eqLD f (x :: xs) (y :: ys) = some r) : ∃ a b, f x y = some a ∧ eqLD f xs ys = some b ∧ r = (a && b) := by
  refine o2_e h fun a b h1 h2 h => ?_
  exact ⟨a, b, h1, h2, some_inv h⟩
theorem eqLD_same {φ : Fz} {f : D → D → Option Bool} (hf : ∀ v d e r, Rep φ v d → Rep φ v e → f d e = some r → r = true) {vs : List Value} {ds es : List D} {r : Bool} (x : RepL φ vs ds) (y : RepL φ vs es) (h : eqLD f ds es = some r) : r = true := by
  induction ds generalizing vs es r with
  | nil => have qq := x.iNil; subst qq; induction es using List.casesOn with
    | nil => exact some_inv h
    | cons e es => obtain ⟨_, _, e, _⟩ := y.iCons; cases e
  | cons d ds ih =>
    refine e2a3 (x.iCons) fun v ws rr2 x1 x2 => ?_
    subst rr2
    induction es using List.casesOn with
    | nil => cases y.iNil
    | cons e es =>
      refine e2a3 (y.iCons) fun _ _ q y1 y2 => ?_
      cases q
      refine e2a3 (eqLD_inv h) fun a b h1 h2 rr4 => ?_
      subst rr4
      rw [hf _ _ _ _ x1 y1 h1, ih x2 y2 h2]; rfl
set_option tactic.hygienic true in
theorem eqD_same {φ : Fz} {n : Nat} {v : Value} {d e : D} {r : Bool} (x : Rep φ v d) (y : Rep φ v e) (h : eqD n d e = some r) : r = true := by
  induction n generalizing v d e r with
  | zero => exact no_none h
  | succ n ih =>
    induction d using Mine.D.casesOn <;> first | exact no_none h | skip
    case none => refine o1_e h fun _ _ h => ?_; exact some_inv h
    case bool a =>
      refine o1_e h fun b hb g => ?_
      have qq := booD_inv hb; subst qq
      have q := x.iBool.symm.trans y.iBool
      cases q
      refine some_e g ?_; exact beq_self_eq_true a
    case int a =>
      refine o1_e h fun b hb g => ?_
      have qq := intD_inv hb; subst qq
      refine e1a1 (x.iInt) fun t rr1 => ?_
      subst rr1
      refine e1a1 (y.iInt) fun u q => ?_
      cases q
      rw [some_inv g]; exact decide_eq_true rfl
    case str a =>
      refine o1_e h fun b hb g => ?_
      have qq := strD_inv hb; subst qq
      refine e1a1 (x.iStr) fun t rr1 => ?_
      subst rr1
      refine e1a1 (y.iStr) fun u q => ?_
      cases q
      rw [some_inv g]; exact decide_eq_true rfl
    case bytes a =>
      refine o1_e h fun b hb g => ?_
      have qq := bytD_inv hb; subst qq
      refine e1a1 (x.iBytes) fun t rr1 => ?_
      subst rr1
      refine e1a1 (y.iBytes) fun u q => ?_
      cases q
      rw [some_inv g]; exact decide_eq_true rfl
    case list a =>
      refine o1_e h fun b hb g => ?_
      have qq := lstD_inv hb; subst qq
      refine e3a3 (x.iList) fun p vs k rr3 e1 r1 => ?_
      subst rr3
      refine e3a3 (y.iList) fun p' ws k' q e2 r2 => ?_
      cases q
      have qq := lsO_inj (e1.symm.trans e2); subst qq
      rw [if_pos (r1.length.symm.trans r2.length)] at g
      exact eqLD_same (fun v d e r x y h => ih x y h) r1 r2 g
    case tup a =>
      refine o1_e h fun b hb g => ?_
      have qq := tupD_inv hb; subst qq
      refine e3a3 (x.iTup) fun p vs k rr3 e1 r1 => ?_
      subst rr3
      refine e3a3 (y.iTup) fun p' ws k' q e2 r2 => ?_
      cases q
      have qq := tpO_inj (e1.symm.trans e2); subst qq
      exact eqLD_same (fun v d e r x y h => ih x y h) r1 r2 g

theorem eqLD_range (f : D → D → Option Bool) {xs ys : List D} {r : Bool} (h : eqLD f xs ys = some r) : ∃ e : Nat → Bool, (∀ j x y, xs[j]? = some x → ys[j]? = some y → f x y = some (e j)) ∧
    r = ((List.range (min xs.length ys.length)).all e && xs.length == ys.length) := by
  induction xs generalizing ys r with
  | nil => induction ys using List.casesOn with
    | nil => exact ⟨fun _ => true, (fun j x y h1 => no_none h1), some_inv h⟩
    | cons y ys => exact ⟨fun _ => true, (fun j x y h1 => no_none h1), by refine some_e h ?_; rw [List.length_nil, Nat.zero_min]; rfl⟩
  | cons x xs ih => induction ys using List.casesOn with
    | nil => exact ⟨fun _ => true, (fun j x y _ h1 => no_none h1), by refine some_e h ?_; rw [List.length_nil, Nat.min_zero]; rfl⟩
    | cons y ys =>
      refine e2a3 (eqLD_inv h) fun a b h1 h2 rr4 => ?_
      subst rr4
      refine e1a2 (ih h2) fun e he rr2 => ?_
      subst rr2
      refine ⟨fun j => match j with | 0 => a | k + 1 => e k, fun j x' y' p q => ?_, ?_⟩
      · induction j using Nat.casesAuxOn with
        | zero => cases p; cases q; exact h1
        | succ k => exact he k x' y' p q
      · rw [List.length_cons, List.length_cons, Nat.succ_min_succ, List.range_succ_eq_map, List.all_cons, List.all_map, Bool.and_assoc, show (xs.length.succ == ys.length.succ) = (xs.length == ys.length) from Bool.eq_iff_iff.mpr (beq_iff_eq.trans (Nat.succ_inj.trans beq_iff_eq.symm))]
        rfl

section
variable {φ : Fz} {A : Around} {s : Shared}
theorem str_beq (a b : List Nat) : ((⟨a.toArray⟩ : Str) == ⟨b.toArray⟩) = decide (a = b) := by
  rw [Bool.eq_iff_iff]; simp
theorem int_beq (a b : Int) : (a == b) = decide (a = b) := by rw [Bool.eq_iff_iff]; simp
structure CmpK (A : Around) (s : Shared) (K : Value → Value → Bool → Prop) : Prop where
  non : K .none .none true
  boo : ∀ a b, K (.bool a) (.bool b) (a == b)
  int : ∀ a b t u, K (.int a t) (.int b u) (a == b)
  str : ∀ (a b : Str) t u, K (.str a t) (.str b u) (a == b)
  byt : ∀ (a b : List UInt8) t u, K (.bytes a.toArray t) (.bytes b.toArray u) (decide (a = b))
  lst : ∀ {a b : Addr} {is js : Array Value} {e : Nat → Bool}, s.heap.IsList a is → s.heap.IsList b js → is.size = js.size → (∀ j (h1 : j < is.size) (h2 : j < js.size), EqAt A.in1 s is[j] js[j] (e j)) → K (.ref a) (.ref b) ((List.range is.size).all e)
  lsn : ∀ {a b : Addr} {is js : Array Value}, s.heap.IsList a is → s.heap.IsList b js → (is.size != js.size) = true → K (.ref a) (.ref b) false
  tup : ∀ {a b : Addr} {is js : Array Value} {e : Nat → Bool}, s.heap.IsTuple a is → s.heap.IsTuple b js → (∀ j (h1 : j < is.size) (h2 : j < js.size), EqAt A.in1 s is[j] js[j] (e j)) → K (.ref a) (.ref b) ((List.range (min is.size js.size)).all e && is.size == js.size)
theorem elems {K : Value → Value → Bool → Prop} {vs ws : List Value} {ds es : List D} {f : D → D → Option Bool} {g : Nat → Bool} (r1 : RepL φ vs ds) (r2 : RepL φ ws es) (hg : ∀ j x y, ds[j]? = some x → es[j]? = some y → f x y = some (g j)) (ih : ∀ {v w d e r}, Rep φ v d → Rep φ w e → f d e = some r → K v w r)
    (j : Nat) (j1 : j < vs.toArray.size) (j2 : j < ws.toArray.size) : K vs.toArray[j] ws.toArray[j] (g j) := by
  refine e1a2 (r1.getV (List.getElem?_eq_getElem (l := vs) j1)) fun x hx rx => ?_
  refine e1a2 (r2.getV (List.getElem?_eq_getElem (l := ws) j2)) fun y hy ry => ?_
  exact ih rx ry (hg j x y hx hy)
set_option tactic.hygienic true in
theorem eqK (fin : ∀ a o, φ a = some o → s.heap.get? a = some o) {K : Value → Value → Bool → Prop} (C : CmpK A s K) {n : Nat} (ih : ∀ {v w d e r}, Rep φ v d → Rep φ w e → eqD n d e = some r → EqAt A.in1 s v w r)
    {v w : Value} {d e : D} {r : Bool} (x : Rep φ v d) (y : Rep φ w e) (h : eqD (n + 1) d e = some r) : K v w r := by
  induction d using Mine.D.casesOn <;> first | exact no_none h | skip
  case none =>
    refine o1_e h fun _ hb g => ?_
    have qq := nonD_inv hb; subst qq
    rw [x.iNone, y.iNone, some_inv g]; exact C.non
  case bool a =>
    refine o1_e h fun b hb g => ?_
    have qq := booD_inv hb; subst qq
    rw [x.iBool, y.iBool, some_inv g]; exact C.boo a b
  case int a =>
    refine o1_e h fun b hb g => ?_
    have qq := intD_inv hb; subst qq
    refine x.sInt fun t => ?_
    refine y.sInt fun u => ?_
    refine some_e g ?_; rw [← int_beq]; exact C.int a b t u
  case str a =>
    refine o1_e h fun b hb g => ?_
    have qq := strD_inv hb; subst qq
    refine x.sStr fun t => ?_
    refine y.sStr fun u => ?_
    refine some_e g ?_; rw [← str_beq]; exact C.str _ _ t u
  case bytes a =>
    refine o1_e h fun b hb g => ?_
    have qq := bytD_inv hb; subst qq
    refine x.sBytes fun t => ?_
    refine y.sBytes fun u => ?_
    refine some_e g ?_; exact C.byt a b t u
  case list a =>
    refine o1_e h fun b hb g => ?_
    have qq := lstD_inv hb; subst qq
    refine x.sList fun p vs k e1 r1 => ?_
    refine y.sList fun p' ws k' e2 r2 => ?_
    have h1 := lsO_isList (fin _ _ e1)
    have h2 := lsO_isList (fin _ _ e2)
    have s1 : vs.toArray.size = a.length := r1.length
    have s2 : ws.toArray.size = b.length := r2.length
    by_cases hl : a.length = b.length
    · rw [if_pos hl] at g
      refine e1a2 (eqLD_range _ g) fun f hf hr => ?_
      rw [hl, Nat.min_self, beq_self_eq_true, Bool.and_true, ← hl, ← s1] at hr
      rw [hr]
      exact C.lst h1 h2 (s1.trans (hl.trans s2.symm)) (elems r1 r2 hf ih)
    · rw [if_neg hl] at g
      refine some_e g ?_
      exact C.lsn h1 h2 (bne_iff_ne.mpr (by rw [s1, s2]; exact hl))
  case tup a =>
    refine o1_e h fun b hb g => ?_
    have qq := tupD_inv hb; subst qq
    refine x.sTup fun p vs k e1 r1 => ?_
    refine y.sTup fun p' ws k' e2 r2 => ?_
    refine e1a2 (eqLD_range _ g) fun f hf hr => ?_
    have s1 : vs.toArray.size = a.length := r1.length
    have s2 : ws.toArray.size = b.length := r2.length
    rw [← s1, ← s2] at hr
    rw [hr]
    exact C.tup (tpO_isTuple (fin _ _ e1)) (tpO_isTuple (fin _ _ e2)) (elems r1 r2 hf ih)
theorem cmpEq (hu : A.units < cLine) : CmpK A s (RcAt A s) where
  non := RcAt.none_none
  boo := RcAt.bool_bool
  int := fun a b t u => RcAt.int_int a t b u
  str := fun a b t u => RcAt.str_str a t b u
  byt := fun a b t u prog w E Q q => eq_bytes (by rw [show (a.toArray.toList == b.toArray.toList) = decide (a = b) from Bool.beq_eq_decide_eq _ _]; exact q)
  lst := fun h1 h2 hs he => RcAt.lists h1 h2 hs hu he
  lsn := fun h1 h2 hs => RcAt.lists_lengths h1 h2 hs hu
  tup := fun h1 h2 he => RcAt.tuples h1 h2 hu he
theorem cmpNe (hu : A.units < cLine) : CmpK A s (fun v w r => RcNeAt A s v w (!r)) where
  non := RcNeAt.none_none
  boo := RcNeAt.bool_bool
  int := fun a b t u => RcNeAt.int_int a t b u
  str := fun a b t u => RcNeAt.str_str a t b u
  byt := fun a b t u prog w E Q q => ne_bytes (by rw [show (a.toArray.toList != b.toArray.toList) = !decide (a = b) from congrArg (!·) (Bool.beq_eq_decide_eq a b)]; exact q)
  lst := fun h1 h2 hs he => RcNeAt.lists h1 h2 hs hu he
  lsn := fun h1 h2 hs => RcNeAt.lists_lengths h1 h2 hs hu
  tup := fun h1 h2 he => RcNeAt.tuples h1 h2 hu he
theorem refs_at {a b : Addr} {r : Bool} (h : RcAt A s (.ref a) (.ref b) r) (hr : Value.ref a = .ref b → r = true) : EqAt A s (.ref a) (.ref b) r := by
  by_cases q : a = b
  · subst q; rw [hr rfl]; exact EqAt.same _
  · exact EqAt.of_refs q h
theorem cmpAt (hu : A.units < cLine) : CmpK A s (fun v w r => (v = w → r = true) → EqAt A s v w r) where
  non := fun _ => EqAt.same _
  boo := fun a b _ => EqAt.bool_bool a b
  int := fun a b t u _ => EqAt.int_int a t b u
  str := fun a b t u _ => EqAt.str_str a t b u
  byt := fun a b t u _ prog w E Q hq => eqBool_bytes hq
  lst := fun h1 h2 hs he => refs_at ((cmpEq hu).lst h1 h2 hs he)
  lsn := fun h1 h2 hs => refs_at ((cmpEq hu).lsn h1 h2 hs)
  tup := fun h1 h2 he => refs_at ((cmpEq hu).tup h1 h2 he)
theorem eqAt (fin : ∀ a o, φ a = some o → s.heap.get? a = some o) {n : Nat} {A : Around} {v w : Value} {d e : D} {r : Bool} (x : Rep φ v d) (y : Rep φ w e) (h : eqD n d e = some r) (hu : A.units + n < cLine) : EqAt A s v w r := by
  induction n generalizing A v w d e r with
  | zero => exact no_none h
  | succ n ih => exact eqK fin (cmpAt (Nat.lt_of_le_of_lt (Nat.le_add_right _ _) hu)) (fun x y h => ih x y h (by rw [Around.in1_units]; lia)) x y h fun q => eqD_same x (q ▸ y) h

theorem compareEq (fin : ∀ a o, φ a = some o → s.heap.get? a = some o) {n : Nat} {v w : Value} {d e : D} {r : Bool} {prog : Program} {wd : World} {E : Value → Shared → Prop} {Q : Value → Shared → Prop}
    (x : Rep φ v d) (y : Rep φ w e) (h : eqD (n + 1) d e = some r) (hu : A.units + (n + 1) < cLine) (q : Q (.bool r) s) : wpAny (model prog wd) A (compareOp .Eq v w) Q E s :=
  eqK fin (cmpEq (Nat.lt_of_le_of_lt (Nat.le_add_right _ _) hu)) (fun x y h => eqAt fin x y h (by rw [Around.in1_units]; lia)) x y h prog wd E Q q
theorem compareNe (fin : ∀ a o, φ a = some o → s.heap.get? a = some o) {n : Nat} {v w : Value} {d e : D} {r : Bool} {prog : Program} {wd : World} {E : Value → Shared → Prop} {Q : Value → Shared → Prop}
    (x : Rep φ v d) (y : Rep φ w e) (h : eqD (n + 1) d e = some r) (hu : A.units + (n + 1) < cLine) (q : Q (.bool (!r)) s) : wpAny (model prog wd) A (compareOp .NotEq v w) Q E s :=
  eqK fin (cmpNe (Nat.lt_of_le_of_lt (Nat.le_add_right _ _) hu)) (fun x y h => eqAt fin x y h (by rw [Around.in1_units]; lia)) x y h prog wd E Q q
end
end Mine

namespace Mine
open PySem PySem.W PySem.Calls PyProof.Rows PySem.SeqAt

/-! operators -/
noncomputable def big : Int := 1267650600228229401496703205376
noncomputable def lim : Nat := 1000000
noncomputable def reps {α : Type} (n : Nat) (l : List α) : List α := (List.replicate n l).flatten
noncomputable def binZ (op : Operator) (a b : Int) : Option D := match op with
  | .Add => some (.int (a + b))
  | .Sub => some (.int (a - b))
  | .Mult => if -big < a ∧ a < big ∧ -big < b ∧ b < big then some (.int (a * b)) else none
  | .FloorDiv => if 0 < b ∧ b < big then some (.int (a / b)) else none
  | .Mod => if 0 < b then some (.int (a % b)) else none
  | .Pow => if 0 ≤ b ∧ b ≤ 100 ∧ 2 ≤ a ∧ a < 1000 then some (.int (a ^ b.toNat)) else none
  | .LShift => if 0 ≤ b ∧ b ≤ 100 ∧ -big < a ∧ a < big then some (.int (a * 2 ^ b.toNat)) else none
  | .RShift => if 0 ≤ b then some (.int (a / 2 ^ b.toNat)) else none
  | .BitAnd => if 0 ≤ a ∧ 0 ≤ b then some (.int ((a.toNat &&& b.toNat : Nat) : Int)) else none
  | .BitOr => if 0 ≤ a ∧ 0 ≤ b then some (.int ((a.toNat ||| b.toNat : Nat) : Int)) else none
  | .BitXor => if 0 ≤ a ∧ 0 ≤ b then some (.int (((a.toNat ||| b.toNat : Nat) : Int) - ((a.toNat &&& b.toNat : Nat) : Int))) else none
  | _ => none
noncomputable def binS (op : Operator) (a : List Nat) (e : D) : Option D := match op with
  | .Add => o1 (fun b => if a.length + b.length ≤ lim then some (.str (a ++ b)) else none) (strD e)
  | .Mult => o1 (fun n => if a.length * n.toNat ≤ lim ∧ n ≤ 1000000 ∧ -1000000 ≤ n then some (.str (reps n.toNat a)) else none) (intD e)
  | _ => none
noncomputable def binD (op : Operator) (d e : D) : Option D := match d with
  | .int a => o1 (binZ op a) (intD e)
  | .str a => binS op a e
  | _ => none
noncomputable def binLs (op : Operator) (a : List D) (e : D) : Option (List D) := match op with
  | .Add => o1 (fun b => if a.length + b.length ≤ lim then some (a ++ b) else none) (lstD e)
  | .Mult => o1 (fun n => if a.length * n.toNat ≤ lim ∧ n ≤ 1000000 ∧ -1000000 ≤ n then some (reps n.toNat a) else none) (intD e)
  | _ => none
noncomputable def binL (op : Operator) (d e : D) : Option (List D) := o1 (fun a => binLs op a e) (lstD d)

theorem bits_big {a : Int} (h1 : -big < a) (h2 : a < big) : Builtin.Int.intBits a ≤ 100 := intBits_le (by unfold big at h1 h2; lia)
theorem log2_big {b : Int} (h1 : 0 < b) (h2 : b < big) : b.natAbs.log2 < 9000 := by
  have : b.natAbs.log2 < 100 := (Nat.log2_lt (by lia)).mpr (by unfold big at h2; lia)
  lia
theorem bitAnd_nn {a b : Int} (ha : 0 ≤ a) (hb : 0 ≤ b) : Builtin.bitAnd a b = ((a.toNat &&& b.toNat : Nat) : Int) := by
  unfold Builtin.bitAnd; rw [decide_eq_true ha, decide_eq_true hb]
theorem bitOr_nn {a b : Int} (ha : 0 ≤ a) (hb : 0 ≤ b) : Builtin.bitOr a b = ((a.toNat ||| b.toNat : Nat) : Int) := by
  have e : ∀ x : Int, Builtin.bitNot x = -x - 1 := fun x => rfl
  unfold Builtin.bitOr Builtin.bitAnd
  rw [decide_eq_false (by rw [e]; lia : ¬ (0 : Int) ≤ Builtin.bitNot a), decide_eq_false (by rw [e]; lia : ¬ (0 : Int) ≤ Builtin.bitNot b)]
  simp only [e]
  rw [show (-(-a - 1) - 1) = a by lia, show (-(-b - 1) - 1) = b by lia]
  lia
theorem size_foldl {α : Type} (n : Nat) (x : Array α) : ((List.replicate n x).foldl (· ++ ·) #[]).toList = reps n x.toList := by
  have gen : ∀ (n : Nat) (acc : Array α), ((List.replicate n x).foldl (· ++ ·) acc).toList = acc.toList ++ reps n x.toList := by
    intro n
    induction n with
    | zero => intro acc; simp [reps]
    | succ n ih => intro acc; rw [List.replicate_succ, List.foldl_cons, ih]; simp [reps, List.replicate_succ]
  simpa using gen n #[]
theorem reps_nil {α : Type} (n : Nat) : reps n ([] : List α) = [] := by induction n <;> simp_all [reps, List.replicate_succ]
theorem reps_one {α : Type} (l : List α) : reps 1 l = l := by simp [reps, List.replicate_succ]
theorem repL_reps {φ : Fz} {vs : List Value} {ds : List D} (h : RepL φ vs ds) : ∀ n, RepL φ (reps n vs) (reps n ds)
  | 0 => .nil
  | n + 1 => by
    have e1 : reps (n + 1) vs = vs ++ reps n vs := by simp [reps, List.replicate_succ]
    have e2 : reps (n + 1) ds = ds ++ reps n ds := by simp [reps, List.replicate_succ]
    rw [e1, e2]; exact h.append (repL_reps h n)
theorem txt_mul (a : List Nat) (n : Int) : Txt.mul ⟨a.toArray⟩ n = ⟨(reps n.toNat a).toArray⟩ := by
  unfold Txt.mul
  by_cases h : n < 1
  · rw [if_pos h, show n.toNat = 0 by lia]; rfl
  · rw [if_neg h]
    by_cases h1 : (n == 1 || (Str.length ⟨a.toArray⟩) == 0) = true
    · rw [if_pos h1]
      rcases Bool.or_eq_true_iff.mp h1 with q | q
      · have : n = 1 := by simpa using q
        subst this; rw [show (1 : Int).toNat = 1 from rfl, reps_one]
      · have : a = [] := by simpa [Str.length] using q
        subst this; rw [reps_nil]
    · rw [if_neg h1]
      congr 1
      apply Array.ext'
      rw [size_foldl]
theorem str_len (l : List Nat) : Str.length ⟨l.toArray⟩ = l.length := by simp [Str.length]
theorem str_app (a b : List Nat) : ((⟨a.toArray⟩ : Str) ++ ⟨b.toArray⟩) = ⟨(a ++ b).toArray⟩ := by
  apply Str.ext'; rw [Str.cps_append]; simp

section
variable {φ : Fz} {A : Around} {s : Shared} {prog : Program} {wd : World} {E : Value → Shared → Prop}
set_option tactic.hygienic true in
theorem binZ_ok {op : Operator} {a b : Int} {t u : Tok} {r : D} (fin : ∀ a o, φ a = some o → s.heap.get? a = some o) (h : binZ op a b = some r) : wpAny (model prog wd) A (binaryOp op (.int a t) (.int b u)) (EP φ s r) E s := by
  induction op using PySem.Operator.casesOn <;> first | exact no_none h | skip
  case Add => refine some_e h ?_; exact PyProof.Rows.add_int (EP.tk fin (.int _ _))
  case Sub => refine some_e h ?_; exact PyProof.Rows.sub_int (EP.tk fin (.int _ _))
  case Mult =>
    refine oif_e h fun hl h => ?_
    refine some_e h ?_
    refine PyProof.Rows.mul_int (EP.tk fin (.int _ _)) ?_
    have h1 := bits_big hl.1 hl.2.1
    have h2 := bits_big hl.2.2.1 hl.2.2.2
    unfold IntMulOk Builtin.Int.intTooBig
    rw [show bitsLine = 134217728 from rfl]
    simp only [Bool.and_eq_true, decide_eq_true_eq, not_and]
    intro _
    lia
  case FloorDiv =>
    refine oif_e h fun hl h => ?_
    refine some_e h ?_
    refine AutoIntOps.floordiv_1 (by simp; lia) (by rw [PyProof.noPylong_of_log2 (log2_big hl.1 hl.2)]; exact Bool.false_ne_true) ?_
    rw [Int.fdiv_eq_ediv_of_nonneg _ (Int.le_of_lt hl.1)]
    exact EP.tk fin (.int _ _)
  case Mod =>
    refine oif_e h fun hl h => ?_
    refine some_e h ?_
    refine PyProof.Rows.mod_int (Int.ne_of_gt hl) ?_
    rw [Int.fmod_eq_emod_of_nonneg _ (Int.le_of_lt hl)]
    exact EP.tk fin (.int _ _)
  case Pow =>
    obtain ⟨⟨h1, h2, h3, h4⟩, h⟩ := oif_inv h
    refine some_e h ?_
    by_cases hb : b = 0
    · subst hb; exact AutoIntOps.pow_0 (by lia) (by simp) (EP.tk fin (by simpa using Rep.int (φ := φ) 1 s.toks))
    · refine AutoIntOps.pow_4 (by lia) (by simpa using hb) (by simp; lia) (by simp; lia) ?_ (EP.tk fin (.int _ _))
      have hbit : Builtin.Int.intBits a ≤ 10 := intBits_le (by lia)
      unfold Builtin.Int.intTooBig
      rw [show bitsLine = 134217728 from rfl]
      have : ((Builtin.Int.intBits a : Nat) : Int) * b ≤ 10 * 100 := Int.mul_le_mul (by lia) h2 h1 (by lia)
      simp; lia
  case LShift =>
    refine oif_e h fun hl h => ?_
    refine some_e h ?_
    refine PyProof.Rows.lshift_int hl.1 ?_ (EP.tk fin (.int _ _))
    have := bits_big hl.2.2.1 hl.2.2.2
    lia
  case RShift =>
    refine oif_e h fun hl h => ?_
    refine some_e h ?_
    refine PyProof.Rows.rshift_int hl ?_
    rw [Int.fdiv_eq_ediv_of_nonneg _ (Int.le_of_lt (Int.pow_pos (by decide)))]
    exact EP.tk fin (.int _ _)
  case BitAnd =>
    refine oif_e h fun hl h => ?_
    refine some_e h ?_
    exact PyProof.Rows.and_int (bitAnd_nn hl.1 hl.2 ▸ EP.tk fin (.int _ _))
  case BitOr =>
    refine oif_e h fun hl h => ?_
    refine some_e h ?_
    exact PyProof.Rows.or_int (bitOr_nn hl.1 hl.2 ▸ EP.tk fin (.int _ _))
  case BitXor =>
    refine oif_e h fun hl h => ?_
    refine some_e h ?_
    refine PyProof.Rows.xor_int ?_
    unfold Builtin.bitXor
    rw [bitOr_nn hl.1 hl.2, bitAnd_nn hl.1 hl.2]
    exact EP.tk fin (.int _ _)
set_option tactic.hygienic true in
theorem binS_ok {op : Operator} {a : List Nat} {t : Tok} {w : Value} {e r : D} (fin : ∀ a o, φ a = some o → s.heap.get? a = some o) (y : Rep φ w e) (h : binS op a e = some r) : wpAny (model prog wd) A (binaryOp op (.str ⟨a.toArray⟩ t) w) (EP φ s r) E s := by
  induction op using PySem.Operator.casesOn <;> first | exact no_none h | skip
  case Add =>
    refine o1_e h fun b hb g => ?_
    refine oif_e g fun hl g => ?_
    have qq := strD_inv hb; subst qq
    refine y.sStr fun u => ?_
    refine some_e g ?_
    refine SB.add (fun t' k => ?_) ?_
    · rw [str_app]; exact EP.tk fin (.str _ _)
    · rw [str_len, str_len, sizeLine_eq]; unfold lim at hl; lia
  case Mult =>
    refine o1_e h fun n hb g => ?_
    obtain ⟨⟨h1, h2, h3⟩, g⟩ := oif_inv g
    have qq := intD_inv hb; subst qq
    refine y.sInt fun u => ?_
    refine some_e g ?_
    unfold lim at h1
    refine SB.mul ⟨?_, fun q1 q2 => ?_, fun q1 q2 => ?_⟩ (fun t' k => ?_)
    · rw [decide_eq_false (by lia), decide_eq_false (by lia)]; rfl
    · rw [str_len]
      have hn : 0 < n := by lia
      have hm : (a.length : Int) * n ≤ 1000000 := by
        have : ((a.length * n.toNat : Nat) : Int) = (a.length : Int) * n := by rw [Int.natCast_mul, Int.toNat_of_nonneg (by lia)]
        lia
      have := Int.le_ediv_of_mul_le hn (show (a.length : Int) * n ≤ 2 ^ 63 - 1 by lia)
      lia
    · rw [str_len]; unfold Builtin.Str.tooLong; rw [sizeLine_eq]; exact decide_eq_false (by lia)
    · rw [txt_mul]; exact EP.tk fin (.str _ _)
set_option tactic.hygienic true in
theorem bin_ok {op : Operator} {v w : Value} {d e r : D} (fin : ∀ a o, φ a = some o → s.heap.get? a = some o) (x : Rep φ v d) (y : Rep φ w e) (h : binD op d e = some r) :
    wpAny (model prog wd) A (binaryOp op v w) (EP φ s r) E s := by
  induction d using Mine.D.casesOn <;> first | exact no_none h | skip
  case int a =>
    refine o1_e h fun b hb g => ?_
    have qq := intD_inv hb; subst qq
    refine x.sInt fun t => ?_
    refine y.sInt fun u => ?_
    exact binZ_ok fin g
  case str a =>
    refine x.sStr fun t => ?_
    exact binS_ok fin y h
set_option tactic.hygienic true in
theorem binL_ok {op : Operator} {v w : Value} {d e : D} {r : List D} (fin : ∀ a o, φ a = some o → s.heap.get? a = some o) (x : Rep φ v d) (y : Rep φ w e) (h : binL op d e = some r) :
    wpAny (model prog wd) A (binaryOp op v w) (EPL φ s r) E s := by
  refine o1_e h fun l hd g => ?_
  have qq := lstD_inv hd; subst qq
  refine x.sList fun a vs n e1 r1 => ?_
  have hl := fin _ _ e1
  have sz := r1.length
  induction op using PySem.Operator.casesOn <;> first | exact no_none g | skip
  case Add =>
    refine o1_e g fun l2 hb g2 => ?_
    refine oif_e g2 fun hz g3 => ?_
    have qq := lstD_inv hb; subst qq
    refine y.sList fun b ws m e2 r2 => ?_
    refine some_e g3 ?_
    refine P.add_list (n := n) (n2 := m) (items := vs.toArray) (items2 := ws.toArray) hl (fin _ _ e2) ?_ ?_
    · refine ⟨φ, s.heap.objs.size, 0, vs ++ ws, .push fin _ s.toks, rfl, ?_, r1.append r2, fz_size fin, get_size_none _⟩
      rw [Heap.get?_push_size _ rfl, List.append_toArray]; rfl
    · rw [List.size_toArray, List.size_toArray, sz, r2.length, sizeLine_eq]; unfold lim at hz; lia
  case Mult =>
    refine o1_e g fun n hb g2 => ?_
    obtain ⟨⟨h1, h2, h3⟩, g3⟩ := oif_inv g2
    have qq := intD_inv hb; subst qq
    refine y.sInt fun u => ?_
    rename_i m
    refine some_e g3 ?_
    unfold lim at h1
    refine wpAny_binaryOp_repeat_ref (T := "list") (U := "int") (by decide) ⟨_, hl, rfl⟩ (fun s' => typeIs_int s' _ _) noFill_list_mul F.fills_int_mul F.slot_int_rmul repeat_list F.slot_int_index.lookup
      (call_meets F.slot_int_rmul (typeIs_int s _ _) F.entry_int_rmul (F.args_int_rmul_2 _ _) (int___rmul___int_list _ _ a vs.toArray m)
      ⟨hl, rfl, ⟨_, hl, rfl⟩, call_meets F.slot_list_mul ⟨_, hl, rfl⟩ F.entry_list_mul (F.args_list_mul_2 _ _)
      (AutoListH.list___mul___list_int_3 a vs.toArray m _ _ (by simp [Builtin.List.listFitsIndex]; lia) (by simp [sz]; lia) (by simp [Builtin.List.listTooLong, sizeLine, sz]; lia))
      ⟨hl, ?_⟩⟩)
    refine ⟨φ, s.heap.objs.size, 0, reps n.toNat vs, .push fin _ s.toks, rfl, ?_, repL_reps r1 _, fz_size fin, get_size_none _⟩
    rw [Heap.get?_push_size _ rfl]
    refine congrArg (fun z => some ({ cls := .type "list", data := .seq z 0 } : Obj)) ?_
    apply Array.ext'
    rw [size_foldl]
    by_cases he : vs = []
    · subst he; simp [reps_nil]
    · simp [he]
end
end Mine

namespace Mine
open PySem PySem.W PySem.Calls PyProof.Rows PySem.SeqAt

/-! comparisons -/
noncomputable def typN : Value → Option String
  | .type a => some a
  | _ => none
theorem typN_inv {v : Value} {a : String} (h : typN v = some a) : v = .type a := by
  induction v using PySem.Value.casesOn <;> first | exact no_none h | rw [some_inv h]
noncomputable def notNone : D → Option Bool
  | .val _ => none
  | .none => some true
  | _ => some false
noncomputable def isD (d e : D) : Option Bool := match e with
  | .none => notNone d
  | .val b => o1 (fun v => o2 (fun a b => some (a == b)) (typN v) (typN b)) (valD d)
  | _ => none
noncomputable def listOf {α : Type} (f : D → Option α) : List D → Option (List α)
  | [] => some []
  | d :: r => o2 (fun a l => some (a :: l)) (f d) (listOf f r)
noncomputable abbrev ints? : List D → Option (List Int) := listOf intD
noncomputable abbrev bytess? : List D → Option (List (List UInt8)) := listOf bytD
noncomputable def oneC : List Nat → Option Nat
  | [c] => some c
  | _ => none
theorem oneC_inv {l : List Nat} {c : Nat} (h : oneC l = some c) : l = [c] := by
  match l, h with
  | [], h => exact no_none h
  | [x], h => rw [some_inv h]
  | _ :: _ :: _, h => exact no_none h
noncomputable def inD (d e : D) : Option Bool := match d with
  | .int i => o1 (fun l => o1 (fun is => some (decide (i ∈ is))) (ints? l)) (lstD e)
  | .bytes b => o1 (fun l => o1 (fun is => some (decide (b ∈ is))) (bytess? l)) (lstD e)
  | _ => none
noncomputable def intC (f : Int → Int → Bool) (d e : D) : Option Bool := o2 (fun a b => some (f a b)) (intD d) (intD e)
noncomputable def notO : Option Bool → Option Bool := o1 fun b => some (!b)
noncomputable def cmpD (op : CmpOp) (d e : D) : Option Bool := match op with
  | .Eq => eqD 8 d e
  | .NotEq => notO (eqD 8 d e)
  | .Lt => intC (fun a b => decide (a < b)) d e
  | .LtE => intC (fun a b => decide (a ≤ b)) d e
  | .Gt => intC (fun a b => decide (b < a)) d e
  | .GtE => intC (fun a b => decide (b ≤ a)) d e
  | .Is => isD d e
  | .IsNot => notO (isD d e)
  | .In => inD d e
  | .NotIn => none
noncomputable def truthD : D → Option Bool
  | .bool b => some b
  | .int i => some (decide (i ≠ 0))
  | _ => none
noncomputable def unD (op : UnaryOp) (d : D) : Option D := match op with
  | .USub => o1 (fun a => some (.int (-a))) (intD d)
  | .Not => o1 (fun b => some (.bool (!b))) (truthD d)
  | _ => none

theorem listOf_inv {α : Type} {f : D → Option α} {d : D} {r : List D} {l : List α} (h : listOf f (d :: r) = some l) : ∃ a m, f d = some a ∧ listOf f r = some m ∧ l = a :: m := by
  refine o2_e h fun a m h1 h2 h => ?_
  exact ⟨a, m, h1, h2, some_inv h⟩
theorem list_of {α : Type} {f : D → Option α} {mk : α → Tok → Value} {φ : Fz} (hf : ∀ {v d a}, Rep φ v d → f d = some a → ∃ t, v = mk a t) {vs : List Value} {ds : List D} {is : List α} (r : RepL φ vs ds) (h : listOf f ds = some is) : (∀ v ∈ vs, ∃ i t, v = mk i t ∧ i ∈ is) ∧ (∀ i ∈ is, ∃ t, mk i t ∈ vs) := by
  induction ds generalizing vs is with
  | nil => rw [r.iNil, some_inv h]; exact ⟨(fun _ h => no_mem h), (fun _ h => no_mem h)⟩
  | cons d ds ih =>
    refine r.sCons fun v ws r1 rs => ?_
    refine e2a3 (listOf_inv h) fun a m h1 h2 rr4 => ?_
    subst rr4
    refine e1a1 (hf r1 h1) fun t rr1 => ?_
    subst rr1
    refine e0a2 (ih rs h2) fun g1 g2 => ?_
    refine ⟨fun v hv => (List.mem_cons.mp hv).elim (fun e => ⟨a, t, e, List.mem_cons_self⟩) fun hv => ?_, fun j hj => (List.mem_cons.mp hj).elim (fun e => ⟨t, e ▸ List.mem_cons_self⟩) fun hj => ?_⟩
    · obtain ⟨k, u, e, hm⟩ := g1 v hv; exact ⟨k, u, e, List.mem_cons_of_mem _ hm⟩
    · obtain ⟨u, hm⟩ := g2 j hj; exact ⟨u, List.mem_cons_of_mem _ hm⟩
theorem ints_of {φ : Fz} {vs : List Value} {ds : List D} {is : List Int} (r : RepL φ vs ds) (h : ints? ds = some is) : (∀ v ∈ vs, ∃ i t, v = .int i t ∧ i ∈ is) ∧ (∀ i ∈ is, ∃ t, Value.int i t ∈ vs) :=
  list_of (mk := .int) (fun r e => (intD_inv e ▸ r : Rep φ _ (.int _)).iInt) r h
theorem bytess_of {φ : Fz} {vs : List Value} {ds : List D} {is : List (List UInt8)} (r : RepL φ vs ds) (h : bytess? ds = some is) : (∀ v ∈ vs, ∃ i t, v = .bytes (List.toArray i) t ∧ i ∈ is) ∧ (∀ i ∈ is, ∃ t, Value.bytes (List.toArray i) t ∈ vs) :=
  list_of (mk := fun i t => .bytes (List.toArray i) t) (fun r e => (bytD_inv e ▸ r : Rep φ _ (.bytes _)).iBytes) r h
noncomputable def eInt (i : Int) : Value → Bool
  | .int j _ => j == i
  | _ => false
noncomputable def eBytes (b : List UInt8) : Value → Bool
  | .bytes c _ => decide (c.toList = b)
  | _ => false

section
variable {φ : Fz} {A : Around} {s : Shared} {prog : Program} {wd : World} {E : Value → Shared → Prop}
set_option tactic.hygienic true in
theorem is_cases {v w : Value} {d e : D} {r : Bool} (x : Rep φ v d) (y : Rep φ w e) (h : isD d e = some r) : (∃ a b, v = .type a ∧ w = .type b ∧ r = (Value.type a == Value.type b)) ∨ (v = .none ∧ w = .none ∧ r = true) ∨ (v ≠ .none ∧ w = .none ∧ r = false) := by
  induction e using Mine.D.casesOn <;> first | exact no_none h | skip
  case none =>
    induction d using Mine.D.casesOn <;> first | exact no_none h | skip
    case none => exact .inr (.inl ⟨x.iNone, y.iNone, some_inv h⟩)
    all_goals refine .inr (.inr ⟨fun z => ?_, y.iNone, some_inv h⟩)
    case bool => have q := x.iBool; rw [z] at q; cases q
    case int => obtain ⟨_, q⟩ := x.iInt; rw [z] at q; cases q
    case str => obtain ⟨_, q⟩ := x.iStr; rw [z] at q; cases q
    case bytes => obtain ⟨_, q⟩ := x.iBytes; rw [z] at q; cases q
    case list => obtain ⟨_, _, _, q, _⟩ := x.iList; rw [z] at q; cases q
    case tup => obtain ⟨_, _, _, q, _⟩ := x.iTup; rw [z] at q; cases q
    case inst => obtain ⟨_, _, _, _, q, _⟩ := x.iInst; rw [z] at q; cases q
    case rng => obtain ⟨_, _, _, _, q, _⟩ := x.iRng; rw [z] at q; cases q
  case val b =>
    refine o1_e h fun u h1 g => ?_
    refine o2_e g fun a b' h2 h3 g2 => ?_
    have qq := valD_inv h1; subst qq
    exact .inl ⟨a, b', x.iVal.trans (typN_inv h2), y.iVal.trans (typN_inv h3), by refine some_e g2 ?_; rw [Bool.eq_iff_iff]; simp⟩
theorem is_ok {v w : Value} {d e : D} {r : Bool} {Q : Value → Shared → Prop} (x : Rep φ v d) (y : Rep φ w e) (h : isD d e = some r) (q : Q (.bool r) s) : wpAny (model prog wd) A (compareOp .Is v w) Q E s := by
  rcases is_cases x y h with ⟨a, b, rfl, rfl, rfl⟩ | ⟨rfl, rfl, rfl⟩ | ⟨hn, rfl, rfl⟩
  · exact wpAny_is_plain rfl q
  · exact is_none_none q
  · exact is_none_ne hn q
theorem isnot_ok {v w : Value} {d e : D} {r : Bool} {Q : Value → Shared → Prop} (x : Rep φ v d) (y : Rep φ w e) (h : isD d e = some r) (q : Q (.bool (!r)) s) : wpAny (model prog wd) A (compareOp .IsNot v w) Q E s := by
  rcases is_cases x y h with ⟨a, b, rfl, rfl, rfl⟩ | ⟨rfl, rfl, rfl⟩ | ⟨hn, rfl, rfl⟩
  · exact wpAny_isNot_plain rfl q
  · exact isnot_none_none q
  · exact isnot_none_ne hn q
theorem in_list {α : Type} {e : Value → Bool} {mk : α → Tok → Value} {b : α} {a : Addr} {vs : List Value} {n : Nat} {is : List α} {v : Value} {r : Bool} {Q : Value → Shared → Prop} (e1 : s.heap.get? a = some (lsO vs n)) (h : (∀ v ∈ vs, ∃ i t, v = mk i t ∧ i ∈ is) ∧ (∀ i ∈ is, ∃ t, mk i t ∈ vs))
    (he : ∀ c t, e (mk c t) = true ↔ c = b) (hq : ∀ c t, EqAt A.in1 s (mk c t) v (e (mk c t))) (hr : r = true ↔ b ∈ is) (q : Q (.bool r) s) : wpAny (model prog wd) A (compareOp .In v (.ref a)) Q E s := by
  refine in_listAt e (lsO_isList e1) (fun y hy => ?_) ?_
  · refine e2a2 (h.1 y (List.mem_toArray.mp hy)) fun j u rr2 _ => ?_
    subst rr2
    exact hq j u
  · have : vs.toArray.any e = r := by
      rw [Bool.eq_iff_iff, List.any_toArray, List.any_eq_true, hr]
      constructor
      · rintro ⟨v, hv, ev⟩
        refine e2a2 (h.1 v hv) fun j u rr2 hj => ?_
        subst rr2
        exact (he j u).mp ev ▸ hj
      · intro hi
        refine e1a1 (h.2 b hi) fun u hu => ?_
        exact ⟨_, hu, (he b u).mpr rfl⟩
    rw [this]; exact q
set_option tactic.hygienic true in
theorem in_ok (fin : ∀ a o, φ a = some o → s.heap.get? a = some o) {v w : Value} {d e : D} {r : Bool} {Q : Value → Shared → Prop} (x : Rep φ v d) (y : Rep φ w e) (h : inD d e = some r) (q : Q (.bool r) s) : wpAny (model prog wd) A (compareOp .In v w) Q E s := by
  induction d using Mine.D.casesOn <;> first | exact no_none h | skip
  case int i =>
    refine o1_e h fun l hl g => ?_
    refine o1_e g fun is hi g => ?_
    have qq := lstD_inv hl; subst qq
    refine x.sInt fun t => ?_
    refine y.sList fun a vs n e1 r1 => ?_
    exact in_list (e := eInt i) (mk := .int) (fin _ _ e1) (ints_of r1 hi) (fun c t => beq_iff_eq) (fun c u => EqAt.int_int _ _ _ _) (some_inv g ▸ decide_eq_true_iff) q
  case bytes b =>
    refine o1_e h fun l hl g => ?_
    refine o1_e g fun is hi g => ?_
    have qq := lstD_inv hl; subst qq
    refine x.sBytes fun t => ?_
    refine y.sList fun a vs n e1 r1 => ?_
    exact in_list (e := eBytes b) (mk := fun i t => .bytes (List.toArray i) t) (fin _ _ e1) (bytess_of r1 hi) (fun c t => decide_eq_true_iff) (fun c u prog w E Q hq => eqBool_bytes hq) (some_inv g ▸ decide_eq_true_iff) q
theorem intC_inv {f : Int → Int → Bool} {v w : Value} {d e : D} {r : Bool} (x : Rep φ v d) (y : Rep φ w e) (h : intC f d e = some r) : ∃ a b t u, v = .int a t ∧ w = .int b u ∧ r = f a b := by
  refine o2_e h fun a b h1 h2 g => ?_
  have qq := intD_inv h1; subst qq
  have qq := intD_inv h2; subst qq
  refine x.sInt fun t => ?_
  refine y.sInt fun u => ?_
  exact ⟨a, b, t, u, rfl, rfl, some_inv g⟩
set_option tactic.hygienic true in
theorem cmp_ok {op : CmpOp} {v w : Value} {d e : D} {r : Bool} {Q : Value → Shared → Prop} (fin : ∀ a o, φ a = some o → s.heap.get? a = some o) (hu : A.units + 8 < cLine) (x : Rep φ v d) (y : Rep φ w e) (h : cmpD op d e = some r)
    (q : Q (.bool r) s) : wpAny (model prog wd) A (compareOp op v w) Q E s := by
  induction op using PySem.CmpOp.casesOn
  case Eq => exact compareEq fin x y h hu q
  case NotEq => refine o1_e h fun b hb g => ?_; exact compareNe fin x y hb hu (some_inv g ▸ q)
  case Lt => obtain ⟨a, b, t, u, rfl, rfl, rfl⟩ := intC_inv x y h; exact PyProof.Rows.lt_int q
  case LtE => obtain ⟨a, b, t, u, rfl, rfl, rfl⟩ := intC_inv x y h; exact PyProof.Rows.le_int q
  case Gt => obtain ⟨a, b, t, u, rfl, rfl, rfl⟩ := intC_inv x y h; exact PyProof.Rows.gt_int q
  case GtE => obtain ⟨a, b, t, u, rfl, rfl, rfl⟩ := intC_inv x y h; exact PyProof.Rows.ge_int q
  case Is => exact is_ok x y h q
  case IsNot => refine o1_e h fun b hb g => ?_; exact isnot_ok x y hb (some_inv g ▸ q)
  case In => exact in_ok fin x y h q
  case NotIn => exact no_none h
theorem int_bne (a b : Int) : (a != b) = decide (a ≠ b) := by rw [Bool.eq_iff_iff]; simp
set_option tactic.hygienic true in
theorem truth_ok {v : Value} {d : D} {r : Bool} {Q : Bool → Shared → Prop} (x : Rep φ v d) (h : truthD d = some r) (q : Q r s) : wpAny (model prog wd) A (truthy v) Q E s := by
  induction d using Mine.D.casesOn <;> first | exact no_none h | skip
  case bool b => rw [x.iBool, ← some_inv h]; exact wpAny_truthy_bool q
  case int i => obtain ⟨t, rfl⟩ := x.iInt; exact PyProof.Rows.truthy_int (by rw [int_bne]; exact some_inv h ▸ q)
set_option tactic.hygienic true in
theorem un_ok {op : UnaryOp} {v : Value} {d r : D} (fin : ∀ a o, φ a = some o → s.heap.get? a = some o) (x : Rep φ v d) (h : unD op d = some r) : wpAny (model prog wd) A (unaryOp op v) (EP φ s r) E s := by
  induction op using PySem.UnaryOp.casesOn <;> first | exact no_none h | skip
  case USub =>
    refine o1_e h fun a ha g => ?_
    have qq := intD_inv ha; subst qq
    refine x.sInt fun t => ?_
    refine some_e g ?_
    exact PyProof.Rows.neg_int (EP.tk fin (.int _ _))
  case Not =>
    refine o1_e h fun b hb g => ?_
    refine some_e g ?_
    exact not_of (truth_ok x hb (EP.pure fin (.bool _)))

/-! items and cuts -/
noncomputable def ix (k : Int) (n : Nat) : Nat := if k < 0 then (k + n).toNat else k.toNat
noncomputable def inB (k : Int) (n : Nat) : Bool := decide (-(n : Int) ≤ k ∧ k < n ∧ n ≤ lim)
noncomputable def idxD (d : D) (k : Int) : Option D := match d with
  | .list l => if inB k l.length = true then l[ix k l.length]? else none
  | .tup l => if inB k l.length = true then l[ix k l.length]? else none
  | .str l => if inB k l.length = true then l[ix k l.length]?.map fun c => .str [c] else none
  | .bytes l => if inB k l.length = true ∧ 0 ≤ k then l[k.toNat]?.map fun b => .int (b.toNat : Int) else none
  | _ => none
theorem seqIndex_ix {k : Int} {n : Nat} (h : inB k n = true) : seqIndex? k n = some (ix k n) ∧ ix k n < n ∧ n ≤ lim ∧ -(n : Int) ≤ k ∧ k < n := by
  have h := of_decide_eq_true h
  unfold seqIndex? ix
  dsimp only
  by_cases hk : k < 0
  · simp only [hk, if_true]
    rw [decide_eq_true (by lia : (0 : Int) ≤ k + n), decide_eq_true (by lia : k + (n : Int) < n)]
    exact ⟨rfl, by lia, h.2.2, h.1, h.2.1⟩
  · simp only [hk, if_false]
    rw [decide_eq_true (by lia : (0 : Int) ≤ k), decide_eq_true (by lia : k < n)]
    exact ⟨rfl, by lia, h.2.2, h.1, h.2.1⟩
noncomputable def notSlice : Expr → Bool := noE 26
theorem subscripted_plain {slice : Expr} {o i : Value} (h : notSlice slice = true) : subscripted slice false o i = operate [o, i] (getItem o i) := by
  induction slice using PySem.Expr.casesOn <;> first | rfl | exact no_ft h
set_option tactic.hygienic true in
theorem getItem_ok {v : Value} {k : Int} {u : Tok} {d r : D} (fin : ∀ a o, φ a = some o → s.heap.get? a = some o) (x : Rep φ v d) (h : idxD d k = some r) :
    wpAny (model prog wd) A (getItem v (.int k u)) (EP φ s r) E s := by
  induction d using Mine.D.casesOn <;> first | exact no_none h | skip
  case list l =>
    refine oif_e h fun hb g => ?_
    refine e0a5 (seqIndex_ix hb) fun h1 h2 h3 h4 h5 => ?_
    unfold lim at h3
    refine x.sList fun a vs n e1 r1 => ?_
    refine e1a2 (r1.get g) fun v hv rv => ?_
    have hl := lsO_isList (fin _ _ e1)
    have sz : vs.toArray.size = l.length := r1.length
    by_cases hk : k < 0
    · refine wpAny_getItem_list_neg hl hk (by rw [sz]; lia) (by lia) ?_ (EP.pure fin rv)
      rw [ix, if_pos hk] at hv
      rw [sz, List.getElem?_toArray]; exact hv
    · refine wpAny_getItem_list hl (by lia) (by lia) ?_ (EP.pure fin rv)
      rw [ix, if_neg hk] at hv
      rw [List.getElem?_toArray]; exact hv
  case tup l =>
    refine oif_e h fun hb g => ?_
    refine e0a5 (seqIndex_ix hb) fun h1 h2 h3 h4 h5 => ?_
    unfold lim at h3
    refine x.sTup fun a vs n e1 r1 => ?_
    refine e1a2 (r1.get g) fun v hv rv => ?_
    refine PyProof.Rows.getItem_tuple (items := vs.toArray) ⟨_, fin _ _ e1, rfl, n, rfl⟩ (by lia) (by lia) (by rw [List.size_toArray, r1.length]; exact h1) ?_ (EP.pure fin rv)
    rw [List.getElem?_toArray]; exact hv
  case str l =>
    refine oif_e h fun hb g => ?_
    refine e0a5 (seqIndex_ix hb) fun h1 h2 h3 h4 h5 => ?_
    unfold lim at h3
    refine e1a2 (Option.map_eq_some_iff.mp g) fun c hc rr2 => ?_
    subst rr2
    refine x.sStr fun t => ?_
    refine P.getItem_str (c := c) (by rw [decide_eq_false (by lia), decide_eq_false (by lia)]; rfl) ?_ (EP.tk fin (.str [c] _))
    rw [str_len, h1]; simpa using hc
  case bytes l =>
    refine oif_e h fun hb g => ?_
    refine e0a5 (seqIndex_ix hb.1) fun h1 h2 h3 h4 h5 => ?_
    unfold lim at h3
    refine e1a2 (Option.map_eq_some_iff.mp g) fun c hc rr2 => ?_
    subst rr2
    refine x.sBytes fun t => ?_
    refine getItem_bytes (by lia) hb.2 (by lia) ?_
    have : l.getD k.toNat 0 = c := by rw [List.getD_eq_getElem?_getD, hc]; rfl
    rw [this]
    exact EP.tk fin (.int _ _)
set_option tactic.hygienic true in
theorem item_ok {value slice : Expr} {v : Value} {k : Int} {u : Tok} {d r : D} (fin : ∀ a o, φ a = some o → s.heap.get? a = some o) (x : Rep φ v d) (h : idxD d k = some r) (hs : notSlice slice = true) :
    wpAny (model prog wd) A (subscriptTail value slice v (.int k u)) (EP φ s r) E s := by
  have g := getItem_ok (prog := prog) (wd := wd) (A := A) (E := E) (u := u) fin x h
  induction d using Mine.D.casesOn <;> first | exact no_none h | skip
  case list l => obtain ⟨a, vs, n, rfl, e1, r1⟩ := x.iList; exact tail_any (lsO_isList (fin _ _ e1)).typeIs slot_list_getitem.lookup g (subscripted_plain hs)
  case tup l => obtain ⟨a, vs, n, rfl, e1, r1⟩ := x.iTup; exact tail_any (tpO_isTuple (fin _ _ e1)).typeIs slot_tuple_getitem.lookup g (subscripted_plain hs)
  case str l => obtain ⟨t, rfl⟩ := x.iStr; exact tail_any (typeIs_str s _ _) F.slot_str_getitem.lookup g (subscripted_plain hs)
  case bytes l => obtain ⟨t, rfl⟩ := x.iBytes; exact tail_any (typeIs_bytes s _ _) FB.slot_bytes_getitem.lookup g (subscripted_plain hs)

noncomputable def cut {α : Type} (lo hi : Option Int) (l : List α) : List α := (l.drop (lo.elim 0 (clipAt l.length))).take (hi.elim l.length (clipAt l.length) - lo.elim 0 (clipAt l.length))
theorem cut_length_le {α : Type} (lo hi : Option Int) (l : List α) : (cut lo hi l).length ≤ l.length := by
  unfold cut; rw [List.length_take, List.length_drop]; lia
theorem RepL.cut {vs : List Value} {ds : List D} (h : RepL φ vs ds) (lo hi : Option Int) : RepL φ (Mine.cut lo hi vs) (Mine.cut lo hi ds) := by
  unfold Mine.cut; rw [h.length]; exact (h.drop _).take _
noncomputable def cutL1 (lo hi : Option Int) (l : List D) : Option Int → Option (List D)
  | none => if l.length ≤ lim then some (cut lo hi l) else none
  | some k => if l.length ≤ lim ∧ lo = none ∧ hi = none ∧ k = -1 then some l.reverse else none
noncomputable def cutL (d : D) (lo hi st : Option Int) : Option (List D) := o1 (fun l => cutL1 lo hi l st) (lstD d)
noncomputable def cutS (d : D) (lo hi st : Option Int) : Option D := o1 (fun l => if st = none ∧ l.length ≤ lim then some (.str (cut lo hi l)) else none) (strD d)
theorem slicePick_cut (vs : List Value) (lo hi : Option Int) : slicePick vs.toArray lo hi none = (cut lo hi vs).toArray := by
  rw [slicePick_plain]; simp [cut]
theorem getSlice_ok {v vl vu vt : Value} {sl : Addr} {lo hi st : Option Int} {d : D} {r : List D} (fin : ∀ a o, φ a = some o → s.heap.get? a = some o) (x : Rep φ v d) (hsl : s.heap.IsSliceOf sl vl vu vt)
    (pl : IsPart vl lo) (pu : IsPart vu hi) (ps : IsPart vt st) (h : cutL d lo hi st = some r) : wpAny (model prog wd) A (getItem v (.ref sl)) (EPL φ s r) E s := by
  refine o1_e h fun l hd g => ?_
  have qq := lstD_inv hd; subst qq
  refine x.sList fun a vs n e1 r1 => ?_
  have sz : vs.toArray.size = l.length := r1.length
  have hz : l.length ≤ 1000000 → vs.toArray.size ≤ sizeLine := fun h => by rw [sz, sizeLine_eq]; lia
  induction st using Option.casesOn with
  | none =>
    refine oif_e g fun hl g => ?_
    refine some_e g ?_
    refine wpAny_getItem_list_slice (lsO_isList (fin _ _ e1)) hsl pl pu ps (by simp) ?_ (hz hl)
    refine ⟨φ, s.heap.objs.size, 0, cut lo hi vs, .push fin _ s.toks, rfl, ?_, r1.cut lo hi, fz_size fin, get_size_none _⟩
    rw [Heap.get?_push_size _ rfl, slicePick_cut]; rfl
  | some k =>
    obtain ⟨⟨h1, e2, e3, e4⟩, g3⟩ := oif_inv g
    refine some_e g3 ?_
    subst e2 e3 e4
    refine wpAny_getItem_list_slice (lsO_isList (fin _ _ e1)) hsl pl pu ps (by simp) ?_ (hz h1)
    refine ⟨φ, s.heap.objs.size, 0, vs.reverse, .push fin _ s.toks, rfl, ?_, r1.reverse, fz_size fin, get_size_none _⟩
    rw [Heap.get?_push_size _ rfl, krv_pick]; rfl
theorem part_of {v : Value} {lo : Option Int} (h : IsPart v lo) : ∃ p, v = partValue p ∧ p.map (·.1) = lo := by
  cases h with
  | none => exact ⟨none, rfl, rfl⟩
  | int i t => exact ⟨some (i, t), rfl, rfl⟩
theorem strIndices_plain (lo hi : Option Int) (n : Nat) : Builtin.Str.strSliceIndices lo hi 1 n = (List.range (hi.elim n (clipAt n) - lo.elim 0 (clipAt n))).map (lo.elim 0 (clipAt n) + ·) := by
  rw [← sliceRange_one]
  unfold Builtin.Str.strSliceIndices
  induction lo using Option.casesOn <;> induction hi using Option.casesOn <;> simp [clipAt_cast]
theorem clipAt_le (n : Nat) (i : Int) : clipAt n i ≤ n := by have := clipAt_cast n i; lia
set_option tactic.hygienic true in
theorem getSliceS_ok {v vl vu vt : Value} {sl : Addr} {lo hi st : Option Int} {d r : D} (fin : ∀ a o, φ a = some o → s.heap.get? a = some o) (x : Rep φ v d) (hsl : s.heap.IsSliceOf sl vl vu vt)
    (pl : IsPart vl lo) (pu : IsPart vu hi) (ps : IsPart vt st) (h : cutS d lo hi st = some r) : wpAny (model prog wd) A (getItem v (.ref sl)) (EP φ s r) E s := by
  refine o1_e h fun l hd g => ?_
  have qq := strD_inv hd; subst qq
  obtain ⟨⟨hst, hl⟩, g⟩ := oif_inv g
  refine some_e g ?_
  subst hst
  unfold lim at hl
  refine x.sStr fun t => ?_
  cases ps
  refine e1a2 (part_of pl) fun p rr1 rr2 => ?_
  subst rr1 rr2
  refine e1a2 (part_of pu) fun q rr1 rr2 => ?_
  subst rr1 rr2
  refine wpAny_getItem_str_slice (l := p) (u := q) (st := none) hsl (by rfl) ?_
  have e : (slicePicked ⟨l.toArray⟩ p q none).filterMap ((⟨l.toArray⟩ : Str).cps[·]?) = cut (p.map (·.1)) (q.map (·.1)) l := by
    unfold slicePicked cut
    rw [show ((none : Option (Int × Tok)).map (·.1)).getD 1 = 1 from rfl, strIndices_plain, str_len, pick_run]
  unfold sliceMade
  split
  · rename_i hc
    have : cut (p.map (·.1)) (q.map (·.1)) l = l := by
      have hc := (Bool.and_eq_true_iff.mp hc).2
      unfold slicePicked at hc
      rw [show ((none : Option (Int × Tok)).map (·.1)).getD 1 = 1 from rfl, strIndices_plain, str_len] at hc
      simp only [List.length_map, List.length_range, beq_iff_eq] at hc
      unfold cut
      have h1 : (q.map (·.1)).elim l.length (clipAt l.length) ≤ l.length := by induction q using Option.casesOn <;> simp [clipAt_le]
      by_cases hz : l.length = 0
      · have : l = [] := List.length_eq_zero_iff.mp hz
        subst this; simp
      · rw [show (p.map (·.1)).elim 0 (clipAt l.length) = 0 by lia, show (q.map (·.1)).elim l.length (clipAt l.length) = l.length by lia]
        simp
    rw [this]; exact EP.pure fin (.str _ _)
  · rw [e]
    refine ⟨?_, EP.tk fin (.str _ _)⟩
    rw [str_len]; have := cut_length_le (p.map (·.1)) (q.map (·.1)) l; rw [sizeLine_eq]; lia
end
end Mine

namespace Mine
open PySem PySem.W PySem.Calls PyProof.Rows PySem.SeqAt

/-! the ground that every call stands on -/
structure Gd where
  prog : Program
  w : World
  h : Heap
structure Gnd (G : Gd) (φ : Fz) (s : Shared) : Prop where
  gnd : ∀ b o, G.h.get? b = some o → φ b = some o
  fin : ∀ a o, φ a = some o → s.heap.get? a = some o
theorem Gnd.step {G : Gd} {φ φ' : Fz} {s s' : Shared} (g : Gnd G φ s) (x : Step φ s φ' s') : Gnd G φ' s' := ⟨fun b o e => x.up b o (g.gnd b o e), x.fin⟩
theorem Gnd.keep {G : Gd} {φ : Fz} {s : Shared} (g : Gnd G φ s) : ∀ b o, G.h.get? b = some o → s.heap.get? b = some o := fun b o e => g.fin b o (g.gnd b o e)
structure Room (A : Around) (l : Nat) : Prop where
  handled : A.handled = none
  depth : A.depth + l < recursionLimit
  units : A.units + 8 * l + 80 < cLine
theorem Room.in1 {A : Around} {l : Nat} (r : Room A (l + 1)) : Room A.in1 l := ⟨r.handled, by have := r.depth; rw [Around.in1_depth]; lia, by have := r.units; rw [Around.in1_units]; lia⟩
theorem Room.deeper {A : Around} {l : Nat} (r : Room A (l + 1)) (env : Env) : Room (A.deeper env) l := ⟨r.handled, by have := r.depth; show A.depth + 1 + l < _; lia, by have := r.units; rw [Around.deeper_units]; lia⟩
theorem Room.le {A : Around} {l k : Nat} (r : Room A l) (h : k ≤ l) : Room A k := ⟨r.handled, Nat.lt_of_le_of_lt (Nat.add_le_add_left h _) r.depth, Nat.lt_of_le_of_lt (Nat.add_le_add_right (Nat.add_le_add_left (Nat.mul_le_mul_left 8 h) _) 80) r.units⟩

/-! names: where a name's value lies, and what it is -/
inductive Loc where
  | loc
  | own (ca : Addr)
  | fre (ca : Addr)
inductive LV where
  | un
  | fz (d : D)
  | ow (l : List D)
  | oi (y C : Addr) (fs : List (Str × D))
inductive CV where
  | un
  | fz (v : Value) (d : D)
  | ow (a : Addr) (l : List D)
  | oi (x dx C : Addr) (fs : List (Str × D))
noncomputable def CV.ab : CV → LV
  | .un => .un
  | .fz _ d => .fz d
  | .ow _ l => .ow l
  | .oi y _ C fs => .oi y C fs
theorem ab_ow {cv : CV} {l : List D} (h : cv.ab = .ow l) : ∃ a, cv = .ow a l := by
  induction cv using Mine.CV.casesOn <;> first | exact LV.noConfusion h | exact LV.noConfusion h fun e => ⟨_, by rw [e]⟩
theorem ab_oi {cv : CV} {y C : Addr} {fs : List (Str × D)} (h : cv.ab = .oi y C fs) : ∃ dx, cv = .oi y dx C fs := by
  induction cv using Mine.CV.casesOn <;> first | exact LV.noConfusion h | exact LV.noConfusion h fun e1 e2 e3 => ⟨_, by rw [e1, e2, e3]⟩
theorem ab_fz {cv : CV} {d : D} (h : cv.ab = .fz d) : ∃ v, cv = .fz v d := by
  induction cv using Mine.CV.casesOn <;> first | exact LV.noConfusion h | exact LV.noConfusion h fun e => ⟨_, by rw [e]⟩
noncomputable def CV.val? : CV → Option Value
  | .un => none
  | .fz v _ => some v
  | .ow a _ => some (.ref a)
  | .oi x _ _ _ => some (.ref x)
noncomputable def CV.priv : CV → List Addr
  | .ow a _ => [a]
  | .oi x dx _ _ => [x, dx]
  | _ => []
structure CE where
  x : Str
  loc : Loc
  cv : CV
noncomputable def Loc.priv : Loc → List Addr
  | .own ca => [ca]
  | _ => []
noncomputable def CE.priv (e : CE) : List Addr := e.loc.priv ++ e.cv.priv
noncomputable abbrev Rho := List (Str × LV)
noncomputable def abs (c : List CE) : Rho := c.map fun e => (e.x, e.cv.ab)
noncomputable def privs (env : Env) (c : List CE) : List Addr := env.locals :: c.flatMap CE.priv

noncomputable def KeyOk (w : World) (es : List DictEntry) : Prop := ∀ e ∈ es, ∃ x t, e.key = .str x t ∧ e.hash = PyData.keyHash w.params x

noncomputable def Slot (hb : Heap) (env : Env) (h : Heap) (m : Str → Option Value) (e : CE) : Prop := match e.loc with
  | .loc => env.kindOf e.x = some .local ∧ ∀ v, e.cv.val? = some v → m e.x = some v
  | .own ca => env.kindOf e.x = some .cell ∧ env.cells.lookup e.x = some ca ∧ ∃ ov, h.IsCell ca ov ∧ ∀ v, e.cv.val? = some v → ov = some v
  | .fre ca => (env.kindOf e.x = some .free ∨ env.kindOf e.x = some .cell) ∧ env.cells.lookup e.x = some ca ∧ ∃ ov, hb.IsCell ca ov ∧ ∀ v, e.cv.val? = some v → ov = some v
noncomputable def Good (w : World) (φ : Fz) (h : Heap) : CV → Prop
  | .un => True
  | .fz v d => Rep φ v d
  | .ow a l => ∃ n vs, h.get? a = some (lsO vs n) ∧ RepL φ vs l
  | .oi x dx C fs => h.get? x = some (instObj C dx) ∧ ∃ es n, h.get? dx = some (dictOf es n) ∧ RepF φ es fs ∧ KeyOk w es

noncomputable def LocOk : Option NameKind → Loc → Prop
  | some .local, .loc => True
  | some .cell, .own _ => True
  | some .free, .fre _ => True
  | _, _ => False
theorem locOk_fre {o : Option NameKind} {ca : Addr} (h : LocOk o (.fre ca)) : o = some .free := by
  induction o using Option.casesOn with
  | none => exact h.elim
  | some k => induction k using PySem.NameKind.casesOn <;> first | rfl | exact h.elim
structure St (G : Gd) (hb : Heap) (sc : Scope) (env : Env) (c : List CE) (φ : Fz) (s : Shared) : Prop where
  g : Gnd G φ s
  base : ∀ b o, hb.get? b = some o → s.heap.get? b = some o
  kind : env.scope.kind = .function
  glo : env.globals = mainGlobals
  bui : env.builtins = builtinsNs
  gk : ∀ x, sc.names.lookup x = some .globalImplicit → env.kindOf x = some .globalImplicit
  lk : ∀ e ∈ c, LocOk (sc.names.lookup e.x) e.loc
  nd : (c.map (·.x)).Nodup
  pnd : (privs env c).Nodup
  pfz : ∀ a ∈ privs env c, φ a = none
  pbs : ∀ a ∈ privs env c, hb.get? a = none
  vars : ∃ m, s.heap.Ns env.locals m ∧ ∀ e ∈ c, Slot hb env s.heap m e ∧ Good G.w φ s.heap e.cv

theorem Good.mono {w : World} {φ φ' : Fz} {h h' : Heap} {cv : CV} (g : Good w φ h cv) (up : ∀ a o, φ a = some o → φ' a = some o) (ext : ∀ a ∈ cv.priv, ∀ o, h.get? a = some o → h'.get? a = some o) : Good w φ' h' cv := by
  induction cv using Mine.CV.casesOn with
  | un => trivial
  | fz v d => exact Rep.mono up g
  | ow a l => obtain ⟨n, vs, e, r⟩ := g; exact ⟨n, vs, ext _ (.head _) _ e, r.mono up⟩
  | oi x dx C fs => obtain ⟨e, es, n, f, r, k⟩ := g; exact ⟨ext _ (.head _) _ e, es, n, ext _ (.tail _ (.head _)) _ f, r.mono up, k⟩
theorem Slot.mono {hb : Heap} {env : Env} {h h' : Heap} {m : Str → Option Value} {e : CE} (x : Slot hb env h m e) (ext : ∀ a ∈ e.loc.priv, ∀ o, h.get? a = some o → h'.get? a = some o) : Slot hb env h' m e := by
  obtain ⟨n, loc, cv⟩ := e
  induction loc using Mine.Loc.casesOn with
  | loc => exact x
  | own ca => obtain ⟨h1, h2, ov, h3, h4⟩ := x; exact ⟨h1, h2, ov, (let ⟨o, ho, hd⟩ := h3; ⟨o, ext _ (.head _) _ ho, hd⟩), h4⟩
  | fre ca => exact x
theorem St.privLive {G : Gd} {hb : Heap} {sc : Scope} {env : Env} {c : List CE} {φ : Fz} {s : Shared} (S : St G hb sc env c φ s) : ∀ a ∈ privs env c, ∃ o, s.heap.get? a = some o := by
  refine e1a2 S.vars fun m hn hv => fun a ha => ?_
  rcases List.mem_cons.mp ha with rfl | ha
  · obtain ⟨o, _, _, ho, _⟩ := hn; exact ⟨o, ho⟩
  · obtain ⟨e, he, hp⟩ := List.mem_flatMap.mp ha
    have hvs := hv e he
    obtain ⟨n, loc, cv⟩ := e
    rcases List.mem_append.mp hp with hp | hp
    · induction loc using Mine.Loc.casesOn with
      | own ca => obtain ⟨_, _, _, ⟨o, ho, _⟩, _⟩ := hvs.1; exact ⟨o, List.mem_singleton.mp hp ▸ ho⟩
      | loc => exact (List.not_mem_nil hp).elim
      | fre ca => exact (List.not_mem_nil hp).elim
    · induction cv using Mine.CV.casesOn with
      | ow b l => obtain ⟨n, vs, e, _⟩ := hvs.2; exact ⟨_, List.mem_singleton.mp hp ▸ e⟩
      | oi y dy C fs =>
        obtain ⟨e, es, n, f, _⟩ := hvs.2
        exact (List.mem_cons.mp hp).elim (fun z => ⟨_, z ▸ e⟩) fun z => ⟨_, List.mem_singleton.mp z ▸ f⟩
      | un => exact (List.not_mem_nil hp).elim
      | fz v d => exact (List.not_mem_nil hp).elim
theorem St.step {G : Gd} {hb : Heap} {sc : Scope} {env : Env} {c : List CE} {φ φ' : Fz} {s s' : Shared} (S : St G hb sc env c φ s) (x : Step φ s φ' s') : St G hb sc env c φ' s' := by
  refine e1a2 (S.vars) fun m hn hv => ?_
  refine ⟨S.g.step x, fun b o e => x.ext b o (S.base b o e), S.kind, S.glo, S.bui, S.gk, S.lk, S.nd, S.pnd, fun a ha => ?_, S.pbs, m, hn.keeps x.ext, fun e he => ⟨(hv e he).1.mono fun a _ o h => x.ext a o h, (hv e he).2.mono x.up fun a _ o h => x.ext a o h⟩⟩
  generalize q : φ' a = r_; induction r_ using Option.casesOn with
  | none => rfl
  | some o =>
    rcases x.new a o q with h | h
    · rw [S.pfz a ha] at h; exact no_none h
    · exfalso
      obtain ⟨o, w⟩ := S.privLive a ha
      rw [w] at h; exact no_some h
set_option tactic.hygienic true in
theorem abs_lookup {c : List CE} {x : Str} {lv : LV} (h : (abs c).lookup x = some lv) : ∃ e ∈ c, e.x = x ∧ e.cv.ab = lv := by
  induction c with
  | nil => cases h
  | cons e c ih =>
    rw [abs, List.map_cons, List.lookup_cons] at h
    split at h
    · rename_i q
      have qq := Option.some.inj (h); subst qq
      exact ⟨e, List.mem_cons_self, (beq_iff_eq.mp q).symm, rfl⟩
    · refine e1a2 (ih h) fun e' m r => ?_
      exact ⟨e', List.mem_cons_of_mem _ m, r⟩
theorem St.load {G : Gd} {hb : Heap} {sc : Scope} {env : Env} {c : List CE} {φ : Fz} {s : Shared} (S : St G hb sc env c φ s) {e : CE} (he : e ∈ c) {v : Value} (hv : e.cv.val? = some v) {M : Model} {A : Around} {Q : Value → Shared → Prop} {E : Value → Shared → Prop}
    (hc : (e.x == ("__classdict__" : Str)) = false) (q : Q v s) : wpAny M A (loadName env e.x) Q E s := by
  refine e1a2 (S.vars) fun m hn hv' => ?_
  have hs := (hv' e he).1
  obtain ⟨n, loc, cv⟩ := e
  induction loc using Mine.Loc.casesOn with
  | loc => exact wpAny_loadName_local S.kind hs.1 hn (hs.2 v hv) q
  | own ca =>
    obtain ⟨h1, h2, ov, h3, h4⟩ := hs
    rw [h4 v hv] at h3
    exact wpAny_loadName_cell S.kind h1 h2 h3 q
  | fre ca =>
    obtain ⟨h1, h2, ov, h3, h4⟩ := hs
    rw [h4 v hv] at h3
    rcases h1 with h1 | h1
    · exact wpAny_loadName_free S.kind h1 h2 (h3.keeps S.base) q hc
    · exact wpAny_loadName_cell S.kind h1 h2 (h3.keeps S.base) q

/-! storing -/
noncomputable def setC (c : List CE) (x : Str) (cv : CV) : List CE := c.map fun e => if e.x = x then { e with cv := cv } else e
noncomputable def setR (ρ : Rho) (x : Str) (lv : LV) : Rho := ρ.map fun p => if p.1 = x then (p.1, lv) else p
theorem abs_set (c : List CE) (x : Str) (cv : CV) : abs (setC c x cv) = setR (abs c) x cv.ab := by
  simp only [abs, setC, setR, List.map_map]
  apply List.map_congr_left
  intro e _
  simp only [Function.comp]
  by_cases h : e.x = x <;> simp [h]
theorem set_names (c : List CE) (x : Str) (cv : CV) : (setC c x cv).map (·.x) = c.map (·.x) := by
  simp only [setC, List.map_map]
  apply List.map_congr_left
  intro e _
  simp only [Function.comp]
  by_cases h : e.x = x <;> simp [h]
theorem mem_set {c : List CE} {x : Str} {cv : CV} {e : CE} (h : e ∈ setC c x cv) : (∃ e' ∈ c, e'.x = x ∧ e = { e' with cv := cv }) ∨ (e ∈ c ∧ e.x ≠ x) := by
  refine e1a2 (List.mem_map.mp h) fun e' m q => ?_
  by_cases k : e'.x = x
  · rw [if_pos k] at q; exact .inl ⟨e', m, k, q.symm⟩
  · rw [if_neg k] at q; subst q; exact .inr ⟨m, k⟩
theorem set_none {c : List CE} {x : Str} {cv : CV} (h : x ∉ c.map (·.x)) : setC c x cv = c := by
  unfold setC
  conv => rhs; rw [← List.map_id c]
  apply List.map_congr_left
  intro e he
  rw [if_neg (fun k => h (List.mem_map.mpr ⟨e, he, k⟩))]; rfl
theorem set_cons (e : CE) (c : List CE) (x : Str) (cv : CV) : setC (e :: c) x cv = (if e.x = x then { e with cv := cv } else e) :: setC c x cv := rfl
theorem priv_with (e : CE) (cv : CV) : CE.priv { e with cv := cv } = e.loc.priv ++ cv.priv := rfl
theorem mem_setPriv {c : List CE} {x : Str} {cv : CV} {a : Addr} (h : a ∈ (setC c x cv).flatMap CE.priv) : a ∈ cv.priv ∨ a ∈ c.flatMap CE.priv := by
  refine e1a2 (List.mem_flatMap.mp h) fun e m p => ?_
  rcases mem_set m with ⟨e', m', k, rfl⟩ | ⟨m', k⟩
  · rw [priv_with] at p
    rcases List.mem_append.mp p with q | q
    · exact .inr (List.mem_flatMap.mpr ⟨e', m', List.mem_append_left _ q⟩)
    · exact .inl q
  · exact .inr (List.mem_flatMap.mpr ⟨e, m', p⟩)
theorem nodup_setPriv : ∀ {c : List CE} {x : Str} {cv : CV}, (c.map (·.x)).Nodup → (c.flatMap CE.priv).Nodup → cv.priv.Nodup → (∀ a ∈ cv.priv, a ∉ c.flatMap CE.priv) → ((setC c x cv).flatMap CE.priv).Nodup
  | [], _, _, _, _, _, _ => List.nodup_nil
  | e :: c, x, cv, n, p, q, f => by
    rw [List.map_cons, List.nodup_cons] at n
    rw [List.flatMap_cons, List.nodup_append] at p
    refine e0a3 (p) fun p1 p2 p3 => ?_
    rw [set_cons]
    by_cases k : e.x = x
    · rw [if_pos k, set_none (by rw [← k]; exact n.1), List.flatMap_cons, priv_with, List.nodup_append]
      have p1' : (e.loc.priv ++ e.cv.priv).Nodup := p1
      rw [List.nodup_append] at p1'
      refine ⟨?_, p2, ?_⟩
      · rw [List.nodup_append]
        exact ⟨p1'.1, q, fun a ha b hb e' => f b hb (List.mem_flatMap.mpr ⟨e, List.mem_cons_self, List.mem_append_left _ (e' ▸ ha)⟩)⟩
      · intro a ha b hb e'
        rcases List.mem_append.mp ha with ha | ha
        · exact p3 a (List.mem_append_left _ ha) b hb e'
        · exact f a ha (by rw [e', List.flatMap_cons]; exact List.mem_append_right _ hb)
    · rw [if_neg k, List.flatMap_cons, List.nodup_append]
      refine ⟨p1, nodup_setPriv n.2 p2 q fun a ha m => f a ha (by rw [List.flatMap_cons]; exact List.mem_append_right _ m), fun a ha b hb e' => ?_⟩
      rcases mem_setPriv hb with hb | hb
      · exact f b hb (by rw [List.flatMap_cons]; exact List.mem_append_left _ (e' ▸ ha))
      · exact p3 a ha b hb e'
theorem mem_priv_ne {env : Env} {c : List CE} (pnd : (privs env c).Nodup) {e : CE} (he : e ∈ c) {a : Addr} (ha : a ∈ e.priv) : a ≠ env.locals := by
  rw [privs, List.nodup_cons] at pnd
  intro q
  exact pnd.1 (q ▸ List.mem_flatMap.mpr ⟨e, he, ha⟩)
theorem priv_apart : ∀ {c : List CE}, (c.flatMap CE.priv).Nodup → ∀ {e e' : CE}, e ∈ c → e' ∈ c → e.x ≠ e'.x → ∀ a ∈ e.priv, a ∉ e'.priv
  | [], _, _, _, h, _, _, _, _ => by cases h
  | f :: c, p, e, e', h, h', k, a, ha => by
    rw [List.flatMap_cons, List.nodup_append] at p
    refine e0a3 (p) fun p1 p2 p3 => ?_
    intro ha'
    rcases List.mem_cons.mp h with z | z
    · rcases List.mem_cons.mp h' with z' | z'
      · exact k (by rw [z, z'])
      · exact p3 a (z ▸ ha) a (List.mem_flatMap.mpr ⟨e', z', ha'⟩) rfl
    · rcases List.mem_cons.mp h' with z' | z'
      · exact p3 a (z' ▸ ha') a (List.mem_flatMap.mpr ⟨e, z, ha⟩) rfl
      · exact priv_apart p2 z z' k a ha ha'

theorem priv_nodup {c : List CE} (p : (c.flatMap CE.priv).Nodup) {e : CE} (h : e ∈ c) : e.priv.Nodup := by
  induction c with
  | nil => cases h
  | cons f c ih =>
    rw [List.flatMap_cons, List.nodup_append] at p
    exact (List.mem_cons.mp h).elim (fun z => z ▸ p.1) (ih p.2.1)
structure Fit (G : Gd) (hb : Heap) (env : Env) (c : List CE) (φ : Fz) (s : Shared) (cv : CV) : Prop where
  good : Good G.w φ s.heap cv
  nd : cv.priv.Nodup
  off : ∀ a ∈ cv.priv, a ∉ privs env c ∧ φ a = none ∧ hb.get? a = none
theorem Fit.fz {G : Gd} {hb : Heap} {env : Env} {c : List CE} {φ : Fz} {s : Shared} {v : Value} {d : D} (r : Rep φ v d) : Fit G hb env c φ s (.fz v d) := ⟨r, List.nodup_nil, fun _ h => (no_mem h)⟩

theorem St.setWith {G : Gd} {hb : Heap} {sc : Scope} {env : Env} {c : List CE} {φ : Fz} {s : Shared} (S : St G hb sc env c φ s) {x : Str} {cv : CV} (F : Fit G hb env c φ s cv) {h' : Heap} {tk : Nat} {b : Addr}
    (hsb : Heap.SameBut b s.heap h') (hbp : b ∈ privs env c) (hbc : b ∉ c.flatMap (fun e => e.cv.priv))
    (hm : ∃ m, h'.Ns env.locals m ∧ ∀ e ∈ c, (e.x ≠ x → Slot hb env h' m e) ∧ (e.x = x → Slot hb env h' m { e with cv := cv })) : St G hb sc env (setC c x cv) φ { s with heap := h', toks := tk } := by
  refine e1a2 (hm) fun m hn hs => ?_
  refine e1a2 (S.vars) fun m₀ _ hv => ?_
  have pnd := S.pnd
  rw [privs, List.nodup_cons] at pnd
  have up : ∀ a o, a ≠ b → s.heap.get? a = some o → h'.get? a = some o := fun a o n e => (hsb.2 a n).trans e
  refine ⟨⟨S.g.gnd, fun a o e => up a o (fun q => ?_) (S.g.fin a o e)⟩, fun a o e => up a o (fun q => ?_) (S.base a o e), S.kind, S.glo, S.bui, S.gk, fun e he => ?_, by rw [set_names]; exact S.nd, ?_, fun a ha => ?_, fun a ha => ?_, m, hn, fun e he => ?_⟩
  · rw [q, S.pfz b hbp] at e; exact no_none e
  · rw [q, S.pbs b hbp] at e; exact no_none e
  · rcases mem_set he with ⟨e', m', k, rfl⟩ | ⟨m', k⟩
    · exact S.lk e' m'
    · exact S.lk e m'
  · rw [privs, List.nodup_cons]
    refine ⟨fun q => ?_, nodup_setPriv S.nd pnd.2 F.nd fun a ha q => (F.off a ha).1 (List.mem_cons_of_mem _ q)⟩
    rcases mem_setPriv q with q | q
    · exact (F.off _ q).1 List.mem_cons_self
    · exact pnd.1 q
  · rcases List.mem_cons.mp ha with rfl | ha
    · exact S.pfz _ List.mem_cons_self
    · rcases mem_setPriv ha with q | q
      · exact (F.off _ q).2.1
      · exact S.pfz _ (List.mem_cons_of_mem _ q)
  · rcases List.mem_cons.mp ha with rfl | ha
    · exact S.pbs _ List.mem_cons_self
    · rcases mem_setPriv ha with q | q
      · exact (F.off _ q).2.2
      · exact S.pbs _ (List.mem_cons_of_mem _ q)
  · rcases mem_set he with ⟨e', m', k, rfl⟩ | ⟨m', k⟩
    · exact ⟨(hs e' m').2 k, F.good.mono (fun _ _ e => e) fun a ha o e => up a o (fun q => (F.off a ha).1 (q ▸ hbp)) e⟩
    · exact ⟨(hs e m').1 k, (hv e m').2.mono (fun _ _ e => e) fun a ha o e' => up a o (fun q => hbc (List.mem_flatMap.mpr ⟨e, m', q ▸ ha⟩)) e'⟩

theorem name_inj {c : List CE} (nd : (c.map (·.x)).Nodup) {e e' : CE} (h : e ∈ c) (h' : e' ∈ c) (k : e.x = e'.x) : e = e' := by
  induction c with
  | nil => cases h
  | cons f c ih =>
    rw [List.map_cons, List.nodup_cons] at nd
    rcases List.mem_cons.mp h with z | z
    · rcases List.mem_cons.mp h' with z' | z'
      · rw [z, z']
      · exact absurd (List.mem_map.mpr ⟨e', z', by rw [← k, z]⟩) nd.1
    · rcases List.mem_cons.mp h' with z' | z'
      · exact absurd (List.mem_map.mpr ⟨e, z, by rw [k, z']⟩) nd.1
      · exact ih nd.2 z z'

theorem St.store {G : Gd} {hb : Heap} {sc : Scope} {env : Env} {c : List CE} {φ : Fz} {s : Shared} (S : St G hb sc env c φ s) {e : CE} (he : e ∈ c) (hk : sc.names.lookup e.x ≠ some .free) {cv : CV} {v : Value} (hv : cv.val? = some v) (F : Fit G hb env c φ s cv)
    {M : Model} {A : Around} {Q : Unit → Shared → Prop} {E : Value → Shared → Prop} (q : ∀ h' tk, St G hb sc env (setC c e.x cv) φ { s with heap := h', toks := tk } → (∃ b ∈ privs env c, Heap.SameBut b s.heap h') → Q () { s with heap := h', toks := tk }) :
    wpAny M A (storeName env e.x v) Q E s := by
  refine e1a2 (S.vars) fun m hn hs => ?_
  have hse := (hs e he).1
  have hlk := S.lk e he
  have pnd := S.pnd
  rw [privs, List.nodup_cons] at pnd
  obtain ⟨x, loc, cv₀⟩ := e
  induction loc using Mine.Loc.casesOn with
  | loc =>
    refine wpAny_storeName_local hse.1 hn (fun h' hn' hsb => ?_) (by rw [S.kind]; rfl)
    refine q h' _ (S.setWith (b := env.locals) F hsb List.mem_cons_self (fun m' => ?_) ⟨_, hn', fun e' he' => ⟨fun k => ?_, fun k => ?_⟩⟩) ⟨_, List.mem_cons_self, hsb⟩
    · refine e1a2 (List.mem_flatMap.mp m') fun e' h1 h2 => ?_
      exact pnd.1 (List.mem_flatMap.mpr ⟨e', h1, List.mem_append_right _ h2⟩)
    · have hse' := (hs e' he').1
      have ne := fun a (ha : a ∈ e'.loc.priv) => mem_priv_ne S.pnd he' (List.mem_append_left _ ha)
      obtain ⟨x', loc', cv'⟩ := e'
      induction loc' using Mine.Loc.casesOn with
      | loc => exact ⟨hse'.1, fun w hw => by show (if x' = x then _ else _) = _; rw [if_neg k]; exact hse'.2 w hw⟩
      | own ca => exact Slot.mono (h := s.heap) hse' fun a ha o e => (hsb.2 a (ne a ha)).trans e
      | fre ca => exact hse'
    · have : e' = ⟨x, .loc, cv₀⟩ := name_inj S.nd he' he k
      subst this
      exact ⟨hse.1, fun w hw => by show (if x = x then _ else _) = _; rw [if_pos rfl]; rw [hv] at hw; exact hw⟩
  | own ca =>
    obtain ⟨h1, h2, ov, h3, h4⟩ := hse
    refine wpAny_storeName_cell S.kind h1 h2 h3 fun h' hc' hsb => ?_
    have hcp : ca ∈ c.flatMap CE.priv := List.mem_flatMap.mpr ⟨_, he, .head _⟩
    have hne : env.locals ≠ ca := fun q => pnd.1 (q ▸ hcp)
    refine q h' s.toks (S.setWith (b := ca) F hsb (List.mem_cons_of_mem _ hcp) (fun m' => ?_) ⟨m, hn.sameBut hsb hne, fun e' he' => ⟨fun k => ?_, fun k => ?_⟩⟩) ⟨_, List.mem_cons_of_mem _ hcp, hsb⟩
    · refine e1a2 (List.mem_flatMap.mp m') fun e' g1 g2 => ?_
      by_cases k : e'.x = x
      · have : e' = ⟨x, .own ca, cv₀⟩ := name_inj S.nd g1 he k
        subst this
        have p := S.pnd
        rw [privs, List.nodup_cons] at p
        have : ((⟨x, .own ca, cv₀⟩ : CE).priv).Nodup := priv_nodup p.2 he
        have : (ca :: cv₀.priv).Nodup := this
        rw [List.nodup_cons] at this
        exact this.1 g2
      · exact priv_apart pnd.2 he g1 (fun z => k z.symm) ca (.head _) (List.mem_append_right _ g2)
    · have hse' := (hs e' he').1
      refine Slot.mono hse' fun a ha o e => (hsb.2 a fun z => ?_).trans e
      exact priv_apart pnd.2 he he' (fun z => k z.symm) ca (.head _) (List.mem_append_left _ (z ▸ ha))
    · have : e' = ⟨x, .own ca, cv₀⟩ := name_inj S.nd he' he k
      subst this
      exact ⟨h1, h2, some v, hc', fun w hw => by rw [hv] at hw; exact hw⟩
  | fre ca =>
    exact (hk (locOk_fre hlk)).elim
end Mine

namespace Mine
open PySem PySem.W PySem.Calls PyProof.Rows PySem.SeqAt

theorem St.forget {G : Gd} {hb : Heap} {sc : Scope} {env : Env} {c : List CE} {φ : Fz} {s : Shared} (S : St G hb sc env c φ s) (x : Str) : St G hb sc env (setC c x .un) φ s := by
  refine e1a2 (S.vars) fun m hn hv => ?_
  have pnd := S.pnd
  rw [privs, List.nodup_cons] at pnd
  refine ⟨S.g, S.base, S.kind, S.glo, S.bui, S.gk, fun e he => ?_, by rw [set_names]; exact S.nd, ?_, fun a ha => ?_, fun a ha => ?_, m, hn, fun e he => ?_⟩
  · rcases mem_set he with ⟨e', m', k, rfl⟩ | ⟨m', k⟩
    · exact S.lk e' m'
    · exact S.lk e m'
  · rw [privs, List.nodup_cons]
    refine ⟨fun q => ?_, nodup_setPriv S.nd pnd.2 List.nodup_nil fun a ha => (no_mem ha)⟩
    rcases mem_setPriv q with q | q
    · cases q
    · exact pnd.1 q
  · rcases List.mem_cons.mp ha with rfl | ha
    · exact S.pfz _ List.mem_cons_self
    · rcases mem_setPriv ha with q | q
      · cases q
      · exact S.pfz _ (List.mem_cons_of_mem _ q)
  · rcases List.mem_cons.mp ha with rfl | ha
    · exact S.pbs _ List.mem_cons_self
    · rcases mem_setPriv ha with q | q
      · cases q
      · exact S.pbs _ (List.mem_cons_of_mem _ q)
  · rcases mem_set he with ⟨e', m', k, rfl⟩ | ⟨m', k⟩
    · refine ⟨?_, trivial⟩
      have h := (hv e' m').1
      obtain ⟨n, loc, cv⟩ := e'
      induction loc using Mine.Loc.casesOn with
      | loc => exact ⟨h.1, fun v z => (no_none z)⟩
      | own ca => obtain ⟨h1, h2, ov, h3, _⟩ := h; exact ⟨h1, h2, ov, h3, fun v z => (no_none z)⟩
      | fre ca => obtain ⟨h1, h2, ov, h3, _⟩ := h; exact ⟨h1, h2, ov, h3, fun v z => (no_none z)⟩
    · exact hv e m'

/-! going through -/
noncomputable def rngL (a b c : Int) : List Int := if c = 1 then (List.range (b - a).toNat).map (fun i : Nat => a + (i : Int)) else (List.range (a - b).toNat).map (fun i : Nat => a - (i : Int))
theorem rng_size {a b c : Int} (h : c = 1 ∨ c = -1) : Builtin.Range.rangeSize a b c = ((rngL a b c).length : Int) := by
  unfold Builtin.Range.rangeSize rngL
  rcases h with rfl | rfl
  · rw [if_pos (by decide), if_pos rfl]; simp; split <;> lia
  · rw [if_neg (by decide), if_neg (by decide : ¬ (-1 : Int) = 1)]; simp; split <;> lia
theorem rng_get {a b c : Int} (h : c = 1 ∨ c = -1) {i : Nat} (hi : i < (rngL a b c).length) : (rngL a b c)[i]? = some (a + (i : Int) * c) := by
  unfold rngL at *
  rcases h with rfl | rfl
  · rw [if_pos rfl] at *; simp at hi; simp [hi]
  · rw [if_neg (by decide)] at *; simp at hi; simp [hi]; lia
noncomputable def itD : D → Option (List D)
  | .list l => if l.length ≤ lim then some l else none
  | .tup l => if l.length ≤ lim then some l else none
  | .str l => if l.length ≤ lim then some (l.map fun c => .str [c]) else none
  | .bytes l => if l.length ≤ lim then some (l.map fun b => .int (b.toNat : Int)) else none
  | .rng a b c => if -1000000 ≤ a ∧ a ≤ 1000000 ∧ -1000000 ≤ b ∧ b ≤ 1000000 ∧ (c = 1 ∨ c = -1) then some ((rngL a b c).map .int) else none
  | _ => none

noncomputable def ownsTuple : List String := ["enumerate", "zip", "dict_itemiterator", "dict_reverseitemiterator", "odict_iterator", "itertools.zip_longest", "itertools.pairwise"]
structure It (G : Gd) (A : Around) (φ : Fz) (I : Addr) (items : List D) (fp : List Addr) (P : Nat → Value → Prop) (Sx : Nat → Heap → Prop) : Prop where
  W : Walks G.prog G.w A I fp [I] items.length P Sx
  fpf : ∀ b ∈ fp, b = I ∨ ∃ o, φ b = some o
  rep : ∀ i v, i < items.length → P i v → ∃ d, items[i]? = some d ∧ Rep φ v d
  cls : ∀ i h, Sx i h → ∃ o T vs, h.get? I = some o ∧ o.cls = .type T ∧ ownsTuple.contains T = false ∧ o.data = .fields vs
theorem It.mono {G : Gd} {A : Around} {φ φ' : Fz} {I : Addr} {items : List D} {fp : List Addr} {P : Nat → Value → Prop} {Sx : Nat → Heap → Prop} (x : It G A φ I items fp P Sx) (up : ∀ a o, φ a = some o → φ' a = some o) : It G A φ' I items fp P Sx :=
  ⟨x.W, fun b hb => (x.fpf b hb).imp id fun ⟨o, h⟩ => ⟨o, up _ _ h⟩, fun i v hi h => let ⟨d, e, r⟩ := x.rep i v hi h; ⟨d, e, r.mono up⟩, x.cls⟩
theorem go_ok {M : Model} {A : Around} {target : Expr} {I : Addr} {v : Value} {s : Shared} {Q : Unit → Shared → Prop} {E : Value → Shared → Prop}
    (h : ∃ o T vs, s.heap.get? I = some o ∧ o.cls = .type T ∧ ownsTuple.contains T = false ∧ o.data = .fields vs) (q : Q () s) : wpAny M A (letOwnedTupleGo target (.ref I) v) Q E s := by
  refine e3a4 (h) fun o T vs ho hc ht hd => ?_
  have key : ∀ a, wpAny M A (do
      let o ← load I
      match o.cls, o.data with
      | .type n, .fields vs =>
        if ownsTuple.contains n && vs[0]? == some (rawInt a) then
          rule "for.unpacks-the-owned-tuple"
          updateField I 0 .none
      | _, _ => pure () : Sem Unit) Q E s := fun a => by
    refine wpAny_bind (wpAny_load ho ?_)
    rw [hc, hd]
    dsimp only
    rw [ht, Bool.false_and, if_neg Bool.false_ne_true]
    exact wpAny_pure q
  unfold letOwnedTupleGo
  induction target using PySem.Expr.casesOn <;> first | exact wpAny_pure q | (induction v using PySem.Value.casesOn <;> first | exact wpAny_pure q | exact key _)

section
variable {G : Gd} {φ : Fz} {A : Around} {s : Shared} {E : Value → Shared → Prop}
noncomputable def ItR (G : Gd) (A : Around) (φ : Fz) (s : Shared) (items : List D) (it : Value) (s' : Shared) : Prop := ∃ I fp P Sx, it = .ref I ∧ It G A φ I items fp P Sx ∧ Sx 0 s'.heap ∧ Step φ s φ s' ∧ s.heap.get? I = none ∧ φ I = none ∧ ∃ o, s'.heap.get? I = some o
theorem it_new {o : Obj} {items : List D} {fp : List Addr} {P : Nat → Value → Prop} {Sx : Nat → Heap → Prop} (fin : ∀ a o, φ a = some o → s.heap.get? a = some o) (ho : o.isFreed = false) (T : It G A φ s.heap.objs.size items fp P Sx) (st : Sx 0 (s.heap.push o)) :
    ItR G A φ s items (.ref s.heap.objs.size) { s with heap := s.heap.push o } := ⟨_, _, _, _, rfl, T, st, .push fin _ s.toks, get_size_none _, fz_size fin, _, Heap.get?_push_size _ ho⟩
theorem it_two {I a : Addr} {o : Obj} (e : φ a = some o) : ∀ b ∈ [I, a], b = I ∨ ∃ o, φ b = some o := fun b hb => (List.mem_cons.mp hb).imp (fun z => z) fun z => ⟨o, by rw [List.mem_singleton.mp z]; exact e⟩
theorem it_one {I : Addr} : ∀ b ∈ [I], b = I ∨ ∃ o, φ b = some o := fun b hb => .inl (List.mem_singleton.mp hb)
theorem it_str {l : List Nat} {t : Tok} {ty : String} (fin : ∀ a o, φ a = some o → s.heap.get? a = some o) (hty : ownsTuple.contains ty = false)
    (W : Walks G.prog G.w A s.heap.objs.size [s.heap.objs.size] [s.heap.objs.size] (⟨l.toArray⟩ : Str).cps.size (SignAt ⟨l.toArray⟩) (fun i h => h.IsStrIter s.heap.objs.size ty ⟨l.toArray⟩ t i)) :
    ItR G A φ s (l.map fun c => D.str [c]) (.ref s.heap.objs.size) { s with heap := s.heap.push { cls := .type ty, data := .fields #[.str ⟨l.toArray⟩ t, .int 0 0] } } := by
  rw [show (⟨l.toArray⟩ : Str).cps.size = (l.map fun c => D.str [c]).length from (List.length_map ..).symm] at W
  refine it_new fin rfl ⟨W, it_one, fun i v hi hv => ?_, fun i h st => ?_⟩ ⟨_, Heap.get?_push_size _ rfl, rfl, rfl⟩
  · refine e2a2 (hv) fun c u e rr3 => ?_
    exact ⟨.str [c], by rw [List.getElem?_map, show l[i]? = some c from by simpa using e]; rfl, rr3 ▸ .str [c] u⟩
  · refine e1a3 (st) fun o h1 h2 h3 => ?_
    exact ⟨o, _, _, h1, h2, hty, h3⟩
set_option tactic.hygienic true in
theorem iter_ok {v : Value} {d : D} {items : List D} (fin : ∀ a o, φ a = some o → s.heap.get? a = some o) (hh : A.handled = none) (x : Rep φ v d) (h : itD d = some items) :
    wpAny (model G.prog G.w) A (pyIter v) (ItR G A φ s items) E s := by
  induction d using Mine.D.casesOn <;> first | exact no_none h | skip
  case list l =>
    refine oif_e h fun _ h => ?_
    have qq := some_inv h; subst qq
    refine e3a3 (x.iList) fun a vs n q e1 r1 => ?_
    subst q
    have W := Walks.list (prog := G.prog) (w := G.w) hh s.heap.objs.size a (Nat.ne_of_lt (Heap.lt_size (fin _ _ e1))) vs.toArray
    rw [show vs.toArray.size = items.length from r1.length] at W
    refine wpAny_pyIter_list (lsO_isList (fin _ _ e1)) (it_new fin rfl ⟨W, it_two e1, fun i v hi hv => r1.getV (by simpa using hv), fun i h st => ?_⟩ ⟨⟨_, Heap.get?_push_size _ rfl, rfl, rfl⟩, lsO_isList (Heap.get?_push_of_some _ (fin _ _ e1))⟩)
    refine e1a3 (st.1) fun o h1 h2 h3 => ?_
    exact ⟨o, _, _, h1, h2, by decide, h3⟩
  case tup l =>
    refine oif_e h fun _ h => ?_
    have qq := some_inv h; subst qq
    refine e3a3 (x.iTup) fun a vs n q e1 r1 => ?_
    subst q
    have W := Walks.tuple (prog := G.prog) (w := G.w) hh s.heap.objs.size a (Nat.ne_of_lt (Heap.lt_size (fin _ _ e1))) vs.toArray
    rw [show vs.toArray.size = items.length from r1.length] at W
    refine wpAny_pyIter_tuple (tpO_isTuple (fin _ _ e1)) (it_new fin rfl ⟨W, it_two e1, fun i v hi hv => r1.getV (by simpa using hv), fun i h st => ?_⟩ ⟨⟨_, Heap.get?_push_size _ rfl, rfl, rfl⟩, tpO_isTuple (Heap.get?_push_of_some _ (fin _ _ e1))⟩)
    refine e1a3 (st.1) fun o h1 h2 h3 => ?_
    exact ⟨o, _, _, h1, h2, by decide, h3⟩
  case str l =>
    refine oif_e h fun _ h => ?_
    obtain ⟨t, rfl⟩ := x.iStr
    refine some_e h ?_
    generalize ha : (⟨l.toArray⟩ : Str).cps.all (· < 128) = r_; induction r_ using Bool.casesOn
    · exact wpAny_pyIter_wide ha (it_str fin (by decide) (Walks.strWide hh _ _ _))
    · exact wpAny_pyIter_ascii ha (it_str fin (by decide) (Walks.strAscii hh _ _ _))
  case bytes l =>
    refine oif_e h fun _ h => ?_
    obtain ⟨t, rfl⟩ := x.iBytes
    refine some_e h ?_
    have W := KBw.walks (prog := G.prog) (w := G.w) hh s.heap.objs.size l.toArray t
    rw [show l.toArray.size = (l.map fun b => D.int (b.toNat : Int)).length from (List.length_map ..).symm] at W
    refine KBw.pyIter_bytes (it_new fin rfl ⟨W, it_one, fun i v hi hv => ?_, fun i h st => ?_⟩ ⟨_, Heap.get?_push_size _ rfl, rfl, rfl⟩)
    · refine e2a2 (hv) fun c u e rr3 => ?_
      exact ⟨.int (c.toNat : Int), by rw [List.getElem?_map, show l[i]? = some c from by simpa using e]; rfl, rr3 ▸ .int _ u⟩
    · refine e1a3 (st) fun o h1 h2 h3 => ?_
      exact ⟨o, _, _, h1, h2, by decide, h3⟩
  case rng a b c =>
    obtain ⟨⟨a1, a2, b1, b2, hc⟩, h⟩ := oif_inv h
    refine e4a2 (x.iRng) fun r t u w q e1 => ?_
    subst q
    refine some_e h ?_
    have hz := rng_size (a := a) (b := b) hc
    have W := Walks.range (prog := G.prog) (w := G.w) hh s.heap.objs.size a c (rngL a b c).length
    rw [show (rngL a b c).length = ((rngL a b c).map D.int).length from (List.length_map ..).symm] at W
    refine wpAny_pyIter_range (fin _ _ e1) ?_ (it_new fin rfl ⟨W, it_one, fun i v hi hv => ?_, fun i h st => ⟨_, _, _, st, rfl, by decide, rfl⟩⟩ ?_)
    · have hle : ((rngL a b c).length : Int) ≤ 2000000 := by
        unfold rngL; split <;> simp <;> lia
      unfold Builtin.Range.small Builtin.Range.rangeFitsLong
      rw [hz]
      rcases hc with rfl | rfl <;> simp <;> lia
    · obtain ⟨u, rfl⟩ := hv
      rw [List.length_map] at hi
      exact ⟨.int (a + (i : Int) * c), by rw [List.getElem?_map, rng_get hc hi]; rfl, .int _ u⟩
    · show IsRangeIter _ _ _ _ _
      have e0 : a + ((0 : Nat) : Int) * c = a := by simp
      have e1 : (((rngL a b c).map D.int).length : Int) - ((0 : Nat) : Int) = ((rngL a b c).length : Int) := by simp
      rw [hz, e0, e1]
      exact Heap.get?_push_size _ rfl
end

/-! a way through, with what it may turn -/
structure Cu (G : Gd) (A : Around) (tgt : Expr) (I : Addr) (items : List D) (wr : List Addr) (Sx : Nat → Fz → Heap → Prop) : Prop where
  frame : ∀ i φ φ' h h', Sx i φ h → (∀ a o, φ a = some o → φ' a = some o) → (∀ a o, φ a = some o → h.get? a = some o) → (∀ a o, φ' a = some o → h'.get? a = some o) → (∀ b ∈ wr, ∀ o, h.get? b = some o → h'.get? b = some o) → Sx i φ' h'
  live : ∀ i φ h, Sx i φ h → ∀ b ∈ wr, ∃ o, h.get? b = some o
  item : ∀ i (φ : Fz) (s : Shared) (Q : Value → Shared → Prop) (E : Value → Shared → Prop), i < items.length → Sx i φ s.heap → (∀ a o, φ a = some o → s.heap.get? a = some o) → (∀ b ∈ wr, φ b = none) →
    (∀ v φ' h' tk d, items[i]? = some d → Rep φ' v d → Sx (i + 1) φ' h' → (∀ b o, b ∉ wr → s.heap.get? b = some o → h'.get? b = some o) → (∀ a o, φ a = some o → φ' a = some o) →
      (∀ a o, φ' a = some o → φ a = some o ∨ s.heap.get? a = none) → (∀ a o, φ' a = some o → h'.get? a = some o) → Q v { s with heap := h', toks := tk }) →
    wpAny (model G.prog G.w) A (pyNext (.ref I)) (fun r s₁ => match r with
      | none => False
      | some v => wpAny (model G.prog G.w) A (letOwnedTupleGo tgt (.ref I) v) (fun _ s₂ => Q v s₂) E s₁) E s
  done : ∀ (φ : Fz) (s : Shared) (Q : Shared → Prop) (E : Value → Shared → Prop), Sx items.length φ s.heap → (∀ a o, φ a = some o → s.heap.get? a = some o) →
    (∀ h' tk, (∀ b o, b ∉ wr → s.heap.get? b = some o → h'.get? b = some o) → Q { s with heap := h', toks := tk }) →
    wpAny (model G.prog G.w) A (pyNext (.ref I)) (fun r s₁ => r = none ∧ Q s₁) E s
  self : ∀ i (φ : Fz) (s : Shared) (Q : Value → Shared → Prop) (E : Value → Shared → Prop), Sx i φ s.heap → Q (.ref I) s → wpAny (model G.prog G.w) A (pyIter (.ref I)) Q E s
theorem It.cu {G : Gd} {A : Around} {φ : Fz} {I : Addr} {items : List D} {fp : List Addr} {P : Nat → Value → Prop} {Sx : Nat → Heap → Prop} (T : It G A φ I items fp P Sx) (tgt : Expr) :
    Cu G A tgt I items [I] (fun i φ' h => (∀ a o, φ a = some o → φ' a = some o) ∧ Sx i h) where
  frame := fun i φ₁ φ₂ h h' st up f f' k => ⟨fun a o e => up a o (st.1 a o e), T.W.frame i h h' st.2 fun b hb o e => by
    rcases T.fpf b hb with z | ⟨o', z⟩
    · subst z; exact k _ (by simp) o e
    · have a1 := f' b o' (up _ _ (st.1 b o' z))
      have a2 := f b o' (st.1 b o' z)
      rw [a2] at e; have qq := Option.some.inj (e); subst qq; exact a1⟩
  live := fun i φ₁ h st b hb => by
    have : b = I := by simpa using hb
    subst this
    obtain ⟨o, _, _, h1, _⟩ := T.cls i h st.2; exact ⟨o, h1⟩
  item := fun i φ₁ s Q E hi st f fw hQ => by
    refine T.W.item i s _ _ hi st.2 fun v h₁ tk₁ hp st₁ keep₁ => ?_
    obtain ⟨d, hd, r⟩ := T.rep i v hi hp
    have fI := fw I (by simp)
    refine go_ok (T.cls (i + 1) h₁ st₁) (hQ v φ₁ h₁ tk₁ d hd (r.mono st.1) ⟨st.1, st₁⟩ keep₁ (fun _ _ e => e) (fun _ _ e => .inl e) fun a o e => keep₁ a o (fun z => ?_) (f a o e))
    have : a = I := by simpa using z
    rw [this, fI] at e; exact no_none e
  done := fun φ₁ s Q E st f hQ => T.W.done s _ _ st.2 fun h' tk k => ⟨rfl, hQ h' tk k⟩
  self := fun i φ₁ s Q E st q => T.W.self i s _ _ st.2 q
theorem cu_ok {G : Gd} {φ : Fz} {A : Around} {s : Shared} {E : Value → Shared → Prop} {v : Value} {d : D} {items : List D} (tgt : Expr) (fin : ∀ a o, φ a = some o → s.heap.get? a = some o) (hh : A.handled = none) (x : Rep φ v d) (h : itD d = some items) :
    wpAny (model G.prog G.w) A (pyIter v) (fun it s' => ∃ I wr Sx, it = .ref I ∧ Cu G A tgt I items wr Sx ∧ Sx 0 φ s'.heap ∧ Step φ s φ s' ∧ (∀ b ∈ wr, s.heap.get? b = none) ∧ (∀ b ∈ wr, φ b = none)) E s :=
  wpAny_mono (iter_ok (G := G) fin hh x h) (fun it s' q => by
    obtain ⟨I, fp, P, Sx, rfl, T, st, y, n, f, _⟩ := q
    exact ⟨I, [I], _, rfl, T.cu tgt, ⟨fun _ _ e => e, st⟩, y, fun b hb => (by simpa using hb : b = I) ▸ n, fun b hb => (by simpa using hb : b = I) ▸ f⟩) fun _ _ e => e
end Mine

namespace Mine
open PySem PySem.W PySem.Calls PyProof.Rows PySem.SeqAt

/-! the reckoner: a partial function on the text -/
structure Pg where
  gl : Str → Option D
  fn : Value → List D → List (Str × D) → Option D
  mt : D → Str → Option (Value × List D)
  att : D → Str → Option D
  st : Addr → Str → Bool
structure EvF where
  e : Scope → Rho → Expr → Option D
  t : Scope → Rho → Expr → Option Bool

noncomputable def constD : Const → Option D
  | .none => some .none
  | .bool b => some (.bool b)
  | .int i => some (.int i)
  | .str s => some (.str s.cps.toList)
  | .bytes b => some (.bytes b)
  | _ => none
noncomputable def okE (e : Expr) : Bool := noE 7 e && noE 22 e
noncomputable def oCons : Option D → Option (List D) → Option (List D) := o2 fun d ds => some (d :: ds)
noncomputable def oKw (x : Str) : Option D → Option (List (Str × D)) → Option (List (Str × D)) := o2 fun d ds => some ((x, d) :: ds)
noncomputable def evs (f : Expr → Option D) : List Expr → Option (List D)
  | [] => some []
  | e :: r => if okE e = true then oCons (f e) (evs f r) else none
noncomputable def evk (f : Expr → Option D) : List Keyword → Option (List (Str × D))
  | [] => some []
  | k :: r => o1 (fun x => oKw x (f k.value) (evk f r)) k.arg
noncomputable def nil2 (as : List Expr) (ks : List Keyword) : Bool := match as, ks with
  | [], [] => true
  | _, _ => false
noncomputable def attrBaseOk (e : Expr) : Bool := noE 16 e || onE true (fun _ _ => true) (fun _ _ _ => true) (fun _ _ _ => true) (fun _ _ _ => true) (fun f as ks _ => noE 23 f || !nil2 as ks) e
noncomputable def nmOk (x : Str) : Bool := !(x == ("__debug__" : Str)) && !(x == ("__classdict__" : Str))
theorem not_inv {b : Bool} (h : (!b) = true) : b = false := by induction b using Bool.casesOn; rfl; exact nomatch h
theorem nmOk_parts {x : Str} (h : nmOk x = true) : (x == ("__debug__" : Str)) = false ∧ (x == ("__classdict__" : Str)) = false := ⟨not_inv (and_inv h).1, not_inv (and_inv h).2⟩
noncomputable def oLk (P : Pg) (sc : Scope) (x : Str) : Option LV → Option D
  | some (.fz d) => some d
  | some _ => none
  | none => if sc.names.lookup x = some .globalImplicit then P.gl x else none
noncomputable def storable (sc : Scope) (x : Str) : Bool := match sc.names.lookup x with
  | some .local => true
  | some .cell => true
  | _ => false
noncomputable def hasR (ρ : Rho) (x : Str) : Bool := (ρ.lookup x).isSome
noncomputable def bindN (sc : Scope) (ρ : Rho) (x : Str) (d : D) : Option Rho := if storable sc x && hasR ρ x then some (setR ρ x (.fz d)) else none
noncomputable def bind1 (sc : Scope) (ρ : Rho) (t : Expr) (d : D) : Option Rho := o1 (fun x => bindN sc ρ x d) (nameOf t)
noncomputable def bindNs (sc : Scope) : Rho → List Expr → List D → Option Rho
  | ρ, [], [] => some ρ
  | _, [], _ :: _ => none
  | _, _ :: _, [] => none
  | ρ, t :: ts, d :: ds => o1 (fun ρ' => bindNs sc ρ' ts ds) (bind1 sc ρ t d)
noncomputable def bindT (sc : Scope) (ρ : Rho) (t : Expr) (d : D) : Option Rho := onE none (fun x _ => bindN sc ρ x d) (fun ts _ _ => o1 (fun ds => bindNs sc ρ ts ds) (tupD d)) (fun _ _ _ => none) (fun _ _ _ => none) (fun _ _ _ _ => none) t
noncomputable def LV.fzOnly : LV → LV
  | .fz d => .fz d
  | _ => .un
noncomputable def okFr (sc : Scope) (x : Str) : Bool := match sc.names.lookup x with
  | some .cell => true
  | some .free => true
  | _ => false
noncomputable def oFr (x : Str) : Option LV → Option Rho → Option Rho := o2 fun lv r => some ((x, lv.fzOnly) :: r)
noncomputable def oUr (x : Str) : Option Rho → Option Rho := o1 fun r => some ((x, .un) :: r)
noncomputable def compRho (sc : Scope) (ρ : Rho) : List (Str × NameKind) → Option Rho
  | [] => some []
  | (x, k) :: r => match k with
    | .local => oUr x (compRho sc ρ r)
    | .cell => oUr x (compRho sc ρ r)
    | .free => if okFr sc x = true then oFr x (ρ.lookup x) (compRho sc ρ r) else none
    | .globalImplicit => compRho sc ρ r
    | .globalExplicit => none
noncomputable def ifsD (V : EvF) (sc : Scope) (ρ : Rho) : List Expr → Option Bool
  | [] => some true
  | [c] => V.t sc ρ c
  | _ => none
noncomputable def compGo (V : EvF) (sc : Scope) (ρ₀ : Rho) (target : Expr) (ifs : List Expr) (elt : Expr) : List D → Option (List D)
  | [] => some []
  | d :: ds => o1 (fun ρ₁ => o1 (fun b => match b with
    | true => oCons (V.e sc ρ₁ elt) (compGo V sc ρ₀ target ifs elt ds)
    | false => compGo V sc ρ₀ target ifs elt ds) (ifsD V sc ρ₁ ifs)) (bindT sc ρ₀ target d)
noncomputable def oAll (op : BoolOp) (x r : Option Bool) : Option Bool := o1 (fun b => match op, b with
  | .And, false => some false
  | .Or, true => some true
  | .And, true => r
  | .Or, false => r) x
noncomputable def allT (V : EvF) (sc : Scope) (ρ : Rho) (op : BoolOp) : List Expr → Option Bool
  | [] => some (op == .And)
  | x :: rest => oAll op (V.t sc ρ x) (allT V sc ρ op rest)
noncomputable def oPart : Option D → Option (Option Int) := o1 fun d => o1 (fun i => some (some i)) (intD d)
noncomputable def partD (V : EvF) (sc : Scope) (ρ : Rho) : Option Expr → Option (Option Int)
  | none => some none
  | some e => oPart (V.e sc ρ e)
noncomputable def binF (op : Operator) (a b : D) : Option D := match binL op a b with
  | some l => some (.list l)
  | none => binD op a b
noncomputable def nodupB : List Str → Bool
  | [] => true
  | x :: r => !(r.contains x) && nodupB r
noncomputable def cutD (a : D) (l h st : Option Int) : Option D := match cutL a l h st with
  | some r => some (.list r)
  | none => cutS a l h st

noncomputable def oItems : Option D → Option (List D) := o1 itD
noncomputable def compI (V : EvF) (sc : Scope) (ρ : Rho) (_ iter : Expr) : Option (List D) := oItems (V.e sc ρ iter)
noncomputable def oBin (op : Operator) : Option D → Option D → Option D := o2 (binF op)
noncomputable def oUn (op : UnaryOp) : Option D → Option D := o1 (unD op)
noncomputable def oCmp (op : CmpOp) : Option D → Option D → Option Bool := o2 (cmpD op)
noncomputable def oB : Option Bool → Option D := o1 fun b => some (.bool b)
noncomputable def oIf (x : Option Bool) (a b : Option D) : Option D := o1 (fun c => match c with
  | true => a
  | false => b) x
noncomputable def oIfT (x : Option Bool) (a b : Option Bool) : Option Bool := o1 (fun c => match c with
  | true => a
  | false => b) x
noncomputable def oNot : Option Bool → Option Bool := o1 fun b => some (!b)
noncomputable def oAnd (x y : Option Bool) : Option Bool := o1 (fun c => match c with
  | true => y
  | false => some false) x
noncomputable def oCmp2 (p q : CmpOp) : Option D → Option D → Option D → Option Bool := o3 fun a b c => oAnd (cmpD p a b) (cmpD q b c)
noncomputable def oList : Option (List D) → Option D := o1 fun l => some (.list l)
noncomputable def oTup : Option (List D) → Option D := o1 fun l => some (.tup l)
noncomputable def oAtt (P : Pg) (x : Str) : Option D → Option D := o1 fun d => P.att d x
noncomputable def oCut (a : Option D) (l h k : Option (Option Int)) : Option D := o1 (fun a => o3 (cutD a) l h k) a
noncomputable def oIdx : Option D → Option D → Option D := o2 fun a i => o1 (idxD a) (intD i)
noncomputable def oM2 (P : Pg) (ds : List D) (ks : List (Str × D)) : Option (Value × List D) → Option D := o1 fun r => P.fn r.1 (r.2 ++ ds) ks
noncomputable def oMt (P : Pg) (x : Str) : Option D → Option (List D) → Option (List (Str × D)) → Option D := o3 fun d ds ks => oM2 P ds ks (P.mt d x)
noncomputable def oFn (P : Pg) : Option D → Option (List D) → Option (List (Str × D)) → Option D := o3 fun f ds ks => o1 (fun v => P.fn v ds ks) (valD f)
noncomputable def oTruth : Option D → Option Bool := o1 truthD
noncomputable def cGo (V : EvF) (scope : Scope) (ρ₀ : Rho) (target : Expr) (ifs : List Expr) (elt : Expr) (items : List D) : Option D := oList (compGo V scope ρ₀ target ifs elt items)
noncomputable def oComp (V : EvF) (scope : Scope) (target : Expr) (ifs : List Expr) (elt : Expr) : Option (List D) → Option Rho → Option D := o2 fun items ρ₀ => cGo V scope ρ₀ target ifs elt items
noncomputable def stepSub (V : EvF) (sc : Scope) (ρ : Rho) (v : Expr) (i : Expr) : Option D := match i with
  | .Slice lo hi st _ => oCut (V.e sc ρ v) (partD V sc ρ lo) (partD V sc ρ hi) (partD V sc ρ st)
  | i => oIdx (V.e sc ρ v) (V.e sc ρ i)
noncomputable def stepCall (P : Pg) (V : EvF) (sc : Scope) (ρ : Rho) (args : List Expr) (kws : List Keyword) (pos : Pos) (f : Expr) : Option D := onE none
  (fun n p => oFn P (V.e sc ρ (.Name n p)) (evs (V.e sc ρ) args) (evk (V.e sc ρ) kws)) (fun _ _ _ => none)
  (fun o n apos => if (attrBaseOk o && apos.endLine == pos.line && decide (args.length + kws.length < 20)) = true then oMt P n (V.e sc ρ o) (evs (V.e sc ρ) args) (evk (V.e sc ρ) kws) else none)
  (fun _ _ _ => none) (fun _ _ _ _ => none) f
noncomputable def stepCmp (V : EvF) (sc : Scope) (ρ : Rho) (l : Expr) : List CmpOp → List Expr → Option D
  | [op], [r] => if okE r = true then oB (oCmp op (V.e sc ρ l) (V.e sc ρ r)) else none
  | _, _ => none
noncomputable def stepLC (V : EvF) (sc : Scope) (ρ : Rho) (elt : Expr) (scope : Scope) : List Comprehension → Option D
  | [g] => if (okE g.iter && scope.kind == .function && nodupB (scope.names.map (·.1)) && g.is_async == 0) = true then oComp V scope g.target g.ifs elt (compI V sc ρ g.target g.iter) (compRho sc ρ scope.names) else none
  | _ => none
noncomputable def stepE (P : Pg) (V : EvF) (sc : Scope) (ρ : Rho) (x : Expr) : Option D := match x with
  | .Constant c _ _ => constD c
  | .Name n _ => if nmOk n = true then oLk P sc n (ρ.lookup n) else none
  | .BinOp l op r _ => oBin op (V.e sc ρ l) (V.e sc ρ r)
  | .UnaryOp op x _ => oUn op (V.e sc ρ x)
  | .Compare l ops rs _ => stepCmp V sc ρ l ops rs
  | .IfExp t b o _ => oIf (V.t sc ρ t) (V.e sc ρ b) (V.e sc ρ o)
  | .List es _ => if es.length ≤ lim then oList (evs (V.e sc ρ) es) else none
  | .Tuple es _ _ => if es.length ≤ lim then oTup (evs (V.e sc ρ) es) else none
  | .Attribute o n _ => if attrBaseOk o = true then oAtt P n (V.e sc ρ o) else none
  | .Subscript v i _ => stepSub V sc ρ v i
  | .Call f args kws pos => stepCall P V sc ρ args kws pos f
  | .ListComp elt gs scope _ => stepLC V sc ρ elt scope gs
  | _ => none
noncomputable def stepTC (V : EvF) (sc : Scope) (ρ : Rho) (l : Expr) : List CmpOp → List Expr → Option Bool
  | [op], [r] => if okE r = true then oCmp op (V.e sc ρ l) (V.e sc ρ r) else none
  | [p, q], [r, r'] => if okE r' = true then oCmp2 p q (V.e sc ρ l) (V.e sc ρ r) (V.e sc ρ r') else none
  | _, _ => none
noncomputable def stepTU (V : EvF) (sc : Scope) (ρ : Rho) (x : Expr) : UnaryOp → Option Bool
  | .Not => oNot (V.t sc ρ x)
  | _ => none
noncomputable def stepT (V : EvF) (sc : Scope) (ρ : Rho) (x : Expr) : Option Bool := match x with
  | .UnaryOp op x _ => stepTU V sc ρ x op
  | .BoolOp op vs _ => allT V sc ρ op vs
  | .IfExp t b o _ => oIfT (V.t sc ρ t) (V.t sc ρ b) (V.t sc ρ o)
  | .Compare l ops rs _ => stepTC V sc ρ l ops rs
  | x => oTruth (V.e sc ρ x)
noncomputable def evN (P : Pg) : Nat → EvF
  | 0 => ⟨fun _ _ _ => none, fun _ _ _ => none⟩
  | n + 1 => ⟨stepE P (evN P n), stepT (evN P n)⟩
end Mine

namespace Mine
open PySem PySem.W PySem.Calls PyProof.Rows PySem.SeqAt

theorem Step.back {φ φ' : Fz} {s s' : Shared} (x : Step φ s φ' s') : Step φ s φ s' := ⟨x.eq, x.ext, fun _ _ e => e, fun _ _ e => .inl e, fun a o e => x.fin a o (x.up a o e)⟩
noncomputable def EPFt (φ : Fz) (s : Shared) (v : Value) (s' : Shared) : D → Prop
  | .list l => EPL φ s l v s'
  | d => EP φ s d v s'
noncomputable def EPF (fr : Bool) (φ : Fz) (s : Shared) (d : D) (v : Value) (s' : Shared) : Prop := match fr with
  | true => EPFt φ s v s' d
  | false => EP φ s d v s'
theorem EPF.ep {fr : Bool} {φ : Fz} {s s' : Shared} {d : D} {v : Value} (h : EPF fr φ s d v s') : EP φ s d v s' := by
  induction fr using Bool.casesOn
  · exact h
  · induction d using Mine.D.casesOn <;> first | exact EPL.ep h | exact h
theorem EP.epf {φ : Fz} {s s' : Shared} {d : D} {v : Value} (h : EP φ s d v s') : EPF false φ s d v s' := h
noncomputable def isFresh (e : Expr) : Bool := !(noE 24 e && noE 8 e && noE 2 e && onE true (fun _ _ => true) (fun _ _ _ => true) (fun _ _ _ => true) (fun _ i _ => noE 26 i) (fun _ _ _ _ => true) e)

noncomputable def RepK (φ : Fz) (kvs : List (Str × Value)) (ks : List (Str × D)) : Prop := kvs.map (·.1) = ks.map (·.1) ∧ RepL φ (kvs.map (·.2)) (ks.map (·.2))
noncomputable def KeepOk (G : Gd) (f : Value) : Prop := ∃ k : Keeper, (k = .machine ∨ k = .frame) ∧ ∀ M : Model, Looks M G.h (keeperOf f) k
structure CallOk (G : Gd) (l : Nat) (f : Value) (ds : List D) (ks : List (Str × D)) (d : D) : Prop where
  keep : KeepOk G f
  run : ∀ vs kvs φ s A E, Gnd G φ s → Room A l → RepL φ vs ds → RepK φ kvs ks → wpAny (model G.prog G.w) A (call f vs kvs) (EP φ s d) E s
noncomputable def StOk (G : Gd) (C : Addr) (a : Str) : Prop := ∀ (s : Shared) (x dx : Addr) (es : List DictEntry) (n : Nat) (v : Value) (A : Around) (E : Value → Shared → Prop) (Q : Unit → Shared → Prop),
  (∀ b o, G.h.get? b = some o → s.heap.get? b = some o) → s.heap.get? x = some (instObj C dx) → s.heap.get? dx = some (dictOf es n) → KeyOk G.w es → es.length < 100 →
  (∀ h' tk t n', h'.get? dx = some (dictOf (putL a (PyData.keyHash G.w.params a) (.str a t) v es) n') → Heap.SameBut dx s.heap h' → Q () { s with heap := h', toks := tk }) →
  wpAny (model G.prog G.w) A (setAttr (.ref x) a v) Q E s
structure POk (G : Gd) (l : Nat) (P : Pg) : Prop where
  gl : ∀ x d, P.gl x = some d → ∀ (env : Env) φ s A E, env.scope.kind = .function → env.globals = mainGlobals → env.builtins = builtinsNs → env.kindOf x = some .globalImplicit → Gnd G φ s → wpAny (model G.prog G.w) A (loadName env x) (EP φ s d) E s
  fn : ∀ f ds ks d, P.fn f ds ks = some d → CallOk G l f ds ks d
  mt : ∀ d x f fs, P.mt d x = some (f, fs) → ∀ v φ s A E pl, Gnd G φ s → Room A l → Rep φ v d → wpAny (model G.prog G.w) A (getMethod v x pl) (fun r s' => r.1 = f ∧ ∃ φ', Step φ s φ' s' ∧ RepL φ' r.2 fs) E s
  att : ∀ d x e, P.att d x = some e → ∀ v φ s A E, Gnd G φ s → Room A l → Rep φ v d → wpAny (model G.prog G.w) A (getAttr v x true) (EP φ s e) E s
  st : ∀ C a, P.st C a = true → StOk G C a

noncomputable def ESem (G : Gd) (l : Nat) (sc : Scope) (ρ : Rho) (e : Expr) (d : D) : Prop :=
  ∀ hb env c φ s A E, Room A l → St G hb sc env c φ s → abs c = ρ → wpAny (model G.prog G.w) A (eval e env) (EPF (isFresh e) φ s d) E s
noncomputable def TSem (G : Gd) (l : Nat) (sc : Scope) (ρ : Rho) (e : Expr) (b : Bool) : Prop :=
  ∀ hb env c φ s A E, Room A l → St G hb sc env c φ s → abs c = ρ → wpAny (model G.prog G.w) A (isTrue e env (eval e env)) (fun r s' => r = b ∧ Step φ s φ s') E s
structure VOk (G : Gd) (l : Nat) (V : EvF) : Prop where
  e : ∀ sc ρ e d, V.e sc ρ e = some d → ESem G l sc ρ e d
  t : ∀ sc ρ e b, V.t sc ρ e = some b → TSem G l sc ρ e b

section
variable {G : Gd} {l : Nat} {V : EvF} {P : Pg} {sc : Scope} {ρ : Rho} {hb : Heap} {env : Env} {c : List CE} {φ : Fz} {s : Shared} {A : Around} {E : Value → Shared → Prop}

theorem VOk.then (O : VOk G l V) {e : Expr} {d : D} (h : V.e sc ρ e = some d) (R : Room A l) (S : St G hb sc env c φ s) (hc : abs c = ρ) {Q : Value → Shared → Prop}
    (k : ∀ v φ' s', Step φ s φ' s' → St G hb sc env c φ' s' → Rep φ' v d → Q v s') : wpAny (model G.prog G.w) A (eval e env) Q E s :=
  wpAny_mono (O.e sc ρ e d h hb env c φ s A E R S hc) (fun v s' p => let ⟨φ', x, r⟩ := p.ep; k v φ' s' x (S.step x) r) fun _ _ e => e
theorem VOk.thenT (O : VOk G l V) {e : Expr} {b : Bool} (h : V.t sc ρ e = some b) (R : Room A l) (S : St G hb sc env c φ s) (hc : abs c = ρ) {Q : Bool → Shared → Prop}
    (k : ∀ s', Step φ s φ s' → St G hb sc env c φ s' → Q b s') : wpAny (model G.prog G.w) A (isTrue e env (eval e env)) Q E s :=
  wpAny_mono (O.t sc ρ e b h hb env c φ s A E R S hc) (fun v s' p => p.1 ▸ k s' p.2 (S.step p.2)) fun _ _ e => e

set_option tactic.hygienic true in
theorem const_ok {k : Const} {n : Nat} {pos : Pos} {d : D} (h : constD k = some d) (fin : ∀ a o, φ a = some o → s.heap.get? a = some o) : wpAny (model G.prog G.w) A (eval (.Constant k n pos) env) (EP φ s d) E s := by
  rw [eval_Constant]
  induction k using PySem.Const.casesOn <;> first | exact no_none h | refine some_e h ?_
  · exact wpAny_pure (EP.pure fin .none)
  · exact wpAny_pure (EP.pure fin (.bool _))
  · exact wpAny_mkInt (EP.tk fin (.int _ _))
  · rename_i x
    show wpAny _ _ (mkText x) _ _ _
    refine fun _ _ _ => ?_
    have := Rep.str (φ := φ) x.cps.toList s.toks
    rw [Array.toArray_toList] at this
    exact EP.tk (k := s.toks + 1) fin this
  · rename_i b
    show wpAny _ _ (mkTextBytes b.toArray) _ _ _
    exact fun _ _ _ => EP.tk (k := s.toks + 1) fin (.bytes b s.toks)

theorem starEach_ok {e : Expr} {r : List Expr} (h : okE e = true) : starEach (e :: r) env = (false, eval e env) :: starEach r env := by
  induction e using PySem.Expr.casesOn <;> first | rfl | exact no_ft h
theorem EPs.cons_after {φ₁ φ₂ : Fz} {s₁ s₂ : Shared} {v : Value} {d : D} {vs : List Value} {ds : List D} (x : Step φ s φ₁ s₁) (r₁ : Rep φ₁ v d) (y : Step φ₁ s₁ φ₂ s₂) (r₂ : RepL φ₂ vs ds) : EPs φ s (d :: ds) (v :: vs) s₂ := ⟨φ₂, x.trans y, .cons (r₁.mono y.up) r₂⟩
theorem evs_inv {f : Expr → Option D} {e : Expr} {r : List Expr} {ds : List D} (h : evs f (e :: r) = some ds) : okE e = true ∧ ∃ d ds', f e = some d ∧ evs f r = some ds' ∧ ds = d :: ds' := by
  refine oif_e h fun ok h => ?_
  refine o2_e h fun d ds' h1 h2 h => ?_
  exact ⟨ok, d, ds', h1, h2, some_inv h⟩
theorem evs_ok (O : VOk G l V) (R : Room A l) (hc : abs c = ρ) {pos : Pos} {es : List Expr} {ds : List D} {φ : Fz} {s : Shared} (h : evs (V.e sc ρ) es = some ds) (S : St G hb sc env c φ s) :
    wpAny (model G.prog G.w) A (spliced (backTo pos (starEach es env))) (EPs φ s ds) E s := by
  induction es generalizing ds φ s with
  | nil => refine some_e h ?_; exact Calls.spliced_nil ⟨φ, .refl S.g.fin, .nil⟩
  | cons e r ih =>
    obtain ⟨ok, d, ds', h1, h2, h3⟩ := evs_inv h
    rw [starEach_ok ok, h3]
    exact Calls.spliced_cons (O.then h1 R S hc fun v φ₁ s₁ x S₁ r₁ => wpAny_mono (ih h2 S₁) (fun vs s₂ p => p.elim fun φ₂ p => EPs.cons_after x r₁ p.1 p.2) fun _ _ e => e)
theorem evk_inv {f : Expr → Option D} {k : Keyword} {r : List Keyword} {ds : List (Str × D)} (h : evk f (k :: r) = some ds) : ∃ x d ds', k.arg = some x ∧ f k.value = some d ∧ evk f r = some ds' ∧ ds = (x, d) :: ds' := by
  refine o1_e h fun x h0 h => ?_
  refine o2_e h fun d ds' h1 h2 h => ?_
  exact ⟨x, d, ds', h0, h1, h2, some_inv h⟩
theorem evk_ok (O : VOk G l V) (R : Room A l) (hc : abs c = ρ) {pos : Pos} {ks : List Keyword} {ds : List (Str × D)} {φ : Fz} {s : Shared} (h : evk (V.e sc ρ) ks = some ds) (S : St G hb sc env c φ s) :
    wpAny (model G.prog G.w) A (evalAll ((backToKw pos (keywordEach ks env)).map (·.2))) (EPs φ s (ds.map (·.2))) E s ∧ ((backToKw pos (keywordEach ks env)).all (·.1.isSome) = true ∧ (backToKw pos (keywordEach ks env)).filterMap (·.1) = ds.map (·.1)) := by
  induction ks generalizing ds φ s with
  | nil => refine some_e h ?_; exact ⟨wpAny_evalAll_nil ⟨φ, .refl S.g.fin, .nil⟩, rfl, rfl⟩
  | cons k r ih =>
    refine e3a4 (evk_inv h) fun x d ds' h0 h1 h2 h3 => ?_
    obtain ⟨a, e, p⟩ := k
    subst h0
    rw [h3]
    refine ⟨?_, (ih h2 S).2.1, congrArg (x :: ·) (ih h2 S).2.2⟩
    refine wpAny_evalAll_cons ?_
    show wpAny _ _ (do let v ← eval e env; standAt pos; pure v) _ _ _
    exact wpAny_bind (O.then h1 R S hc fun v φ₁ s₁ x S₁ r₁ => wpAny_bind (wpAny_standAt (wpAny_pure (wpAny_mono (ih h2 S₁).1 (fun vs s₂ p => p.elim fun φ₂ p => EPs.cons_after x r₁ p.1 p.2) fun _ _ e => e))))
theorem noStar (pos : Pos) {es : List Expr} {ds : List D} (h : evs (V.e sc ρ) es = some ds) : (backTo pos (starEach es env)).any (·.1) = false := by
  induction es generalizing ds with
  | nil => rfl
  | cons e r ih =>
    obtain ⟨ok, d, ds', h1, h2, h3⟩ := evs_inv h
    rw [starEach_ok ok]
    exact ih h2

theorem callWith_go {M : Model} {pos : Pos} {f : Value} {first : List Value} {args : List (Bool × Sem Value)} {keywords : List (Option Str × Sem Value)} {Q : Value → Shared → Prop}
    (hs : args.any (·.1) = false) (hk : keywords.all (·.1.isSome) = true)
    (h : wpAny M A (spliced args) (fun vs s₁ => wpAny M A (evalAll (keywords.map (·.2))) (fun ks s₂ => (∃ k : Keeper, (k = .machine ∨ k = .frame) ∧ Looks M s₂.heap (keeperOf f) k) ∧ wpAny M A (call f (first ++ vs) ((keywords.filterMap (·.1)).zip ks)) Q E s₂) E s₁) E s) :
    wpAny M A (callWith pos f first args keywords) Q E s := by
  have hn : keywords.any (·.1.isNone) = false := by
    rw [List.any_eq_false]
    intro x hx
    have := List.all_eq_true.mp hk x hx
    generalize q : x.1 = r_; induction r_ using Option.casesOn <;> simp_all
  have arg : wpAny M A (evalArgs f true args keywords) (fun x s₂ => (∃ k : Keeper, (k = .machine ∨ k = .frame) ∧ Looks M s₂.heap (keeperOf f) k) ∧ wpAny M A (call f (first ++ x.pos) x.kw) Q E s₂) E s := by
    induction args using List.casesOn with
    | nil =>
      refine evalArgs_kw_nil hk ?_
      have : wpAny M A (pure ([] : List Value)) (fun vs s₁ => wpAny M A (evalAll (keywords.map (·.2))) (fun ks s₂ => (∃ k : Keeper, (k = .machine ∨ k = .frame) ∧ Looks M s₂.heap (keeperOf f) k) ∧ wpAny M A (call f (first ++ vs) ((keywords.filterMap (·.1)).zip ks)) Q E s₂) E s₁) E s := h
      exact fun Γ p hΓ => this Γ p hΓ Γ p hΓ
    | cons a rest =>
      obtain ⟨b, x⟩ := a
      have : b = false := by simp at hs; exact hs.1
      subst this
      exact evalArgs_kw hk h
  unfold callWith
  refine wpAny_bind (wpAny_holding (wpAny_mono arg (fun x s₁ h₁ => wpAny_bind (wpAny_standAt ?_)) fun _ _ x => x))
  have tail : ∀ {t : Sem Value}, wpAny M A t Q E s₁ → wpAny M A (t >>= fun r => holding [r] point >>= fun _ => pure r) Q E s₁ :=
    fun ht => wpAny_bind (wpAny_mono ht (fun r s₂ hr => wpAny_bind (wpAny_holding (wpAny_point (wpAny_pure hr)))) fun _ _ x => x)
  dsimp only
  rw [hs, hn]
  obtain ⟨⟨k, hk', L⟩, hq⟩ := h₁
  refine wpAny_bind (m := keeperOf f) (L.here ?_)
  rcases hk' with rfl | rfl
  · exact tail hq
  · refine wpAny_ite ?_
    split
    · exact tail hq
    · exact tail (by unfold callMarked; exact Calls.wpAny_keep hq)
set_option tactic.hygienic true in
theorem attrBase_ok {o : Expr} {n : Str} {w : Sem Value} (h : attrBaseOk o = true) : attributeBase o n env w = w := by
  induction o using PySem.Expr.casesOn
  case Call f as ks p =>
    induction f using PySem.Expr.casesOn
    case Name y q =>
      induction as using List.casesOn
      · induction ks using List.casesOn
        · exact no_ft h
        · rfl
      · rfl
    all_goals rfl
  all_goals rfl
theorem part_inv {e : Expr} {k : Option Int} (h : partD V sc ρ (some e) = some k) : ∃ i, V.e sc ρ e = some (.int i) ∧ k = some i := by
  refine o1_e h fun d h1 h => ?_
  refine o1_e h fun i h2 h => ?_
  exact ⟨i, by rw [h1, intD_inv h2], some_inv h⟩
theorem part_ok (O : VOk G l V) (R : Room A l) (hc : abs c = ρ) {e : Option Expr} {k : Option Int} (h : partD V sc ρ e = some k) (S : St G hb sc env c φ s) :
    wpAny (model G.prog G.w) A (evalPart e env) (fun v s' => IsPart v k ∧ ∃ φ', Step φ s φ' s') E s := by
  induction e using Option.casesOn with
  | none => refine some_e h ?_; exact wpAny_pure ⟨.none, φ, .refl S.g.fin⟩
  | some e =>
    refine e1a2 (part_inv h) fun i hi rr2 => ?_
    subst rr2
    rw [evalPart_some]
    refine O.then hi R S hc fun v φ₁ s₁ x S₁ r => ?_
    cases r
    exact ⟨.int _ _, φ₁, x⟩
end
end Mine

namespace Mine
open PySem PySem.W PySem.Calls PyProof.Rows PySem.SeqAt

/-! forgetting -/
noncomputable def forgetP (p : CE → Bool) (c : List CE) : List CE := c.map fun e => if p e then { e with cv := .un } else e
theorem forgetP_names (p : CE → Bool) (c : List CE) : (forgetP p c).map (·.x) = c.map (·.x) := by
  simp only [forgetP, List.map_map]
  apply List.map_congr_left
  intro e _
  simp only [Function.comp]; split <;> rfl
theorem forgetP_sub (p : CE → Bool) : ∀ c : List CE, ((forgetP p c).flatMap CE.priv).Sublist (c.flatMap CE.priv)
  | [] => .slnil
  | e :: c => by
    show ((if p e then ({ e with cv := .un } : CE) else e).priv ++ (forgetP p c).flatMap CE.priv).Sublist (e.priv ++ c.flatMap CE.priv)
    refine List.Sublist.append ?_ (forgetP_sub p c)
    split
    · show (e.loc.priv ++ []).Sublist (e.loc.priv ++ e.cv.priv)
      exact List.Sublist.append (List.Sublist.refl _) (List.nil_sublist _)
    · exact List.Sublist.refl _
theorem St.forgetP {G : Gd} {hb : Heap} {sc : Scope} {env : Env} {c : List CE} {φ : Fz} {s : Shared} (S : St G hb sc env c φ s) (p : CE → Bool) : St G hb sc env (forgetP p c) φ s := by
  refine e1a2 (S.vars) fun m hn hv => ?_
  have pnd := S.pnd
  rw [privs, List.nodup_cons] at pnd
  have sub := forgetP_sub p c
  have psub : ∀ a ∈ privs env (Mine.forgetP p c), a ∈ privs env c := fun a ha => by
    rcases List.mem_cons.mp ha with rfl | ha
    · exact List.mem_cons_self
    · exact List.mem_cons_of_mem _ (sub.subset ha)
  have mem : ∀ e ∈ Mine.forgetP p c, ∃ e' ∈ c, e = { e' with cv := .un } ∨ e = e' := fun e he => by
    refine e1a2 (List.mem_map.mp he) fun e' m' q => ?_
    refine ⟨e', m', ?_⟩
    split at q
    · exact .inl q.symm
    · exact .inr q.symm
  refine ⟨S.g, S.base, S.kind, S.glo, S.bui, S.gk, fun e he => ?_, by rw [forgetP_names]; exact S.nd, ?_, fun a ha => S.pfz a (psub a ha), fun a ha => S.pbs a (psub a ha), m, hn, fun e he => ?_⟩
  · obtain ⟨e', m', rfl | rfl⟩ := mem e he
    · exact S.lk e' m'
    · exact S.lk e m'
  · rw [privs, List.nodup_cons]
    exact ⟨fun q => pnd.1 (sub.subset q), pnd.2.sublist sub⟩
  · obtain ⟨e', m', rfl | rfl⟩ := mem e he
    · refine ⟨?_, trivial⟩
      have h := (hv e' m').1
      obtain ⟨n, loc, cv⟩ := e'
      induction loc using Mine.Loc.casesOn with
      | loc => exact ⟨h.1, fun v z => (no_none z)⟩
      | own ca => obtain ⟨h1, h2, ov, h3, _⟩ := h; exact ⟨h1, h2, ov, h3, fun v z => (no_none z)⟩
      | fre ca => obtain ⟨h1, h2, ov, h3, _⟩ := h; exact ⟨h1, h2, ov, h3, fun v z => (no_none z)⟩
    · exact hv e m'
noncomputable def isOwn : CE → Bool := fun e => match e.loc with | .fre _ => false | _ => true
theorem forgetP_set {p : CE → Bool} (hp : ∀ e cv, p { e with cv := cv } = p e) {c : List CE} {x : Str} {cv : CV} (h : ∀ e ∈ c, e.x = x → p e = true) : forgetP p (setC c x cv) = forgetP p c := by
  simp only [forgetP, setC, List.map_map]
  apply List.map_congr_left
  intro e he
  simp only [Function.comp]
  by_cases k : e.x = x
  · rw [if_pos k, hp, h e he k]
    simp
  · rw [if_neg k]

/-! stores of targets -/
theorem hasR_mem {c : List CE} {x : Str} (h : hasR (abs c) x = true) : ∃ e ∈ c, e.x = x := by
  unfold hasR at h
  refine e1a1 (Option.isSome_iff_exists.mp h) fun lv q => ?_
  refine e1a3 (abs_lookup q) fun e m r _ => ?_
  exact ⟨e, m, r⟩
theorem storable_ne {sc : Scope} {x : Str} (h : storable sc x = true) : sc.names.lookup x ≠ some .free := by
  unfold storable at h
  intro q
  rw [q] at h; exact no_ft h
theorem storable_own {G : Gd} {hb : Heap} {sc : Scope} {env : Env} {c : List CE} {φ : Fz} {s : Shared} (S : St G hb sc env c φ s) {x : Str} (h : storable sc x = true) : ∀ e ∈ c, e.x = x → isOwn e = true := by
  intro e he k
  have := S.lk e he
  rw [k] at this
  unfold storable at h
  unfold isOwn
  generalize q : e.loc = r_; induction r_ using Mine.Loc.casesOn with
  | fre ca =>
    rw [q] at this
    generalize sc.names.lookup x = o at h this
    induction o using Option.casesOn with
    | none => exact no_ft h
    | some kk => induction kk using PySem.NameKind.casesOn <;> first | (exact no_ft h; done) | exact this.elim
  | loc => rfl
  | own ca => rfl
structure Moved (G : Gd) (hb : Heap) (sc : Scope) (env : Env) (c : List CE) (φ : Fz) (s : Shared) (c' : List CE) (s' : Shared) : Prop where
  st : St G hb sc env c' φ s'
  eq : ∃ h' tk, s' = { s with heap := h', toks := tk }
  keep : ∀ b o, b ∉ privs env c → s.heap.get? b = some o → s'.heap.get? b = some o
  priv : ∀ a ∈ privs env c', a ∈ privs env c
  own : forgetP isOwn c' = forgetP isOwn c
theorem Moved.trans {G : Gd} {hb : Heap} {sc : Scope} {env : Env} {c c₁ c₂ : List CE} {φ : Fz} {s s₁ s₂ : Shared} (x : Moved G hb sc env c φ s c₁ s₁) (y : Moved G hb sc env c₁ φ s₁ c₂ s₂) : Moved G hb sc env c φ s c₂ s₂ := by
  refine e2a1 (x.eq) fun h1 t1 e1 => ?_
  refine e2a1 (y.eq) fun h2 t2 e2 => ?_
  exact ⟨y.st, ⟨h2, t2, by rw [e2, e1]⟩, fun b o n e => y.keep b o (fun q => n (x.priv b q)) (x.keep b o n e), fun a ha => x.priv a (y.priv a ha), y.own.trans x.own⟩
section
variable {G : Gd} {l : Nat} {V : EvF} {P : Pg} {sc : Scope} {ρ : Rho} {hb : Heap} {env : Env} {c : List CE} {φ : Fz} {s : Shared} {A : Around} {E : Value → Shared → Prop}
set_option tactic.hygienic true in
theorem bindN_ok {M : Model} {x : Str} {v : Value} {d : D} {ρ' : Rho} (S : St G hb sc env c φ s) (h : bindN sc (abs c) x d = some ρ') (r : Rep φ v d) :
    wpAny M A (storeName env x v) (fun _ s' => ∃ c', abs c' = ρ' ∧ Moved G hb sc env c φ s c' s') E s := by
  unfold bindN at h
  split at h
  · rename_i q
    have qq := Option.some.inj (h); subst qq
    refine e0a2 (Bool.and_eq_true_iff.mp q) fun q1 q2 => ?_
    refine e1a2 (hasR_mem q2) fun e he rr2 => ?_
    subst rr2
    refine S.store he (storable_ne q1) (cv := .fz v d) rfl (Fit.fz r) fun h' tk S' hs => ?_
    refine ⟨_, abs_set c e.x (.fz v d), S', ⟨h', tk, rfl⟩, fun b o n k => ?_, fun a ha => ?_, forgetP_set (fun e cv => rfl) (storable_own S q1)⟩
    · refine e1a2 (hs) fun p hp hsb => ?_
      exact (hsb.2 b fun z => n (z ▸ hp)).trans k
    · rcases List.mem_cons.mp ha with rfl | ha
      · exact List.mem_cons_self
      · rcases mem_setPriv ha with z | z
        · cases z
        · exact List.mem_cons_of_mem _ z
  · exact no_none h
theorem bindNs_inv {t : Expr} {ts : List Expr} {d : D} {ds : List D} {ρ' : Rho} (h : bindNs sc ρ (t :: ts) (d :: ds) = some ρ') : ∃ x p ρ₁, t = .Name x p ∧ bindN sc ρ x d = some ρ₁ ∧ bindNs sc ρ₁ ts ds = some ρ' := by
  refine o1_e h fun ρ₁ h1 h2 => ?_
  refine o1_e h1 fun x hx h3 => ?_
  refine e1a1 (nameOf_inv hx) fun p e => ?_
  exact ⟨x, p, ρ₁, e, h3, h2⟩
theorem bindNs_shape {ts : List Expr} {ds : List D} {ρ' : Rho} (h : bindNs sc ρ ts ds = some ρ') : (assignEach ts env).length = ds.length ∧ (assignEach ts env).findIdx? (·.1) = none := by
  induction ts generalizing ρ ds with
  | nil => induction ds using List.casesOn with
    | nil => exact ⟨rfl, rfl⟩
    | cons d ds => exact no_none h
  | cons t ts ih => induction ds using List.casesOn with
    | nil => exact no_none h
    | cons d ds =>
      refine e3a3 (bindNs_inv h) fun x p ρ₁ rr3 h1 h2 => ?_
      subst rr3
      refine e0a2 (ih h2) fun g1 g2 => ?_
      have e : assignEach (.Name x p :: ts) env = (false, assign (.Name x p) env) :: assignEach ts env := rfl
      exact ⟨congrArg Nat.succ g1, by rw [e, List.findIdx?_cons, g2]; rfl⟩
theorem bindNs_ok {M : Model} {ts : List Expr} {vs : List Value} {ds : List D} {c : List CE} {s : Shared} {ρ' : Rho} (S : St G hb sc env c φ s) (h : bindNs sc (abs c) ts ds = some ρ') (r : RepL φ vs ds) :
    wpAny M A (assignInOrder ((assignEach ts env).map (·.2)) vs) (fun _ s' => ∃ c', abs c' = ρ' ∧ Moved G hb sc env c φ s c' s') E s := by
  induction ts generalizing vs ds c s with
  | nil => induction ds using List.casesOn with
    | nil => induction vs using List.casesOn with
      | nil => exact wpAny_pure ⟨c, some_inv h ▸ rfl, S, ⟨s.heap, s.toks, rfl⟩, fun _ _ _ e => e, fun _ e => e, rfl⟩
      | cons v vs => nomatch r
    | cons d ds => exact no_none h
  | cons t ts ih => induction ds using List.casesOn with
    | nil => exact no_none h
    | cons d ds =>
      refine e3a3 (bindNs_inv h) fun x p ρ₁ rr3 h1 h2 => ?_
      subst rr3
      induction vs using List.casesOn with
      | nil => nomatch r
      | cons v vs =>
        have r1 : Rep φ v d ∧ RepL φ vs ds := by cases r with | cons r₁ rs => exact ⟨r₁, rs⟩
        show wpAny M A (do holding vs (assign (.Name x p) env v); assignInOrder ((assignEach ts env).map (·.2)) vs) _ E s
        refine wpAny_bind (wpAny_holding (wpAny_assign_Name (wpAny_mono (bindN_ok S h1 r1.1) (fun _ s₁ q => q.elim fun c₁ q => ?_) fun _ _ e => e)))
        exact wpAny_mono (ih q.2.st (q.1.symm ▸ h2) r1.2) (fun _ s₂ z => z.elim fun c₂ z => ⟨c₂, z.1, q.2.trans z.2⟩) fun _ _ e => e
theorem Step.moved {c : List CE} {s' : Shared} (S : St G hb sc env c φ s) (x : Step φ s φ s') : Moved G hb sc env c φ s c s' := ⟨S.step x, x.eq, fun b o _ e => x.ext b o e, fun _ h => h, rfl⟩
set_option tactic.hygienic true in
theorem bindT_ok {target : Expr} {v : Value} {d : D} {ρ' : Rho} (hh : A.handled = none) (S : St G hb sc env c φ s) (h : bindT sc (abs c) target d = some ρ') (r : Rep φ v d) :
    wpAny (model G.prog G.w) A (assign target env v) (fun _ s' => ∃ c', abs c' = ρ' ∧ Moved G hb sc env c φ s c' s') E s := by
  induction target using PySem.Expr.casesOn
  case Name x p => exact wpAny_assign_Name (bindN_ok S h r)
  case Tuple ts k p =>
    refine o1_e h fun ds hd h => ?_
    have qq := tupD_inv hd; subst qq
    cases r with
    | tup e1 r1 =>
    rename_i a vs n
    have g := bindNs_shape (env := env) h
    refine wpAny_assign_Tuple hh (tpO_isTuple (S.g.fin _ _ e1)) (by rw [g.1, List.size_toArray, r1.length]) g.2 fun h' hext => ?_
    have x : Step φ s φ { s with heap := h' } := .heap (tk := s.toks) S.g.fin fun b o e => hext b o (Nat.ne_of_lt (Heap.lt_size e)) e
    exact wpAny_mono (bindNs_ok (S.step x) h r1) (fun _ s₂ q => q.elim fun c₂ q => ⟨c₂, q.1, (Step.moved S x).trans q.2⟩) fun _ _ e => e
  all_goals exact no_none h
end
end Mine

namespace Mine
open PySem PySem.W PySem.Calls PyProof.Rows PySem.SeqAt

/-! the frame of a comprehension -/
noncomputable def closL (cells : List (Str × Addr)) : List (Str × NameKind) → List (Str × Addr) → List (Str × Addr)
  | [], acc => acc
  | (x, k) :: r, acc => if k == .free then closL cells r ((x, (cells.lookup x).getD 0) :: acc) else closL cells r acc
theorem clos_eq {scope : Scope} {env : Env} (h : ∀ x, (x, NameKind.free) ∈ scope.names → (env.cells.lookup x).isSome = true) : closureFor scope env = pure (closL env.cells scope.names []) := by
  have gen : ∀ (names : List (Str × NameKind)) (acc : List (Str × Addr)), (∀ x, (x, NameKind.free) ∈ names → (env.cells.lookup x).isSome = true) →
      (forIn names acc fun (p : Str × NameKind) cs => (if p.2 == .free then (do let a ← cellOf env p.1; pure (ForInStep.yield ((p.1, a) :: cs))) else pure (ForInStep.yield cs) : Sem (ForInStep (List (Str × Addr))))) = pure (closL env.cells names acc) := by
    intro names
    induction names with
    | nil => intro acc _; rfl
    | cons p r ih =>
      intro acc hh
      obtain ⟨x, k⟩ := p
      rw [List.forIn_cons]
      by_cases hk : (k == NameKind.free) = true
      · have hk' : k = .free := by simpa using hk
        subst hk'
        refine e1a1 (Option.isSome_iff_exists.mp (hh x List.mem_cons_self)) fun a ha => ?_
        simp only [beq_self_eq_true, if_true, closL, ha, Option.getD_some]
        have : cellOf env x = pure a := by unfold cellOf; rw [ha]
        rw [this]
        exact ih _ fun y hy => hh y (List.mem_cons_of_mem _ hy)
      · rw [if_neg hk]
        show (forIn r acc _ : Sem _) = _
        rw [closL, if_neg hk]
        exact ih _ fun y hy => hh y (List.mem_cons_of_mem _ hy)
  unfold closureFor
  have := gen scope.names [] h
  show ((forIn scope.names [] fun (p : Str × NameKind) cs => (if p.2 == .free then (do let a ← cellOf env p.1; pure (ForInStep.yield ((p.1, a) :: cs))) else pure (ForInStep.yield cs) : Sem (ForInStep (List (Str × Addr))))) >>= fun cs => pure cs) = _
  rw [this]; rfl
theorem closL_lookup {cells : List (Str × Addr)} : ∀ (names : List (Str × NameKind)) (acc : List (Str × Addr)), (∀ x, (x, NameKind.free) ∈ names → (cells.lookup x).isSome = true) → (names.map (·.1)).Nodup →
    ∀ x, (names.lookup x = some .free → (closL cells names acc).lookup x = cells.lookup x) ∧ (names.lookup x ≠ some .free → (closL cells names acc).lookup x = acc.lookup x)
  | [], acc, _, _, x => ⟨fun h => (no_none h), fun _ => rfl⟩
  | (y, k) :: r, acc, hc, nd, x => by
    rw [List.map_cons, List.nodup_cons] at nd
    have ih := fun acc => closL_lookup r acc (fun z hz => hc z (List.mem_cons_of_mem _ hz)) nd.2 x
    have hno : x = y → r.lookup x ≠ some .free := fun e q => nd.1 (List.mem_map.mpr ⟨(x, .free), mem_of_lookup q, e⟩)
    rw [closL, List.lookup_cons]
    by_cases hxy : x = y
    · subst hxy
      simp only [beq_self_eq_true]
      by_cases hk : (k == NameKind.free) = true
      · have hk' : k = .free := by simpa using hk
        subst hk'
        rw [if_pos hk, (ih _).2 (hno rfl), List.lookup_cons, beq_self_eq_true]
        refine e1a1 (Option.isSome_iff_exists.mp (hc x List.mem_cons_self)) fun a ha => ?_
        exact ⟨fun _ => by rw [ha]; rfl, fun h => absurd rfl h⟩
      · rw [if_neg hk, (ih _).2 (hno rfl)]
        exact ⟨fun h => absurd (by have qq := Option.some.inj (h); subst qq; rfl) hk, fun _ => rfl⟩
    · have hb : (x == y) = false := by simpa using hxy
      rw [hb]
      by_cases hk : (k == NameKind.free) = true
      · rw [if_pos hk]
        exact ⟨(ih _).1, fun h => by rw [(ih _).2 h, List.lookup_cons, hb]⟩
      · rw [if_neg hk]; exact ih acc

set_option tactic.hygienic true in
theorem cellsFrom_other {x : Str} : ∀ (names : List (Str × NameKind)) (n : Nat) (acc : List (Str × Addr)), (∀ k, (x, k) ∈ names → k ≠ .cell) → (cellsFrom n names acc).lookup x = acc.lookup x
  | [], _, _, _ => rfl
  | (y, k) :: r, n, acc, h => by
    unfold cellsFrom
    split
    · rename_i hk
      have hk' : k = .cell := by simpa using hk
      have hxy : x ≠ y := fun e => h k (by rw [e]; exact List.mem_cons_self) hk'
      rw [cellsFrom_other r _ _ fun k hk => h k (List.mem_cons_of_mem _ hk), List.lookup_cons, show (x == y) = false by simpa using hxy]
    · exact cellsFrom_other r _ _ fun k hk => h k (List.mem_cons_of_mem _ hk)

noncomputable def CV.fzOnly : CV → CV
  | .fz v d => .fz v d
  | _ => .un
noncomputable def Loc.cell : Loc → Addr
  | .own ca => ca
  | .fre ca => ca
  | .loc => 0
noncomputable def compCE (c : List CE) : Nat → List (Str × NameKind) → List CE
  | _, [] => []
  | n, (x, k) :: r => match k with
    | .local => ⟨x, .loc, .un⟩ :: compCE c n r
    | .cell => ⟨x, .own n, .un⟩ :: compCE c (n + 1) r
    | .free => (match c.find? (fun e => e.x == x) with
      | some e => ⟨x, .fre e.loc.cell, e.cv.fzOnly⟩
      | none => ⟨x, .fre 0, .un⟩) :: compCE c n r
    | _ => compCE c n r
theorem find_lookup : ∀ (c : List CE) (x : Str), (abs c).lookup x = (c.find? (fun e => e.x == x)).map (·.cv.ab)
  | [], _ => rfl
  | e :: c, x => by
    rw [abs, List.map_cons, List.lookup_cons, List.find?_cons]
    by_cases h : x = e.x
    · subst h; simp
    · have h1 : (x == e.x) = false := by simpa using h
      have h2 : (e.x == x) = false := by simpa using fun q => h q.symm
      rw [h1, h2]; exact find_lookup c x
theorem ab_fzOnly (cv : CV) : cv.fzOnly.ab = cv.ab.fzOnly := by induction cv using Mine.CV.casesOn <;> rfl
theorem compCE_abs {sc : Scope} {c : List CE} {names : List (Str × NameKind)} {n : Nat} {ρ₀ : Rho} (h : compRho sc (abs c) names = some ρ₀) : abs (compCE c n names) = ρ₀ := by
  induction names generalizing n ρ₀ with
  | nil => exact (some_inv h).symm
  | cons p r ih =>
    obtain ⟨x, k⟩ := p
    induction k using PySem.NameKind.casesOn with
    | «local» =>
      refine o1_e h fun ρ₁ h1 h2 => ?_
      refine some_e h2 ?_; rw [← ih (n := n) h1]; rfl
    | cell =>
      refine o1_e h fun ρ₁ h1 h2 => ?_
      refine some_e h2 ?_; rw [← ih (n := n + 1) h1]; rfl
    | globalImplicit => exact ih (n := n) h
    | globalExplicit => exact no_none h
    | free =>
      refine o2_e (oif_inv h).2 fun lv ρ₁ h0 h1 h2 => ?_
      rw [find_lookup] at h0
      refine e1a2 (Option.map_eq_some_iff.mp h0) fun e q h3 => ?_
      refine some_e h2 ?_; rw [← ih (n := n) h1, ← h3, ← ab_fzOnly]
      have z : compCE c n ((x, NameKind.free) :: r) = (match c.find? (fun e => e.x == x) with | some e => ⟨x, .fre e.loc.cell, e.cv.fzOnly⟩ | none => ⟨x, .fre 0, .un⟩) :: compCE c n r := rfl
      rw [z, q]; rfl

theorem relabel_names {env : Env} : ∀ {names : List (Str × NameKind)} {x : Str} {k : NameKind}, names.lookup x = some k →
    (names.map fun (n, k) => if (k == NameKind.free && env.scope.kind == .function && env.kindOf n == some .cell) then (n, NameKind.cell) else (n, k)).lookup x = some k ∨
      (k = .free ∧ (names.map fun (n, k) => if (k == NameKind.free && env.scope.kind == .function && env.kindOf n == some .cell) then (n, NameKind.cell) else (n, k)).lookup x = some .cell)
  | [], _, _, h => by cases h
  | (n, k') :: r, x, k, h => by
    have ih := @relabel_names env r x k
    rw [List.map_cons]
    dsimp only
    by_cases hc : (k' == NameKind.free && env.scope.kind == .function && env.kindOf n == some .cell) = true
    · rw [if_pos hc]
      rw [List.lookup_cons] at h ⊢
      cases hx : x == n with
      | true =>
        rw [hx] at h
        cases h
        refine .inr ⟨?_, rfl⟩
        have := (Bool.and_eq_true_iff.mp (Bool.and_eq_true_iff.mp hc).1).1
        simpa using this
      | false => rw [hx] at h; exact ih h
    · rw [if_neg hc]
      rw [List.lookup_cons] at h ⊢
      cases hx : x == n with
      | true => rw [hx] at h; exact .inl h
      | false => rw [hx] at h; exact ih h
theorem lookup_of_mem {α : Type} : ∀ {l : List (Str × α)} {x : Str} {k : α}, (l.map (·.1)).Nodup → (x, k) ∈ l → l.lookup x = some k
  | (y, j) :: r, x, k, nd, h => by
    rw [List.map_cons, List.nodup_cons] at nd
    rw [List.lookup_cons]
    rcases List.mem_cons.mp h with z | z
    · cases z; simp
    · have : (x == y) = false := by
        have : x ≠ y := fun e => nd.1 (e ▸ List.mem_map.mpr ⟨(x, k), z, rfl⟩)
        simpa using this
      rw [this]; exact lookup_of_mem nd.2 z
theorem nodup_of_B : ∀ {l : List Str}, nodupB l = true → l.Nodup
  | [], _ => List.nodup_nil
  | x :: r, h => by
    unfold nodupB at h
    refine e0a2 (Bool.and_eq_true_iff.mp h) fun h1 h2 => ?_
    rw [List.nodup_cons]
    exact ⟨by simpa using h1, nodup_of_B h2⟩

noncomputable def CEIs (c : List CE) (n : Nat) (names : List (Str × NameKind)) (e : CE) : Prop :=
    ∃ k, (e.x, k) ∈ names ∧ ((k = .local ∧ e.loc = .loc ∧ e.cv = .un) ∨ (k = .cell ∧ (∃ ca, e.loc = .own ca ∧ n ≤ ca) ∧ e.cv = .un) ∨
      (k = .free ∧ ((∃ e', e' ∈ c ∧ e'.x = e.x ∧ e.loc = .fre e'.loc.cell ∧ e.cv = e'.cv.fzOnly) ∨ (c.find? (fun e' => e'.x == e.x) = none ∧ e.cv = .un ∧ ∃ ca, e.loc = .fre ca))))
theorem compCE_mem {c : List CE} : ∀ {names : List (Str × NameKind)} {n : Nat} {e : CE}, e ∈ compCE c n names → CEIs c n names e
  | [], _, _, h => (no_mem h)
  | (x, k) :: r, n, e, h => by
    unfold compCE at h
    have up : ∀ {m : Nat}, n ≤ m → e ∈ compCE c m r → CEIs c n ((x, k) :: r) e := fun {m} hm hmem => by
      refine e1a2 (compCE_mem hmem) fun k' m' q => ?_
      refine ⟨k', List.mem_cons_of_mem _ m', ?_⟩
      rcases q with q | ⟨q1, ⟨ca, q2, q3⟩, q4⟩ | q
      · exact .inl q
      · exact .inr (.inl ⟨q1, ⟨ca, q2, Nat.le_trans hm q3⟩, q4⟩)
      · exact .inr (.inr q)
    induction k using PySem.NameKind.casesOn with
    | «local» =>
      rcases List.mem_cons.mp h with z | z
      · subst z; exact ⟨.local, List.mem_cons_self, .inl ⟨rfl, rfl, rfl⟩⟩
      · exact up (Nat.le_refl _) z
    | cell =>
      rcases List.mem_cons.mp h with z | z
      · subst z; exact ⟨.cell, List.mem_cons_self, .inr (.inl ⟨rfl, ⟨n, rfl, Nat.le_refl _⟩, rfl⟩)⟩
      · exact up (Nat.le_succ _) z
    | globalImplicit => exact up (Nat.le_refl _) h
    | globalExplicit => exact up (Nat.le_refl _) h
    | free =>
      rcases List.mem_cons.mp h with z | z
      · generalize q : c.find? (fun e => e.x == x) = r_; induction r_ using Option.casesOn with
        | none =>
          rw [q] at z; dsimp only at z; subst z
          exact ⟨.free, List.mem_cons_self, .inr (.inr ⟨rfl, .inr ⟨q, rfl, 0, rfl⟩⟩)⟩
        | some e' =>
          rw [q] at z; dsimp only at z; subst z
          refine ⟨.free, List.mem_cons_self, .inr (.inr ⟨rfl, .inl ⟨e', List.mem_of_find?_eq_some q, ?_, rfl, rfl⟩⟩)⟩
          have := List.find?_some q; simpa using this
      · exact up (Nat.le_refl _) z
theorem compCE_names {c : List CE} : ∀ (names : List (Str × NameKind)) (n : Nat), ((compCE c n names).map (·.x)).Sublist (names.map (·.1))
  | [], _ => .slnil
  | (x, k) :: r, n => by
    unfold compCE
    induction k using PySem.NameKind.casesOn with
    | «local» => exact (compCE_names r n).cons_cons x
    | cell => exact (compCE_names r (n + 1)).cons_cons x
    | globalImplicit => exact (compCE_names r n).cons x
    | globalExplicit => exact (compCE_names r n).cons x
    | free =>
      dsimp only
      generalize q : c.find? (fun e => e.x == x) = r_; induction r_ using Option.casesOn <;> exact (compCE_names r n).cons_cons x
theorem fzOnly_priv (cv : CV) : cv.fzOnly.priv = [] := by induction cv using Mine.CV.casesOn <;> rfl
theorem compCE_privs {c : List CE} : ∀ (names : List (Str × NameKind)) (n : Nat), (∀ a ∈ (compCE c n names).flatMap CE.priv, n ≤ a) ∧ ((compCE c n names).flatMap CE.priv).Nodup
  | [], _ => ⟨fun _ h => (no_mem h), List.nodup_nil⟩
  | (x, k) :: r, n => by
    unfold compCE
    induction k using PySem.NameKind.casesOn with
    | «local» => exact compCE_privs r n
    | cell =>
      refine e0a2 (compCE_privs (c := c) r (n + 1)) fun h1 h2 => ?_
      refine ⟨fun a ha => ?_, ?_⟩
      · rcases List.mem_cons.mp (show a ∈ n :: (compCE c (n + 1) r).flatMap CE.priv from ha) with z | z
        · exact Nat.le_of_eq z.symm
        · exact Nat.le_of_succ_le (h1 a z)
      · show (n :: (compCE c (n + 1) r).flatMap CE.priv).Nodup
        rw [List.nodup_cons]
        exact ⟨fun z => absurd (h1 n z) (Nat.not_succ_le_self n), h2⟩
    | globalImplicit => exact compCE_privs r n
    | globalExplicit => exact compCE_privs r n
    | free =>
      dsimp only
      have ih := compCE_privs (c := c) r n
      generalize q : c.find? (fun e => e.x == x) = r_; induction r_ using Option.casesOn with
      | none => exact ih
      | some e =>
        have z : ((⟨x, .fre e.loc.cell, e.cv.fzOnly⟩ : CE) :: compCE c n r).flatMap CE.priv = (compCE c n r).flatMap CE.priv := by
          show ([] ++ e.cv.fzOnly.priv) ++ _ = _
          rw [fzOnly_priv]; rfl
        dsimp only
        rw [z]; exact ih
theorem compCE_own {c : List CE} : ∀ (names : List (Str × NameKind)) (h : Heap) (acc : List (Str × Addr)), (names.map (·.1)).Nodup → ∀ e ∈ compCE c h.objs.size names, ∀ ca, e.loc = .own ca →
    (cellsFrom h.objs.size names acc).lookup e.x = some ca ∧ (pushCells h names).IsCell ca none
  | [], _, _, _, _, he, _, _ => (no_mem he)
  | (x, k) :: r, h, acc, nd, e, he, ca, hl => by
    rw [List.map_cons, List.nodup_cons] at nd
    unfold compCE at he
    unfold cellsFrom pushCells
    induction k using PySem.NameKind.casesOn with
    | «local» =>
      rcases List.mem_cons.mp he with z | z
      · subst z; cases hl
      · exact compCE_own r h acc nd.2 e z ca hl
    | cell =>
      have hs : (h.push { cls := .type "cell", data := .cell none }).objs.size = h.objs.size + 1 := Heap.size_push ..
      simp only [beq_self_eq_true, if_true]
      rcases List.mem_cons.mp he with z | z
      · subst z
        cases hl
        refine ⟨?_, ?_⟩
        · rw [cellsFrom_other r _ _ fun k hk e => nd.1 (List.mem_map.mpr ⟨_, hk, rfl⟩), List.lookup_cons]; simp
        · exact ⟨_, pushCells_keeps r _ _ _ (Heap.get?_push_size _ rfl), rfl⟩
      · rw [← hs] at z ⊢
        exact compCE_own r _ _ nd.2 e z ca hl
    | globalImplicit => exact compCE_own r h acc nd.2 e he ca hl
    | globalExplicit => exact compCE_own r h acc nd.2 e he ca hl
    | free =>
      rcases List.mem_cons.mp he with z | z
      · exfalso
        generalize q : c.find? (fun e => e.x == x) = r_; induction r_ using Option.casesOn <;> rw [q] at z <;> dsimp only at z <;> subst z <;> cases hl
      · exact compCE_own r h acc nd.2 e z ca hl
noncomputable def compEnvX (scope : Scope) (env : Env) (C : Addr) : Env :=
  { scope := relabel scope env, locals := C, globals := env.globals, cells := cellsFrom (C + 1) scope.names (closL env.cells scope.names []), qual := env.qual, func := none, code := env.code, frame := env.frame, builtins := env.builtins }
theorem newCompEnv {M : Model} {A : Around} {E : Value → Shared → Prop} {s : Shared} {scope : Scope} {globals : Addr} {cl : List (Str × Addr)} {qual : Str} {outer : Env} {Q : Env → Shared → Prop}
    (h : Q { scope := scope, locals := s.heap.objs.size, globals := globals, cells := cellsFrom (s.heap.objs.size + 1) scope.names cl, qual := qual, func := none, code := outer.code, frame := outer.frame, builtins := outer.builtins }
      { s with heap := pushCells (s.heap.push { cls := .type "dict", data := .dict #[] }) scope.names }) :
    wpAny M A (newFunctionEnv scope globals cl [] qual none .none (some outer)) Q E s := by
  simp only [newFunctionEnv, Option.isSome_some, if_true]
  refine wpAny_bind (wpAny_alloc ?_)
  refine wpAny_bind (wpAny_layCells _ (fun name kind cells => rfl) scope.names cl _ _ ?_)
  rw [List.forIn_nil]
  refine wpAny_bind (wpAny_pure (wpAny_pure ?_))
  dsimp only
  rw [show (s.heap.push { cls := .type "dict", data := .dict #[] }).objs.size = s.heap.objs.size + 1 from Heap.size_push ..]
  exact h
end Mine

namespace Mine
open PySem PySem.W PySem.Calls PyProof.Rows PySem.SeqAt

theorem none_ge {h : Heap} {a : Addr} (e : h.objs.size ≤ a) : h.get? a = none := by
  generalize q : h.get? a = r_; induction r_ using Option.casesOn with
  | none => rfl
  | some o => exact absurd (Heap.lt_size q) (Nat.not_lt.mpr e)

section
variable {G : Gd} {l : Nat} {V : EvF} {P : Pg} {sc : Scope} {ρ : Rho} {hb : Heap} {env : Env} {c : List CE} {φ : Fz} {s : Shared} {A : Around} {E : Value → Shared → Prop}
noncomputable def FreeAt (env : Env) (c : List CE) (s : Shared) (x : Str) : Prop := ∃ e ∈ c, e.x = x ∧ env.cells.lookup x = some e.loc.cell ∧ ∃ ov, s.heap.IsCell e.loc.cell ov ∧ ∀ v, e.cv.val? = some v → ov = some v
theorem free_cells (S : St G hb sc env c φ s) {names : List (Str × NameKind)} {ρ₀ : Rho} (h : compRho sc (abs c) names = some ρ₀) {x : Str} (hm : (x, NameKind.free) ∈ names) : FreeAt env c s x := by
  induction names generalizing ρ₀ with
  | nil => nomatch hm
  | cons p r ih =>
    obtain ⟨y, k⟩ := p
    induction k using PySem.NameKind.casesOn with
    | «local» =>
      refine o1_e h fun ρ₁ h1 _ => ?_
      exact (List.mem_cons.mp hm).elim (fun z => nomatch z) (ih h1)
    | cell =>
      refine o1_e h fun ρ₁ h1 _ => ?_
      exact (List.mem_cons.mp hm).elim (fun z => nomatch z) (ih h1)
    | globalImplicit => exact (List.mem_cons.mp hm).elim (fun z => nomatch z) (ih h)
    | globalExplicit => exact no_none h
    | free =>
      refine o2_e (oif_inv h).2 fun lv ρ₁ hl h1 _ => ?_
      refine (List.mem_cons.mp hm).elim (fun z => ?_) (ih h1)
      have z : x = y := congrArg Prod.fst z
      subst z
      have hk := (oif_inv h).1
      refine e1a3 (abs_lookup hl) fun e he rr2 _ => ?_
      refine e1a2 (S.vars) fun m hn hv => ?_
      have hs := (hv e he).1
      have hlk := S.lk e he
      rw [rr2] at hlk
      unfold okFr at hk
      rw [← rr2]
      refine ⟨e, he, rfl, ?_⟩
      obtain ⟨n, loc, cv⟩ := e
      induction loc using Mine.Loc.casesOn with
      | loc =>
        exfalso
        generalize sc.names.lookup x = o at hk hlk
        induction o using Option.casesOn with
        | none => exact no_ft hk
        | some k => induction k using PySem.NameKind.casesOn <;> first | (exact no_ft hk; done) | exact hlk
      | own ca => obtain ⟨_, h2, ov, h3, h4⟩ := hs; exact ⟨h2, ov, h3, h4⟩
      | fre ca => obtain ⟨_, h2, ov, h3, h4⟩ := hs; exact ⟨h2, ov, h3.keeps S.base, h4⟩
theorem comp_st {scope : Scope} {ρ₀ : Rho} {s₃ : Shared} (S : St G hb sc env c φ s) (x : Step φ s φ s₃) (hk : scope.kind = .function) (nd : (scope.names.map (·.1)).Nodup) (h : compRho sc (abs c) scope.names = some ρ₀) :
    St G s.heap scope (compEnvX scope env s₃.heap.objs.size) (compCE c (s₃.heap.objs.size + 1) scope.names) φ { s₃ with heap := pushCells (s₃.heap.push { cls := .type "dict", data := .dict #[] }) scope.names } := by
  have hfc := fun (y : Str) (hy : (y, NameKind.free) ∈ scope.names) => free_cells S h hy
  have hsz : (s₃.heap.push { cls := .type "dict", data := .dict #[] }).objs.size = s₃.heap.objs.size + 1 := Heap.size_push ..
  have up : ∀ b o, s₃.heap.get? b = some o → (pushCells (s₃.heap.push { cls := .type "dict", data := .dict #[] }) scope.names).get? b = some o := fun b o e => pushCells_keeps _ _ _ _ (Heap.get?_push_of_some _ e)
  refine e0a2 (compCE_privs (c := c) scope.names (s₃.heap.objs.size + 1)) fun p1 p2 => ?_
  have big : ∀ a ∈ privs (compEnvX scope env s₃.heap.objs.size) (compCE c (s₃.heap.objs.size + 1) scope.names), s₃.heap.objs.size ≤ a := fun a ha => by
    rcases List.mem_cons.mp ha with z | z
    · exact Nat.le_of_eq z.symm
    · have := p1 a z; lia
  have lookF : ∀ y, (y, NameKind.free) ∈ scope.names → (env.cells.lookup y).isSome = true := fun y hy => by
    obtain ⟨e, _, _, h2, _⟩ := hfc y hy; rw [h2]; rfl
  refine ⟨⟨S.g.gnd, fun a o e => up a o (x.fin a o e)⟩, fun b o e => up b o (x.ext b o e), hk, S.glo, S.bui, fun y hy => ?_, fun e he => ?_, ?_, ?_, fun a ha => ?_, fun a ha => ?_, fun _ => none, ?_, fun e he => ?_⟩
  · rcases relabel_names (env := env) hy with z | ⟨z, _⟩
    · exact z
    · cases z
  · obtain ⟨k, hm, q⟩ := compCE_mem he
    rw [lookup_of_mem nd hm]
    rcases q with ⟨rfl, q2, _⟩ | ⟨rfl, ⟨ca, q2, _⟩, _⟩ | ⟨rfl, q2⟩
    · rw [q2]; trivial
    · rw [q2]; trivial
    · rcases q2 with ⟨e', _, _, q3, _⟩ | ⟨_, _, ca, q3⟩
      · rw [q3]; trivial
      · rw [q3]; trivial
  · exact nd.sublist (compCE_names _ _)
  · rw [privs, List.nodup_cons]
    exact ⟨fun z => by have := p1 _ z; exact absurd this (Nat.not_succ_le_self _), p2⟩
  · generalize q : φ a = r_; induction r_ using Option.casesOn with
    | none => rfl
    | some o => have := Heap.lt_size (x.fin a o q); exact absurd this (Nat.not_lt.mpr (big a ha))
  · exact none_of_ext x.ext (none_ge (big a ha))
  · exact (Heap.Ns.new s₃.heap _).keeps fun b o e => pushCells_keeps _ _ _ _ e
  · obtain ⟨k, hm, q⟩ := compCE_mem he
    have hl := lookup_of_mem nd hm
    rcases q with ⟨rfl, q2, q3⟩ | ⟨rfl, ⟨ca, q2, _⟩, q3⟩ | ⟨rfl, q2⟩
    · have hkd : (compEnvX scope env s₃.heap.objs.size).kindOf e.x = some .local := by
        rcases relabel_names (env := env) hl with z | ⟨z, _⟩
        · exact z
        · cases z
      obtain ⟨n, loc, cv⟩ := e
      dsimp only at q2 q3
      subst q2 q3
      exact ⟨⟨hkd, fun v z => (no_none z)⟩, trivial⟩
    · have hkd : (compEnvX scope env s₃.heap.objs.size).kindOf e.x = some .cell := by
        rcases relabel_names (env := env) hl with z | ⟨z, _⟩
        · exact z
        · cases z
      rw [← hsz] at he
      obtain ⟨o1, o2⟩ := compCE_own scope.names (s₃.heap.push { cls := .type "dict", data := .dict #[] }) (closL env.cells scope.names []) nd e he ca q2
      rw [hsz] at o1
      obtain ⟨n, loc, cv⟩ := e
      dsimp only at q2 q3
      subst q2 q3
      exact ⟨⟨hkd, o1, none, o2, fun v z => (no_none z)⟩, trivial⟩
    · obtain ⟨e₀, he₀, hx₀, hc₀, ov, hov, hval⟩ := hfc e.x hm
      have hkd : (compEnvX scope env s₃.heap.objs.size).kindOf e.x = some .free ∨ (compEnvX scope env s₃.heap.objs.size).kindOf e.x = some .cell := by
        rcases relabel_names (env := env) hl with z | ⟨_, z⟩
        · exact .inl z
        · exact .inr z
      have hcl : (compEnvX scope env s₃.heap.objs.size).cells.lookup e.x = some e₀.loc.cell := by
        show (cellsFrom (s₃.heap.objs.size + 1) scope.names (closL env.cells scope.names [])).lookup e.x = _
        rw [cellsFrom_other _ _ _ (fun k hk q => by rw [lookup_of_mem nd hk] at hl; have qq := Option.some.inj (hl); subst qq; cases q), ((closL_lookup scope.names [] lookF nd e.x).1 hl)]
        exact hc₀
      rcases q2 with ⟨e', he', hx', q3, q4⟩ | ⟨q5, _, _⟩
      · have : e' = e₀ := name_inj S.nd he' he₀ (hx'.trans hx₀.symm)
        subst this
        obtain ⟨m, hn, hv⟩ := S.vars
        have hg := (hv e' he').2
        obtain ⟨n, loc, cv⟩ := e
        dsimp only at q3 q4 hkd hcl
        subst q3 q4
        refine ⟨⟨hkd, hcl, ov, hov, fun v z => hval v ?_⟩, ?_⟩
        · generalize hcv : e'.cv = r_; induction r_ using Mine.CV.casesOn <;> rw [hcv] at z <;> simp [CV.fzOnly, CV.val?] at z ⊢; exact z
        · generalize hcv : e'.cv = r_; induction r_ using Mine.CV.casesOn <;> rw [hcv] at hg <;> simp only [CV.fzOnly] <;> first | exact hg | trivial
      · exfalso
        have := List.find?_eq_none.mp q5 e₀ he₀
        rw [hx₀] at this; simp at this
end
end Mine

namespace Mine
open PySem PySem.W PySem.Calls PyProof.Rows PySem.SeqAt

theorem Good.other {w : World} {φ : Fz} {h h' : Heap} {cv : CV} (g : Good w φ h cv) (ext : ∀ a ∈ cv.priv, ∀ o, h.get? a = some o → h'.get? a = some o) : Good w φ h' cv := g.mono (fun _ _ e => e) ext
theorem St.other {G : Gd} {hb : Heap} {sc : Scope} {env : Env} {c : List CE} {φ : Fz} {s : Shared} (S : St G hb sc env c φ s) {h' : Heap} {tk : Nat} (X : Addr → Prop)
    (keep : ∀ b o, ¬ X b → s.heap.get? b = some o → h'.get? b = some o) (xf : ∀ b, X b → φ b = none) (xb : ∀ b, X b → hb.get? b = none) (xp : ∀ b, X b → b ∉ privs env c) : St G hb sc env c φ { s with heap := h', toks := tk } := by
  refine e1a2 (S.vars) fun m hn hv => ?_
  have pk : ∀ a ∈ privs env c, ∀ o, s.heap.get? a = some o → h'.get? a = some o := fun a ha o e => keep a o (fun q => xp a q ha) e
  refine ⟨⟨S.g.gnd, fun a o e => keep a o (fun q => ?_) (S.g.fin a o e)⟩, fun b o e => keep b o (fun q => ?_) (S.base b o e), S.kind, S.glo, S.bui, S.gk, S.lk, S.nd, S.pnd, S.pfz, S.pbs, m, ?_, fun e he => ?_⟩
  · rw [xf a q] at e; exact no_none e
  · rw [xb b q] at e; exact no_none e
  · refine e3a2 (hn) fun o es ep ho r => ?_
    exact ⟨o, es, ep, pk _ List.mem_cons_self _ ho, r⟩
  · have hp : ∀ a ∈ e.priv, a ∈ privs env c := fun a ha => List.mem_cons_of_mem _ (List.mem_flatMap.mpr ⟨e, he, ha⟩)
    exact ⟨(hv e he).1.mono fun a ha o q => pk a (hp a (List.mem_append_left _ ha)) o q, (hv e he).2.other fun a ha o q => pk a (hp a (List.mem_append_right _ ha)) o q⟩

theorem St.moreFz {G : Gd} {hb : Heap} {sc : Scope} {env : Env} {c : List CE} {φ φ' : Fz} {s : Shared} (S : St G hb sc env c φ s) (up : ∀ a o, φ a = some o → φ' a = some o) (fin : ∀ a o, φ' a = some o → s.heap.get? a = some o)
    (off : ∀ a o, φ' a = some o → a ∈ privs env c → False) : St G hb sc env c φ' s := by
  refine e1a2 (S.vars) fun m hn hv => ?_
  refine ⟨⟨fun b o e => up b o (S.g.gnd b o e), fin⟩, S.base, S.kind, S.glo, S.bui, S.gk, S.lk, S.nd, S.pnd, fun a ha => ?_, S.pbs, m, hn, fun e he => ⟨(hv e he).1, (hv e he).2.mono up fun _ _ _ e => e⟩⟩
  generalize q : φ' a = r_; induction r_ using Option.casesOn with
  | none => rfl
  | some o => exact (off a o q ha).elim

section
variable {prog : Program} {w : World} {A : Around} {E : Value → Shared → Prop} {R : Result → Shared → Prop} {s : Shared}
set_option tactic.hygienic true in
theorem compLoop_any {elt target iter : Expr} {ifs : List Expr} {scope : Scope} {pos : Pos} {it acc : Value} {env : Env} (I : Nat → Shared → Prop)
    (turn : ∀ n s, I n s → wpAny (model prog w) A (pyNext it) (fun r s₁ => match r with
      | none => R (.ok .next) s₁
      | some v => wpAny (model prog w) A (letOwnedTupleGo target it v) (fun _ s₁' => wpAny (model prog w) A (assign target env v) (fun _ s₂ =>
          wpAny (model prog w) A (forIn ifs true fun c r => if r = true then do let ok ← isTrue c env (eval c env); pure (ForInStep.yield ok) else pure (ForInStep.yield r)) (fun ok s₃ =>
            if ok = true then wpAny (model prog w) A (eval elt env) (fun x s₄ =>
              wpAny (model prog w) A (call (.builtin "list.append") [acc, x]) (fun _ s₅ => ∃ m, m < n ∧ I m s₅) (notedBy (model prog w) A env fun e s' => R (.error e) s') s₄) (notedBy (model prog w) A env fun e s' => R (.error e) s') s₃
            else ∃ m, m < n ∧ I m s₃) (notedBy (model prog w) A env fun e s' => R (.error e) s') s₂) (notedBy (model prog w) A env fun e s' => R (.error e) s') s₁') (notedBy (model prog w) A env fun e s' => R (.error e) s') s₁) (notedBy (model prog w) A env fun e s' => R (.error e) s') s)
    (n : Nat) (h : I n s) : codeAny (model prog w) A (.compLoop (.ListComp elt [⟨target, iter, ifs, 0⟩] scope pos) 0 it acc env) R s := by
  refine codeAny_loop rfl I (fun n s hI => ?_) n h
  show wpAny _ A ((compTurn (.ListComp elt [⟨target, iter, ifs, 0⟩] scope pos) 0 it acc env).onRaise (fun x => do noteFrame x env; theTreesLotGoes x)) _ _ s
  refine wpAny_noted ?_
  rw [compTurn_list]
  refine wpAny_bind (wpAny_standAt (wpAny_bind (wpAny_mono (turn n s hI) (fun r s₁ h₁ => ?_) fun _ _ h' => h')))
  induction r using Option.casesOn with
  | none => exact wpAny_pure h₁
  | some v =>
    refine wpAny_bind (wpAny_mono h₁ (fun _ s₁' h₁' => ?_) fun _ _ h' => h')
    refine wpAny_bind (wpAny_mono h₁' (fun _ s₂ h₂ => wpAny_bind (wpAny_mono h₂ (fun ok s₃ h₃ => ?_) fun _ _ h' => h')) fun _ _ h' => h')
    induction ok using Bool.casesOn with
    | false => exact wpAny_pure ⟨rfl, h₃⟩
    | true =>
      exact wpAny_bind (wpAny_bind (wpAny_mono h₃ (fun x s₄ h₄ => wpAny_bind (wpAny_mono h₄ (fun _ s₅ h₅ => wpAny_pure (wpAny_pure ⟨rfl, h₅⟩)) fun _ _ h' => h')) fun _ _ h' => h'))
end

section
variable {G : Gd} {l : Nat} {V : EvF} {P : Pg} {sc : Scope} {ρ : Rho} {hb : Heap} {env : Env} {c : List CE} {φ : Fz} {s : Shared} {A : Around} {E : Value → Shared → Prop}
theorem ifs_ok (O : VOk G l V) {ifs : List Expr} {b : Bool} (h : ifsD V sc ρ ifs = some b) (R : Room A l) (S : St G hb sc env c φ s) (hc : abs c = ρ) {Q : Bool → Shared → Prop}
    (k : ∀ s', Step φ s φ s' → St G hb sc env c φ s' → Q b s') :
    wpAny (model G.prog G.w) A (forIn ifs true fun c r => if r = true then do let ok ← isTrue c env (eval c env); pure (ForInStep.yield ok) else pure (ForInStep.yield r)) Q E s := by
  match ifs, h with
  | [], h => rw [some_inv h] at k; exact wpAny_tests_nil (k s (.refl S.g.fin) S)
  | [_], h => exact wpAny_tests_one (O.thenT h R S hc k)
  | _ :: _ :: _, h => exact no_none h
theorem compCE_forget {names : List (Str × NameKind)} {n : Nat} : forgetP isOwn (compCE c n names) = compCE c n names := by
  unfold forgetP
  conv => rhs; rw [← List.map_id (compCE c n names)]
  apply List.map_congr_left
  intro e he
  refine e1a2 (compCE_mem he) fun k _ q => ?_
  obtain ⟨x, loc, cv⟩ := e
  dsimp only at q
  rcases q with ⟨_, q2, q3⟩ | ⟨_, ⟨ca, q2, _⟩, q3⟩ | ⟨_, q2⟩
  · subst q3; split <;> rfl
  · subst q3; split <;> rfl
  · have : isOwn ⟨x, loc, cv⟩ = false := by
      rcases q2 with ⟨e', _, _, q3, _⟩ | ⟨_, _, ca, q3⟩ <;> subst q3 <;> rfl
    rw [this]; rfl
structure CS (G : Gd) (s : Shared) (scope : Scope) (env' : Env) (φ : Fz) (Da : Addr) (wr : List Addr) (S : Fz → Heap → Prop) (c' : List CE) (φ' : Fz) (s' : Shared) : Prop where
  st : St G s.heap scope env' c' φ' s'
  eq : ∃ h tk, s' = { s with heap := h, toks := tk }
  sx : S φ' s'.heap
  up : ∀ a o, φ a = some o → φ' a = some o
  new : ∀ a o, φ' a = some o → φ a = some o ∨ s.heap.get? a = none
  fd : φ' Da = none
  fw : ∀ b ∈ wr, φ' b = none
structure FrO (wr : List Addr) (S : Fz → Heap → Prop) : Prop where
  frame : ∀ φ φ' h h', S φ h → (∀ a o, φ a = some o → φ' a = some o) → (∀ a o, φ a = some o → h.get? a = some o) → (∀ a o, φ' a = some o → h'.get? a = some o) → (∀ b ∈ wr, ∀ o, h.get? b = some o → h'.get? b = some o) → S φ' h'
  live : ∀ φ h, S φ h → ∀ b ∈ wr, ∃ o, h.get? b = some o
theorem Cu.fro {tgt : Expr} {I : Addr} {items : List D} {wr : List Addr} {Sx : Nat → Fz → Heap → Prop} (T : Cu G A tgt I items wr Sx) (i : Nat) : FrO wr (Sx i) := ⟨T.frame i, T.live i⟩
theorem live_ne {h : Heap} {b : Addr} (l : ∃ o, h.get? b = some o) (z : h.get? b = none) : False := by
  obtain ⟨o, w⟩ := l; rw [w] at z; exact no_some z
theorem St.fresh {G : Gd} {hb : Heap} {sc : Scope} {env : Env} {c : List CE} {φ : Fz} {s : Shared} (S : St G hb sc env c φ s) {a : Addr} (h : s.heap.get? a = none) : a ∉ privs env c := fun m => live_ne (S.privLive a m) h
theorem fset_ok {iter : Expr} {env : Env} (h : okE iter = true) (x : Value) : foldedSetIterable iter env x = pure x := by
  induction iter using PySem.Expr.casesOn <;> first | rfl | exact no_ft h
theorem none_new {φ φ' : Fz} {h : Heap} {b : Addr} (new : ∀ a o, φ' a = some o → φ a = some o ∨ h.get? a = none) (f : φ b = none) (l : ∃ o, h.get? b = some o) : φ' b = none := by
  generalize q : φ' b = r_; induction r_ using Option.casesOn with
  | none => rfl
  | some o =>
    rcases new b o q with z | z
    · rw [f] at z; exact no_none z
    · exact (live_ne l z).elim
section
variable {scope : Scope} {env' : Env} {Da : Addr} {wr : List Addr} {Sx Sy : Fz → Heap → Prop} {c₁ c₂ : List CE} {φ₁ φ₂ : Fz} {s₁ s₂ : Shared}
theorem CS.item (T : FrO wr Sx) (F : CS G s scope env' φ Da wr Sx c₁ φ₁ s₁) {h₂ : Heap} {tk₂ : Nat} (nW : ∀ b ∈ wr, s.heap.get? b = none) (pW : ∀ b ∈ wr, b ∉ privs env' c₁) (lD : ∃ o, s₁.heap.get? Da = some o) (st₂ : Sy φ₂ h₂)
    (keep₂ : ∀ b o, b ∉ wr → s₁.heap.get? b = some o → h₂.get? b = some o) (up₂ : ∀ a o, φ₁ a = some o → φ₂ a = some o) (new₂ : ∀ a o, φ₂ a = some o → φ₁ a = some o ∨ s₁.heap.get? a = none) (fin₂ : ∀ a o, φ₂ a = some o → h₂.get? a = some o) :
    CS G s scope env' φ Da wr Sy c₁ φ₂ { s₁ with heap := h₂, toks := tk₂ } where
  st := (F.st.other (h' := h₂) (tk := tk₂) (· ∈ wr) (fun b o nb e => keep₂ b o nb e) F.fw nW pW).moreFz up₂ fin₂ fun a o e hp => by
    rcases new₂ a o e with w | w
    · rw [F.st.pfz a hp] at w; exact no_none w
    · exact live_ne (F.st.privLive a hp) w
  eq := by obtain ⟨h, t, e⟩ := F.eq; exact ⟨h₂, tk₂, by rw [e]⟩
  sx := st₂
  up := fun a o e => up₂ a o (F.up a o e)
  new := fun a o e => (new₂ a o e).elim (F.new a o) fun z => .inr (none_of_ext F.st.base z)
  fd := none_new new₂ F.fd lD
  fw := fun b hb => none_new new₂ (F.fw b hb) (T.live _ _ F.sx b hb)
theorem CS.moved (T : FrO wr Sx) (F : CS G s scope env' φ Da wr Sx c₁ φ₁ s₁) (pW : ∀ b ∈ wr, b ∉ privs env' c₁) (M : Moved G s.heap scope env' c₁ φ₁ s₁ c₂ s₂) : CS G s scope env' φ Da wr Sx c₂ φ₁ s₂ where
  st := M.st
  eq := by
    refine e2a1 (F.eq) fun h t e => ?_
    refine e2a1 (M.eq) fun h' t' e' => ?_
    exact ⟨h', t', by rw [e', e]⟩
  sx := T.frame _ _ _ _ F.sx (fun _ _ e => e) F.st.g.fin M.st.g.fin fun b hb o e => M.keep _ _ (pW b hb) e
  up := F.up
  new := F.new
  fd := F.fd
  fw := F.fw
theorem CS.step (T : FrO wr Sx) (F : CS G s scope env' φ Da wr Sx c₁ φ₁ s₁) (lD : ∃ o, s₁.heap.get? Da = some o) (y : Step φ₁ s₁ φ₂ s₂) : CS G s scope env' φ Da wr Sx c₁ φ₂ s₂ where
  st := F.st.step y
  eq := by
    refine e2a1 (F.eq) fun h t e => ?_
    refine e2a1 (y.eq) fun h' t' e' => ?_
    exact ⟨h', t', by rw [e', e]⟩
  sx := T.frame _ _ _ _ F.sx y.up F.st.g.fin y.fin fun b _ o e => y.ext b o e
  up := fun a o e => y.up a o (F.up a o e)
  new := fun a o e => (y.new a o e).elim (F.new a o) fun z => .inr (none_of_ext F.st.base z)
  fd := none_new y.new F.fd lD
  fw := fun b hb => none_new y.new (F.fw b hb) (T.live _ _ F.sx b hb)
theorem CS.same (T : FrO wr Sx) (F : CS G s scope env' φ Da wr Sx c₁ φ₁ s₁) {h₂ : Heap} (sb : Heap.SameBut Da s₁.heap h₂) (hDW : ∀ b ∈ wr, Da ≠ b) (nD : s.heap.get? Da = none) (pD : Da ∉ privs env' c₁) : CS G s scope env' φ Da wr Sx c₁ φ₁ { s₁ with heap := h₂ } where
  st := F.st.other (tk := s₁.toks) (· = Da) (fun b o nb e => (sb.2 b nb).trans e) (fun b z => z ▸ F.fd) (fun b z => z ▸ nD) (fun b z => z ▸ pD)
  eq := by obtain ⟨h, t, e⟩ := F.eq; exact ⟨h₂, t, by rw [e]⟩
  sx := T.frame _ _ _ _ F.sx (fun _ _ e => e) F.st.g.fin (fun a o e => (sb.2 a fun z => by rw [z, F.fd] at e; exact no_none e).trans (F.st.g.fin a o e)) fun b hb o e => (sb.2 b (Ne.symm (hDW b hb))).trans e
  up := F.up
  new := F.new
  fd := F.fd
  fw := F.fw
end
noncomputable def CompI (G : Gd) (V : EvF) (s : Shared) (scope : Scope) (env' : Env) (c' : List CE) (φ : Fz) (Sx : Nat → Fz → Heap → Prop) (Da : Addr) (wr : List Addr) (items out : List D) (ρ₀ : Rho) (target : Expr) (ifs : List Expr) (elt : Expr) (k : Nat) (s' : Shared) : Prop :=
  ∃ (i : Nat) (φ' : Fz) (ys : List Value) (n : Nat) (rs rest : List D), k = items.length + 1 - i ∧ i ≤ items.length ∧ CS G s scope env' φ Da wr (Sx i) c' φ' s' ∧
      s'.heap.get? Da = some (lsO ys n) ∧ RepL φ' ys rs ∧ compGo V scope ρ₀ target ifs elt (items.drop i) = some rest ∧ rs ++ rest = out ∧ rs.length ≤ i
set_option maxHeartbeats 1000000 in
set_option tactic.hygienic true in
theorem comp_loop (O : VOk G l V) (hR : Room A l) (S : St G hb sc env c φ s) {scope : Scope} {ρ₀ : Rho} {elt target iter : Expr} {ifs : List Expr} {pos : Pos} {items out : List D}
    (hk : scope.kind = .function) (nd : (scope.names.map (·.1)).Nodup) (hρ : compRho sc (abs c) scope.names = some ρ₀) (hlen : items.length ≤ 2000001) (hgo : compGo V scope ρ₀ target ifs elt items = some out)
    {s₂ : Shared} {I : Addr} {wr : List Addr} {Sx : Nat → Fz → Heap → Prop} (T : Cu G A target I items wr Sx) (st0 : Sx 0 φ s₂.heap) (x₂ : Step φ s φ s₂) (nW : ∀ b ∈ wr, s.heap.get? b = none) (fW : ∀ b ∈ wr, φ b = none)
    {RR : Value → Addr → Result → Shared → Prop}
    (fin : ∀ D C φ' ys n s', Step φ s φ' s' → s'.heap.get? D = some (lsO ys n) → RepL φ' ys out → φ' D = none → φ' C = none → s.heap.get? D = none → s.heap.get? C = none → D ≠ C → (∃ m, s'.heap.Ns C m) → RR (.ref D) C (.ok .next) s') :
    wpAny (model G.prog G.w) A (newList []) (fun acc s₃ =>
      wpAny (model G.prog G.w) A (newFunctionEnv scope env.globals (closL env.cells scope.names []) [] env.qual none .none (some env)) (fun cenv s₄ =>
        codeAny (model G.prog G.w) A (.compStart (.ListComp elt [⟨target, iter, ifs, 0⟩] scope pos) 0 (.ref I) acc { cenv with scope := relabel scope env }) (RR acc cenv.locals) s₄) E s₃) E s₂ := by
  refine wpAny_newObj_type (hd := by size_fits) ?_
  generalize hs3 : ({ s₂ with heap := s₂.heap.push { cls := .type "list", dict := none, data := .seq ([] : List Value).toArray } } : Shared) = s₃
  have x₃ : Step φ s φ s₃ := by rw [← hs3]; exact x₂.trans (.push x₂.fin _ s₂.toks)
  have hD0 : s₃.heap.get? s₂.heap.objs.size = some (lsO [] 0) := by rw [← hs3]; exact Heap.get?_push_size _ rfl
  have up₃ : ∀ b o, s₂.heap.get? b = some o → s₃.heap.get? b = some o := fun b o e => by rw [← hs3]; exact Heap.get?_push_of_some _ e
  generalize hDd : s₂.heap.objs.size = Da at hD0
  have hsDa : Da < s₃.heap.objs.size := Heap.lt_size hD0
  have hW2 : ∀ b ∈ wr, ∃ o, s₂.heap.get? b = some o := T.live 0 φ s₂.heap st0
  have hsW : ∀ b ∈ wr, b < s₃.heap.objs.size := fun b hb => let ⟨o, e⟩ := hW2 b hb; Heap.lt_size (up₃ b o e)
  have hDW : ∀ b ∈ wr, Da ≠ b := fun b hb => let ⟨o, e⟩ := hW2 b hb; by rw [← hDd]; exact Nat.ne_of_gt (Heap.lt_size e)
  have nD : s.heap.get? Da = none := none_of_ext x₂.ext (by rw [← hDd]; exact get_size_none _)
  have fD : φ Da = none := by rw [← hDd]; exact fz_size x₂.fin
  refine newCompEnv ?_
  have S₄ := comp_st S x₃ hk nd hρ
  obtain ⟨C, hC⟩ : ∃ C, s₃.heap.objs.size = C := ⟨_, rfl⟩
  rw [hC] at S₄ hsDa ⊢
  have hsW : ∀ b ∈ wr, b < C := fun b hb => hC ▸ hsW b hb
  generalize hs4 : ({ s₃ with heap := pushCells (s₃.heap.push { cls := .type "dict", data := .dict #[] }) scope.names } : Shared) = s₄ at S₄ ⊢
  have up₄ : ∀ b o, s₃.heap.get? b = some o → s₄.heap.get? b = some o := fun b o e => by rw [← hs4]; exact pushCells_keeps _ _ _ _ (Heap.get?_push_of_some _ e)
  have eq₄ : ∃ h' tk, s₄ = { s with heap := h', toks := tk } := by
    refine e2a1 (x₃.eq) fun h t e => ?_
    exact ⟨_, t, by rw [← hs4, e]⟩
  generalize hc' : compCE c (C + 1) scope.names = c' at S₄
  have habs : abs c' = ρ₀ := by rw [← hc']; exact compCE_abs hρ
  have hown : forgetP isOwn c' = c' := by rw [← hc']; exact compCE_forget
  have hbig : ∀ a ∈ privs (compEnvX scope env C) c', C ≤ a := fun a ha => by
    rcases List.mem_cons.mp ha with z | z
    · exact Nat.le_of_eq z.symm
    · rw [← hc'] at z; have := (compCE_privs (c := c) scope.names (C + 1)).1 a z; omega
  have pD : Da ∉ privs (compEnvX scope env C) c' := fun h => absurd (hbig _ h) (Nat.not_le.mpr hsDa)
  have pW : ∀ b ∈ wr, b ∉ privs (compEnvX scope env C) c' := fun b hb h => absurd (hbig _ h) (Nat.not_le.mpr (hsW b hb))
  have nC : s.heap.get? C = none := S₄.pbs C List.mem_cons_self
  have hDC : Da ≠ C := Nat.ne_of_lt hsDa
  show codeAny _ _ (.compStart _ 0 _ _ (compEnvX scope env C)) (RR (.ref Da) C) s₄
  have st4 : Sx 0 φ s₄.heap := T.frame 0 φ φ s₂.heap s₄.heap st0 (fun _ _ e => e) x₂.fin (fun a o e => up₄ _ _ (x₃.fin a o e)) fun b hb o e => up₄ _ _ (up₃ _ _ e)
  have loop : codeAny (model G.prog G.w) A (.compLoop (.ListComp elt [⟨target, iter, ifs, 0⟩] scope pos) 0 (.ref I) (.ref Da) (compEnvX scope env C)) (RR (.ref Da) C) s₄ := by
    refine compLoop_any (CompI G V s scope (compEnvX scope env C) c' φ Sx Da wr items out ρ₀ target ifs elt) ?_ (items.length + 1)
      ⟨0, φ, [], 0, [], out, rfl, Nat.zero_le _, ⟨S₄, eq₄, st4, fun _ _ e => e, fun _ _ e => .inl e, fD, fW⟩, up₄ _ _ hD0, .nil, hgo, rfl, Nat.le_refl _⟩
    rintro k s' ⟨i, φ', ys, n, rs, rest, rfl, hi, F, hD, hr, hg, ho, hrl⟩
    by_cases hlt : i < items.length
    · refine wpAny_mono (T.item i φ' s' (fun v s₁ => wpAny (model G.prog G.w) A (assign target (compEnvX scope env C) v) ?post ?err s₁) _ hlt F.sx F.st.g.fin F.fw ?main) (fun r s₁ q => ?shape) fun _ _ e => e
      case shape =>
        induction r using Option.casesOn with
        | none => exact q.elim
        | some v => exact q
      intro v φ₁ h₁ tk₁ d₁ hd₁ rv' st₁ keep₁ up₁ new₁ fin₁
      have F₁ := F.item (tk₂ := tk₁) (T.fro i) nW pW ⟨_, hD⟩ st₁ keep₁ up₁ new₁ fin₁
      rw [List.drop_eq_getElem_cons hlt, some_inv ((List.getElem?_eq_getElem hlt).symm.trans hd₁).symm] at hg
      refine o1_e hg fun ρ₁ hb₁ hg => ?_
      refine o1_e hg fun b₁ hT hg => ?_
      refine wpAny_mono (bindT_ok hR.handled F₁.st (by rw [habs]; exact hb₁) rv') (fun _ s₂' q => q.elim fun c₂ q => ?_) fun _ _ e => e
      refine e0a2 (q) fun ab₂ M₂ => ?_
      have F₂ := F₁.moved (T.fro (i + 1)) pW M₂
      have hD₂ : s₂'.heap.get? Da = some (lsO ys n) := M₂.keep _ _ pD (keep₁ _ _ (fun z => hDW _ z rfl) hD)
      have back : ∀ {s₃' : Shared} {φ₃ : Fz}, St G s.heap scope (compEnvX scope env C) c₂ φ₃ s₃' → St G s.heap scope (compEnvX scope env C) c' φ₃ s₃' := fun z => by
        have := z.forgetP isOwn
        rw [M₂.own, hown] at this; exact this
      refine ifs_ok O hT hR F₂.st ab₂ fun s₃' y₃ S₃ => ?_
      have F₃ := F₂.step (T.fro (i + 1)) ⟨_, hD₂⟩ y₃
      have hD₃ := y₃.ext _ _ hD₂
      have ml : items.length + 1 - (i + 1) < items.length + 1 - i := by omega
      induction b₁ using Bool.casesOn with
      | true =>
        rw [if_pos rfl]
        refine o2_e hg fun r rs' hr₁ hrs' hg => ?_
        refine O.then hr₁ hR S₃ ab₂ fun v₄ φ₄ s₄' y₄ S₄' r₄ => ?_
        have F₄ := F₃.step (T.fro (i + 1)) ⟨_, hD₃⟩ y₄
        have F₄ : CS G s scope (compEnvX scope env C) φ Da wr (Sx (i + 1)) c' φ₄ s₄' := ⟨back F₄.st, F₄.eq, F₄.sx, F₄.up, F₄.new, F₄.fd, F₄.fw⟩
        refine wpAny_list_append_plain (⟨n, y₄.ext _ _ hD₃⟩ : s₄'.heap.PlainList Da ys.toArray) (fun h₅ pl₅ sb₅ => ?_) (by rw [sizeLine_eq, List.size_toArray, hr.length]; omega)
        refine e1a1 (pl₅) fun n₅ e₅ => ?_
        exact ⟨_, ml, i + 1, φ₄, ys ++ [v₄], n₅, rs ++ [r], rs', rfl, hlt, F₄.same (T.fro (i + 1)) sb₅ hDW nD pD, e₅.trans (by rw [List.push_toArray]; rfl), ((hr.mono up₁).mono y₄.up).append (.one r₄), hrs', by rw [← ho, some_inv hg, List.append_assoc]; rfl, by rw [List.length_append]; exact Nat.succ_le_succ hrl⟩
      | false =>
        rw [if_neg Bool.false_ne_true]
        exact ⟨_, ml, i + 1, φ₁, ys, n, rs, rest, rfl, hlt, ⟨back F₃.st, F₃.eq, F₃.sx, F₃.up, F₃.new, F₃.fd, F₃.fw⟩, hD₃, hr.mono up₁, hg, ho, Nat.le_succ_of_le hrl⟩
    · have hi' : i = items.length := by omega
      subst hi'
      rw [List.drop_length] at hg
      rw [some_inv hg, List.append_nil] at ho
      subst ho
      refine wpAny_mono (T.done φ' s' (fun s₁ => RR (.ref Da) C (.ok .next) s₁) _ F.sx F.st.g.fin fun h₁ tk₁ keep₁ => ?_) (fun r s₁ q => ?_) fun _ _ e => e
      rotate_left
      · obtain ⟨rfl, q⟩ := q; exact q
      have S₁ : St G s.heap scope (compEnvX scope env C) c' φ' { s' with heap := h₁, toks := tk₁ } := F.st.other (· ∈ wr) (fun b o nb e => keep₁ b o nb e) F.fw nW pW
      obtain ⟨hh, ht, es'⟩ := F.eq
      obtain ⟨m, hn, _⟩ := S₁.vars
      exact fin Da C φ' ys n _ ⟨⟨h₁, tk₁, by rw [es']⟩, S₁.base, F.up, F.new, S₁.g.fin⟩ (keep₁ _ _ (fun z => hDW _ z rfl) hD) hr F.fd (S₁.pfz C List.mem_cons_self) nD nC hDC ⟨m, hn⟩
  exact codeAny_compStart_list loop (T.self 0 φ _ _ _ st4 loop)
set_option tactic.hygienic true in
theorem itD_length {d : D} {items : List D} (hit : itD d = some items) : items.length ≤ 2000001 := by
  have big : ∀ {n : Nat}, n ≤ lim → n ≤ 2000001 := fun h => Nat.le_trans h (by decide)
  induction d using Mine.D.casesOn <;> first | exact no_none hit | skip
  case rng =>
    refine oif_e hit fun hl e => ?_
    refine some_e e ?_; rw [List.length_map]
    unfold rngL; split <;> simp <;> omega
  all_goals
    refine oif_e hit fun hl e => ?_
    refine some_e e ?_
    first | exact big hl | (rw [List.length_map]; exact big hl)
end
end Mine

namespace Mine
open PySem PySem.W PySem.Calls PyProof.Rows PySem.SeqAt

section
variable {G : Gd} {l : Nat} {V : EvF} {P : Pg} {sc : Scope} {ρ : Rho} {hb : Heap} {env : Env} {c : List CE} {φ : Fz} {s : Shared} {A : Around} {E : Value → Shared → Prop}

theorem epf_of {fr : Bool} {d : D} {v : Value} {s' : Shared} (h : EP φ s d v s') (hl : ∀ l, d ≠ .list l) : EPF fr φ s d v s' := by
  induction fr using Bool.casesOn
  · exact h
  · induction d using Mine.D.casesOn <;> first | exact absurd rfl (hl _) | exact h
theorem epf_list {fr : Bool} {r : List D} {v : Value} {s' : Shared} (h : EPL φ s r v s') : EPF fr φ s (.list r) v s' := by
  induction fr using Bool.casesOn
  · exact EP.epf h.ep
  · exact h
theorem EPF.after {φ₁ : Fz} {s₁ s₂ : Shared} {fr : Bool} {d : D} {v : Value} (x : Step φ s φ₁ s₁) (y : EPF fr φ₁ s₁ d v s₂) : EPF fr φ s d v s₂ := by
  induction fr using Bool.casesOn
  · exact EP.epf (EP.after x y.ep)
  · induction d using Mine.D.casesOn <;> first | exact EPL.after x y | exact EP.after x y
theorem ite_num {c : Prop} [Decidable c] {z : Int} {d : D} (h : (if c then some (D.int z) else none) = some d) : ∃ z, d = .int z := ⟨z, some_inv (oif_inv h).2⟩
set_option tactic.hygienic true in
theorem binD_nolist {op : Operator} {a b d : D} (h : binD op a b = some d) : ∀ l, d ≠ .list l := by
  intro l q
  subst q
  induction a using Mine.D.casesOn <;> first | exact no_none h | skip
  case int a =>
    refine o1_e h fun n _ g => ?_
    have : ∃ z, D.list l = .int z := by
      induction op using PySem.Operator.casesOn <;> first | exact no_none g | exact ite_num g | exact ⟨_, some_inv g⟩
    refine e1a1 (this) fun z e => ?_
    cases e
  case str a =>
    induction op using PySem.Operator.casesOn <;> first | exact no_none h | (refine o1_e h fun n _ g => ?_; cases some_inv (oif_inv g).2)
theorem cutS_nolist {a d : D} {x y z : Option Int} (h : cutS a x y z = some d) : ∀ l, d ≠ .list l := by
  intro l q
  subst q
  refine o1_e h fun n _ g => ?_
  cases some_inv (oif_inv g).2
theorem name_ok (PO : POk G l P) {n : Str} {d : D} (h : oLk P sc n (ρ.lookup n) = some d) (hn : (n == ("__classdict__" : Str)) = false) (S : St G hb sc env c φ s) (hc : abs c = ρ) : wpAny (model G.prog G.w) A (loadName env n) (EP φ s d) E s := by
  subst hc
  generalize hl : (abs c).lookup n = r_; induction r_ using Option.casesOn with
  | some lv =>
    rw [hl] at h
    refine e1a3 (abs_lookup hl) fun e he rr2 hab => ?_
    subst rr2
    refine e1a2 (S.vars) fun m hn' hv => ?_
    have hg := (hv e he).2
    generalize hcv : e.cv = r_; induction r_ using Mine.CV.casesOn <;> rw [hcv] at hab hg <;> subst hab <;> first | exact no_none h | (refine some_e h ?_; exact S.load he (by rw [hcv]; rfl) hn (EP.pure S.g.fin hg))
  | none =>
    rw [hl] at h
    refine oif_e h fun hg h => ?_
    exact PO.gl n d h env φ s A E S.kind S.glo S.bui (S.gk n hg) S.g
theorem addM_ok (O : VOk G l V) {op : BoolOp} {es : List Expr} {b : Bool} {φ : Fz} {s : Shared} (h : allT V sc ρ op es = some b) (R : Room A l) (S : St G hb sc env c φ s) (hc : abs c = ρ) :
    wpAny (model G.prog G.w) A (allTrue op es env) (fun r s' => r = b ∧ Step φ s φ s') E s := by
  induction es generalizing s with
  | nil => rw [arm_allTrue_nil, some_inv h]; exact wpAny_pure ⟨rfl, .refl S.g.fin⟩
  | cons x rest ih =>
    rw [arm_allTrue_cons]
    refine o1_e h fun a hx h => ?_
    refine wpAny_bind (O.thenT hx R S hc fun s' y S' => ?_)
    induction op using PySem.BoolOp.casesOn <;> induction a using Bool.casesOn <;> first | exact wpAny_mono (ih h S') (fun r s'' p => ⟨p.1, y.trans p.2⟩) (fun _ _ (e : E _ _) => e) | exact wpAny_pure ⟨(some_inv h).symm, y⟩
theorem release_ok {M : Model} {vs k : List Value} {Q : Unit → Shared → Prop} (h : Q () s) : wpAny M A (release vs k) Q E s := fun Γ p hΓ => by rw [Sem.wp_release]; exact h
theorem chain2 {a : Expr} {o1 o2 : CmpOp} {b c' : Expr} {pos : Pos} {wh : Sem Value} (ok : okE c' = true) {M : Model} {Q : Bool → Shared → Prop}
    (h : wpAny M A (eval a env) (fun va s₁ => wpAny M A (eval b env) (fun vb s₂ => wpAny M A (compareOp o1 va vb) (fun r s₃ => wpAny M A (truthy r) (fun t s₄ => if t = true then
      wpAny M A (eval c' env) (fun vc s₅ => wpAny M A (compareOp o2 vb vc) (fun r' s₆ => wpAny M A (truthy r') Q E s₆) E s₅) E s₄ else Q false s₄) E s₃) E s₂) E s₁) E s) :
    wpAny M A (isTrue (.Compare a [o1, o2] [b, c'] pos) env wh) Q E s := by
  rw [arm_isTrue_Compare]
  have hm : markedEach [o1, o2] [b, c'] (evalEach [b, c'] env) = [eval b env, eval c' env] := by
    have : behindInMarks o2 c' = false := by induction c' using PySem.Expr.casesOn <;> first | rfl | exact no_ft ok
    show [eval b env, markedBehindIn o2 c' (eval c' env)] = _
    rw [markedBehindIn_of_false this]
  rw [hm]
  refine wpAny_bind (wpAny_mono h (fun va s₁ h₁ => ?_) fun _ _ e => e)
  refine wpAny_bind (wpAny_holding (wpAny_mono h₁ (fun vb s₂ h₂ => wpAny_bind (wpAny_standAt (wpAny_bind (wpAny_holding (wpAny_mono h₂ (fun r s₃ h₃ => ?_) fun _ _ e => e))))) fun _ _ e => e))
  refine wpAny_bind (release_ok ?_)
  refine wpAny_bind (wpAny_holding (wpAny_mono h₃ (fun t s₄ h₄ => ?_) fun _ _ e => e))
  induction t using Bool.casesOn with
  | false => exact wpAny_pure h₄
  | true =>
    refine wpAny_bind (wpAny_holding (wpAny_mono h₄ (fun vc s₅ h₅ => wpAny_bind (wpAny_standAt (wpAny_bind (wpAny_operating (wpAny_mono h₅ (fun r' s₆ h₆ => wpAny_holding h₆) fun _ _ e => e)))) ) fun _ _ e => e))
theorem behind_ok {op : CmpOp} {r : Expr} (ok : okE r = true) : behindInMarks op r = false := by induction r using PySem.Expr.casesOn <;> first | rfl | exact no_ft ok

set_option tactic.hygienic true in
theorem stepT_ok (O : VOk G l V) (sc : Scope) (ρ : Rho) (e : Expr) (b : Bool) (h : stepT V sc ρ e = some b) : TSem G l sc ρ e b := by
  intro hb env c φ s A E R S hc
  have hu : A.units + 8 < cLine := by have := R.units; lia
  induction e using PySem.Expr.casesOn
  case UnaryOp op x p =>
    induction op using PySem.UnaryOp.casesOn
    case Not =>
      refine o1_e h fun a hx h => ?_
      refine some_e h ?_
      exact PyProof.Rows.isTrue_not (O.thenT hx R S hc fun s' y _ => ⟨rfl, y⟩)
    all_goals exact no_none h
  case BoolOp op vs p => rw [arm_isTrue_BoolOp]; exact addM_ok O h R S hc
  case IfExp t x o p =>
    rw [arm_isTrue_IfExp]
    refine o1_e h fun a ht h => ?_
    refine wpAny_bind (O.thenT ht R S hc fun s' y S' => ?_)
    induction a using Bool.casesOn
    · rw [if_neg Bool.false_ne_true]
      exact O.thenT h R S' hc fun s'' z _ => ⟨rfl, y.trans z⟩
    · rw [if_pos rfl]
      exact O.thenT h R S' hc fun s'' z _ => ⟨rfl, y.trans z⟩
  case Compare x ops rs p =>
    induction ops using List.casesOn
    case nil => exact no_none h
    case cons op ops =>
    induction ops using List.casesOn
    case nil =>
      induction rs using List.casesOn
      case nil => exact no_none h
      case cons r rs =>
      induction rs using List.casesOn
      case cons => exact no_none h
      case nil =>
      refine oif_e h fun ok h => ?_
      refine o2_e h fun a b' ha hb' h => ?_
      refine wpAny_isTrue_Compare1 (O.then ha R S hc fun va φ₁ s₁ y₁ S₁ r₁ => O.then hb' R S₁ hc fun vb φ₂ s₂ y₂ S₂ r₂ => ?_) (behind_ok ok)
      exact cmp_ok S₂.g.fin hu (r₁.mono y₂.up) r₂ h (wpAny_truthy_bool ⟨rfl, (y₁.trans y₂).back⟩)
    case cons op' ops =>
      induction ops using List.casesOn
      case cons => exact no_none h
      case nil =>
      induction rs using List.casesOn
      case nil => exact no_none h
      case cons r rs =>
      induction rs using List.casesOn
      case nil => exact no_none h
      case cons r' rs =>
      induction rs using List.casesOn
      case cons => exact no_none h
      case nil =>
      refine oif_e h fun ok h => ?_
      refine o3_e h fun a b' c' ha hb' hc' h => ?_
      refine o1_e h fun z h1 h => ?_
      refine chain2 ok (O.then ha R S hc fun va φ₁ s₁ y₁ S₁ r₁ => O.then hb' R S₁ hc fun vb φ₂ s₂ y₂ S₂ r₂ => cmp_ok S₂.g.fin hu (r₁.mono y₂.up) r₂ h1 (wpAny_truthy_bool ?_))
      induction z using Bool.casesOn
      · rw [if_neg Bool.false_ne_true, some_inv h]
        exact ⟨rfl, (y₁.trans y₂).back⟩
      · rw [if_pos rfl]
        exact O.then hc' R S₂ hc fun vc φ₃ s₃ y₃ S₃ r₃ => cmp_ok S₃.g.fin hu (r₂.mono y₃.up) r₃ h (wpAny_truthy_bool ⟨rfl, ((y₁.trans y₂).trans y₃).back⟩)
  all_goals
    refine o1_e h fun d hd ht => ?_
    exact isTrue_plain (O.then hd R S hc fun v φ₁ s₁ y S₁ r => truth_ok r ht ⟨rfl, y.back⟩) rfl
end
end Mine

namespace Mine
open PySem PySem.W PySem.Calls PyProof.Rows PySem.SeqAt

/-! zip of two rows of octets -/
section
variable {prog : Program} {w : World} {A : Around} {E : Value → Shared → Prop} {s : Shared} {b : Array UInt8} {t : Tok}
structure ZApart (z TI TO i1 i2 : Addr) : Prop where
  TIz : TI ≠ z
  TOz : TO ≠ z
  i1z : i1 ≠ z
  i2z : i2 ≠ z
  TITO : TI ≠ TO
  TIi1 : TI ≠ i1
  TIi2 : TI ≠ i2
  TOi1 : TO ≠ i1
  TOi2 : TO ≠ i2
  i12 : i1 ≠ i2
end
end Mine

namespace Mine
open PySem PySem.W PySem.Calls PyProof.Rows PySem.SeqAt

section
variable {prog : Program} {w : World} {A : Around} {E : Value → Shared → Prop} {s : Shared}
end
section
variable {G : Gd} {A : Around} {φ : Fz} {s : Shared} {E : Value → Shared → Prop}
end
end Mine

namespace Mine
open PySem PySem.W PySem.Calls PyProof.Rows PySem.SeqAt

section
variable {G : Gd} {A : Around} {φ : Fz} {s : Shared} {E : Value → Shared → Prop}
end
section
variable {G : Gd} {l : Nat} {V : EvF} {P : Pg} {sc : Scope} {ρ : Rho} {hb : Heap} {env : Env} {c : List CE} {φ : Fz} {s : Shared} {A : Around} {E : Value → Shared → Prop}
noncomputable def ItPost (G : Gd) (A : Around) (tgt : Expr) (items : List D) (φ : Fz) (s : Shared) (it : Value) (s₂ : Shared) : Prop :=
  ∃ φ₁ s₁ I wr Sx, Step φ s φ₁ s₁ ∧ it = .ref I ∧ Cu G A tgt I items wr Sx ∧ Sx 0 φ₁ s₂.heap ∧ Step φ₁ s₁ φ₁ s₂ ∧ (∀ b ∈ wr, s₁.heap.get? b = none) ∧ (∀ b ∈ wr, φ₁ b = none)
theorem compI_ok (O : VOk G l V) (R : Room A l) (S : St G hb sc env c φ s) (hc : abs c = ρ) {target iter : Expr} {items : List D} (h : compI V sc ρ target iter = some items) :
    wpAny (model G.prog G.w) A (eval iter env) (fun v s₁' => wpAny (model G.prog G.w) A (pyIter v) (ItPost G A target items φ s) E s₁') E s ∧ items.length ≤ 2000001 := by
  unfold compI at h
  · show _ ∧ _
    refine o1_e h fun d hd h => ?_
    refine ⟨O.then hd R S hc fun v φ₁ s₁ y₁ S₁ r₁ => ?_, itD_length h⟩
    refine wpAny_mono (cu_ok (G := G) target S₁.g.fin R.handled r₁ h) (fun it s₂ q => ?_) fun _ _ e => e
    refine e3a6 (q) fun I wr Sx rr3 T st0 x₂ nW fW => ?_
    subst rr3
    exact ⟨φ₁, s₁, I, wr, Sx, y₁, rfl, T, st0, x₂, nW, fW⟩
end
end Mine

namespace Mine
open PySem PySem.W PySem.Calls PyProof.Rows PySem.SeqAt

section
variable {G : Gd} {l : Nat} {V : EvF} {P : Pg} {sc : Scope} {ρ : Rho} {hb : Heap} {env : Env} {c : List CE} {φ : Fz} {s : Shared} {A : Around} {E : Value → Shared → Prop}

theorem newList_ok {vs : List Value} {ds : List D} (fin : ∀ a o, φ a = some o → s.heap.get? a = some o) (r : RepL φ vs ds) (hl : ds.length ≤ lim) : wpAny (model G.prog G.w) A (newList vs) (EPL φ s ds) E s := by
  refine wpAny_newObj_type ?_ (by show vs.toArray.size ≤ sizeLine; rw [List.size_toArray, r.length, sizeLine_eq]; unfold lim at hl; lia)
  exact ⟨φ, s.heap.objs.size, 0, vs, .push fin _ s.toks, rfl, Heap.get?_push_size _ rfl, r, fz_size fin, get_size_none _⟩
theorem newTuple_ok {vs : List Value} {ds : List D} (fin : ∀ a o, φ a = some o → s.heap.get? a = some o) (r : RepL φ vs ds) (hl : ds.length ≤ lim) : wpAny (model G.prog G.w) A (newTuple vs) (EP φ s (.tup ds)) E s := by
  refine wpAny_newObj_type ?_ (by show vs.toArray.size ≤ sizeLine; rw [List.size_toArray, r.length, sizeLine_eq]; unfold lim at hl; lia)
  have f := fz_size fin
  refine ⟨φ.put s.heap.objs.size (tpO vs 0), (Step.push fin _ s.toks).freeze (get_size_none _) (Heap.get?_push_size _ rfl) f, .tup (Fz.put_self ..) (r.mono (Fz.put_up f))⟩
theorem evs_length {f : Expr → Option D} {es : List Expr} {ds : List D} (h : evs f es = some ds) : ds.length = es.length := by
  induction es generalizing ds with
  | nil => refine some_e h ?_; rfl
  | cons e r ih =>
    obtain ⟨_, d, ds', _, h2, rfl⟩ := evs_inv h
    exact congrArg Nat.succ (ih h2)
theorem repK_zip {ks : List (Str × D)} {vs : List Value} (r : RepL φ vs (ks.map (·.2))) : RepK φ ((ks.map (·.1)).zip vs) ks := by
  have hl : vs.length = ks.length := by rw [r.length, List.length_map]
  refine ⟨?_, ?_⟩
  · rw [List.map_fst_zip (by simp [hl])]
  · rw [List.map_snd_zip (by simp [hl])]; exact r
theorem call_go (PO : POk G l P) (O : VOk G l V) (R : Room A l) (hc : abs c = ρ) {pos : Pos} {f : Value} {fs ds : List D} {first : List Value} {ks : List (Str × D)} {args : List Expr} {kws : List Keyword} {d : D} {φ₀ : Fz} {s₀ : Shared}
    (x₀ : Step φ₀ s₀ φ s) (S : St G hb sc env c φ s) (rf : RepL φ first fs) (h1 : evs (V.e sc ρ) args = some ds) (h2 : evk (V.e sc ρ) kws = some ks) (h : P.fn f (fs ++ ds) ks = some d) :
    wpAny (model G.prog G.w) A (callWith pos f first (backTo pos (starEach args env)) (backToKw pos (keywordEach kws env))) (EP φ₀ s₀ d) E s := by
  obtain ⟨⟨k, hk, L⟩, run⟩ := PO.fn f _ _ _ h
  have k0 := evk_ok (pos := pos) (A := A) (E := E) O R hc h2 S
  refine callWith_go (noStar pos h1) k0.2.1 (wpAny_mono (evs_ok O R hc h1 S) (fun vs s₁ q => ?_) fun _ _ e => e)
  refine e1a2 (q) fun φ₁ x₁ r₁ => ?_
  have S₁ := S.step x₁
  have k1 := evk_ok (pos := pos) (A := A) (E := E) O R hc h2 S₁
  refine wpAny_mono k1.1 (fun kvs s₂ q => ?_) fun _ _ e => e
  refine e1a2 (q) fun φ₂ x₂ r₂ => ?_
  have S₂ := S₁.step x₂
  refine ⟨⟨k, hk, (L _).keeps S₂.g.keep⟩, ?_⟩
  rw [k1.2.2]
  exact wpAny_mono (run _ _ φ₂ s₂ A E S₂.g R ((rf.mono fun a o e => x₂.up a o (x₁.up a o e)).append (r₁.mono x₂.up)) (repK_zip r₂)) (fun v s₃ q => EP.after ((x₀.trans x₁).trans x₂) q) fun _ _ e => e
theorem slice_ok (O : VOk G l V) (R : Room A l) (hc : abs c = ρ) {lo hi st : Option Expr} {p : Pos} {k1 k2 k3 : Option Int} (h1 : partD V sc ρ lo = some k1) (h2 : partD V sc ρ hi = some k2) (h3 : partD V sc ρ st = some k3) (S : St G hb sc env c φ s) :
    wpAny (model G.prog G.w) A (eval (.Slice lo hi st p) env) (fun i s' => ∃ sl vl vu vt φ', i = .ref sl ∧ s'.heap.IsSliceOf sl vl vu vt ∧ IsPart vl k1 ∧ IsPart vu k2 ∧ IsPart vt k3 ∧ Step φ s φ' s') E s := by
  refine wpAny_Slice (wpAny_mono (part_ok O R hc h1 S) (fun vl s₁ q => ?_) fun _ _ e => e)
  obtain ⟨p1, φ₁, x₁⟩ := q
  refine wpAny_mono (part_ok O R hc h2 (S.step x₁)) (fun vu s₂ q => ?_) fun _ _ e => e
  obtain ⟨p2, φ₂, x₂⟩ := q
  refine wpAny_mono (part_ok O R hc h3 ((S.step x₁).step x₂)) (fun vt s₃ q => ?_) fun _ _ e => e
  obtain ⟨p3, φ₃, x₃⟩ := q
  exact ⟨_, vl, vu, vt, φ₃, rfl, Heap.IsSliceOf.new .., p1, p2, p3, ((x₁.trans x₂).trans x₃).trans (.push x₃.fin _ s₃.toks)⟩
set_option tactic.hygienic true in
theorem cut_slot {v : Value} {a d : D} {x y z : Option Int} (fin : ∀ a o, φ a = some o → s.heap.get? a = some o) (r : Rep φ v a) (h : cutD a x y z = some d) : ∃ T id, s.TypeIs v T ∧ typeLookup (.type T) "__getitem__" = pure (some (.builtin id)) := by
  induction a using Mine.D.casesOn <;> first | exact no_none h | skip
  case str l => obtain ⟨t, rfl⟩ := r.iStr; exact ⟨_, _, typeIs_str s _ _, F.slot_str_getitem.lookup⟩
  case list l => obtain ⟨a, vs, n, rfl, e1, _⟩ := r.iList; exact ⟨_, _, (lsO_isList (fin _ _ e1)).typeIs, slot_list_getitem.lookup⟩
theorem cut_ok {va : Value} {sl : Addr} {vl vu vt : Value} {a d : D} {k1 k2 k3 : Option Int} {φ₁ : Fz} {s₁ : Shared} (x₁ : Step φ s φ₁ s₁) (r₁ : Rep φ₁ va a) (hsl : s₁.heap.IsSliceOf sl vl vu vt) (q1 : IsPart vl k1) (q2 : IsPart vu k2) (q3 : IsPart vt k3) (h : cutD a k1 k2 k3 = some d) :
    wpAny (model G.prog G.w) A (getItem va (.ref sl)) (EPF true φ s d) E s₁ := by
  unfold cutD at h
  generalize hr : cutL a k1 k2 k3 = r_; induction r_ using Option.casesOn with
  | some r => rw [hr] at h; refine some_e h ?_; exact wpAny_mono (getSlice_ok x₁.fin r₁ hsl q1 q2 q3 hr) (fun v s' q => epf_list (EPL.after x₁ q)) fun _ _ e => e
  | none => rw [hr] at h; exact wpAny_mono (getSliceS_ok x₁.fin r₁ hsl q1 q2 q3 h) (fun v s' q => epf_of (EP.after x₁ q) (cutS_nolist h)) fun _ _ e => e
theorem idx_E (O : VOk G l V) (R : Room A l) (hc : abs c = ρ) {v i : Expr} {p : Pos} {d : D} (hn : notSlice i = true) (h : oIdx (V.e sc ρ v) (V.e sc ρ i) = some d) (S : St G hb sc env c φ s) : wpAny (model G.prog G.w) A (eval (.Subscript v i p) env) (EPF false φ s d) E s := by
  refine o2_e h fun a k ha hk h => ?_
  refine o1_e h fun j hj h => ?_
  rw [intD_inv hj] at hk
  exact PyProof.Rows.Subscript_ (O.then ha R S hc fun va φ₁ s₁ y₁ S₁ r₁ => O.then hk R S₁ hc fun vk φ₂ s₂ y₂ S₂ r₂ => r₂.iInt.elim fun t e => by
    rw [e]; exact wpAny_mono (item_ok S₂.g.fin (r₁.mono y₂.up) h hn) (fun v s' q => EP.epf (EP.after (y₁.trans y₂) q)) fun _ _ e => e)
set_option tactic.hygienic true in
theorem sub_E (O : VOk G l V) (R : Room A l) (hc : abs c = ρ) {v i : Expr} {p : Pos} {d : D} (h : stepSub V sc ρ v i = some d) (S : St G hb sc env c φ s) : wpAny (model G.prog G.w) A (eval (.Subscript v i p) env) (EPF (isFresh (.Subscript v i p)) φ s d) E s := by
  induction i using PySem.Expr.casesOn
  case Slice lo hi st p2 =>
    refine o1_e h fun a ha h => ?_
    refine o3_e h fun k1 k2 k3 h1 h2 h3 h => ?_
    refine PyProof.Rows.Subscript_ (O.then ha R S hc fun va φ₁ s₁ y₁ S₁ r₁ => wpAny_mono (slice_ok O R hc h1 h2 h3 S₁) (fun i s₂ q => ?_) fun _ _ e => e)
    obtain ⟨sl, vl, vu, vt, φ₂, rfl, hsl, q1, q2, q3, y₂⟩ := q
    refine e2a2 (cut_slot y₂.fin (r₁.mono y₂.up) h) fun T id hT hL => ?_
    have hg := cut_ok (A := A) (E := E) (G := G) (y₁.trans y₂) (r₁.mono y₂.up) hsl q1 q2 q3 h
    induction st using Option.casesOn with
    | none => exact tail_any (ops := [.ref sl, va]) hT hL hg rfl
    | some st => exact tail_any (ops := [va, .ref sl]) hT hL hg rfl
  all_goals exact idx_E O R hc rfl h S
theorem mcall_ok (PO : POk G l P) (O : VOk G l V) (R : Room A l) (hc : abs c = ρ) {o : Expr} {n : Str} {apos pos : Pos} {args : List Expr} {kws : List Keyword} {d : D} (h : stepCall P V sc ρ args kws pos (.Attribute o n apos) = some d) (S : St G hb sc env c φ s) :
    wpAny (model G.prog G.w) A (eval (.Call (.Attribute o n apos) args kws pos) env) (EP φ s d) E s := by
  refine oif_e h fun hg h => ?_
  refine and_e hg fun hg hn => ?_
  refine and_e hg fun hab hline => ?_
  have hn := of_decide_eq_true hn
  refine o3_e h fun d₀ ds ks hd hds hks h => ?_
  obtain ⟨⟨f, fs⟩, hm, h⟩ := o1_inv h
  have hform : methodCallForm (args.length + kws.length) (backTo pos (starEach args env)) (backToKw pos (keywordEach kws env)) = true := by
    unfold methodCallForm
    have h1 : (backTo pos (starEach args env)).all (!·.1) = true := by
      rw [← List.not_any_eq_all_not, noStar (env := env) pos hds]; rfl
    rw [h1, (evk_ok (pos := pos) (A := A) (E := E) O R hc hks S).2.1]
    simp only [Bool.true_and, decide_eq_true_eq]
    split <;> lia
  rw [arm_eval_Call, attrBase_ok hab]
  refine wpAny_bind (O.then hd R S hc fun v φ₁ s₁ y₁ S₁ r₁ => wpAny_bind (wpAny_standAt ?_))
  unfold methodCall
  rw [hform]
  refine wpAny_bind (wpAny_holding ?_)
  unfold calleeOf
  rw [if_pos rfl]
  refine wpAny_mono (PO.mt _ _ _ _ hm v φ₁ s₁ A E _ S₁.g R r₁) (fun r s₂ q => ?_) fun _ _ e => e
  obtain ⟨f', first⟩ := r
  obtain ⟨rfl, φ₂, y₂, rf⟩ := q
  have hp : methodCallPos true o env apos pos = pure pos := by
    unfold methodCallPos; rw [hline]; rfl
  exact wpAny_bind (wpAny_of_eq hp (call_go PO O R hc (y₁.trans y₂) (S₁.step y₂) rf hds hks h))
theorem stepLC_e {elt : Expr} {g : Comprehension} {scope : Scope} {d : D} {X : Prop} (h : stepLC V sc ρ elt scope [g] = some d)
    (k : okE g.iter = true → scope.kind = .function → (scope.names.map (·.1)).Nodup → g.is_async = 0 → ∀ d₀ ρ₀ out, compI V sc ρ g.target g.iter = some d₀ → compRho sc ρ scope.names = some ρ₀ → compGo V scope ρ₀ g.target g.ifs elt d₀ = some out → d = .list out → X) : X := by
  refine oif_e h fun hg h => ?_
  refine and_e hg fun hg ha => ?_
  refine and_e hg fun hg hnd => ?_
  refine and_e hg fun hok hk => ?_
  refine o2_e h fun d₀ ρ₀ hd hρ h => ?_
  refine o1_e h fun out hgo h => ?_
  exact k hok (by simpa using hk) (nodup_of_B hnd) (eq_of_beq ha) d₀ ρ₀ out hd hρ hgo (some_inv h)
theorem nm_free {names : List (Str × NameKind)} (nd : (names.map (·.1)).Nodup) {k : NameKind} (x : Str × NameKind) (h : x ∈ names) (e : x.2 = k) : names.lookup x.1 = some k := e ▸ lookup_of_mem nd h
theorem comp_E (O : VOk G l V) (R : Room A l) (hc : abs c = ρ) {elt : Expr} {g : Comprehension} {scope : Scope} {pos : Pos} {d : D} (h : stepLC V sc ρ elt scope [g] = some d) (S : St G hb sc env c φ s) :
    wpAny (model G.prog G.w) A (eval (.ListComp elt [g] scope pos) env) (EPF true φ s d) E s := by
  subst hc
  obtain ⟨target, iter, ifs, asy⟩ := g
  refine stepLC_e h fun hok hk nd ha d₀ ρ₀ out hd hρ hgo hq => ?_
  have ha : asy = 0 := ha
  subst ha
  rw [hq, eval_ListComp]
  refine wpAny_comprehension_free (use := none) (cl := closL env.cells scope.names []) rfl (fset_ok hok) (clos_eq fun x hx => ?_) hk (fun x hx hl => ?_) ?_
  · obtain ⟨e, _, _, h2, _⟩ := free_cells S hρ hx; rw [h2]; rfl
  · exact nm_free nd x hx hl
  · refine e0a2 (compI_ok (A := A) (E := E) O R S rfl hd) fun hI hlen => ?_
    refine wpAny_mono hI (fun v s₁' q => wpAny_mono q (fun it s₂ q => ?_) fun _ _ e => e) fun _ _ e => e
    refine e5a7 q fun φ₁ s₁ I wr Sx y₁ rr T st0 x₂ nW fW => ?_
    subst rr
    refine comp_loop O R (S.step y₁) hk nd hρ hlen hgo T st0 x₂ nW fW (RR := fun acc C => compPost (model G.prog G.w) A E none (EPF true φ s (.list out)) acc C) ?_
    intro Da C φ' ys n s' x hD hr fD fC nD nC hDC hm
    refine e1a1 hm fun m hn => ?_
    refine ⟨m, hn, fun h'' hs'' => ?_⟩
    refine epf_list ⟨φ', Da, n, ys, y₁.trans ?_, rfl, (hs''.2 Da hDC).trans hD, hr, fD, none_of_ext y₁.ext nD⟩
    refine e2a1 x.eq fun h1 t1 e1 => ?_
    refine ⟨⟨h'', t1, by rw [e1]⟩, fun b o e => (hs''.2 b fun z => ?_).trans (x.ext b o e), x.up, x.new, fun a o e => (hs''.2 a fun z => ?_).trans (x.fin a o e)⟩
    · rw [z, nC] at e; exact no_none e
    · rw [z, fC] at e; exact no_none e
set_option tactic.hygienic true in
theorem stepE_ok (PO : POk G l P) (O : VOk G l V) (sc : Scope) (ρ : Rho) (e : Expr) (d : D) (h : stepE P V sc ρ e = some d) : ESem G l sc ρ e d := by
  intro hb env c φ s A E R S hc
  have hu : A.units + 8 < cLine := by have := R.units; lia
  have ep : ∀ {m : Sem Value}, wpAny (model G.prog G.w) A m (EP φ s d) E s → wpAny (model G.prog G.w) A m (EPF false φ s d) E s := fun h => wpAny_mono h (fun _ _ p => EP.epf p) fun _ _ e => e
  induction e using PySem.Expr.casesOn
  case Constant k n p => exact ep (const_ok h S.g.fin)
  case Name n p =>
    refine oif_e h fun hn h => ?_
    refine e0a2 (nmOk_parts hn) fun n1 n2 => ?_
    exact ep (wpAny_Name (name_ok PO h n2 S hc) n1)
  case BinOp x op y p =>
    refine o2_e h fun a b ha hb' h => ?_
    refine wpAny_BinOp (O.then ha R S hc fun va φ₁ s₁ y₁ S₁ r₁ => O.then hb' R S₁ hc fun vb φ₂ s₂ y₂ S₂ r₂ => ?_)
    unfold binF at h
    generalize hr : binL op a b = r_; induction r_ using Option.casesOn with
    | some r => rw [hr] at h; refine some_e h ?_; exact wpAny_mono (binL_ok S₂.g.fin (r₁.mono y₂.up) r₂ hr) (fun v s' q => epf_list (EPL.after (y₁.trans y₂) q)) fun _ _ e => e
    | none => rw [hr] at h; exact wpAny_mono (bin_ok S₂.g.fin (r₁.mono y₂.up) r₂ h) (fun v s' q => epf_of (EP.after (y₁.trans y₂) q) (binD_nolist h)) fun _ _ e => e
  case UnaryOp op x p =>
    refine o1_e h fun a ha h => ?_
    exact UnaryOp_ (O.then ha R S hc fun va φ₁ s₁ y₁ S₁ r₁ => wpAny_mono (un_ok S₁.g.fin r₁ h) (fun v s' q => EP.epf (EP.after y₁ q)) fun _ _ e => e)
  case Compare x ops rs p =>
    induction ops using List.casesOn
    case nil => exact no_none h
    case cons op ops =>
    induction ops using List.casesOn
    case cons => exact no_none h
    case nil =>
    induction rs using List.casesOn
    case nil => exact no_none h
    case cons r rs =>
    induction rs using List.casesOn
    case cons => exact no_none h
    case nil =>
    refine oif_e h fun ok h => ?_
    refine o1_e h fun z h hz => ?_
    refine o2_e h fun a b ha hb' h => ?_
    refine some_e hz ?_
    exact wpAny_Compare1 (O.then ha R S hc fun va φ₁ s₁ y₁ S₁ r₁ => O.then hb' R S₁ hc fun vb φ₂ s₂ y₂ S₂ r₂ => cmp_ok S₂.g.fin hu (r₁.mono y₂.up) r₂ h (EP.epf ⟨φ₂, y₁.trans y₂, .bool _⟩)) (behind_ok ok)
  case IfExp t x o p =>
    refine o1_e h fun a ht h => ?_
    refine IfExp_ (O.thenT ht R S hc fun s' y S' => ?_)
    induction a using Bool.casesOn
    · rw [if_neg Bool.false_ne_true]
      exact O.then h R S' hc fun v φ₁ s₁ y₁ _ r => EP.epf ⟨φ₁, y.trans y₁, r⟩
    · rw [if_pos rfl]
      exact O.then h R S' hc fun v φ₁ s₁ y₁ _ r => EP.epf ⟨φ₁, y.trans y₁, r⟩
  case List es p =>
    refine oif_e h fun hl h => ?_
    refine o1_e h fun ds hds h => ?_
    refine some_e h ?_
    exact PyProof.Rows.List_ (wpAny_mono (evs_ok O R hc hds S) (fun vs s₁ q => q.elim fun φ₁ q => wpAny_mono (newList_ok q.1.fin q.2 (by rw [evs_length hds]; exact hl)) (fun v s' z => epf_list (EPL.after q.1 z)) fun _ _ e => e) fun _ _ e => e)
  case Tuple es k p =>
    refine oif_e h fun hl h => ?_
    refine o1_e h fun ds hds h => ?_
    refine some_e h ?_
    exact PyProof.Rows.Tuple_ (wpAny_mono (evs_ok O R hc hds S) (fun vs s₁ q => q.elim fun φ₁ q => wpAny_mono (newTuple_ok q.1.fin q.2 (by rw [evs_length hds]; exact hl)) (fun v s' z => EP.epf (EP.after q.1 z)) fun _ _ e => e) fun _ _ e => e)
  case Attribute o n p =>
    refine oif_e h fun hab h => ?_
    refine o1_e h fun a ha h => ?_
    rw [arm_eval_Attribute, attrBase_ok hab]
    refine wpAny_bind (O.then ha R S hc fun v φ₁ s₁ y₁ S₁ r₁ => wpAny_bind (wpAny_standAt (wpAny_bind (wpAny_holding ?_))))
    exact wpAny_mono (PO.att _ _ _ h v φ₁ s₁ A E S₁.g R r₁) (fun r s₂ q => wpAny_bind (wpAny_letTemporaryGo (wpAny_pure (EP.epf (EP.after y₁ q))))) fun _ _ e => e
  case Subscript v i p => exact sub_E O R hc h S
  case Call f args kws pos =>
    induction f using PySem.Expr.casesOn
    case Attribute o n apos => exact ep (mcall_ok PO O R hc h S)
    case Name n p =>
      refine o3_e h fun f ds ks hf hds hks h => ?_
      refine o1_e h fun v hv h => ?_
      rw [valD_inv hv] at hf
      exact ep (wpAny_Call_Name_kw (O.then hf R S hc fun w φ₁ s₁ y₁ S₁ r₁ => r₁.iVal ▸ call_go PO O R hc y₁ S₁ .nil hds hks h))
    all_goals exact no_none h
  case ListComp elt gs scope p =>
    induction gs using List.casesOn
    case nil => exact no_none h
    case cons g gs =>
    induction gs using List.casesOn
    case cons => exact no_none h
    case nil => exact comp_E O R hc h S
  all_goals exact no_none h
theorem evN_ok (PO : POk G l P) : ∀ n, VOk G l (evN P n)
  | 0 => ⟨fun _ _ _ _ h => (no_none h), fun _ _ _ _ h => (no_none h)⟩
  | n + 1 => ⟨stepE_ok PO (evN_ok PO n), stepT_ok (evN_ok PO n)⟩
end
end Mine

namespace Mine
open PySem PySem.W PySem.Calls PyProof.Rows PySem.SeqAt

/-! which names an expression bears (no proof hangs on it) -/
mutual
noncomputable def nmE : Nat → Expr → List Str
  | 0, _ => []
  | n + 1, e => match e with
    | .Name x _ => [x]
    | .BinOp l _ r _ => nmE n l ++ nmE n r
    | .UnaryOp _ x _ => nmE n x
    | .BoolOp _ vs _ => nmL n vs
    | .Compare l _ rs _ => nmE n l ++ nmL n rs
    | .IfExp t b o _ => nmE n t ++ nmE n b ++ nmE n o
    | .List es _ => nmL n es
    | .Tuple es _ _ => nmL n es
    | .Attribute o _ _ => nmE n o
    | .Subscript v i _ => nmE n v ++ nmE n i
    | .Slice a b c _ => (a.map (nmE n)).getD [] ++ (b.map (nmE n)).getD [] ++ (c.map (nmE n)).getD []
    | .Call f as ks _ => nmE n f ++ nmL n as ++ ks.flatMap fun k => nmE n k.value
    | .ListComp elt gs _ _ => nmE n elt ++ gs.flatMap fun g => nmE n g.iter ++ nmL n g.ifs
    | _ => []
noncomputable def nmL : Nat → List Expr → List Str
  | 0, _ => []
  | n + 1, es => es.flatMap (nmE n)
end

set_option tactic.hygienic true in
inductive SR where
  | next (ρ : Rho)
  | brk (ρ : Rho)
  | cont (ρ : Rho)
  | ret (d : D)
noncomputable def frz1 (ρ : Rho) (x : Str) : Rho := match ρ.lookup x with
  | some (.ow l) => setR ρ x (.fz (.list l))
  | some (.oi _ C fs) => setR ρ x (.fz (.inst C fs))
  | _ => ρ
noncomputable def frzR : Rho → List Str → Rho
  | ρ, [] => ρ
  | ρ, x :: F => frzR (frz1 ρ x) F
noncomputable def frzM (N : List Str) : Rho → Rho
  | [] => []
  | (x, v) :: r => (match v with
    | .ow l => if N.contains x = true then (x, .fz (.list l)) else (x, .ow l)
    | .oi y C fs => if N.contains x = true then (x, .fz (.inst C fs)) else (x, .oi y C fs)
    | v => (x, v)) :: frzM N r
noncomputable def flat : D → Bool
  | .none => true
  | .bool _ => true
  | .int _ => true
  | .str _ => true
  | .bytes _ => true
  | .val _ => true
  | _ => false
noncomputable def fuelN : Nat := 30
noncomputable def oO (ρ : Rho) (N : List Str) : Option D → Option (D × Rho) := o1 fun d => some (d, if flat d = true then ρ else frzM N ρ)
noncomputable def evO (V : EvF) (sc : Scope) (ρ : Rho) (e : Expr) : Option (D × Rho) := oO ρ (nmE fuelN e) (V.e sc (frzM (nmE fuelN e) ρ) e)
noncomputable def evT (V : EvF) (sc : Scope) (ρ : Rho) (e : Expr) : Option Bool := V.t sc (frzM (nmE fuelN e) ρ) e
noncomputable def lvOf (fr : Bool) (d : D) : LV := match fr, d with
  | true, .list l => .ow l
  | _, _ => .fz d
noncomputable def asgN (sc : Scope) (ρ : Rho) (x : Str) (lv : LV) : Option Rho := if storable sc x && hasR ρ x then some (setR ρ x lv) else none
noncomputable def asgNs (sc : Scope) (d : D) : Rho → List Expr → Option Rho
  | ρ, [] => some ρ
  | ρ, t :: r => o1 (fun ρ' => asgNs sc d ρ' r) (bind1 sc ρ t d)
set_option tactic.hygienic true in
noncomputable def oNext : Option Rho → Option SR := o1 fun ρ => some (.next ρ)
set_option tactic.hygienic true in
noncomputable abbrev forK (F : Rho → Option SR) : SR → Option SR
  | .next ρ => F ρ
  | .cont ρ => F ρ
  | .brk ρ => some (.next ρ)
  | .ret d => some (.ret d)
set_option tactic.hygienic true in
noncomputable def forD (X : Rho → Option SR) (bind : Rho → D → Option Rho) : Rho → List D → Option SR
  | ρ, [] => some (.next ρ)
  | ρ, d :: ds => o1 (fun ρ₁ => o1 (forK fun ρ₂ => forD X bind ρ₂ ds) (X ρ₁)) (bind ρ d)
set_option tactic.hygienic true in
noncomputable def whileD (T : Rho → Option Bool) (X : Rho → Option SR) : Nat → Rho → Option SR
  | 0, _ => none
  | n + 1, ρ => o1 (fun t => match t with
    | false => some (.next ρ)
    | true => o1 (forK fun ρ₂ => whileD T X n ρ₂) (X ρ)) (T ρ)
noncomputable def setF : List (Str × D) → Str → D → List (Str × D)
  | [], a, d => [(a, d)]
  | (b, e) :: r, a, d => if b = a then (b, d) :: r else (b, e) :: setF r a d
noncomputable def isN (f : Str → Bool) : Option Str → Bool
  | some x => f x
  | none => false
noncomputable def distinctNames : List Expr → List Str → Bool
  | [], _ => true
  | e :: r, seen => isN (fun x => !(seen.contains x) && distinctNames r (x :: seen)) (nameOf e)
noncomputable def notConsts : Expr → Bool
  | .Tuple vs _ _ => !(vs.all (constantsAlone 8)) && vs.all okE
  | _ => true
noncomputable def okV (e : Expr) : Bool := noE 9 e && noE 10 e
noncomputable def notComp (e : Expr) : Bool := noE 8 e && okV e
noncomputable def oAsg (sc : Scope) (x : Str) (fr : Bool) : Option (D × Rho) → Option SR := o1 fun r => oNext (asgN sc r.2 x (lvOf fr r.1))
noncomputable def seqD : D → Option (List D)
  | .tup ds => some ds
  | .list ds => some ds
  | _ => none
theorem seqD_inv {d : D} {l : List D} (h : seqD d = some l) : d = .tup l ∨ d = .list l := by
  induction d using Mine.D.casesOn <;> first | exact no_none h | exact .inl (congrArg D.tup (some_inv h).symm) | exact .inr (congrArg D.list (some_inv h).symm)
noncomputable def oRow (sc : Scope) (ts : List Expr) : Option (D × Rho) → Option SR := o1 fun r => o1 (fun ds => if ds.length ≤ lim then oNext (bindNs sc r.2 ts ds) else none) (seqD r.1)
noncomputable def oNames (sc : Scope) (ts : List Expr) : Option (D × Rho) → Option SR := o1 fun r => if flat r.1 = true then oNext (asgNs sc r.1 r.2 ts) else none
noncomputable def oiL : LV → Option (Addr × Addr × List (Str × D))
  | .oi y C fs => some (y, C, fs)
  | _ => none
theorem oiL_inv {v : LV} {r : Addr × Addr × List (Str × D)} (h : oiL v = some r) : v = .oi r.1 r.2.1 r.2.2 := by
  induction v using Mine.LV.casesOn <;> first | exact no_none h | rw [some_inv h]
noncomputable def owL : LV → Option (List D)
  | .ow l => some l
  | _ => none
theorem owL_inv {v : LV} {l : List D} (h : owL v = some l) : v = .ow l := by
  induction v using Mine.LV.casesOn <;> first | exact no_none h | rw [some_inv h]
set_option tactic.hygienic true in
noncomputable def oAt2 (P : Pg) (x a : Str) (ok : Bool) (d : D) (ρ₁ : Rho) : Option LV → Option SR := o1 fun v => o1 (fun o => if (P.st o.2.1 a && decide (o.2.2.length < 100) && ok) = true then some (.next (setR ρ₁ x (.oi o.1 o.2.1 (setF o.2.2 a d)))) else none) (oiL v)
noncomputable def oAttr (P : Pg) (x a : Str) (ok : Bool) : Option (D × Rho) → Option SR := o1 fun r => oAt2 P x a ok r.1 r.2 (r.2.lookup x)
set_option tactic.hygienic true in
noncomputable def oSub1 (x : Str) (ok : Bool) (d : D) : Option LV → Option (D × Rho) → Option SR := o2 fun v r => o2 (fun l k => if (flat d && inB k l.length && ok && decide (l.length ≤ lim)) = true then some (.next (setR r.2 x (.ow (l.set (ix k l.length) d)))) else none) (owL v) (intD r.1)
noncomputable def oSub (V : EvF) (sc : Scope) (x : Str) (i : Expr) : Option (D × Rho) → Option SR := o1 fun r => oSub1 x (notSlice i) r.1 (r.2.lookup x) (evO V sc r.2 i)
noncomputable def oAug1 (sc : Scope) (x : Str) (v : Expr) (r : Option (D × Rho)) : LV → Option SR
  | .fz d => o1 (fun a => o1 (fun r => o1 (fun b => if nmOk x = true then oNext (asgN sc r.2 x (.fz (.int (a + b)))) else none) (intD r.1)) r) (intD d)
  | .ow l => o1 (fun r => o1 (fun m => if (!(nmE fuelN v).contains x && nmOk x) = true then (if l.length + m.length ≤ lim then oNext (asgN sc r.2 x (.ow (l ++ m))) else none) else none) (lstD r.1)) r
  | _ => none
noncomputable def oAug (sc : Scope) (x : Str) (v : Expr) (w : Option LV) (r : Option (D × Rho)) : Option SR := o1 (oAug1 sc x v r) w
noncomputable def appT (m : Str) (l : List D) (d : D) : Option (List D) := if m = "append" then (if l.length ≤ lim then some [d] else none) else if m = "extend" then o1 (fun t => if l.length + t.length ≤ lim then some t else none) (lstD d) else none
set_option tactic.hygienic true in
noncomputable def oApp (x m : Str) : Option LV → Option (D × Rho) → Option SR := o2 fun v r => o1 (fun l => o1 (fun t => some (.next (setR r.2 x (.ow (l ++ t))))) (appT m l r.1)) (owL v)
noncomputable def oIfS (X : Rho → List Stmt → Option SR) (ρ : Rho) (b o : List Stmt) : Option Bool → Option SR := o1 fun t => match t with
  | true => X ρ b
  | false => X ρ o
noncomputable def oFor (X : Rho → List Stmt → Option SR) (sc : Scope) (tgt : Expr) (b : List Stmt) : Option (D × Rho) → Option SR := o1 fun r => o1 (fun items => forD (fun ρ => X ρ b) (fun ρ d => bindT sc ρ tgt d) r.2 items) (itD r.1)
noncomputable def oRet : Option (D × Rho) → Option SR := o1 fun r => some (.ret r.1)
set_option tactic.hygienic true in
noncomputable def oAssert (ρ : Rho) : Option Bool → Option SR := o1 fun t => match t with
  | true => some (.next ρ)
  | false => none
noncomputable def asg1 (P : Pg) (V : EvF) (sc : Scope) (ρ : Rho) (v : Expr) (t : Expr) : Option SR := onE none
  (fun x _ => if okV v = true then oAsg sc x (isFresh v) (evO V sc ρ v) else none)
  (fun ts _ _ => if (distinctNames ts [] && notConsts v && (ts.length == 2 || ts.length == 3)) = true then oRow sc ts (evO V sc ρ v) else none)
  (fun y a _ => o1 (fun x => if (nmOk x) = true then oAttr P x a (notComp v) (evO V sc ρ v) else none) (nameOf y))
  (fun y i _ => o1 (fun x => if (notComp v && !((nmE fuelN i).contains x) && nmOk x) = true then oSub V sc x i (evO V sc ρ v) else none) (nameOf y))
  (fun _ _ _ _ => none) t
noncomputable def asgS (P : Pg) (V : EvF) (sc : Scope) (ρ : Rho) (v : Expr) : List Expr → Option SR
  | [] => none
  | [t] => asg1 P V sc ρ v t
  | t :: u :: r => oNames sc (t :: u :: r) (evO V sc ρ v)
noncomputable def appS (V : EvF) (sc : Scope) (ρ : Rho) (m : Str) (ap cp : Pos) (as : List Expr) (ks : List Keyword) (x : Str) : Option SR := match as, ks with
  | [e], [] => if (!((nmE fuelN e).contains x) && ap.endLine == cp.line && okE e && nmOk x) = true then oApp x m (ρ.lookup x) (evO V sc ρ e) else none
  | _, _ => none
noncomputable def callF : Expr → Option (Expr × List Expr × List Keyword × Pos) := onE none (fun _ _ => none) (fun _ _ _ => none) (fun _ _ _ => none) (fun _ _ _ => none) (fun f as ks cp => some (f, as, ks, cp))
noncomputable def attF : Expr → Option (Expr × Str × Pos) := onE none (fun _ _ => none) (fun _ _ _ => none) (fun y m ap => some (y, m, ap)) (fun _ _ _ => none) (fun _ _ _ _ => none)
theorem callF_inv {e : Expr} {r : Expr × List Expr × List Keyword × Pos} (h : callF e = some r) : e = .Call r.1 r.2.1 r.2.2.1 r.2.2.2 := by
  induction e using PySem.Expr.casesOn <;> first | exact no_none h | rw [some_inv h]
theorem attF_inv {e : Expr} {r : Expr × Str × Pos} (h : attF e = some r) : e = .Attribute r.1 r.2.1 r.2.2 := by
  induction e using PySem.Expr.casesOn <;> first | exact no_none h | rw [some_inv h]
noncomputable def exprS (V : EvF) (sc : Scope) (ρ : Rho) (e : Expr) : Option SR := o1 (fun c => o1 (fun a => o1 (fun x => appS V sc ρ a.2.1 a.2.2 c.2.2.2 c.2.1 c.2.2.1 x) (nameOf a.1)) (attF c.1)) (callF e)
noncomputable def isNil {α : Type} : List α → Bool
  | [] => true
  | _ => false
noncomputable def addF : Operator → Bool
  | .Add => true
  | _ => false
set_option tactic.hygienic true in
noncomputable def step1 (P : Pg) (V : EvF) (X : Rho → List Stmt → Option SR) (sc : Scope) (ρ : Rho) (st : Stmt) : Option SR := match st with
  | .Assign ts v _ => asgS P V sc ρ v ts
  | .AugAssign t op v _ => o1 (fun x => if addF op = true then oAug sc x v (ρ.lookup x) (evO V sc ρ v) else none) (nameOf t)
  | .Expr e _ => exprS V sc ρ e
  | .If t b o _ => oIfS X ρ b o (evT V sc ρ t)
  | .For tgt it b o _ => if (isNil o && okE it) = true then oFor X sc tgt b (evO V sc ρ it) else none
  | .While t b o _ => if isNil o = true then whileD (fun ρ => evT V sc ρ t) (fun ρ => X ρ b) 20 ρ else none
  | .Return v _ => (match v with
    | some v => oRet (evO V sc ρ v)
    | none => some (.ret .none))
  | .Pass _ => some (.next ρ)
  | .Break _ => some (.brk ρ)
  | .Continue _ => some (.cont ρ)
  | .Assert t _ _ => oAssert ρ (evT V sc ρ t)
  | .Try b hs o f _ => if (!(isNil hs) && isNil o && isNil f) = true then X ρ b else none
  | _ => none
set_option tactic.hygienic true in
noncomputable abbrev seqK (F : Rho → Option SR) : SR → Option SR
  | .next ρ => F ρ
  | .brk ρ => some (.brk ρ)
  | .cont ρ => some (.cont ρ)
  | .ret d => some (.ret d)
set_option tactic.hygienic true in
noncomputable def stepS (P : Pg) (V : EvF) (X : Rho → List Stmt → Option SR) (sc : Scope) : Rho → List Stmt → Option SR
  | ρ, [] => some (.next ρ)
  | ρ, st :: r => o1 (seqK fun ρ' => stepS P V X sc ρ' r) (step1 P V X sc ρ st)
noncomputable def exN (P : Pg) : Nat → Scope → Rho → List Stmt → Option SR
  | 0, _, _, _ => none
  | n + 1, sc, ρ, b => stepS P (evN P fuelN) (exN P n sc) sc ρ b
end Mine

namespace Mine
open PySem PySem.W PySem.Calls PyProof.Rows PySem.SeqAt

/-! freezing what a frame owns -/
section
variable {G : Gd} {l : Nat} {V : EvF} {P : Pg} {sc : Scope} {ρ : Rho} {hb : Heap} {env : Env} {c : List CE} {φ : Fz} {s : Shared} {A : Around} {E : Value → Shared → Prop}
theorem own_once (S : St G hb sc env c φ s) {e : CE} (he : e ∈ c) {cv : CV} (hcv : cv.priv = []) : ∀ a ∈ e.cv.priv, a ∉ privs env (setC c e.x cv) := by
  intro a ha hm
  have pnd := S.pnd
  rw [privs, List.nodup_cons] at pnd
  rcases List.mem_cons.mp hm with z | z
  · exact mem_priv_ne S.pnd he (List.mem_append_right _ ha) z
  · refine e1a2 (List.mem_flatMap.mp z) fun e₁ m₁ p₁ => ?_
    rcases mem_set m₁ with ⟨e', m', k, rfl⟩ | ⟨m', k⟩
    · have : e' = e := name_inj S.nd m' he k
      subst this
      rw [priv_with] at p₁
      have nd : (e'.loc.priv ++ e'.cv.priv).Nodup := priv_nodup pnd.2 he
      rw [List.nodup_append] at nd
      rcases List.mem_append.mp p₁ with q | q
      · exact nd.2.2 a q a ha rfl
      · rw [hcv] at q; cases q
    · exact priv_apart pnd.2 he m' (fun q => k q.symm) a (List.mem_append_right _ ha) p₁
theorem St.freezeWith (S : St G hb sc env c φ s) {e : CE} (he : e ∈ c) {v : Value} {d : D} {φ' : Fz} (hv : e.cv.val? = some v) (up : ∀ a o, φ a = some o → φ' a = some o) (fin : ∀ a o, φ' a = some o → s.heap.get? a = some o)
    (new : ∀ a o, φ' a = some o → φ a = some o ∨ a ∈ e.cv.priv) (r : Rep φ' v d) : St G hb sc env (setC c e.x (.fz v d)) φ' s := by
  refine e1a2 (S.vars) fun m hn hvs => ?_
  have pnd := S.pnd
  rw [privs, List.nodup_cons] at pnd
  have psub : ∀ a ∈ privs env (setC c e.x (.fz v d)), a ∈ privs env c := fun a ha => by
    rcases List.mem_cons.mp ha with z | z
    · rw [z]; exact List.mem_cons_self
    · rcases mem_setPriv z with w | w
      · cases w
      · exact List.mem_cons_of_mem _ w
  refine ⟨⟨fun b o q => up b o (S.g.gnd b o q), fin⟩, S.base, S.kind, S.glo, S.bui, S.gk, fun e₁ h₁ => ?_, by rw [set_names]; exact S.nd, ?_, fun a ha => ?_, fun a ha => S.pbs a (psub a ha), m, hn, fun e₁ h₁ => ?_⟩
  · rcases mem_set h₁ with ⟨e', m', k, rfl⟩ | ⟨m', k⟩
    · exact S.lk e' m'
    · exact S.lk e₁ m'
  · rw [privs, List.nodup_cons]
    refine ⟨fun q => ?_, nodup_setPriv S.nd pnd.2 List.nodup_nil fun a ha => (no_mem ha)⟩
    rcases mem_setPriv q with w | w
    · cases w
    · exact pnd.1 w
  · generalize q : φ' a = r_; induction r_ using Option.casesOn with
    | none => rfl
    | some o =>
      rcases new a o q with w | w
      · rw [S.pfz a (psub a ha)] at w; exact no_none w
      · exact (own_once S he rfl a w ha).elim
  · rcases mem_set h₁ with ⟨e', m', k, rfl⟩ | ⟨m', k⟩
    · have : e' = e := name_inj S.nd m' he k
      subst this
      refine ⟨?_, r⟩
      have hs := (hvs e' he).1
      obtain ⟨n, loc, cv⟩ := e'
      induction loc using Mine.Loc.casesOn with
      | loc => exact ⟨hs.1, fun w hw => hs.2 w (by cases hw; exact hv)⟩
      | own ca => obtain ⟨h1, h2, ov, h3, h4⟩ := hs; exact ⟨h1, h2, ov, h3, fun w hw => h4 w (by cases hw; exact hv)⟩
      | fre ca => obtain ⟨h1, h2, ov, h3, h4⟩ := hs; exact ⟨h1, h2, ov, h3, fun w hw => h4 w (by cases hw; exact hv)⟩
    · exact ⟨(hvs e₁ m').1, (hvs e₁ m').2.mono up fun _ _ _ q => q⟩

theorem frzM_nil (N : List Str) : ∀ ρ : Rho, frzM [] ρ = ρ
  | [] => rfl
  | (x, v) :: r => by
    unfold frzM
    rw [frzM_nil N r]
    induction v using Mine.LV.casesOn <;> rfl
theorem frzM_cons {x : Str} {F : List Str} : ∀ {ρ : Rho}, (ρ.map (·.1)).Nodup → frzM (x :: F) ρ = frzM F (frz1 ρ x)
  | [], _ => by unfold frz1; rfl
  | (y, v) :: r, nd => by
    rw [List.map_cons, List.nodup_cons] at nd
    have ih := frzM_cons (x := x) (F := F) nd.2
    have no : ∀ lv, x = y → setR r x lv = r := fun lv z => by
      unfold setR
      conv => rhs; rw [← List.map_id r]
      apply List.map_congr_left
      intro p hp
      rw [if_neg]; rfl
      intro q
      exact nd.1 (z ▸ q ▸ List.mem_map.mpr ⟨p, hp, rfl⟩)
    by_cases hxy : x = y
    · subst hxy
      have hl : List.lookup x ((x, v) :: r) = some v := by rw [List.lookup_cons]; simp
      have hnone : r.lookup x = none := by
        rw [List.lookup_eq_none_iff]
        intro p hp
        rw [bne_iff_ne]
        intro q
        exact nd.1 (q ▸ List.mem_map.mpr ⟨p, hp, rfl⟩)
      have f2 : frz1 r x = r := by unfold frz1; rw [hnone]
      rw [f2] at ih
      unfold frz1
      rw [hl]
      induction v using Mine.LV.casesOn with
      | un => unfold frzM; rw [ih]
      | fz d => unfold frzM; rw [ih]
      | ow l =>
        have e : setR ((x, LV.ow l) :: r) x (.fz (.list l)) = (x, .fz (.list l)) :: r := by
          show (if x = x then (x, _) else _) :: setR r x _ = _
          rw [if_pos rfl, no _ rfl]
        dsimp only
        rw [e]
        unfold frzM
        rw [ih]
        simp
      | oi y C fs =>
        have e : setR ((x, LV.oi y C fs) :: r) x (.fz (.inst C fs)) = (x, .fz (.inst C fs)) :: r := by
          show (if x = x then (x, _) else _) :: setR r x _ = _
          rw [if_pos rfl, no _ rfl]
        dsimp only
        rw [e]
        unfold frzM
        rw [ih]
        simp
    · have hb : (x == y) = false := beq_eq_false_iff_ne.mpr hxy
      have hb' : (y == x) = false := beq_eq_false_iff_ne.mpr fun z => hxy z.symm
      have hl : List.lookup x ((y, v) :: r) = r.lookup x := by rw [List.lookup_cons, hb]
      have f2 : frz1 ((y, v) :: r) x = (y, v) :: frz1 r x := by
        unfold frz1
        rw [hl]
        split <;> first | rfl | skip
        all_goals (show (if y = x then _ else _) :: setR r x _ = _; rw [if_neg (fun z => hxy z.symm)])
      rw [f2]
      conv => lhs; unfold frzM
      conv => rhs; unfold frzM
      rw [ih]
      induction v using Mine.LV.casesOn <;> simp only [List.contains_cons, hb', Bool.false_or]
theorem frz1_names (ρ : Rho) (x : Str) : (frz1 ρ x).map (·.1) = ρ.map (·.1) := by
  have set : ∀ lv, (setR ρ x lv).map (·.1) = ρ.map (·.1) := fun lv => by
    unfold setR
    rw [List.map_map]
    apply List.map_congr_left
    intro p _
    simp only [Function.comp]
    split <;> rfl
  unfold frz1
  split <;> first | rfl | exact set _
theorem frzR_eq : ∀ {F : List Str} {ρ : Rho}, (ρ.map (·.1)).Nodup → frzR ρ F = frzM F ρ
  | [], ρ, _ => (frzM_nil [] ρ).symm
  | x :: F, ρ, nd => by
    rw [frzM_cons nd]
    have h : ((frz1 ρ x).map (·.1)).Nodup := by rw [frz1_names]; exact nd
    exact frzR_eq h
theorem St.frzM_eq (S : St G hb sc env c φ s) (F : List Str) : Mine.frzM F (abs c) = Mine.frzR (abs c) F := by
  refine (frzR_eq ?_).symm
  have : (abs c).map (·.1) = c.map (·.x) := by unfold abs; rw [List.map_map]; rfl
  rw [this]; exact S.nd
structure FR (env : Env) (c : List CE) (φ : Fz) (c' : List CE) (φ' : Fz) : Prop where
  up : ∀ a o, φ a = some o → φ' a = some o
  new : ∀ a o, φ' a = some o → φ a = some o ∨ a ∈ privs env c
  pv : ∀ a ∈ privs env c', a ∈ privs env c
theorem FR.refl : FR env c φ c φ := ⟨fun _ _ e => e, fun _ _ e => .inl e, fun _ h => h⟩
theorem FR.trans {c₁ c₂ : List CE} {φ₁ φ₂ : Fz} (x : FR env c φ c₁ φ₁) (y : FR env c₁ φ₁ c₂ φ₂) : FR env c φ c₂ φ₂ :=
  ⟨fun a o e => y.up a o (x.up a o e), fun a o e => (y.new a o e).elim (x.new a o) fun h => .inr (x.pv a h), fun a h => x.pv a (y.pv a h)⟩
theorem set_pv {x : Str} {cv : CV} (h : cv.priv = []) : ∀ a ∈ privs env (setC c x cv), a ∈ privs env c := fun a ha => by
  rcases List.mem_cons.mp ha with z | z
  · rw [z]; exact List.mem_cons_self
  · rcases mem_setPriv z with w | w
    · rw [h] at w; cases w
    · exact List.mem_cons_of_mem _ w
theorem mem_setC {x : Str} {cv : CV} {e₀ : CE} (h : e₀ ∈ c) (hx : e₀.x ≠ x) : e₀ ∈ setC c x cv := List.mem_map.mpr ⟨e₀, h, if_neg hx⟩
theorem ow_at (S : St G hb sc env c φ s) {e : CE} (he : e ∈ c) {a : Addr} {k : List D} (hcv : e.cv = .ow a k) : ∃ n vs, s.heap.get? a = some (lsO vs n) ∧ RepL φ vs k := by
  refine e1a2 (S.vars) fun m hn hv => ?_
  have hg := (hv e he).2
  rw [hcv] at hg
  exact hg
set_option tactic.hygienic true in
theorem St.frz1 (S : St G hb sc env c φ s) (x : Str) : ∃ c' φ', abs c' = frz1 (abs c) x ∧ St G hb sc env c' φ' s ∧ FR env c φ c' φ' ∧ (∀ e₀ ∈ c, e₀.x ≠ x → e₀ ∈ c') := by
  unfold Mine.frz1
  generalize hl : (abs c).lookup x = o
  induction o using Option.casesOn with
  | none => exact ⟨c, φ, rfl, S, FR.refl, fun _ h _ => h⟩
  | some lv =>
  induction lv using Mine.LV.casesOn
  case ow l =>
    refine e1a3 (abs_lookup hl) fun e he rr2 hab => ?_
    subst rr2
    refine e1a1 (ab_ow hab) fun a hcv => ?_
    refine e2a2 (ow_at S he hcv) fun n vs ho r => ?_
    have hp : a ∈ e.cv.priv := by rw [hcv]; exact .head _
    have mp : a ∈ privs env c := List.mem_cons_of_mem _ (List.mem_flatMap.mpr ⟨e, he, List.mem_append_right _ hp⟩)
    have up := Fz.put_up (o := lsO vs n) (S.pfz a mp)
    refine ⟨_, φ.put a (lsO vs n), abs_set c e.x (.fz (.ref a) (.list l)), S.freezeWith he (by rw [hcv]; rfl) up (fun b o q => ?_) (fun b o q => ?_) (.list (Fz.put_self ..) (r.mono up)), ⟨up, fun b o q => ?_, set_pv rfl⟩, fun e₀ h₀ n => mem_setC h₀ n⟩
    · exact Fz.put_inv q (fun z w => z ▸ w ▸ ho) (S.g.fin b o)
    · exact Fz.put_inv q (fun z _ => .inr (z ▸ hp)) .inl
    · exact Fz.put_inv q (fun z _ => .inr (z ▸ mp)) .inl
  case oi y C fs =>
    refine e1a3 (abs_lookup hl) fun e he rr2 hab => ?_
    subst rr2
    refine e1a1 (ab_oi hab) fun dy hcv => ?_
    refine e1a2 (S.vars) fun m hn hv => ?_
    have hg := (hv e he).2
    rw [hcv] at hg
    refine e0a2 hg fun ho hg => ?_
    refine e2a3 hg fun es n hd r _ => ?_
    have hp : e.cv.priv = [y, dy] := by rw [hcv]; rfl
    have p1 : y ∈ e.cv.priv := by rw [hp]; exact .head _
    have p2 : dy ∈ e.cv.priv := by rw [hp]; exact .tail _ (.head _)
    have mp : ∀ b ∈ e.cv.priv, b ∈ privs env c := fun b hb => List.mem_cons_of_mem _ (List.mem_flatMap.mpr ⟨e, he, List.mem_append_right _ hb⟩)
    have fy := S.pfz y (mp y p1)
    have hne : dy ≠ y := by
      have pnd := S.pnd
      rw [privs, List.nodup_cons] at pnd
      have nd : (e.loc.priv ++ e.cv.priv).Nodup := priv_nodup pnd.2 he
      rw [List.nodup_append, hp, List.nodup_cons] at nd
      exact fun q => nd.2.1.1 (q ▸ .head _)
    have f1 : (φ.put y (instObj C dy)) dy = none := (Fz.put_ne _ _ hne).trans (S.pfz dy (mp dy p2))
    have up1 : ∀ a o, φ a = some o → ((φ.put y (instObj C dy)).put dy (dictOf es n)) a = some o := fun a o q => Fz.put_up f1 a o (Fz.put_up fy a o q)
    refine ⟨_, (φ.put y (instObj C dy)).put dy (dictOf es n), abs_set c e.x (.fz (.ref y) (.inst C fs)), S.freezeWith he (by rw [hcv]; rfl) up1 (fun b o q => ?_) (fun b o q => ?_) (.inst (Fz.put_up f1 _ _ (Fz.put_self ..)) (Fz.put_self ..) (r.mono up1)), ⟨up1, fun b o q => ?_, set_pv rfl⟩, fun e₀ h₀ n => mem_setC h₀ n⟩
    · exact Fz.put_inv q (fun z w => z ▸ w ▸ hd) fun q => Fz.put_inv q (fun z w => z ▸ w ▸ ho) (S.g.fin b o)
    · exact Fz.put_inv q (fun z _ => .inr (z ▸ p2)) fun q => Fz.put_inv q (fun z _ => .inr (z ▸ p1)) .inl
    · exact Fz.put_inv q (fun z _ => .inr (z ▸ mp _ p2)) fun q => Fz.put_inv q (fun z _ => .inr (z ▸ mp _ p1)) .inl
  all_goals exact ⟨c, φ, rfl, S, FR.refl, fun _ h _ => h⟩
theorem St.frzR : ∀ (F : List Str) {c : List CE} {φ : Fz}, St G hb sc env c φ s → ∃ c' φ', abs c' = frzR (abs c) F ∧ St G hb sc env c' φ' s ∧ FR env c φ c' φ' ∧ (∀ e₀ ∈ c, F.contains e₀.x = false → e₀ ∈ c')
  | [], c, φ, S => ⟨c, φ, rfl, S, FR.refl, fun _ h _ => h⟩
  | x :: F, c, φ, S => by
    refine e2a4 (S.frz1 x) fun c₁ φ₁ e₁ S₁ f₁ k₁ => ?_
    refine e2a4 (St.frzR F S₁) fun c₂ φ₂ e₂ S₂ f₂ k₂ => ?_
    refine ⟨c₂, φ₂, ?_, S₂, f₁.trans f₂, fun e₀ h₀ n => ?_⟩
    · rw [e₂, e₁]; rfl
    · rw [List.contains_cons, Bool.or_eq_false_iff] at n
      exact k₂ e₀ (k₁ e₀ h₀ (by simpa using n.1)) n.2

/-! what a statement may do -/
structure SRel (env : Env) (c : List CE) (φ : Fz) (s : Shared) (φ' : Fz) (s' : Shared) : Prop where
  eq : ∃ h' tk, s' = { s with heap := h', toks := tk }
  up : ∀ a o, φ a = some o → φ' a = some o
  new : ∀ a o, φ' a = some o → φ a = some o ∨ a ∈ privs env c ∨ s.heap.get? a = none
  keep : ∀ b o, b ∉ privs env c → s.heap.get? b = some o → s'.heap.get? b = some o
noncomputable def PV (env : Env) (c : List CE) (s : Shared) (c' : List CE) : Prop := ∀ a ∈ privs env c', a ∈ privs env c ∨ s.heap.get? a = none
theorem SRel.refl : SRel env c φ s φ s := ⟨⟨s.heap, s.toks, rfl⟩, fun _ _ e => e, fun _ _ e => .inl e, fun _ _ _ e => e⟩
theorem PV.refl : PV env c s c := fun _ h => .inl h
theorem SRel.none {φ' : Fz} {s' : Shared} (x : SRel env c φ s φ' s') {a : Addr} (h : s'.heap.get? a = none) : a ∈ privs env c ∨ s.heap.get? a = none := by
  by_cases p : a ∈ privs env c
  · exact .inl p
  · refine .inr ?_
    generalize q : s.heap.get? a = r_; induction r_ using Option.casesOn with
    | none => rfl
    | some o => rw [x.keep a o p q] at h; exact no_some h
theorem PV.trans {c₁ c₂ : List CE} {φ' : Fz} {s' : Shared} (x : SRel env c φ s φ' s') (p : PV env c s c₁) (q : PV env c₁ s' c₂) : PV env c s c₂ := fun a ha => by
  rcases q a ha with z | z
  · exact p a z
  · exact x.none z
theorem SRel.trans {c₁ : List CE} {φ₁ φ₂ : Fz} {s₁ s₂ : Shared} (x : SRel env c φ s φ₁ s₁) (p : PV env c s c₁) (y : SRel env c₁ φ₁ s₁ φ₂ s₂) : SRel env c φ s φ₂ s₂ := by
  refine e2a1 (x.eq) fun h1 t1 e1 => ?_
  refine e2a1 (y.eq) fun h2 t2 e2 => ?_
  refine ⟨⟨h2, t2, by rw [e2, e1]⟩, fun a o e => y.up a o (x.up a o e), fun a o e => ?_, fun b o n e => y.keep b o (fun q => ?_) (x.keep b o n e)⟩
  · rcases y.new a o e with z | z | z
    · exact x.new a o z
    · exact .inr (p a z)
    · exact .inr (x.none z)
  · rcases p b q with z | z
    · exact n z
    · rw [e] at z; exact no_some z
theorem Step.srel {φ' : Fz} {s' : Shared} (x : Step φ s φ' s') : SRel env c φ s φ' s' := ⟨x.eq, x.up, fun a o e => (x.new a o e).imp id .inr, fun b o _ e => x.ext b o e⟩
theorem FR.srel {c' : List CE} {φ' : Fz} (x : FR env c φ c' φ') : SRel env c φ s φ' s := ⟨⟨s.heap, s.toks, rfl⟩, x.up, fun a o e => (x.new a o e).imp id .inl, fun _ _ _ e => e⟩
theorem FR.pv' {c' : List CE} {φ' : Fz} (x : FR env c φ c' φ') : PV env c s c' := fun a h => .inl (x.pv a h)

noncomputable def SNx (G : Gd) (hb : Heap) (sc : Scope) (env : Env) (c : List CE) (φ : Fz) (s : Shared) (s' : Shared) (ρ' : Rho) : Prop := ∃ c' φ', abs c' = ρ' ∧ St G hb sc env c' φ' s' ∧ SRel env c φ s φ' s' ∧ PV env c s c'
set_option tactic.hygienic true in
noncomputable def SPost (G : Gd) (hb : Heap) (sc : Scope) (env : Env) (c : List CE) (φ : Fz) (s : Shared) (r : SR) (f : Flow) (s' : Shared) : Prop := match r, f with
  | .next ρ', .next => SNx G hb sc env c φ s s' ρ'
  | .brk ρ', .brk => SNx G hb sc env c φ s s' ρ'
  | .cont ρ', .cont => SNx G hb sc env c φ s s' ρ'
  | .ret d, .ret v => ∃ φ', Rep φ' v d ∧ Gnd G φ' s' ∧ SRel env c φ s φ' s'
  | _, _ => False
theorem SNx.after {c₁ : List CE} {φ₁ : Fz} {s₁ s₂ : Shared} {ρ' : Rho} (x : SRel env c φ s φ₁ s₁) (p : PV env c s c₁) (y : SNx G hb sc env c₁ φ₁ s₁ s₂ ρ') : SNx G hb sc env c φ s s₂ ρ' :=
  e2a4 y fun c' φ' a b d e => ⟨c', φ', a, b, x.trans p d, p.trans x e⟩
theorem SPost.after {c₁ : List CE} {φ₁ : Fz} {s₁ s₂ : Shared} {r : SR} {f : Flow} (x : SRel env c φ s φ₁ s₁) (p : PV env c s c₁) (y : SPost G hb sc env c₁ φ₁ s₁ r f s₂) : SPost G hb sc env c φ s r f s₂ := by
  induction r using Mine.SR.casesOn <;> induction f using PySem.Flow.casesOn <;> first | exact SNx.after x p y | exact e1a3 y fun φ' a b d => ⟨φ', a, b, x.trans p d⟩ | exact False.elim y

theorem flat_rep {v : Value} {d : D} {φ' : Fz} (r : Rep φ v d) (h : flat d = true) : Rep φ' v d := by
  cases r <;> first | (exact no_ft h; done) | constructor
noncomputable def VOf (fr : Bool) (d : D) (φ₁ : Fz) (v : Value) (s s' : Shared) : Prop := match fr, d with
  | true, .list l => ∃ a n vs, v = .ref a ∧ s'.heap.get? a = some (lsO vs n) ∧ RepL φ₁ vs l ∧ φ₁ a = none ∧ s.heap.get? a = none
  | _, _ => Rep φ₁ v d
theorem VOf.cases {fr : Bool} {d : D} {φ₁ : Fz} {v : Value} {s s' : Shared} (h : VOf fr d φ₁ v s s') : (lvOf fr d = .fz d ∧ Rep φ₁ v d) ∨ ∃ l, d = .list l ∧ lvOf fr d = .ow l ∧ ∃ a n vs, v = .ref a ∧ s'.heap.get? a = some (lsO vs n) ∧ RepL φ₁ vs l ∧ φ₁ a = none ∧ s.heap.get? a = none := by
  induction fr using Bool.casesOn
  · exact .inl ⟨rfl, h⟩
  · induction d using Mine.D.casesOn <;> first | exact .inl ⟨rfl, h⟩ | exact .inr ⟨_, rfl, rfl, h⟩
structure EO (G : Gd) (hb : Heap) (sc : Scope) (env : Env) (c : List CE) (φ : Fz) (s : Shared) (N : List Str) (fr : Bool) (d : D) (ρ₁ : Rho) (v : Value) (s' : Shared) (c₁ : List CE) (φ₁ : Fz) : Prop where
  same : ∀ e₀ ∈ c, N.contains e₀.x = false → e₀ ∈ c₁
  ab : abs c₁ = ρ₁
  st : St G hb sc env c₁ φ₁ s'
  rel : SRel env c φ s φ₁ s'
  pv : ∀ a ∈ privs env c₁, a ∈ privs env c
  ext : ∀ b o, s.heap.get? b = some o → s'.heap.get? b = some o
  val : VOf fr d φ₁ v s s'
theorem evO_ok (O : VOk G l V) (R : Room A l) (S : St G hb sc env c φ s) {e : Expr} {d : D} {ρ₁ : Rho} (h : evO V sc (abs c) e = some (d, ρ₁)) {Q : Value → Shared → Prop}
    (k : ∀ v s' c₁ φ₁, EO G hb sc env c φ s (nmE fuelN e) (isFresh e) d ρ₁ v s' c₁ φ₁ → Q v s') : wpAny (model G.prog G.w) A (eval e env) Q E s := by
  unfold evO at h
  refine o1_e h fun d' hd h => ?_
  rw [S.frzM_eq] at hd
  cases h
  refine e2a4 (S.frzR (nmE fuelN e)) fun c' φ' e' S' F' K' => ?_
  refine wpAny_mono (O.e sc _ e d hd hb env c' φ' s A E R S' e') (fun v s' p => ?_) fun _ _ e => e
  generalize hf : flat d = r_; induction r_ using Bool.casesOn with
  | true =>
    rw [if_pos hf] at k
    refine e1a2 (p.ep) fun φ₂ x₂ r₂ => ?_
    have y : Step φ s φ s' := ⟨x₂.eq, x₂.ext, fun _ _ e => e, fun _ _ e => .inl e, fun a o e => x₂.fin a o (x₂.up a o (F'.up a o e))⟩
    refine k v s' c φ ⟨fun _ h _ => h, rfl, S.step y, y.srel, fun _ h => h, y.ext, ?_⟩
    have : Rep φ v d := flat_rep r₂ hf
    generalize isFresh e = r_; induction r_ using Bool.casesOn <;> induction d using Mine.D.casesOn <;> first | exact this | exact no_ft hf
  | false =>
    rw [if_neg (by rw [hf]; exact Bool.false_ne_true), S.frzM_eq] at k
    have go : ∀ {φ₂ : Fz}, Step φ' s φ₂ s' → VOf (isFresh e) d φ₂ v s s' → Q v s' := fun x₂ val => k v s' c' _ ⟨K', e', S'.step x₂, F'.srel.trans F'.pv' x₂.srel, F'.pv, x₂.ext, val⟩
    clear k
    generalize isFresh e = fr at p go
    induction fr using Bool.casesOn
    · refine e1a2 (p.ep) fun φ₂ x₂ r₂ => ?_
      exact go x₂ r₂
    · induction d using Mine.D.casesOn <;> first | (obtain ⟨φ₂, x₂, r₂⟩ := p.ep; exact go x₂ r₂) | skip
      refine e4a6 (p) fun φ₂ a n vs x₂ h1 ho r₂ fa na => ?_
      exact go x₂ ⟨a, n, vs, h1, ho, r₂, fa, na⟩
theorem evT_ok (O : VOk G l V) (R : Room A l) (S : St G hb sc env c φ s) {e : Expr} {b : Bool} (h : evT V sc (abs c) e = some b) {Q : Bool → Shared → Prop} (k : ∀ s', St G hb sc env c φ s' → Step φ s φ s' → Q b s') :
    wpAny (model G.prog G.w) A (isTrue e env (eval e env)) Q E s := by
  unfold evT at h
  rw [S.frzM_eq] at h
  refine e2a4 (S.frzR (nmE fuelN e)) fun c' φ' e' S' F' K' => ?_
  refine wpAny_mono (O.t sc _ e b h hb env c' φ' s A E R S' e') (fun r s' p => ?_) fun _ _ e => e
  refine e0a2 (p) fun rr0 x => ?_
  subst rr0
  have y : Step φ s φ s' := ⟨x.eq, x.ext, fun _ _ e => e, fun _ _ e => .inl e, fun a o e => x.fin a o (F'.up a o e)⟩
  exact k s' (S.step y) y
end
end Mine

namespace Mine
open PySem PySem.W PySem.Calls PyProof.Rows PySem.SeqAt

section
variable {G : Gd} {l : Nat} {V : EvF} {P : Pg} {sc : Scope} {ρ : Rho} {hb : Heap} {env : Env} {c : List CE} {φ : Fz} {s : Shared} {A : Around} {E : Value → Shared → Prop}
theorem privs_set (nd : (c.map (·.x)).Nodup) {e : CE} (he : e ∈ c) {cv' : CV} (hp : cv'.priv = e.cv.priv) : privs env (setC c e.x cv') = privs env c := by
  unfold privs
  congr 1
  unfold setC
  rw [List.flatMap_def, List.flatMap_def, List.map_map]
  congr 1
  apply List.map_congr_left
  intro e' he'
  simp only [Function.comp]
  by_cases k : e'.x = e.x
  · have : e' = e := name_inj nd he' he k
    subst this
    rw [if_pos rfl]
    show e'.loc.priv ++ cv'.priv = e'.loc.priv ++ e'.cv.priv
    rw [hp]
  · rw [if_neg k]
theorem St.touch (S : St G hb sc env c φ s) {e : CE} (he : e ∈ c) {cv' : CV} (hv : cv'.val? = e.cv.val?) (hp : cv'.priv = e.cv.priv) {b : Addr} (hb' : b ∈ e.cv.priv) {h' : Heap} {tk : Nat} (hsb : Heap.SameBut b s.heap h') (good : Good G.w φ h' cv') :
    St G hb sc env (setC c e.x cv') φ { s with heap := h', toks := tk } := by
  refine e1a2 (S.vars) fun m hn hs => ?_
  have hbp : b ∈ privs env c := List.mem_cons_of_mem _ (List.mem_flatMap.mpr ⟨e, he, List.mem_append_right _ hb'⟩)
  have pnd := S.pnd
  rw [privs, List.nodup_cons] at pnd
  have hbl : env.locals ≠ b := fun q => mem_priv_ne S.pnd he (List.mem_append_right _ hb') q.symm
  have up : ∀ a o, a ≠ b → s.heap.get? a = some o → h'.get? a = some o := fun a o n e => (hsb.2 a n).trans e
  have pe := privs_set (env := env) S.nd he hp
  refine ⟨⟨S.g.gnd, fun a o e => up a o (fun q => ?_) (S.g.fin a o e)⟩, fun a o e => up a o (fun q => ?_) (S.base a o e), S.kind, S.glo, S.bui, S.gk, fun e₁ h₁ => ?_, by rw [set_names]; exact S.nd, by rw [pe]; exact S.pnd, by rw [pe]; exact S.pfz, by rw [pe]; exact S.pbs,
    m, hn.sameBut hsb hbl, fun e₁ h₁ => ?_⟩
  · rw [q, S.pfz b hbp] at e; exact no_none e
  · rw [q, S.pbs b hbp] at e; exact no_none e
  · rcases mem_set h₁ with ⟨e', m', k, rfl⟩ | ⟨m', k⟩
    · exact S.lk e' m'
    · exact S.lk e₁ m'
  · rcases mem_set h₁ with ⟨e', m', k, rfl⟩ | ⟨m', k⟩
    · have : e' = e := name_inj S.nd m' he k
      subst this
      refine ⟨?_, good⟩
      have h0 := (hs e' he).1
      have nd : (e'.loc.priv ++ e'.cv.priv).Nodup := priv_nodup pnd.2 he
      rw [List.nodup_append] at nd
      have h1 : Slot hb env h' m e' := h0.mono fun a ha o q => up a o (fun z => nd.2.2 a ha b hb' z) q
      obtain ⟨n, loc, cv⟩ := e'
      induction loc using Mine.Loc.casesOn with
      | loc => exact ⟨h1.1, fun w hw => h1.2 w (by rw [← hv]; exact hw)⟩
      | own ca => obtain ⟨g1, g2, ov, g3, g4⟩ := h1; exact ⟨g1, g2, ov, g3, fun w hw => g4 w (by rw [← hv]; exact hw)⟩
      | fre ca => obtain ⟨g1, g2, ov, g3, g4⟩ := h1; exact ⟨g1, g2, ov, g3, fun w hw => g4 w (by rw [← hv]; exact hw)⟩
    · have ap := priv_apart pnd.2 he m' (fun q => k q.symm) b (List.mem_append_right _ hb')
      exact ⟨(hs e₁ m').1.mono fun a ha o q => up a o (fun z => ap (List.mem_append_left _ (z ▸ ha))) q, (hs e₁ m').2.mono (fun _ _ q => q) fun a ha o q => up a o (fun z => ap (List.mem_append_right _ (z ▸ ha))) q⟩
theorem SRel.touch {b : Addr} {h' : Heap} {tk : Nat} (hb' : b ∈ privs env c) (hsb : Heap.SameBut b s.heap h') : SRel env c φ s φ { s with heap := h', toks := tk } :=
  ⟨⟨h', tk, rfl⟩, fun _ _ e => e, fun _ _ e => .inl e, fun a o n e => (hsb.2 a fun q => n (q ▸ hb')).trans e⟩
theorem own_mem {e : CE} (he : e ∈ c) {a : Addr} (h : a ∈ e.cv.priv) : a ∈ privs env c := List.mem_cons_of_mem _ (List.mem_flatMap.mpr ⟨e, he, List.mem_append_right _ h⟩)

set_option tactic.hygienic true in
theorem SPost.store {M : Model} {c₁ : List CE} {φ₁ : Fz} {s₁ : Shared} {x : Str} {cv : CV} {v : Value} (S₁ : St G hb sc env c₁ φ₁ s₁) (rel : SRel env c φ s φ₁ s₁) (pv : ∀ a ∈ privs env c₁, a ∈ privs env c) (hv : cv.val? = some v) (F : Fit G hb env c₁ φ₁ s₁ cv)
    (new : ∀ a ∈ cv.priv, a ∈ privs env c ∨ s.heap.get? a = none) (h : (storable sc x && hasR (abs c₁) x) = true) :
    wpAny M A (storeName env x v) (fun _ s₂ => SPost G hb sc env c φ s (.next (setR (abs c₁) x cv.ab)) .next s₂) E s₁ := by
  refine e0a2 (Bool.and_eq_true_iff.mp h) fun q1 q2 => ?_
  refine e1a2 (hasR_mem q2) fun e he rr2 => ?_
  subst rr2
  refine S₁.store he (storable_ne q1) hv F fun h' tk S' hs => ?_
  refine e1a2 (hs) fun b hbp hsb => ?_
  refine ⟨_, φ₁, abs_set c₁ e.x cv, S', rel.trans (fun a ha => .inl (pv a ha)) (SRel.touch hbp hsb), fun a ha => ?_⟩
  rcases List.mem_cons.mp ha with z | z
  · rw [z]; exact .inl List.mem_cons_self
  · rcases mem_setPriv z with w | w
    · exact new a w
    · exact .inl (pv a (List.mem_cons_of_mem _ w))
set_option tactic.hygienic true in
theorem asg_ok {M : Model} {N : List Str} {fr : Bool} {d : D} {ρ₁ ρ' : Rho} {v : Value} {s₁ : Shared} {c₁ : List CE} {φ₁ : Fz} {x : Str} (S : St G hb sc env c φ s) (X : EO G hb sc env c φ s N fr d ρ₁ v s₁ c₁ φ₁) (h : asgN sc ρ₁ x (lvOf fr d) = some ρ') :
    wpAny M A (storeName env x v) (fun _ s₂ => SPost G hb sc env c φ s (.next ρ') .next s₂) E s₁ := by
  refine oif_e h fun q h => ?_
  refine some_e h ?_
  rw [← X.ab] at q ⊢
  rcases X.val.cases with ⟨e, val⟩ | ⟨l, _, e, a, n, vs, rfl, ho, r, fa, na⟩
  · rw [e]
    exact SPost.store (cv := .fz v d) X.st X.rel X.pv rfl (Fit.fz val) (fun _ hb => (no_mem hb)) q
  · rw [e]
    have np : a ∉ privs env c := fun hm => by
      obtain ⟨o, w⟩ := S.privLive a hm; rw [na] at w; exact no_none w
    exact SPost.store (cv := .ow a l) X.st X.rel X.pv rfl ⟨⟨n, vs, ho, r⟩, List.Pairwise.cons (fun _ h => no_mem h) .nil, fun b hb => List.mem_singleton.mp hb ▸ ⟨fun hm => np (X.pv a hm), fa, none_of_ext S.base na⟩⟩ (fun b hb => .inr (List.mem_singleton.mp hb ▸ na)) q
theorem EO.frozen {N : List Str} {fr : Bool} {d : D} {ρ₁ : Rho} {v : Value} {s₁ : Shared} {c₁ : List CE} {φ₁ : Fz} (S : St G hb sc env c φ s) (X : EO G hb sc env c φ s N fr d ρ₁ v s₁ c₁ φ₁) : ∃ φ₂, EO G hb sc env c φ s N false d ρ₁ v s₁ c₁ φ₂ ∧ Rep φ₂ v d ∧ (∀ a o, φ₁ a = some o → φ₂ a = some o) := by
  rcases X.val.cases with ⟨_, val⟩ | ⟨l, rfl, _, a, n, vs, rfl, ho, r, fa, na⟩
  · exact ⟨φ₁, ⟨X.same, X.ab, X.st, X.rel, X.pv, X.ext, val⟩, val, fun _ _ e => e⟩
  · have up := Fz.put_up (o := lsO vs n) fa
    have new : ∀ b o, (φ₁.put a (lsO vs n)) b = some o → φ₁ b = some o ∨ (b = a ∧ o = lsO vs n) := fun b o q => by
      by_cases z : b = a
      · subst z; rw [Fz.put_self] at q; exact .inr ⟨rfl, some_inv q⟩
      · rw [Fz.put_ne _ _ z] at q; exact .inl q
    have S' := X.st.moreFz up (fun b o q => (new b o q).elim (X.st.g.fin b o) fun z => z.1 ▸ z.2 ▸ ho) fun b o q hm => by
      rcases new b o q with w | w
      · rw [X.st.pfz b hm] at w; exact no_none w
      · obtain ⟨o', w'⟩ := S.privLive b (X.pv b hm); rw [w.1, na] at w'; exact no_none w'
    have r' : Rep (φ₁.put a (lsO vs n)) (.ref a) (.list l) := .list (Fz.put_self ..) (r.mono up)
    exact ⟨_, ⟨X.same, X.ab, S', ⟨X.rel.eq, fun b o e => up b o (X.rel.up b o e), fun b o e => (new b o e).elim (X.rel.new b o) fun w => .inr (.inr (w.1 ▸ na)), X.rel.keep⟩, X.pv, X.ext, r'⟩, r', up⟩
noncomputable def XSem (G : Gd) (l : Nat) (sc : Scope) (ρ : Rho) (b : List Stmt) (r : SR) : Prop :=
  ∀ hb env c φ s A E, Room A l → St G hb sc env c φ s → abs c = ρ → wpAny (model G.prog G.w) A (execs b env) (SPost G hb sc env c φ s r) E s
noncomputable def SSem (G : Gd) (l : Nat) (sc : Scope) (ρ : Rho) (st : Stmt) (r : SR) : Prop :=
  ∀ hb env c φ s A E, Room A l → St G hb sc env c φ s → abs c = ρ → wpAny (model G.prog G.w) A (exec st env) (SPost G hb sc env c φ s r) E s
noncomputable def XOk (G : Gd) (l : Nat) (sc : Scope) (X : Rho → List Stmt → Option SR) : Prop := ∀ ρ b r, X ρ b = some r → XSem G l sc ρ b r
theorem evO_then (O : VOk G l V) (R : Room A l) (S : St G hb sc env c φ s) {e : Expr} {d : D} {ρ₁ : Rho} (h : evO V sc (abs c) e = some (d, ρ₁)) {Q : Value → Shared → Prop}
    (k : ∀ v s' c₁ φ₁, EO G hb sc env c φ s (nmE fuelN e) false d ρ₁ v s' c₁ φ₁ → Rep φ₁ v d → Q v s') : wpAny (model G.prog G.w) A (eval e env) Q E s :=
  evO_ok O R S h fun v s' c₁ φ₁ X => by
    refine e1a3 (X.frozen S) fun φ₂ Y r _ => ?_
    exact k v s' c₁ φ₂ Y r
set_option tactic.hygienic true in
theorem SPost.here {c₁ : List CE} {φ₁ : Fz} {s₁ : Shared} (S₁ : St G hb sc env c₁ φ₁ s₁) (rel : SRel env c φ s φ₁ s₁) (pv : PV env c s c₁) : SPost G hb sc env c φ s (.next (abs c₁)) .next s₁ := ⟨c₁, φ₁, rfl, S₁, rel, pv⟩

theorem return_ok (O : VOk G l V) {v : Expr} {pos : Pos} {d : D} {ρ₁ : Rho} (h : evO V sc ρ v = some (d, ρ₁)) : SSem G l sc ρ (.Return (some v) pos) (.ret d) := by
  intro hb env c φ s A E R S hc
  subst hc
  rw [exec_Return_some]
  refine wpAny_bind (wpAny_standAt (wpAny_bind (evO_then O R S h fun v s' c₁ φ₁ X r => wpAny_pure ?_)))
  exact ⟨φ₁, r, X.st.g, X.rel⟩
theorem if_ok (O : VOk G l V) {X : Rho → List Stmt → Option SR} (HX : XOk G l sc X) {t : Expr} {b o : List Stmt} {pos : Pos} {z : Bool} {r : SR} (ht : evT V sc ρ t = some z) (h : X ρ (if z then b else o) = some r) : SSem G l sc ρ (.If t b o pos) r := by
  intro hb env c φ s A E R S hc
  subst hc
  refine wpAny_If (evT_ok O R S ht fun s' S' x => ?_)
  induction z using Bool.casesOn
  · rw [if_neg Bool.false_ne_true] at h ⊢
    exact wpAny_mono (HX _ _ _ h hb env c φ s' A E R S' rfl) (fun f s₂ q => q.after x.srel PV.refl) fun _ _ e => e
  · rw [if_pos rfl] at h ⊢
    exact wpAny_mono (HX _ _ _ h hb env c φ s' A E R S' rfl) (fun f s₂ q => q.after x.srel PV.refl) fun _ _ e => e
end
end Mine

namespace Mine
open PySem PySem.W PySem.Calls PyProof.Rows PySem.SeqAt

section
variable {G : Gd} {l : Nat} {V : EvF} {P : Pg} {sc : Scope} {ρ : Rho} {hb : Heap} {env : Env} {c : List CE} {φ : Fz} {s : Shared} {A : Around} {E : Value → Shared → Prop}
theorem Moved.srel {c' : List CE} {s' : Shared} (x : Moved G hb sc env c φ s c' s') : SRel env c φ s φ s' := ⟨x.eq, fun _ _ e => e, fun _ _ e => .inl e, x.keep⟩
structure FSt (G : Gd) (hb : Heap) (sc : Scope) (env : Env) (c : List CE) (φ : Fz) (s : Shared) (wr : List Addr) (S : Fz → Heap → Prop) (c' : List CE) (φ' : Fz) (s' : Shared) : Prop where
  st : St G hb sc env c' φ' s'
  sx : S φ' s'.heap
  rel : SRel env c φ s φ' s'
  pv : PV env c s c'
  fz : ∀ b ∈ wr, φ' b = none
  pr : ∀ b ∈ wr, b ∉ privs env c'
theorem FSt.go {wr : List Addr} {Sx : Fz → Heap → Prop} {c₁ c₂ : List CE} {φ₁ φ₂ : Fz} {s₁ s₂ : Shared} (T : FrO wr Sx) (F : FSt G hb sc env c φ s wr Sx c₁ φ₁ s₁) (S₂ : St G hb sc env c₂ φ₂ s₂) (x : SRel env c₁ φ₁ s₁ φ₂ s₂) (y : PV env c₁ s₁ c₂) : FSt G hb sc env c φ s wr Sx c₂ φ₂ s₂ where
  st := S₂
  sx := T.frame _ _ _ _ F.sx x.up F.st.g.fin S₂.g.fin fun b hb' o e => x.keep b o (F.pr b hb') e
  rel := F.rel.trans F.pv x
  pv := F.pv.trans F.rel y
  fz := fun b hb' => by
    generalize q : φ₂ b = r_; induction r_ using Option.casesOn with
    | none => rfl
    | some o =>
      rcases x.new b o q with z | z | z
      · rw [F.fz b hb'] at z; exact no_none z
      · exact (F.pr b hb' z).elim
      · exact (live_ne (T.live _ _ F.sx b hb') z).elim
  pr := fun b hb' hm => (y b hm).elim (F.pr b hb') (live_ne (T.live _ _ F.sx b hb'))
set_option tactic.hygienic true in
noncomputable def TurnP (G : Gd) (hb : Heap) (sc : Scope) (env : Env) (c : List CE) (φ : Fz) (s : Shared) (wr : List Addr) (S : Fz → Heap → Prop) (K : Rho → Option SR) (r : SR) (f : Flow) (s₄ : Shared) : Prop := match f with
  | .next => ∃ c₄ φ₄, K (abs c₄) = some r ∧ FSt G hb sc env c φ s wr S c₄ φ₄ s₄
  | .cont => ∃ c₄ φ₄, K (abs c₄) = some r ∧ FSt G hb sc env c φ s wr S c₄ φ₄ s₄
  | .brk => SPost G hb sc env c φ s r .next s₄
  | .ret v => SPost G hb sc env c φ s r (.ret v) s₄
theorem FSt.turn {wr : List Addr} {Sx : Fz → Heap → Prop} {c₁ : List CE} {φ₁ : Fz} {s₁ s₄ : Shared} (T : FrO wr Sx) (F : FSt G hb sc env c φ s wr Sx c₁ φ₁ s₁) {K : Rho → Option SR} {r r₁ : SR} {f : Flow} (hk : forK K r₁ = some r) (q : SPost G hb sc env c₁ φ₁ s₁ r₁ f s₄) : TurnP G hb sc env c φ s wr Sx K r f s₄ := by
  induction r₁ using Mine.SR.casesOn <;> induction f using PySem.Flow.casesOn <;> first | exact q.elim | skip
  · refine e2a4 (q) fun c₄ φ₄ rr2 S₄ x₄ y₄ => ?_
    subst rr2
    exact ⟨c₄, φ₄, hk, F.go T S₄ x₄ y₄⟩
  · refine e2a4 (q) fun c₄ φ₄ ab₄ S₄ x₄ y₄ => ?_
    have qq := Option.some.inj (hk); subst qq
    exact ⟨c₄, φ₄, ab₄, S₄, F.rel.trans F.pv x₄, F.pv.trans F.rel y₄⟩
  · refine e2a4 (q) fun c₄ φ₄ rr2 S₄ x₄ y₄ => ?_
    subst rr2
    exact ⟨c₄, φ₄, hk, F.go T S₄ x₄ y₄⟩
  · refine e1a3 (q) fun φ₄ r₄ g₄ x₄ => ?_
    have qq := Option.some.inj (hk); subst qq
    exact ⟨φ₄, r₄, g₄, F.rel.trans F.pv x₄⟩
theorem FSt.item {wr : List Addr} {Sx Sy : Fz → Heap → Prop} {c₁ : List CE} {φ₁ φ₂ : Fz} {s₁ : Shared} {h₂ : Heap} {tk₂ : Nat} (T : FrO wr Sx) (F : FSt G hb sc env c φ s wr Sx c₁ φ₁ s₁) (hbW : ∀ b ∈ wr, hb.get? b = none) (w3 : ∀ b ∈ wr, s.heap.get? b = none) (st₂ : Sy φ₂ h₂)
    (keep₂ : ∀ b o, b ∉ wr → s₁.heap.get? b = some o → h₂.get? b = some o) (up₂ : ∀ a o, φ₁ a = some o → φ₂ a = some o) (new₂ : ∀ a o, φ₂ a = some o → φ₁ a = some o ∨ s₁.heap.get? a = none) (fin₂ : ∀ a o, φ₂ a = some o → h₂.get? a = some o) :
    FSt G hb sc env c φ s wr Sy c₁ φ₂ { s₁ with heap := h₂, toks := tk₂ } where
  st := (F.st.other (h' := h₂) (tk := tk₂) (· ∈ wr) (fun b o nb e => keep₂ b o nb e) F.fz hbW F.pr).moreFz up₂ fin₂ fun a o e hp => by
    rcases new₂ a o e with w | w
    · rw [F.st.pfz a hp] at w; exact no_none w
    · exact live_ne (F.st.privLive a hp) w
  sx := st₂
  rel := by
    refine e2a1 (F.rel.eq) fun h1 t1 e1 => ?_
    exact ⟨⟨h₂, tk₂, by rw [e1]⟩, fun a o e => up₂ a o (F.rel.up a o e), fun a o e => (new₂ a o e).elim (F.rel.new a o) fun z => .inr (F.rel.none z), fun b o n e => keep₂ b o (fun hw => by rw [w3 b hw] at e; exact no_none e) (F.rel.keep b o n e)⟩
  pv := F.pv
  fz := fun b hb' => by
    generalize q : φ₂ b = r_; induction r_ using Option.casesOn with
    | none => rfl
    | some o =>
      rcases new₂ b o q with z | z
      · rw [F.fz b hb'] at z; exact no_none z
      · exact (live_ne (T.live _ _ F.sx b hb') z).elim
  pr := F.pr
set_option tactic.hygienic true in
theorem for_loop {X : Rho → List Stmt → Option SR} (HX : XOk G l sc X) (R : Room A l) (S : St G hb sc env c φ s) {tgt : Expr} {b : List Stmt} {r : SR} {I : Addr} {items : List D} {wr : List Addr} {Sx : Nat → Fz → Heap → Prop}
    (T : Cu G A tgt I items wr Sx) {c₁ : List CE} {φ₁ : Fz} {s₁ : Shared} (F₁ : FSt G hb sc env c φ s wr (Sx 0) c₁ φ₁ s₁) (w3 : ∀ b ∈ wr, s.heap.get? b = none)
    (h : forD (fun ρ => X ρ b) (fun ρ d => bindT sc ρ tgt d) (abs c₁) items = some r) :
    codeAny (model G.prog G.w) A (.forLoop tgt (.ref I) b [] env) (fun r' s' => match r' with | .ok f => SPost G hb sc env c φ s r f s' | .error e => cameBackBy (model G.prog G.w) A env E e s') s₁ := by
  refine codeAny_forLoop_any (fun n s' => ∃ i φ' c', n = items.length + 1 - i ∧ i ≤ items.length ∧ forD (fun ρ => X ρ b) (fun ρ d => bindT sc ρ tgt d) (abs c') (items.drop i) = some r ∧ FSt G hb sc env c φ s wr (Sx i) c' φ' s') ?_ (items.length + 1) ⟨0, φ₁, c₁, rfl, Nat.zero_le _, h, F₁⟩
  rintro n s' ⟨i, φ', c', rfl, hi, hf, F⟩
  have hbW : ∀ b ∈ wr, hb.get? b = none := fun b hb' => none_of_ext S.base (w3 b hb')
  by_cases hlt : i < items.length
  · refine wpAny_mono (T.item i φ' s' (fun v s₂ => wpAny (model G.prog G.w) A (assign tgt env v) ?post ?err s₂) _ hlt F.sx F.st.g.fin F.fz ?main) (fun q s₂ z => ?shape) fun _ _ e => e
    case shape =>
      induction q using Option.casesOn with
      | none => exact z.elim
      | some v => exact z
    intro v φ₂ h₂ tk₂ d hd rv st₂ keep₂ up₂ new₂ fin₂
    have F₂ := F.item (tk₂ := tk₂) (T.fro i) hbW w3 st₂ keep₂ up₂ new₂ fin₂
    rw [List.drop_eq_getElem_cons hlt, some_inv ((List.getElem?_eq_getElem hlt).symm.trans hd).symm] at hf
    refine o1_e hf fun ρ₂ hb₂ hf => ?_
    refine o1_e hf fun r₁ hx hf => ?_
    refine wpAny_mono (bindT_ok R.handled F₂.st hb₂ rv) (fun _ s₃ q => q.elim fun c₃ q => ?_) fun _ _ e => e
    have F₃ := F₂.go (T.fro (i + 1)) q.2.st q.2.srel fun a ha => .inl (q.2.priv a ha)
    refine wpAny_mono (HX _ _ _ hx hb env c₃ φ₂ s₃ A _ R F₃.st q.1) (fun f s₄ q => ?_) fun _ _ e => e
    have z := F₃.turn (T.fro (i + 1)) hf q
    induction f using PySem.Flow.casesOn with
    | next => exact z.elim fun c₄ z => z.elim fun φ₄ z => ⟨items.length + 1 - (i + 1), by omega, i + 1, φ₄, c₄, rfl, hlt, z⟩
    | cont => exact z.elim fun c₄ z => z.elim fun φ₄ z => ⟨items.length + 1 - (i + 1), by omega, i + 1, φ₄, c₄, rfl, hlt, z⟩
    | brk => exact z
    | ret v => exact z
  · have hi' : i = items.length := by omega
    subst hi'
    rw [List.drop_length] at hf
    refine some_e hf ?_
    refine wpAny_mono (T.done φ' s' (fun s₂ => SPost G hb sc env c φ s (.next (abs c')) .next s₂) _ F.sx F.st.g.fin fun h₁ tk₁ keep₁ => ?_) (fun q s₂ z => ?_) fun _ _ e => e
    rotate_left
    · obtain ⟨rfl, z⟩ := z
      exact wpAny_execs_nil z
    refine ⟨c', φ', rfl, F.st.other (· ∈ wr) (fun b o nb e => keep₁ b o nb e) F.fz hbW F.pr, ?_, F.pv⟩
    refine e2a1 (F.rel.eq) fun h1 t1 e1 => ?_
    exact ⟨⟨h₁, tk₁, by rw [e1]⟩, F.rel.up, F.rel.new, fun b o n e => keep₁ b o (fun hw => by rw [w3 b hw] at e; exact no_none e) (F.rel.keep b o n e)⟩
theorem for_ok (O : VOk G l V) {X : Rho → List Stmt → Option SR} (HX : XOk G l sc X) {tgt it : Expr} {b : List Stmt} {pos : Pos} {d : D} {ρ₁ : Rho} {items : List D} {r : SR} (hok : okE it = true) (he : evO V sc ρ it = some (d, ρ₁)) (hit : itD d = some items)
    (h : forD (fun ρ => X ρ b) (fun ρ d => bindT sc ρ tgt d) ρ₁ items = some r) : SSem G l sc ρ (.For tgt it b [] pos) r := by
  intro hb env c φ s A E R S hc
  subst hc
  have hfs : ∀ x, foldedSetIterable it env x = pure x := fun x => by induction it using PySem.Expr.casesOn <;> first | rfl | exact no_ft hok
  refine wpAny_For (evO_then O R S he fun v s₁ c₁ φ₁ X₁ rv => ?_) hfs
  refine wpAny_mono (cu_ok (G := G) tgt X₁.st.g.fin R.handled rv hit) (fun x s₂ q => ?_) fun _ _ e => e
  refine e3a6 (q) fun I wr Sx rr3 T st0 x₂ nW fW => ?_
  subst rr3
  have S₂ := X₁.st.step x₂
  rw [← X₁.ab] at h
  have w3 : ∀ b ∈ wr, s.heap.get? b = none := fun b hb' => by
    generalize q : s.heap.get? b = r_; induction r_ using Option.casesOn with
    | none => rfl
    | some o => have := X₁.ext b o q; rw [nW b hb'] at this; exact no_none this
  refine for_loop HX R S T ⟨S₂, st0, X₁.rel.trans (fun a ha => .inl (X₁.pv a ha)) x₂.srel, fun a ha => .inl (X₁.pv a ha), fW, fun b hb' hm => live_ne (X₁.st.privLive b hm) (nW b hb')⟩ w3 h
end
end Mine

namespace Mine
open PySem PySem.W PySem.Calls PyProof.Rows PySem.SeqAt

section
variable {G : Gd} {l : Nat} {V : EvF} {P : Pg} {sc : Scope} {ρ : Rho} {hb : Heap} {env : Env} {c : List CE} {φ : Fz} {s : Shared} {A : Around} {E : Value → Shared → Prop}
set_option tactic.hygienic true in
theorem while_ok (O : VOk G l V) {X : Rho → List Stmt → Option SR} (HX : XOk G l sc X) {t : Expr} {b : List Stmt} {pos : Pos} {n : Nat} {r : SR}
    (h : whileD (fun ρ => evT V sc ρ t) (fun ρ => X ρ b) n ρ = some r) : SSem G l sc ρ (.While t b [] pos) r := by
  intro hb env c φ s A E R S hc
  subst hc
  have T : FrO [] (fun _ _ => True) := ⟨fun _ _ _ _ _ _ _ _ _ => trivial, fun _ _ _ b hb => no_mem hb⟩
  refine wpAny_While ?_
  refine codeAny_whileLoop (fun n s' => ∃ φ' c', whileD (fun ρ => evT V sc ρ t) (fun ρ => X ρ b) n (abs c') = some r ∧ FSt G hb sc env c φ s [] (fun _ _ => True) c' φ' s') ?_ n ⟨φ, c, h, S, trivial, SRel.refl, PV.refl, (fun b hb => no_mem hb), (fun b hb => no_mem hb)⟩
  rintro n s' ⟨φ', c', hw, F⟩
  induction n using Nat.casesAuxOn with
  | zero => exact no_none hw
  | succ n =>
  refine o1_e hw fun z ht hw => ?_
  refine evT_ok O R F.st ht fun s₂ S₂ x => ?_
  have F₂ := F.go T S₂ x.srel fun _ h => .inl h
  induction z using Bool.casesOn with
  | false =>
    rw [if_neg Bool.false_ne_true, some_inv hw]
    exact wpAny_execs_nil ⟨c', φ', rfl, S₂, F₂.rel, F₂.pv⟩
  | true =>
    rw [if_pos rfl]
    refine o1_e hw fun r₁ hx hw => ?_
    refine wpAny_mono (HX _ _ _ hx hb env c' φ' s₂ A _ R S₂ rfl) (fun f s₄ q => ?_) fun _ _ e => e
    have z := F₂.turn T hw q
    induction f using PySem.Flow.casesOn with
    | next => exact z.elim fun c₄ z => z.elim fun φ₄ z => ⟨n, Nat.lt_succ_self n, φ₄, c₄, z⟩
    | cont => exact z.elim fun c₄ z => z.elim fun φ₄ z => ⟨n, Nat.lt_succ_self n, φ₄, c₄, z⟩
    | brk => exact z
    | ret v => exact z
set_option tactic.hygienic true in
theorem assert_ok (O : VOk G l V) {t : Expr} {m : Option Expr} {pos : Pos} (h : evT V sc ρ t = some true) : SSem G l sc ρ (.Assert t m pos) (.next ρ) := by
  intro hb env c φ s A E R S hc
  subst hc
  exact wpAny_Assert_holds (evT_ok O R S h fun s₂ S₂ x => ⟨rfl, c, φ, rfl, S₂, x.srel, PV.refl⟩)
set_option tactic.hygienic true in
theorem try_ok {X : Rho → List Stmt → Option SR} (HX : XOk G l sc X) {b : List Stmt} {h₀ : ExceptHandler} {hs : List ExceptHandler} {pos : Pos} {r : SR} (h : X ρ b = some r) : SSem G l sc ρ (.Try b (h₀ :: hs) [] [] pos) r := by
  intro hb env c φ s A E R S hc
  refine wpAny_Try_except (wpAny_mono (HX _ _ _ h hb env c φ s A _ R S hc) (fun f s₁ q => ?_) fun _ _ e => e)
  induction f using PySem.Flow.casesOn with
  | next => exact wpAny_execs_nil q
  | brk => exact q
  | cont => exact q
  | ret v => exact q
theorem interactive_no (S : St G hb sc env c φ s) : interactive env = false := by unfold interactive; rw [S.kind]; rfl
theorem setR_setR (ρ : Rho) (x : Str) (u v : LV) : setR (setR ρ x u) x v = setR ρ x v := by
  unfold setR
  rw [List.map_map]
  apply List.map_congr_left
  intro p _
  simp only [Function.comp]
  by_cases h : p.1 = x <;> simp [h]
theorem lookup_setR_self {x : Str} {u : LV} : ∀ {ρ : Rho}, (ρ.lookup x).isSome = true → (ρ.map fun p => if p.1 = x then (p.1, u) else p).lookup x = some u
  | [], h => by exact no_ft h
  | (y, v) :: ρ, h => by
    rw [List.map_cons]
    by_cases k : y = x
    · subst k
      simp [List.lookup_cons]
    · rw [if_neg k]
      have k' : (x == y) = false := beq_eq_false_iff_ne.mpr fun z => k z.symm
      simp only [List.lookup_cons, k'] at h ⊢
      exact lookup_setR_self h
theorem ow_entry (S : St G hb sc env c φ s) {x : Str} {k : List D} (h : (abs c).lookup x = some (.ow k)) : ∃ e ∈ c, e.x = x ∧ ∃ a, e.cv = .ow a k ∧ ∃ n vs, s.heap.get? a = some (lsO vs n) ∧ RepL φ vs k := by
  refine e1a3 (abs_lookup h) fun e he rr2 hab => ?_
  subst rr2
  refine ⟨e, he, rfl, ?_⟩
  exact e1a1 (ab_ow hab) fun a hcv => ⟨a, hcv, ow_at S he hcv⟩
set_option tactic.hygienic true in
theorem append_ok (O : VOk G l V) {x : Str} {p ap cp pos : Pos} {e : Expr} {d : D} {ρ₁ : Rho} {k : List D} (hline : (ap.endLine == cp.line) = true) (hok : okE e = true) (hx : (nmE fuelN e).contains x = false) (hn : nmOk x = true)
    (hl : ρ.lookup x = some (.ow k)) (he : evO V sc ρ e = some (d, ρ₁)) (hz : k.length ≤ lim) : SSem G l sc ρ (.Expr (.Call (.Attribute (.Name x p) "append" ap) [e] [] cp) pos) (.next (setR ρ₁ x (.ow (k ++ [d])))) := by
  intro hb env c φ s A E R S hc
  subst hc
  obtain ⟨e₀, he₀, rfl, a, hcv, n, vs, ho, r⟩ := ow_entry S hl
  refine e0a2 (nmOk_parts hn) fun n1 n2 => ?_
  have ht : starEach [e] env = [(false, eval e env)] := starEach_ok hok
  refine wpAny_Expr (wpAny_Call_append rfl (by rw [ht]; rfl) hline (by rw [ht]; rfl) (wpAny_Name (S.load he₀ (v := .ref a) (by rw [hcv]; rfl) n2 ⟨a, vs.toArray, rfl, ⟨_, n, ho, rfl, rfl, rfl⟩, ?_⟩) n1)) (interactive_no S) rfl
  refine evO_then O R S he fun v s₁ c₁ φ₁ X rv => ?_
  have m₁ := X.same e₀ he₀ hx
  refine e2a2 (ow_at X.st m₁ hcv) fun n₁ vs₁ ho₁ r₁ => ?_
  refine wpAny_list_append_plain (items := vs₁.toArray) ⟨n₁, ho₁⟩ (fun h' pl sb => ?_) (by rw [sizeLine_eq, List.size_toArray, r₁.length]; unfold lim at hz; lia)
  refine e1a1 (pl) fun n₂ e₂ => ?_
  have hap : a ∈ e₀.cv.priv := by rw [hcv]; exact .head _
  have T := X.st.touch (tk := s₁.toks) m₁ (cv' := .ow a (k ++ [d])) (by rw [hcv]; rfl) (by rw [hcv]; rfl) hap sb ⟨n₂, vs₁ ++ [v], by rw [e₂]; simp [lsO], r₁.append (.one rv)⟩
  rw [← X.ab]
  have rel := X.rel.trans (fun a ha => .inl (X.pv a ha)) (SRel.touch (φ := φ₁) (tk := s₁.toks) (own_mem (env := env) m₁ hap) sb)
  refine ⟨_, φ₁, abs_set c₁ e₀.x (.ow a (k ++ [d])), T, rel, fun b hb' => .inl (X.pv b ?_)⟩
  rwa [privs_set X.st.nd m₁ (by rw [hcv]; rfl)] at hb'
end
section
variable {prog : Program} {w : World} {A : Around} {E : Value → Shared → Prop} {s : Shared}
theorem seq_list_iadd : seqSlot? (.type "list") (dunderI "add") = pure (some (.builtin "list.__iadd__")) := PySem.seqSlot_of (F.slot_list_iadd.lookup) (by decide +kernel)
theorem iadd_list {l b : Addr} {items items2 : Array Value} {n n2 : Nat} {Q : Value → Shared → Prop} (hl : IsL s.heap l items n) (hb : IsL s.heap b items2 n2) (hz : items.size + items2.size ≤ sizeLine)
    (h : Q (.ref l) { s with heap := s.heap.update l (Obj.mapSeq fun x => x ++ items2) }) : wpAny (model prog w) A (inplaceOp .Add (.ref l) (.ref b)) Q E s := by
  unfold inplaceOp
  refine wpAny_holding ?_
  have hT : s.TypeIs (.ref l) "list" := ⟨_, hl, rfl⟩
  have hT2 : s.TypeIs (.ref b) "list" := ⟨_, hb, rfl⟩
  have hfi : fillsInplaceSlot (.type "list") "add" (Operator.Add == .Add) = pure false := by
    unfold fillsInplaceSlot
    show (typeLookup (.type "list") (dunderI "add") >>= fun fi => pure (fi.isSome && !isSeqSlot fi)) = pure false
    rw [F.slot_list_iadd.lookup, pure_bind]
    have : ((some (Value.builtin "list.__iadd__")).isSome && !isSeqSlot (some (.builtin "list.__iadd__"))) = false := by decide +kernel
    rw [this]
  refine wpAny_bind (wpAny_typeOf hT (wpAny_bind (wpAny_of_eq hfi ?_)))
  show wpAny _ A (if false = true then _ else _) Q E s
  rw [if_neg Bool.false_ne_true]
  refine wpAny_bind (wpAny_binaryOp1_none (nm := "add") hT hT2 noFill_list_add ?_)
  refine wpAny_bind (wpAny_of_eq seq_list_iadd ?_)
  refine wpAny_bind (wpAny_rule ?_)
  refine call_meets F.slot_list_iadd hT F.entry_list_iadd (F.args_list_iadd_2 _ _) (AutoSeq1.list___iadd___list_list_0 l items n b items2 n2 ?_ (by lia) (by lia)) ⟨hl, hb, h⟩
  unfold Builtin.List.listTooLong
  simp only [Bool.and_eq_true, decide_eq_true_eq, not_and]
  intro _; lia
end
section
variable {G : Gd} {l : Nat} {V : EvF} {P : Pg} {sc : Scope} {ρ : Rho} {hb : Heap} {env : Env} {c : List CE} {φ : Fz} {s : Shared} {A : Around} {E : Value → Shared → Prop}
set_option tactic.hygienic true in
theorem aug_int_ok (O : VOk G l V) {x : Str} {p pos : Pos} {v : Expr} {a b : Int} {ρ₁ ρ' : Rho} (hn : nmOk x = true) (hl : ρ.lookup x = some (.fz (.int a))) (he : evO V sc ρ v = some (.int b, ρ₁)) (hs : asgN sc ρ₁ x (.fz (.int (a + b))) = some ρ') :
    SSem G l sc ρ (.AugAssign (.Name x p) .Add v pos) (.next ρ') := by
  intro hb env c φ s A E R S hc
  subst hc
  refine e0a2 (nmOk_parts hn) fun n1 n2 => ?_
  refine e1a3 (abs_lookup hl) fun e₀ he₀ rr2 hab => ?_
  subst rr2
  refine e1a1 (ab_fz hab) fun w hcv => ?_
  refine e1a2 (S.vars) fun m hm hv => ?_
  have hg := (hv e₀ he₀).2
  rw [hcv] at hg
  refine wpAny_AugAssign_Name (S.load he₀ (v := w) (by rw [hcv]; rfl) n2 ?_)
  refine evO_then O R S he fun v s₁ c₁ φ₁ X rv => ?_
  refine rv.sInt fun u => ?_
  have hg : Rep φ w (.int a) := hg
  refine hg.sInt fun t => ?_
  refine wpAny_iadd_int ?_
  have y : Step φ₁ s₁ φ₁ { s₁ with toks := s₁.toks + 1 } := .toks X.st.g.fin _
  refine oif_e hs fun q hs => ?_
  refine some_e hs ?_
  · rw [← X.ab] at q ⊢
    exact SPost.store (cv := .fz (.int (a + b) s₁.toks) (.int (a + b))) (X.st.step y) (X.rel.trans (fun a ha => .inl (X.pv a ha)) y.srel) X.pv rfl (Fit.fz (.int _ _)) (fun _ hb' => (no_mem hb')) q
set_option tactic.hygienic true in
theorem aug_list_ok (O : VOk G l V) {x : Str} {p pos : Pos} {v : Expr} {k m : List D} {ρ₁ ρ' : Rho} (hn : nmOk x = true) (hx : (nmE fuelN v).contains x = false) (hl : ρ.lookup x = some (.ow k)) (he : evO V sc ρ v = some (.list m, ρ₁)) (hz : k.length + m.length ≤ lim)
    (hs : asgN sc ρ₁ x (.ow (k ++ m)) = some ρ') : SSem G l sc ρ (.AugAssign (.Name x p) .Add v pos) (.next ρ') := by
  intro hb env c φ s A E R S hc
  subst hc
  refine e0a2 (nmOk_parts hn) fun n1 n2 => ?_
  obtain ⟨e₀, he₀, rfl, a, hcv, _⟩ := ow_entry S hl
  refine wpAny_AugAssign_Name (S.load he₀ (v := .ref a) (by rw [hcv]; rfl) n2 ?_)
  refine evO_then O R S he fun v s₁ c₁ φ₁ X rv => ?_
  refine rv.sList fun b vs₂ n₂ e1 r1 => ?_
  have m₁ := X.same e₀ he₀ hx
  refine e2a2 (ow_at X.st m₁ hcv) fun n₁ vs₁ ho₁ r₁ => ?_
  have hap : a ∈ e₀.cv.priv := by rw [hcv]; exact .head _
  have hpa : a ∈ privs env c₁ := own_mem m₁ hap
  refine iadd_list (items := vs₁.toArray) (items2 := vs₂.toArray) ho₁ (X.st.g.fin _ _ e1) (by rw [List.size_toArray, List.size_toArray, r₁.length, r1.length, sizeLine_eq]; unfold lim at hz; lia) ?_
  refine oif_e hs fun q hs => ?_
  refine some_e hs ?_
  · rw [← X.ab] at q ⊢
    have sb : Heap.SameBut a s₁.heap (s₁.heap.update a (Obj.mapSeq fun x => x ++ vs₂.toArray)) := Heap.SameBut.update ..
    have hnew : (s₁.heap.update a (Obj.mapSeq fun x => x ++ vs₂.toArray)).get? a = some (lsO (vs₁ ++ vs₂) (if (vs₁.toArray ++ vs₂.toArray).size == vs₁.toArray.size then n₁ else n₁ + 1)) := by
      have := IsL.update (show IsL s₁.heap a vs₁.toArray n₁ from ho₁) (fun x => x ++ vs₂.toArray)
      have e : (vs₁.toArray ++ vs₂.toArray) = (vs₁ ++ vs₂).toArray := by simp
      unfold lsO
      rw [← e]
      exact this
    -- the name is let go, the list grows, the name is bound again
    have S₂ := X.st.forget e₀.x
    have off : a ∉ privs env (setC c₁ e₀.x .un) := own_once X.st m₁ rfl a hap
    have S₃ : St G hb sc env (setC c₁ e₀.x .un) φ₁ { s₁ with heap := s₁.heap.update a (Obj.mapSeq fun x => x ++ vs₂.toArray), toks := s₁.toks } :=
      S₂.other (· = a) (fun b o nb e => (sb.2 b nb).trans e) (fun b z => z ▸ X.st.pfz a hpa) (fun b z => z ▸ X.st.pbs a hpa) (fun b z => z ▸ off)
    have pv₃ : ∀ z ∈ privs env (setC c₁ e₀.x .un), z ∈ privs env c := fun z hz' => X.pv z (set_pv rfl z hz')
    have hq : (storable sc e₀.x && hasR (abs (setC c₁ e₀.x .un)) e₀.x) = true := by
      rw [Bool.and_eq_true_iff] at q ⊢
      refine ⟨q.1, ?_⟩
      rw [abs_set]
      unfold hasR setR
      have := q.2
      unfold hasR at this
      rw [lookup_setR_self this]; rfl
    have rel₃ := X.rel.trans (fun a ha => .inl (X.pv a ha)) (SRel.touch (φ := φ₁) (tk := s₁.toks) hpa sb)
    have fin := SPost.store (M := model G.prog G.w) (A := A) (E := E) (x := e₀.x) (cv := .ow a (k ++ m)) (v := .ref a) S₃ rel₃ pv₃ rfl ⟨⟨_, vs₁ ++ vs₂, hnew, r₁.append r1⟩, List.Pairwise.cons (fun _ h => no_mem h) .nil, fun b hb' => by
        have : b = a := List.mem_singleton.mp hb'
        subst this
        exact ⟨off, X.st.pfz b hpa, X.st.pbs b hpa⟩⟩ (fun b hb' => by
        have : b = a := List.mem_singleton.mp hb'
        subst this
        exact .inl (X.pv b hpa)) hq
    have e2 : setR (abs (setC c₁ e₀.x .un)) e₀.x (CV.ow a (k ++ m)).ab = setR (abs c₁) e₀.x (.ow (k ++ m)) := by rw [abs_set, setR_setR]; rfl
    rw [e2] at fin
    exact fin
end
section
variable {G : Gd} {l : Nat} {V : EvF} {P : Pg} {sc : Scope} {ρ : Rho} {hb : Heap} {env : Env} {c : List CE} {φ : Fz} {s : Shared} {A : Around} {E : Value → Shared → Prop}
theorem call_ext {prog : Program} {w : World} {o elt : Expr} {apos pos : Pos} {Q : Value → Shared → Prop} (hbase : attributeBase o "extend" env (eval o env) = eval o env) (hline : (apos.endLine == pos.line) = true) (ht : starEach [elt] env = [(false, eval elt env)])
    (h : wpAny (model prog w) A (eval o env) (fun ov s₁ => ∃ D its n, ov = .ref D ∧ IsL s₁.heap D its n ∧ wpAny (model prog w) A (eval elt env) (fun y s₂ => wpAny (model prog w) A (call (.builtin "list.extend") [.ref D, y]) Q E s₂) E s₁) E s) :
    wpAny (model prog w) A (eval (.Call (.Attribute o "extend" apos) [elt] [] pos) env) Q E s := by
  rw [arm_eval_Call, hbase]
  refine wpAny_bind (wpAny_mono h (fun ov s₁ h₁ => ?_) fun _ _ e => e)
  refine e3a3 h₁ fun D its n e hD hcall => ?_
  subst e
  refine wpAny_bind (wpAny_standAt ?_)
  have fin : wpAny (model prog w) A (callWith pos (.builtin "list.extend") [.ref D] (backTo pos (starEach [elt] env)) []) Q E s₁ := by
    rw [ht]
    exact Calls.callWith_builtin rfl (Calls.evalArgs_plain (Calls.spliced_cons (wpAny_mono hcall (fun y s₂ h₂ => Calls.spliced_nil h₂) fun _ _ e => e)))
  have hform : methodCallForm (([elt] : List Expr).length + ([] : List Keyword).length) (backTo pos (starEach [elt] env)) (backToKw pos (keywordEach [] env)) = true := by rw [ht]; rfl
  have hpos : methodCallPos true o env apos pos = pure pos := by unfold methodCallPos; rw [hline]; rfl
  unfold methodCall
  rw [hform]
  exact wpAny_bind (wpAny_holding (getMethod_builtin (T := "list") ⟨_, hD, rfl⟩ F.plainAttrs_list F.slot_list_extend F.type_list_extend (fun a e => by cases e; exact ⟨_, hD, rfl⟩) (wpAny_bind (wpAny_of_eq hpos fin))))
set_option tactic.hygienic true in
theorem extend_ok (O : VOk G l V) {x : Str} {p ap cp pos : Pos} {e : Expr} {m : List D} {ρ₁ : Rho} {k : List D} (hline : (ap.endLine == cp.line) = true) (hok : okE e = true) (hx : (nmE fuelN e).contains x = false) (hn : nmOk x = true)
    (hl : ρ.lookup x = some (.ow k)) (he : evO V sc ρ e = some (.list m, ρ₁)) (hz : k.length + m.length ≤ lim) : SSem G l sc ρ (.Expr (.Call (.Attribute (.Name x p) "extend" ap) [e] [] cp) pos) (.next (setR ρ₁ x (.ow (k ++ m)))) := by
  intro hb env c φ s A E R S hc
  subst hc
  obtain ⟨e₀, he₀, rfl, a, hcv, n, vs, ho, r⟩ := ow_entry S hl
  refine e0a2 (nmOk_parts hn) fun n1 n2 => ?_
  refine wpAny_Expr (call_ext rfl hline (starEach_ok hok) (wpAny_Name (S.load he₀ (v := .ref a) (by rw [hcv]; rfl) n2 ⟨a, vs.toArray, n, rfl, ho, ?_⟩) n1)) (interactive_no S) rfl
  refine evO_then O R S he fun v s₁ c₁ φ₁ X rv => ?_
  refine rv.sList fun b vs₂ n₂ e1 r1 => ?_
  have m₁ := X.same e₀ he₀ hx
  refine e2a2 (ow_at X.st m₁ hcv) fun n₁ vs₁ ho₁ r₁ => ?_
  have hap : a ∈ e₀.cv.priv := by rw [hcv]; exact .head _
  have z : vs₁.toArray.size + vs₂.toArray.size ≤ 1000000 := by rw [List.size_toArray, List.size_toArray, r₁.length, r1.length]; exact hz
  refine call_meets F.slot_list_extend ⟨_, ho₁, rfl⟩ F.entry_list_extend (F.args_list_extend_2 _ _) (AutoSeq1.list_extend_list_list_0 a vs₁.toArray n₁ b vs₂.toArray n₂ ?_ (by rw [sizeLine_eq]; lia) (by rw [sizeLine_eq]; lia)) ⟨ho₁, X.st.g.fin _ _ e1, ?_⟩
  · unfold Builtin.List.listTooLong
    rw [sizeLine_eq]
    simp only [Bool.and_eq_true, decide_eq_true_eq, not_and]
    intro _; lia
  have sb : Heap.SameBut a s₁.heap (s₁.heap.update a (Obj.mapSeq fun x => x ++ vs₂.toArray)) := Heap.SameBut.update ..
  have hnew : (s₁.heap.update a (Obj.mapSeq fun x => x ++ vs₂.toArray)).get? a = some (lsO (vs₁ ++ vs₂) (if (vs₁.toArray ++ vs₂.toArray).size == vs₁.toArray.size then n₁ else n₁ + 1)) := by
    have := IsL.update (show IsL s₁.heap a vs₁.toArray n₁ from ho₁) (fun x => x ++ vs₂.toArray)
    have e : (vs₁.toArray ++ vs₂.toArray) = (vs₁ ++ vs₂).toArray := by simp
    unfold lsO
    rw [← e]
    exact this
  have T := X.st.touch (tk := s₁.toks) m₁ (cv' := .ow a (k ++ m)) (by rw [hcv]; rfl) (by rw [hcv]; rfl) hap sb ⟨_, vs₁ ++ vs₂, hnew, r₁.append r1⟩
  rw [← X.ab]
  have rel := X.rel.trans (fun a ha => .inl (X.pv a ha)) (SRel.touch (φ := φ₁) (tk := s₁.toks) (own_mem (env := env) m₁ hap) sb)
  refine ⟨_, φ₁, abs_set c₁ e₀.x (.ow a (k ++ m)), T, rel, fun b hb' => .inl (X.pv b ?_)⟩
  rwa [privs_set X.st.nd m₁ (by rw [hcv]; rfl)] at hb'
end
end Mine

namespace Mine
open PySem PySem.W PySem.Calls PyProof.Rows PySem.SeqAt

section
variable {prog : Program} {w : World} {A : Around} {E : Value → Shared → Prop} {s : Shared}
theorem mapSeq_set (vs : List Value) (n j : Nat) (v : Value) : Obj.mapSeq (·.setIfInBounds j v) (lsO vs n) = lsO (vs.set j v) n := by
  unfold lsO Obj.mapSeq
  simp
theorem setItem_at {a : Addr} {vs : List Value} {n : Nat} {k : Int} {t : Tok} {v : Value} {Q : Unit → Shared → Prop} (ho : s.heap.get? a = some (lsO vs n)) (hk : inB k vs.length = true)
    (hQ : ∀ h', h'.get? a = some (lsO (vs.set (ix k vs.length) v) n) → Heap.SameBut a s.heap h' → Q () { s with heap := h' }) : wpAny (model prog w) A (setItem (.ref a) (.int k t) v) Q E s := by
  have hl := lsO_isList ho
  refine e0a5 (seqIndex_ix hk) fun h1 h2 h3 h4 h5 => ?_
  have hz : vs.length ≤ 1000000 := h3
  have hfin : (s.heap.update a (Obj.mapSeq (·.setIfInBounds (ix k vs.length) v))).get? a = some (lsO (vs.set (ix k vs.length) v) n) := by
    rw [← mapSeq_set]
    exact Heap.get?_update_self _ ho (by rw [mapSeq_set]; rfl)
  have fin := hQ _ hfin (Heap.SameBut.update ..)
  obtain ⟨x0, hx⟩ : ∃ x0, vs[ix k vs.length]? = some x0 := ⟨_, List.getElem?_eq_getElem h2⟩
  unfold setItem
  refine wpAny_holding ?_
  refine wpAny_bind (wpAny_sequenceKey hl.typeIs (by decide) ?_)
  refine wpAny_bind (wpAny_callSpecial?_slot (name := Str.ofString "__setitem__") hl.typeIs slot_list_setitem
    (wpAny_call_entry slot_list_setitem hl.typeIs entry_list_setitem ?_ (args_list_setitem _ _ _)))
  show wpAny _ _ (Builtin.List.listSubscript? (.int k t) >>= _) _ _ s
  by_cases hk0 : k < 0
  · refine wpAny_bind (wpAny_listSubscript_int (fitsIndex_neg hk0 (by lia)) ?_)
    obtain ⟨j, rfl⟩ : ∃ j : Nat, k = Int.negSucc j := by
      cases k with
      | ofNat n => exact absurd hk0 (Int.not_lt.mpr (Int.ofNat_nonneg n))
      | negSucc n => exact ⟨n, rfl⟩
    show wpAny _ _ ((Builtin.List.listItems (.ref a) >>= fun xs => pure ((seqIndex? (Int.negSucc j) xs.size).bind fun i => xs[i]?.map (i, ·))) >>= _) _ _ s
    refine wpAny_bind (wpAny_bind ?_)
    show wpAny _ _ (seqItems? (.ref a) >>= _) _ _ s
    refine wpAny_bind (wpAny_seqItems ho rfl (wpAny_pure (wpAny_pure ?_)))
    rw [List.size_toArray, h1]
    simp only [Option.bind_some, List.getElem?_toArray, hx, Option.map_some]
    refine wpAny_bind (wpAny_setSeqItemAt ho rfl ?_)
    first
      | exact wpAny_bind (wpAny_pure (wpAny_pure ⟨.none, rfl, wpAny_pure fin⟩))
      | exact wpAny_pure ⟨.none, rfl, wpAny_pure fin⟩
  · refine wpAny_bind (wpAny_listSubscript_int (fitsIndex_of (by lia) (by lia)) ?_)
    have e0 : ix k vs.length = k.toNat := by unfold ix; rw [if_neg hk0]
    rw [e0] at hx fin h2
    refine e1a1 (Int.eq_ofNat_of_zero_le (Int.not_lt.mp hk0)) fun j rr1 => ?_
    subst rr1
    show wpAny _ _ ((seqItemAt a j >>= fun r => pure (r.map (j, ·))) >>= _) _ _ s
    refine wpAny_bind (wpAny_bind (wpAny_seqItemAt ho rfl (wpAny_pure ?_)))
    rw [List.getElem?_toArray, show vs[j]? = some x0 from hx]
    show wpAny _ _ (setSeqItemAt a j v >>= _) _ _ s
    refine wpAny_bind (wpAny_setSeqItemAt ho rfl ?_)
    first
      | exact wpAny_bind (wpAny_pure (wpAny_pure ⟨.none, rfl, wpAny_pure fin⟩))
      | exact wpAny_pure ⟨.none, rfl, wpAny_pure fin⟩
end
section
variable {G : Gd} {l : Nat} {V : EvF} {P : Pg} {sc : Scope} {ρ : Rho} {hb : Heap} {env : Env} {c : List CE} {φ : Fz} {s : Shared} {A : Around} {E : Value → Shared → Prop}
/-! a row taken apart -/
theorem draw_ok {I : Addr} {items : List D} {fp : List Addr} {Pv : Nat → Value → Prop} {Sx : Nat → Heap → Prop} (T : It G A φ I items fp Pv Sx) : ∀ (n i : Nat) (s : Shared) (Q : List Value → Shared → Prop), Sx i s.heap → i + n = items.length →
    (∀ vs h' tk, RepL φ vs (items.drop i) → Sx items.length h' → (∀ b o, b ≠ I → s.heap.get? b = some o → h'.get? b = some o) → Q vs { s with heap := h', toks := tk }) → wpAny (model G.prog G.w) A (draw (.ref I) n) Q E s
  | 0, i, s, Q, st, hi, hQ => by
    have : i = items.length := by lia
    subst this
    refine wpAny_pure (hQ [] s.heap s.toks ?_ st fun _ _ _ e => e)
    rw [List.drop_length]; exact .nil
  | n + 1, i, s, Q, st, hi, hQ => by
    have hlt : i < items.length := by lia
    show wpAny _ _ (pyNext (.ref I) >>= _) Q E s
    refine wpAny_bind (T.W.item i s _ _ hlt st fun v h₁ tk₁ hp st₁ keep₁ => ?_)
    refine e1a2 (T.rep i v hlt hp) fun d hd r => ?_
    refine wpAny_bind (wpAny_holding (draw_ok T n (i + 1) _ _ st₁ (by lia) fun vs h' tk rs st' keep' => wpAny_pure ?_))
    refine hQ (v :: vs) h' tk ?_ st' fun b o nb e => keep' b o nb (keep₁ b o (by simpa using nb) e)
    have hdrop : items.drop i = d :: items.drop (i + 1) := by
      rw [List.drop_eq_getElem_cons hlt]
      rw [List.getElem?_eq_getElem hlt] at hd
      have qq := Option.some.inj (hd); subst qq; rfl
    rw [hdrop]
    exact .cons r rs
theorem unpack_ok {v : Value} {d : D} {ds : List D} {Q : List Value → Shared → Prop} (fin : ∀ a o, φ a = some o → s.heap.get? a = some o) (hh : A.handled = none) (x : Rep φ v d) (hd : (d = .tup ds ∨ d = .list ds) ∧ ds.length ≤ lim)
    (h : ∀ vs s', Step φ s φ s' → RepL φ vs ds → Q vs s') : wpAny (model G.prog G.w) A (unpackItems v ds.length none) Q E s := by
  have hit : itD d = some ds := by
    obtain ⟨h1 | h1, h2⟩ := hd <;> subst h1 <;> simp [itD, h2]
  have hL : ∃ T id, s.TypeIs v T ∧ typeLookup (.type T) "__iter__" = pure (some id) := by
    obtain ⟨h1 | h1, h2⟩ := hd
    · subst h1
      cases x with | tup e1 r1 => exact ⟨_, _, (tpO_isTuple (fin _ _ e1)).typeIs, F.slot_tuple_iter.lookup⟩
    · subst h1
      cases x with | list e1 r1 => exact ⟨_, _, (lsO_isList (fin _ _ e1)).typeIs, PySem.slot_list_iter.lookup⟩
  refine e2a2 (hL) fun T id hT hl => ?_
  unfold unpackItems
  refine wpAny_bind ?_
  unfold notIterableAtAll
  refine wpAny_bind (wpAny_specialOf hT hl ?_)
  refine wpAny_pure ?_
  simp only [Bool.false_eq_true, if_false]
  refine wpAny_bind (wpAny_holding (wpAny_mono (iter_ok (G := G) fin hh x hit) (fun it s₁ q => ?_) fun _ _ e => e))
  obtain ⟨I, fp, Pv, Sx, rfl, T, st, y, nI, fI, _⟩ := q
  refine wpAny_bind (wpAny_holding (draw_ok T ds.length 0 s₁ _ st (by lia) fun vs h' tk r st' keep' => ?_))
  rw [List.drop_zero] at r
  rw [if_neg (by rw [r.length]; lia)]
  refine wpAny_bind (wpAny_holding (T.W.done _ _ _ st' fun h₂ tk₂ k₂ => ?_))
  rw [if_neg (by simp)]
  refine wpAny_pure (h vs _ ?_ r)
  have all : ∀ b o, s.heap.get? b = some o → h₂.get? b = some o := fun b o e => by
    have nb : b ≠ I := fun z => by rw [z, nI] at e; exact no_none e
    exact k₂ b o (by simpa using nb) (keep' b o nb (y.ext b o e))
  refine e2a1 (y.eq) fun h1 t1 e1 => ?_
  exact ⟨⟨h₂, tk₂, by rw [e1]⟩, all, fun _ _ e => e, fun _ _ e => .inl e, fun a o e => all a o (fin a o e)⟩
end
end Mine

namespace Mine
open PySem PySem.W PySem.Calls PyProof.Rows PySem.SeqAt

section
variable {G : Gd} {l : Nat} {V : EvF} {P : Pg} {sc : Scope} {ρ : Rho} {hb : Heap} {env : Env} {c : List CE} {φ : Fz} {s : Shared} {A : Around} {E : Value → Shared → Prop}
theorem swaps_no {v : Expr} {t : Option Expr} {n : Nat} (h : notComp v = true) : swapsWith v t n env = pure false := by
  induction v using PySem.Expr.casesOn <;> first | rfl | exact no_ft h
set_option tactic.hygienic true in
theorem sub_ok (O : VOk G l V) {x : Str} {p tp pos : Pos} {i v : Expr} {d : D} {ρ₁ ρ₂ : Rho} {k : Int} {ls : List D} (hc : notComp v = true) (hx : (nmE fuelN i).contains x = false) (hn : nmOk x = true) (he : evO V sc ρ v = some (d, ρ₁)) (hl : ρ₁.lookup x = some (.ow ls))
    (hi : evO V sc ρ₁ i = some (.int k, ρ₂)) (hf : flat d = true) (hk : inB k ls.length = true) : SSem G l sc ρ (.Assign [.Subscript (.Name x p) i tp] v pos) (.next (setR ρ₂ x (.ow (ls.set (ix k ls.length) d)))) := by
  intro hb env c φ s A E R S hab
  subst hab
  refine e0a2 (nmOk_parts hn) fun n1 n2 => ?_
  refine wpAny_Assign_Subscript (evO_then O R S he fun v s₁ c₁ φ₁ X₁ rv => ?_) (swaps_no hc)
  have l₁ := hl
  rw [← X₁.ab] at l₁
  obtain ⟨e₀, he₀, rfl, a, hcv, _⟩ := ow_entry X₁.st l₁
  refine wpAny_Name (X₁.st.load he₀ (v := .ref a) (by rw [hcv]; rfl) n2 ?_) n1
  rw [← X₁.ab] at hi
  refine evO_then O R X₁.st hi fun w s₂ c₂ φ₂ X₂ rw' => ?_
  cases rw'
  have m₂ := X₂.same e₀ he₀ hx
  refine e2a2 (ow_at X₂.st m₂ hcv) fun n₂ vs₂ ho₂ r₂ => ?_
  refine setItem_at ho₂ (by rw [r₂.length]; exact hk) fun h' e' sb => ?_
  have hap : a ∈ e₀.cv.priv := by rw [hcv]; exact .head _
  have T := X₂.st.touch (tk := s₂.toks) m₂ (cv' := .ow a (ls.set (ix k ls.length) d)) (by rw [hcv]; rfl) (by rw [hcv]; rfl) hap sb ⟨n₂, _, e', by rw [r₂.length]; exact r₂.set _ (flat_rep rv hf)⟩
  rw [← X₂.ab]
  have rel := (X₁.rel.trans (fun a ha => .inl (X₁.pv a ha)) X₂.rel).trans (fun a ha => .inl (X₁.pv a (X₂.pv a ha))) (SRel.touch (φ := φ₂) (tk := s₂.toks) (own_mem (env := env) m₂ hap) sb)
  refine ⟨_, φ₂, abs_set c₂ e₀.x (.ow a (ls.set (ix k ls.length) d)), T, rel, fun b hb' => .inl (X₁.pv b (X₂.pv b ?_))⟩
  rwa [privs_set X₂.st.nd m₂ (by rw [hcv]; rfl)] at hb'
theorem put_rep {φ : Fz} {a : Str} {hsh : Int} {t : Tok} {v : Value} {d : D} (r : Rep φ v d) : ∀ {es : List DictEntry} {fs : List (Str × D)}, RepF φ es fs → RepF φ (putL a hsh (.str a t) v es) (setF fs a d)
  | _, _, .nil => .cons r .nil
  | _, _, .cons (x := y) (t := u) r₁ rs => by
    unfold putL setF
    have : (Value.str y u).isStr a = (y == a) := rfl
    rw [this]
    by_cases k : y = a
    · rw [if_pos (by simpa using k), if_pos k]; exact .cons r rs
    · rw [if_neg (by simpa using k), if_neg k]; exact .cons r₁ (put_rep r rs)
theorem repF_length {φ : Fz} : ∀ {es : List DictEntry} {fs : List (Str × D)}, RepF φ es fs → es.length = fs.length
  | _, _, .nil => rfl
  | _, _, .cons _ r => by simp [repF_length r]
theorem put_key {w : World} {a : Str} {t : Tok} {v : Value} : ∀ {es : List DictEntry}, KeyOk w es → KeyOk w (putL a (PyData.keyHash w.params a) (.str a t) v es)
  | [], _ => fun e he => by
    have : e = ⟨PyData.keyHash w.params a, .str a t, v⟩ := by simpa [putL] using he
    subst this; exact ⟨a, t, rfl, rfl⟩
  | e₀ :: es, k => fun e he => by
    unfold putL at he
    split at he
    · rcases List.mem_cons.mp he with z | z
      · subst z; exact k e₀ List.mem_cons_self
      · exact k e (List.mem_cons_of_mem _ z)
    · rcases List.mem_cons.mp he with z | z
      · subst z; exact k e List.mem_cons_self
      · exact put_key (fun e he => k e (List.mem_cons_of_mem _ he)) e z
set_option tactic.hygienic true in
theorem attr_ok (PO : POk G l P) (O : VOk G l V) {x a : Str} {p tp pos : Pos} {v : Expr} {d : D} {ρ₁ : Rho} {y C : Addr} {fs : List (Str × D)} (hc : notComp v = true) (hn : nmOk x = true) (he : evO V sc ρ v = some (d, ρ₁)) (hl : ρ₁.lookup x = some (.oi y C fs))
    (hst : P.st C a = true) (hz : fs.length < 100) : SSem G l sc ρ (.Assign [.Attribute (.Name x p) a tp] v pos) (.next (setR ρ₁ x (.oi y C (setF fs a d)))) := by
  intro hb env c φ s A E R S hab
  subst hab
  refine e0a2 (nmOk_parts hn) fun n1 n2 => ?_
  refine wpAny_Assign_stores (evO_then O R S he fun v s₁ c₁ φ₁ X₁ rv => ?_) (by unfold swapsWithSole; exact swaps_no hc) (by induction v using PySem.Expr.casesOn <;> rfl)
  rw [← X₁.ab] at hl ⊢
  refine e1a3 (abs_lookup hl) fun e₀ he₀ rr2 hab => ?_
  subst rr2
  refine e1a1 (ab_oi hab) fun dy hcv => ?_
  refine e1a2 (X₁.st.vars) fun m hm hv => ?_
  have hg := (hv e₀ he₀).2
  rw [hcv] at hg
  obtain ⟨ho, es, n, hd, r, hk⟩ := hg
  show wpAny _ A (assign (.Attribute (.Name e₀.x p) a tp) env v) _ _ _
  rw [arm_assign_Attribute]
  refine wpAny_bind (wpAny_holding (wpAny_Name (X₁.st.load he₀ (v := .ref y) (by rw [hcv]; rfl) n2 ?_) n1))
  refine wpAny_bind (wpAny_standAt (wpAny_bind (wpAny_holding (PO.st C a hst s₁ y dy es n v A E _ X₁.st.g.keep ho hd hk (by rw [repF_length r]; exact hz) fun h' tk t n' e' sb => ?_))))
  have hp : e₀.cv.priv = [y, dy] := by rw [hcv]; rfl
  have hap : dy ∈ e₀.cv.priv := by rw [hp]; simp
  have hne : y ≠ dy := by
    have pnd := X₁.st.pnd
    rw [privs, List.nodup_cons] at pnd
    have nd : (e₀.loc.priv ++ e₀.cv.priv).Nodup := priv_nodup pnd.2 he₀
    rw [List.nodup_append, hp] at nd
    have := nd.2.1
    rw [List.nodup_cons] at this
    intro q; exact this.1 (by simp [q])
  have T := X₁.st.touch (tk := tk) he₀ (cv' := .oi y dy C (setF fs a d)) (by rw [hcv]; rfl) (by rw [hcv]; rfl) hap sb ⟨(sb.2 y hne).trans ho, _, n', e', put_rep rv r, put_key hk⟩
  have rel := X₁.rel.trans (fun a ha => .inl (X₁.pv a ha)) (SRel.touch (φ := φ₁) (tk := tk) (own_mem (env := env) he₀ hap) sb)
  refine fun Γ pp hΓ => ?_
  rw [Sem.wp_release]
  refine ⟨_, φ₁, abs_set c₁ e₀.x (.oi y dy C (setF fs a d)), T, rel, fun b hb' => .inl (X₁.pv b ?_)⟩
  rwa [privs_set X₁.st.nd he₀ (by rw [hcv]; rfl)] at hb'
/-! several names for one value -/
theorem asgNs_inv {t : Expr} {ts : List Expr} {d : D} {ρ' : Rho} (h : asgNs sc d ρ (t :: ts) = some ρ') : ∃ x p ρ₁, t = .Name x p ∧ bindN sc ρ x d = some ρ₁ ∧ asgNs sc d ρ₁ ts = some ρ' := by
  refine o1_e h fun ρ₁ h1 h2 => ?_
  refine o1_e h1 fun x hx h3 => ?_
  refine e1a1 (nameOf_inv hx) fun p e => ?_
  exact ⟨x, p, ρ₁, e, h3, h2⟩
theorem assignAll_cons {v : Value} {t0 : Value → Sem Unit} {l : List (Value → Sem Unit)} (hl : l ≠ []) : assignAll v (t0 :: l) = (do holding [v] (t0 v); assignAll v l) := by
  induction l using List.casesOn with
  | nil => exact (hl rfl).elim
  | cons _ _ => rfl
theorem multi_ok {M : Model} {v : Value} {d : D} {ts : List Expr} {c : List CE} {s : Shared} {ρ' : Rho} (S : St G hb sc env c φ s) (h : asgNs sc d (abs c) ts = some ρ') (r : Rep φ v d) :
    wpAny M A (assignAll v ((assignEach ts env).map (·.2))) (fun _ s' => ∃ c', abs c' = ρ' ∧ Moved G hb sc env c φ s c' s') E s := by
  induction ts generalizing c s with
  | nil => exact wpAny_pure ⟨c, some_inv h ▸ rfl, S, ⟨s.heap, s.toks, rfl⟩, fun _ _ _ e => e, fun _ e => e, rfl⟩
  | cons t ts ih =>
    refine e3a3 (asgNs_inv h) fun x p ρ₁ rr3 h1 h2 => ?_
    subst rr3
    have first := wpAny_assign_Name (pos := p) (bindN_ok (M := M) (A := A) (E := E) (v := v) (d := d) S h1 r)
    induction ts using List.casesOn with
    | nil => refine some_e h2 ?_; exact first
    | cons u ts =>
      refine e3a2 (asgNs_inv h2) fun y q _ rr3 _ => ?_
      subst rr3
      refine (assignAll_cons (t0 := assign (.Name x p) env) (l := (assignEach (.Name y q :: ts) env).map (·.2)) (List.cons_ne_nil _ _)).symm ▸ ?_
      refine wpAny_bind (wpAny_holding (wpAny_mono first (fun _ s₁ q => q.elim fun c₁ q => ?_) fun _ _ e => e))
      exact wpAny_mono (ih q.2.st (q.1.symm ▸ h2)) (fun _ s₂ z => z.elim fun c₂ z => ⟨c₂, z.1, q.2.trans z.2⟩) fun _ _ e => e
set_option tactic.hygienic true in
theorem names_ok (O : VOk G l V) {t u : Expr} {pos : Pos} {ts : List Expr} {v : Expr} {d : D} {ρ₁ ρ' : Rho} (he : evO V sc ρ v = some (d, ρ₁)) (hs : asgNs sc d ρ₁ (t :: u :: ts) = some ρ') :
    SSem G l sc ρ (.Assign (t :: u :: ts) v pos) (.next ρ') := by
  intro hb env c φ s A E R S hab
  subst hab
  refine e3a2 (asgNs_inv hs) fun x p _ rr3 _ => ?_
  subst rr3
  refine wpAny_Assign_stores (evO_then O R S he fun v s₁ c₁ φ₁ X₁ rv => ?_) rfl rfl
  rw [← X₁.ab] at hs
  exact wpAny_mono (multi_ok X₁.st hs rv) (fun _ s₂ z => z.elim fun c₂ z => ⟨c₂, φ₁, z.1, z.2.st, X₁.rel.trans (fun a ha => .inl (X₁.pv a ha)) z.2.srel, fun a ha => .inl (X₁.pv a (z.2.priv a ha))⟩) fun _ _ e => e
end
end Mine

namespace Mine
open PySem PySem.W PySem.Calls PyProof.Rows PySem.SeqAt

section
variable {G : Gd} {l : Nat} {V V' : EvF} {P : Pg} {sc : Scope} {ρ : Rho} {hb : Heap} {env : Env} {c : List CE} {φ : Fz} {s : Shared} {A : Around} {E : Value → Shared → Prop}
set_option tactic.hygienic true in
theorem name_plain (O : VOk G l V) {x : Str} {p pos : Pos} {v : Expr} {d : D} {ρ₁ ρ' : Rho} (he : evO V sc ρ v = some (d, ρ₁)) (hs : asgN sc ρ₁ x (lvOf (isFresh v) d) = some ρ') {hb : Heap} {env : Env} {c : List CE} {φ : Fz} {s : Shared} {A : Around} {E : Value → Shared → Prop}
    (R : Room A l) (S : St G hb sc env c φ s) (hab : abs c = ρ) (hsw : swapsWith v (some (.Name x p)) pos.line env = pure false) : wpAny (model G.prog G.w) A (exec (.Assign [.Name x p] v pos) env) (SPost G hb sc env c φ s (.next ρ')) E s := by
  subst hab
  exact wpAny_Assign_Name (evO_ok O R S he fun w s' c₁ φ₁ X => asg_ok S X hs) hsw
set_option tactic.hygienic true in
theorem comp_assign (O : VOk G l V') (hV : V.e = stepE P V') {x : Str} {p pos cpos : Pos} {elt target iter : Expr} {ifs : List Expr} {scope : Scope} {d : D} {ρ₁ ρ' : Rho}
    (he : evO V sc ρ (.ListComp elt [⟨target, iter, ifs, 0⟩] scope cpos) = some (d, ρ₁)) (hs : asgN sc ρ₁ x (lvOf true d) = some ρ') {hb : Heap} {env : Env} {c : List CE} {φ : Fz} {s : Shared} {A : Around} {E : Value → Shared → Prop}
    (R : Room A l) (S : St G hb sc env c φ s) (hab : abs c = ρ) (hsw : swapsWith (.ListComp elt [⟨target, iter, ifs, 0⟩] scope cpos) (some (.Name x p)) pos.line env = pure true) :
    wpAny (model G.prog G.w) A (exec (.Assign [.Name x p] (.ListComp elt [⟨target, iter, ifs, 0⟩] scope cpos) pos) env) (SPost G hb sc env c φ s (.next ρ')) E s := by
  subst hab
  refine o1_e he fun d' hd he => ?_
  rw [S.frzM_eq, hV] at hd
  refine e2a4 (S.frzR (nmE fuelN (.ListComp elt [⟨target, iter, ifs, 0⟩] scope cpos))) fun c' φ' e' S' F' K' => ?_
  rw [← e'] at hd
  rw [S.frzM_eq, ← e'] at he
  refine stepLC_e hd fun hok hk nd _ d₀ ρ₀ out hd₀ hρ hgo hd => ?_
  subst hd
  cases he
  refine oif_e hs fun qq hs => ?_
  have qq := some_inv hs; subst qq
  rw [exec_Assign_Name_used _ _ _ _ hsw]
  refine wpAny_bind (wpAny_standAt (wpAny_bind ?_))
  show wpAny _ A (do let _ ← comprehension (.ListComp elt [⟨target, iter, ifs, 0⟩] scope cpos) scope env _ (newList []) false (eval iter env) (some (assign (.Name x p) env))) _ _ s
  refine wpAny_bind (wpAny_mono (wpAny_comprehension_free (use := some (assign (.Name x p) env)) (Q := fun _ s' => SPost G hb sc env c φ s (.next (setR (abs c') x (.ow out))) .next s') (cl := closL env.cells scope.names []) rfl (fset_ok hok) (clos_eq fun x hx => ?_) hk (fun x hx hl => ?_) ?_)
    (fun _ s' hq => wpAny_pure (wpAny_pure hq)) fun _ _ e => e)
  · obtain ⟨e, _, _, h2, _⟩ := free_cells S' hρ hx; rw [h2]; rfl
  · exact nm_free nd x hx hl
  · show wpAny _ _ (eval iter env) _ _ _
    refine e0a2 (compI_ok (A := A) (E := E) O R S' rfl hd₀) fun hI hlen => ?_
    refine wpAny_mono hI (fun v s₁' q => wpAny_mono q (fun it s₂ q => ?_) fun _ _ e => e) fun _ _ e => e
    refine e5a7 q fun φ₁ s₁ I wr Sx y₁ rr T st0 x₂ nW fW => ?_
    subst rr
    have S₁ := S'.step y₁
    refine comp_loop O R S₁ hk nd hρ hlen hgo T st0 x₂ nW fW (RR := fun acc C => compPost (model G.prog G.w) A E (some (assign (.Name x p) env)) (fun _ s' => SPost G hb sc env c φ s (.next (setR (abs c') x (.ow out))) .next s') acc C) ?_
    intro Da C φ₂ ys n s₂ y₂ hD hr fD fC nD nC hDC hm
    have S₂ := S₁.step y₂
    have nD' : s.heap.get? Da = none := none_of_ext y₁.ext nD
    have nC' : s.heap.get? C = none := none_of_ext y₁.ext nC
    have pD := S'.fresh nD'
    have pC := S'.fresh nC'
    refine and_e qq fun q1 q2 => ?_
    refine e1a2 (hasR_mem q2) fun e he rr => ?_
    subst rr
    show wpAny _ A (assign (.Name e.x p) env (.ref Da)) _ _ _
    refine wpAny_assign_Name (S₂.store he (storable_ne q1) (cv := .ow Da out) rfl ⟨⟨n, ys, hD, hr⟩, List.Pairwise.cons (fun _ h => no_mem h) .nil, fun b hb' => ?_⟩ fun h₃ tk₃ S₃ hs₃ => ?_)
    · exact List.mem_singleton.mp hb' ▸ ⟨pD, fD, none_of_ext S.base nD'⟩
    refine e1a2 hs₃ fun b hbp hsb => ?_
    refine e1a1 hm fun m hn => ?_
    have hbC : C ≠ b := fun z => pC (z ▸ hbp)
    refine ⟨m, hn.sameBut hsb hbC, fun h₄ hs₄ => ?_⟩
    have pv₄ : ∀ a ∈ privs env (setC c' e.x (.ow Da out)), a ∈ privs env c' ∨ a = Da := fun a ha => by
      exact (List.mem_cons.mp ha).elim (fun z => .inl (z ▸ List.mem_cons_self)) fun z => (mem_setPriv z).elim (fun w => .inr (List.mem_singleton.mp w)) fun w => .inl (List.mem_cons_of_mem _ w)
    have S₄ := S₃.other (h' := h₄) (tk := tk₃) (· = C) (fun b o nb e => (hs₄.2 b nb).trans e) (fun b z => z ▸ fC) (fun b z => z ▸ none_of_ext S.base nC') (fun b z hm => (pv₄ b hm).elim (fun w => pC (z ▸ w)) fun w => hDC (w.symm.trans z))
    refine ⟨_, φ₂, abs_set c' e.x (.ow Da out), S₄, ?_, fun a ha => ?_⟩
    · refine e2a1 y₁.eq fun h1 t1 e1 => ?_
      refine e2a1 y₂.eq fun h2 t2 e2 => ?_
      refine ⟨⟨h₄, tk₃, by rw [e2, e1]⟩, fun a o z => y₂.up a o (y₁.up a o (F'.up a o z)), fun a o z => ?_, fun a o na z => ?_⟩
      · exact (y₂.new a o z).elim (fun w => (y₁.new a o w).elim (fun w => (F'.new a o w).imp id .inl) fun w => .inr (.inr w)) fun w => .inr (.inr (none_of_ext y₁.ext w))
      · have z2 := y₂.ext a o (y₁.ext a o z)
        have z3 : h₃.get? a = some o := (hsb.2 a fun w => na (F'.pv a (w ▸ hbp))).trans z2
        exact (hs₄.2 a fun w => by rw [w, nC'] at z; exact no_none z).trans z3
    · exact (pv₄ a ha).elim (fun w => .inl (F'.pv a w)) fun w => .inr (w ▸ nD')
set_option tactic.hygienic true in
theorem name_assign (O : VOk G l V) (O' : VOk G l V') (hV : V.e = stepE P V') {x : Str} {p pos : Pos} {v : Expr} {d : D} {ρ₁ ρ' : Rho} (hv : okV v = true) (he : evO V sc ρ v = some (d, ρ₁)) (hs : asgN sc ρ₁ x (lvOf (isFresh v) d) = some ρ') :
    SSem G l sc ρ (.Assign [.Name x p] v pos) (.next ρ') := by
  intro hb env c φ s A E R S hab
  by_cases hn : notComp v = true
  · exact name_plain O he hs R S hab (swaps_no hn)
  · induction v using PySem.Expr.casesOn <;> first | exact (hn rfl).elim | (exact no_ft hv; done) | skip
    rename_i elt gens scope cpos
    have hsw : ∃ b, swapsWith (.ListComp elt gens scope cpos) (some (.Name x p)) pos.line env = pure b := ⟨_, rfl⟩
    refine e1a1 (hsw) fun b hsw => ?_
    induction b using Bool.casesOn
    · exact name_plain O he hs R S hab hsw
    · refine o1_e he fun d' hd _ => ?_
      rw [hV] at hd
      induction gens using List.casesOn with
      | nil => exact no_none hd
      | cons g gs => induction gs using List.casesOn with
        | cons => exact no_none hd
        | nil =>
          obtain ⟨tg, it, fs, asy⟩ := g
          have qq := eq_of_beq (and_inv (oif_inv hd).1).2
          subst qq
          exact comp_assign O' hV he hs R S hab hsw
end
end Mine

namespace Mine
open PySem PySem.W PySem.Calls PyProof.Rows PySem.SeqAt

section
variable {G : Gd} {l : Nat} {V V' : EvF} {P : Pg} {sc : Scope} {ρ : Rho} {hb : Heap} {env : Env} {c : List CE} {φ : Fz} {s : Shared} {A : Around} {E : Value → Shared → Prop}
theorem setR_comm (ρ : Rho) {x y : Str} (h : x ≠ y) (u v : LV) : setR (setR ρ x u) y v = setR (setR ρ y v) x u := by
  unfold setR
  rw [List.map_map, List.map_map]
  apply List.map_congr_left
  intro p _
  simp only [Function.comp]
  by_cases h1 : p.1 = x
  · have h2 : p.1 ≠ y := fun z => h (h1.symm.trans z)
    simp [h1, h2, h]
  · by_cases h2 : p.1 = y
    · have h3 : ¬ y = x := fun z => h z.symm
      simp [h1, h2, h3]
    · simp [h1, h2]
theorem lookup_setR_ne {x y : Str} {u : LV} (h : x ≠ y) : ∀ (ρ : Rho), (setR ρ x u).lookup y = ρ.lookup y
  | [] => rfl
  | (z, v) :: ρ => by
    have ih := lookup_setR_ne (u := u) h ρ
    unfold setR at ih ⊢
    rw [List.map_cons]
    by_cases k : z = x
    · have : (y == z) = false := beq_eq_false_iff_ne.mpr fun w => h (k.symm.trans w.symm)
      simp only [if_pos k, List.lookup_cons, this]
      exact ih
    · simp only [if_neg k, List.lookup_cons]
      split
      · rfl
      · exact ih
set_option tactic.hygienic true in
theorem hasR_set {x y : Str} {u : LV} {ρ : Rho} : hasR (setR ρ x u) y = hasR ρ y := by
  unfold hasR
  by_cases h : x = y
  · subst h
    generalize q : (ρ.lookup x).isSome = r_; induction r_ using Bool.casesOn with
    | true => unfold setR; rw [lookup_setR_self q]; rfl
    | false =>
      have : ∀ ρ : Rho, (ρ.lookup x).isSome = false → ((setR ρ x u).lookup x).isSome = false := by
        intro ρ
        induction ρ with
        | nil => intro h; exact h
        | cons p ρ ih =>
          obtain ⟨z, v⟩ := p
          intro h
          rw [List.lookup_cons] at h
          split at h
          · cases h
          · rename_i q'
            have hz : z ≠ x := fun w => by simp [w] at q'
            unfold setR at ih ⊢
            rw [List.map_cons, if_neg hz, List.lookup_cons, q']
            exact ih h
      exact this ρ q
  · rw [lookup_setR_ne h]
theorem ite_or {α : Sort _} {c : Prop} [Decidable c] {a b : α} {P : α → Prop} (h : P a) (k : ¬ c → P b) : P (if c then a else b) := by
  by_cases z : c
  · rw [if_pos z]; exact h
  · rw [if_neg z]; exact k z
theorem bindN_inv {x : Str} {d : D} {ρ ρ' : Rho} (h : bindN sc ρ x d = some ρ') : (storable sc x && hasR ρ x) = true ∧ ρ' = setR ρ x (.fz d) := ⟨(oif_inv h).1, some_inv (oif_inv h).2⟩
theorem bindN_eq {x : Str} {d : D} {ρ : Rho} (h : (storable sc x && hasR ρ x) = true) : bindN sc ρ x d = some (setR ρ x (.fz d)) := if_pos h
noncomputable def tgN (ns : List (Str × Pos)) : List Expr := ns.map fun n => .Name n.1 n.2
theorem bindNs_move {x : Str} {a : D} {ns : List (Str × Pos)} {ds : List D} {ρa ρ₁ ρ₂ : Rho} (hx : x ∉ ns.map (·.1)) (h1 : bindN sc ρa x a = some ρ₁) (h2 : bindNs sc ρ₁ (tgN ns) ds = some ρ₂) : ∃ ρ', bindNs sc ρa (tgN ns) ds = some ρ' ∧ bindN sc ρ' x a = some ρ₂ := by
  induction ns generalizing ds ρa ρ₁ with
  | nil => induction ds using List.casesOn with
    | nil => refine some_e h2 ?_; exact ⟨ρa, rfl, h1⟩
    | cons d ds => exact no_none h2
  | cons n ns ih => induction ds using List.casesOn with
    | nil => exact no_none h2
    | cons d ds =>
      refine o1_e h2 fun ρ₃ e h3 => ?_
      refine e0a2 (bindN_inv h1) fun q1 e1 => ?_
      refine e0a2 (bindN_inv e) fun q3 e3 => ?_
      rw [List.map_cons, List.mem_cons, not_or] at hx
      subst e1
      rw [hasR_set] at q3
      have c := setR_comm ρa hx.1 (.fz a) (.fz d)
      refine e1a2 (ih (ρa := setR ρa n.1 (.fz d)) hx.2 (by rw [bindN_eq (by rw [hasR_set]; exact q1), ← c, ← e3]) h3) fun ρ' g1 g2 => ?_
      refine ⟨ρ', ?_, g2⟩
      show o1 (fun ρ' => bindNs sc ρ' (tgN ns) ds) (bindN sc ρa n.1 d) = _
      rw [bindN_eq q3]; exact g1
theorem bindNs_snoc {x : Str} {p : Pos} {a : D} {ts : List Expr} {ds : List D} {ρ ρ₁ ρ₂ : Rho} (h1 : bindNs sc ρ ts ds = some ρ₁) (h2 : bindN sc ρ₁ x a = some ρ₂) : bindNs sc ρ (ts ++ [.Name x p]) (ds ++ [a]) = some ρ₂ := by
  induction ts generalizing ds ρ with
  | nil => induction ds using List.casesOn with
    | nil => rw [some_inv h1] at h2; show o1 _ (bindN sc ρ x a) = _; rw [h2]; rfl
    | cons d ds => exact no_none h1
  | cons t ts ih => induction ds using List.casesOn with
    | nil => exact no_none h1
    | cons d ds =>
      refine o1_e h1 fun ρ₃ e h3 => ?_
      show o1 (fun ρ' => bindNs sc ρ' (ts ++ [.Name x p]) (ds ++ [a])) (bind1 sc ρ t d) = _
      rw [e]; exact ih h3
theorem bindNs_rev {ns : List (Str × Pos)} {ds : List D} {ρa ρ' : Rho} (nd : (ns.map (·.1)).Nodup) (h : bindNs sc ρa (tgN ns) ds = some ρ') : bindNs sc ρa (tgN ns.reverse) ds.reverse = some ρ' := by
  induction ns generalizing ds ρa ρ' with
  | nil => induction ds using List.casesOn with
    | nil => exact h
    | cons d ds => exact no_none h
  | cons n ns ih => induction ds using List.casesOn with
    | nil => exact no_none h
    | cons d ds =>
      rw [List.map_cons, List.nodup_cons] at nd
      refine o1_e h fun ρ₁ e h1 => ?_
      refine e1a2 (bindNs_move nd.1 e h1) fun ρ₂ g1 g2 => ?_
      have := bindNs_snoc (p := n.2) (ih nd.2 g1) g2
      rw [List.reverse_cons, List.reverse_cons]
      unfold tgN at this ⊢
      rw [List.map_append]
      exact this
theorem filterMap_all {α β : Type} {f : α → Option β} {g : α → β} {l : List α} (h : ∀ a ∈ l, f a = none ∨ f a = some (g a)) (hl : (l.filterMap f).length = l.length) : l.filterMap f = l.map g := by
  induction l with
  | nil => rfl
  | cons a l ih =>
    have h' := fun b hb => h b (List.mem_cons_of_mem _ hb)
    rcases h a List.mem_cons_self with e | e
    · rw [List.filterMap_cons_none e] at hl
      have := List.length_filterMap_le f l
      rw [hl, List.length_cons] at this
      exact (Nat.not_succ_le_self _ this).elim
    · rw [List.filterMap_cons_some e] at hl ⊢
      rw [ih h' (Nat.succ.inj hl), List.map_cons]
set_option tactic.hygienic true in
theorem swapped_is {ns : List (Str × Pos)} {tp : Pos} {k : Nat} {v : Expr} (hv : notConsts v = true) : swappedStores [.Tuple (tgN ns) k tp] v env = pure none ∨ swappedStores [.Tuple (tgN ns) k tp] v env = pure (some (ns.map (·.1))) := by
  induction v using PySem.Expr.casesOn <;> first | exact .inl rfl | skip
  rename_i vs vk vp
  refine and_e hv fun hv _ => ?_
  unfold swappedStores
  dsimp only
  have go := fun {c : Prop} [Decidable c] {b : Sem (Option (List Str))} (k : ¬ c → b = pure none ∨ b = pure (some (ns.map (·.1)))) => ite_or (P := fun z => z = pure none ∨ z = pure (some (ns.map (·.1)))) (c := c) (.inl rfl) k
  refine go fun c1 => go fun c2 => go fun c3 => go fun c4 => ?_
  rw [if_neg (fun c5 => by rw [c5] at hv; exact no_ft hv)]
  refine .inr (congrArg (fun z => pure (some z)) ?_)
  rw [Bool.or_eq_true, not_or] at c3
  refine (filterMap_all (g := fun e => (nameOf e).getD default) (fun e he => ?_) (Classical.byContradiction fun z => c3.1 (bne_iff_ne.mpr z))).trans ?_
  · refine e1a2 (List.mem_map.mp he) fun n _ rr2 => ?_
    subst rr2
    exact ite_or (P := fun z => z = none ∨ z = some _) (.inr rfl) fun _ => .inl rfl
  · unfold tgN; rw [List.map_map]; rfl
theorem bindNs_names {M : Model} {ns : List (Str × Pos)} {vs : List Value} {ds : List D} {c : List CE} {s : Shared} {ρ' : Rho} (S : St G hb sc env c φ s) (h : bindNs sc (abs c) (tgN ns) ds = some ρ') (r : RepL φ vs ds) :
    wpAny M A (assignInOrder (ns.map fun n => bindName env n.1) vs) (fun _ s' => ∃ c', abs c' = ρ' ∧ Moved G hb sc env c φ s c' s') E s := by
  induction ns generalizing vs ds c s with
  | nil => induction ds using List.casesOn with
    | nil => rw [r.iNil]; exact wpAny_pure ⟨c, some_inv h ▸ rfl, S, ⟨s.heap, s.toks, rfl⟩, fun _ _ _ e => e, fun _ e => e, rfl⟩
    | cons d ds => exact no_none h
  | cons n ns ih => induction ds using List.casesOn with
    | nil => exact no_none h
    | cons d ds =>
      refine r.sCons fun v vs r1 rs => ?_
      refine o1_e h fun ρ₁ h1 h2 => ?_
      show wpAny M A (do holding (v :: vs).tail (bindName env n.1 v); assignInOrder (ns.map fun n => bindName env n.1) vs) _ E s
      refine wpAny_bind (wpAny_holding (wpAny_bindName (wpAny_mono (bindN_ok (M := M) (A := A) (E := E) S h1 r1) (fun _ s₁ q => q.elim fun c₁ q => ?_) fun _ _ e => e)))
      exact wpAny_mono (ih q.2.st (q.1.symm ▸ h2) rs) (fun _ s₂ z => z.elim fun c₂ z => ⟨c₂, z.1, q.2.trans z.2⟩) fun _ _ e => e
set_option tactic.hygienic true in
theorem rowpost {d : D} {ρ₁ : Rho} {v : Value} {N : List Str} {s₁ s₂ s₃ : Shared} {c₁ c₂ : List CE} {φ₁ : Fz} (X : EO G hb sc env c φ s N false d ρ₁ v s₁ c₁ φ₁) (x : Step φ₁ s₁ φ₁ s₂) (m : Moved G hb sc env c₁ φ₁ s₂ c₂ s₃) : SPost G hb sc env c φ s (.next (abs c₂)) .next s₃ :=
  ⟨c₂, φ₁, rfl, m.st, (X.rel.trans (fun a ha => .inl (X.pv a ha)) x.srel).trans (fun a ha => .inl (X.pv a ha)) m.srel, fun a ha => .inl (X.pv a (m.priv a ha))⟩
theorem names_of {ts : List Expr} {seen : List Str} (h : distinctNames ts seen = true) : ∃ ns : List (Str × Pos), ts = tgN ns ∧ (ns.map (·.1)).Nodup ∧ ∀ x ∈ ns.map (·.1), x ∉ seen := by
  induction ts generalizing seen with
  | nil => exact ⟨[], rfl, .nil, fun x hx => no_mem hx⟩
  | cons t ts ih =>
    have h : isN (fun x => !(seen.contains x) && distinctNames ts (x :: seen)) (nameOf t) = true := h
    generalize hn : nameOf t = r_; induction r_ using Option.casesOn with
    | none => rw [hn] at h; exact no_ft h
    | some x =>
      rw [hn] at h
      refine e1a1 (nameOf_inv hn) fun p rr1 => ?_
      subst rr1
      refine and_e h fun h1 h2 => ?_
      refine e1a3 (ih h2) fun ns rr1 nd hs => ?_
      subst rr1
      refine ⟨(x, p) :: ns, rfl, List.nodup_cons.mpr ⟨fun hx => hs x hx List.mem_cons_self, nd⟩, fun y hy => ?_⟩
      rcases List.mem_cons.mp hy with z | z
      · rw [z]; exact fun hm => by
          have := not_inv h1
          rw [List.contains_iff_mem.mpr hm] at this; exact no_tf this
      · exact fun hm => hs y z (List.mem_cons_of_mem _ hm)
theorem assignEach_len (ns : List (Str × Pos)) : (assignEach (tgN ns) env).length = ns.length := by
  induction ns with
  | nil => rfl
  | cons n ns ih => exact congrArg Nat.succ ih
set_option tactic.hygienic true in
theorem row_ok (O : VOk G l V) {ts : List Expr} {k : Nat} {tp pos : Pos} {v : Expr} {d : D} {ds : List D} {ρ₁ ρ' : Rho} (hdn : distinctNames ts [] = true) (hv : notConsts v = true) (he : evO V sc ρ v = some (d, ρ₁)) (hd : (d = .tup ds ∨ d = .list ds) ∧ ds.length ≤ lim)
    (h : bindNs sc ρ₁ ts ds = some ρ') : SSem G l sc ρ (.Assign [.Tuple ts k tp] v pos) (.next ρ') := by
  intro hb env c φ s A E R S hab
  subst hab
  have hsw : swapsWithSole [.Tuple ts k tp] v pos.line env = pure false := by
    unfold swapsWithSole
    induction v using PySem.Expr.casesOn <;> rfl
  refine e1a3 (names_of hdn) fun ns rr1 nd _ => ?_
  subst rr1
  refine e0a2 (bindNs_shape (env := env) h) fun sh1 sh2 => ?_
  rcases swapped_is (env := env) (tp := tp) (k := k) (ns := ns) hv with hw | hw
  · refine PyProof.Rows.Assign_Tuple (evO_then O R S he fun w s₁ c₁ φ₁ X rv => ?_) hsw hw
    rw [← X.ab] at h
    rw [arm_assign_Tuple]
    refine wpAny_bind (wpAny_standAt ?_)
    unfold unpack
    rw [sh1, sh2]
    refine wpAny_bind (wpAny_holding (unpack_ok X.st.g.fin R.handled rv hd fun vs s₂ x rvs => ?_))
    exact wpAny_mono (bindNs_ok (X.st.step x) h rvs) (fun _ s₃ q => q.elim fun c₂ q => q.1 ▸ rowpost X x q.2) fun _ _ e => e
  · refine PyProof.Rows.Assign_Tuple_swapped (names := ns.map (·.1)) (evO_then O R S he fun w s₁ c₁ φ₁ X rv => ?_) hsw hw
    rw [← X.ab] at h
    rw [show (ns.map (·.1)).length = ds.length by rw [← sh1, List.length_map]; exact (assignEach_len ns).symm]
    refine unpack_ok X.st.g.fin R.handled rv hd fun vs s₂ x rvs => ?_
    rw [← List.map_reverse, List.map_map]
    exact wpAny_mono (bindNs_names (X.st.step x) (bindNs_rev nd h) rvs.reverse) (fun _ s₃ q => q.elim fun c₂ q => q.1 ▸ rowpost X x q.2) fun _ _ e => e
end
end Mine

namespace Mine
open PySem PySem.W PySem.Calls PyProof.Rows PySem.SeqAt

section
variable {G : Gd} {l : Nat} {V V' : EvF} {P : Pg} {sc : Scope} {ρ : Rho} {hb : Heap} {env : Env} {c : List CE} {φ : Fz} {s : Shared} {A : Around} {E : Value → Shared → Prop}
theorem fst_some {z : Option (D × Rho)} {p : D × Rho} {d : D} (h : z = some p) (e : p.1 = d) : z = some (d, p.2) := by rw [h, ← e]
set_option tactic.hygienic true in
theorem asg1_ok (PO : POk G l P) (O : VOk G l V) (O' : VOk G l V') (hV : V.e = stepE P V') {t v : Expr} {pos : Pos} {r : SR} (h : asg1 P V sc ρ v t = some r) : SSem G l sc ρ (.Assign [t] v pos) r := by
  induction t using PySem.Expr.casesOn
  case Name x p =>
    refine oif_e h fun hv h => ?_
    refine o1_e h fun dr he h => ?_
    refine o1_e h fun ρ' hs h => ?_
    refine some_e h ?_
    exact name_assign O O' hV hv he hs
  case Tuple ts k p =>
    refine oif_e h fun hg h => ?_
    refine o1_e h fun dr he h => ?_
    refine o1_e h fun ds hd h => ?_
    refine oif_e h fun hz h => ?_
    refine o1_e h fun ρ' hs h => ?_
    refine some_e h ?_
    exact row_ok O (and_inv (and_inv hg).1).1 (and_inv (and_inv hg).1).2 he ⟨seqD_inv hd, hz⟩ hs
  case Attribute y a q =>
    refine o1_e h fun x hx h => ?_
    refine e1a1 (nameOf_inv hx) fun p rr1 => ?_
    rw [rr1]
    refine oif_e h fun hn h => ?_
    refine o1_e h fun dr he h => ?_
    refine o1_e h fun w hl h => ?_
    refine o1_e h fun z hw h => ?_
    refine oif_e h fun hg h => ?_
    rw [oiL_inv hw] at hl
    refine some_e h ?_
    exact attr_ok PO O (and_inv hg).2 hn he hl (and_inv (and_inv hg).1).1 (of_decide_eq_true (and_inv (and_inv hg).1).2)
  case Subscript y i q =>
    refine o1_e h fun x hx h => ?_
    refine e1a1 (nameOf_inv hx) fun p rr1 => ?_
    rw [rr1]
    refine oif_e h fun hg h => ?_
    refine o1_e h fun dr he h => ?_
    refine o2_e h fun w kr hl hi h => ?_
    refine o2_e h fun ls j hw hk h => ?_
    refine oif_e h fun hg2 h => ?_
    rw [owL_inv hw] at hl
    refine some_e h ?_
    exact sub_ok O (and_inv (and_inv hg).1).1 (not_inv (and_inv (and_inv hg).1).2) (and_inv hg).2 he hl (fst_some hi (intD_inv hk)) (and_inv (and_inv (and_inv hg2).1).1).1 (and_inv (and_inv (and_inv hg2).1).1).2
  all_goals exact no_none h
theorem appS_inv {m x : Str} {ap cp : Pos} {as : List Expr} {ks : List Keyword} {r : SR} (h : appS V sc ρ m ap cp as ks x = some r) : ∃ e, as = [e] ∧ ks = [] ∧ (if (!((nmE fuelN e).contains x) && ap.endLine == cp.line && okE e && nmOk x) = true then oApp x m (ρ.lookup x) (evO V sc ρ e) else none) = some r := by
  induction as using List.casesOn with
  | nil => exact no_none h
  | cons e as => induction as using List.casesOn with
    | cons => exact no_none h
    | nil => induction ks using List.casesOn with
      | nil => exact ⟨e, rfl, rfl, h⟩
      | cons => exact no_none h
theorem expr_ok (O : VOk G l V) {e : Expr} {pos : Pos} {r : SR} (h : exprS V sc ρ e = some r) : SSem G l sc ρ (.Expr e pos) r := by
  refine o1_e h fun c hc h => ?_
  refine o1_e h fun a ha h => ?_
  refine o1_e h fun x hx h => ?_
  refine e1a1 (nameOf_inv hx) fun p e1 => ?_
  refine e1a3 (appS_inv h) fun e' e2 e3 h => ?_
  refine oif_e h fun hg h => ?_
  refine o2_e h fun w u hl he h => ?_
  refine o1_e h fun ls hw h => ?_
  refine o1_e h fun tl ht h => ?_
  refine some_e h ?_
  rw [owL_inv hw] at hl
  rw [callF_inv hc, attF_inv ha, e1, e2, e3]
  unfold appT at ht
  by_cases hm : a.2.1 = "append"
  · rw [if_pos hm] at ht
    refine oif_e ht fun hz ht => ?_
    refine some_e ht ?_
    rw [show a.2.1 = Str.ofString "append" from hm]
    exact append_ok O (and_inv (and_inv (and_inv hg).1).1).2 (and_inv (and_inv hg).1).2 (not_inv (and_inv (and_inv (and_inv hg).1).1).1) (and_inv hg).2 hl he hz
  · rw [if_neg hm] at ht
    refine oif_e ht fun hm ht => ?_
    refine o1_e ht fun t2 hd ht => ?_
    refine oif_e ht fun hz ht => ?_
    refine some_e ht ?_
    rw [show a.2.1 = Str.ofString "extend" from hm]
    exact extend_ok O (and_inv (and_inv (and_inv hg).1).1).2 (and_inv (and_inv hg).1).2 (not_inv (and_inv (and_inv (and_inv hg).1).1).1) (and_inv hg).2 hl (fst_some he (lstD_inv hd)) hz
set_option tactic.hygienic true in
theorem aug_ok (O : VOk G l V) {x : Str} {p pos : Pos} {v : Expr} {r : SR} (h : oAug sc x v (ρ.lookup x) (evO V sc ρ v) = some r) : SSem G l sc ρ (.AugAssign (.Name x p) .Add v pos) r := by
  refine o1_e h fun w hl h => ?_
  induction w using Mine.LV.casesOn
  case fz d =>
    refine o1_e h fun a ha h => ?_
    refine o1_e h fun dr he h => ?_
    refine o1_e h fun b hb h => ?_
    rw [intD_inv ha] at hl
    refine oif_e h fun hn h => ?_
    refine o1_e h fun ρ' hs h => ?_
    refine some_e h ?_
    exact aug_int_ok O hn hl (fst_some he (intD_inv hb)) hs
  case ow k =>
    refine o1_e h fun dr he h => ?_
    refine o1_e h fun m hm h => ?_
    refine oif_e h fun hg h => ?_
    refine oif_e h fun hz h => ?_
    refine o1_e h fun ρ' hs h => ?_
    refine some_e h ?_
    exact aug_list_ok O (and_inv hg).2 (not_inv (and_inv hg).1) hl (fst_some he (lstD_inv hm)) hz hs
  all_goals exact no_none h
theorem isNil_inv {α : Type} {l : List α} (h : isNil l = true) : l = [] := by induction l using List.casesOn; rfl; exact no_ft h
set_option tactic.hygienic true in
theorem step1_ok (PO : POk G l P) (O : VOk G l V) (O' : VOk G l V') (hV : V.e = stepE P V') {X : Rho → List Stmt → Option SR} (HX : XOk G l sc X) {st : Stmt} {r : SR} (h : step1 P V X sc ρ st = some r) : SSem G l sc ρ st r := by
  induction st using PySem.Stmt.casesOn
  case Assign ts v p =>
    induction ts using List.casesOn with
    | nil => exact no_none h
    | cons t ts => induction ts using List.casesOn with
      | nil => exact asg1_ok PO O O' hV h
      | cons u ts =>
        refine o1_e h fun dr he h => ?_
        refine oif_e h fun _ h => ?_
        refine o1_e h fun ρ' hs h => ?_
        refine some_e h ?_
        exact names_ok O he hs
  case AugAssign t o v p =>
    refine o1_e h fun x hx h2 => ?_
    refine e1a1 (nameOf_inv hx) fun q e => ?_
    refine oif_e h2 fun ho h3 => ?_
    rw [e]
    induction o using PySem.Operator.casesOn
    case Add => exact aug_ok O h3
    all_goals exact no_ft ho
  case Expr e p => exact expr_ok O h
  case If t b o p =>
    refine o1_e h fun z ht h => ?_
    induction z using Bool.casesOn
    · exact if_ok O HX ht (by rw [if_neg Bool.false_ne_true]; exact h)
    · exact if_ok O HX ht (by rw [if_pos rfl]; exact h)
  case For tgt it b o p =>
    refine oif_e h fun hg h2 => ?_
    have qq := isNil_inv (and_inv hg).1; subst qq
    refine o1_e h2 fun dr he h3 => ?_
    refine o1_e h3 fun items hit h4 => ?_
    exact for_ok O HX (and_inv hg).2 he hit h4
  case While t b o p =>
    refine oif_e h fun hg h2 => ?_
    have qq := isNil_inv hg; subst qq
    exact while_ok O HX h2
  case Return v p =>
    induction v using Option.casesOn
    case some v =>
      refine o1_e h fun dr he h => ?_
      refine some_e h ?_
      exact return_ok O he
    case none =>
      refine some_e h ?_
      intro hb env c φ s A E R S hab
      exact wpAny_Return_none ⟨φ, .none, S.g, SRel.refl⟩
  case Pass p =>
    refine some_e h ?_
    intro hb env c φ s A E R S hab
    exact wpAny_Pass ⟨c, φ, hab, S, SRel.refl, PV.refl⟩
  case Break p =>
    refine some_e h ?_
    intro hb env c φ s A E R S hab
    rw [arm_exec_Break]
    exact wpAny_bind (wpAny_standAt (wpAny_pure ⟨c, φ, hab, S, SRel.refl, PV.refl⟩))
  case Continue p =>
    refine some_e h ?_
    intro hb env c φ s A E R S hab
    rw [arm_exec_Continue]
    exact wpAny_bind (wpAny_standAt (wpAny_pure ⟨c, φ, hab, S, SRel.refl, PV.refl⟩))
  case Assert t m p =>
    refine o1_e h fun z ht h => ?_
    induction z using Bool.casesOn
    · exact no_none h
    · refine some_e h ?_; exact assert_ok O ht
  case Try b hs o f p =>
    refine oif_e h fun hg h2 => ?_
    have qq := isNil_inv (and_inv hg).2; subst qq
    have qq := isNil_inv (and_inv (and_inv hg).1).2; subst qq
    induction hs using List.casesOn
    · exact no_ft (and_inv (and_inv hg).1).1
    · exact try_ok HX h2
  all_goals exact no_none h
theorem stepS_ok (PO : POk G l P) (O : VOk G l V) (O' : VOk G l V') (hV : V.e = stepE P V') {X : Rho → List Stmt → Option SR} (HX : XOk G l sc X) {b : List Stmt} {ρ : Rho} {r : SR} (h : stepS P V X sc ρ b = some r) : XSem G l sc ρ b r := by
  induction b generalizing ρ with
  | nil =>
    refine some_e h ?_
    intro hb env c φ s A E R S hab
    exact wpAny_execs_nil ⟨c, φ, hab, S, SRel.refl, PV.refl⟩
  | cons st b ih =>
    intro hb env c φ s A E R S hab
    refine o1_e h fun r₁ h1 h => ?_
    refine wpAny_execs_cons (wpAny_mono (step1_ok PO O O' hV HX h1 hb env c φ s A E R S hab) (fun f s₁ q => ?_) fun _ _ e => e)
    induction r₁ using Mine.SR.casesOn <;> induction f using PySem.Flow.casesOn <;> first | exact q.elim | skip
    · refine e2a4 (q) fun c₁ φ₁ ab₁ S₁ x₁ p₁ => ?_
      exact wpAny_mono (ih h hb env c₁ φ₁ s₁ A E R S₁ ab₁) (fun f s₂ z => z.after x₁ p₁) fun _ _ e => e
    all_goals (refine some_e h ?_; exact q)
theorem exN_ok (PO : POk G l P) (sc : Scope) : ∀ n, XOk G l sc (exN P n sc)
  | 0 => fun _ _ _ h => no_none h
  | n + 1 => fun ρ b r h => stepS_ok PO (evN_ok PO fuelN) (evN_ok PO 29) rfl (exN_ok PO sc n) h
end
end Mine

namespace Mine
open PySem PySem.W PySem.Calls PyProof.Rows PySem.SeqAt

/-! a function is entered -/
noncomputable def fnCE (b : Str → CV) : Nat → List (Str × NameKind) → List CE
  | _, [] => []
  | n, (x, k) :: r => match k with
    | .local => ⟨x, .loc, b x⟩ :: fnCE b n r
    | .cell => ⟨x, .own n, b x⟩ :: fnCE b (n + 1) r
    | _ => fnCE b n r
noncomputable def rho0 (b : Str → LV) : List (Str × NameKind) → Rho
  | [] => []
  | (x, k) :: r => match k with
    | .local => (x, b x) :: rho0 b r
    | .cell => (x, b x) :: rho0 b r
    | _ => rho0 b r
theorem fnCE_abs (b : Str → CV) (b' : Str → LV) (h : ∀ x, (b x).ab = b' x) : ∀ (names : List (Str × NameKind)) (n : Nat), abs (fnCE b n names) = rho0 b' names
  | [], _ => rfl
  | (x, k) :: r, n => by
    unfold fnCE rho0
    induction k using PySem.NameKind.casesOn with
    | «local» => dsimp only; rw [← h x, ← fnCE_abs b b' h r n]; rfl
    | cell => dsimp only; rw [← h x, ← fnCE_abs b b' h r (n + 1)]; rfl
    | free => exact fnCE_abs b b' h r n
    | globalImplicit => exact fnCE_abs b b' h r n
    | globalExplicit => exact fnCE_abs b b' h r n
theorem fnCE_mem {b : Str → CV} : ∀ {names : List (Str × NameKind)} {n : Nat} {e : CE}, e ∈ fnCE b n names → e.cv = b e.x ∧ ((e.loc = .loc ∧ (e.x, NameKind.local) ∈ names) ∨ (∃ ca, e.loc = .own ca ∧ n ≤ ca ∧ (e.x, NameKind.cell) ∈ names))
  | [], _, _, h => (no_mem h)
  | (x, k) :: r, n, e, h => by
    unfold fnCE at h
    have lift : ∀ {m : Nat}, n ≤ m → e ∈ fnCE b m r → e.cv = b e.x ∧ ((e.loc = .loc ∧ (e.x, NameKind.local) ∈ (x, k) :: r) ∨ (∃ ca, e.loc = .own ca ∧ n ≤ ca ∧ (e.x, NameKind.cell) ∈ (x, k) :: r)) := fun hm h => by
      refine e0a2 (fnCE_mem h) fun h1 h2 => ?_
      refine ⟨h1, ?_⟩
      rcases h2 with ⟨h2, h3⟩ | ⟨ca, h2, h3, h4⟩
      · exact .inl ⟨h2, List.mem_cons_of_mem _ h3⟩
      · exact .inr ⟨ca, h2, Nat.le_trans hm h3, List.mem_cons_of_mem _ h4⟩
    induction k using PySem.NameKind.casesOn with
    | «local» =>
      rcases List.mem_cons.mp h with z | z
      · subst z; exact ⟨rfl, .inl ⟨rfl, List.mem_cons_self⟩⟩
      · exact lift (Nat.le_refl _) z
    | cell =>
      rcases List.mem_cons.mp h with z | z
      · subst z; exact ⟨rfl, .inr ⟨n, rfl, Nat.le_refl _, List.mem_cons_self⟩⟩
      · exact lift (Nat.le_succ _) z
    | free => exact lift (Nat.le_refl _) h
    | globalImplicit => exact lift (Nat.le_refl _) h
    | globalExplicit => exact lift (Nat.le_refl _) h
theorem fnCE_names {b : Str → CV} : ∀ (names : List (Str × NameKind)) (n : Nat), ((fnCE b n names).map (·.x)).Sublist (names.map (·.1))
  | [], _ => .slnil
  | (x, k) :: r, n => by
    unfold fnCE
    induction k using PySem.NameKind.casesOn with
    | «local» => exact (fnCE_names r n).cons_cons x
    | cell => exact (fnCE_names r (n + 1)).cons_cons x
    | free => exact (fnCE_names r n).cons x
    | globalImplicit => exact (fnCE_names r n).cons x
    | globalExplicit => exact (fnCE_names r n).cons x
theorem fnCE_own {b : Str → CV} : ∀ {names : List (Str × NameKind)} {n : Nat} {acc : List (Str × Addr)}, (names.map (·.1)).Nodup → ∀ e ∈ fnCE b n names, ∀ ca, e.loc = .own ca → (cellsFrom n names acc).lookup e.x = some ca
  | [], _, _, _, _, he, _, _ => (no_mem he)
  | (x, k) :: r, n, acc, nd, e, he, ca, hl => by
    rw [List.map_cons, List.nodup_cons] at nd
    unfold fnCE at he
    unfold cellsFrom
    induction k using PySem.NameKind.casesOn with
    | «local» =>
      rcases List.mem_cons.mp he with z | z
      · subst z; cases hl
      · exact fnCE_own nd.2 e z ca hl
    | cell =>
      simp only [beq_self_eq_true, if_true]
      rcases List.mem_cons.mp he with z | z
      · subst z
        cases hl
        rw [cellsFrom_other r _ _ fun k hk e => nd.1 (List.mem_map.mpr ⟨_, hk, rfl⟩), List.lookup_cons]; simp
      · exact fnCE_own nd.2 e z ca hl
    | free => exact fnCE_own nd.2 e he ca hl
    | globalImplicit => exact fnCE_own nd.2 e he ca hl
    | globalExplicit => exact fnCE_own nd.2 e he ca hl
theorem fnCE_privs {b : Str → CV} {m : Nat} (hlt : ∀ x, ∀ a ∈ (b x).priv, a < m) (hnd : ∀ x, (b x).priv.Nodup) (hap : ∀ x y, x ≠ y → ∀ a ∈ (b x).priv, a ∉ (b y).priv) :
    ∀ (names : List (Str × NameKind)) (n : Nat), m ≤ n → (names.map (·.1)).Nodup → (∀ a ∈ (fnCE b n names).flatMap CE.priv, n ≤ a ∨ ∃ x ∈ names.map (·.1), a ∈ (b x).priv) ∧ ((fnCE b n names).flatMap CE.priv).Nodup
  | [], _, _, _ => ⟨fun _ h => (no_mem h), List.nodup_nil⟩
  | (x, k) :: r, n, hn, nd => by
    rw [List.map_cons, List.nodup_cons] at nd
    have skip : (∀ a ∈ (fnCE b n r).flatMap CE.priv, n ≤ a ∨ ∃ y ∈ ((x, k) :: r).map (·.1), a ∈ (b y).priv) ∧ ((fnCE b n r).flatMap CE.priv).Nodup := by
      refine e0a2 (fnCE_privs hlt hnd hap r n hn nd.2) fun h1 h2 => ?_
      exact ⟨fun a ha => (h1 a ha).imp id fun ⟨y, hy, z⟩ => ⟨y, List.mem_cons_of_mem _ hy, z⟩, h2⟩
    unfold fnCE
    induction k using PySem.NameKind.casesOn with
    | «local» =>
      refine e0a2 (fnCE_privs hlt hnd hap r n hn nd.2) fun h1 h2 => ?_
      refine ⟨fun a ha => ?_, ?_⟩
      · rw [List.flatMap_cons] at ha
        rcases List.mem_append.mp ha with z | z
        · exact .inr ⟨x, List.mem_cons_self, by simpa [CE.priv, Loc.priv] using z⟩
        · exact skip.1 a z
      · rw [List.flatMap_cons, List.nodup_append]
        refine ⟨by simpa [CE.priv, Loc.priv] using hnd x, h2, fun a ha a' ha' e => ?_⟩
        subst e
        have ha : a ∈ (b x).priv := by simpa [CE.priv, Loc.priv] using ha
        rcases h1 a ha' with z | ⟨y, hy, z⟩
        · have := hlt x a ha; exact absurd z (Nat.not_le.mpr (Nat.lt_of_lt_of_le this hn))
        · exact hap x y (fun q => nd.1 (q ▸ hy)) a ha z
    | cell =>
      refine e0a2 (fnCE_privs hlt hnd hap r (n + 1) (Nat.le_succ_of_le hn) nd.2) fun h1 h2 => ?_
      refine ⟨fun a ha => ?_, ?_⟩
      · rw [List.flatMap_cons] at ha
        rcases List.mem_append.mp ha with z | z
        · rcases List.mem_append.mp z with w | w
          · have : a = n := by simpa [Loc.priv] using w
            exact .inl (Nat.le_of_eq this.symm)
          · exact .inr ⟨x, List.mem_cons_self, w⟩
        · rcases h1 a z with w | ⟨y, hy, w⟩
          · exact .inl (Nat.le_of_succ_le w)
          · exact .inr ⟨y, List.mem_cons_of_mem _ hy, w⟩
      · rw [List.flatMap_cons, List.nodup_append]
        refine ⟨?_, h2, fun a ha a' ha' e => ?_⟩
        · show (n :: (b x).priv).Nodup
          rw [List.nodup_cons]
          exact ⟨fun z => absurd (hlt x n z) (Nat.not_lt.mpr hn), hnd x⟩
        · subst e
          have ha : a ∈ n :: (b x).priv := ha
          rcases List.mem_cons.mp ha with z | z
          · subst z
            rcases h1 a ha' with w | ⟨y, hy, w⟩
            · exact absurd w (Nat.not_succ_le_self a)
            · exact absurd (hlt y a w) (Nat.not_lt.mpr hn)
          · rcases h1 a ha' with w | ⟨y, hy, w⟩
            · exact absurd (Nat.lt_of_lt_of_le (hlt x a z) hn) (Nat.not_lt.mpr (Nat.le_of_succ_le w))
            · exact hap x y (fun q => nd.1 (q ▸ hy)) a z w
    | free => exact skip
    | globalImplicit => exact skip
    | globalExplicit => exact skip
theorem bindL_at {kindOf : Str → Option NameKind} {x : Str} (hx : kindOf x = some .local) : ∀ (binds : List (Str × Value)) (m : Str → Option Value), bindL kindOf binds m x = (binds.reverse.lookup x).or (m x)
  | [], m => by simp [bindL]
  | (n, v) :: r, m => by
    unfold bindL
    rw [bindL_at hx r, List.reverse_cons, List.lookup_append, Option.or_assoc]
    congr 1
    by_cases k : x = n
    · subst k; rw [if_pos hx]; simp
    · have kb : (x == n) = false := beq_eq_false_iff_ne.mpr k
      split <;> simp [List.lookup_cons, kb, k]
theorem bindC_at {kindOf : Str → Option NameKind} {x : Str} (hx : kindOf x = some .cell) : ∀ (binds : List (Str × Value)) (m : Str → Option Value), bindC kindOf binds m x = (binds.reverse.lookup x).or (m x)
  | [], m => by simp [bindC]
  | (n, v) :: r, m => by
    unfold bindC
    rw [bindC_at hx r, List.reverse_cons, List.lookup_append, Option.or_assoc]
    congr 1
    by_cases k : x = n
    · subst k; rw [if_neg (by rw [hx]; simp)]; simp
    · have kb : (x == n) = false := beq_eq_false_iff_ne.mpr k
      split <;> simp [List.lookup_cons, kb, k]
end Mine

namespace Mine
open PySem PySem.W PySem.Calls PyProof.Rows PySem.SeqAt

structure FdOk (fd : FuncData) (body : List Stmt) : Prop where
  body : fd.body = .stmts body
  glo : fd.globals = mainGlobals
  bui : fd.builtins = builtinsNs
  clo : fd.closure = []
  co : fd.scope.isCoroutine = false
  gen : fd.scope.isGenerator = false
  kind : fd.scope.kind = .function
  nd : (fd.scope.names.map (·.1)).Nodup
  nofree : ∀ x, (x, NameKind.free) ∉ fd.scope.names
structure Given (G : Gd) (φ : Fz) (s : Shared) (b : Str → CV) : Prop where
  good : ∀ x, Good G.w φ s.heap (b x)
  nd : ∀ x, (b x).priv.Nodup
  apart : ∀ x y, x ≠ y → ∀ a ∈ (b x).priv, a ∉ (b y).priv
  off : ∀ x, ∀ a ∈ (b x).priv, φ a = none ∧ G.h.get? a = none ∧ ∃ o, s.heap.get? a = some o
section
variable {G : Gd} {l : Nat} {P : Pg} {φ : Fz} {s : Shared} {A : Around} {E : Value → Shared → Prop}
theorem enter_st {fd : FuncData} {body : List Stmt} {a : Addr} {binds : List (Str × Value)} {b : Str → CV} {s₁ : Shared} (F : FdOk fd body) (g : Gnd G φ s) (B : Given G φ s b) (hv : ∀ x, (b x).val? = binds.reverse.lookup x)
    (x : InCallC s (callEnvC fd s.heap.objs.size a).locals (bindL (callEnvC fd s.heap.objs.size a).kindOf binds fun _ => none) (callEnvC fd s.heap.objs.size a).cells (bindC (callEnvC fd s.heap.objs.size a).kindOf binds fun _ => none) s₁) :
    St G G.h fd.scope (callEnvC fd s.heap.objs.size a) (fnCE b (s.heap.objs.size + 1) fd.scope.names) φ s₁ := by
  have keep := x.toInCall.keep
  have hlt : ∀ y, ∀ c ∈ (b y).priv, c < s.heap.objs.size := fun y c hc => let ⟨o, ho⟩ := (B.off y c hc).2.2; Heap.lt_size ho
  refine e0a2 (fnCE_privs hlt B.nd B.apart fd.scope.names (s.heap.objs.size + 1) (Nat.le_succ _) F.nd) fun p1 p2 => ?_
  have hL : (callEnvC fd s.heap.objs.size a).locals = s.heap.objs.size := rfl
  have low : ∀ c ∈ privs (callEnvC fd s.heap.objs.size a) (fnCE b (s.heap.objs.size + 1) fd.scope.names), s.heap.get? c = none ∨ ∃ y, c ∈ (b y).priv := fun c hc => by
    rcases List.mem_cons.mp hc with z | z
    · exact .inl (by rw [z]; exact get_size_none _)
    · rcases p1 c z with w | ⟨y, _, w⟩
      · exact .inl (none_ge (Nat.le_of_succ_le w))
      · exact .inr ⟨y, w⟩
  refine ⟨⟨g.gnd, fun c o e => keep c o (g.fin c o e)⟩, fun c o e => keep c o (g.keep c o e), F.kind, F.glo, F.bui, fun y h => h, fun e he => ?_, F.nd.sublist (fnCE_names _ _), ?_, fun c hc => ?_, fun c hc => ?_, _, x.toInCall.ns, fun e he => ?_⟩
  · refine e0a2 (fnCE_mem he) fun h1 h2 => ?_
    rcases h2 with ⟨h2, h3⟩ | ⟨ca, h2, _, h3⟩
    · rw [lookup_of_mem F.nd h3, h2]; trivial
    · rw [lookup_of_mem F.nd h3, h2]; trivial
  · rw [privs, List.nodup_cons]
    refine ⟨fun z => ?_, p2⟩
    rw [hL] at z
    rcases p1 _ z with w | ⟨y, _, w⟩
    · exact absurd w (Nat.not_succ_le_self _)
    · exact absurd (hlt y _ w) (Nat.lt_irrefl _)
  · rcases low c hc with z | ⟨y, z⟩
    · generalize q : φ c = r_; induction r_ using Option.casesOn with
      | none => rfl
      | some o => have := g.fin c o q; rw [z] at this; exact no_none this
    · exact (B.off y c z).1
  · rcases low c hc with z | ⟨y, z⟩
    · exact none_of_ext g.keep z
    · exact (B.off y c z).2.1
  · refine e0a2 (fnCE_mem he) fun h1 h2 => ?_
    have good : Good G.w φ s₁.heap e.cv := by rw [h1]; exact (B.good e.x).mono (fun _ _ z => z) fun c _ o q => keep c o q
    rcases h2 with ⟨h2, h3⟩ | ⟨ca, h2, _, h3⟩
    · have hk : (callEnvC fd s.heap.objs.size a).kindOf e.x = some .local := lookup_of_mem F.nd h3
      refine ⟨?_, good⟩
      unfold Slot
      rw [h2]
      refine ⟨hk, fun v hv' => ?_⟩
      rw [bindL_at hk, ← hv, ← h1, hv']; rfl
    · have hk : (callEnvC fd s.heap.objs.size a).kindOf e.x = some .cell := lookup_of_mem F.nd h3
      refine ⟨?_, good⟩
      have hc : (callEnvC fd s.heap.objs.size a).cells.lookup e.x = some ca := fnCE_own F.nd e he ca h2
      unfold Slot
      rw [h2]
      refine ⟨hk, hc, _, x.cell _ _ hc, fun v hv' => ?_⟩
      rw [bindC_at hk, ← hv, ← h1, hv']; rfl
theorem code_body {fd : FuncData} {body : List Stmt} {a : Addr} {o : Obj} {args : Args} {binds : List (Str × Value)} {b : Str → CV} {r : SR} {Rr : Result → Shared → Prop} (F : FdOk fd body) (ho : s.heap.get? a = some o) (hd : o.data = .func fd) (hlim : s.heap.NoLimit) (hcd : s.heap.CodeRec fd.code fd.qualname)
    (hbind : BindsTo s fd args binds) (hkind : ∀ x ∈ binds, ∃ k, (x.1, k) ∈ fd.scope.names ∧ (k = .local ∨ k = .cell)) (g : Gnd G φ s) (B : Given G φ s b) (hv : ∀ x, (b x).val? = binds.reverse.lookup x) (R : Room A (l + 1))
    (hx : XSem G l fd.scope (rho0 (fun x => (b x).ab) fd.scope.names) body r)
    (hQ : ∀ f s₁ s', InCallC s (callEnvC fd s.heap.objs.size a).locals (bindL (callEnvC fd s.heap.objs.size a).kindOf binds fun _ => none) (callEnvC fd s.heap.objs.size a).cells (bindC (callEnvC fd s.heap.objs.size a).kindOf binds fun _ => none) s₁ →
      SPost G G.h fd.scope (callEnvC fd s.heap.objs.size a) (fnCE b (s.heap.objs.size + 1) fd.scope.names) φ s₁ r f s' → Rr (.ok (.ret (match f with | .ret v => v | _ => .none))) s') :
    codeAny (model G.prog G.w) A (.call (.ref a) args) Rr s := by
  refine codeAny_call_function (by have := R.depth; omega) ho hd F.co F.gen F.body hcd (hbind _ _ _ _ ?_)
  rw [F.clo]
  refine wpAny_newFunctionEnv_cells F.kind (fun x hx => ?_) fun env he s₁ x => ?_
  · refine e1a2 (hkind x hx) fun k hm hk => ?_
    have := lookup_of_mem F.nd hm
    rcases hk with rfl | rfl
    · exact .inl this
    · refine .inr ⟨this, ?_⟩
      have : ∀ (names : List (Str × NameKind)) (n : Nat), (names.map (·.1)).Nodup → (x.1, NameKind.cell) ∈ names → ∀ acc, ((cellsFrom n names acc).lookup x.1).isSome = true := by
        intro names
        induction names with
        | nil => intro n _ h; cases h
        | cons p r ih =>
          obtain ⟨y, k⟩ := p
          intro n nd h acc
          rw [List.map_cons, List.nodup_cons] at nd
          unfold cellsFrom
          rcases List.mem_cons.mp h with z | z
          · cases z
            simp only [beq_self_eq_true, if_true]
            rw [cellsFrom_other r _ _ fun k hk e => nd.1 (List.mem_map.mpr ⟨_, hk, rfl⟩), List.lookup_cons]; simp
          · split
            · exact ih _ nd.2 z _
            · exact ih _ nd.2 z _
      exact this _ _ F.nd hm _
  · subst he
    refine ⟨hlim.keeps x.toInCall.keep, codeAny_func ?_⟩
    have S := enter_st (a := a) F g B hv x
    exact wpAny_mono (hx G.h (callEnvC fd s.heap.objs.size a) _ φ s₁ _ _ (R.deeper _) S (fnCE_abs _ _ (fun _ => rfl) _ _)) (fun f s' q => hQ f s₁ s' x q) fun e s' q => q
theorem call_body {fd : FuncData} {body : List Stmt} {a : Addr} {o : Obj} {args : Args} {binds : List (Str × Value)} {b : Str → CV} {r : SR} {Q : Value → Shared → Prop} (F : FdOk fd body) (ho : s.heap.get? a = some o) (hd : o.data = .func fd) (hlim : s.heap.NoLimit) (hcd : s.heap.CodeRec fd.code fd.qualname)
    (hbind : BindsTo s fd args binds) (hkind : ∀ x ∈ binds, ∃ k, (x.1, k) ∈ fd.scope.names ∧ (k = .local ∨ k = .cell)) (g : Gnd G φ s) (B : Given G φ s b) (hv : ∀ x, (b x).val? = binds.reverse.lookup x) (R : Room A (l + 1))
    (hx : XSem G l fd.scope (rho0 (fun x => (b x).ab) fd.scope.names) body r)
    (hQ : ∀ f s₁ s', InCallC s (callEnvC fd s.heap.objs.size a).locals (bindL (callEnvC fd s.heap.objs.size a).kindOf binds fun _ => none) (callEnvC fd s.heap.objs.size a).cells (bindC (callEnvC fd s.heap.objs.size a).kindOf binds fun _ => none) s₁ →
      SPost G G.h fd.scope (callEnvC fd s.heap.objs.size a) (fnCE b (s.heap.objs.size + 1) fd.scope.names) φ s₁ r f s' → Q (match f with | .ret v => v | _ => .none) s') :
    wpAny (model G.prog G.w) A (call (.ref a) args.pos args.kw) Q E s := wpAny_call (code_body F ho hd hlim hcd hbind hkind g B hv R hx hQ)
theorem srel_step {fd : FuncData} {body : List Stmt} {a : Addr} {m : Str → Option Value} {cm : Str → Option Value} {b : Str → CV} {s₁ s' : Shared} {φ' : Fz} (F : FdOk fd body) (g : Gnd G φ s) (B : Given G φ s b) (hno : ∀ x, (b x).priv = [])
    (x : InCallC s (callEnvC fd s.heap.objs.size a).locals m (callEnvC fd s.heap.objs.size a).cells cm s₁) (y : SRel (callEnvC fd s.heap.objs.size a) (fnCE b (s.heap.objs.size + 1) fd.scope.names) φ s₁ φ' s') (g' : Gnd G φ' s') : Step φ s φ' s' := by
  have low : ∀ c ∈ privs (callEnvC fd s.heap.objs.size a) (fnCE b (s.heap.objs.size + 1) fd.scope.names), s.heap.get? c = none := fun c hc => by
    refine e0a2 (fnCE_privs (m := s.heap.objs.size) (fun y c hc => by rw [hno y] at hc; cases hc) B.nd B.apart fd.scope.names (s.heap.objs.size + 1) (Nat.le_succ _) F.nd) fun p1 p2 => ?_
    rcases List.mem_cons.mp hc with z | z
    · rw [z]; exact get_size_none _
    · rcases p1 c z with w | ⟨y, _, w⟩
      · exact none_ge (Nat.le_of_succ_le w)
      · rw [hno y] at w; cases w
  refine e2a1 (x.toInCall.same) fun h1 t1 e1 => ?_
  refine e2a1 (y.eq) fun h2 t2 e2 => ?_
  refine ⟨⟨h2, t2, by rw [e2, e1]⟩, fun c o e => y.keep c o (fun z => by rw [low c z] at e; exact no_none e) (x.toInCall.keep c o e), y.up, fun c o e => ?_, g'.fin⟩
  rcases y.new c o e with z | z | z
  · exact .inl z
  · exact .inr (low c z)
  · exact .inr (none_of_ext x.toInCall.keep z)
structure DefAt (G : Gd) (a : Addr) (fd : FuncData) (body : List Stmt) : Prop where
  ok : FdOk fd body
  obj : ∃ o, G.h.get? a = some o ∧ o.data = .func fd
  code : G.h.CodeRec fd.code fd.qualname
  keep : KeepOk G (.ref a)
noncomputable def bindsD (bd : List (Str × D)) : Str → LV := fun x => match bd.reverse.lookup x with
  | some d => .fz d
  | none => .un
set_option tactic.hygienic true in
theorem def_ok (PO : POk G l P) (hlim : G.h.NoLimit) {a : Addr} {fd : FuncData} {body : List Stmt} {ds : List D} {ks : List (Str × D)} {bd : List (Str × D)} {d : D} {n : Nat} (D₀ : DefAt G a fd body)
    (hb : ∀ φ vs kvs (s : Shared), RepL φ vs ds → RepK φ kvs ks → Gnd G φ s → ∃ binds, BindsTo s fd ⟨vs, kvs⟩ binds ∧ RepK φ binds bd)
    (hn : ∀ x ∈ bd, ∃ k, (x.1, k) ∈ fd.scope.names ∧ (k = .local ∨ k = .cell))
    (hx : (∃ ρ', exN P n fd.scope (rho0 (bindsD bd) fd.scope.names) body = some (.next ρ') ∧ d = .none) ∨ exN P n fd.scope (rho0 (bindsD bd) fd.scope.names) body = some (.ret d)) : CallOk G (l + 1) (.ref a) ds ks d := by
  refine ⟨D₀.keep, fun vs kvs φ s A E g R r rk => ?_⟩
  refine e1a2 (hb φ vs kvs s r rk g) fun binds hbind rb => ?_
  refine e1a2 (D₀.obj) fun o ho hd => ?_
  -- what each name is given
  have look : ∀ (binds : List (Str × Value)) (bd : List (Str × D)), RepK φ binds bd → ∀ x, (∃ v d, binds.lookup x = some v ∧ bd.lookup x = some d ∧ Rep φ v d) ∨ (binds.lookup x = none ∧ bd.lookup x = none) := by
    intro binds
    induction binds with
    | nil => intro bd h x; obtain ⟨h1, h2⟩ := h; induction bd using List.casesOn with
      | nil => exact .inr ⟨rfl, rfl⟩
      | cons p bd => cases h2
    | cons p binds ih =>
      intro bd h x
      obtain ⟨y, v⟩ := p
      refine e0a2 (h) fun h1 h2 => ?_
      cases bd with
      | nil => cases h2
      | cons q bd =>
        obtain ⟨z, d⟩ := q
        cases h2 with | cons r₁ rs =>
        have hyz : y = z := (List.cons.inj h1).1
        subst hyz
        have ih' := ih bd ⟨(List.cons.inj h1).2, rs⟩ x
        rw [List.lookup_cons, List.lookup_cons]
        cases hxy : x == y with
        | true => exact .inl ⟨v, d, rfl, rfl, r₁⟩
        | false => exact ih'
  have rb' : RepK φ binds.reverse bd.reverse := ⟨by rw [List.map_reverse, List.map_reverse, rb.1], by rw [List.map_reverse, List.map_reverse]; exact rb.2.reverse⟩
  let b : Str → CV := fun x => match binds.reverse.lookup x, bd.reverse.lookup x with
    | some v, some d => .fz v d
    | _, _ => .un
  have hbv : ∀ x, (b x).val? = binds.reverse.lookup x := fun x => by
    show CV.val? (match binds.reverse.lookup x, bd.reverse.lookup x with | some v, some d => CV.fz v d | _, _ => .un) = _
    rcases look _ _ rb' x with ⟨v, d, h1, h2, _⟩ | ⟨h1, h2⟩ <;> rw [h1, h2] <;> rfl
  have hba : (fun x => (b x).ab) = bindsD bd := by
    funext x
    show CV.ab (match binds.reverse.lookup x, bd.reverse.lookup x with | some v, some d => CV.fz v d | _, _ => .un) = _
    unfold bindsD
    rcases look _ _ rb' x with ⟨v, d, h1, h2, _⟩ | ⟨h1, h2⟩ <;> rw [h1, h2] <;> rfl
  have hno : ∀ x, (b x).priv = [] := fun x => by
    show CV.priv (match binds.reverse.lookup x, bd.reverse.lookup x with | some v, some d => CV.fz v d | _, _ => .un) = _
    split <;> rfl
  have good : ∀ x, Good G.w φ s.heap (b x) := fun x => by
    show Good G.w φ s.heap (match binds.reverse.lookup x, bd.reverse.lookup x with | some v, some d => CV.fz v d | _, _ => .un)
    rcases look _ _ rb' x with ⟨v, d, h1, h2, h3⟩ | ⟨h1, h2⟩
    · rw [h1, h2]; exact h3
    · rw [h1, h2]; trivial
  have B : Given G φ s b := by
    refine ⟨good, fun x => ?_, fun x y _ a ha => ?_, fun x a ha => ?_⟩
    · rw [hno x]; exact List.nodup_nil
    · rw [hno x] at ha; cases ha
    · rw [hno x] at ha; cases ha
  have hkind : ∀ x ∈ binds, ∃ k, (x.1, k) ∈ fd.scope.names ∧ (k = .local ∨ k = .cell) := fun x hx => by
    have hm : x.1 ∈ bd.map (·.1) := rb.1 ▸ List.mem_map.mpr ⟨x, hx, rfl⟩
    refine e1a2 (List.mem_map.mp hm) fun y hy e => ?_
    rw [← e]; exact hn y hy
  rcases hx with ⟨ρ', hx, rfl⟩ | hx
  · refine call_body (args := ⟨vs, kvs⟩) D₀.ok (g.keep _ _ ho) hd (hlim.keeps g.keep) (D₀.code.keeps g.keep) hbind hkind g B hbv R (hba ▸ exN_ok PO fd.scope n _ _ _ hx) fun f s₁ s' x q => ?_
    induction f using PySem.Flow.casesOn <;> first | exact q.elim | skip
    refine e2a4 (q) fun c' φ' _ S' y _ => ?_
    exact ⟨φ', srel_step D₀.ok g B hno x y S'.g, .none⟩
  · refine call_body (args := ⟨vs, kvs⟩) D₀.ok (g.keep _ _ ho) hd (hlim.keeps g.keep) (D₀.code.keeps g.keep) hbind hkind g B hbv R (hba ▸ exN_ok PO fd.scope n _ _ _ hx) fun f s₁ s' x q => ?_
    induction f using PySem.Flow.casesOn <;> first | exact q.elim | skip
    refine e1a3 (q) fun φ' rv g' y => ?_
    exact ⟨φ', srel_step D₀.ok g B hno x y g', rv⟩
end
end Mine

namespace Mine
open PySem PySem.W PySem.Calls PyProof.Rows PySem.SeqAt

/-! reckoning by rewriting -/
theorem ofString_inj {a b : String} : (Str.ofString a = Str.ofString b) = (a = b) := by
  apply propext
  constructor
  · intro h
    rw [Str.ofString_eq_toList, Str.ofString_eq_toList] at h
    have h := congrArg Str.cps h
    simp only [Array.mk.injEq] at h
    have h : a.toList.map Char.toNat = b.toList.map Char.toNat := by simpa using h
    have inj : ∀ x y : Char, x.toNat = y.toNat → x = y := fun x y h => Char.ext (UInt32.toNat_inj.mp h)
    have := List.map_inj_right inj |>.mp h
    exact String.toList_inj.mp this
  · intro h; rw [h]
theorem ofString_beq {a b : String} : (Str.ofString a == Str.ofString b) = (a == b) := by
  by_cases h : a = b
  · subst h; simp
  · have : Str.ofString a ≠ Str.ofString b := fun z => h (ofString_inj.mp z)
    rw [beq_eq_false_iff_ne.mpr h, beq_eq_false_iff_ne.mpr this]
theorem lk_cons {α : Type} {a b : String} {v : α} {r : List (Str × α)} : List.lookup (Str.ofString a) ((Str.ofString b, v) :: r) = if a = b then some v else List.lookup (Str.ofString a) r := by
  rw [List.lookup_cons, ofString_beq]
  by_cases h : a = b
  · subst h; simp
  · rw [if_neg h, beq_eq_false_iff_ne.mpr h]
theorem yo {a : String} : nmOk (Str.ofString a) = (!(a == "__debug__") && !(a == "__classdict__")) := by unfold nmOk; rw [ofString_beq, ofString_beq]
theorem yp {x : Str} {v : LV} : setR [] x v = [] := rfl
theorem setR_cons {a b : String} {u v : LV} {r : Rho} : setR ((Str.ofString b, u) :: r) (Str.ofString a) v = if b = a then (Str.ofString b, v) :: setR r (Str.ofString a) v else (Str.ofString b, u) :: setR r (Str.ofString a) v := by
  unfold setR
  rw [List.map_cons]
  simp only [ofString_inj]
  by_cases h : b = a <;> simp [h]
section
variable {P : Pg} {n : Nat} {sc : Scope} {ρ : Rho}
theorem jG {c k p} : (evN P (n + 1)).e sc ρ (.Constant c k p) = constD c := id rfl
theorem ev_name {x p} : (evN P (n + 1)).e sc ρ (.Name x p) = if nmOk x = true then oLk P sc x (ρ.lookup x) else none := id rfl
theorem qH {l op r p} : (evN P (n + 1)).e sc ρ (.BinOp l op r p) = oBin op ((evN P n).e sc ρ l) ((evN P n).e sc ρ r) := id rfl
theorem qI {op x p} : (evN P (n + 1)).e sc ρ (.UnaryOp op x p) = oUn op ((evN P n).e sc ρ x) := id rfl
theorem ev_cmp {l op r p} : (evN P (n + 1)).e sc ρ (.Compare l [op] [r] p) = if okE r = true then oB (oCmp op ((evN P n).e sc ρ l) ((evN P n).e sc ρ r)) else none := id rfl
theorem qK {t b o p} : (evN P (n + 1)).e sc ρ (.IfExp t b o p) = oIf ((evN P n).t sc ρ t) ((evN P n).e sc ρ b) ((evN P n).e sc ρ o) := id rfl
theorem ev_list {es p} : (evN P (n + 1)).e sc ρ (.List es p) = if es.length ≤ lim then oList (evs ((evN P n).e sc ρ) es) else none := id rfl
theorem ev_tup {es k p} : (evN P (n + 1)).e sc ρ (.Tuple es k p) = if es.length ≤ lim then oTup (evs ((evN P n).e sc ρ) es) else none := id rfl
theorem qN {f : Expr → Option D} : evs f [] = some [] := id rfl
theorem evs_cons {f : Expr → Option D} {e r} : evs f (e :: r) = if okE e = true then oCons (f e) (evs f r) else none := id rfl
theorem qP {f : Expr → Option D} : evk f [] = some [] := id rfl
theorem qQ {f : Expr → Option D} {x e p r} : evk f (⟨some x, e, p⟩ :: r) = oKw x (f e) (evk f r) := id rfl
theorem ev_att {o x p} : (evN P (n + 1)).e sc ρ (.Attribute o x p) = if attrBaseOk o = true then oAtt P x ((evN P n).e sc ρ o) else none := id rfl
theorem qS {V : EvF} : partD V sc ρ none = some none := id rfl
theorem qT {V : EvF} {e} : partD V sc ρ (some e) = oPart (V.e sc ρ e) := id rfl
theorem qU {v lo hi st sp p} : (evN P (n + 1)).e sc ρ (.Subscript v (.Slice lo hi st sp) p) = oCut ((evN P n).e sc ρ v) (partD (evN P n) sc ρ lo) (partD (evN P n) sc ρ hi) (partD (evN P n) sc ρ st) := id rfl
theorem ev_mt {o x ap args kws p} : (evN P (n + 1)).e sc ρ (.Call (.Attribute o x ap) args kws p) = if (attrBaseOk o && ap.endLine == p.line && decide (args.length + kws.length < 20)) = true then
    oMt P x ((evN P n).e sc ρ o) (evs ((evN P n).e sc ρ) args) (evk ((evN P n).e sc ρ) kws) else none := id rfl
theorem q9 {x q args kws p} : (evN P (n + 1)).e sc ρ (.Call (.Name x q) args kws p) = oFn P ((evN P n).e sc ρ (.Name x q)) (evs ((evN P n).e sc ρ) args) (evk ((evN P n).e sc ρ) kws) := id rfl
theorem yb {x p} : (evN P (n + 1)).t sc ρ (.UnaryOp .Not x p) = oNot ((evN P n).t sc ρ x) := id rfl
theorem yc {op vs p} : (evN P (n + 1)).t sc ρ (.BoolOp op vs p) = allT (evN P n) sc ρ op vs := id rfl
theorem yj {V : EvF} {op x r} : allT V sc ρ op (x :: r) = oAll op (V.t sc ρ x) (allT V sc ρ op r) := id rfl
theorem et_cmp {l op r p} : (evN P (n + 1)).t sc ρ (.Compare l [op] [r] p) = if okE r = true then oCmp op ((evN P n).e sc ρ l) ((evN P n).e sc ρ r) else none := id rfl
theorem et_cmp2 {l o1 o2 r1 r2 p} : (evN P (n + 1)).t sc ρ (.Compare l [o1, o2] [r1, r2] p) = if okE r2 = true then oCmp2 o1 o2 ((evN P n).e sc ρ l) ((evN P n).e sc ρ r1) ((evN P n).e sc ρ r2) else none := id rfl
theorem ym {x p} : (evN P (n + 1)).t sc ρ (.Name x p) = oTruth ((evN P n).e sc ρ (.Name x p)) := id rfl
theorem yn {f a k p} : (evN P (n + 1)).t sc ρ (.Call f a k p) = oTruth ((evN P n).e sc ρ (.Call f a k p)) := id rfl
theorem ev_comp {elt target iter ifs scope p} : (evN P (n + 1)).e sc ρ (.ListComp elt [⟨target, iter, ifs, 0⟩] scope p) = if (okE iter && scope.kind == .function && nodupB (scope.names.map (·.1)) && (0 : Int) == 0) = true then
    oComp (evN P n) scope target ifs elt (compI (evN P n) sc ρ target iter) (compRho sc ρ scope.names) else none := id rfl
end
end Mine

namespace Mine
open PySem PySem.W PySem.Calls PyProof.Rows PySem.SeqAt

/-! statements by rewriting -/
noncomputable def S1 (P : Pg) (n : Nat) (sc : Scope) (ρ : Rho) (st : Stmt) : Option SR := step1 P (evN P fuelN) (exN P n sc) sc ρ st
noncomputable def nxS (P : Pg) (n : Nat) (sc : Scope) (r : List Stmt) : Option SR → Option SR := o1 (seqK fun ρ => exN P (n + 1) sc ρ r)
noncomputable def forX (P : Pg) (n : Nat) (sc : Scope) (tgt : Expr) (b : List Stmt) (ρ : Rho) (items : List D) : Option SR := forD (fun ρ => exN P n sc ρ b) (fun ρ d => bindT sc ρ tgt d) ρ items
noncomputable def oForI (P : Pg) (n : Nat) (sc : Scope) (tgt : Expr) (b : List Stmt) (ρ : Rho) : Option (List D) → Option SR := o1 (forX P n sc tgt b ρ)
noncomputable def whX (P : Pg) (n : Nat) (sc : Scope) (t : Expr) (b : List Stmt) (k : Nat) (ρ : Rho) : Option SR := whileD (fun ρ => evT (evN P fuelN) sc ρ t) (fun ρ => exN P n sc ρ b) k ρ
section
variable {P : Pg} {n : Nat} {sc : Scope} {ρ : Rho}
set_option tactic.hygienic true in
theorem ja : exN P (n + 1) sc ρ [] = some (.next ρ) := id rfl
theorem jb {st r} : exN P (n + 1) sc ρ (st :: r) = nxS P n sc r (S1 P n sc ρ st) := id rfl
set_option tactic.hygienic true in
theorem jc {r ρ'} : nxS P n sc r (some (.next ρ')) = exN P (n + 1) sc ρ' r := id rfl
theorem jd {r d} : nxS P n sc r (some (.ret d)) = some (.ret d) := id rfl
theorem je {r ρ'} : nxS P n sc r (some (.brk ρ')) = some (.brk ρ') := id rfl
theorem jf {r ρ'} : nxS P n sc r (some (.cont ρ')) = some (.cont ρ') := id rfl
theorem jg {V : EvF} {e} : evO V sc ρ e = oO ρ (nmE fuelN e) (V.e sc (frzM (nmE fuelN e) ρ) e) := id rfl
theorem jh {V : EvF} {e} : evT V sc ρ e = V.t sc (frzM (nmE fuelN e) ρ) e := id rfl
theorem ji {N} : frzM N [] = [] := rfl
theorem jj {N x d r} : frzM N ((x, .fz d) :: r) = (x, .fz d) :: frzM N r := rfl
theorem jn {N x r} : frzM N ((x, .un) :: r) = (x, .un) :: frzM N r := rfl
theorem jo {N x l r} : frzM N ((x, .ow l) :: r) = (if N.contains x = true then (x, .fz (.list l)) else (x, .ow l)) :: frzM N r := rfl
theorem jp {N x y C fs r} : frzM N ((x, .oi y C fs) :: r) = (if N.contains x = true then (x, .fz (.inst C fs)) else (x, .oi y C fs)) :: frzM N r := rfl
theorem s_name {x p v q} : S1 P n sc ρ (.Assign [.Name x p] v q) = if okV v = true then oAsg sc x (isFresh v) (evO (evN P fuelN) sc ρ v) else none := id rfl
theorem s_row {ts k tp v q} : S1 P n sc ρ (.Assign [.Tuple ts k tp] v q) = if (distinctNames ts [] && notConsts v && (ts.length == 2 || ts.length == 3)) = true then oRow sc ts (evO (evN P fuelN) sc ρ v) else none := id rfl
theorem jt {x p y q r v s} : S1 P n sc ρ (.Assign (.Name x p :: .Name y q :: r) v s) = oNames sc (.Name x p :: .Name y q :: r) (evO (evN P fuelN) sc ρ v) := id rfl
theorem s_attr {x p a q v s} : S1 P n sc ρ (.Assign [.Attribute (.Name x p) a q] v s) = if nmOk x = true then oAttr P x a (notComp v) (evO (evN P fuelN) sc ρ v) else none := id rfl
theorem s_sub {x p i q v s} : S1 P n sc ρ (.Assign [.Subscript (.Name x p) i q] v s) = if (notComp v && !((nmE fuelN i).contains x) && nmOk x) = true then oSub (evN P fuelN) sc x i (evO (evN P fuelN) sc ρ v) else none := id rfl
theorem jw {x p v s} : S1 P n sc ρ (.AugAssign (.Name x p) .Add v s) = oAug sc x v (ρ.lookup x) (evO (evN P fuelN) sc ρ v) := id rfl
theorem s_app {x p m ap e cp s} : S1 P n sc ρ (.Expr (.Call (.Attribute (.Name x p) m ap) [e] [] cp) s) = if (!((nmE fuelN e).contains x) && ap.endLine == cp.line && okE e && nmOk x) = true then oApp x m (ρ.lookup x) (evO (evN P fuelN) sc ρ e) else none := id rfl
theorem jy {t b o p} : S1 P n sc ρ (.If t b o p) = oIfS (exN P n sc) ρ b o (evT (evN P fuelN) sc ρ t) := id rfl
theorem s_for {tgt it b p} : S1 P n sc ρ (.For tgt it b [] p) = if okE it = true then oFor (exN P n sc) sc tgt b (evO (evN P fuelN) sc ρ it) else none := id rfl
theorem jA {t b p} : S1 P n sc ρ (.While t b [] p) = whX P n sc t b 20 ρ := id rfl
theorem jB {v p} : S1 P n sc ρ (.Return (some v) p) = oRet (evO (evN P fuelN) sc ρ v) := id rfl
theorem jC {p} : S1 P n sc ρ (.Break p) = some (.brk ρ) := id rfl
theorem jD {p} : S1 P n sc ρ (.Continue p) = some (.cont ρ) := id rfl
theorem jE {t m p} : S1 P n sc ρ (.Assert t m p) = oAssert ρ (evT (evN P fuelN) sc ρ t) := id rfl
theorem jF {b h hs p} : S1 P n sc ρ (.Try b (h :: hs) [] [] p) = exN P n sc ρ b := id rfl
set_option tactic.hygienic true in
theorem for_next {tgt b d ds ρ₁ ρ₂} (h1 : bindT sc ρ tgt d = some ρ₁) (h2 : exN P n sc ρ₁ b = some (.next ρ₂)) : forX P n sc tgt b ρ (d :: ds) = forX P n sc tgt b ρ₂ ds := by
  show o1 _ (bindT sc ρ tgt d) = _; rw [h1]; show o1 _ (exN P n sc ρ₁ b) = _; rw [h2]; rfl
theorem for_cont {tgt b d ds ρ₁ ρ₂} (h1 : bindT sc ρ tgt d = some ρ₁) (h2 : exN P n sc ρ₁ b = some (.cont ρ₂)) : forX P n sc tgt b ρ (d :: ds) = forX P n sc tgt b ρ₂ ds := by
  show o1 _ (bindT sc ρ tgt d) = _; rw [h1]; show o1 _ (exN P n sc ρ₁ b) = _; rw [h2]; rfl
set_option tactic.hygienic true in
theorem for_brk {tgt b d ds ρ₁ ρ₂} (h1 : bindT sc ρ tgt d = some ρ₁) (h2 : exN P n sc ρ₁ b = some (.brk ρ₂)) : forX P n sc tgt b ρ (d :: ds) = some (.next ρ₂) := by
  show o1 _ (bindT sc ρ tgt d) = _; rw [h1]; show o1 _ (exN P n sc ρ₁ b) = _; rw [h2]
end
end Mine

namespace Mine
open PySem PySem.W PySem.Calls PyProof.Rows PySem.SeqAt

/-! what the builtins give -/
section
variable {G : Gd} {l : Nat}
theorem keep_builtin (id : String) : KeepOk G (.builtin id) := ⟨.machine, .inl rfl, fun M => Looks.of_pure rfl⟩
theorem keep_type (id : String) : KeepOk G (.type id) := ⟨.machine, .inl rfl, fun M => Looks.of_pure rfl⟩
theorem repK_nil {φ : Fz} {kvs : List (Str × Value)} (h : RepK φ kvs []) : kvs = [] := by
  refine e0a2 (h) fun h1 _ => ?_
  induction kvs using List.casesOn with
  | nil => rfl
  | cons _ _ => cases h1
theorem call1 {f : Value} {a d : D} (k : KeepOk G f) (h : ∀ v φ s A E, Gnd G φ s → Room A l → Rep φ v a → wpAny (model G.prog G.w) A (call f [v]) (EP φ s d) E s) : CallOk G l f [a] [] d := by
  refine ⟨k, fun vs kvs φ s A E g R r rk => ?_⟩
  have qq := repK_nil rk; subst qq
  cases r with | cons r₁ r =>
  cases r
  exact h _ φ s A E g R r₁
theorem call2 {f : Value} {a b d : D} (k : KeepOk G f) (h : ∀ v w φ s A E, Gnd G φ s → Room A l → Rep φ v a → Rep φ w b → wpAny (model G.prog G.w) A (call f [v, w]) (EP φ s d) E s) : CallOk G l f [a, b] [] d := by
  refine ⟨k, fun vs kvs φ s A E g R r rk => ?_⟩
  have qq := repK_nil rk; subst qq
  cases r with | cons r₁ r =>
  cases r with | cons r₂ r =>
  cases r
  exact h _ _ φ s A E g R r₁ r₂
theorem call3 {f : Value} {a b c d : D} (k : KeepOk G f) (h : ∀ v w x φ s A E, Gnd G φ s → Room A l → Rep φ v a → Rep φ w b → Rep φ x c → wpAny (model G.prog G.w) A (call f [v, w, x]) (EP φ s d) E s) : CallOk G l f [a, b, c] [] d := by
  refine ⟨k, fun vs kvs φ s A E g R r rk => ?_⟩
  have qq := repK_nil rk; subst qq
  cases r with | cons r₁ r =>
  cases r with | cons r₂ r =>
  cases r with | cons r₃ r =>
  cases r
  exact h _ _ _ φ s A E g R r₁ r₂ r₃
theorem b_len_list {ds : List D} (h : ds.length ≤ lim) : CallOk G l (.builtin "len") [.list ds] [] (.int ds.length) := call1 (keep_builtin _) fun v φ s A E g R r => by
  refine e3a3 r.iList fun a vs n er e r0 => ?_
  clear r
  subst er
  revert r0; intro r
  have hl := lsO_isList (g.fin _ _ e)
  unfold lim at h
  refine call_len_list hl (by rw [List.size_toArray, r.length]; lia) ?_
  rw [List.size_toArray, r.length]
  exact EP.tk g.fin (.int _ _)
theorem b_len_str {x : List Nat} (h : x.length ≤ lim) : CallOk G l (.builtin "len") [.str x] [] (.int x.length) := call1 (keep_builtin _) fun v φ s A E g R r => by
  refine e1a1 r.iStr fun t er => ?_
  clear r
  subst er
  unfold lim at h
  refine P.len_str (by rw [str_len]; lia) ?_
  rw [str_len]
  exact EP.tk g.fin (.int _ _)
theorem b_len_tup {ds : List D} (h : ds.length ≤ lim) : CallOk G l (.builtin "len") [.tup ds] [] (.int ds.length) := call1 (keep_builtin _) fun v φ s A E g R r => by
  refine e3a3 r.iTup fun a vs n er e r0 => ?_
  clear r
  subst er
  revert r0; intro r
  have hl : IsTup s.heap a vs.toArray := ⟨_, g.fin _ _ e, rfl, n, rfl⟩
  unfold lim at h
  refine len_tuple hl (by rw [List.size_toArray, r.length]; lia) ?_
  rw [List.size_toArray, r.length]
  exact EP.tk g.fin (.int _ _)
theorem b_len_bytes {x : List UInt8} (h : x.length ≤ lim) : CallOk G l (.builtin "len") [.bytes x] [] (.int x.length) := call1 (keep_builtin _) fun v φ s A E g R r => by
  refine e1a1 r.iBytes fun t er => ?_
  clear r
  subst er
  unfold lim at h
  refine len_bytes (by rw [List.size_toArray]; lia) ?_
  rw [List.size_toArray]
  exact EP.tk g.fin (.int _ _)
theorem ints_are {φ : Fz} {vs : List Value} {ds : List D} {is : List Int} (r : RepL φ vs ds) (h : ints? ds = some is) : IntsAre vs is := by
  induction ds generalizing vs is with
  | nil => rw [r.iNil, some_inv h]; exact .nil
  | cons d ds ih =>
    refine r.sCons fun v ws r1 rs => ?_
    refine e2a3 (listOf_inv h) fun a m h1 h2 rr4 => ?_
    subst rr4
    refine e1a1 ((intD_inv h1 ▸ r1 : Rep φ v (.int a)).iInt) fun t rr1 => ?_
    subst rr1
    exact .cons _ _ (ih rs h2)
noncomputable def maxI : List Int → Int
  | [] => 0
  | [x] => x
  | x :: r => if maxI r > x then maxI r else x
theorem maxI_spec : ∀ {ns : List Int} {M : Int}, M ∈ ns → (∀ a, a ∈ ns → a ≤ M) → M = maxI ns
  | [x], M, h, _ => (by simpa using h : M = x)
  | x :: y :: r, M, h, k => by
    unfold maxI
    have mem : maxI (y :: r) ∈ y :: r ∧ ∀ a, a ∈ y :: r → a ≤ maxI (y :: r) := by
      have : ∀ (l : List Int) (z : Int), maxI (z :: l) ∈ z :: l ∧ ∀ a, a ∈ z :: l → a ≤ maxI (z :: l) := by
        intro l
        induction l with
        | nil => intro z; exact ⟨List.mem_cons_self, fun a ha => by have : a = z := by simpa using ha
                                                                    subst this; exact Int.le_refl _⟩
        | cons w l ih =>
          intro z
          have := ih w
          unfold maxI
          split
          · exact ⟨List.mem_cons_of_mem _ this.1, fun a ha => by
              rcases List.mem_cons.mp ha with q | q
              · subst q; lia
              · exact this.2 a q⟩
          · exact ⟨List.mem_cons_self, fun a ha => by
              rcases List.mem_cons.mp ha with q | q
              · subst q; lia
              · have := this.2 a q; lia⟩
      exact this r y
    split
    · rcases List.mem_cons.mp h with q | q
      · have := k _ (List.mem_cons_of_mem _ mem.1); lia
      · have h1 := mem.2 M q
        have h2 := k _ (List.mem_cons_of_mem _ mem.1)
        lia
    · rcases List.mem_cons.mp h with q | q
      · exact q
      · have h1 := mem.2 M q
        have h2 := k x List.mem_cons_self
        lia
theorem b_maxL {ds : List D} {is : List Int} (h : ints? ds = some is) (hne : 0 < is.length) : CallOk G l (.builtin "max") [.list ds] [] (.int (maxI is)) := call1 (keep_builtin _) fun v φ s A E g R r => by
  refine e3a3 r.iList fun a vs n er e r0 => ?_
  clear r
  subst er
  revert r0; intro r
  have hi := ints_are r h
  refine e1a1 (hi.allInts.items) fun xs e' => ?_
  have hns : is = xs.toList.map (·.1) := by rw [← hi.numsOf, ← nums_intItems, ← e']
  have hsz : 0 < xs.size := by
    have h3 := hne; rw [hns, List.length_map, Array.length_toList] at h3; exact h3
  have hl := lsO_isList (g.fin _ _ e)
  rw [e'] at hl
  refine max_intList R.handled hl hsz fun v h' tk hv hk => ?_
  refine e1a1 (intItems_at hv) fun t rr1 => ?_
  subst rr1
  refine e0a2 (argBest_gt (numAt xs) (xs.size - 1)) fun h1 h2 => ?_
  have : numAt xs (argBest (fun i j => decide (numAt xs i > numAt xs j)) (xs.size - 1)) = maxI is := by
    refine maxI_spec ?_ fun a ha => ?_
    · rw [hns, numAt_eq]; exact getD_mem (by rw [List.length_map, Array.length_toList]; lia)
    · rw [hns] at ha
      refine e1a2 (mem_getD ha) fun j hj rr2 => ?_
      subst rr2
      rw [List.length_map, Array.length_toList] at hj
      rw [← numAt_eq]; exact h2 j (by lia)
  rw [this]
  exact ⟨φ, .heap g.fin hk, .int _ _⟩
theorem b_bytes {ds : List D} {is : List Int} (h : ints? ds = some is) (hr : ∀ n ∈ is, 0 ≤ n ∧ n < 256) (hz : ds.length ≤ lim) : CallOk G l (.type "bytes") [.list ds] [] (.bytes (is.map fun n => n.toNat.toUInt8)) := call1 (keep_type _) fun v φ s A E g R r => by
  refine e3a3 r.iList fun a vs n er e r0 => ?_
  clear r
  subst er
  revert r0; intro r
  unfold lim at hz
  refine call_bytes_ints (lsO_isList (g.fin _ _ e)) (ints_are r h) hr (by rw [r.length, sizeLine_eq]; lia) R.handled fun h' t k ext => ?_
  exact ⟨φ, .heap g.fin ext, .bytes _ t⟩
theorem eqLD_map {α : Type} [DecidableEq α] {f : α → D} {n : Nat} (hf : ∀ a b, eqD n (f a) (f b) = some (decide (a = b))) : ∀ (xs ys : List α), xs.length = ys.length → eqLD (eqD n) (xs.map f) (ys.map f) = some (decide (xs = ys))
  | [], [], _ => rfl
  | x :: xs, y :: ys, h => by
    show o2 _ (eqD n (f x) (f y)) (eqLD (eqD n) (xs.map f) (ys.map f)) = _
    rw [hf, eqLD_map hf xs ys (Nat.succ.inj h)]
    exact congrArg some (by rw [Bool.eq_iff_iff]; simp)
set_option tactic.hygienic true in
theorem eqD_list {α : Type} [DecidableEq α] {f : α → D} {n : Nat} (hf : ∀ a b, eqD n (f a) (f b) = some (decide (a = b))) (xs ys : List α) : eqD (n + 1) (.list (xs.map f)) (.list (ys.map f)) = some (decide (xs = ys)) := by
  show (if (xs.map f).length = (ys.map f).length then eqLD (eqD n) (xs.map f) (ys.map f) else some false) = _
  rw [List.length_map, List.length_map]
  split
  · rename_i h; exact eqLD_map hf xs ys h
  · rename_i h; rw [decide_eq_false fun z => h (by rw [z])]
theorem eqD_int (n : Nat) (a b : Int) : eqD (n + 1) (.int a) (.int b) = some (decide (a = b)) := rfl
theorem b_index {ds : List D} {is : List Int} {k : Int} (h : ints? ds = some is) (hz : ds.length ≤ lim) (hk : k ∈ is) : CallOk G l (.builtin "list.index") [.list ds, .int k] [] (.int (is.idxOf k : Nat)) := call2 (keep_builtin _) fun v w φ s A E g R r r' => by
  refine e3a3 r.iList fun a vs n er e r0 => ?_
  clear r
  subst er
  revert r0; intro r
  refine e1a1 r'.iInt fun t er2 => ?_
  clear r'
  subst er2
  have hi := ints_are r h
  have hj : is.idxOf k < is.length := List.idxOf_lt_length_iff.mpr hk
  have hlen := hi.length
  have ho := g.fin _ _ e
  have hb := r.length
  unfold lim at hz
  refine call_meets PySem.F.slot_list_index (lsO_isList ho).typeIs PySem.F.entry_list_index (PySem.F.args_list_index_2 _ _)
    (list_indexAt a vs.toArray n none #[] (.int k t) (isInt k) (is.idxOf k) (by simpa [hlen] using hj) (by lia) ?_ ?_) ⟨ho, fun y hy => (eq_isInt k t hi y (by simpa using hy)).at _ _, EP.tk g.fin (.int _ _)⟩
  · show isInt k vs[is.idxOf k] = true
    rw [isInt_at k hi _ (by lia) hj]
    simpa using List.getElem_idxOf hj
  · intro j hjs hlt
    show isInt k vs[j] = false
    rw [isInt_at k hi j (by simpa using hjs) (by lia)]
    exact ne_of_lt_idxOf hlt _
/-! index in a list of lists of ints -/
noncomputable def natI (is : List Int) : D := .list (is.map .int)
noncomputable abbrev intss? : List D → Option (List (List Int)) := listOf fun d => o1 ints? (lstD d)
theorem intsOf_inv {ds : List D} {is : List Int} (h : ints? ds = some is) : ds = is.map .int := by
  induction ds generalizing is with
  | nil => rw [some_inv h]; rfl
  | cons d ds ih =>
    refine e2a3 (listOf_inv h) fun a m h1 h2 e => ?_
    rw [e, intD_inv h1, ih h2]; rfl
theorem intss_inv {ds : List D} {xs : List (List Int)} (h : intss? ds = some xs) : ds = xs.map natI := by
  induction ds generalizing xs with
  | nil => rw [some_inv h]; rfl
  | cons d ds ih =>
    refine e2a3 (listOf_inv h) fun a m h1 h2 e => ?_
    refine o1_e h1 fun l hl h1 => ?_
    rw [e, lstD_inv hl, intsOf_inv h1, ih h2]; rfl
theorem b_indexL {xs : List (List Int)} {k : List Int} (hz : xs.length ≤ lim) (hk : k ∈ xs) : CallOk G l (.builtin "list.index") [.list (xs.map natI), natI k] [] (.int (xs.idxOf k : Nat)) := call2 (keep_builtin _) fun v w φ s A E g R r r' => by
  refine e3a3 r.iList fun a vs n er e r0 => ?_
  clear r
  subst er
  have hj : xs.idxOf k < xs.length := List.idxOf_lt_length_iff.mpr hk
  have ho := g.fin _ _ e
  have hb := r0.length
  rw [List.length_map] at hb
  unfold lim at hz
  have eq : ∀ a b : List Int, eqD 4 (natI a) (natI b) = some (decide (a = b)) := fun a b => eqD_list (fun a b => eqD_int 2 a b) a b
  have at' : ∀ (i : Nat) (hi : i < vs.length) (hx : i < xs.length), Rep φ vs[i] (natI xs[i]) := fun i hi hx => by
    refine e1a2 (r0.getV (List.getElem?_eq_getElem (l := vs) hi)) fun d hd rd => ?_
    rw [List.getElem?_map, List.getElem?_eq_getElem hx] at hd
    rw [← Option.some.inj hd] at rd
    exact rd
  classical
  let f : Value → Bool := fun y => decide (Rep φ y (natI k))
  have hf : ∀ (i : Nat) (hi : i < vs.length) (hx : i < xs.length), f vs[i] = decide (xs[i] = k) := fun i hi hx => by
    by_cases q : xs[i] = k
    · rw [decide_eq_true q]
      exact decide_eq_true (q ▸ at' i hi hx)
    · rw [decide_eq_false q]
      exact decide_eq_false fun z => q (of_decide_eq_true (eqD_same (at' i hi hx) z (eq xs[i] k)))
  refine call_meets PySem.F.slot_list_index (lsO_isList ho).typeIs PySem.F.entry_list_index (PySem.F.args_list_index_2 _ _)
    (list_indexAt a vs.toArray n none #[] w f (xs.idxOf k) (by rw [List.size_toArray, hb]; exact hj) (by lia) ?_ ?_) ⟨ho, fun y hy => ?_, EP.tk g.fin (.int _ _)⟩
  · show f vs[xs.idxOf k] = true
    rw [hf _ (by lia) hj]
    exact decide_eq_true (List.getElem_idxOf hj)
  · intro i his hlt
    show f vs[i] = false
    rw [hf i (by simpa using his) (by lia)]
    exact decide_eq_false fun z => by
      have := List.not_of_lt_findIdx (p := (· == k)) (xs := xs) (i := i) hlt
      exact Bool.false_ne_true (this.symm.trans (beq_iff_eq.mpr z))
  · refine e1a1 (List.getElem_of_mem (List.mem_toArray.mp hy)) fun i q => ?_
    refine q.elim fun hi q => ?_
    have hx : i < xs.length := by lia
    rw [← q, hf i hi hx]
    exact eqAt g.fin (at' i hi hx) r' (eq xs[i] k) (by have := R.units; rw [Around.in1_units]; lia)
theorem b_range1 {n : Int} : CallOk G l (.type "range") [.int n] [] (.rng 0 n 1) := call1 (keep_type _) fun v φ s A E g R r => by
  refine e1a1 r.iInt fun t er => ?_
  clear r
  subst er
  refine call_range_1 ?_
  have f := fz_size g.fin
  exact ⟨_, ((Step.push g.fin _ _).freeze (get_size_none _) (Heap.get?_push_size _ rfl) f), .rng (Fz.put_self ..)⟩
theorem b_range2 {a b : Int} : CallOk G l (.type "range") [.int a, .int b] [] (.rng a b 1) := call2 (keep_type _) fun v w φ s A E g R r r' => by
  refine e1a1 r.iInt fun t er => ?_
  clear r
  subst er
  refine e1a1 r'.iInt fun u er2 => ?_
  clear r'
  subst er2
  refine call_range_2 ?_
  have f := fz_size g.fin
  exact ⟨_, ((Step.push g.fin _ _).freeze (get_size_none _) (Heap.get?_push_size _ rfl) f), .rng (Fz.put_self ..)⟩
theorem b_range3 {a b : Int} : CallOk G l (.type "range") [.int a, .int b, .int (-1)] [] (.rng a b (-1)) := call3 (keep_type _) fun v w x φ s A E g R r r' r3 => by
  refine e1a1 r.iInt fun t er => ?_
  clear r
  subst er
  refine e1a1 r'.iInt fun u er2 => ?_
  clear r'
  subst er2
  refine e1a1 r3.iInt fun u3 er3 => ?_
  clear r3
  subst er3
  have f := fz_size g.fin
  refine call_range_3 (by decide) ?_ (Or.inl (PyProof.noPylong_of_log2 (by decide +kernel)))
  exact ⟨_, ((Step.push g.fin _ _).freeze (get_size_none _) (Heap.get?_push_size _ rfl) f), .rng (Fz.put_self ..)⟩
theorem b_max2 {a b : Int} : CallOk G l (.builtin "max") [.int a, .int b] [] (.int (if b > a then b else a)) := call2 (keep_builtin _) fun v w φ s A E g R r r' => by
  refine e1a1 r.iInt fun t er => ?_
  clear r
  subst er
  refine e1a1 r'.iInt fun u er2 => ?_
  clear r'
  subst er2
  refine max_two_ints R.handled fun h' tk ext => ?_
  split
  · exact ⟨φ, .heap g.fin ext, .int _ _⟩
  · exact ⟨φ, .heap g.fin ext, .int _ _⟩
theorem b_chr {i : Int} (h : 0 ≤ i ∧ i < 1000) : CallOk G l (.builtin "chr") [.int i] [] (.str [i.toNat]) := call1 (keep_builtin _) fun v φ s A E g R r => by
  refine e1a1 r.iInt fun t er => ?_
  clear r
  subst er
  refine P.chr_of_int (by rw [decide_eq_false (by lia), decide_eq_false (by lia)]; rfl) (EP.tk g.fin (.str [i.toNat] _))
theorem b_tuple {ds : List D} (h : ds.length ≤ lim) : CallOk G l (.type "tuple") [.list ds] [] (.tup ds) := call1 (keep_type _) fun v φ s A E g R r => by
  refine e3a3 r.iList fun a vs n er e r0 => ?_
  clear r
  subst er
  revert r0; intro r
  unfold lim at h
  refine call_tuple_list (lsO_isList (g.fin _ _ e)) (fun h' ext => ?_) (by rw [List.size_toArray, r.length, sizeLine_eq]; lia)
  have x : Step φ s φ { s with heap := h', toks := s.toks } := .heap g.fin ext
  have f := fz_size x.fin
  exact ⟨_, (x.trans (Step.push x.fin _ s.toks)).freeze (none_of_ext ext (get_size_none _)) (Heap.get?_push_size _ rfl) f, .tup (Fz.put_self ..) (r.mono (Fz.put_up f))⟩
theorem b_type_str {x : List Nat} : CallOk G l (.type "type") [.str x] [] (.val (.type "str")) := call1 (keep_type _) fun v φ s A E g R r => by
  refine e1a1 r.iStr fun t er => ?_
  clear r
  subst er
  exact call_type_of (typeIs_str s _ _) (by decide) (EP.pure g.fin (.val _))
theorem b_type_bytes {x : List UInt8} : CallOk G l (.type "type") [.bytes x] [] (.val (.type "bytes")) := call1 (keep_type _) fun v φ s A E g R r => by
  refine e1a1 r.iBytes fun t er => ?_
  clear r
  subst er
  exact call_type_of (typeIs_bytes s _ _) (by decide) (EP.pure g.fin (.val _))
theorem b_type_bool {x : Bool} : CallOk G l (.type "type") [.bool x] [] (.val (.type "bool")) := call1 (keep_type _) fun v φ s A E g R r => by
  have er := r.iBool
  subst er
  exact call_type_of (by exact (rfl : _)) (by decide) (EP.pure g.fin (.val _))
theorem b_isi_str {x : List Nat} : CallOk G l (.builtin "isinstance") [.str x, .val (.type "str")] [] (.bool true) := call2 (keep_builtin _) fun v w φ s A E g R r r' => by
  refine e1a1 r.iStr fun t er => ?_
  clear r
  subst er
  have er2 := r'.iVal
  subst er2
  exact IsiPair.str_str (EP.pure g.fin (.bool _))
end
end Mine

namespace Mine
open PySem PySem.W PySem.Calls PyProof.Rows PySem.SeqAt

section
variable {G : Gd} {l : Nat}
noncomputable abbrev strs? : List D → Option (List (List Nat)) := listOf strD
theorem strs_are {φ : Fz} {vs : List Value} {ds : List D} {xs : List (List Nat)} (r : RepL φ vs ds) (h : strs? ds = some xs) : StrsAre vs (xs.map fun x => ⟨x.toArray⟩) := by
  induction ds generalizing vs xs with
  | nil => rw [r.iNil, ← some_inv h.symm]; exact .nil
  | cons d ds ih =>
    refine r.sCons fun v ws r1 rs => ?_
    refine e2a3 (listOf_inv h) fun a m h1 h2 e => ?_
    rw [e]
    rw [strD_inv h1] at r1
    exact r1.sStr (P := fun v => StrsAre (v :: ws) _) fun t => .cons _ _ (ih rs h2)
theorem join_nil : ∀ (xs : List (List Nat)), Txt.join (⟨#[]⟩ : Str) (xs.map fun x => ⟨x.toArray⟩) = ⟨xs.flatten.toArray⟩ := by
  have fold : ∀ (rest : List (List Nat)) (acc : Array Nat), (rest.map fun x => (⟨x.toArray⟩ : Str)).foldl (fun acc p => acc ++ (⟨#[]⟩ : Str).cps ++ p.cps) acc = acc ++ rest.flatten.toArray := by
    intro rest
    induction rest with
    | nil => intro acc; simp
    | cons x r ih => intro acc; rw [List.map_cons, List.foldl_cons, ih]; simp
  intro xs
  induction xs using List.casesOn with
  | nil => rfl
  | cons x r =>
    show (⟨(r.map fun x => (⟨x.toArray⟩ : Str)).foldl (fun acc p => acc ++ (⟨#[]⟩ : Str).cps ++ p.cps) x.toArray⟩ : Str) = _
    rw [fold]; simp
theorem b_join {ds : List D} {xs : List (List Nat)} (h : strs? ds = some xs) (hz : xs.flatten.length ≤ lim) : CallOk G l (.builtin "str.join") [.str [], .list ds] [] (.str xs.flatten) := call2 (keep_builtin _) fun v w φ s A E g R r r' => by
  refine e1a1 r.iStr fun t er => ?_
  clear r
  subst er
  refine e3a3 r'.iList fun a vs n er e r0 => ?_
  clear r'
  subst er
  revert r0; intro r
  have hs := strs_are r h
  refine join_list (lsO_isList (g.fin _ _ e)) (by simpa using hs) ?_ fun t' k => ?_
  · unfold lim at hz
    have : ((xs.map fun x => (⟨x.toArray⟩ : Str)).map (·.length)).sum = xs.flatten.length := by
      rw [List.map_map, List.length_flatten]
      rfl
    rw [this]
    have e0 : (⟨([] : List Nat).toArray⟩ : Str).length = 0 := rfl
    rw [e0, Nat.mul_zero]
    exact Nat.le_trans hz (by decide)
  · have : Txt.join (⟨([] : List Nat).toArray⟩ : Str) (xs.map fun x => ⟨x.toArray⟩) = ⟨xs.flatten.toArray⟩ := join_nil xs
    rw [this]
    exact EP.tk g.fin (.str _ _)
/-! split at a tab -/
noncomputable def splitAt (c : Nat) : List Nat → List (List Nat)
  | [] => [[]]
  | x :: r => if x = c then [] :: splitAt c r else match splitAt c r with
    | p :: ps => (x :: p) :: ps
    | [] => [[x]]
theorem splitAt_ne (c : Nat) : ∀ x, splitAt c x ≠ []
  | [] => by simp [splitAt]
  | x :: r => by
    unfold splitAt
    split
    · simp
    · split <;> simp
theorem splitAt_part {c : Nat} : ∀ {p : List Nat}, c ∉ p → ∀ r, splitAt c (p ++ c :: r) = p :: splitAt c r
  | [], _, r => by simp [splitAt]
  | y :: p, h, r => by
    have hy : y ≠ c := fun z => h (z ▸ List.mem_cons_self)
    rw [List.cons_append, splitAt, if_neg hy, splitAt_part (fun z => h (List.mem_cons_of_mem _ z)) r]
theorem splitAt_last {c : Nat} : ∀ {p : List Nat}, c ∉ p → splitAt c p = [p]
  | [], _ => rfl
  | y :: p, h => by
    have hy : y ≠ c := fun z => h (z ▸ List.mem_cons_self)
    rw [splitAt, if_neg hy, splitAt_last (fun z => h (List.mem_cons_of_mem _ z))]
noncomputable def joinAt (c : Nat) : List (List Nat) → List Nat
  | [] => []
  | [p] => p
  | p :: q :: r => p ++ c :: joinAt c (q :: r)
theorem split_join {c : Nat} : ∀ {ps : List (List Nat)}, ps ≠ [] → (∀ p ∈ ps, c ∉ p) → splitAt c (joinAt c ps) = ps
  | [p], _, h => splitAt_last (h p List.mem_cons_self)
  | p :: q :: r, _, h => by
    rw [joinAt, splitAt_part (h p List.mem_cons_self), split_join (List.cons_ne_nil _ _) fun x hx => h x (List.mem_cons_of_mem _ hx)]
theorem join_list_at (c : Nat) : ∀ (ps : List Str), (Str.join ⟨#[c]⟩ ps).cps.toList = joinAt c (ps.map fun p => p.cps.toList)
  | [] => rfl
  | [p] => rfl
  | p :: q :: r => by
    have ih := join_list_at c (q :: r)
    show ((p ++ (⟨#[c]⟩ : Str)) ++ Str.join ⟨#[c]⟩ (q :: r)).cps.toList = _
    show ((p.cps ++ #[c]) ++ (Str.join ⟨#[c]⟩ (q :: r)).cps).toList = _
    rw [Array.toList_append, Array.toList_append, ih]
    simp [joinAt]
theorem split_is (x : List Nat) (c : Nat) : (Txt.split ⟨x.toArray⟩ ⟨#[c]⟩).map (fun p => p.cps.toList) = splitAt c x := by
  have h1 := StrLaws.join_split ⟨x.toArray⟩ ⟨#[c]⟩
  have h2 := StrLaws.split_free ⟨x.toArray⟩ c
  have h3 := split_pos ⟨x.toArray⟩ ⟨#[c]⟩
  have h4 := join_list_at c (Txt.split ⟨x.toArray⟩ ⟨#[c]⟩)
  rw [h1] at h4
  have h5 : x = joinAt c ((Txt.split ⟨x.toArray⟩ ⟨#[c]⟩).map fun p => p.cps.toList) := by simpa using h4
  conv => rhs; rw [h5]
  refine (split_join ?_ ?_).symm
  · intro z
    have : (Txt.split ⟨x.toArray⟩ ⟨#[c]⟩) = [] := List.map_eq_nil_iff.mp z
    rw [this] at h3; simp at h3
  · intro p hp
    refine e1a2 (List.mem_map.mp hp) fun q hq rr2 => ?_
    subst rr2
    exact h2 q hq
theorem repL_strs {φ : Fz} : ∀ (l : List (Str × Tok)), RepL φ (strValues l) (l.map fun p => .str p.1.cps.toList)
  | [] => .nil
  | (x, t) :: r => by
    have : Rep φ (.str x t) (.str x.cps.toList) := by
      have := Rep.str (φ := φ) x.cps.toList t
      rwa [Array.toArray_toList] at this
    exact .cons this (repL_strs r)
theorem b_split {x : List Nat} {c : Nat} (hz : x.length ≤ 100000) : CallOk G l (.builtin "str.split") [.str x, .str [c]] [] (.list ((splitAt c x).map .str)) := call2 (keep_builtin _) fun v w φ s A E g R r r' => by
  refine e1a1 r.iStr fun t er => ?_
  clear r
  subst er
  refine e1a1 r'.iStr fun u er2 => ?_
  clear r'
  subst er2
  have fin : ∀ (ls : List (Str × Tok)) (k : Nat), ls.map (·.1) = Txt.split ⟨x.toArray⟩ ⟨#[c]⟩ → EP φ s (.list ((splitAt c x).map .str)) (.ref s.heap.objs.size) { s with heap := s.heap.push (lsO (strValues ls) 0), toks := k } := by
    intro ls k hl
    have f := fz_size g.fin
    have e : (splitAt c x).map D.str = ls.map fun p => .str p.1.cps.toList := by
      rw [← split_is, ← hl, List.map_map, List.map_map]; rfl
    rw [e]
    exact ⟨_, (Step.push g.fin _ k).freeze (get_size_none _) (Heap.get?_push_size _ rfl) f, .list (Fz.put_self ..) (repL_strs ls)⟩
  have hxl : (⟨x.toArray⟩ : Str).length = x.length := str_len x
  have hy : ((⟨#[c]⟩ : Str).length == 0) = false := rfl
  have hsz : (⟨x.toArray⟩ : Str).length ≤ sizeLine := by rw [hxl, sizeLine_eq]; lia
  show wpAny _ A (call (.builtin "str.split") [.str ⟨x.toArray⟩ t, .str ⟨#[c]⟩ u]) _ _ _
  generalize h1 : (decide ((⟨x.toArray⟩ : Str).length < (⟨#[c]⟩ : Str).length) || decide (Builtin.Str.strKind ⟨x.toArray⟩ < Builtin.Str.strKind ⟨#[c]⟩)) = r_; induction r_ using Bool.casesOn
  · generalize hf : (Builtin.Str.occurrences ⟨x.toArray⟩ ⟨#[c]⟩ 0 (⟨x.toArray⟩ : Str).length ((⟨x.toArray⟩ : Str).length + 1)).isEmpty = r_; induction r_ using Bool.casesOn
    · have hsp : Txt.split ⟨x.toArray⟩ ⟨#[c]⟩ = _ := (if_neg (ne_true_of_eq_false h1)).trans (if_neg (ne_true_of_eq_false hf))
      have hle := split_le ⟨x.toArray⟩ ⟨#[c]⟩
      rw [hsp] at hle
      refine call_meets F.slot_str_split (typeIs_str _ _ _) F.entry_str_split (F.args_str_split_2 _ _) (meets_str_split_sep _ _ t u h1 hy hf hsz (by rw [sizeLine_eq]; lia)) ?_
      have := fin (numbered s.toks _) (s.toks + (Builtin.Str.partsBetween ⟨x.toArray⟩ (Builtin.Str.occurrences ⟨x.toArray⟩ ⟨#[c]⟩ 0 (⟨x.toArray⟩ : Str).length ((⟨x.toArray⟩ : Str).length + 1)) (⟨#[c]⟩ : Str).length).length) ((numbered_texts _ _).trans hsp.symm)
      rw [← strsFrom_eq] at this
      exact this
    · have hsp : Txt.split ⟨x.toArray⟩ ⟨#[c]⟩ = _ := (if_neg (ne_true_of_eq_false h1)).trans (if_pos hf)
      exact call_meets F.slot_str_split (typeIs_str _ _ _) F.entry_str_split (F.args_str_split_2 _ _) (meets_str_split_not_found _ _ t u h1 hy hf) (fin [(_, t)] s.toks hsp.symm)
  · have hsp : Txt.split ⟨x.toArray⟩ ⟨#[c]⟩ = _ := if_pos h1
    exact call_meets F.slot_str_split (typeIs_str _ _ _) F.entry_str_split (F.args_str_split_2 _ _) (meets_str_split_cannot_occur _ _ t u h1) (fin [(_, t)] s.toks hsp.symm)
end
end Mine

namespace Mine
open PySem PySem.W PySem.Calls PyProof.Rows PySem.SeqAt
open Builtin._codecs in
theorem encodeRoad_ascii (id : String) (self : Value) (x : Str) (errors : Option Str) : encodeRoad id self x (Str.ofString "ascii") errors = (do mkBytes (← encodeNarrow id asciiCodec errors self x)) := by
  first | rfl | (unfold encodeRoad; rfl) | (unfold encodeRoad; simp only []; rfl) | decide
open Builtin._codecs in
theorem encode_tree2 (x : Str) (t u : Tok) : Builtin.«str.encode» ⟨[.str x t, .str (Str.ofString "ascii") u], []⟩ = (do ret (← encodeRoad "str.encode" (.str x t) x (Str.ofString "ascii") none)) := by kernel_rfl
open Builtin._codecs in
theorem enc {M : Model} {A : Around} {E : Value → Shared → Prop} {s : Shared} {id : String} {v : Value} {x : Str} {Q : Array UInt8 → Shared → Prop} (h : ∀ c ∈ x.cps, c < 128) (hz : x.length ≤ 1000000) (q : Q (x.cps.map (·.toUInt8)) s) : wpAny M A (encodeNarrow id asciiCodec none v x) Q E s := by
  unfold encodeNarrow
  dsimp only
  rw [Std.Legacy.Range.forIn_eq_forIn_range']
  have nb : ∀ c ∈ x.cps, asciiCodec.bad c = false := fun c hc => by show decide (c ≥ 128) = false; have := h c hc; exact decide_eq_false (by lia)
  have none_bad : ∀ (r : Array Nat), (∀ c ∈ r, asciiCodec.bad c = false) → r.findIdx? asciiCodec.bad = none := fun r hr => by
    rw [Array.findIdx?_eq_none_iff]; exact fun c hc => by simpa using hr c hc
  have hf : ∀ (r : List Nat) (acc : Array UInt8), r.toArray.foldl (fun acc y => acc ++ (asciiCodec.bytesOf y).toArray) acc = acc ++ (r.map (·.toUInt8)).toArray := by
    intro r
    induction r with
    | nil => intro acc; simp
    | cons y r ih => intro acc; simp only [List.foldl_toArray', List.foldl_cons] at ih ⊢; rw [ih]; simp [asciiCodec]
  refine wpAny_bind (wpAny_mono (wpAny_forIn_list _ (fun rest (b : Nat × Array UInt8 × Faults) s' => s' = s ∧ ((b = (0, #[], {}) ∧ rest.length = x.cps.size) ∨ (b.1 = x.cps.size ∧ b.2.1 = x.cps.map (·.toUInt8)))) (fun b s' => s' = s ∧ b.2.1 = x.cps.map (·.toUInt8)) ?_ ?_ _ _ ?_) (fun b s' hb => ?_) fun _ _ e => e)
  · rintro c rest b s' ⟨rfl, hb⟩
    rcases hb with ⟨rfl, hl⟩ | ⟨hb1, hb2⟩
    · rw [if_neg (by simp)]
      have hpos : 0 < x.cps.size := by rw [← hl]; simp
      have h0 : x.cps[0]? = some x.cps[0] := Array.getElem?_eq_getElem hpos
      dsimp only
      rw [h0]
      dsimp only
      rw [nb _ (Array.getElem_mem hpos), if_pos (show (!false) = true from rfl)]
      have ex : x.cps.extract 0 = x.cps := by simp
      rw [ex, none_bad _ nb]
      refine wpAny_pure ⟨rfl, .inr ⟨by simp, ?_⟩⟩
      dsimp only [Option.getD_none]
      have := hf x.cps.toList #[]
      have e2 : (x.cps.toList.map (·.toUInt8)).toArray = x.cps.map (·.toUInt8) := by rw [← Array.toList_map, Array.toArray_toList]
      rw [Array.toArray_toList, e2] at this
      simp only [Array.extract_size, this]
      simp
    · have hz' : b.2.1.size ≤ 1000000 := by rw [hb2, Array.size_map]; exact hz
      rw [if_neg (by rw [sizeLine_eq]; lia)]
      have h0 : x.cps[b.1]? = none := by rw [hb1]; simp
      rw [h0]
      exact wpAny_pure ⟨rfl, hb2⟩
  · rintro b s' ⟨rfl, hb⟩
    rcases hb with ⟨rfl, hl⟩ | ⟨hb1, hb2⟩
    · have : x.cps = #[] := Array.eq_empty_of_size_eq_zero hl.symm
      refine ⟨rfl, ?_⟩
      rw [this]; simp
    · exact ⟨rfl, hb2⟩
  · refine ⟨rfl, .inl ⟨rfl, ?_⟩⟩
    rw [List.length_range']
    show [:x.length].size = x.length
    simp [Std.Legacy.Range.size]
  · obtain ⟨rfl, hb⟩ := hb
    rw [← hb] at q
    exact wpAny_pure q

section
variable {G : Gd} {l : Nat}
noncomputable def wAscii : List Nat := [97, 115, 99, 105, 105]
theorem wAscii_eq : (⟨wAscii.toArray⟩ : Str) = Str.ofString "ascii" := by decide +kernel
theorem b_encode {x : List Nat} (h : ∀ c ∈ x, c < 128) (hz : x.length ≤ lim) : CallOk G l (.builtin "str.encode") [.str x, .str wAscii] [] (.bytes (x.map (·.toUInt8))) := call2 (keep_builtin _) fun v w φ s A E g R r r' => by
  refine e1a1 r.iStr fun t er => ?_
  clear r
  subst er
  refine e1a1 r'.iStr fun u er2 => ?_
  clear r'
  subst er2
  rw [wAscii_eq]
  refine wpAny_call_entry F.slot_str_encode (typeIs_str _ _ _) F.entry_str_encode ?_ (F.args_str_encode_2 _ _)
  rw [encode_tree2, encodeRoad_ascii]
  unfold lim at hz
  refine wpAny_bind (wpAny_bind (enc (by simpa using h) (by rw [str_len]; exact hz) ?_))
  have e : ((⟨x.toArray⟩ : Str).cps.map (·.toUInt8)) = (x.map (·.toUInt8)).toArray := by simp
  rw [e]
  refine wpAny_mkBytes (wpAny_pure ⟨_, rfl, EP.tk g.fin (.bytes _ _)⟩) (by rw [List.size_toArray, List.length_map, sizeLine_eq]; lia)

theorem slot_bytes_translate : PySem.Slot "bytes" "translate" "bytes.translate" :=
  .of (owner := "bytes") (n := "translate") (by rw [typeLookup_type, builtinLookup_eq_fast]; kernel_rfl) (by decide +kernel) (by decide +kernel) (by decide +kernel)
    (by first | exact .inl (by decide +kernel) | exact .inr (by decide +kernel)) (by rw [isSubtype_type]; kernel_rfl)
theorem type_bytes_translate : typeOf (.builtin "bytes.translate") = pure (.type "method_descriptor") := by show builtinType _ = _; rw [builtinType_eq_fast]; kernel_rfl
theorem entry_bytes_translate : entryFor table "bytes.translate" = some Builtin.«bytes.translate» := entryFor_of_tree (by kernel_rfl)
theorem args_bytes_translate_2 (a b : Value) : argsOk "bytes.translate" ⟨[a, b], []⟩ := by
  unfold argsOk; rw [signature?_of (id := "bytes.translate") (n := "translate".toList.reverse) (o := "bytes".toList.reverse) (by kernel_rfl) FB.owner_bytes]; kernel_rfl
theorem entry_bytes_maketrans : entryFor table "bytes.maketrans" = some Builtin.«bytes.maketrans» := entryFor_of_tree (by kernel_rfl)
theorem plain_bytes_maketrans : plainId "bytes.maketrans" = true := by decide +kernel
theorem check_bytes_maketrans (a b : Value) : checkBuiltinCall "bytes.maketrans" ⟨[a, b], []⟩ = pure () := by kernel_rfl
theorem like_eq {id : String} {b : Array UInt8} {t : Tok} : Builtin.Bytes.bytesLike id (.bytes b t) = pure b := by
  unfold Builtin.Bytes.bytesLike
  rw [KBy.buffer_eq, pure_bind]
noncomputable def tabA (a b : List UInt8) : Array UInt8 := (a.zip b).foldl (fun t p => t.setIfInBounds p.1.toNat p.2) ((Array.range 256).map (·.toUInt8))
noncomputable def mkTab (a b : List UInt8) : List UInt8 := (tabA a b).toList
theorem tabA_size (a b : List UInt8) : (tabA a b).size = 256 := by
  have : ∀ (l : List (UInt8 × UInt8)) (t : Array UInt8), t.size = 256 → (l.foldl (fun t p => t.setIfInBounds p.1.toNat p.2) t).size = 256 := by
    intro l
    induction l with
    | nil => intro t h; exact h
    | cons p l ih => intro t h; exact ih _ (by rw [Array.size_setIfInBounds]; exact h)
  exact this _ _ (by simp)
theorem b_maketrans {a b : List UInt8} (h : a.length = b.length) : CallOk G l (.builtin "bytes.maketrans") [.bytes a, .bytes b] [] (.bytes (mkTab a b)) := call2 (keep_builtin _) fun v w φ s A E g R r r' => by
  refine e1a1 r.iBytes fun t er => ?_
  clear r
  subst er
  refine e1a1 r'.iBytes fun u er2 => ?_
  clear r'
  subst er2
  refine wpAny_call (codeAny_call_builtin plain_bytes_maketrans entry_bytes_maketrans ?_)
  rw [check_bytes_maketrans]
  refine wpAny_pure ?_
  unfold Builtin.«bytes.maketrans» Builtin.Bytes.maketransM
  dsimp only [List.headD, List.getD]
  refine wpAny_bind (wpAny_of_eq (a := ()) rfl (wpAny_bind (wpAny_of_eq (a := ()) rfl (wpAny_bind (wpAny_of_eq like_eq (wpAny_bind (wpAny_of_eq like_eq ?_)))))))
  rw [if_neg (by simp [h])]
  refine wpAny_bind (wpAny_mkBytes (wpAny_pure ?_) (by show (tabA a b).size ≤ _; rw [tabA_size]; decide))
  have := Rep.bytes (φ := φ) (mkTab a b) s.toks
  unfold mkTab at this
  rw [Array.toArray_toList] at this
  exact EP.tk g.fin this
noncomputable def trans (x tab : List UInt8) : List UInt8 := x.map fun c => tab.getD c.toNat c
set_option tactic.hygienic true in
theorem b_translate {x tab : List UInt8} (h : tab.length = 256) (hz : x.length ≤ lim) : CallOk G l (.builtin "bytes.translate") [.bytes x, .bytes tab] [] (.bytes (trans x tab)) := call2 (keep_builtin _) fun v w φ s A E g R r r' => by
  refine e1a1 r.iBytes fun t er => ?_
  clear r
  subst er
  refine e1a1 r'.iBytes fun u er2 => ?_
  clear r'
  subst er2
  refine wpAny_call_entry slot_bytes_translate (typeIs_bytes _ _ _) entry_bytes_translate ?_ (args_bytes_translate_2 _ _)
  unfold Builtin.«bytes.translate» Builtin.Bytes.translateM
  dsimp only
  rw [if_neg (by simp), if_neg (by simp), if_neg (by simp)]
  refine wpAny_bind (wpAny_of_eq like_eq ?_)
  rw [if_neg (by simp [h])]
  refine wpAny_bind (wpAny_pure ?_)
  dsimp only [List.head?, Option.map_none, Option.orElse]
  refine wpAny_bind (wpAny_pure (wpAny_bind (wpAny_of_eq (a := x.toArray) rfl ?_)))
  have e : (x.toArray.filter (fun c => !(#[] : Array UInt8).contains c)).map (fun c => tab.toArray.getD c.toNat c) = (trans x tab).toArray := by
    unfold trans
    have : List.filter (fun (c : UInt8) => true) x = x := List.filter_eq_self.mpr fun _ _ => rfl
    simp [this]
  rw [show (fun c => match (some tab.toArray : Option (Array UInt8)) with | some t => t.getD c.toNat c | none => c) = fun c : UInt8 => tab.toArray.getD c.toNat c from rfl, e]
  have hl : (trans x tab).length = x.length := by unfold trans; simp
  unfold lim at hz
  split
  · rename_i hq
    refine wpAny_bind (wpAny_rule (wpAny_bind (wpAny_of_eq (a := .bytes x.toArray t) rfl (wpAny_pure ⟨_, rfl, ?_⟩))))
    have : trans x tab = x := by
      have := beq_iff_eq.mp hq
      simpa using this
    rw [this]
    exact EP.pure g.fin (.bytes _ _)
  · refine wpAny_bind (wpAny_mkBytes (wpAny_pure ⟨_, rfl, EP.tk g.fin (.bytes _ _)⟩) (by rw [List.size_toArray, hl, sizeLine_eq]; lia))
end
end Mine

namespace Mine
open PySem PySem.W PySem.Calls PyProof.Rows PySem.SeqAt

/-! the ground that a law's run stands on -/
structure Bs (G : Gd) (K : Frag) (mg mb : Str → Option Value) : Prop where
  X : K.In G.h
  g : G.h.Ns mainGlobals mg
  b : G.h.Ns builtinsNs mb
  lim : G.h.NoLimit
  boot : ∀ x : Str, x ≠ "__name__" → mb x = bootBuiltins x
section
variable {G : Gd} {K : Frag} {mg mb : Str → Option Value} {φ : Fz} {s : Shared} {A : Around} {E : Value → Shared → Prop} {l : Nat}
theorem Bs.In (B : Bs G K mg mb) (g : Gnd G φ s) : K.In s.heap := B.X.keeps g.keep
noncomputable def GlOk (G : Gd) (x : Str) (d : D) : Prop := ∀ (env : Env) φ s A E, env.scope.kind = .function → env.globals = mainGlobals → env.builtins = builtinsNs → env.kindOf x = some .globalImplicit → Gnd G φ s → wpAny (model G.prog G.w) A (loadName env x) (EP φ s d) E s
theorem load_global {M : Model} {env : Env} {x : Str} {Q : Value → Shared → Prop} (hk : env.scope.kind = .function) (hx : env.kindOf x = some .globalImplicit) (h : wpAny M A (loadGlobal env x) Q E s) : wpAny M A (loadName env x) Q E s := by
  unfold loadName
  simp only [Env.blockKind, hk, hx, ScopeKind.isAnnotationScope, Bool.false_and, Bool.false_eq_true, if_false]
  exact h
theorem gl_K (B : Bs G K mg mb) {x : Str} {v : Value} {d : D} (e : nsIn K mainGlobals x = some (some v)) (r : ∀ φ, (∀ b o, G.h.get? b = some o → φ b = some o) → Rep φ v d) : GlOk G x d := fun env φ s A E hk hg hb hx g => by
  refine load_global hk hx (loadGlobal_global (mg := mg) (by rw [hg]; exact B.g.keeps g.keep) (mg_of B.X B.g e) (EP.pure g.fin (r φ g.gnd)))
theorem gl_B (B : Bs G K mg mb) {x : Str} {v : Value} (e : nsIn K mainGlobals x = some none) (hv : bootBuiltins x = some v) (hn : x ≠ "__name__") : GlOk G x (.val v) := fun env φ s A E hk hg hb hx g => by
  refine load_global hk hx (loadGlobal_builtin (mg := mg) (mb := mb) (by rw [hg]; exact B.g.keeps g.keep) (mg_none_of B.X B.g e) (by rw [hb]; exact B.b.keeps g.keep) ((B.boot x hn).trans hv) (EP.pure g.fin (.val _)))
/-! attributes -/
noncomputable def AttOk (G : Gd) (l : Nat) (d : D) (x : Str) (e : D) : Prop := ∀ v φ s A E, Gnd G φ s → Room A l → Rep φ v d → wpAny (model G.prog G.w) A (getAttr v x true) (EP φ s e) E s
noncomputable def MtOk (G : Gd) (l : Nat) (d : D) (x : Str) (f : Value) (fs : List D) : Prop := ∀ v φ s A E pl, Gnd G φ s → Room A l → Rep φ v d → wpAny (model G.prog G.w) A (getMethod v x pl) (fun r s' => r.1 = f ∧ ∃ φ', Step φ s φ' s' ∧ RepL φ' r.2 fs) E s
theorem rep_handed {v : Value} {d : D} (r : Rep φ v d) (h : ∀ w, d ≠ .val w) : handedIn v = true := by
  cases r <;> first | rfl | exact (h _ rfl).elim
theorem getL_rep {name : Str} : ∀ {es : List DictEntry} {fs : List (Str × D)}, RepF φ es fs → (∃ v d, getL name es = some (some v) ∧ fs.lookup name = some d ∧ Rep φ v d) ∨ (getL name es = some none ∧ fs.lookup name = none)
  | _, _, .nil => .inr ⟨rfl, rfl⟩
  | _, _, .cons (x := y) (t := t) (v := v) (es := es) (d := d) (fs := fs) r rs => by
    have ih := getL_rep (name := name) rs
    have e1 : (Value.str y t).isStr name = (y == name) := rfl
    by_cases k : y = name
    · subst k
      refine .inl ⟨v, d, ?_, by rw [List.lookup_cons]; simp, r⟩
      unfold getL
      rw [List.find?_cons, e1]
      simp
    · have kb : (y == name) = false := beq_eq_false_iff_ne.mpr k
      have kb' : (name == y) = false := beq_eq_false_iff_ne.mpr fun z => k z.symm
      have e2 : ∀ hh, getL name (⟨hh, .str y t, v⟩ :: es) = getL name es := fun hh => by
        unfold getL
        rw [List.find?_cons, List.any_cons]
        dsimp only
        rw [e1, kb]
        rfl
      rw [List.lookup_cons, kb', e2]
      exact ih
theorem inst_at {x dx C : Addr} {es : List DictEntry} {n : Nat} (e1 : s.heap.get? x = some (instObj C dx)) (e2 : s.heap.get? dx = some (dictOf es n)) : InstAt s.heap x (instObj C dx) C (some (dictOf es n)) := ⟨e1, rfl, rfl, e2⟩

noncomputable def attrIn (K : Frag) (C : Addr) (name : Str) : Bool := plainGet K C name && hasDictIn K C && (match findIn K (.ref C) name with | some attr => noGet K attr | none => false)
set_option tactic.hygienic true in
theorem att_own (B : Bs G K mg mb) {C : Addr} {name : Str} {fs : List (Str × D)} {d : D} (h : attrIn K C name = true) (hl : fs.lookup name = some d) (hd : ∀ w, d ≠ .val w) : AttOk G l (.inst C fs) name d := fun v φ s A E g R r => by
  cases r with | inst e1 e2 rf =>
  unfold attrIn at h
  refine e0a2 (Bool.and_eq_true_iff.mp h) fun h h3 => ?_
  refine e0a2 (Bool.and_eq_true_iff.mp h) fun h1 h2 => ?_
  split at h3
  · rename_i attr ha
    rcases getL_rep (name := name) rf with ⟨v, d', q1, q2, q3⟩ | ⟨q1, q2⟩
    · rw [hl] at q2; have qq := Option.some.inj (q2); subst qq
      exact get_value (B.In g) (inst_at (g.fin _ _ e1) (g.fin _ _ e2)) (plainGet_of h1).1 (findObj_own h2 ha h3 q1) (rep_handed q3 hd) (EP.tk g.fin q3)
    · rw [hl] at q2; exact no_some q2
  · exact no_ft h3
noncomputable def methIn (K : Frag) (C : Addr) (name : Str) (f : Addr) : Bool := plainGet K C name && (findIn K (.ref C) name == some (some (.ref f))) && isFn K (.ref f)
theorem mt_inst (B : Bs G K mg mb) {C : Addr} {name : Str} {f : Addr} {fs : List (Str × D)} (h : methIn K C name f = true) (hl : fs.lookup name = none) : MtOk G l (.inst C fs) name (.ref f) [.inst C fs] := fun v φ s A E pl g R r => by
  unfold methIn at h
  refine e0a2 (Bool.and_eq_true_iff.mp h) fun h h3 => ?_
  refine e0a2 (Bool.and_eq_true_iff.mp h) fun h1 h2 => ?_
  have r0 := r
  cases r with | inst e1 e2 rf =>
  rcases getL_rep (name := name) rf with ⟨v, d', q1, q2, q3⟩ | ⟨q1, q2⟩
  · rw [hl] at q2; exact no_none q2
  · refine method_fn (B.In g) (inst_at (g.fin _ _ e1) (g.fin _ _ e2)) (plainGet_of h1).1 (plainGet_of h1).2 (beq_iff_eq.mp h2) (beq_iff_eq.mp h3) ?_ ⟨rfl, φ, .refl g.fin, .cons r0 .nil⟩
    show (lookIn name (dictOf _ _)).map _ = _
    rw [lookIn_dict, q1]; rfl
theorem att_cls (B : Bs G K mg mb) {C : Addr} {name : Str} {a : Value} {d : D} (hr : readsIn K C (.type "type") = true) (e : findCls K (.ref C) (.type "type") name = some (.val a)) (hh : handedIn a = true) (hd : ∀ φ, Rep φ a d) : AttOk G l (.val (.ref C)) name d := fun v φ s A E g R r => by
  have er := r.iVal
  clear r
  subst er
  exact cls_value (B.In g) hr e hh (EP.tk g.fin (hd φ))
/-! methods of the builtin types -/
theorem mt_str {name : Str} {id : String} {x : List Nat} (slot : PySem.Slot "str" name id) (ty : typeOf (.builtin id) = pure (.type "method_descriptor")) : MtOk G l (.str x) name (.builtin id) [.str x] := fun v φ s A E pl g R r => by
  have r0 := r
  refine e1a1 r.iStr fun t er => ?_
  clear r
  subst er
  exact getMethod_builtin (typeIs_str _ _ _) F.plainAttrs_str slot ty (fun a e => (nomatch e)) ⟨rfl, φ, .refl g.fin, .cons r0 .nil⟩
theorem mt_bytes {name : Str} {id : String} {x : List UInt8} (slot : PySem.Slot "bytes" name id) (ty : typeOf (.builtin id) = pure (.type "method_descriptor")) : MtOk G l (.bytes x) name (.builtin id) [.bytes x] := fun v φ s A E pl g R r => by
  have r0 := r
  refine e1a1 r.iBytes fun t er => ?_
  clear r
  subst er
  exact getMethod_builtin (typeIs_bytes _ _ _) FB.plainAttrs_bytes slot ty (fun a e => (nomatch e)) ⟨rfl, φ, .refl g.fin, .cons r0 .nil⟩
theorem mt_list {name : Str} {id : String} {x : List D} (slot : PySem.Slot "list" name id) (ty : typeOf (.builtin id) = pure (.type "method_descriptor")) : MtOk G l (.list x) name (.builtin id) [.list x] := fun v φ s A E pl g R r => by
  have r0 := r
  refine e3a3 r.iList fun a vs n er e r1 => ?_
  clear r r1
  subst er
  exact getMethod_builtin (lsO_isList (g.fin _ _ e)).typeIs F.plainAttrs_list slot ty (fun a h => by cases h; exact ⟨_, g.fin _ _ e, rfl⟩) ⟨rfl, φ, .refl g.fin, .cons r0 .nil⟩
theorem fr_any (B : Bs G K mg mb) (g : Gnd G φ s) : Fr { objs := #[] } mainGlobals s.heap mg := ⟨B.g.keeps g.keep, fun b o e => by simp [Heap.get?] at e, Nat.zero_le _⟩
theorem mk1 : typeOf (.type "bytes") = pure (.type "type") := by first | rfl | kernel_rfl
theorem mk2 : Manifest.isStub "bytes" = false := by decide +kernel
set_option maxHeartbeats 1000000 in
theorem mk3 : findCls [] (.type "bytes") (.type "type") (Str.ofString "maketrans") = some (.val (.builtin "bytes.maketrans")) := by kernel_rfl
theorem mk4 : handedIn (.builtin "bytes.maketrans") = true := by decide +kernel
theorem mt_maketrans (B : Bs G K mg mb) : MtOk G l (.val (.type "bytes")) (Str.ofString "maketrans") (.builtin "bytes.maketrans") [] := fun v φ s A E pl g R r => by
  have er := r.iVal
  clear r
  subst er
  have X0 : Frag.In [] ({ objs := #[] } : Heap) := fun _ _ e => by cases e
  refine method_type (K := []) (T := "bytes") (name := Str.ofString "maketrans") (v := .builtin "bytes.maketrans") (fr_any B g) X0 mk1 mk2 mk3 mk4 ?_
  exact ⟨rfl, φ, .toks g.fin _, .nil⟩
end
end Mine

namespace Mine
open PySem PySem.W PySem.Calls PyProof.Rows PySem.SeqAt

section
variable {G : Gd} {K : Frag} {mg mb : Str → Option Value} {φ : Fz} {s : Shared} {A : Around} {E : Value → Shared → Prop} {l : Nat} {P : Pg}
theorem Room.under_cls (R : Room A (l + 1)) (C : Addr) (vs : List Value) (kw : List (Str × Value)) : Room (A.under (.builtin "type.__call__" ⟨.ref C :: vs, kw⟩)) l := by
  have hu : (Code.builtin "type.__call__" ⟨.ref C :: vs, kw⟩).cUnits ≤ 8 := by
    have : (Code.builtin "type.__call__" ⟨.ref C :: vs, kw⟩).cUnits = 1 ∨ (Code.builtin "type.__call__" ⟨.ref C :: vs, kw⟩).cUnits = 0 ∨ (Code.builtin "type.__call__" ⟨.ref C :: vs, kw⟩).cUnits = 2 := by first | exact .inl rfl | exact .inr (.inl rfl) | exact .inr (.inr rfl)
    lia
  refine ⟨R.handled, ?_, ?_⟩
  · rw [depth_under_kw]; have := R.depth; lia
  · show A.units + (Code.builtin "type.__call__" ⟨.ref C :: vs, kw⟩).cUnits + _ + _ < _
    have := R.units; lia
theorem repL_lookup {binds : List (Str × Value)} {bd : List (Str × D)} : RepK φ binds bd → ∀ x, (∃ v d, binds.lookup x = some v ∧ bd.lookup x = some d ∧ Rep φ v d) ∨ (binds.lookup x = none ∧ bd.lookup x = none) := by
  induction binds generalizing bd with
  | nil => intro h x; obtain ⟨h1, h2⟩ := h; induction bd using List.casesOn with
    | nil => exact .inr ⟨rfl, rfl⟩
    | cons p bd => cases h2
  | cons p binds ih =>
    intro h x
    obtain ⟨y, v⟩ := p
    refine e0a2 (h) fun h1 h2 => ?_
    cases bd with
    | nil => cases h2
    | cons q bd =>
      obtain ⟨z, d⟩ := q
      cases h2 with | cons r₁ rs =>
      have hyz : y = z := (List.cons.inj h1).1
      subst hyz
      have ih' := ih ⟨(List.cons.inj h1).2, rs⟩ x
      rw [List.lookup_cons, List.lookup_cons]
      cases hxy : x == y with
      | true => exact .inl ⟨v, d, rfl, rfl, r₁⟩
      | false => exact ih'
noncomputable def bindsI (y C : Addr) (self : Str) (bd : List (Str × D)) : Str → LV := fun x => if x = self then .oi y C [] else bindsD bd x
set_option tactic.hygienic true in
theorem cls_ok (B : Bs G K mg mb) (PO : POk G l P) {C a : Addr} {fd : FuncData} {body : List Stmt} {ds : List D} {bd : List (Str × D)} {self : Str} {fs : List (Str × D)} {n : Nat}
    (hm : makesIn K C = true) (hi : findIn K (.ref C) "__init__" = some (some (.ref a))) (hf : isFn K (.ref a) = true) (hkeep : KeepOk G (.ref C)) (D₀ : DefAt G a fd body)
    (hb : ∀ φ x vs (s : Shared), RepL φ vs ds → Gnd G φ s → ∃ binds, BindsTo s fd ⟨.ref x :: vs, []⟩ ((self, .ref x) :: binds) ∧ RepK φ binds bd)
    (hself : ∀ p ∈ bd, p.1 ≠ self) (hn : ∃ k, (self, k) ∈ fd.scope.names ∧ (k = .local ∨ k = .cell)) (hn' : ∀ x ∈ bd, ∃ k, (x.1, k) ∈ fd.scope.names ∧ (k = .local ∨ k = .cell))
    (hx : ∀ y, ∃ ρ', exN P n fd.scope (rho0 (bindsI y C self bd) fd.scope.names) body = some (.next ρ') ∧ ρ'.lookup self = some (.oi y C fs)) : CallOk G (l + 2) (.ref C) ds [] (.inst C fs) := by
  refine ⟨hkeep, fun vs kvs φ s A E g R r rk => ?_⟩
  have qq := repK_nil rk; subst qq
  obtain ⟨hh, gg, dd, tk, os⟩ := s
  refine wpAny_call (make_core (makes_of (B.In g) hm) (looks_findIn (B.In g) hi) (fun self => bind_fn (B.In g) self (beq_iff_eq.mp hf)) (.inl rfl) ?_)
  -- the new object
  have y1 : Step φ ⟨hh, gg, dd, tk, os⟩ φ ⟨hh.push emptyDict, gg, dd, tk, os⟩ := .push g.fin _ _
  have y2 : Step φ ⟨hh.push emptyDict, gg, dd, tk, os⟩ φ ⟨(hh.push emptyDict).push (instObj C hh.objs.size), gg, dd, tk, os⟩ := .push y1.fin _ _
  have y := y1.trans y2
  have g' := g.step y
  have hsz : (hh.push emptyDict).objs.size = hh.objs.size + 1 := Heap.size_push ..
  have o1 : ((hh.push emptyDict).push (instObj C hh.objs.size)).get? (hh.objs.size + 1) = some (instObj C hh.objs.size) := by rw [← hsz]; exact Heap.get?_push_size _ rfl
  have o2 : ((hh.push emptyDict).push (instObj C hh.objs.size)).get? hh.objs.size = some emptyDict := Heap.get?_push_of_some _ (Heap.get?_push_size _ rfl)
  have n1 : hh.get? (hh.objs.size + 1) = none := none_ge (Nat.le_succ _)
  have n2 : hh.get? hh.objs.size = none := get_size_none _
  refine e1a2 (hb φ (hh.objs.size + 1) vs ⟨(hh.push emptyDict).push (instObj C hh.objs.size), gg, dd, tk, os⟩ r g') fun binds hbind rb => ?_
  refine e1a2 (D₀.obj) fun o ho hd => ?_
  have rb' : RepK φ binds.reverse bd.reverse := ⟨by rw [List.map_reverse, List.map_reverse, rb.1], by rw [List.map_reverse, List.map_reverse]; exact rb.2.reverse⟩
  have noself : binds.reverse.lookup self = none := by
    rcases repL_lookup rb' self with ⟨v, d, _, h2, _⟩ | ⟨h1, _⟩
    · exfalso
      have : ∀ (l : List (Str × D)) (d : D), l.lookup self = some d → ∃ p ∈ l, p.1 = self := by
        intro l
        induction l with
        | nil => intro d h; cases h
        | cons p l ih =>
          obtain ⟨z, e⟩ := p
          intro d h
          rw [List.lookup_cons] at h
          split at h
          · rename_i q; exact ⟨_, List.mem_cons_self, (beq_iff_eq.mp q).symm⟩
          · obtain ⟨p, hp, e⟩ := ih d h; exact ⟨p, List.mem_cons_of_mem _ hp, e⟩
      obtain ⟨p, hp, e⟩ := this _ _ h2
      exact hself p (List.mem_reverse.mp hp) e
    · exact h1
  let b : Str → CV := fun x => if x = self then .oi (hh.objs.size + 1) hh.objs.size C [] else match binds.reverse.lookup x, bd.reverse.lookup x with
    | some v, some d => .fz v d
    | _, _ => .un
  have bs : b self = .oi (hh.objs.size + 1) hh.objs.size C [] := if_pos rfl
  have bo : ∀ x, x ≠ self → b x = (match binds.reverse.lookup x, bd.reverse.lookup x with | some v, some d => .fz v d | _, _ => .un) := fun x hx => if_neg hx
  have hbv : ∀ x, (b x).val? = ((self, Value.ref (hh.objs.size + 1)) :: binds).reverse.lookup x := fun x => by
    rw [List.reverse_cons, List.lookup_append]
    by_cases hx : x = self
    · subst hx
      rw [bs, noself]
      simp [CV.val?]
    · rw [bo x hx]
      have hbq : (x == self) = false := beq_eq_false_iff_ne.mpr hx
      rcases repL_lookup rb' x with ⟨v, d, h1, h2, _⟩ | ⟨h1, h2⟩ <;> rw [h1, h2] <;> simp [CV.val?, List.lookup_cons, hbq]
  have hba : (fun x => (b x).ab) = bindsI (hh.objs.size + 1) C self bd := by
    funext x
    unfold bindsI
    by_cases hx : x = self
    · subst hx; rw [bs, if_pos rfl]; rfl
    · rw [bo x hx, if_neg hx]
      unfold bindsD
      rcases repL_lookup rb' x with ⟨v, d, h1, h2, _⟩ | ⟨h1, h2⟩ <;> rw [h1, h2] <;> rfl
  have hno : ∀ x, x ≠ self → (b x).priv = [] := fun x hx => by
    rw [bo x hx]; split <;> rfl
  have ps : (b self).priv = [hh.objs.size + 1, hh.objs.size] := by rw [bs]; rfl
  have Gv : Given G φ ⟨(hh.push emptyDict).push (instObj C hh.objs.size), gg, dd, tk, os⟩ b := by
    refine ⟨fun x => ?_, fun x => ?_, fun x y hxy a ha => ?_, fun x a ha => ?_⟩
    · by_cases hx : x = self
      · subst hx
        rw [bs]
        exact ⟨o1, [], 0, o2, .nil, fun e he => (no_mem he)⟩
      · rw [bo x hx]
        rcases repL_lookup rb' x with ⟨v, d, h1, h2, h3⟩ | ⟨h1, h2⟩
        · rw [h1, h2]; exact h3
        · rw [h1, h2]; trivial
    · by_cases hx : x = self
      · subst hx; rw [ps]; simp
      · rw [hno x hx]; exact List.nodup_nil
    · by_cases hx : x = self
      · subst hx
        rw [hno y fun z => hxy z.symm]; exact fun z => (no_mem z)
      · rw [hno x hx] at ha; cases ha
    · by_cases hx : x = self
      · subst hx
        rw [ps] at ha
        rcases (by simpa using ha : a = hh.objs.size + 1 ∨ a = hh.objs.size) with rfl | rfl
        · refine ⟨?_, none_of_ext g.keep n1, _, o1⟩
          generalize q : φ (hh.objs.size + 1) = r_; induction r_ using Option.casesOn with
          | none => rfl
          | some o => have := g.fin _ _ q; rw [n1] at this; exact no_none this
        · refine ⟨?_, none_of_ext g.keep n2, _, o2⟩
          generalize q : φ hh.objs.size = r_; induction r_ using Option.casesOn with
          | none => rfl
          | some o => have := g.fin _ _ q; rw [n2] at this; exact no_none this
      · rw [hno x hx] at ha; cases ha
  have hkind : ∀ x ∈ (self, Value.ref (hh.objs.size + 1)) :: binds, ∃ k, (x.1, k) ∈ fd.scope.names ∧ (k = .local ∨ k = .cell) := fun x hx => by
    rcases List.mem_cons.mp hx with z | z
    · subst z; exact hn
    · have hm : x.1 ∈ bd.map (·.1) := rb.1 ▸ List.mem_map.mpr ⟨x, z, rfl⟩
      obtain ⟨y, hy, e⟩ := List.mem_map.mp hm
      rw [← e]; exact hn' y hy
  obtain ⟨ρ', hx, hl⟩ := hx (hh.objs.size + 1)
  refine code_body (args := ⟨.ref (hh.objs.size + 1) :: vs, []⟩) D₀.ok (g'.keep _ _ ho) hd (B.lim.keeps g'.keep) (D₀.code.keeps g'.keep) hbind hkind g' Gv hbv (R.under_cls C vs []) (hba ▸ exN_ok PO fd.scope n _ _ _ hx) fun f s₁ s' x q => ?_
  induction f using PySem.Flow.casesOn <;> first | exact q.elim | skip
  obtain ⟨c', φ', ab', S', rel, pv⟩ := q
  refine ⟨rfl, ?_⟩
  -- the object is frozen
  rw [← ab'] at hl
  obtain ⟨e, he, rfl, hab⟩ := abs_lookup hl
  refine e1a1 (ab_oi hab) fun dy hcv => ?_
  obtain ⟨m, _, hv'⟩ := S'.vars
  have hg := (hv' e he).2
  rw [hcv] at hg
  obtain ⟨p1, es, n', p2, rf, _⟩ := hg
  have hp : e.cv.priv = [hh.objs.size + 1, dy] := by rw [hcv]; rfl
  have mp : ∀ b ∈ e.cv.priv, b ∈ privs (callEnvC fd ((hh.push emptyDict).push (instObj C hh.objs.size)).objs.size a) c' := fun b hb => List.mem_cons_of_mem _ (List.mem_flatMap.mpr ⟨e, he, List.mem_append_right _ hb⟩)
  have fy : φ' (hh.objs.size + 1) = none := S'.pfz _ (mp _ (by rw [hp]; simp))
  have fdy : φ' dy = none := S'.pfz dy (mp dy (by rw [hp]; simp))
  have hne : dy ≠ hh.objs.size + 1 := fun z => by rw [z, p1] at p2; cases p2
  have f1 : (φ'.put (hh.objs.size + 1) (instObj C dy)) dy = none := by rw [Fz.put_ne _ _ hne]; exact fdy
  have up1 : ∀ a o, φ' a = some o → ((φ'.put (hh.objs.size + 1) (instObj C dy)).put dy (dictOf es n')) a = some o := fun a o q => Fz.put_up f1 a o (Fz.put_up fy a o q)
  have low : ∀ c ∈ privs (callEnvC fd ((hh.push emptyDict).push (instObj C hh.objs.size)).objs.size a) (fnCE b (((hh.push emptyDict).push (instObj C hh.objs.size)).objs.size + 1) fd.scope.names), hh.get? c = none := fun c hc => by
    have hlt : ∀ y, ∀ c ∈ (b y).priv, c < ((hh.push emptyDict).push (instObj C hh.objs.size)).objs.size := fun y c hc => let ⟨o, ho⟩ := (Gv.off y c hc).2.2; Heap.lt_size ho
    obtain ⟨q1, q2⟩ := fnCE_privs hlt Gv.nd Gv.apart fd.scope.names (((hh.push emptyDict).push (instObj C hh.objs.size)).objs.size + 1) (Nat.le_succ _) D₀.ok.nd
    have big : ∀ c, ((hh.push emptyDict).push (instObj C hh.objs.size)).objs.size ≤ c → hh.get? c = none := fun c hc => none_ge (by rw [Heap.size_push, Heap.size_push] at hc; lia)
    rcases List.mem_cons.mp hc with z | z
    · rw [z]; exact big _ (Nat.le_refl _)
    · rcases q1 c z with w | ⟨y, _, w⟩
      · exact big c (Nat.le_of_succ_le w)
      · by_cases hy : y = e.x
        · subst hy
          rw [ps] at w
          rcases (by simpa using w : c = hh.objs.size + 1 ∨ c = hh.objs.size) with z | z
          · rw [z]; exact n1
          · rw [z]; exact n2
        · rw [hno y hy] at w; cases w
  have lowd : hh.get? dy = none := by
    rcases pv dy (mp dy (by rw [hp]; simp)) with z | z
    · exact low dy z
    · exact none_of_ext (fun b o e => x.toInCall.keep b o (y.ext b o e)) z
  refine ⟨(φ'.put (hh.objs.size + 1) (instObj C dy)).put dy (dictOf es n'), ?_, .inst (Fz.put_up f1 _ _ (Fz.put_self ..)) (Fz.put_self ..) (rf.mono up1)⟩
  obtain ⟨h1, t1, e1⟩ := x.toInCall.same
  obtain ⟨h2, t2, e2⟩ := rel.eq
  refine ⟨⟨h2, t2, by rw [e2, e1]⟩, fun c o q => rel.keep c o (fun z => by rw [low c z] at q; exact no_none q) (x.toInCall.keep c o (y.ext c o q)), fun a o q => up1 a o (rel.up a o q), fun c o q => ?_, fun c o q => ?_⟩
  · by_cases z : c = dy
    · subst z; exact .inr lowd
    · rw [Fz.put_ne _ _ z] at q
      by_cases w : c = hh.objs.size + 1
      · subst w; exact .inr n1
      · rw [Fz.put_ne _ _ w] at q
        rcases rel.new c o q with v | v | v
        · exact .inl v
        · exact .inr (low c v)
        · exact .inr (none_of_ext (fun b o e => x.toInCall.keep b o (y.ext b o e)) v)
  · by_cases z : c = dy
    · subst z; rw [Fz.put_self] at q; have qq := Option.some.inj (q); subst qq; exact p2
    · rw [Fz.put_ne _ _ z] at q
      by_cases w : c = hh.objs.size + 1
      · subst w; rw [Fz.put_self] at q; have qq := Option.some.inj (q); subst qq; exact p1
      · rw [Fz.put_ne _ _ w] at q; exact S'.g.fin c o q
end
end Mine

namespace Mine
open PySem PySem.W PySem.Calls PyProof.Rows PySem.SeqAt

section
variable {G : Gd} {K : Frag} {mg mb : Str → Option Value}
noncomputable def setIn (K : Frag) (C : Addr) (a : Str) : Bool := (findIn K (.ref C) "__setattr__" == some (some (.builtin "object.__setattr__"))) && plainOver K C && (takerIn K C a == some none) && hasDictIn K C
theorem st_ok (B : Bs G K mg mb) {C : Addr} {a : Str} (h : setIn K C a = true) : StOk G C a := by
  unfold setIn at h
  refine e0a2 (Bool.and_eq_true_iff.mp h) fun h hh => ?_
  refine e0a2 (Bool.and_eq_true_iff.mp h) fun h ht => ?_
  refine e0a2 (Bool.and_eq_true_iff.mp h) fun hs hp => ?_
  have hs := beq_iff_eq.mp hs
  have ht := beq_iff_eq.mp ht
  intro s x dx es n v A E Q keep e1 e2 hk hz hq
  have X : K.In s.heap := B.X.keeps keep
  have I := inst_at e1 e2
  refine set_plain X I hs ?_
  refine osa_open (s := { s with toks := s.toks + 1 }) X I hp ht fun b => ?_
  refine e1a2 (any_some hh) fun cd hc hd' => ?_
  have hupd : (s.heap.update dx (Obj.putName a (PyData.keyHash G.w.params a) (.str a (s.toks + 1)) v)).get? dx = some (dictOf (putL a (PyData.keyHash G.w.params a) (.str a (s.toks + 1)) v es) (putN a es n)) := by
    rw [← putName_dict]
    exact Heap.get?_update_self _ e2 (by rw [putName_dict]; rfl)
  have fin := hq _ (s.toks + 1 + 1) (s.toks + 1) _ hupd (Heap.SameBut.update ..)
  have hlen : (putL a (PyData.keyHash G.w.params a) (.str a (s.toks + 1)) v es).length ≤ es.length + 1 := by
    have : ∀ es : List DictEntry, (putL a (PyData.keyHash G.w.params a) (.str a (s.toks + 1)) v es).length ≤ es.length + 1 := by
      intro es
      induction es with
      | nil => simp [putL]
      | cons e es ih => unfold putL; split <;> simp <;> omega
    exact this es
  have D := e2
  have D' := hupd
  refine wpAny_bind (wpAny_pure (wpAny_bind (wpAny_bind (wpAny_loadPart e1 (wpAny_bind (Looks.here (s := { s with toks := s.toks + 1 }) (looks_clsIn X hc) ?_))))))
  rw [hd']
  refine wpAny_pure (a := some dx) (wpAny_bind (wpAny_pure (wpAny_bind ?_)))
  unfold nsSet
  refine wpAny_bind (wpAny_bind (wpAny_askSetting (wpAny_pure (wpAny_bind (wpAny_mkText (wpAny_bind (wpAny_loadPart D ?_)))))))
  dsimp only
  have c : (!es.toArray.any (·.key.isStr a) && es.toArray.any (·.refKey)) = false := by
    have : es.toArray.any (·.refKey) = false := by
      rw [List.any_toArray, List.any_eq_false]
      intro e he
      refine e2a2 (hk e he) fun y t hy _ => ?_
      obtain ⟨h, k, v⟩ := e
      dsimp only at hy
      subst hy
      exact Bool.false_ne_true
    rw [this, Bool.and_false]
  rw [aRefKeyMayBeTheName_at, c]
  refine wpAny_updatePart D ?_
  refine wpAny_bind (wpAny_lookBehind D' (pastItsLine_dict (by rw [List.size_toArray, sizeLine_eq]; omega)) ?_)
  exact wpAny_pure fin
end
end Mine

namespace Mine
open PySem PySem.W PySem.Calls PyProof.Rows PySem.SeqAt

/-! what the built-ins give, as one function -/
section
variable {G : Gd} {φ : Fz} {s : Shared} {A : Around} {E : Value → Shared → Prop} {l : Nat}
theorem b_sum {ds : List D} {is : List Int} (h : ints? ds = some is) : CallOk G l (.builtin "sum") [.list ds] [] (.int is.sum) := call1 (keep_builtin _) fun v φ s A E g R r => by
  refine e3a3 r.iList fun a vs n er e r0 => ?_
  clear r
  subst er
  revert r0; intro r
  have hi := ints_are r h
  refine e1a1 (hi.allInts.items) fun xs e' => ?_
  have hns : is = xs.toList.map (·.1) := by rw [← hi.numsOf, ← nums_intItems, ← e']
  have hl := lsO_isList (g.fin _ _ e)
  rw [e'] at hl
  refine sum_intListG R.handled hl fun h' tk t' keep => ?_
  rw [preSum_eq, List.take_of_length_le (by simp), ← hns]
  exact ⟨φ, .heap g.fin keep, .int _ t'⟩
noncomputable def lstripD (c x : List Nat) : List Nat := x.dropWhile fun k => c.contains k
theorem drop_takeWhile {α : Type} (p : α → Bool) : ∀ x : List α, x.drop (x.takeWhile p).length = x.dropWhile p
  | [] => rfl
  | a :: x => by
    by_cases h : p a = true
    · rw [List.takeWhile_cons_of_pos h, List.dropWhile_cons_of_pos h, List.length_cons, List.drop_succ_cons, drop_takeWhile p x]
    · rw [List.takeWhile_cons_of_neg h, List.dropWhile_cons_of_neg h]; rfl
theorem b_lstrip {x c : List Nat} (hz : x.length ≤ lim) : CallOk G l (.builtin "str.lstrip") [.str x, .str c] [] (.str (lstripD c x)) := call2 (keep_builtin _) fun v w φ s A E g R r r' => by
  refine e1a1 r.iStr fun t er => ?_
  clear r
  subst er
  refine e1a1 r'.iStr fun u er2 => ?_
  clear r'
  subst er2
  unfold lim at hz
  refine SC.lstripChars (hsz := by rw [str_len, sizeLine_eq]; lia) fun t' k => ?_
  have : Txt.lstripChars ⟨x.toArray⟩ ⟨c.toArray⟩ = ⟨(lstripD c x).toArray⟩ := by
    unfold Txt.lstripChars
    rw [PyProof.Rows.stripBy_eq]
    unfold PySem.stripLo PySem.stripHi Builtin.Str.strSub lstripD
    rw [if_pos rfl, if_neg (by simp)]
    have : (fun k => c.contains k) = (⟨c.toArray⟩ : Str).cps.contains := by funext k; simp
    rw [← drop_takeWhile, this]
    apply congrArg Str.mk
    apply Array.ext'
    rw [str_len]
    simp [List.extract_eq_take_drop]
    exact List.take_of_length_le (by rw [List.length_drop]; lia)
  rw [this]
  exact EP.tk g.fin (.str _ _)
end
end Mine

namespace Mine
open PySem PySem.W PySem.Calls PyProof.Rows PySem.SeqAt

/-! the built-ins by name -/
noncomputable def a1 : List D → Option D
  | [a] => some a
  | _ => none
noncomputable def a2 : List D → Option (D × D)
  | [a, b] => some (a, b)
  | _ => none
theorem a1_inv {ds : List D} {d : D} (h : a1 ds = some d) : ds = [d] := by
  match ds, h with
  | [], h => exact no_none h
  | [_], h => rw [some_inv h]
  | _ :: _ :: _, h => exact no_none h
theorem a2_inv {ds : List D} {d : D × D} (h : a2 ds = some d) : ds = [d.1, d.2] := by
  match ds, h with
  | [], h => exact no_none h
  | [_], h => exact no_none h
  | [_, _], h => rw [some_inv h]
  | _ :: _ :: _ :: _, h => exact no_none h
noncomputable def lenO : D → Option Nat
  | .list x => some x.length
  | .str x => some x.length
  | .tup x => some x.length
  | .bytes x => some x.length
  | _ => none
noncomputable def lenD (ds : List D) : Option D := o1 (fun d => o1 (fun n => if n ≤ lim then some (.int n) else none) (lenO d)) (a1 ds)
noncomputable def maxD : List D → Option D
  | [d] => o1 (fun x => o1 (fun is => if 0 < is.length then some (.int (maxI is)) else none) (ints? x)) (lstD d)
  | [d, e] => o2 (fun a b => some (.int (if b > a then b else a))) (intD d) (intD e)
  | _ => none
noncomputable def sumD (ds : List D) : Option D := o1 (fun d => o1 (fun x => o1 (fun is => some (.int is.sum)) (ints? x)) (lstD d)) (a1 ds)
noncomputable def chrD (ds : List D) : Option D := o1 (fun d => o1 (fun i => if 0 ≤ i ∧ i < 1000 then some (.str [i.toNat]) else none) (intD d)) (a1 ds)
noncomputable def isiD (ds : List D) : Option D := o1 (fun p => o2 (fun _ v => o1 (fun n => if n = "str" then some (.bool true) else none) (typN v)) (strD p.1) (valD p.2)) (a2 ds)
noncomputable def idxI (x : List D) (k : Int) : Option D := o1 (fun is => if x.length ≤ lim ∧ k ∈ is then some (.int (is.idxOf k : Nat)) else none) (ints? x)
noncomputable def idxL (x ks : List D) : Option D := o2 (fun xs k => if xs.length ≤ lim ∧ k ∈ xs then some (.int (xs.idxOf k : Nat)) else none) (intss? x) (ints? ks)
noncomputable def idxK (x : List D) : D → Option D
  | .int k => idxI x k
  | .list ks => idxL x ks
  | _ => none
noncomputable def indexD (ds : List D) : Option D := o1 (fun p => o1 (fun x => idxK x p.2) (lstD p.1)) (a2 ds)
noncomputable def joinD (ds : List D) : Option D := o1 (fun p => o2 (fun e x => o1 (fun xs => if e = [] ∧ xs.flatten.length ≤ lim then some (.str xs.flatten) else none) (strs? x)) (strD p.1) (lstD p.2)) (a2 ds)
noncomputable def splitD (ds : List D) : Option D := o1 (fun p => o2 (fun x y => o1 (fun c => if x.length ≤ 100000 then some (.list ((splitAt c x).map .str)) else none) (oneC y)) (strD p.1) (strD p.2)) (a2 ds)
noncomputable def encodeD (ds : List D) : Option D := o1 (fun p => o2 (fun x y => if y = wAscii ∧ (∀ c ∈ x, c < 128) ∧ x.length ≤ lim then some (.bytes (x.map (·.toUInt8))) else none) (strD p.1) (strD p.2)) (a2 ds)
noncomputable def lstripF (ds : List D) : Option D := o1 (fun p => o2 (fun x c => if x.length ≤ lim then some (.str (lstripD c x)) else none) (strD p.1) (strD p.2)) (a2 ds)
noncomputable def maketransD (ds : List D) : Option D := o1 (fun p => o2 (fun a b => if a.length = b.length then some (.bytes (mkTab a b)) else none) (bytD p.1) (bytD p.2)) (a2 ds)
noncomputable def translateD (ds : List D) : Option D := o1 (fun p => o2 (fun x t => if t.length = 256 ∧ x.length ≤ lim then some (.bytes (trans x t)) else none) (bytD p.1) (bytD p.2)) (a2 ds)
noncomputable def typO : D → Option String
  | .str _ => some "str"
  | .bytes _ => some "bytes"
  | .bool _ => some "bool"
  | _ => none
noncomputable def typeD (ds : List D) : Option D := o1 (fun d => o1 (fun n => some (.val (.type n))) (typO d)) (a1 ds)
noncomputable def rangeD : List D → Option D
  | [d] => o1 (fun n => some (.rng 0 n 1)) (intD d)
  | [d, e] => o2 (fun a b => some (.rng a b 1)) (intD d) (intD e)
  | [d, e, f] => o2 (fun a b => o1 (fun c => if c = -1 then some (.rng a b (-1)) else none) (intD f)) (intD d) (intD e)
  | _ => none
noncomputable def bytesD (ds : List D) : Option D := o1 (fun d => o1 (fun x => o1 (fun is => if (∀ n ∈ is, 0 ≤ n ∧ n < 256) ∧ x.length ≤ lim then some (.bytes (is.map fun n => n.toNat.toUInt8)) else none) (ints? x)) (lstD d)) (a1 ds)
noncomputable def tupleD (ds : List D) : Option D := o1 (fun d => o1 (fun x => if x.length ≤ lim then some (.tup x) else none) (lstD d)) (a1 ds)
noncomputable def biT : List (String × (List D → Option D)) :=
  [("len", lenD), ("max", maxD), ("sum", sumD), ("chr", chrD), ("isinstance", isiD),
   ("list.index", indexD),
   ("str.join", joinD), ("str.split", splitD), ("str.encode", encodeD),
   ("str.lstrip", lstripF), ("bytes.maketrans", maketransD), ("bytes.translate", translateD)]
noncomputable def tyT : List (String × (List D → Option D)) := [("type", typeD), ("range", rangeD), ("bytes", bytesD), ("tuple", tupleD)]
noncomputable def inT (T : List (String × (List D → Option D))) (id : String) (ds : List D) : Option D := match T.lookup id with
  | some f => f ds
  | none => none
noncomputable def bi (id : String) (ds : List D) : Option D := inT biT id ds
noncomputable def ty (id : String) (ds : List D) : Option D := inT tyT id ds
theorem inT_ok {R : String → List D → D → Prop} {ds : List D} {d : D} {T : List (String × (List D → Option D))} {id : String} (k : ∀ p ∈ T, p.2 ds = some d → R p.1 ds d) (h : inT T id ds = some d) : R id ds d := by
  unfold inT at h
  cases hl : T.lookup id with
  | none => rw [hl] at h; exact no_none h
  | some f =>
    rw [hl] at h
    have : ∀ {T : List (String × (List D → Option D))}, T.lookup id = some f → (id, f) ∈ T := fun {T} e => by
      induction T with
      | nil => cases e
      | cons p T ih =>
        rw [List.lookup_cons] at e
        cases q : id == p.1 with
        | true => rw [q] at e; rw [eq_of_beq q, ← some_inv e.symm]; exact List.mem_cons_self
        | false => rw [q] at e; exact List.mem_cons_of_mem _ (ih e)
    exact k _ (this hl) h
noncomputable def fnB (f : Value) (ds : List D) (ks : List (Str × D)) : Option D := match f, ks with
  | .builtin id, [] => bi id ds
  | .type id, [] => ty id ds
  | _, _ => none
section
variable {G : Gd} {l : Nat}
theorem c_len {ds : List D} {d : D} (h : lenD ds = some d) : CallOk G l (.builtin "len") ds [] d := by
  refine o1_e h fun e he h => ?_
  rw [a1_inv he]
  induction e using Mine.D.casesOn <;> first | exact no_none h | skip
  all_goals
    refine o1_e h fun n hn h => ?_
    refine oif_e h fun q h => ?_
    have qq := some_inv hn; subst qq
    refine some_e h ?_
  · exact b_len_str q
  · exact b_len_bytes q
  · exact b_len_list q
  · exact b_len_tup q
theorem c_max {ds : List D} {d : D} (h : maxD ds = some d) : CallOk G l (.builtin "max") ds [] d := by
  match ds, h with
  | [], h => exact no_none h
  | _ :: _ :: _ :: _, h => exact no_none h
  | [_], h =>
    refine o1_e h fun x hx h => ?_
    refine o1_e h fun is hi h => ?_
    refine oif_e h fun q h => ?_
    rw [lstD_inv hx, some_inv h]
    exact b_maxL hi q
  | [_, _], h =>
    refine o2_e h fun a b ha hb h => ?_
    rw [intD_inv ha, intD_inv hb, some_inv h]
    exact b_max2
theorem c_sum {ds : List D} {d : D} (h : sumD ds = some d) : CallOk G l (.builtin "sum") ds [] d := by
  refine o1_e h fun e he h => ?_
  refine o1_e h fun x hx h => ?_
  refine o1_e h fun is hi h => ?_
  rw [a1_inv he, lstD_inv hx, some_inv h]
  exact b_sum hi
theorem c_chr {ds : List D} {d : D} (h : chrD ds = some d) : CallOk G l (.builtin "chr") ds [] d := by
  refine o1_e h fun e he h => ?_
  refine o1_e h fun x hx h => ?_
  refine oif_e h fun q h => ?_
  rw [a1_inv he, intD_inv hx, some_inv h]
  exact b_chr q
theorem c_isi {ds : List D} {d : D} (h : isiD ds = some d) : CallOk G l (.builtin "isinstance") ds [] d := by
  refine o1_e h fun e he h => ?_
  refine o2_e h fun x v hx hv h => ?_
  refine o1_e h fun n hn h => ?_
  refine oif_e h fun q h => ?_
  rw [a2_inv he, strD_inv hx, valD_inv hv, typN_inv hn, q, some_inv h]
  exact b_isi_str
set_option tactic.hygienic true in
theorem c_index {ds : List D} {d : D} (h : indexD ds = some d) : CallOk G l (.builtin "list.index") ds [] d := by
  refine o1_e h fun e he h => ?_
  refine o1_e h fun x hx h => ?_
  rw [a2_inv he, lstD_inv hx]
  generalize e.2 = k at h ⊢
  induction k using Mine.D.casesOn <;> first | exact no_none h | skip
  case int k =>
    refine o1_e h fun is hi h => ?_
    refine oif_e h fun q h => ?_
    rw [some_inv h]
    exact b_index hi q.1 q.2
  case list ks =>
    refine o2_e h fun xs k hi hk h => ?_
    refine oif_e h fun q h => ?_
    rw [some_inv h, intss_inv hi, intsOf_inv hk]
    exact b_indexL q.1 q.2
theorem c_join {ds : List D} {d : D} (h : joinD ds = some d) : CallOk G l (.builtin "str.join") ds [] d := by
  refine o1_e h fun e he h => ?_
  refine o2_e h fun x y hx hy h => ?_
  refine o1_e h fun xs hi h => ?_
  refine oif_e h fun q h => ?_
  rw [a2_inv he, strD_inv hx, lstD_inv hy, some_inv h, q.1]
  exact b_join hi q.2
theorem c_split {ds : List D} {d : D} (h : splitD ds = some d) : CallOk G l (.builtin "str.split") ds [] d := by
  refine o1_e h fun e he h => ?_
  refine o2_e h fun x y hx hy h => ?_
  refine o1_e h fun c hc h => ?_
  refine oif_e h fun q h => ?_
  rw [a2_inv he, strD_inv hx, strD_inv hy, oneC_inv hc, some_inv h]
  exact b_split q
theorem c_enc {ds : List D} {d : D} (h : encodeD ds = some d) : CallOk G l (.builtin "str.encode") ds [] d := by
  refine o1_e h fun e he h => ?_
  refine o2_e h fun x y hx hy h => ?_
  refine oif_e h fun q h => ?_
  rw [a2_inv he, strD_inv hx, strD_inv hy, q.1, some_inv h]
  exact b_encode q.2.1 q.2.2
theorem c_lst {ds : List D} {d : D} (h : lstripF ds = some d) : CallOk G l (.builtin "str.lstrip") ds [] d := by
  refine o1_e h fun e he h => ?_
  refine o2_e h fun x y hx hy h => ?_
  refine oif_e h fun q h => ?_
  rw [a2_inv he, strD_inv hx, strD_inv hy, some_inv h]
  exact b_lstrip q
theorem c_mkt {ds : List D} {d : D} (h : maketransD ds = some d) : CallOk G l (.builtin "bytes.maketrans") ds [] d := by
  refine o1_e h fun e he h => ?_
  refine o2_e h fun x y hx hy h => ?_
  refine oif_e h fun q h => ?_
  rw [a2_inv he, bytD_inv hx, bytD_inv hy, some_inv h]
  exact b_maketrans q
theorem c_tra {ds : List D} {d : D} (h : translateD ds = some d) : CallOk G l (.builtin "bytes.translate") ds [] d := by
  refine o1_e h fun e he h => ?_
  refine o2_e h fun x y hx hy h => ?_
  refine oif_e h fun q h => ?_
  rw [a2_inv he, bytD_inv hx, bytD_inv hy, some_inv h]
  exact b_translate q.1 q.2
theorem bi_ok {id : String} {ds : List D} {d : D} (h : bi id ds = some d) : CallOk G l (.builtin id) ds [] d := by
  refine inT_ok (R := fun id ds d => CallOk G l (.builtin id) ds [] d) (T := biT) (fun p hp => ?_) h
  clear h
  have go := fun {p q : String × (List D → Option D)} {T : List (String × (List D → Option D))} (hp : p ∈ q :: T) (h : q.2 ds = some d → CallOk G l (.builtin q.1) ds [] d) (k : p ∈ T → p.2 ds = some d → CallOk G l (.builtin p.1) ds [] d) => (List.mem_cons.mp hp).elim (fun e => e ▸ h) k
  exact go hp c_len fun hp => go hp c_max fun hp => go hp c_sum fun hp => go hp c_chr fun hp => go hp c_isi fun hp =>
    go hp c_index fun hp =>
    go hp c_join fun hp => go hp c_split fun hp => go hp c_enc fun hp =>
    go hp c_lst fun hp => go hp c_mkt fun hp => go hp c_tra fun hp => no_mem hp
theorem t_type {ds : List D} {d : D} (h : typeD ds = some d) : CallOk G l (.type "type") ds [] d := by
  refine o1_e h fun e he h => ?_
  refine o1_e h fun n hn h => ?_
  rw [a1_inv he, some_inv h]
  induction e using Mine.D.casesOn <;> first | exact no_none hn | (have qq := some_inv hn; subst qq)
  · exact b_type_bool
  · exact b_type_str
  · exact b_type_bytes
theorem t_range {ds : List D} {d : D} (h : rangeD ds = some d) : CallOk G l (.type "range") ds [] d := by
  match ds, h with
  | [], h => exact no_none h
  | _ :: _ :: _ :: _ :: _, h => exact no_none h
  | [_, _, _], h =>
    refine o2_e h fun a b ha hb h => ?_
    refine o1_e h fun c hc h => ?_
    refine oif_e h fun q h => ?_
    subst q
    rw [intD_inv ha, intD_inv hb, intD_inv hc, some_inv h]
    exact b_range3
  | [_], h =>
    refine o1_e h fun x hx h => ?_
    rw [intD_inv hx, some_inv h]
    exact b_range1
  | [_, _], h =>
    refine o2_e h fun a b ha hb h => ?_
    rw [intD_inv ha, intD_inv hb, some_inv h]
    exact b_range2
theorem t_bytes {ds : List D} {d : D} (h : bytesD ds = some d) : CallOk G l (.type "bytes") ds [] d := by
  refine o1_e h fun e he h => ?_
  refine o1_e h fun x hx h => ?_
  refine o1_e h fun is hi h => ?_
  refine oif_e h fun q h => ?_
  rw [a1_inv he, lstD_inv hx, some_inv h]
  exact b_bytes hi q.1 q.2
theorem t_tuple {ds : List D} {d : D} (h : tupleD ds = some d) : CallOk G l (.type "tuple") ds [] d := by
  refine o1_e h fun e he h => ?_
  refine o1_e h fun x hx h => ?_
  refine oif_e h fun q h => ?_
  rw [a1_inv he, lstD_inv hx, some_inv h]
  exact b_tuple q
theorem ty_ok {id : String} {ds : List D} {d : D} (h : ty id ds = some d) : CallOk G l (.type id) ds [] d := by
  refine inT_ok (R := fun id ds d => CallOk G l (.type id) ds [] d) (T := tyT) (fun p hp => ?_) h
  clear h
  have go := fun {p q : String × (List D → Option D)} {T : List (String × (List D → Option D))} (hp : p ∈ q :: T) (h : q.2 ds = some d → CallOk G l (.type q.1) ds [] d) (k : p ∈ T → p.2 ds = some d → CallOk G l (.type p.1) ds [] d) => (List.mem_cons.mp hp).elim (fun e => e ▸ h) k
  exact go hp t_type fun hp => go hp t_range fun hp => go hp t_bytes fun hp => go hp t_tuple fun hp => no_mem hp
theorem fnB_ok {f : Value} {ds : List D} {ks : List (Str × D)} {d : D} (h : fnB f ds ks = some d) : CallOk G l f ds ks d := by
  unfold fnB at h
  split at h
  · exact bi_ok h
  · exact ty_ok h
  · exact no_none h
theorem CallOk.mono {l k : Nat} {f : Value} {ds : List D} {ks : List (Str × D)} {d : D} (h : CallOk G l f ds ks d) (q : l ≤ k) : CallOk G k f ds ks d :=
  ⟨h.keep, fun vs kvs φ s A E g R r rk => h.run vs kvs φ s A E g (R.le q) r rk⟩
end

/-! the program's own functions: a table, and what it gives at a depth -/
noncomputable def bodyOf (fd : FuncData) : List Stmt := match fd.body with
  | .stmts b => b
  | _ => []
structure Df where
  fd : FuncData
  bind : List D → List (Str × D) → Option (List (Str × D))
structure Cf where
  fd : FuncData
  self : Str
  bind : List D → Option (List (Str × D))
structure Tab where
  gl : Str → Option D
  mt : D → Str → Option (Value × List D)
  att : D → Str → Option D
  st : Addr → Str → Bool
  df : Addr → Option Df
  cf : Addr → Option Cf
set_option tactic.hygienic true in
noncomputable abbrev outK : SR → Option D
  | .ret d => some d
  | .next _ => some .none
  | _ => none
noncomputable def outD : Option SR → Option D := o1 outK
set_option tactic.hygienic true in
theorem outD_inv {z : Option SR} {d : D} (h : outD z = some d) : (∃ ρ, z = some (.next ρ) ∧ d = .none) ∨ z = some (.ret d) := by
  refine o1_e h fun r e h => ?_
  induction r using Mine.SR.casesOn <;> first | exact no_none h | exact .inl ⟨_, e, some_inv h⟩ | exact .inr (by rw [e, some_inv h])
noncomputable def depN : Nat := 12
noncomputable def runD (P : Pg) (fd : FuncData) (bd : List (Str × D)) : Option D := outD (exN P depN fd.scope (rho0 (bindsD bd) fd.scope.names) (bodyOf fd))
set_option tactic.hygienic true in
noncomputable def Lays (P : Pg) (C : Addr) (c : Cf) (bd : List (Str × D)) (fs : List (Str × D)) : Prop :=
  ∀ y, ∃ ρ', exN P depN c.fd.scope (rho0 (bindsI y C c.self bd) c.fd.scope.names) (bodyOf c.fd) = some (.next ρ') ∧ ρ'.lookup c.self = some (.oi y C fs)
open Classical in
noncomputable def runC (P : Pg) (C : Addr) (c : Cf) (bd : List (Str × D)) : Option D := if h : ∃ fs, Lays P C c bd fs then some (.inst C h.choose) else none
theorem Lays.one {P : Pg} {C : Addr} {c : Cf} {bd : List (Str × D)} {fs fs' : List (Str × D)} (h : Lays P C c bd fs) (h' : Lays P C c bd fs') : fs = fs' := by
  refine e1a2 (h 0) fun ρ e1 e2 => ?_
  refine e1a2 (h' 0) fun ρ' e1' e2' => ?_
  rw [e1] at e1'; cases e1'
  rw [e2] at e2'; cases e2'; rfl
theorem runC_eq {P : Pg} {C : Addr} {c : Cf} {bd : List (Str × D)} {fs : List (Str × D)} (h : Lays P C c bd fs) : runC P C c bd = some (.inst C fs) := by
  unfold runC
  rw [dif_pos ⟨fs, h⟩]
  have := (Classical.choose_spec (⟨fs, h⟩ : ∃ fs, Lays P C c bd fs)).one h
  exact congrArg (fun z => some (D.inst C z)) this
noncomputable def fnR (T : Tab) (P : Pg) (a : Addr) (ds : List D) (ks : List (Str × D)) : Option D := match T.df a with
  | some x => o1 (runD P x.fd) (x.bind ds ks)
  | none => o1 (fun c => if isNil ks = true then o1 (runC P a c) (c.bind ds) else none) (T.cf a)
noncomputable def refA : Value → Option Addr
  | .ref a => some a
  | _ => none
theorem refA_inv {v : Value} {a : Addr} (h : refA v = some a) : v = .ref a := by
  induction v using PySem.Value.casesOn <;> first | exact no_none h | rw [some_inv h]
noncomputable def fnU (T : Tab) (P : Pg) (f : Value) (ds : List D) (ks : List (Str × D)) : Option D := match refA f with
  | some a => fnR T P a ds ks
  | none => fnB f ds ks
noncomputable def PN (T : Tab) : Nat → Pg
  | 0 => ⟨T.gl, fnB, T.mt, T.att, T.st⟩
  | n + 1 => ⟨T.gl, fnU T (PN T n), T.mt, T.att, T.st⟩
structure DfOk (G : Gd) (a : Addr) (x : Df) : Prop where
  at' : DefAt G a x.fd (bodyOf x.fd)
  bd : ∀ ds ks bd, x.bind ds ks = some bd → (∀ φ vs kvs (s : Shared), RepL φ vs ds → RepK φ kvs ks → Gnd G φ s → ∃ binds, BindsTo s x.fd ⟨vs, kvs⟩ binds ∧ RepK φ binds bd) ∧ (∀ y ∈ bd, ∃ k, (y.1, k) ∈ x.fd.scope.names ∧ (k = .local ∨ k = .cell))
structure CfOk (G : Gd) (K : Frag) (C : Addr) (c : Cf) (a : Addr) : Prop where
  hm : makesIn K C = true
  hi : findIn K (.ref C) "__init__" = some (some (.ref a))
  hf : isFn K (.ref a) = true
  hk : KeepOk G (.ref C)
  at' : DefAt G a c.fd (bodyOf c.fd)
  hn : ∃ k, (c.self, k) ∈ c.fd.scope.names ∧ (k = .local ∨ k = .cell)
  bd : ∀ ds bd, c.bind ds = some bd → (∀ φ x vs (s : Shared), RepL φ vs ds → Gnd G φ s → ∃ binds, BindsTo s c.fd ⟨.ref x :: vs, []⟩ ((c.self, .ref x) :: binds) ∧ RepK φ binds bd) ∧
    (∀ p ∈ bd, p.1 ≠ c.self) ∧ (∀ x ∈ bd, ∃ k, (x.1, k) ∈ c.fd.scope.names ∧ (k = .local ∨ k = .cell))
structure TabOk (G : Gd) (K : Frag) (T : Tab) : Prop where
  gl : ∀ x d, T.gl x = some d → GlOk G x d
  mt : ∀ l d x f fs, T.mt d x = some (f, fs) → MtOk G l d x f fs
  att : ∀ l d x e, T.att d x = some e → AttOk G l d x e
  st : ∀ C a, T.st C a = true → StOk G C a
  df : ∀ a x, T.df a = some x → DfOk G a x
  cf : ∀ C c, T.cf C = some c → ∃ a, CfOk G K C c a
theorem PN_ok {G : Gd} {K : Frag} {mg mb : Str → Option Value} {T : Tab} (B : Bs G K mg mb) (O : TabOk G K T) (n : Nat) : POk G (2 * n) (PN T n) := by
  induction n with
  | zero => exact ⟨O.gl, fun f ds ks d h => fnB_ok h, O.mt _, O.att _, O.st⟩
  | succ n ih =>
    refine ⟨O.gl, fun f ds ks d h => ?_, O.mt _, O.att _, O.st⟩
    replace h : fnU T (PN T n) f ds ks = some d := h
    unfold fnU at h
    generalize hf : refA f = r_; induction r_ using Option.casesOn with
    | none => rw [hf] at h; exact fnB_ok h
    | some a =>
      rw [hf] at h
      rw [refA_inv hf]
      replace h : fnR T (PN T n) a ds ks = some d := h
      unfold fnR at h
      generalize hx : T.df a = r_; induction r_ using Option.casesOn with
      | some x =>
        rw [hx] at h
        refine o1_e h fun bd hb h => ?_
        have q := O.df a x hx
        refine e0a2 (q.bd _ _ _ hb) fun h1 h2 => ?_
        refine CallOk.mono (l := 2 * n + 1) (def_ok (n := depN) ih B.lim q.at' h1 h2 ?_) (by omega)
        exact (outD_inv h).imp (fun z => z) fun z => z
      | none =>
        rw [hx] at h
        refine o1_e h fun c hc h => ?_
        refine oif_e h fun hk g => ?_
        refine o1_e g fun bd hb g2 => ?_
        have qq := isNil_inv hk; subst qq
        refine e1a1 (O.cf a c hc) fun a' q => ?_
        refine e0a3 (q.bd _ _ hb) fun h1 h2 h3 => ?_
        unfold runC at g2
        by_cases hl : ∃ fs, Lays (PN T n) a c bd fs
        · rw [dif_pos hl] at g2
          refine some_e g2 ?_
          exact cls_ok (n := depN) B ih q.hm q.hi q.hf q.hk q.at' h1 h2 q.hn h3 (Classical.choose_spec hl)
        · rw [dif_neg hl] at g2; exact no_none g2
end Mine

namespace Mine
open PySem PySem.W PySem.Calls PyProof.Rows PySem.SeqAt

/-! the shapes of calls, and what K must say -/
noncomputable def pr0 : Params := { strHash := fun _ => 0, shareClass := id, mergeTok := id, idOf := fun _ => 0, idOfShared := fun _ _ => 0, followText := fun _ => true, idOfImm := fun _ => 0 }
noncomputable def fdAt (K : Frag) (a : Addr) : FuncData := match K.lookup a with
  | some ⟨_, _, .func fd, _⟩ => fd
  | _ => default
noncomputable def zipN : List Str → List D → Option (List (Str × D))
  | [], [] => some []
  | x :: xs, d :: ds => o1 (fun r => some ((x, d) :: r)) (zipN xs ds)
  | [], _ :: _ => none
  | _ :: _, [] => none
noncomputable def bnP (xs : List Str) (ds : List D) (ks : List (Str × D)) : Option (List (Str × D)) := if isNil ks = true then zipN xs ds else none
noncomputable def k1 : List (Str × D) → Option (Str × D)
  | [p] => some p
  | _ => none
theorem k1_inv {ks : List (Str × D)} {p : Str × D} (h : k1 ks = some p) : ks = [p] := by
  match ks, h with
  | [], h => exact no_none h
  | [_], h => rw [some_inv h]
  | _ :: _ :: _, h => exact no_none h
noncomputable def bnK (x y : Str) (ds : List D) (ks : List (Str × D)) : Option (List (Str × D)) := o2 (fun a p => if p.1 = y then some [(x, a), (y, p.2)] else none) (a1 ds) (k1 ks)
noncomputable def bnD (x y : Str) (ds : List D) (ks : List (Str × D)) : Option (List (Str × D)) := match ds with
  | [a] => if isNil ks = true then some [(x, a), (y, .none)] else none
  | ds => bnP [x, y] ds ks
noncomputable def bnF (x y z : Str) (ds : List D) (ks : List (Str × D)) : Option (List (Str × D)) := o1 (fun p => if isNil ks = true then some [(x, p.1), (y, p.2), (z, .bool false)] else none) (a2 ds)
section
variable {G : Gd} {K : Frag} {mg mb : Str → Option Value}
theorem keepOk_fn (B : Bs G K mg mb) {a : Addr} {oc : Value} {od : Option Addr} {fd : FuncData} {sl : Array (Option Value)} (h : K.lookup a = some ⟨oc, od, .func fd, sl⟩) : KeepOk G (.ref a) :=
  ⟨.frame, .inr rfl, fun M => (Looks.ld (part := none) (B.X _ _ h)).andThen .now⟩
theorem keepOk_cls (B : Bs G K mg mb) {a : Addr} {oc : Value} {od : Option Addr} {cd : ClassData} {sl : Array (Option Value)} (h : K.lookup a = some ⟨oc, od, .cls cd, sl⟩) (e : specialIn K (.ref a) "__call__" = some (some (.builtin "type.__call__"))) : KeepOk G (.ref a) :=
  ⟨.machine, .inl rfl, fun M => (Looks.ld (part := none) (B.X _ _ h)).andThen ((looks_specialIn B.X e).andThen .now)⟩
theorem defAt_K (B : Bs G K mg mb) {a : Addr} {oc : Value} {od : Option Addr} {fd : FuncData} {sl : Array (Option Value)} (h : K.lookup a = some ⟨oc, od, .func fd, sl⟩) (F : FdOk fd (bodyOf fd)) (hc : codeIn K fd.code fd.qualname = true) : DefAt G a fd (bodyOf fd) :=
  ⟨F, ⟨_, B.X _ _ h, rfl⟩, codeRec_of B.X hc, keepOk_fn B h⟩
theorem bind_K (B : Bs G K mg mb) {φ : Fz} {s : Shared} (g : Gnd G φ s) {fd : FuncData} {args : Args} {binds : List (Str × Value)} (e : ∀ S, peek K S (bindArgs fd args) = some binds) : BindsTo s fd args binds := kp_binds (B.In g) e
noncomputable def nmsOk (names : List (Str × NameKind)) (xs : List Str) : Bool := xs.all fun x => names.any fun p => p.1 == x && (p.2 == .local || p.2 == .cell)
theorem nmsOk_of {names : List (Str × NameKind)} {xs : List Str} (h : nmsOk names xs = true) {bd : List (Str × D)} (e : bd.map (·.1) = xs) : ∀ y ∈ bd, ∃ k, (y.1, k) ∈ names ∧ (k = .local ∨ k = .cell) := fun y hy => by
  have := List.all_eq_true.mp h y.1 (e ▸ List.mem_map.mpr ⟨y, hy, rfl⟩)
  refine e1a2 (List.any_eq_true.mp this) fun p hp q => ?_
  refine e0a2 (Bool.and_eq_true_iff.mp q) fun q1 q2 => ?_
  have q1 := beq_iff_eq.mp q1
  refine ⟨p.2, by rw [← q1]; exact hp, ?_⟩
  rcases Bool.or_eq_true_iff.mp q2 with z | z
  · exact .inl (by simpa using z)
  · exact .inr (by simpa using z)
theorem repK_one {φ : Fz} {x : Str} {v : Value} {d : D} (h : Rep φ v d) : RepK φ [(x, v)] [(x, d)] := ⟨rfl, .cons h .nil⟩
theorem repK_cons {φ : Fz} {x : Str} {v : Value} {d : D} {vs : List (Str × Value)} {ds : List (Str × D)} (h : Rep φ v d) (r : RepK φ vs ds) : RepK φ ((x, v) :: vs) ((x, d) :: ds) := ⟨by rw [List.map_cons, List.map_cons, r.1], .cons h r.2⟩
theorem repK_nil' {φ : Fz} : RepK φ [] [] := ⟨rfl, .nil⟩
section
variable {fd : FuncData} {a : Addr}
theorem zipN_ok {φ : Fz} {xs : List Str} {vs : List Value} {ds : List D} {bd : List (Str × D)} (h : zipN xs ds = some bd) (r : RepL φ vs ds) : vs.length = xs.length ∧ RepK φ (xs.zip vs) bd := by
  induction xs generalizing vs ds bd with
  | nil => induction ds using List.casesOn with
    | nil => refine some_e h ?_; rw [r.iNil]; exact ⟨rfl, repK_nil'⟩
    | cons d ds => exact no_none h
  | cons x xs ih => induction ds using List.casesOn with
    | nil => exact no_none h
    | cons d ds =>
      refine o1_e h fun bd' h1 h => ?_
      refine r.sCons fun v ws r1 rs => ?_
      refine e0a2 (ih h1 rs) fun e1 e3 => ?_
      refine some_e h ?_
      exact ⟨congrArg Nat.succ e1, repK_cons r1 e3⟩
theorem dfG (B : Bs G K mg mb) {xs : List Str} {bind : List D → List (Str × D) → Option (List (Str × D))} (D₀ : DefAt G a fd (bodyOf fd)) (hn : nmsOk fd.scope.names xs = true)
    (h : ∀ ds ks bd, bind ds ks = some bd → bd.map (·.1) = xs ∧ ∀ φ vs kvs, RepL φ vs ds → RepK φ kvs ks → ∃ binds, (∀ S, peek K S (bindArgs fd ⟨vs, kvs⟩) = some binds) ∧ RepK φ binds bd) : DfOk G a ⟨fd, bind⟩ :=
  ⟨D₀, fun ds ks bd e => ⟨fun φ vs kvs s r rk g => ((h ds ks bd e).2 φ vs kvs r rk).elim fun binds q => ⟨binds, bind_K B g q.1, q.2⟩, nmsOk_of hn (h ds ks bd e).1⟩⟩
theorem repK_iNil {φ : Fz} {kvs : List (Str × Value)} (h : RepK φ kvs []) : kvs = [] := List.map_eq_nil_iff.mp h.1
theorem zipN_names {xs : List Str} {ds : List D} {bd : List (Str × D)} (h : zipN xs ds = some bd) : bd.map (·.1) = xs := by
  induction xs generalizing ds bd with
  | nil => induction ds using List.casesOn with
    | nil => refine some_e h ?_; rfl
    | cons d ds => exact no_none h
  | cons x xs ih => induction ds using List.casesOn with
    | nil => exact no_none h
    | cons d ds =>
      refine o1_e h fun bd' h1 h => ?_
      refine some_e h ?_
      exact congrArg (x :: ·) (ih h1)
theorem bnP_ok {xs : List Str} (e : ∀ vs : List Value, vs.length = xs.length → ∀ S, peek K S (bindArgs fd ⟨vs, []⟩) = some (xs.zip vs)) {ds : List D} {ks : List (Str × D)} {bd : List (Str × D)} (h : bnP xs ds ks = some bd) :
    bd.map (·.1) = xs ∧ ∀ φ vs kvs, RepL φ vs ds → RepK φ kvs ks → ∃ binds, (∀ S, peek K S (bindArgs fd ⟨vs, kvs⟩) = some binds) ∧ RepK φ binds bd := by
  refine oif_e h fun hk h => ?_
  have qq := isNil_inv hk; subst qq
  refine ⟨zipN_names h, fun φ vs kvs r rk => ?_⟩
  refine e0a2 (zipN_ok h r) fun e1 e3 => ?_
  have qq := repK_iNil rk; subst qq
  exact ⟨_, e vs e1, e3⟩
theorem dfP (B : Bs G K mg mb) {xs : List Str} (D₀ : DefAt G a fd (bodyOf fd)) (hn : nmsOk fd.scope.names xs = true) (e : ∀ vs : List Value, vs.length = xs.length → ∀ S, peek K S (bindArgs fd ⟨vs, []⟩) = some (xs.zip vs)) : DfOk G a ⟨fd, bnP xs⟩ :=
  dfG B D₀ hn fun ds ks bd h => bnP_ok e h
theorem of0 {α : Type} {P : List α → Prop} (h : P []) : ∀ vs, vs.length = 0 → P vs := fun vs e => List.length_eq_zero_iff.mp e ▸ h
theorem ofS {n : Nat} {α : Type} {P : List α → Prop} (h : ∀ v vs, vs.length = n → P (v :: vs)) : ∀ vs, vs.length = n + 1 → P vs := fun vs => by
  induction vs using List.casesOn with
  | nil => exact fun e => (Nat.zero_ne_add_one n e).elim
  | cons v vs => exact fun e => h v vs (Nat.succ.inj e)
theorem of1 {α : Type} {P : List α → Prop} (h : ∀ v, P [v]) : ∀ vs, vs.length = 1 → P vs := ofS fun v => of0 (P := fun vs => P (v :: vs)) (h v)
theorem of2 {α : Type} {P : List α → Prop} (h : ∀ v w, P [v, w]) : ∀ vs, vs.length = 2 → P vs := ofS fun v => of1 (P := fun vs => P (v :: vs)) (h v)
theorem of3 {α : Type} {P : List α → Prop} (h : ∀ v w u, P [v, w, u]) : ∀ vs, vs.length = 3 → P vs := ofS fun v => of2 (P := fun vs => P (v :: vs)) (h v)
theorem of4 {α : Type} {P : List α → Prop} (h : ∀ v w u t, P [v, w, u, t]) : ∀ vs, vs.length = 4 → P vs := ofS fun v => of3 (P := fun vs => P (v :: vs)) (h v)
theorem RepL.i1 {φ : Fz} {vs : List Value} {d : D} (h : RepL φ vs [d]) : ∃ v, vs = [v] ∧ Rep φ v d := by
  refine h.sCons fun v ws r rs => ?_
  rw [rs.iNil]
  exact ⟨v, rfl, r⟩
theorem RepL.i2 {φ : Fz} {vs : List Value} {d e : D} (h : RepL φ vs [d, e]) : ∃ v w, vs = [v, w] ∧ Rep φ v d ∧ Rep φ w e := by
  refine h.sCons fun v ws r rs => ?_
  refine e1a2 (rs.i1) fun w rr1 r2 => ?_
  subst rr1
  exact ⟨v, w, rfl, r, r2⟩
theorem dfK (B : Bs G K mg mb) {x y : Str} (D₀ : DefAt G a fd (bodyOf fd)) (hn : nmsOk fd.scope.names [x, y] = true) (e : ∀ v w S, peek K S (bindArgs fd ⟨[v], [(y, w)]⟩) = some [(x, v), (y, w)]) : DfOk G a ⟨fd, bnK x y⟩ :=
  dfG B D₀ hn fun ds ks bd h => by
    obtain ⟨d, ⟨y', d'⟩, hd, hk, h⟩ := o2_inv h
    refine oif_e h fun q h => ?_
    rw [a1_inv hd, k1_inv hk, some_inv h]
    refine ⟨rfl, fun φ vs kvs r rk => ?_⟩
    refine e1a2 (r.i1) fun v rr1 r1 => ?_
    subst rr1
    refine e0a2 (rk) fun k1 k2 => ?_
    induction kvs using List.casesOn with
    | nil => cases k1
    | cons p kvs =>
      obtain ⟨n, w⟩ := p
      refine e0a2 (List.cons.inj k1) fun e1 e2 => ?_
      have qq := List.map_eq_nil_iff.mp e2; subst qq
      refine e1a2 (k2.i1) fun w' e3 r2 => ?_
      have qq := (List.cons.inj e3).1; subst qq
      have hq : n = y := e1.trans q
      rw [hq]
      exact ⟨_, e v w, repK_cons r1 (repK_one r2)⟩
theorem dfD (B : Bs G K mg mb) {x y : Str} (D₀ : DefAt G a fd (bodyOf fd)) (hn : nmsOk fd.scope.names [x, y] = true) (e : ∀ v w S, peek K S (bindArgs fd ⟨[v, w], []⟩) = some [(x, v), (y, w)]) (e1 : ∀ v S, peek K S (bindArgs fd ⟨[v], []⟩) = some [(x, v), (y, .none)]) : DfOk G a ⟨fd, bnD x y⟩ :=
  dfG B D₀ hn fun ds ks bd h => by
    match ds, h with
    | [d], h =>
      refine oif_e h fun hk h => ?_
      have qq := isNil_inv hk; subst qq
      refine some_e h ?_
      refine ⟨rfl, fun φ vs kvs r rk => ?_⟩
      refine e1a2 (r.i1) fun v rr1 r1 => ?_
      subst rr1
      have qq := repK_iNil rk; subst qq
      exact ⟨_, e1 v, repK_cons r1 (repK_one .none)⟩
    | [], h => exact bnP_ok (xs := [x, y]) (of2 e) h
    | _ :: _ :: _, h => exact bnP_ok (xs := [x, y]) (of2 e) h
theorem dfF (B : Bs G K mg mb) {x y z : Str} (D₀ : DefAt G a fd (bodyOf fd)) (hn : nmsOk fd.scope.names [x, y, z] = true) (e : ∀ v w S, peek K S (bindArgs fd ⟨[v, w], []⟩) = some [(x, v), (y, w), (z, .bool false)]) : DfOk G a ⟨fd, bnF x y z⟩ :=
  dfG B D₀ hn fun ds ks bd h => by
    obtain ⟨⟨d, d'⟩, hd, h⟩ := o1_inv h
    refine oif_e h fun hk h => ?_
    have qq := isNil_inv hk; subst qq
    rw [a2_inv hd, some_inv h]
    refine ⟨rfl, fun φ vs kvs r rk => ?_⟩
    refine e2a3 (r.i2) fun v w rr2 r1 r2 => ?_
    subst rr2
    have qq := repK_iNil rk; subst qq
    exact ⟨_, e v w, repK_cons r1 (repK_cons r2 (repK_one (.bool _)))⟩
end
noncomputable def bnC (x : Str) (ds : List D) : Option (List (Str × D)) := o1 (fun a => some [(x, a)]) (a1 ds)
theorem cfC (B : Bs G K mg mb) {C a : Addr} {self x : Str} {fd : FuncData} (hm : makesIn K C = true) (hi : findIn K (.ref C) "__init__" = some (some (.ref a))) (hf : isFn K (.ref a) = true) (hk : KeepOk G (.ref C)) (D₀ : DefAt G a fd (bodyOf fd))
    (hn : nmsOk fd.scope.names [self] = true) (hn' : nmsOk fd.scope.names [x] = true) (hne : x ≠ self) (e : ∀ v w S, peek K S (bindArgs fd ⟨[v, w], []⟩) = some [(self, v), (x, w)]) : CfOk G K C ⟨fd, self, bnC x⟩ a := by
  refine ⟨hm, hi, hf, hk, D₀, nmsOk_of (bd := [(self, .none)]) hn rfl _ List.mem_cons_self, fun ds bd h => ?_⟩
  refine o1_e h fun d hd h => ?_
  rw [a1_inv hd, some_inv h]
  refine ⟨fun φ y vs s r g => ?_, fun p hp => ?_, nmsOk_of hn' rfl⟩
  · refine e1a2 (r.i1) fun v rr1 r1 => ?_
    subst rr1
    exact ⟨_, bind_K B g (e _ _), repK_one r1⟩
  · rw [List.mem_singleton.mp hp]; exact hne
end
end Mine

namespace Mine
open PySem PySem.W PySem.Calls PyProof.Rows PySem.SeqAt

/-! a program's table from lists -/
structure TD where
  C : Addr
  gl : List (Str × D)
  ms : List (Str × Addr)
  ats : List Str
  cats : List (Str × List Nat)
  sts : List Str
  dfs : List (Addr × Df)
  cf : Cf
noncomputable def strM : List (Str × String) := [("join", "str.join"), ("split", "str.split"), ("encode", "str.encode"), ("isascii", "str.isascii"), ("lstrip", "str.lstrip"), ("find", "str.find")]
noncomputable def mtT (t : TD) (d : D) (x : Str) : Option (Value × List D) := match d with
  | .inst C fs => if C = t.C ∧ fs.lookup x = none then o1 (fun f => some (.ref f, [d])) (t.ms.lookup x) else none
  | .str _ => o1 (fun id => some (.builtin id, [d])) (strM.lookup x)
  | .bytes _ => if x = ("translate" : Str) then some (.builtin "bytes.translate", [d]) else none
  | .list _ => if x = ("index" : Str) then some (.builtin "list.index", [d]) else none
  | .val v => o1 (fun n => if n = "bytes" ∧ x = ("maketrans" : Str) then some (.builtin "bytes.maketrans", []) else none) (typN v)
  | _ => none
noncomputable def noVal : D → Bool
  | .val _ => false
  | _ => true
noncomputable def refN : Value → Option Addr
  | .ref a => some a
  | _ => none
theorem refN_inv {v : Value} {a : Addr} (h : refN v = some a) : v = .ref a := by
  induction v using PySem.Value.casesOn <;> first | exact no_none h | rw [some_inv h]
noncomputable def attT (t : TD) (d : D) (x : Str) : Option D := match d with
  | .inst C fs => if C = t.C ∧ x ∈ t.ats then o1 (fun e => if noVal e = true then some e else none) (fs.lookup x) else none
  | .val v => o1 (fun C => if C = t.C then o1 (fun s => some (.str s)) (t.cats.lookup x) else none) (refN v)
  | _ => none
noncomputable def TD.tab (t : TD) : Tab where
  gl x := t.gl.lookup x
  mt := mtT t
  att := attT t
  st C a := C == t.C && t.sts.contains a
  df a := t.dfs.lookup a
  cf C := if C = t.C then some t.cf else none
set_option tactic.hygienic true in
theorem mem_lookup {α β : Type} [BEq α] [LawfulBEq α] {x : α} {v : β} : ∀ {l : List (α × β)}, l.lookup x = some v → (x, v) ∈ l
  | [], h => by cases h
  | (y, w) :: l, h => by
    rw [List.lookup_cons] at h
    split at h
    · rename_i e; have qq := Option.some.inj (h); subst qq; rw [beq_iff_eq.mp e]; exact List.mem_cons_self
    · exact List.mem_cons_of_mem _ (mem_lookup h)
theorem noVal_of {d : D} (h : noVal d = true) : ∀ w, d ≠ .val w := fun w e => by subst e; exact no_ft h
section
variable {G : Gd} {K : Frag} {mg mb : Str → Option Value}
theorem strM_ok {l : Nat} {x : Str} {id : String} {s : List Nat} (h : (x, id) ∈ strM) : MtOk G l (.str s) x (.builtin id) [.str s] := by
  simp only [strM, List.mem_cons, List.not_mem_nil, or_false, Prod.mk.injEq] at h
  rcases h with ⟨rfl, rfl⟩ | ⟨rfl, rfl⟩ | ⟨rfl, rfl⟩ | ⟨rfl, rfl⟩ | ⟨rfl, rfl⟩ | ⟨rfl, rfl⟩
  · exact mt_str F.slot_str_join F.type_str_join
  · exact mt_str F.slot_str_split F.type_str_split
  · exact mt_str F.slot_str_encode F.type_str_encode
  · exact mt_str F.slot_str_isascii F.type_str_isascii
  · exact mt_str F.slot_str_lstrip F.type_str_lstrip
  · exact mt_str F.slot_str_find F.type_str_find
@[elab_as_elim] theorem some2_e {α β : Type} {P : α → β → Prop} {a c : α} {b d : β} (h : some (a, b) = some (c, d)) (k : P a b) : P c d := (Prod.mk.inj (Option.some.inj h)).1 ▸ (Prod.mk.inj (Option.some.inj h)).2 ▸ k
set_option tactic.hygienic true in
theorem TD.ok (B : Bs G K mg mb) (t : TD) (hg : ∀ p ∈ t.gl, GlOk G p.1 p.2) (hm : ∀ p ∈ t.ms, methIn K t.C p.1 p.2 = true) (ha : ∀ x ∈ t.ats, attrIn K t.C x = true)
    (hc : ∀ p ∈ t.cats, readsIn K t.C (.type "type") = true ∧ ∃ u, findCls K (.ref t.C) (.type "type") p.1 = some (.val (.str ⟨p.2.toArray⟩ u))) (hs : ∀ a ∈ t.sts, setIn K t.C a = true)
    (hd : ∀ p ∈ t.dfs, DfOk G p.1 p.2) (hcf : ∃ a, CfOk G K t.C t.cf a) : TabOk G K t.tab where
  gl x d h := hg _ (mem_lookup h)
  mt l d x f fs h := by
    replace h : mtT t d x = some (f, fs) := h
    induction d using Mine.D.casesOn <;> first | exact no_none h | skip
    case inst C gs =>
      refine oif_e h fun q h => ?_
      refine o1_e h fun a e h => ?_
      refine some2_e h ?_
      have q1 := q.1
      subst q1
      exact mt_inst B (hm _ (mem_lookup e)) q.2
    case str s =>
      refine o1_e h fun id e h => ?_
      exact some2_e h (strM_ok (mem_lookup e))
    case bytes s =>
      refine oif_e h fun q h => ?_
      subst q
      exact some2_e h (mt_bytes slot_bytes_translate type_bytes_translate)
    case list s =>
      refine oif_e h fun q h => ?_
      subst q
      exact some2_e h (mt_list F.slot_list_index F.type_list_index)
    case val v =>
      refine o1_e h fun n hn h => ?_
      refine oif_e h fun q h => ?_
      have e := typN_inv hn
      rw [q.1] at e
      rw [e, q.2]
      exact some2_e h (mt_maketrans B)
  att l d x e h := by
    replace h : attT t d x = some e := h
    induction d using Mine.D.casesOn <;> first | exact no_none h | skip
    case inst C gs =>
      refine oif_e h fun q h => ?_
      refine o1_e h fun e' he h => ?_
      refine oif_e h fun nv h => ?_
      refine some_e h ?_
      have q1 := q.1
      subst q1
      exact att_own B (ha _ q.2) he (noVal_of nv)
    case val v =>
      refine o1_e h fun C hC h => ?_
      refine oif_e h fun q h => ?_
      refine o1_e h fun s hs' h => ?_
      refine some_e h ?_
      rw [refN_inv hC, q]
      refine e0a2 (hc _ (mem_lookup hs')) fun h1 h2 => ?_
      refine e1a1 h2 fun u h2 => ?_
      exact att_cls B h1 h2 rfl fun φ => .str s u
  st C a h := by
    replace h : (C == t.C && t.sts.contains a) = true := h
    refine and_e h fun h1 h2 => ?_
    rw [beq_iff_eq.mp h1]
    exact st_ok B (hs _ (by simpa using h2))
  df a x h := hd _ (mem_lookup h)
  cf C c h := by
    replace h : (if C = t.C then some t.cf else none) = some c := h
    refine oif_e h fun q h2 => ?_
    subst q
    exact some_e h2 hcf
end
noncomputable def fdB (fd : FuncData) : Bool := (match fd.body with | .stmts _ => true | _ => false) && fd.globals == mainGlobals && fd.builtins == builtinsNs && fd.closure.isEmpty && !fd.scope.isCoroutine && !fd.scope.isGenerator && fd.scope.kind == .function && nodupB (fd.scope.names.map (·.1)) && fd.scope.names.all (fun p => p.2 != .free)
theorem fdOk_of {fd : FuncData} (h : fdB fd = true) : FdOk fd (bodyOf fd) := by
  refine and_e h fun h h9 => ?_
  refine and_e h fun h h8 => ?_
  refine and_e h fun h h7 => ?_
  refine and_e h fun h h6 => ?_
  refine and_e h fun h h5 => ?_
  refine and_e h fun h h4 => ?_
  refine and_e h fun h h3 => ?_
  refine and_e h fun h1 h2 => ?_
  refine ⟨?_, beq_iff_eq.mp h2, beq_iff_eq.mp h3, List.isEmpty_iff.mp h4, not_inv h5, not_inv h6, beq_iff_eq.mp h7, nodup_of_B h8, fun x hx => ?_⟩
  · unfold bodyOf
    generalize fd.body = b at h1 ⊢
    induction b using PySem.FuncBody.casesOn
    · rfl
    · exact no_ft h1
  · have := List.all_eq_true.mp h9 _ hx
    simp at this
end Mine

namespace Mine
open PySem PySem.W PySem.Calls PyProof.Rows PySem.SeqAt

theorem ints_rep {φ : Fz} {vs : List Value} {ns : List Int} (h : IntsAre vs ns) : RepL φ vs (ns.map D.int) := by
  induction h with
  | nil => exact .nil
  | cons i t _ ih => exact .cons (.int i t) ih
end Mine

namespace Mine
open PySem PySem.W PySem.Calls PyProof.Rows PySem.SeqAt

/-! reckoning a program's functions: entering, loops, comprehensions -/
theorem fn_df {t : TD} {n : Nat} {a : Addr} {ds : List D} {ks : List (Str × D)} {x : Df} {bd : List (Str × D)} (h : t.dfs.lookup a = some x) (hb : x.bind ds ks = some bd) : (PN t.tab (n + 1)).fn (.ref a) ds ks = runD (PN t.tab n) x.fd bd := by
  show fnR t.tab (PN t.tab n) a ds ks = _
  have h' : t.tab.df a = some x := h
  unfold fnR
  rw [h']
  show o1 _ (x.bind ds ks) = _
  rw [hb]
theorem fn_cf {t : TD} {n : Nat} {ds : List D} {bd : List (Str × D)} {fs : List (Str × D)} (h0 : t.dfs.lookup t.C = none) (hb : t.cf.bind ds = some bd) (h : Lays (PN t.tab n) t.C t.cf bd fs) : (PN t.tab (n + 1)).fn (.ref t.C) ds [] = some (.inst t.C fs) := by
  show fnR t.tab (PN t.tab n) t.C ds [] = _
  have h' : t.tab.df t.C = none := h0
  have h'' : t.tab.cf t.C = some t.cf := if_pos rfl
  unfold fnR
  rw [h']
  show o1 _ (t.tab.cf t.C) = _
  rw [h'']
  show o1 (runC _ _ _) (t.cf.bind ds) = _
  rw [hb]
  exact runC_eq h
theorem wa {t : TD} {n : Nat} {id : String} {ds : List D} : (PN t.tab n).fn (.builtin id) ds [] = bi id ds := by induction n using Nat.casesAuxOn <;> rfl
theorem wb {t : TD} {n : Nat} {id : String} {ds : List D} : (PN t.tab n).fn (.type id) ds [] = ty id ds := by induction n using Nat.casesAuxOn <;> rfl
theorem pn_gl {t : TD} {n : Nat} {x : Str} : (PN t.tab n).gl x = t.gl.lookup x := by induction n using Nat.casesAuxOn <;> rfl
theorem wY {t : TD} {n : Nat} {d : D} {x : Str} : (PN t.tab n).mt d x = mtT t d x := by induction n using Nat.casesAuxOn <;> rfl
theorem wZ {t : TD} {n : Nat} {d : D} {x : Str} : (PN t.tab n).att d x = attT t d x := by induction n using Nat.casesAuxOn <;> rfl
theorem pn_st {t : TD} {n : Nat} {C : Addr} {x : Str} : (PN t.tab n).st C x = (C == t.C && t.sts.contains x) := by induction n using Nat.casesAuxOn <;> rfl
theorem run_ex {P : Pg} {fd : FuncData} {bd : List (Str × D)} {r : Option D} (h : ∀ sc b, fd.scope = sc → bodyOf fd = b → outD (exN P 12 sc (rho0 (bindsD bd) sc.names) b) = r) : runD P fd bd = r := h _ _ rfl rfl
noncomputable def updR (ρ : Rho) : List (Str × LV) → Rho
  | [] => ρ
  | (x, v) :: r => updR (setR ρ x v) r
section
variable {P : Pg} {n : Nat} {sc : Scope} {ρ : Rho} {tgt : Expr} {b r : List Stmt} {x : Option SR}
set_option tactic.hygienic true in
theorem forX_U {α σ J : Type} (f : α → D) (st : σ → α → σ) (U : σ → J → List (Str × LV)) (Inv : Nat → σ → Prop) (all : List α) : ∀ (xs : List α) (k : Nat) (s₀ : σ) (j₀ : J), all.drop k = xs → Inv k s₀ →
    (∀ k s j a, all[k]? = some a → Inv k s → Inv (k + 1) (st s a) ∧ ∃ ρ₁, bindT sc (updR ρ (U s j)) tgt (f a) = some ρ₁ ∧ ∃ j', exN P n sc ρ₁ b = some (.next (updR ρ (U (st s a) j'))) ∨ exN P n sc ρ₁ b = some (.cont (updR ρ (U (st s a) j')))) →
    ∃ j, forX P n sc tgt b (updR ρ (U s₀ j₀)) (xs.map f) = some (.next (updR ρ (U (xs.foldl st s₀) j))) ∧ Inv (k + xs.length) (xs.foldl st s₀)
  | [], k, s₀, j₀, _, i, _ => ⟨j₀, rfl, i⟩
  | a :: xs, k, s₀, j₀, hd, i, h => by
    have ha : all[k]? = some a := by
      have := congrArg (fun l => l[0]?) hd
      simpa using this
    have hd' : all.drop (k + 1) = xs := by
      rw [← List.drop_drop, hd]; rfl
    obtain ⟨i', ρ₁, h1, j', h2⟩ := h k s₀ j₀ a ha i
    refine e1a2 (forX_U f st U Inv all xs (k + 1) (st s₀ a) j' hd' i' h) fun j e i'' => ?_
    refine ⟨j, ?_, ?_⟩
    · rw [List.map_cons, List.foldl_cons]
      rcases h2 with h2 | h2
      · rw [for_next h1 h2]; exact e
      · rw [for_cont h1 h2]; exact e
    · rw [List.length_cons, List.foldl_cons, show k + (xs.length + 1) = k + 1 + xs.length by omega]; exact i''
set_option tactic.hygienic true in
theorem nx_forU {α σ J : Type} (f : α → D) (xs : List α) (st : σ → α → σ) (U : σ → J → List (Str × LV)) (Inv : Nat → σ → Prop) (s₀ : σ) (j₀ : J) (h0 : updR ρ (U s₀ j₀) = ρ) (hI : Inv 0 s₀)
    (hs : ∀ k s j a, xs[k]? = some a → Inv k s → Inv (k + 1) (st s a) ∧ ∃ ρ₁, bindT sc (updR ρ (U s j)) tgt (f a) = some ρ₁ ∧ ∃ j', exN P n sc ρ₁ b = some (.next (updR ρ (U (st s a) j'))) ∨ exN P n sc ρ₁ b = some (.cont (updR ρ (U (st s a) j'))))
    (k : ∀ j, Inv xs.length (xs.foldl st s₀) → exN P (n + 1) sc (updR ρ (U (xs.foldl st s₀) j)) r = x) : nxS P n sc r (forX P n sc tgt b ρ (xs.map f)) = x := by
  refine e1a2 (forX_U f st U Inv xs xs 0 s₀ j₀ rfl hI hs) fun j e i => ?_
  rw [h0] at e
  rw [e]
  exact k j (by simpa using i)
end
section
variable {V : EvF} {scope : Scope} {ρ₀ : Rho} {target elt : Expr}
theorem cGo_filter {α : Type} (f g : α → D) (p : α → Bool) {ifs : List Expr} : ∀ (xs : List α), (∀ a, a ∈ xs → ∃ ρ₁, bindT scope ρ₀ target (f a) = some ρ₁ ∧ ifsD V scope ρ₁ ifs = some (p a) ∧ (p a = true → V.e scope ρ₁ elt = some (g a))) →
    cGo V scope ρ₀ target ifs elt (xs.map f) = some (.list ((xs.filter p).map g)) := by
  intro xs h
  have : compGo V scope ρ₀ target ifs elt (xs.map f) = some ((xs.filter p).map g) := by
    induction xs with
    | nil => rfl
    | cons a xs ih =>
      refine e1a3 (h a List.mem_cons_self) fun ρ₁ h1 h2 h3 => ?_
      have ih := ih fun c hc => h c (List.mem_cons_of_mem _ hc)
      show o1 _ (bindT scope ρ₀ target (f a)) = _
      rw [h1]
      show o1 _ (ifsD V scope ρ₁ ifs) = _
      rw [h2]
      generalize hp : p a = r_; induction r_ using Bool.casesOn with
      | true =>
        show oCons (V.e scope ρ₁ elt) (compGo V scope ρ₀ target ifs elt (xs.map f)) = _
        rw [h3 hp, ih, List.filter_cons_of_pos hp]; rfl
      | false => rw [List.filter_cons_of_neg (by rw [hp]; decide)]; exact ih
  unfold cGo; rw [this]; rfl
theorem cGo_map {α : Type} (f g : α → D) (xs : List α) (h : ∀ a, a ∈ xs → ∃ ρ₁, bindT scope ρ₀ target (f a) = some ρ₁ ∧ V.e scope ρ₁ elt = some (g a)) : cGo V scope ρ₀ target [] elt (xs.map f) = some (.list (xs.map g)) := by
  have := cGo_filter (V := V) (scope := scope) (ρ₀ := ρ₀) (target := target) (elt := elt) (ifs := []) f g (fun _ => true) xs fun a ha => (h a ha).imp fun _ q => ⟨q.1, rfl, fun _ => q.2⟩
  rw [List.filter_eq_self.mpr fun _ _ => rfl] at this
  exact this
end
/-! equality of like data -/
theorem eqD_str (n : Nat) (a b : List Nat) : eqD (n + 1) (.str a) (.str b) = some (decide (a = b)) := rfl
theorem eqLD_any {α : Type} [DecidableEq α] {f : α → D} {n : Nat} (hf : ∀ a b, eqD n (f a) (f b) = some (decide (a = b))) : ∀ (xs ys : List α), eqLD (eqD n) (xs.map f) (ys.map f) = some (decide (xs = ys))
  | [], [] => rfl
  | [], _ :: _ => by simp [eqLD]
  | _ :: _, [] => by simp [eqLD]
  | x :: xs, y :: ys => by
    show o2 _ (eqD n (f x) (f y)) (eqLD (eqD n) (xs.map f) (ys.map f)) = _
    rw [hf, eqLD_any hf xs ys]
    exact congrArg some (by rw [Bool.eq_iff_iff]; simp)
/-! while -/
noncomputable def oWh2 (P : Pg) (n : Nat) (sc : Scope) (t : Expr) (b : List Stmt) (k : Nat) : Option SR → Option SR := o1 (forK fun ρ => whX P n sc t b k ρ)
set_option tactic.hygienic true in
noncomputable def oWh (P : Pg) (n : Nat) (sc : Scope) (t : Expr) (b : List Stmt) (k : Nat) (ρ : Rho) : Option Bool → Option SR := o1 fun z => match z with
  | false => some (.next ρ)
  | true => oWh2 P n sc t b k (exN P n sc ρ b)
section
variable {P : Pg} {n : Nat} {sc : Scope} {ρ : Rho} {t : Expr} {b : List Stmt} {k : Nat}
theorem xD : whX P n sc t b (k + 1) ρ = oWh P n sc t b k ρ (evT (evN P fuelN) sc ρ t) := id rfl
theorem xE : oWh P n sc t b k ρ (some true) = oWh2 P n sc t b k (exN P n sc ρ b) := id rfl
set_option tactic.hygienic true in
theorem xF : oWh P n sc t b k ρ (some false) = some (.next ρ) := id rfl
set_option tactic.hygienic true in
theorem xG : oWh2 P n sc t b k (some (.next ρ)) = whX P n sc t b k ρ := id rfl
end
/-! numbers -/
theorem nat_cast_nn (a : Nat) : (0 : Int) ≤ (a : Int) := Int.natCast_nonneg a
theorem vU {a b : Int} : binF .Add (.int a) (.int b) = some (.int (a + b)) := rfl
theorem ub {a b : Int} : binF .Sub (.int a) (.int b) = some (.int (a - b)) := rfl
theorem vY {a b : Int} : binF .Mult (.int a) (.int b) = if -big < a ∧ a < big ∧ -big < b ∧ b < big then some (.int (a * b)) else none := rfl
theorem vW {a b : Int} : binF .FloorDiv (.int a) (.int b) = if 0 < b ∧ b < big then some (.int (a / b)) else none := rfl
theorem vX {a b : Int} : binF .Mod (.int a) (.int b) = if 0 < b then some (.int (a % b)) else none := rfl
theorem ua {a b : Int} : binF .Pow (.int a) (.int b) = if 0 ≤ b ∧ b ≤ 100 ∧ 2 ≤ a ∧ a < 1000 then some (.int (a ^ b.toNat)) else none := rfl
theorem vV {a b : Int} : binF .BitAnd (.int a) (.int b) = if 0 ≤ a ∧ 0 ≤ b then some (.int ((a.toNat &&& b.toNat : Nat) : Int)) else none := rfl
theorem vZ {a b : Int} : binF .BitOr (.int a) (.int b) = if 0 ≤ a ∧ 0 ≤ b then some (.int ((a.toNat ||| b.toNat : Nat) : Int)) else none := rfl
theorem bz_shl {a b : Int} : binF .LShift (.int a) (.int b) = if 0 ≤ b ∧ b ≤ 100 ∧ -big < a ∧ a < big then some (.int (a * 2 ^ b.toNat)) else none := rfl
theorem bz_shr {a b : Int} : binF .RShift (.int a) (.int b) = if 0 ≤ b then some (.int (a / 2 ^ b.toNat)) else none := rfl
theorem xg {a b : Nat} : binF .Add (.int (a : Int)) (.int (b : Int)) = some (.int ((a + b : Nat) : Int)) := rfl
theorem xh {a b : Nat} : binF .BitOr (.int (a : Int)) (.int (b : Int)) = some (.int ((a ||| b : Nat) : Int)) := by
  rw [vZ, if_pos ⟨nat_cast_nn a, nat_cast_nn b⟩]; rfl
theorem xi {a b : Nat} : binF .BitAnd (.int (a : Int)) (.int (b : Int)) = some (.int ((a &&& b : Nat) : Int)) := by
  rw [vV, if_pos ⟨nat_cast_nn a, nat_cast_nn b⟩]; rfl
theorem n_shl {a k : Nat} (h : a < 1000000) (hk : k ≤ 100) : binF .LShift (.int (a : Int)) (.int (k : Int)) = some (.int ((a * 2 ^ k : Nat) : Int)) := by
  rw [bz_shl, if_pos (by unfold big; omega), Int.toNat_natCast, Int.natCast_mul, Int.natCast_pow]; rfl
theorem n_shr {a k : Nat} : binF .RShift (.int (a : Int)) (.int (k : Int)) = some (.int ((a / 2 ^ k : Nat) : Int)) := by
  rw [bz_shr, if_pos (nat_cast_nn k), Int.toNat_natCast, Int.natCast_ediv, Int.natCast_pow]; rfl
theorem n_div {a k : Nat} (h : 0 < k) (hk : k < 1000000) : binF .FloorDiv (.int (a : Int)) (.int (k : Int)) = some (.int ((a / k : Nat) : Int)) := by
  rw [vW, if_pos (by unfold big; omega)]; rfl
theorem n_mod {a k : Nat} (h : 0 < k) : binF .Mod (.int (a : Int)) (.int (k : Int)) = some (.int ((a % k : Nat) : Int)) := by
  rw [vX, if_pos (by omega)]; rfl
theorem n_mul {a k : Nat} (h : (a : Int) < big) (hk : (k : Int) < big) : binF .Mult (.int (a : Int)) (.int (k : Int)) = some (.int ((a * k : Nat) : Int)) := by
  rw [vY, if_pos (by unfold big at *; omega)]; rfl
theorem xj {a : Nat} (h : a < 1000000) : binF .LShift (.int (a : Int)) (.int 2) = some (.int ((a * 4 : Nat) : Int)) := n_shl (k := 2) h (by decide)
theorem xk {a : Nat} (h : a < 1000000) : binF .LShift (.int (a : Int)) (.int 4) = some (.int ((a * 16 : Nat) : Int)) := n_shl (k := 4) h (by decide)
theorem xl {a : Nat} (h : a < 1000000) : binF .LShift (.int (a : Int)) (.int 6) = some (.int ((a * 64 : Nat) : Int)) := n_shl (k := 6) h (by decide)
theorem xm {a : Nat} (h : a < 1000000) : binF .LShift (.int (a : Int)) (.int 8) = some (.int ((a * 256 : Nat) : Int)) := n_shl (k := 8) h (by decide)
theorem xn {a : Nat} : binF .RShift (.int (a : Int)) (.int 0) = some (.int ((a / 1 : Nat) : Int)) := n_shr (k := 0)
theorem xo {a : Nat} : binF .RShift (.int (a : Int)) (.int 2) = some (.int ((a / 4 : Nat) : Int)) := n_shr (k := 2)
theorem xq {a : Nat} : binF .RShift (.int (a : Int)) (.int 4) = some (.int ((a / 16 : Nat) : Int)) := n_shr (k := 4)
theorem xr {a : Nat} : binF .RShift (.int (a : Int)) (.int 6) = some (.int ((a / 64 : Nat) : Int)) := n_shr (k := 6)
theorem xt {a : Nat} : binF .BitAnd (.int (a : Int)) (.int 15) = some (.int ((a % 16 : Nat) : Int)) := by
  have := xi (a := a) (b := 15)
  rw [show (15 : Nat) = 2 ^ 4 - 1 from rfl, Nat.and_two_pow_sub_one_eq_mod] at this
  exact this
theorem xu {a : Nat} : binF .BitAnd (.int (a : Int)) (.int 3) = some (.int ((a % 4 : Nat) : Int)) := by
  have := xi (a := a) (b := 3)
  rw [show (3 : Nat) = 2 ^ 2 - 1 from rfl, Nat.and_two_pow_sub_one_eq_mod] at this
  exact this
theorem xv {a : Nat} : binF .BitAnd (.int (a : Int)) (.int 63) = some (.int ((a % 64 : Nat) : Int)) := by
  have := xi (a := a) (b := 63)
  rw [show (63 : Nat) = 2 ^ 6 - 1 from rfl, Nat.and_two_pow_sub_one_eq_mod] at this
  exact this
theorem xw {a : Nat} : binF .BitAnd (.int (a : Int)) (.int 65535) = some (.int ((a % 65536 : Nat) : Int)) := by
  have := xi (a := a) (b := 65535)
  rw [show (65535 : Nat) = 2 ^ 16 - 1 from rfl, Nat.and_two_pow_sub_one_eq_mod] at this
  exact this
theorem xx {a : Nat} : binF .Add (.int (a : Int)) (.int 1) = some (.int ((a + 1 : Nat) : Int)) := rfl
theorem xy : ((0 : Nat) : Int) = 0 := rfl
theorem xz : ((1 : Nat) : Int) = 1 := rfl
theorem xA : ((2 : Nat) : Int) = 2 := rfl
theorem xB : ((3 : Nat) : Int) = 3 := rfl
theorem xC : ((4 : Nat) : Int) = 4 := rfl
theorem xM {a b : List D} : binF .Add (.list a) (.list b) = if a.length + b.length ≤ lim then some (.list (a ++ b)) else none := by
  show (match (if _ then some _ else none) with | some l => some (D.list l) | none => binD _ _ _) = _
  by_cases h : a.length + b.length ≤ lim
  · rw [if_pos h, if_pos h]
  · rw [if_neg h, if_neg h]; rfl
theorem bl_mul {a : List D} {n : Int} : binF .Mult (.list a) (.int n) = if a.length * n.toNat ≤ lim ∧ n ≤ 1000000 ∧ -1000000 ≤ n then some (.list (reps n.toNat a)) else none := by
  show (match (if _ then some _ else none) with | some l => some (D.list l) | none => binD _ _ _) = _
  by_cases h : a.length * n.toNat ≤ lim ∧ n ≤ 1000000 ∧ -1000000 ≤ n
  · rw [if_pos h, if_pos h]
  · rw [if_neg h, if_neg h]; rfl
theorem xN {a b : List Nat} : binF .Add (.str a) (.str b) = if a.length + b.length ≤ lim then some (.str (a ++ b)) else none := rfl
theorem bs_mul {a : List Nat} {n : Int} : binF .Mult (.str a) (.int n) = if a.length * n.toNat ≤ lim ∧ n ≤ 1000000 ∧ -1000000 ≤ n then some (.str (reps n.toNat a)) else none := rfl
theorem yd {V : EvF} {sc : Scope} {ρ : Rho} : allT V sc ρ .And [] = some true := rfl
theorem ye {V : EvF} {sc : Scope} {ρ : Rho} : allT V sc ρ .Or [] = some false := rfl
theorem yf {x : Bool} : oAll .And (some x) (some true) = some x := by induction x using Bool.casesOn <;> rfl
theorem yh {x : Bool} : oAll .And (some x) (some false) = some false := by induction x using Bool.casesOn <;> rfl
theorem yi {x : Bool} : oAll .Or (some x) (some true) = some true := by induction x using Bool.casesOn <;> rfl
theorem yg {x : Bool} : oAll .Or (some x) (some false) = some x := by induction x using Bool.casesOn <;> rfl
theorem ints_nat : ∀ l : List Nat, ints? (l.map fun k : Nat => D.int (k : Int)) = some (l.map fun k : Nat => (k : Int))
  | [] => rfl
  | a :: l => congrArg (o1 fun m => some ((a : Int) :: m)) (ints_nat l)
theorem ints_map {α : Type} (g : α → Int) : ∀ l : List α, ints? (l.map fun a => D.int (g a)) = some (l.map g)
  | [] => rfl
  | a :: l => congrArg (o1 fun m => some (g a :: m)) (ints_map g l)
set_option tactic.hygienic true in
theorem oApp_a {x : Str} {l : List D} {d : D} {ρ₁ : Rho} (h : l.length ≤ lim) : oApp x (Str.ofString "append") (some (.ow l)) (some (d, ρ₁)) = some (.next (setR ρ₁ x (.ow (l ++ [d])))) := by
  show o1 _ (if l.length ≤ lim then some [d] else none) = _
  rw [if_pos h]
set_option tactic.hygienic true in
theorem zp {x : Str} {l t : List D} {ρ₁ : Rho} (h : l.length + t.length ≤ lim) : oApp x (Str.ofString "extend") (some (.ow l)) (some (.list t, ρ₁)) = some (.next (setR ρ₁ x (.ow (l ++ t)))) := by
  show o1 _ (if l.length + t.length ≤ lim then some t else none) = _
  rw [if_pos h]
noncomputable def LJ : Option D → LV
  | none => .un
  | some d => .fz d
theorem jl : LJ none = .un := rfl
theorem jm {d : D} : LJ (some d) = .fz d := rfl
theorem jk {N : List Str} {x : Str} {j : Option D} {r : Rho} : frzM N ((x, LJ j) :: r) = (x, LJ j) :: frzM N r := by induction j using Option.casesOn <;> rfl
theorem bytesD_ok {l : List D} {is : List Int} (h : ints? l = some is) (h2 : ∀ n ∈ is, 0 ≤ n ∧ n < 256) (h3 : l.length ≤ lim) : bytesD [.list l] = some (.bytes (is.map fun n => n.toNat.toUInt8)) := by
  show o1 _ (ints? l) = _
  rw [h]; exact if_pos ⟨h2, h3⟩
theorem bytesD_nat {l : List Nat} (h2 : ∀ n ∈ l, n < 256) (h3 : l.length ≤ lim) : bytesD [.list (l.map fun k : Nat => D.int (k : Int))] = some (.bytes (l.map fun n => n.toUInt8)) := by
  rw [bytesD_ok (ints_nat l) (fun x hx => by obtain ⟨k, hk, rfl⟩ := List.mem_map.mp hx; have := h2 k hk; omega) (by rw [List.length_map]; exact h3), List.map_map]
  rfl
/-! tests -/
section
variable {P : Pg} {n : Nat} {sc : Scope} {ρ : Rho} {b o r : List Stmt}
theorem zq : oIfS (exN P n sc) ρ b o (some true) = exN P n sc ρ b := id rfl
theorem zr : oIfS (exN P n sc) ρ b o (some false) = exN P n sc ρ o := id rfl
theorem ug {t : Bool} : oIfS (exN P n sc) ρ b o (some t) = if t = true then exN P n sc ρ b else exN P n sc ρ o := by induction t using Bool.casesOn <;> rfl
theorem ue {c : Prop} [Decidable c] {x y : Option SR} : nxS P n sc r (if c then x else y) = if c then nxS P n sc r x else nxS P n sc r y := by split <;> rfl
theorem uf {x y : Bool} : oAnd (some x) (some y) = some (x && y) := by induction x using Bool.casesOn <;> rfl
theorem zk {x : Option Bool} : oAll .And (some false) x = some false := rfl
theorem zl {x : Option Bool} : oAll .Or (some true) x = some true := rfl
theorem zm {x : Option Bool} : oAll .Or (some false) x = x := rfl
theorem zi {x y : Option D} : oIf (some true) x y = x := rfl
theorem zj {x y : Option D} : oIf (some false) x y = y := rfl
theorem zn {x : Bool} : oNot (some x) = some (!x) := rfl
theorem ud {c : Prop} [Decidable c] {x y : D} : (if c then some (SR.ret x) else some (SR.ret y)) = some (SR.ret (if c then x else y)) := by split <;> rfl
theorem outD_of {d : D} {z : Option SR} (h : z = some (.ret d)) : outD z = some d := by rw [h]; rfl
theorem xc {d : D} : outD (some (.ret d)) = some d := id rfl
theorem wQ {a b : String} : isD (.val (.type a)) (.val (.type b)) = some (decide (a = b)) := by show some (a == b) = _; by_cases h : a = b <;> simp [h]
theorem wR {b : Bool} : isD (.bool b) .none = some false := rfl
theorem wS {b : List UInt8} : isD (.bytes b) .none = some false := rfl
theorem wT {b : List Nat} : isD (.str b) .none = some false := rfl
theorem uc {c : Prop} [Decidable c] {x y : Int} : (if c then D.int x else D.int y) = D.int (if c then x else y) := by split <;> rfl
end
/-! the built-ins, each by its name -/
theorem wc {ds : List D} : bi "len" ds = lenD ds := rfl
theorem we {ds : List D} : bi "max" ds = maxD ds := rfl
theorem wf {ds : List D} : bi "sum" ds = sumD ds := rfl
theorem wg {ds : List D} : bi "chr" ds = chrD ds := rfl
theorem wi {ds : List D} : bi "isinstance" ds = isiD ds := rfl
theorem wj {ds : List D} : bi "list.index" ds = indexD ds := rfl
theorem wF {x : List D} : lenD [.list x] = if x.length ≤ lim then some (.int x.length) else none := rfl
theorem wG {x : List Nat} : lenD [.str x] = if x.length ≤ lim then some (.int x.length) else none := rfl
theorem wH {x : List D} : lenD [.tup x] = if x.length ≤ lim then some (.int x.length) else none := rfl
theorem wI {x : List UInt8} : lenD [.bytes x] = if x.length ≤ lim then some (.int x.length) else none := rfl
theorem wJ {x : List UInt8} : typeD [.bytes x] = some (.val (.type "bytes")) := rfl
theorem wK {x : Bool} : typeD [.bool x] = some (.val (.type "bool")) := rfl
theorem wL {n : Int} : rangeD [.int n] = some (.rng 0 n 1) := rfl
theorem wM {a b : Int} : rangeD [.int a, .int b] = some (.rng a b 1) := rfl
theorem wN {a b : Int} : rangeD [.int a, .int b, .int (-1)] = some (.rng a b (-1)) := rfl
theorem wO {x : List D} : tupleD [.list x] = if x.length ≤ lim then some (.tup x) else none := rfl
theorem wP {x : List Nat} {n : String} : isiD [.str x, .val (.type n)] = if n = "str" then some (.bool true) else none := rfl
theorem wk {ds : List D} : bi "str.join" ds = joinD ds := rfl
theorem wm {ds : List D} : bi "str.split" ds = splitD ds := rfl
theorem wn {ds : List D} : bi "str.encode" ds = encodeD ds := rfl
theorem wo {ds : List D} : bi "str.lstrip" ds = lstripF ds := rfl
theorem wp {ds : List D} : bi "bytes.maketrans" ds = maketransD ds := rfl
theorem wq {ds : List D} : bi "bytes.translate" ds = translateD ds := rfl
theorem wu {ds : List D} : ty "type" ds = typeD ds := rfl
theorem wv {ds : List D} : ty "range" ds = rangeD ds := rfl
theorem ww {ds : List D} : ty "bytes" ds = bytesD ds := rfl
theorem wx {ds : List D} : ty "tuple" ds = tupleD ds := rfl
theorem wy {t : TD} {s : List Nat} : mtT t (.str s) ("join" : Str) = some (.builtin "str.join", [.str s]) := rfl
theorem wz {t : TD} {s : List Nat} : mtT t (.str s) ("split" : Str) = some (.builtin "str.split", [.str s]) := rfl
theorem wA {t : TD} {s : List Nat} : mtT t (.str s) ("encode" : Str) = some (.builtin "str.encode", [.str s]) := rfl
theorem wB {t : TD} {s : List Nat} : mtT t (.str s) ("lstrip" : Str) = some (.builtin "str.lstrip", [.str s]) := rfl
theorem wC {t : TD} {s : List UInt8} : mtT t (.bytes s) ("translate" : Str) = some (.builtin "bytes.translate", [.bytes s]) := rfl
theorem wD {t : TD} {s : List D} : mtT t (.list s) ("index" : Str) = some (.builtin "list.index", [.list s]) := rfl
theorem wE {t : TD} : mtT t (.val (.type "bytes")) ("maketrans" : Str) = some (.builtin "bytes.maketrans", []) := rfl
end Mine

namespace Mine
open PySem PySem.W PySem.Calls PyProof.Rows PySem.SeqAt

/-! the parts at given data, as lemmas that do not unfold -/
theorem yq {P : Pg} {sc : Scope} {x : Str} {d : D} : oLk P sc x (some (.fz d)) = some d := id rfl
theorem oLk_n {P : Pg} {sc : Scope} {x : Str} : oLk P sc x none = if sc.names.lookup x = some .globalImplicit then P.gl x else none := id rfl
theorem yt {op : Operator} {a b : D} : oBin op (some a) (some b) = binF op a b := id rfl
theorem yu {op : UnaryOp} {a : D} : oUn op (some a) = unD op a := id rfl
theorem yv {op : CmpOp} {a b : D} : oCmp op (some a) (some b) = cmpD op a b := id rfl
theorem yw {b : Bool} : oB (some b) = some (.bool b) := id rfl
theorem yx {o1 o2 : CmpOp} {a b c : D} : oCmp2 o1 o2 (some a) (some b) (some c) = oAnd (cmpD o1 a b) (cmpD o2 b c) := id rfl
theorem yy {d : D} {ds : List D} : oCons (some d) (some ds) = some (d :: ds) := id rfl
theorem yz {x : Str} {d : D} {ds : List (Str × D)} : oKw x (some d) (some ds) = some ((x, d) :: ds) := id rfl
theorem yA {l : List D} : oList (some l) = some (.list l) := id rfl
theorem yB {l : List D} : oTup (some l) = some (.tup l) := id rfl
theorem yC {P : Pg} {x : Str} {d : D} : oAtt P x (some d) = P.att d x := id rfl
theorem yD {i : Int} : oPart (some (.int i)) = some (some i) := id rfl
theorem yE {a : D} {l h k : Option Int} : oCut (some a) (some l) (some h) (some k) = cutD a l h k := id rfl
theorem yF {a : D} {k : Int} : oIdx (some a) (some (.int k)) = idxD a k := id rfl
theorem yG {P : Pg} {f : Value} {ds : List D} {ks : List (Str × D)} : oFn P (some (.val f)) (some ds) (some ks) = P.fn f ds ks := id rfl
theorem yH {d : D} : oTruth (some d) = truthD d := id rfl
theorem yI {V : EvF} {scope : Scope} {target elt : Expr} {ifs : List Expr} {items : List D} {ρ₀ : Rho} : oComp V scope target ifs elt (some items) (some ρ₀) = cGo V scope ρ₀ target ifs elt items := id rfl
theorem yJ {d : D} : oItems (some d) = itD d := id rfl
set_option tactic.hygienic true in
theorem yK {ρ : Rho} : oNext (some ρ) = some (.next ρ) := id rfl
theorem yT {sc : Scope} {x : Str} {fr : Bool} {d : D} {ρ₁ : Rho} : oAsg sc x fr (some (d, ρ₁)) = oNext (asgN sc ρ₁ x (lvOf fr d)) := id rfl
theorem oRow_t {sc : Scope} {ts : List Expr} {ds : List D} {ρ₁ : Rho} : oRow sc ts (some (.tup ds, ρ₁)) = if ds.length ≤ lim then oNext (bindNs sc ρ₁ ts ds) else none := id rfl
theorem oRow_l {sc : Scope} {ts : List Expr} {ds : List D} {ρ₁ : Rho} : oRow sc ts (some (.list ds, ρ₁)) = if ds.length ≤ lim then oNext (bindNs sc ρ₁ ts ds) else none := id rfl
theorem yX {V : EvF} {sc : Scope} {x : Str} {i : Expr} {d : D} {ρ₁ : Rho} : oSub V sc x i (some (d, ρ₁)) = oSub1 x (notSlice i) d (ρ₁.lookup x) (evO V sc ρ₁ i) := id rfl
set_option tactic.hygienic true in
theorem oSub1_s {x : Str} {ok : Bool} {d : D} {l : List D} {k : Int} {ρ₂ : Rho} : oSub1 x ok d (some (.ow l)) (some (.int k, ρ₂)) = if (flat d && inB k l.length && ok && decide (l.length ≤ lim)) = true then some (.next (setR ρ₂ x (.ow (l.set (ix k l.length) d)))) else none := id rfl
theorem yZ {sc : Scope} {x : Str} {v : Expr} {l m : List D} {ρ₁ : Rho} : oAug sc x v (some (.ow l)) (some (.list m, ρ₁)) = if (!(nmE fuelN v).contains x && nmOk x) = true then (if l.length + m.length ≤ lim then oNext (asgN sc ρ₁ x (.ow (l ++ m))) else none) else none := id rfl
theorem za {P : Pg} {n : Nat} {sc : Scope} {tgt : Expr} {b : List Stmt} {ρ : Rho} {items : List D} : oForI P n sc tgt b ρ (some items) = forX P n sc tgt b ρ items := id rfl
theorem zb {P : Pg} {n : Nat} {sc : Scope} {tgt : Expr} {b : List Stmt} {d : D} {ρ₁ : Rho} : oFor (exN P n sc) sc tgt b (some (d, ρ₁)) = oForI P n sc tgt b ρ₁ (itD d) := id rfl
theorem zc {d : D} {ρ : Rho} : oRet (some (d, ρ)) = some (.ret d) := id rfl
set_option tactic.hygienic true in
theorem zd {ρ : Rho} : oAssert ρ (some true) = some (.next ρ) := id rfl
theorem ze {P : Pg} {x : Str} {d : D} {ds : List D} {ks : List (Str × D)} : oMt P x (some d) (some ds) (some ks) = oM2 P ds ks (P.mt d x) := id rfl
theorem zf {P : Pg} {f : Value} {fs ds : List D} {ks : List (Str × D)} : oM2 P ds ks (some (f, fs)) = P.fn f (fs ++ ds) ks := id rfl
theorem zg {P : Pg} {x a : Str} {ok : Bool} {d : D} {ρ₁ : Rho} : oAttr P x a ok (some (d, ρ₁)) = oAt2 P x a ok d ρ₁ (ρ₁.lookup x) := id rfl
set_option tactic.hygienic true in
theorem oAt2_s {P : Pg} {x a : Str} {ok : Bool} {d : D} {ρ₁ : Rho} {y C : Addr} {fs : List (Str × D)} : oAt2 P x a ok d ρ₁ (some (.oi y C fs)) = if (P.st C a && decide (fs.length < 100) && ok) = true then some (.next (setR ρ₁ x (.oi y C (setF fs a d)))) else none := id rfl
theorem qV {P : Pg} {n : Nat} {sc : Scope} {ρ : Rho} {v : Expr} {p : Pos} {x : Str} {q : Pos} : (evN P (n + 1)).e sc ρ (.Subscript v (.Name x q) p) = oIdx ((evN P n).e sc ρ v) ((evN P n).e sc ρ (.Name x q)) := id rfl
theorem q6 {x : Str} {q : Pos} : notSlice (.Name x q) = true := rfl
theorem qW {P : Pg} {n : Nat} {sc : Scope} {ρ : Rho} {v : Expr} {p : Pos} {c : Const} {k : Nat} {q : Pos} : (evN P (n + 1)).e sc ρ (.Subscript v (.Constant c k q) p) = oIdx ((evN P n).e sc ρ v) ((evN P n).e sc ρ (.Constant c k q)) := id rfl
theorem qX {P : Pg} {n : Nat} {sc : Scope} {ρ : Rho} {v : Expr} {p : Pos} {l r : Expr} {op : Operator} {q : Pos} : (evN P (n + 1)).e sc ρ (.Subscript v (.BinOp l op r q) p) = oIdx ((evN P n).e sc ρ v) ((evN P n).e sc ρ (.BinOp l op r q)) := id rfl
theorem qY {P : Pg} {n : Nat} {sc : Scope} {ρ : Rho} {v : Expr} {p : Pos} {l : Expr} {op : UnaryOp} {q : Pos} : (evN P (n + 1)).e sc ρ (.Subscript v (.UnaryOp op l q) p) = oIdx ((evN P n).e sc ρ v) ((evN P n).e sc ρ (.UnaryOp op l q)) := id rfl
theorem q7 {l : Expr} {op : UnaryOp} {q : Pos} : notSlice (.UnaryOp op l q) = true := rfl
theorem qZ {P : Pg} {n : Nat} {sc : Scope} {ρ : Rho} {v : Expr} {p : Pos} {f : Expr} {as : List Expr} {ks : List Keyword} {q : Pos} : (evN P (n + 1)).e sc ρ (.Subscript v (.Call f as ks q) p) = oIdx ((evN P n).e sc ρ v) ((evN P n).e sc ρ (.Call f as ks q)) := id rfl
theorem xO {a b : D} : cmpD .Eq a b = eqD 8 a b := id rfl
theorem xP {a b : D} : cmpD .NotEq a b = oNot (eqD 8 a b) := id rfl
theorem xQ {a b : Int} : cmpD .Lt (.int a) (.int b) = some (decide (a < b)) := id rfl
theorem xR {a b : Int} : cmpD .LtE (.int a) (.int b) = some (decide (a ≤ b)) := id rfl
theorem xS {a b : Int} : cmpD .GtE (.int a) (.int b) = some (decide (b ≤ a)) := id rfl
theorem xT {a b : D} : cmpD .Is a b = isD a b := id rfl
theorem xU {a b : D} : cmpD .IsNot a b = oNot (isD a b) := id rfl
theorem xV {a b : D} : cmpD .In a b = inD a b := id rfl
theorem xW {a b : Int} : eqD 8 (.int a) (.int b) = some (decide (a = b)) := id rfl
theorem xX {a b : List Nat} : eqD 8 (.str a) (.str b) = some (decide (a = b)) := id rfl
theorem xY {a b : List UInt8} : eqD 8 (.bytes a) (.bytes b) = some (decide (a = b)) := id rfl
section
variable {V : EvF} {sc : Scope} {ρ : Rho} {target : Expr}
theorem zC {x : Str} {p : Pos} : compI V sc ρ target (.Name x p) = oItems (V.e sc ρ (.Name x p)) := id rfl
theorem zD {v i : Expr} {p : Pos} : compI V sc ρ target (.Subscript v i p) = oItems (V.e sc ρ (.Subscript v i p)) := id rfl
theorem zE {es : List Expr} {p : Pos} : compI V sc ρ target (.List es p) = oItems (V.e sc ρ (.List es p)) := id rfl
theorem zF {z : Str} {q p : Pos} {a : Expr} : compI V sc ρ target (.Call (.Name z q) [a] [] p) = oItems (V.e sc ρ (.Call (.Name z q) [a] [] p)) := id rfl
theorem zG {z : String} {q p : Pos} {a b : Expr} (h : ¬ z = "zip") : compI V sc ρ target (.Call (.Name (Str.ofString z) q) [a, b] [] p) = oItems (V.e sc ρ (.Call (.Name (Str.ofString z) q) [a, b] [] p)) := id rfl
end
noncomputable def oAtI : Option D → Option D
  | some e => if noVal e = true then some e else none
  | none => none
theorem vi {x : List Nat} : oAtI (some (.str x)) = some (.str x) := id rfl
theorem att_in {t : TD} {fs : List (Str × D)} {x : Str} (h : x ∈ t.ats) : attT t (.inst t.C fs) x = oAtI (fs.lookup x) := by
  unfold attT oAtI; dsimp only; rw [if_pos ⟨rfl, h⟩] <;> (generalize fs.lookup x = r_; induction r_ using Option.casesOn <;> rfl)
set_option tactic.hygienic true in
noncomputable def NextOk (q : Rho → Prop) (z : Option SR) : Prop := ∃ ρ', z = some (.next ρ') ∧ q ρ'
theorem lays_nx {P : Pg} {C : Addr} {c : Cf} {bd fs : List (Str × D)} (h : ∀ sc b y, c.fd.scope = sc → bodyOf c.fd = b → NextOk (fun ρ' => ρ'.lookup c.self = some (.oi y C fs)) (exN P 12 sc (rho0 (bindsI y C c.self bd) sc.names) b)) : Lays P C c bd fs := fun y => h _ _ y rfl rfl
set_option tactic.hygienic true in
theorem nextOk_of {q : Rho → Prop} {ρ : Rho} {z : Option SR} (h : z = some (.next ρ)) (k : q ρ) : NextOk q z := ⟨ρ, h, k⟩
set_option tactic.hygienic true in
theorem nx_forB_p {P : Pg} {n : Nat} {sc : Scope} {ρ : Rho} {tgt : Expr} {b r : List Stmt} {Qr : Option SR → Prop} {α σ J : Type} (f : α → D) (xs : List α) (p : α → Bool) (st : σ → α → σ) (U : σ → J → List (Str × LV)) (Inv : Nat → σ → Prop) (s₀ : σ) (j₀ : J) (h0 : updR ρ (U s₀ j₀) = ρ) (hI : Inv 0 s₀)
    (hs : ∀ k s j a, xs[k]? = some a → Inv k s → (p a = true → Inv (k + 1) (st s a)) ∧ ∃ ρ₁, bindT sc (updR ρ (U s j)) tgt (f a) = some ρ₁ ∧ (p a = true → ∃ j', exN P n sc ρ₁ b = some (.next (updR ρ (U (st s a) j')))) ∧ (p a = false → ∃ j', exN P n sc ρ₁ b = some (.brk (updR ρ (U s j')))))
    (k : ∀ j, Inv (xs.takeWhile p).length ((xs.takeWhile p).foldl st s₀) → Qr (exN P (n + 1) sc (updR ρ (U ((xs.takeWhile p).foldl st s₀) j)) r)) : Qr (nxS P n sc r (forX P n sc tgt b ρ (xs.map f))) := by
  have go : ∀ (ys : List α) (k : Nat) (s : σ) (j : J), xs.drop k = ys → Inv k s → ∃ j₁, forX P n sc tgt b (updR ρ (U s j)) (ys.map f) = some (.next (updR ρ (U ((ys.takeWhile p).foldl st s) j₁))) ∧ Inv (k + (ys.takeWhile p).length) ((ys.takeWhile p).foldl st s) := by
    intro ys
    induction ys with
    | nil => intro k s j _ i; exact ⟨j, rfl, i⟩
    | cons a ys ih =>
      intro k s j hd i
      have ha : xs[k]? = some a := by
        have := congrArg (fun l => l[0]?) hd
        simpa using this
      have hd' : xs.drop (k + 1) = ys := by rw [← List.drop_drop, hd]; rfl
      obtain ⟨i', ρ₁, h1, h2, h3⟩ := hs k s j a ha i
      rw [List.map_cons]
      generalize hp : p a = r_; induction r_ using Bool.casesOn with
      | true =>
        refine e1a1 (h2 hp) fun j' e' => ?_
        refine e1a2 (ih (k + 1) (st s a) j' hd' (i' hp)) fun j'' e i'' => ?_
        refine ⟨j'', ?_, ?_⟩
        · rw [List.takeWhile_cons_of_pos hp, List.foldl_cons, for_next h1 e']; exact e
        · rw [List.takeWhile_cons_of_pos hp, List.foldl_cons, List.length_cons, show k + ((ys.takeWhile p).length + 1) = k + 1 + (ys.takeWhile p).length by omega]; exact i''
      | false =>
        refine e1a1 (h3 hp) fun j' e' => ?_
        refine ⟨j', ?_, ?_⟩
        · rw [List.takeWhile_cons_of_neg (by simp [hp]), for_brk h1 e']; rfl
        · rw [List.takeWhile_cons_of_neg (by simp [hp])]; exact i
  refine e1a2 (go xs 0 s₀ j₀ rfl hI) fun j e i => ?_
  rw [h0] at e
  rw [e]
  exact k j (by simpa using i)
end Mine

namespace Mine
open PySem PySem.W PySem.Calls PyProof.Rows PySem.SeqAt

/-! look-ups in one step -/
noncomputable abbrev EnP (α : Type) := List (String × α)
noncomputable abbrev enS {α : Type} (p : EnP α) : List (Str × α) := p.map fun q => (Str.ofString q.1, q.2)
noncomputable abbrev noN {α : Type} (p : EnP α) (a : String) : Bool := (p.map (·.1)).contains a
theorem lk_far {α : Type} {a : String} {r : List (Str × α)} (p : EnP α) (h : noN p a = false) : List.lookup (Str.ofString a) (enS p ++ r) = List.lookup (Str.ofString a) r := by
  induction p with
  | nil => rfl
  | cons q p ih =>
    have h : (a == q.1 || noN p a) = false := h
    obtain ⟨h1, h2⟩ := Bool.or_eq_false_iff.mp h
    show List.lookup (Str.ofString a) ((Str.ofString q.1, q.2) :: (enS p ++ r)) = _
    rw [lk_cons, if_neg (beq_eq_false_iff_ne.mp h1), ih h2]
theorem lk_here {α : Type} {a : String} {v : α} {r : List (Str × α)} : List.lookup (Str.ofString a) ((Str.ofString a, v) :: r) = some v := by rw [lk_cons, if_pos rfl]
theorem lk_at {α : Type} {a : String} {v : α} {r : List (Str × α)} (p : EnP α) (h : noN p a = false) : List.lookup (Str.ofString a) (enS p ++ (Str.ofString a, v) :: r) = some v := (lk_far p h).trans lk_here
theorem lk_not {α : Type} {a : String} (p : EnP α) (h : noN p a = false) : List.lookup (Str.ofString a) (enS p) = none := by
  have := lk_far (r := []) p h
  rw [List.append_nil] at this
  exact this
theorem sr_far {a : String} {v : LV} {r : Rho} (p : EnP LV) (h : noN p a = false) : setR (enS p ++ r) (Str.ofString a) v = enS p ++ setR r (Str.ofString a) v := by
  induction p with
  | nil => rfl
  | cons q p ih =>
    have h : (a == q.1 || noN p a) = false := h
    obtain ⟨h1, h2⟩ := Bool.or_eq_false_iff.mp h
    show setR ((Str.ofString q.1, q.2) :: (enS p ++ r)) _ _ = _
    rw [setR_cons, if_neg (fun z => beq_eq_false_iff_ne.mp h1 z.symm), ih h2]
    rfl
theorem sr_here {a : String} {u v : LV} {r : Rho} : setR ((Str.ofString a, u) :: r) (Str.ofString a) v = (Str.ofString a, v) :: setR r (Str.ofString a) v := by rw [setR_cons, if_pos rfl]
theorem sr_at {a : String} {u v : LV} {r : Rho} (p : EnP LV) (h : noN p a = false) : setR (enS p ++ (Str.ofString a, u) :: r) (Str.ofString a) v = enS p ++ (Str.ofString a, v) :: setR r (Str.ofString a) v := by rw [sr_far p h, sr_here]
theorem sr_not {a : String} {v : LV} (p : EnP LV) (h : noN p a = false) : setR (enS p) (Str.ofString a) v = enS p := by
  have := sr_far (r := []) (v := v) p h
  rw [List.append_nil] at this
  rw [this]; exact List.append_nil _
noncomputable def nmk (a : String) (l : List String) : Bool := !(a == "__debug__") && !(a == "__classdict__") && !(l.contains a)
theorem nmk_is {a : String} {l : List String} (h : nmk a l = true) : nmOk (Str.ofString a) = true ∧ l.contains a = false := by
  unfold nmk at h
  rw [yo]
  obtain ⟨h1, h2⟩ := Bool.and_eq_true_iff.mp h
  exact ⟨h1, by simpa using h2⟩
section
variable {P : Pg} {n : Nat} {sc : Scope} {ρ : Rho}
theorem nm_at {a : String} {q : Pos} {d : D} {r : Rho} (p : EnP LV) (h : nmk a (p.map (·.1)) = true) : (evN P (n + 1)).e sc (enS p ++ (Str.ofString a, .fz d) :: r) (.Name (Str.ofString a) q) = some d := by
  obtain ⟨h1, h2⟩ := nmk_is h
  rw [ev_name, if_pos h1, lk_at p h2]; rfl
noncomputable def ask (sc : Scope) (a : String) (l : List String) : Bool := storable sc (Str.ofString a) && !(l.contains a)
theorem as_at {a : String} {u v : LV} {r : Rho} (p : EnP LV) (h : ask sc a (p.map (·.1)) = true) : asgN sc (enS p ++ (Str.ofString a, u) :: r) (Str.ofString a) v = some (enS p ++ (Str.ofString a, v) :: setR r (Str.ofString a) v) := by
  obtain ⟨h1, h2⟩ := Bool.and_eq_true_iff.mp h
  have h2 : noN p a = false := by simpa using h2
  unfold asgN hasR
  rw [h1, lk_at p h2, sr_at p h2]; rfl

theorem j5 {α : Type} {a : String} {v : α} {r : List (Str × α)} (h : [].contains a = false) : List.lookup (Str.ofString a) ((Str.ofString a, v) :: r) = some v := lk_at [] h
theorem kE {a : String} {u v : LV} {r : Rho} (h : [].contains a = false) : setR ((Str.ofString a, u) :: r) (Str.ofString a) v = (Str.ofString a, v) :: setR r (Str.ofString a) v := sr_at [] h
theorem jH {a : String} {q : Pos} {d : D} {r : Rho} (h : nmk a [] = true) : (evN P (n + 1)).e sc ((Str.ofString a, .fz d) :: r) (.Name (Str.ofString a) q) = some d := nm_at [] h
theorem qi {a : String} {u v : LV} {r : Rho} (h : ask sc a [] = true) : asgN sc ((Str.ofString a, u) :: r) (Str.ofString a) v = some ((Str.ofString a, v) :: setR r (Str.ofString a) v) := as_at [] h
theorem j6 {α : Type} {a b0 : String} {v0 : α} {v : α} {r : List (Str × α)} (h : [b0].contains a = false) : List.lookup (Str.ofString a) ((Str.ofString b0, v0) :: (Str.ofString a, v) :: r) = some v := lk_at [(b0, v0)] h
theorem ku {α : Type} {a b0 : String} {v0 : α} (h : [b0].contains a = false) : List.lookup (Str.ofString a) ([(Str.ofString b0, v0)] : List (Str × α)) = none := lk_not [(b0, v0)] h
theorem kF {a b0 : String} {v0 : LV} {u v : LV} {r : Rho} (h : [b0].contains a = false) : setR ((Str.ofString b0, v0) :: (Str.ofString a, u) :: r) (Str.ofString a) v = (Str.ofString b0, v0) :: (Str.ofString a, v) :: setR r (Str.ofString a) v := sr_at [(b0, v0)] h
theorem kQ {a b0 : String} {v0 : LV} {v : LV} (h : [b0].contains a = false) : setR [(Str.ofString b0, v0)] (Str.ofString a) v = [(Str.ofString b0, v0)] := sr_not [(b0, v0)] h
theorem jI {a b0 : String} {v0 : LV} {q : Pos} {d : D} {r : Rho} (h : nmk a [b0] = true) : (evN P (n + 1)).e sc ((Str.ofString b0, v0) :: (Str.ofString a, .fz d) :: r) (.Name (Str.ofString a) q) = some d := nm_at [(b0, v0)] h
theorem qj {a b0 : String} {v0 : LV} {u v : LV} {r : Rho} (h : ask sc a [b0] = true) : asgN sc ((Str.ofString b0, v0) :: (Str.ofString a, u) :: r) (Str.ofString a) v = some ((Str.ofString b0, v0) :: (Str.ofString a, v) :: setR r (Str.ofString a) v) := as_at [(b0, v0)] h
theorem j7 {α : Type} {a b0 b1 : String} {v0 v1 : α} {v : α} {r : List (Str × α)} (h : [b0, b1].contains a = false) : List.lookup (Str.ofString a) ((Str.ofString b0, v0) :: (Str.ofString b1, v1) :: (Str.ofString a, v) :: r) = some v := lk_at [(b0, v0), (b1, v1)] h
theorem kv {α : Type} {a b0 b1 : String} {v0 v1 : α} (h : [b0, b1].contains a = false) : List.lookup (Str.ofString a) ([(Str.ofString b0, v0), (Str.ofString b1, v1)] : List (Str × α)) = none := lk_not [(b0, v0), (b1, v1)] h
theorem kH {a b0 b1 : String} {v0 v1 : LV} {u v : LV} {r : Rho} (h : [b0, b1].contains a = false) : setR ((Str.ofString b0, v0) :: (Str.ofString b1, v1) :: (Str.ofString a, u) :: r) (Str.ofString a) v = (Str.ofString b0, v0) :: (Str.ofString b1, v1) :: (Str.ofString a, v) :: setR r (Str.ofString a) v := sr_at [(b0, v0), (b1, v1)] h
theorem kR {a b0 b1 : String} {v0 v1 : LV} {v : LV} (h : [b0, b1].contains a = false) : setR [(Str.ofString b0, v0), (Str.ofString b1, v1)] (Str.ofString a) v = [(Str.ofString b0, v0), (Str.ofString b1, v1)] := sr_not [(b0, v0), (b1, v1)] h
theorem jJ {a b0 b1 : String} {v0 v1 : LV} {q : Pos} {d : D} {r : Rho} (h : nmk a [b0, b1] = true) : (evN P (n + 1)).e sc ((Str.ofString b0, v0) :: (Str.ofString b1, v1) :: (Str.ofString a, .fz d) :: r) (.Name (Str.ofString a) q) = some d := nm_at [(b0, v0), (b1, v1)] h
theorem qk {a b0 b1 : String} {v0 v1 : LV} {u v : LV} {r : Rho} (h : ask sc a [b0, b1] = true) : asgN sc ((Str.ofString b0, v0) :: (Str.ofString b1, v1) :: (Str.ofString a, u) :: r) (Str.ofString a) v = some ((Str.ofString b0, v0) :: (Str.ofString b1, v1) :: (Str.ofString a, v) :: setR r (Str.ofString a) v) := as_at [(b0, v0), (b1, v1)] h
theorem j8 {α : Type} {a b0 b1 b2 : String} {v0 v1 v2 : α} {v : α} {r : List (Str × α)} (h : [b0, b1, b2].contains a = false) : List.lookup (Str.ofString a) ((Str.ofString b0, v0) :: (Str.ofString b1, v1) :: (Str.ofString b2, v2) :: (Str.ofString a, v) :: r) = some v := lk_at [(b0, v0), (b1, v1), (b2, v2)] h
theorem kx {α : Type} {a b0 b1 b2 : String} {v0 v1 v2 : α} (h : [b0, b1, b2].contains a = false) : List.lookup (Str.ofString a) ([(Str.ofString b0, v0), (Str.ofString b1, v1), (Str.ofString b2, v2)] : List (Str × α)) = none := lk_not [(b0, v0), (b1, v1), (b2, v2)] h
theorem kI {a b0 b1 b2 : String} {v0 v1 v2 : LV} {u v : LV} {r : Rho} (h : [b0, b1, b2].contains a = false) : setR ((Str.ofString b0, v0) :: (Str.ofString b1, v1) :: (Str.ofString b2, v2) :: (Str.ofString a, u) :: r) (Str.ofString a) v = (Str.ofString b0, v0) :: (Str.ofString b1, v1) :: (Str.ofString b2, v2) :: (Str.ofString a, v) :: setR r (Str.ofString a) v := sr_at [(b0, v0), (b1, v1), (b2, v2)] h
theorem kS {a b0 b1 b2 : String} {v0 v1 v2 : LV} {v : LV} (h : [b0, b1, b2].contains a = false) : setR [(Str.ofString b0, v0), (Str.ofString b1, v1), (Str.ofString b2, v2)] (Str.ofString a) v = [(Str.ofString b0, v0), (Str.ofString b1, v1), (Str.ofString b2, v2)] := sr_not [(b0, v0), (b1, v1), (b2, v2)] h
theorem jK {a b0 b1 b2 : String} {v0 v1 v2 : LV} {q : Pos} {d : D} {r : Rho} (h : nmk a [b0, b1, b2] = true) : (evN P (n + 1)).e sc ((Str.ofString b0, v0) :: (Str.ofString b1, v1) :: (Str.ofString b2, v2) :: (Str.ofString a, .fz d) :: r) (.Name (Str.ofString a) q) = some d := nm_at [(b0, v0), (b1, v1), (b2, v2)] h
theorem ql {a b0 b1 b2 : String} {v0 v1 v2 : LV} {u v : LV} {r : Rho} (h : ask sc a [b0, b1, b2] = true) : asgN sc ((Str.ofString b0, v0) :: (Str.ofString b1, v1) :: (Str.ofString b2, v2) :: (Str.ofString a, u) :: r) (Str.ofString a) v = some ((Str.ofString b0, v0) :: (Str.ofString b1, v1) :: (Str.ofString b2, v2) :: (Str.ofString a, v) :: setR r (Str.ofString a) v) := as_at [(b0, v0), (b1, v1), (b2, v2)] h
theorem j9 {α : Type} {a b0 b1 b2 b3 : String} {v0 v1 v2 v3 : α} {v : α} {r : List (Str × α)} (h : [b0, b1, b2, b3].contains a = false) : List.lookup (Str.ofString a) ((Str.ofString b0, v0) :: (Str.ofString b1, v1) :: (Str.ofString b2, v2) :: (Str.ofString b3, v3) :: (Str.ofString a, v) :: r) = some v := lk_at [(b0, v0), (b1, v1), (b2, v2), (b3, v3)] h
theorem ky {α : Type} {a b0 b1 b2 b3 : String} {v0 v1 v2 v3 : α} (h : [b0, b1, b2, b3].contains a = false) : List.lookup (Str.ofString a) ([(Str.ofString b0, v0), (Str.ofString b1, v1), (Str.ofString b2, v2), (Str.ofString b3, v3)] : List (Str × α)) = none := lk_not [(b0, v0), (b1, v1), (b2, v2), (b3, v3)] h
theorem kJ {a b0 b1 b2 b3 : String} {v0 v1 v2 v3 : LV} {u v : LV} {r : Rho} (h : [b0, b1, b2, b3].contains a = false) : setR ((Str.ofString b0, v0) :: (Str.ofString b1, v1) :: (Str.ofString b2, v2) :: (Str.ofString b3, v3) :: (Str.ofString a, u) :: r) (Str.ofString a) v = (Str.ofString b0, v0) :: (Str.ofString b1, v1) :: (Str.ofString b2, v2) :: (Str.ofString b3, v3) :: (Str.ofString a, v) :: setR r (Str.ofString a) v := sr_at [(b0, v0), (b1, v1), (b2, v2), (b3, v3)] h
theorem kT {a b0 b1 b2 b3 : String} {v0 v1 v2 v3 : LV} {v : LV} (h : [b0, b1, b2, b3].contains a = false) : setR [(Str.ofString b0, v0), (Str.ofString b1, v1), (Str.ofString b2, v2), (Str.ofString b3, v3)] (Str.ofString a) v = [(Str.ofString b0, v0), (Str.ofString b1, v1), (Str.ofString b2, v2), (Str.ofString b3, v3)] := sr_not [(b0, v0), (b1, v1), (b2, v2), (b3, v3)] h
theorem jL {a b0 b1 b2 b3 : String} {v0 v1 v2 v3 : LV} {q : Pos} {d : D} {r : Rho} (h : nmk a [b0, b1, b2, b3] = true) : (evN P (n + 1)).e sc ((Str.ofString b0, v0) :: (Str.ofString b1, v1) :: (Str.ofString b2, v2) :: (Str.ofString b3, v3) :: (Str.ofString a, .fz d) :: r) (.Name (Str.ofString a) q) = some d := nm_at [(b0, v0), (b1, v1), (b2, v2), (b3, v3)] h
theorem qm {a b0 b1 b2 b3 : String} {v0 v1 v2 v3 : LV} {u v : LV} {r : Rho} (h : ask sc a [b0, b1, b2, b3] = true) : asgN sc ((Str.ofString b0, v0) :: (Str.ofString b1, v1) :: (Str.ofString b2, v2) :: (Str.ofString b3, v3) :: (Str.ofString a, u) :: r) (Str.ofString a) v = some ((Str.ofString b0, v0) :: (Str.ofString b1, v1) :: (Str.ofString b2, v2) :: (Str.ofString b3, v3) :: (Str.ofString a, v) :: setR r (Str.ofString a) v) := as_at [(b0, v0), (b1, v1), (b2, v2), (b3, v3)] h
theorem ka {α : Type} {a b0 b1 b2 b3 b4 : String} {v0 v1 v2 v3 v4 : α} {v : α} {r : List (Str × α)} (h : [b0, b1, b2, b3, b4].contains a = false) : List.lookup (Str.ofString a) ((Str.ofString b0, v0) :: (Str.ofString b1, v1) :: (Str.ofString b2, v2) :: (Str.ofString b3, v3) :: (Str.ofString b4, v4) :: (Str.ofString a, v) :: r) = some v := lk_at [(b0, v0), (b1, v1), (b2, v2), (b3, v3), (b4, v4)] h
theorem kz {α : Type} {a b0 b1 b2 b3 b4 : String} {v0 v1 v2 v3 v4 : α} (h : [b0, b1, b2, b3, b4].contains a = false) : List.lookup (Str.ofString a) ([(Str.ofString b0, v0), (Str.ofString b1, v1), (Str.ofString b2, v2), (Str.ofString b3, v3), (Str.ofString b4, v4)] : List (Str × α)) = none := lk_not [(b0, v0), (b1, v1), (b2, v2), (b3, v3), (b4, v4)] h
theorem kK {a b0 b1 b2 b3 b4 : String} {v0 v1 v2 v3 v4 : LV} {u v : LV} {r : Rho} (h : [b0, b1, b2, b3, b4].contains a = false) : setR ((Str.ofString b0, v0) :: (Str.ofString b1, v1) :: (Str.ofString b2, v2) :: (Str.ofString b3, v3) :: (Str.ofString b4, v4) :: (Str.ofString a, u) :: r) (Str.ofString a) v = (Str.ofString b0, v0) :: (Str.ofString b1, v1) :: (Str.ofString b2, v2) :: (Str.ofString b3, v3) :: (Str.ofString b4, v4) :: (Str.ofString a, v) :: setR r (Str.ofString a) v := sr_at [(b0, v0), (b1, v1), (b2, v2), (b3, v3), (b4, v4)] h
theorem kU {a b0 b1 b2 b3 b4 : String} {v0 v1 v2 v3 v4 : LV} {v : LV} (h : [b0, b1, b2, b3, b4].contains a = false) : setR [(Str.ofString b0, v0), (Str.ofString b1, v1), (Str.ofString b2, v2), (Str.ofString b3, v3), (Str.ofString b4, v4)] (Str.ofString a) v = [(Str.ofString b0, v0), (Str.ofString b1, v1), (Str.ofString b2, v2), (Str.ofString b3, v3), (Str.ofString b4, v4)] := sr_not [(b0, v0), (b1, v1), (b2, v2), (b3, v3), (b4, v4)] h
theorem jM {a b0 b1 b2 b3 b4 : String} {v0 v1 v2 v3 v4 : LV} {q : Pos} {d : D} {r : Rho} (h : nmk a [b0, b1, b2, b3, b4] = true) : (evN P (n + 1)).e sc ((Str.ofString b0, v0) :: (Str.ofString b1, v1) :: (Str.ofString b2, v2) :: (Str.ofString b3, v3) :: (Str.ofString b4, v4) :: (Str.ofString a, .fz d) :: r) (.Name (Str.ofString a) q) = some d := nm_at [(b0, v0), (b1, v1), (b2, v2), (b3, v3), (b4, v4)] h
theorem qn {a b0 b1 b2 b3 b4 : String} {v0 v1 v2 v3 v4 : LV} {u v : LV} {r : Rho} (h : ask sc a [b0, b1, b2, b3, b4] = true) : asgN sc ((Str.ofString b0, v0) :: (Str.ofString b1, v1) :: (Str.ofString b2, v2) :: (Str.ofString b3, v3) :: (Str.ofString b4, v4) :: (Str.ofString a, u) :: r) (Str.ofString a) v = some ((Str.ofString b0, v0) :: (Str.ofString b1, v1) :: (Str.ofString b2, v2) :: (Str.ofString b3, v3) :: (Str.ofString b4, v4) :: (Str.ofString a, v) :: setR r (Str.ofString a) v) := as_at [(b0, v0), (b1, v1), (b2, v2), (b3, v3), (b4, v4)] h
theorem kc {α : Type} {a b0 b1 b2 b3 b4 b5 : String} {v0 v1 v2 v3 v4 v5 : α} {v : α} {r : List (Str × α)} (h : [b0, b1, b2, b3, b4, b5].contains a = false) : List.lookup (Str.ofString a) ((Str.ofString b0, v0) :: (Str.ofString b1, v1) :: (Str.ofString b2, v2) :: (Str.ofString b3, v3) :: (Str.ofString b4, v4) :: (Str.ofString b5, v5) :: (Str.ofString a, v) :: r) = some v := lk_at [(b0, v0), (b1, v1), (b2, v2), (b3, v3), (b4, v4), (b5, v5)] h
theorem kA {α : Type} {a b0 b1 b2 b3 b4 b5 : String} {v0 v1 v2 v3 v4 v5 : α} (h : [b0, b1, b2, b3, b4, b5].contains a = false) : List.lookup (Str.ofString a) ([(Str.ofString b0, v0), (Str.ofString b1, v1), (Str.ofString b2, v2), (Str.ofString b3, v3), (Str.ofString b4, v4), (Str.ofString b5, v5)] : List (Str × α)) = none := lk_not [(b0, v0), (b1, v1), (b2, v2), (b3, v3), (b4, v4), (b5, v5)] h
theorem kL {a b0 b1 b2 b3 b4 b5 : String} {v0 v1 v2 v3 v4 v5 : LV} {u v : LV} {r : Rho} (h : [b0, b1, b2, b3, b4, b5].contains a = false) : setR ((Str.ofString b0, v0) :: (Str.ofString b1, v1) :: (Str.ofString b2, v2) :: (Str.ofString b3, v3) :: (Str.ofString b4, v4) :: (Str.ofString b5, v5) :: (Str.ofString a, u) :: r) (Str.ofString a) v = (Str.ofString b0, v0) :: (Str.ofString b1, v1) :: (Str.ofString b2, v2) :: (Str.ofString b3, v3) :: (Str.ofString b4, v4) :: (Str.ofString b5, v5) :: (Str.ofString a, v) :: setR r (Str.ofString a) v := sr_at [(b0, v0), (b1, v1), (b2, v2), (b3, v3), (b4, v4), (b5, v5)] h
theorem kW {a b0 b1 b2 b3 b4 b5 : String} {v0 v1 v2 v3 v4 v5 : LV} {v : LV} (h : [b0, b1, b2, b3, b4, b5].contains a = false) : setR [(Str.ofString b0, v0), (Str.ofString b1, v1), (Str.ofString b2, v2), (Str.ofString b3, v3), (Str.ofString b4, v4), (Str.ofString b5, v5)] (Str.ofString a) v = [(Str.ofString b0, v0), (Str.ofString b1, v1), (Str.ofString b2, v2), (Str.ofString b3, v3), (Str.ofString b4, v4), (Str.ofString b5, v5)] := sr_not [(b0, v0), (b1, v1), (b2, v2), (b3, v3), (b4, v4), (b5, v5)] h
theorem jN {a b0 b1 b2 b3 b4 b5 : String} {v0 v1 v2 v3 v4 v5 : LV} {q : Pos} {d : D} {r : Rho} (h : nmk a [b0, b1, b2, b3, b4, b5] = true) : (evN P (n + 1)).e sc ((Str.ofString b0, v0) :: (Str.ofString b1, v1) :: (Str.ofString b2, v2) :: (Str.ofString b3, v3) :: (Str.ofString b4, v4) :: (Str.ofString b5, v5) :: (Str.ofString a, .fz d) :: r) (.Name (Str.ofString a) q) = some d := nm_at [(b0, v0), (b1, v1), (b2, v2), (b3, v3), (b4, v4), (b5, v5)] h
theorem qo {a b0 b1 b2 b3 b4 b5 : String} {v0 v1 v2 v3 v4 v5 : LV} {u v : LV} {r : Rho} (h : ask sc a [b0, b1, b2, b3, b4, b5] = true) : asgN sc ((Str.ofString b0, v0) :: (Str.ofString b1, v1) :: (Str.ofString b2, v2) :: (Str.ofString b3, v3) :: (Str.ofString b4, v4) :: (Str.ofString b5, v5) :: (Str.ofString a, u) :: r) (Str.ofString a) v = some ((Str.ofString b0, v0) :: (Str.ofString b1, v1) :: (Str.ofString b2, v2) :: (Str.ofString b3, v3) :: (Str.ofString b4, v4) :: (Str.ofString b5, v5) :: (Str.ofString a, v) :: setR r (Str.ofString a) v) := as_at [(b0, v0), (b1, v1), (b2, v2), (b3, v3), (b4, v4), (b5, v5)] h
theorem kd {α : Type} {a b0 b1 b2 b3 b4 b5 b6 : String} {v0 v1 v2 v3 v4 v5 v6 : α} {v : α} {r : List (Str × α)} (h : [b0, b1, b2, b3, b4, b5, b6].contains a = false) : List.lookup (Str.ofString a) ((Str.ofString b0, v0) :: (Str.ofString b1, v1) :: (Str.ofString b2, v2) :: (Str.ofString b3, v3) :: (Str.ofString b4, v4) :: (Str.ofString b5, v5) :: (Str.ofString b6, v6) :: (Str.ofString a, v) :: r) = some v := lk_at [(b0, v0), (b1, v1), (b2, v2), (b3, v3), (b4, v4), (b5, v5), (b6, v6)] h
theorem kB {α : Type} {a b0 b1 b2 b3 b4 b5 b6 : String} {v0 v1 v2 v3 v4 v5 v6 : α} (h : [b0, b1, b2, b3, b4, b5, b6].contains a = false) : List.lookup (Str.ofString a) ([(Str.ofString b0, v0), (Str.ofString b1, v1), (Str.ofString b2, v2), (Str.ofString b3, v3), (Str.ofString b4, v4), (Str.ofString b5, v5), (Str.ofString b6, v6)] : List (Str × α)) = none := lk_not [(b0, v0), (b1, v1), (b2, v2), (b3, v3), (b4, v4), (b5, v5), (b6, v6)] h
theorem kM {a b0 b1 b2 b3 b4 b5 b6 : String} {v0 v1 v2 v3 v4 v5 v6 : LV} {u v : LV} {r : Rho} (h : [b0, b1, b2, b3, b4, b5, b6].contains a = false) : setR ((Str.ofString b0, v0) :: (Str.ofString b1, v1) :: (Str.ofString b2, v2) :: (Str.ofString b3, v3) :: (Str.ofString b4, v4) :: (Str.ofString b5, v5) :: (Str.ofString b6, v6) :: (Str.ofString a, u) :: r) (Str.ofString a) v = (Str.ofString b0, v0) :: (Str.ofString b1, v1) :: (Str.ofString b2, v2) :: (Str.ofString b3, v3) :: (Str.ofString b4, v4) :: (Str.ofString b5, v5) :: (Str.ofString b6, v6) :: (Str.ofString a, v) :: setR r (Str.ofString a) v := sr_at [(b0, v0), (b1, v1), (b2, v2), (b3, v3), (b4, v4), (b5, v5), (b6, v6)] h
theorem kX {a b0 b1 b2 b3 b4 b5 b6 : String} {v0 v1 v2 v3 v4 v5 v6 : LV} {v : LV} (h : [b0, b1, b2, b3, b4, b5, b6].contains a = false) : setR [(Str.ofString b0, v0), (Str.ofString b1, v1), (Str.ofString b2, v2), (Str.ofString b3, v3), (Str.ofString b4, v4), (Str.ofString b5, v5), (Str.ofString b6, v6)] (Str.ofString a) v = [(Str.ofString b0, v0), (Str.ofString b1, v1), (Str.ofString b2, v2), (Str.ofString b3, v3), (Str.ofString b4, v4), (Str.ofString b5, v5), (Str.ofString b6, v6)] := sr_not [(b0, v0), (b1, v1), (b2, v2), (b3, v3), (b4, v4), (b5, v5), (b6, v6)] h
theorem jO {a b0 b1 b2 b3 b4 b5 b6 : String} {v0 v1 v2 v3 v4 v5 v6 : LV} {q : Pos} {d : D} {r : Rho} (h : nmk a [b0, b1, b2, b3, b4, b5, b6] = true) : (evN P (n + 1)).e sc ((Str.ofString b0, v0) :: (Str.ofString b1, v1) :: (Str.ofString b2, v2) :: (Str.ofString b3, v3) :: (Str.ofString b4, v4) :: (Str.ofString b5, v5) :: (Str.ofString b6, v6) :: (Str.ofString a, .fz d) :: r) (.Name (Str.ofString a) q) = some d := nm_at [(b0, v0), (b1, v1), (b2, v2), (b3, v3), (b4, v4), (b5, v5), (b6, v6)] h
theorem qp {a b0 b1 b2 b3 b4 b5 b6 : String} {v0 v1 v2 v3 v4 v5 v6 : LV} {u v : LV} {r : Rho} (h : ask sc a [b0, b1, b2, b3, b4, b5, b6] = true) : asgN sc ((Str.ofString b0, v0) :: (Str.ofString b1, v1) :: (Str.ofString b2, v2) :: (Str.ofString b3, v3) :: (Str.ofString b4, v4) :: (Str.ofString b5, v5) :: (Str.ofString b6, v6) :: (Str.ofString a, u) :: r) (Str.ofString a) v = some ((Str.ofString b0, v0) :: (Str.ofString b1, v1) :: (Str.ofString b2, v2) :: (Str.ofString b3, v3) :: (Str.ofString b4, v4) :: (Str.ofString b5, v5) :: (Str.ofString b6, v6) :: (Str.ofString a, v) :: setR r (Str.ofString a) v) := as_at [(b0, v0), (b1, v1), (b2, v2), (b3, v3), (b4, v4), (b5, v5), (b6, v6)] h
theorem ke {α : Type} {a b0 b1 b2 b3 b4 b5 b6 b7 : String} {v0 v1 v2 v3 v4 v5 v6 v7 : α} {v : α} {r : List (Str × α)} (h : [b0, b1, b2, b3, b4, b5, b6, b7].contains a = false) : List.lookup (Str.ofString a) ((Str.ofString b0, v0) :: (Str.ofString b1, v1) :: (Str.ofString b2, v2) :: (Str.ofString b3, v3) :: (Str.ofString b4, v4) :: (Str.ofString b5, v5) :: (Str.ofString b6, v6) :: (Str.ofString b7, v7) :: (Str.ofString a, v) :: r) = some v := lk_at [(b0, v0), (b1, v1), (b2, v2), (b3, v3), (b4, v4), (b5, v5), (b6, v6), (b7, v7)] h
theorem kN {a b0 b1 b2 b3 b4 b5 b6 b7 : String} {v0 v1 v2 v3 v4 v5 v6 v7 : LV} {u v : LV} {r : Rho} (h : [b0, b1, b2, b3, b4, b5, b6, b7].contains a = false) : setR ((Str.ofString b0, v0) :: (Str.ofString b1, v1) :: (Str.ofString b2, v2) :: (Str.ofString b3, v3) :: (Str.ofString b4, v4) :: (Str.ofString b5, v5) :: (Str.ofString b6, v6) :: (Str.ofString b7, v7) :: (Str.ofString a, u) :: r) (Str.ofString a) v = (Str.ofString b0, v0) :: (Str.ofString b1, v1) :: (Str.ofString b2, v2) :: (Str.ofString b3, v3) :: (Str.ofString b4, v4) :: (Str.ofString b5, v5) :: (Str.ofString b6, v6) :: (Str.ofString b7, v7) :: (Str.ofString a, v) :: setR r (Str.ofString a) v := sr_at [(b0, v0), (b1, v1), (b2, v2), (b3, v3), (b4, v4), (b5, v5), (b6, v6), (b7, v7)] h
theorem kY {a b0 b1 b2 b3 b4 b5 b6 b7 : String} {v0 v1 v2 v3 v4 v5 v6 v7 : LV} {v : LV} (h : [b0, b1, b2, b3, b4, b5, b6, b7].contains a = false) : setR [(Str.ofString b0, v0), (Str.ofString b1, v1), (Str.ofString b2, v2), (Str.ofString b3, v3), (Str.ofString b4, v4), (Str.ofString b5, v5), (Str.ofString b6, v6), (Str.ofString b7, v7)] (Str.ofString a) v = [(Str.ofString b0, v0), (Str.ofString b1, v1), (Str.ofString b2, v2), (Str.ofString b3, v3), (Str.ofString b4, v4), (Str.ofString b5, v5), (Str.ofString b6, v6), (Str.ofString b7, v7)] := sr_not [(b0, v0), (b1, v1), (b2, v2), (b3, v3), (b4, v4), (b5, v5), (b6, v6), (b7, v7)] h
theorem jP {a b0 b1 b2 b3 b4 b5 b6 b7 : String} {v0 v1 v2 v3 v4 v5 v6 v7 : LV} {q : Pos} {d : D} {r : Rho} (h : nmk a [b0, b1, b2, b3, b4, b5, b6, b7] = true) : (evN P (n + 1)).e sc ((Str.ofString b0, v0) :: (Str.ofString b1, v1) :: (Str.ofString b2, v2) :: (Str.ofString b3, v3) :: (Str.ofString b4, v4) :: (Str.ofString b5, v5) :: (Str.ofString b6, v6) :: (Str.ofString b7, v7) :: (Str.ofString a, .fz d) :: r) (.Name (Str.ofString a) q) = some d := nm_at [(b0, v0), (b1, v1), (b2, v2), (b3, v3), (b4, v4), (b5, v5), (b6, v6), (b7, v7)] h
theorem qr {a b0 b1 b2 b3 b4 b5 b6 b7 : String} {v0 v1 v2 v3 v4 v5 v6 v7 : LV} {u v : LV} {r : Rho} (h : ask sc a [b0, b1, b2, b3, b4, b5, b6, b7] = true) : asgN sc ((Str.ofString b0, v0) :: (Str.ofString b1, v1) :: (Str.ofString b2, v2) :: (Str.ofString b3, v3) :: (Str.ofString b4, v4) :: (Str.ofString b5, v5) :: (Str.ofString b6, v6) :: (Str.ofString b7, v7) :: (Str.ofString a, u) :: r) (Str.ofString a) v = some ((Str.ofString b0, v0) :: (Str.ofString b1, v1) :: (Str.ofString b2, v2) :: (Str.ofString b3, v3) :: (Str.ofString b4, v4) :: (Str.ofString b5, v5) :: (Str.ofString b6, v6) :: (Str.ofString b7, v7) :: (Str.ofString a, v) :: setR r (Str.ofString a) v) := as_at [(b0, v0), (b1, v1), (b2, v2), (b3, v3), (b4, v4), (b5, v5), (b6, v6), (b7, v7)] h
theorem kf {α : Type} {a b0 b1 b2 b3 b4 b5 b6 b7 b8 : String} {v0 v1 v2 v3 v4 v5 v6 v7 v8 : α} {v : α} {r : List (Str × α)} (h : [b0, b1, b2, b3, b4, b5, b6, b7, b8].contains a = false) : List.lookup (Str.ofString a) ((Str.ofString b0, v0) :: (Str.ofString b1, v1) :: (Str.ofString b2, v2) :: (Str.ofString b3, v3) :: (Str.ofString b4, v4) :: (Str.ofString b5, v5) :: (Str.ofString b6, v6) :: (Str.ofString b7, v7) :: (Str.ofString b8, v8) :: (Str.ofString a, v) :: r) = some v := lk_at [(b0, v0), (b1, v1), (b2, v2), (b3, v3), (b4, v4), (b5, v5), (b6, v6), (b7, v7), (b8, v8)] h
theorem kC {α : Type} {a b0 b1 b2 b3 b4 b5 b6 b7 b8 : String} {v0 v1 v2 v3 v4 v5 v6 v7 v8 : α} (h : [b0, b1, b2, b3, b4, b5, b6, b7, b8].contains a = false) : List.lookup (Str.ofString a) ([(Str.ofString b0, v0), (Str.ofString b1, v1), (Str.ofString b2, v2), (Str.ofString b3, v3), (Str.ofString b4, v4), (Str.ofString b5, v5), (Str.ofString b6, v6), (Str.ofString b7, v7), (Str.ofString b8, v8)] : List (Str × α)) = none := lk_not [(b0, v0), (b1, v1), (b2, v2), (b3, v3), (b4, v4), (b5, v5), (b6, v6), (b7, v7), (b8, v8)] h
theorem kZ {a b0 b1 b2 b3 b4 b5 b6 b7 b8 : String} {v0 v1 v2 v3 v4 v5 v6 v7 v8 : LV} {v : LV} (h : [b0, b1, b2, b3, b4, b5, b6, b7, b8].contains a = false) : setR [(Str.ofString b0, v0), (Str.ofString b1, v1), (Str.ofString b2, v2), (Str.ofString b3, v3), (Str.ofString b4, v4), (Str.ofString b5, v5), (Str.ofString b6, v6), (Str.ofString b7, v7), (Str.ofString b8, v8)] (Str.ofString a) v = [(Str.ofString b0, v0), (Str.ofString b1, v1), (Str.ofString b2, v2), (Str.ofString b3, v3), (Str.ofString b4, v4), (Str.ofString b5, v5), (Str.ofString b6, v6), (Str.ofString b7, v7), (Str.ofString b8, v8)] := sr_not [(b0, v0), (b1, v1), (b2, v2), (b3, v3), (b4, v4), (b5, v5), (b6, v6), (b7, v7), (b8, v8)] h
theorem jQ {a b0 b1 b2 b3 b4 b5 b6 b7 b8 : String} {v0 v1 v2 v3 v4 v5 v6 v7 v8 : LV} {q : Pos} {d : D} {r : Rho} (h : nmk a [b0, b1, b2, b3, b4, b5, b6, b7, b8] = true) : (evN P (n + 1)).e sc ((Str.ofString b0, v0) :: (Str.ofString b1, v1) :: (Str.ofString b2, v2) :: (Str.ofString b3, v3) :: (Str.ofString b4, v4) :: (Str.ofString b5, v5) :: (Str.ofString b6, v6) :: (Str.ofString b7, v7) :: (Str.ofString b8, v8) :: (Str.ofString a, .fz d) :: r) (.Name (Str.ofString a) q) = some d := nm_at [(b0, v0), (b1, v1), (b2, v2), (b3, v3), (b4, v4), (b5, v5), (b6, v6), (b7, v7), (b8, v8)] h
theorem qs {a b0 b1 b2 b3 b4 b5 b6 b7 b8 : String} {v0 v1 v2 v3 v4 v5 v6 v7 v8 : LV} {u v : LV} {r : Rho} (h : ask sc a [b0, b1, b2, b3, b4, b5, b6, b7, b8] = true) : asgN sc ((Str.ofString b0, v0) :: (Str.ofString b1, v1) :: (Str.ofString b2, v2) :: (Str.ofString b3, v3) :: (Str.ofString b4, v4) :: (Str.ofString b5, v5) :: (Str.ofString b6, v6) :: (Str.ofString b7, v7) :: (Str.ofString b8, v8) :: (Str.ofString a, u) :: r) (Str.ofString a) v = some ((Str.ofString b0, v0) :: (Str.ofString b1, v1) :: (Str.ofString b2, v2) :: (Str.ofString b3, v3) :: (Str.ofString b4, v4) :: (Str.ofString b5, v5) :: (Str.ofString b6, v6) :: (Str.ofString b7, v7) :: (Str.ofString b8, v8) :: (Str.ofString a, v) :: setR r (Str.ofString a) v) := as_at [(b0, v0), (b1, v1), (b2, v2), (b3, v3), (b4, v4), (b5, v5), (b6, v6), (b7, v7), (b8, v8)] h
theorem kg {α : Type} {a b0 b1 b2 b3 b4 b5 b6 b7 b8 b9 : String} {v0 v1 v2 v3 v4 v5 v6 v7 v8 v9 : α} {v : α} {r : List (Str × α)} (h : [b0, b1, b2, b3, b4, b5, b6, b7, b8, b9].contains a = false) : List.lookup (Str.ofString a) ((Str.ofString b0, v0) :: (Str.ofString b1, v1) :: (Str.ofString b2, v2) :: (Str.ofString b3, v3) :: (Str.ofString b4, v4) :: (Str.ofString b5, v5) :: (Str.ofString b6, v6) :: (Str.ofString b7, v7) :: (Str.ofString b8, v8) :: (Str.ofString b9, v9) :: (Str.ofString a, v) :: r) = some v := lk_at [(b0, v0), (b1, v1), (b2, v2), (b3, v3), (b4, v4), (b5, v5), (b6, v6), (b7, v7), (b8, v8), (b9, v9)] h
theorem k4 {a b0 b1 b2 b3 b4 b5 b6 b7 b8 b9 : String} {v0 v1 v2 v3 v4 v5 v6 v7 v8 v9 : LV} {v : LV} (h : [b0, b1, b2, b3, b4, b5, b6, b7, b8, b9].contains a = false) : setR [(Str.ofString b0, v0), (Str.ofString b1, v1), (Str.ofString b2, v2), (Str.ofString b3, v3), (Str.ofString b4, v4), (Str.ofString b5, v5), (Str.ofString b6, v6), (Str.ofString b7, v7), (Str.ofString b8, v8), (Str.ofString b9, v9)] (Str.ofString a) v = [(Str.ofString b0, v0), (Str.ofString b1, v1), (Str.ofString b2, v2), (Str.ofString b3, v3), (Str.ofString b4, v4), (Str.ofString b5, v5), (Str.ofString b6, v6), (Str.ofString b7, v7), (Str.ofString b8, v8), (Str.ofString b9, v9)] := sr_not [(b0, v0), (b1, v1), (b2, v2), (b3, v3), (b4, v4), (b5, v5), (b6, v6), (b7, v7), (b8, v8), (b9, v9)] h
theorem jR {a b0 b1 b2 b3 b4 b5 b6 b7 b8 b9 : String} {v0 v1 v2 v3 v4 v5 v6 v7 v8 v9 : LV} {q : Pos} {d : D} {r : Rho} (h : nmk a [b0, b1, b2, b3, b4, b5, b6, b7, b8, b9] = true) : (evN P (n + 1)).e sc ((Str.ofString b0, v0) :: (Str.ofString b1, v1) :: (Str.ofString b2, v2) :: (Str.ofString b3, v3) :: (Str.ofString b4, v4) :: (Str.ofString b5, v5) :: (Str.ofString b6, v6) :: (Str.ofString b7, v7) :: (Str.ofString b8, v8) :: (Str.ofString b9, v9) :: (Str.ofString a, .fz d) :: r) (.Name (Str.ofString a) q) = some d := nm_at [(b0, v0), (b1, v1), (b2, v2), (b3, v3), (b4, v4), (b5, v5), (b6, v6), (b7, v7), (b8, v8), (b9, v9)] h
theorem qt {a b0 b1 b2 b3 b4 b5 b6 b7 b8 b9 : String} {v0 v1 v2 v3 v4 v5 v6 v7 v8 v9 : LV} {u v : LV} {r : Rho} (h : ask sc a [b0, b1, b2, b3, b4, b5, b6, b7, b8, b9] = true) : asgN sc ((Str.ofString b0, v0) :: (Str.ofString b1, v1) :: (Str.ofString b2, v2) :: (Str.ofString b3, v3) :: (Str.ofString b4, v4) :: (Str.ofString b5, v5) :: (Str.ofString b6, v6) :: (Str.ofString b7, v7) :: (Str.ofString b8, v8) :: (Str.ofString b9, v9) :: (Str.ofString a, u) :: r) (Str.ofString a) v = some ((Str.ofString b0, v0) :: (Str.ofString b1, v1) :: (Str.ofString b2, v2) :: (Str.ofString b3, v3) :: (Str.ofString b4, v4) :: (Str.ofString b5, v5) :: (Str.ofString b6, v6) :: (Str.ofString b7, v7) :: (Str.ofString b8, v8) :: (Str.ofString b9, v9) :: (Str.ofString a, v) :: setR r (Str.ofString a) v) := as_at [(b0, v0), (b1, v1), (b2, v2), (b3, v3), (b4, v4), (b5, v5), (b6, v6), (b7, v7), (b8, v8), (b9, v9)] h
theorem kh {α : Type} {a b0 b1 b2 b3 b4 b5 b6 b7 b8 b9 b10 : String} {v0 v1 v2 v3 v4 v5 v6 v7 v8 v9 v10 : α} {v : α} {r : List (Str × α)} (h : [b0, b1, b2, b3, b4, b5, b6, b7, b8, b9, b10].contains a = false) : List.lookup (Str.ofString a) ((Str.ofString b0, v0) :: (Str.ofString b1, v1) :: (Str.ofString b2, v2) :: (Str.ofString b3, v3) :: (Str.ofString b4, v4) :: (Str.ofString b5, v5) :: (Str.ofString b6, v6) :: (Str.ofString b7, v7) :: (Str.ofString b8, v8) :: (Str.ofString b9, v9) :: (Str.ofString b10, v10) :: (Str.ofString a, v) :: r) = some v := lk_at [(b0, v0), (b1, v1), (b2, v2), (b3, v3), (b4, v4), (b5, v5), (b6, v6), (b7, v7), (b8, v8), (b9, v9), (b10, v10)] h
theorem k5 {a b0 b1 b2 b3 b4 b5 b6 b7 b8 b9 b10 : String} {v0 v1 v2 v3 v4 v5 v6 v7 v8 v9 v10 : LV} {v : LV} (h : [b0, b1, b2, b3, b4, b5, b6, b7, b8, b9, b10].contains a = false) : setR [(Str.ofString b0, v0), (Str.ofString b1, v1), (Str.ofString b2, v2), (Str.ofString b3, v3), (Str.ofString b4, v4), (Str.ofString b5, v5), (Str.ofString b6, v6), (Str.ofString b7, v7), (Str.ofString b8, v8), (Str.ofString b9, v9), (Str.ofString b10, v10)] (Str.ofString a) v = [(Str.ofString b0, v0), (Str.ofString b1, v1), (Str.ofString b2, v2), (Str.ofString b3, v3), (Str.ofString b4, v4), (Str.ofString b5, v5), (Str.ofString b6, v6), (Str.ofString b7, v7), (Str.ofString b8, v8), (Str.ofString b9, v9), (Str.ofString b10, v10)] := sr_not [(b0, v0), (b1, v1), (b2, v2), (b3, v3), (b4, v4), (b5, v5), (b6, v6), (b7, v7), (b8, v8), (b9, v9), (b10, v10)] h
theorem jS {a b0 b1 b2 b3 b4 b5 b6 b7 b8 b9 b10 : String} {v0 v1 v2 v3 v4 v5 v6 v7 v8 v9 v10 : LV} {q : Pos} {d : D} {r : Rho} (h : nmk a [b0, b1, b2, b3, b4, b5, b6, b7, b8, b9, b10] = true) : (evN P (n + 1)).e sc ((Str.ofString b0, v0) :: (Str.ofString b1, v1) :: (Str.ofString b2, v2) :: (Str.ofString b3, v3) :: (Str.ofString b4, v4) :: (Str.ofString b5, v5) :: (Str.ofString b6, v6) :: (Str.ofString b7, v7) :: (Str.ofString b8, v8) :: (Str.ofString b9, v9) :: (Str.ofString b10, v10) :: (Str.ofString a, .fz d) :: r) (.Name (Str.ofString a) q) = some d := nm_at [(b0, v0), (b1, v1), (b2, v2), (b3, v3), (b4, v4), (b5, v5), (b6, v6), (b7, v7), (b8, v8), (b9, v9), (b10, v10)] h
theorem qu {a b0 b1 b2 b3 b4 b5 b6 b7 b8 b9 b10 : String} {v0 v1 v2 v3 v4 v5 v6 v7 v8 v9 v10 : LV} {u v : LV} {r : Rho} (h : ask sc a [b0, b1, b2, b3, b4, b5, b6, b7, b8, b9, b10] = true) : asgN sc ((Str.ofString b0, v0) :: (Str.ofString b1, v1) :: (Str.ofString b2, v2) :: (Str.ofString b3, v3) :: (Str.ofString b4, v4) :: (Str.ofString b5, v5) :: (Str.ofString b6, v6) :: (Str.ofString b7, v7) :: (Str.ofString b8, v8) :: (Str.ofString b9, v9) :: (Str.ofString b10, v10) :: (Str.ofString a, u) :: r) (Str.ofString a) v = some ((Str.ofString b0, v0) :: (Str.ofString b1, v1) :: (Str.ofString b2, v2) :: (Str.ofString b3, v3) :: (Str.ofString b4, v4) :: (Str.ofString b5, v5) :: (Str.ofString b6, v6) :: (Str.ofString b7, v7) :: (Str.ofString b8, v8) :: (Str.ofString b9, v9) :: (Str.ofString b10, v10) :: (Str.ofString a, v) :: setR r (Str.ofString a) v) := as_at [(b0, v0), (b1, v1), (b2, v2), (b3, v3), (b4, v4), (b5, v5), (b6, v6), (b7, v7), (b8, v8), (b9, v9), (b10, v10)] h
theorem ki {α : Type} {a b0 b1 b2 b3 b4 b5 b6 b7 b8 b9 b10 b11 : String} {v0 v1 v2 v3 v4 v5 v6 v7 v8 v9 v10 v11 : α} {v : α} {r : List (Str × α)} (h : [b0, b1, b2, b3, b4, b5, b6, b7, b8, b9, b10, b11].contains a = false) : List.lookup (Str.ofString a) ((Str.ofString b0, v0) :: (Str.ofString b1, v1) :: (Str.ofString b2, v2) :: (Str.ofString b3, v3) :: (Str.ofString b4, v4) :: (Str.ofString b5, v5) :: (Str.ofString b6, v6) :: (Str.ofString b7, v7) :: (Str.ofString b8, v8) :: (Str.ofString b9, v9) :: (Str.ofString b10, v10) :: (Str.ofString b11, v11) :: (Str.ofString a, v) :: r) = some v := lk_at [(b0, v0), (b1, v1), (b2, v2), (b3, v3), (b4, v4), (b5, v5), (b6, v6), (b7, v7), (b8, v8), (b9, v9), (b10, v10), (b11, v11)] h
theorem k6 {a b0 b1 b2 b3 b4 b5 b6 b7 b8 b9 b10 b11 : String} {v0 v1 v2 v3 v4 v5 v6 v7 v8 v9 v10 v11 : LV} {v : LV} (h : [b0, b1, b2, b3, b4, b5, b6, b7, b8, b9, b10, b11].contains a = false) : setR [(Str.ofString b0, v0), (Str.ofString b1, v1), (Str.ofString b2, v2), (Str.ofString b3, v3), (Str.ofString b4, v4), (Str.ofString b5, v5), (Str.ofString b6, v6), (Str.ofString b7, v7), (Str.ofString b8, v8), (Str.ofString b9, v9), (Str.ofString b10, v10), (Str.ofString b11, v11)] (Str.ofString a) v = [(Str.ofString b0, v0), (Str.ofString b1, v1), (Str.ofString b2, v2), (Str.ofString b3, v3), (Str.ofString b4, v4), (Str.ofString b5, v5), (Str.ofString b6, v6), (Str.ofString b7, v7), (Str.ofString b8, v8), (Str.ofString b9, v9), (Str.ofString b10, v10), (Str.ofString b11, v11)] := sr_not [(b0, v0), (b1, v1), (b2, v2), (b3, v3), (b4, v4), (b5, v5), (b6, v6), (b7, v7), (b8, v8), (b9, v9), (b10, v10), (b11, v11)] h
theorem jT {a b0 b1 b2 b3 b4 b5 b6 b7 b8 b9 b10 b11 : String} {v0 v1 v2 v3 v4 v5 v6 v7 v8 v9 v10 v11 : LV} {q : Pos} {d : D} {r : Rho} (h : nmk a [b0, b1, b2, b3, b4, b5, b6, b7, b8, b9, b10, b11] = true) : (evN P (n + 1)).e sc ((Str.ofString b0, v0) :: (Str.ofString b1, v1) :: (Str.ofString b2, v2) :: (Str.ofString b3, v3) :: (Str.ofString b4, v4) :: (Str.ofString b5, v5) :: (Str.ofString b6, v6) :: (Str.ofString b7, v7) :: (Str.ofString b8, v8) :: (Str.ofString b9, v9) :: (Str.ofString b10, v10) :: (Str.ofString b11, v11) :: (Str.ofString a, .fz d) :: r) (.Name (Str.ofString a) q) = some d := nm_at [(b0, v0), (b1, v1), (b2, v2), (b3, v3), (b4, v4), (b5, v5), (b6, v6), (b7, v7), (b8, v8), (b9, v9), (b10, v10), (b11, v11)] h
theorem qv {a b0 b1 b2 b3 b4 b5 b6 b7 b8 b9 b10 b11 : String} {v0 v1 v2 v3 v4 v5 v6 v7 v8 v9 v10 v11 : LV} {u v : LV} {r : Rho} (h : ask sc a [b0, b1, b2, b3, b4, b5, b6, b7, b8, b9, b10, b11] = true) : asgN sc ((Str.ofString b0, v0) :: (Str.ofString b1, v1) :: (Str.ofString b2, v2) :: (Str.ofString b3, v3) :: (Str.ofString b4, v4) :: (Str.ofString b5, v5) :: (Str.ofString b6, v6) :: (Str.ofString b7, v7) :: (Str.ofString b8, v8) :: (Str.ofString b9, v9) :: (Str.ofString b10, v10) :: (Str.ofString b11, v11) :: (Str.ofString a, u) :: r) (Str.ofString a) v = some ((Str.ofString b0, v0) :: (Str.ofString b1, v1) :: (Str.ofString b2, v2) :: (Str.ofString b3, v3) :: (Str.ofString b4, v4) :: (Str.ofString b5, v5) :: (Str.ofString b6, v6) :: (Str.ofString b7, v7) :: (Str.ofString b8, v8) :: (Str.ofString b9, v9) :: (Str.ofString b10, v10) :: (Str.ofString b11, v11) :: (Str.ofString a, v) :: setR r (Str.ofString a) v) := as_at [(b0, v0), (b1, v1), (b2, v2), (b3, v3), (b4, v4), (b5, v5), (b6, v6), (b7, v7), (b8, v8), (b9, v9), (b10, v10), (b11, v11)] h
theorem kj {α : Type} {a b0 b1 b2 b3 b4 b5 b6 b7 b8 b9 b10 b11 b12 : String} {v0 v1 v2 v3 v4 v5 v6 v7 v8 v9 v10 v11 v12 : α} {v : α} {r : List (Str × α)} (h : [b0, b1, b2, b3, b4, b5, b6, b7, b8, b9, b10, b11, b12].contains a = false) : List.lookup (Str.ofString a) ((Str.ofString b0, v0) :: (Str.ofString b1, v1) :: (Str.ofString b2, v2) :: (Str.ofString b3, v3) :: (Str.ofString b4, v4) :: (Str.ofString b5, v5) :: (Str.ofString b6, v6) :: (Str.ofString b7, v7) :: (Str.ofString b8, v8) :: (Str.ofString b9, v9) :: (Str.ofString b10, v10) :: (Str.ofString b11, v11) :: (Str.ofString b12, v12) :: (Str.ofString a, v) :: r) = some v := lk_at [(b0, v0), (b1, v1), (b2, v2), (b3, v3), (b4, v4), (b5, v5), (b6, v6), (b7, v7), (b8, v8), (b9, v9), (b10, v10), (b11, v11), (b12, v12)] h
theorem k7 {a b0 b1 b2 b3 b4 b5 b6 b7 b8 b9 b10 b11 b12 : String} {v0 v1 v2 v3 v4 v5 v6 v7 v8 v9 v10 v11 v12 : LV} {v : LV} (h : [b0, b1, b2, b3, b4, b5, b6, b7, b8, b9, b10, b11, b12].contains a = false) : setR [(Str.ofString b0, v0), (Str.ofString b1, v1), (Str.ofString b2, v2), (Str.ofString b3, v3), (Str.ofString b4, v4), (Str.ofString b5, v5), (Str.ofString b6, v6), (Str.ofString b7, v7), (Str.ofString b8, v8), (Str.ofString b9, v9), (Str.ofString b10, v10), (Str.ofString b11, v11), (Str.ofString b12, v12)] (Str.ofString a) v = [(Str.ofString b0, v0), (Str.ofString b1, v1), (Str.ofString b2, v2), (Str.ofString b3, v3), (Str.ofString b4, v4), (Str.ofString b5, v5), (Str.ofString b6, v6), (Str.ofString b7, v7), (Str.ofString b8, v8), (Str.ofString b9, v9), (Str.ofString b10, v10), (Str.ofString b11, v11), (Str.ofString b12, v12)] := sr_not [(b0, v0), (b1, v1), (b2, v2), (b3, v3), (b4, v4), (b5, v5), (b6, v6), (b7, v7), (b8, v8), (b9, v9), (b10, v10), (b11, v11), (b12, v12)] h
theorem jU {a b0 b1 b2 b3 b4 b5 b6 b7 b8 b9 b10 b11 b12 : String} {v0 v1 v2 v3 v4 v5 v6 v7 v8 v9 v10 v11 v12 : LV} {q : Pos} {d : D} {r : Rho} (h : nmk a [b0, b1, b2, b3, b4, b5, b6, b7, b8, b9, b10, b11, b12] = true) : (evN P (n + 1)).e sc ((Str.ofString b0, v0) :: (Str.ofString b1, v1) :: (Str.ofString b2, v2) :: (Str.ofString b3, v3) :: (Str.ofString b4, v4) :: (Str.ofString b5, v5) :: (Str.ofString b6, v6) :: (Str.ofString b7, v7) :: (Str.ofString b8, v8) :: (Str.ofString b9, v9) :: (Str.ofString b10, v10) :: (Str.ofString b11, v11) :: (Str.ofString b12, v12) :: (Str.ofString a, .fz d) :: r) (.Name (Str.ofString a) q) = some d := nm_at [(b0, v0), (b1, v1), (b2, v2), (b3, v3), (b4, v4), (b5, v5), (b6, v6), (b7, v7), (b8, v8), (b9, v9), (b10, v10), (b11, v11), (b12, v12)] h
theorem qw {a b0 b1 b2 b3 b4 b5 b6 b7 b8 b9 b10 b11 b12 : String} {v0 v1 v2 v3 v4 v5 v6 v7 v8 v9 v10 v11 v12 : LV} {u v : LV} {r : Rho} (h : ask sc a [b0, b1, b2, b3, b4, b5, b6, b7, b8, b9, b10, b11, b12] = true) : asgN sc ((Str.ofString b0, v0) :: (Str.ofString b1, v1) :: (Str.ofString b2, v2) :: (Str.ofString b3, v3) :: (Str.ofString b4, v4) :: (Str.ofString b5, v5) :: (Str.ofString b6, v6) :: (Str.ofString b7, v7) :: (Str.ofString b8, v8) :: (Str.ofString b9, v9) :: (Str.ofString b10, v10) :: (Str.ofString b11, v11) :: (Str.ofString b12, v12) :: (Str.ofString a, u) :: r) (Str.ofString a) v = some ((Str.ofString b0, v0) :: (Str.ofString b1, v1) :: (Str.ofString b2, v2) :: (Str.ofString b3, v3) :: (Str.ofString b4, v4) :: (Str.ofString b5, v5) :: (Str.ofString b6, v6) :: (Str.ofString b7, v7) :: (Str.ofString b8, v8) :: (Str.ofString b9, v9) :: (Str.ofString b10, v10) :: (Str.ofString b11, v11) :: (Str.ofString b12, v12) :: (Str.ofString a, v) :: setR r (Str.ofString a) v) := as_at [(b0, v0), (b1, v1), (b2, v2), (b3, v3), (b4, v4), (b5, v5), (b6, v6), (b7, v7), (b8, v8), (b9, v9), (b10, v10), (b11, v11), (b12, v12)] h
theorem kl {α : Type} {a b0 b1 b2 b3 b4 b5 b6 b7 b8 b9 b10 b11 b12 b13 : String} {v0 v1 v2 v3 v4 v5 v6 v7 v8 v9 v10 v11 v12 v13 : α} {v : α} {r : List (Str × α)} (h : [b0, b1, b2, b3, b4, b5, b6, b7, b8, b9, b10, b11, b12, b13].contains a = false) : List.lookup (Str.ofString a) ((Str.ofString b0, v0) :: (Str.ofString b1, v1) :: (Str.ofString b2, v2) :: (Str.ofString b3, v3) :: (Str.ofString b4, v4) :: (Str.ofString b5, v5) :: (Str.ofString b6, v6) :: (Str.ofString b7, v7) :: (Str.ofString b8, v8) :: (Str.ofString b9, v9) :: (Str.ofString b10, v10) :: (Str.ofString b11, v11) :: (Str.ofString b12, v12) :: (Str.ofString b13, v13) :: (Str.ofString a, v) :: r) = some v := lk_at [(b0, v0), (b1, v1), (b2, v2), (b3, v3), (b4, v4), (b5, v5), (b6, v6), (b7, v7), (b8, v8), (b9, v9), (b10, v10), (b11, v11), (b12, v12), (b13, v13)] h
theorem k9 {a b0 b1 b2 b3 b4 b5 b6 b7 b8 b9 b10 b11 b12 b13 : String} {v0 v1 v2 v3 v4 v5 v6 v7 v8 v9 v10 v11 v12 v13 : LV} {v : LV} (h : [b0, b1, b2, b3, b4, b5, b6, b7, b8, b9, b10, b11, b12, b13].contains a = false) : setR [(Str.ofString b0, v0), (Str.ofString b1, v1), (Str.ofString b2, v2), (Str.ofString b3, v3), (Str.ofString b4, v4), (Str.ofString b5, v5), (Str.ofString b6, v6), (Str.ofString b7, v7), (Str.ofString b8, v8), (Str.ofString b9, v9), (Str.ofString b10, v10), (Str.ofString b11, v11), (Str.ofString b12, v12), (Str.ofString b13, v13)] (Str.ofString a) v = [(Str.ofString b0, v0), (Str.ofString b1, v1), (Str.ofString b2, v2), (Str.ofString b3, v3), (Str.ofString b4, v4), (Str.ofString b5, v5), (Str.ofString b6, v6), (Str.ofString b7, v7), (Str.ofString b8, v8), (Str.ofString b9, v9), (Str.ofString b10, v10), (Str.ofString b11, v11), (Str.ofString b12, v12), (Str.ofString b13, v13)] := sr_not [(b0, v0), (b1, v1), (b2, v2), (b3, v3), (b4, v4), (b5, v5), (b6, v6), (b7, v7), (b8, v8), (b9, v9), (b10, v10), (b11, v11), (b12, v12), (b13, v13)] h
theorem jV {a b0 b1 b2 b3 b4 b5 b6 b7 b8 b9 b10 b11 b12 b13 : String} {v0 v1 v2 v3 v4 v5 v6 v7 v8 v9 v10 v11 v12 v13 : LV} {q : Pos} {d : D} {r : Rho} (h : nmk a [b0, b1, b2, b3, b4, b5, b6, b7, b8, b9, b10, b11, b12, b13] = true) : (evN P (n + 1)).e sc ((Str.ofString b0, v0) :: (Str.ofString b1, v1) :: (Str.ofString b2, v2) :: (Str.ofString b3, v3) :: (Str.ofString b4, v4) :: (Str.ofString b5, v5) :: (Str.ofString b6, v6) :: (Str.ofString b7, v7) :: (Str.ofString b8, v8) :: (Str.ofString b9, v9) :: (Str.ofString b10, v10) :: (Str.ofString b11, v11) :: (Str.ofString b12, v12) :: (Str.ofString b13, v13) :: (Str.ofString a, .fz d) :: r) (.Name (Str.ofString a) q) = some d := nm_at [(b0, v0), (b1, v1), (b2, v2), (b3, v3), (b4, v4), (b5, v5), (b6, v6), (b7, v7), (b8, v8), (b9, v9), (b10, v10), (b11, v11), (b12, v12), (b13, v13)] h
theorem qx {a b0 b1 b2 b3 b4 b5 b6 b7 b8 b9 b10 b11 b12 b13 : String} {v0 v1 v2 v3 v4 v5 v6 v7 v8 v9 v10 v11 v12 v13 : LV} {u v : LV} {r : Rho} (h : ask sc a [b0, b1, b2, b3, b4, b5, b6, b7, b8, b9, b10, b11, b12, b13] = true) : asgN sc ((Str.ofString b0, v0) :: (Str.ofString b1, v1) :: (Str.ofString b2, v2) :: (Str.ofString b3, v3) :: (Str.ofString b4, v4) :: (Str.ofString b5, v5) :: (Str.ofString b6, v6) :: (Str.ofString b7, v7) :: (Str.ofString b8, v8) :: (Str.ofString b9, v9) :: (Str.ofString b10, v10) :: (Str.ofString b11, v11) :: (Str.ofString b12, v12) :: (Str.ofString b13, v13) :: (Str.ofString a, u) :: r) (Str.ofString a) v = some ((Str.ofString b0, v0) :: (Str.ofString b1, v1) :: (Str.ofString b2, v2) :: (Str.ofString b3, v3) :: (Str.ofString b4, v4) :: (Str.ofString b5, v5) :: (Str.ofString b6, v6) :: (Str.ofString b7, v7) :: (Str.ofString b8, v8) :: (Str.ofString b9, v9) :: (Str.ofString b10, v10) :: (Str.ofString b11, v11) :: (Str.ofString b12, v12) :: (Str.ofString b13, v13) :: (Str.ofString a, v) :: setR r (Str.ofString a) v) := as_at [(b0, v0), (b1, v1), (b2, v2), (b3, v3), (b4, v4), (b5, v5), (b6, v6), (b7, v7), (b8, v8), (b9, v9), (b10, v10), (b11, v11), (b12, v12), (b13, v13)] h
theorem km {α : Type} {a b0 b1 b2 b3 b4 b5 b6 b7 b8 b9 b10 b11 b12 b13 b14 : String} {v0 v1 v2 v3 v4 v5 v6 v7 v8 v9 v10 v11 v12 v13 v14 : α} {v : α} {r : List (Str × α)} (h : [b0, b1, b2, b3, b4, b5, b6, b7, b8, b9, b10, b11, b12, b13, b14].contains a = false) : List.lookup (Str.ofString a) ((Str.ofString b0, v0) :: (Str.ofString b1, v1) :: (Str.ofString b2, v2) :: (Str.ofString b3, v3) :: (Str.ofString b4, v4) :: (Str.ofString b5, v5) :: (Str.ofString b6, v6) :: (Str.ofString b7, v7) :: (Str.ofString b8, v8) :: (Str.ofString b9, v9) :: (Str.ofString b10, v10) :: (Str.ofString b11, v11) :: (Str.ofString b12, v12) :: (Str.ofString b13, v13) :: (Str.ofString b14, v14) :: (Str.ofString a, v) :: r) = some v := lk_at [(b0, v0), (b1, v1), (b2, v2), (b3, v3), (b4, v4), (b5, v5), (b6, v6), (b7, v7), (b8, v8), (b9, v9), (b10, v10), (b11, v11), (b12, v12), (b13, v13), (b14, v14)] h
theorem qa {a b0 b1 b2 b3 b4 b5 b6 b7 b8 b9 b10 b11 b12 b13 b14 : String} {v0 v1 v2 v3 v4 v5 v6 v7 v8 v9 v10 v11 v12 v13 v14 : LV} {v : LV} (h : [b0, b1, b2, b3, b4, b5, b6, b7, b8, b9, b10, b11, b12, b13, b14].contains a = false) : setR [(Str.ofString b0, v0), (Str.ofString b1, v1), (Str.ofString b2, v2), (Str.ofString b3, v3), (Str.ofString b4, v4), (Str.ofString b5, v5), (Str.ofString b6, v6), (Str.ofString b7, v7), (Str.ofString b8, v8), (Str.ofString b9, v9), (Str.ofString b10, v10), (Str.ofString b11, v11), (Str.ofString b12, v12), (Str.ofString b13, v13), (Str.ofString b14, v14)] (Str.ofString a) v = [(Str.ofString b0, v0), (Str.ofString b1, v1), (Str.ofString b2, v2), (Str.ofString b3, v3), (Str.ofString b4, v4), (Str.ofString b5, v5), (Str.ofString b6, v6), (Str.ofString b7, v7), (Str.ofString b8, v8), (Str.ofString b9, v9), (Str.ofString b10, v10), (Str.ofString b11, v11), (Str.ofString b12, v12), (Str.ofString b13, v13), (Str.ofString b14, v14)] := sr_not [(b0, v0), (b1, v1), (b2, v2), (b3, v3), (b4, v4), (b5, v5), (b6, v6), (b7, v7), (b8, v8), (b9, v9), (b10, v10), (b11, v11), (b12, v12), (b13, v13), (b14, v14)] h
theorem qy {a b0 b1 b2 b3 b4 b5 b6 b7 b8 b9 b10 b11 b12 b13 b14 : String} {v0 v1 v2 v3 v4 v5 v6 v7 v8 v9 v10 v11 v12 v13 v14 : LV} {u v : LV} {r : Rho} (h : ask sc a [b0, b1, b2, b3, b4, b5, b6, b7, b8, b9, b10, b11, b12, b13, b14] = true) : asgN sc ((Str.ofString b0, v0) :: (Str.ofString b1, v1) :: (Str.ofString b2, v2) :: (Str.ofString b3, v3) :: (Str.ofString b4, v4) :: (Str.ofString b5, v5) :: (Str.ofString b6, v6) :: (Str.ofString b7, v7) :: (Str.ofString b8, v8) :: (Str.ofString b9, v9) :: (Str.ofString b10, v10) :: (Str.ofString b11, v11) :: (Str.ofString b12, v12) :: (Str.ofString b13, v13) :: (Str.ofString b14, v14) :: (Str.ofString a, u) :: r) (Str.ofString a) v = some ((Str.ofString b0, v0) :: (Str.ofString b1, v1) :: (Str.ofString b2, v2) :: (Str.ofString b3, v3) :: (Str.ofString b4, v4) :: (Str.ofString b5, v5) :: (Str.ofString b6, v6) :: (Str.ofString b7, v7) :: (Str.ofString b8, v8) :: (Str.ofString b9, v9) :: (Str.ofString b10, v10) :: (Str.ofString b11, v11) :: (Str.ofString b12, v12) :: (Str.ofString b13, v13) :: (Str.ofString b14, v14) :: (Str.ofString a, v) :: setR r (Str.ofString a) v) := as_at [(b0, v0), (b1, v1), (b2, v2), (b3, v3), (b4, v4), (b5, v5), (b6, v6), (b7, v7), (b8, v8), (b9, v9), (b10, v10), (b11, v11), (b12, v12), (b13, v13), (b14, v14)] h
theorem kn {α : Type} {a b0 b1 b2 b3 b4 b5 b6 b7 b8 b9 b10 b11 b12 b13 b14 b15 : String} {v0 v1 v2 v3 v4 v5 v6 v7 v8 v9 v10 v11 v12 v13 v14 v15 : α} {v : α} {r : List (Str × α)} (h : [b0, b1, b2, b3, b4, b5, b6, b7, b8, b9, b10, b11, b12, b13, b14, b15].contains a = false) : List.lookup (Str.ofString a) ((Str.ofString b0, v0) :: (Str.ofString b1, v1) :: (Str.ofString b2, v2) :: (Str.ofString b3, v3) :: (Str.ofString b4, v4) :: (Str.ofString b5, v5) :: (Str.ofString b6, v6) :: (Str.ofString b7, v7) :: (Str.ofString b8, v8) :: (Str.ofString b9, v9) :: (Str.ofString b10, v10) :: (Str.ofString b11, v11) :: (Str.ofString b12, v12) :: (Str.ofString b13, v13) :: (Str.ofString b14, v14) :: (Str.ofString b15, v15) :: (Str.ofString a, v) :: r) = some v := lk_at [(b0, v0), (b1, v1), (b2, v2), (b3, v3), (b4, v4), (b5, v5), (b6, v6), (b7, v7), (b8, v8), (b9, v9), (b10, v10), (b11, v11), (b12, v12), (b13, v13), (b14, v14), (b15, v15)] h
theorem qc {a b0 b1 b2 b3 b4 b5 b6 b7 b8 b9 b10 b11 b12 b13 b14 b15 : String} {v0 v1 v2 v3 v4 v5 v6 v7 v8 v9 v10 v11 v12 v13 v14 v15 : LV} {v : LV} (h : [b0, b1, b2, b3, b4, b5, b6, b7, b8, b9, b10, b11, b12, b13, b14, b15].contains a = false) : setR [(Str.ofString b0, v0), (Str.ofString b1, v1), (Str.ofString b2, v2), (Str.ofString b3, v3), (Str.ofString b4, v4), (Str.ofString b5, v5), (Str.ofString b6, v6), (Str.ofString b7, v7), (Str.ofString b8, v8), (Str.ofString b9, v9), (Str.ofString b10, v10), (Str.ofString b11, v11), (Str.ofString b12, v12), (Str.ofString b13, v13), (Str.ofString b14, v14), (Str.ofString b15, v15)] (Str.ofString a) v = [(Str.ofString b0, v0), (Str.ofString b1, v1), (Str.ofString b2, v2), (Str.ofString b3, v3), (Str.ofString b4, v4), (Str.ofString b5, v5), (Str.ofString b6, v6), (Str.ofString b7, v7), (Str.ofString b8, v8), (Str.ofString b9, v9), (Str.ofString b10, v10), (Str.ofString b11, v11), (Str.ofString b12, v12), (Str.ofString b13, v13), (Str.ofString b14, v14), (Str.ofString b15, v15)] := sr_not [(b0, v0), (b1, v1), (b2, v2), (b3, v3), (b4, v4), (b5, v5), (b6, v6), (b7, v7), (b8, v8), (b9, v9), (b10, v10), (b11, v11), (b12, v12), (b13, v13), (b14, v14), (b15, v15)] h
theorem jW {a b0 b1 b2 b3 b4 b5 b6 b7 b8 b9 b10 b11 b12 b13 b14 b15 : String} {v0 v1 v2 v3 v4 v5 v6 v7 v8 v9 v10 v11 v12 v13 v14 v15 : LV} {q : Pos} {d : D} {r : Rho} (h : nmk a [b0, b1, b2, b3, b4, b5, b6, b7, b8, b9, b10, b11, b12, b13, b14, b15] = true) : (evN P (n + 1)).e sc ((Str.ofString b0, v0) :: (Str.ofString b1, v1) :: (Str.ofString b2, v2) :: (Str.ofString b3, v3) :: (Str.ofString b4, v4) :: (Str.ofString b5, v5) :: (Str.ofString b6, v6) :: (Str.ofString b7, v7) :: (Str.ofString b8, v8) :: (Str.ofString b9, v9) :: (Str.ofString b10, v10) :: (Str.ofString b11, v11) :: (Str.ofString b12, v12) :: (Str.ofString b13, v13) :: (Str.ofString b14, v14) :: (Str.ofString b15, v15) :: (Str.ofString a, .fz d) :: r) (.Name (Str.ofString a) q) = some d := nm_at [(b0, v0), (b1, v1), (b2, v2), (b3, v3), (b4, v4), (b5, v5), (b6, v6), (b7, v7), (b8, v8), (b9, v9), (b10, v10), (b11, v11), (b12, v12), (b13, v13), (b14, v14), (b15, v15)] h
theorem qz {a b0 b1 b2 b3 b4 b5 b6 b7 b8 b9 b10 b11 b12 b13 b14 b15 : String} {v0 v1 v2 v3 v4 v5 v6 v7 v8 v9 v10 v11 v12 v13 v14 v15 : LV} {u v : LV} {r : Rho} (h : ask sc a [b0, b1, b2, b3, b4, b5, b6, b7, b8, b9, b10, b11, b12, b13, b14, b15] = true) : asgN sc ((Str.ofString b0, v0) :: (Str.ofString b1, v1) :: (Str.ofString b2, v2) :: (Str.ofString b3, v3) :: (Str.ofString b4, v4) :: (Str.ofString b5, v5) :: (Str.ofString b6, v6) :: (Str.ofString b7, v7) :: (Str.ofString b8, v8) :: (Str.ofString b9, v9) :: (Str.ofString b10, v10) :: (Str.ofString b11, v11) :: (Str.ofString b12, v12) :: (Str.ofString b13, v13) :: (Str.ofString b14, v14) :: (Str.ofString b15, v15) :: (Str.ofString a, u) :: r) (Str.ofString a) v = some ((Str.ofString b0, v0) :: (Str.ofString b1, v1) :: (Str.ofString b2, v2) :: (Str.ofString b3, v3) :: (Str.ofString b4, v4) :: (Str.ofString b5, v5) :: (Str.ofString b6, v6) :: (Str.ofString b7, v7) :: (Str.ofString b8, v8) :: (Str.ofString b9, v9) :: (Str.ofString b10, v10) :: (Str.ofString b11, v11) :: (Str.ofString b12, v12) :: (Str.ofString b13, v13) :: (Str.ofString b14, v14) :: (Str.ofString b15, v15) :: (Str.ofString a, v) :: setR r (Str.ofString a) v) := as_at [(b0, v0), (b1, v1), (b2, v2), (b3, v3), (b4, v4), (b5, v5), (b6, v6), (b7, v7), (b8, v8), (b9, v9), (b10, v10), (b11, v11), (b12, v12), (b13, v13), (b14, v14), (b15, v15)] h
theorem qd {a b0 b1 b2 b3 b4 b5 b6 b7 b8 b9 b10 b11 b12 b13 b14 b15 b16 : String} {v0 v1 v2 v3 v4 v5 v6 v7 v8 v9 v10 v11 v12 v13 v14 v15 v16 : LV} {v : LV} (h : [b0, b1, b2, b3, b4, b5, b6, b7, b8, b9, b10, b11, b12, b13, b14, b15, b16].contains a = false) : setR [(Str.ofString b0, v0), (Str.ofString b1, v1), (Str.ofString b2, v2), (Str.ofString b3, v3), (Str.ofString b4, v4), (Str.ofString b5, v5), (Str.ofString b6, v6), (Str.ofString b7, v7), (Str.ofString b8, v8), (Str.ofString b9, v9), (Str.ofString b10, v10), (Str.ofString b11, v11), (Str.ofString b12, v12), (Str.ofString b13, v13), (Str.ofString b14, v14), (Str.ofString b15, v15), (Str.ofString b16, v16)] (Str.ofString a) v = [(Str.ofString b0, v0), (Str.ofString b1, v1), (Str.ofString b2, v2), (Str.ofString b3, v3), (Str.ofString b4, v4), (Str.ofString b5, v5), (Str.ofString b6, v6), (Str.ofString b7, v7), (Str.ofString b8, v8), (Str.ofString b9, v9), (Str.ofString b10, v10), (Str.ofString b11, v11), (Str.ofString b12, v12), (Str.ofString b13, v13), (Str.ofString b14, v14), (Str.ofString b15, v15), (Str.ofString b16, v16)] := sr_not [(b0, v0), (b1, v1), (b2, v2), (b3, v3), (b4, v4), (b5, v5), (b6, v6), (b7, v7), (b8, v8), (b9, v9), (b10, v10), (b11, v11), (b12, v12), (b13, v13), (b14, v14), (b15, v15), (b16, v16)] h
theorem jX {a b0 b1 b2 b3 b4 b5 b6 b7 b8 b9 b10 b11 b12 b13 b14 b15 b16 : String} {v0 v1 v2 v3 v4 v5 v6 v7 v8 v9 v10 v11 v12 v13 v14 v15 v16 : LV} {q : Pos} {d : D} {r : Rho} (h : nmk a [b0, b1, b2, b3, b4, b5, b6, b7, b8, b9, b10, b11, b12, b13, b14, b15, b16] = true) : (evN P (n + 1)).e sc ((Str.ofString b0, v0) :: (Str.ofString b1, v1) :: (Str.ofString b2, v2) :: (Str.ofString b3, v3) :: (Str.ofString b4, v4) :: (Str.ofString b5, v5) :: (Str.ofString b6, v6) :: (Str.ofString b7, v7) :: (Str.ofString b8, v8) :: (Str.ofString b9, v9) :: (Str.ofString b10, v10) :: (Str.ofString b11, v11) :: (Str.ofString b12, v12) :: (Str.ofString b13, v13) :: (Str.ofString b14, v14) :: (Str.ofString b15, v15) :: (Str.ofString b16, v16) :: (Str.ofString a, .fz d) :: r) (.Name (Str.ofString a) q) = some d := nm_at [(b0, v0), (b1, v1), (b2, v2), (b3, v3), (b4, v4), (b5, v5), (b6, v6), (b7, v7), (b8, v8), (b9, v9), (b10, v10), (b11, v11), (b12, v12), (b13, v13), (b14, v14), (b15, v15), (b16, v16)] h
theorem qA {a b0 b1 b2 b3 b4 b5 b6 b7 b8 b9 b10 b11 b12 b13 b14 b15 b16 : String} {v0 v1 v2 v3 v4 v5 v6 v7 v8 v9 v10 v11 v12 v13 v14 v15 v16 : LV} {u v : LV} {r : Rho} (h : ask sc a [b0, b1, b2, b3, b4, b5, b6, b7, b8, b9, b10, b11, b12, b13, b14, b15, b16] = true) : asgN sc ((Str.ofString b0, v0) :: (Str.ofString b1, v1) :: (Str.ofString b2, v2) :: (Str.ofString b3, v3) :: (Str.ofString b4, v4) :: (Str.ofString b5, v5) :: (Str.ofString b6, v6) :: (Str.ofString b7, v7) :: (Str.ofString b8, v8) :: (Str.ofString b9, v9) :: (Str.ofString b10, v10) :: (Str.ofString b11, v11) :: (Str.ofString b12, v12) :: (Str.ofString b13, v13) :: (Str.ofString b14, v14) :: (Str.ofString b15, v15) :: (Str.ofString b16, v16) :: (Str.ofString a, u) :: r) (Str.ofString a) v = some ((Str.ofString b0, v0) :: (Str.ofString b1, v1) :: (Str.ofString b2, v2) :: (Str.ofString b3, v3) :: (Str.ofString b4, v4) :: (Str.ofString b5, v5) :: (Str.ofString b6, v6) :: (Str.ofString b7, v7) :: (Str.ofString b8, v8) :: (Str.ofString b9, v9) :: (Str.ofString b10, v10) :: (Str.ofString b11, v11) :: (Str.ofString b12, v12) :: (Str.ofString b13, v13) :: (Str.ofString b14, v14) :: (Str.ofString b15, v15) :: (Str.ofString b16, v16) :: (Str.ofString a, v) :: setR r (Str.ofString a) v) := as_at [(b0, v0), (b1, v1), (b2, v2), (b3, v3), (b4, v4), (b5, v5), (b6, v6), (b7, v7), (b8, v8), (b9, v9), (b10, v10), (b11, v11), (b12, v12), (b13, v13), (b14, v14), (b15, v15), (b16, v16)] h
theorem qe {a b0 b1 b2 b3 b4 b5 b6 b7 b8 b9 b10 b11 b12 b13 b14 b15 b16 b17 : String} {v0 v1 v2 v3 v4 v5 v6 v7 v8 v9 v10 v11 v12 v13 v14 v15 v16 v17 : LV} {v : LV} (h : [b0, b1, b2, b3, b4, b5, b6, b7, b8, b9, b10, b11, b12, b13, b14, b15, b16, b17].contains a = false) : setR [(Str.ofString b0, v0), (Str.ofString b1, v1), (Str.ofString b2, v2), (Str.ofString b3, v3), (Str.ofString b4, v4), (Str.ofString b5, v5), (Str.ofString b6, v6), (Str.ofString b7, v7), (Str.ofString b8, v8), (Str.ofString b9, v9), (Str.ofString b10, v10), (Str.ofString b11, v11), (Str.ofString b12, v12), (Str.ofString b13, v13), (Str.ofString b14, v14), (Str.ofString b15, v15), (Str.ofString b16, v16), (Str.ofString b17, v17)] (Str.ofString a) v = [(Str.ofString b0, v0), (Str.ofString b1, v1), (Str.ofString b2, v2), (Str.ofString b3, v3), (Str.ofString b4, v4), (Str.ofString b5, v5), (Str.ofString b6, v6), (Str.ofString b7, v7), (Str.ofString b8, v8), (Str.ofString b9, v9), (Str.ofString b10, v10), (Str.ofString b11, v11), (Str.ofString b12, v12), (Str.ofString b13, v13), (Str.ofString b14, v14), (Str.ofString b15, v15), (Str.ofString b16, v16), (Str.ofString b17, v17)] := sr_not [(b0, v0), (b1, v1), (b2, v2), (b3, v3), (b4, v4), (b5, v5), (b6, v6), (b7, v7), (b8, v8), (b9, v9), (b10, v10), (b11, v11), (b12, v12), (b13, v13), (b14, v14), (b15, v15), (b16, v16), (b17, v17)] h
theorem jY {a b0 b1 b2 b3 b4 b5 b6 b7 b8 b9 b10 b11 b12 b13 b14 b15 b16 b17 : String} {v0 v1 v2 v3 v4 v5 v6 v7 v8 v9 v10 v11 v12 v13 v14 v15 v16 v17 : LV} {q : Pos} {d : D} {r : Rho} (h : nmk a [b0, b1, b2, b3, b4, b5, b6, b7, b8, b9, b10, b11, b12, b13, b14, b15, b16, b17] = true) : (evN P (n + 1)).e sc ((Str.ofString b0, v0) :: (Str.ofString b1, v1) :: (Str.ofString b2, v2) :: (Str.ofString b3, v3) :: (Str.ofString b4, v4) :: (Str.ofString b5, v5) :: (Str.ofString b6, v6) :: (Str.ofString b7, v7) :: (Str.ofString b8, v8) :: (Str.ofString b9, v9) :: (Str.ofString b10, v10) :: (Str.ofString b11, v11) :: (Str.ofString b12, v12) :: (Str.ofString b13, v13) :: (Str.ofString b14, v14) :: (Str.ofString b15, v15) :: (Str.ofString b16, v16) :: (Str.ofString b17, v17) :: (Str.ofString a, .fz d) :: r) (.Name (Str.ofString a) q) = some d := nm_at [(b0, v0), (b1, v1), (b2, v2), (b3, v3), (b4, v4), (b5, v5), (b6, v6), (b7, v7), (b8, v8), (b9, v9), (b10, v10), (b11, v11), (b12, v12), (b13, v13), (b14, v14), (b15, v15), (b16, v16), (b17, v17)] h
theorem qB {a b0 b1 b2 b3 b4 b5 b6 b7 b8 b9 b10 b11 b12 b13 b14 b15 b16 b17 : String} {v0 v1 v2 v3 v4 v5 v6 v7 v8 v9 v10 v11 v12 v13 v14 v15 v16 v17 : LV} {u v : LV} {r : Rho} (h : ask sc a [b0, b1, b2, b3, b4, b5, b6, b7, b8, b9, b10, b11, b12, b13, b14, b15, b16, b17] = true) : asgN sc ((Str.ofString b0, v0) :: (Str.ofString b1, v1) :: (Str.ofString b2, v2) :: (Str.ofString b3, v3) :: (Str.ofString b4, v4) :: (Str.ofString b5, v5) :: (Str.ofString b6, v6) :: (Str.ofString b7, v7) :: (Str.ofString b8, v8) :: (Str.ofString b9, v9) :: (Str.ofString b10, v10) :: (Str.ofString b11, v11) :: (Str.ofString b12, v12) :: (Str.ofString b13, v13) :: (Str.ofString b14, v14) :: (Str.ofString b15, v15) :: (Str.ofString b16, v16) :: (Str.ofString b17, v17) :: (Str.ofString a, u) :: r) (Str.ofString a) v = some ((Str.ofString b0, v0) :: (Str.ofString b1, v1) :: (Str.ofString b2, v2) :: (Str.ofString b3, v3) :: (Str.ofString b4, v4) :: (Str.ofString b5, v5) :: (Str.ofString b6, v6) :: (Str.ofString b7, v7) :: (Str.ofString b8, v8) :: (Str.ofString b9, v9) :: (Str.ofString b10, v10) :: (Str.ofString b11, v11) :: (Str.ofString b12, v12) :: (Str.ofString b13, v13) :: (Str.ofString b14, v14) :: (Str.ofString b15, v15) :: (Str.ofString b16, v16) :: (Str.ofString b17, v17) :: (Str.ofString a, v) :: setR r (Str.ofString a) v) := as_at [(b0, v0), (b1, v1), (b2, v2), (b3, v3), (b4, v4), (b5, v5), (b6, v6), (b7, v7), (b8, v8), (b9, v9), (b10, v10), (b11, v11), (b12, v12), (b13, v13), (b14, v14), (b15, v15), (b16, v16), (b17, v17)] h
theorem ko {α : Type} {a b0 b1 b2 b3 b4 b5 b6 b7 b8 b9 b10 b11 b12 b13 b14 b15 b16 b17 b18 : String} {v0 v1 v2 v3 v4 v5 v6 v7 v8 v9 v10 v11 v12 v13 v14 v15 v16 v17 v18 : α} {v : α} {r : List (Str × α)} (h : [b0, b1, b2, b3, b4, b5, b6, b7, b8, b9, b10, b11, b12, b13, b14, b15, b16, b17, b18].contains a = false) : List.lookup (Str.ofString a) ((Str.ofString b0, v0) :: (Str.ofString b1, v1) :: (Str.ofString b2, v2) :: (Str.ofString b3, v3) :: (Str.ofString b4, v4) :: (Str.ofString b5, v5) :: (Str.ofString b6, v6) :: (Str.ofString b7, v7) :: (Str.ofString b8, v8) :: (Str.ofString b9, v9) :: (Str.ofString b10, v10) :: (Str.ofString b11, v11) :: (Str.ofString b12, v12) :: (Str.ofString b13, v13) :: (Str.ofString b14, v14) :: (Str.ofString b15, v15) :: (Str.ofString b16, v16) :: (Str.ofString b17, v17) :: (Str.ofString b18, v18) :: (Str.ofString a, v) :: r) = some v := lk_at [(b0, v0), (b1, v1), (b2, v2), (b3, v3), (b4, v4), (b5, v5), (b6, v6), (b7, v7), (b8, v8), (b9, v9), (b10, v10), (b11, v11), (b12, v12), (b13, v13), (b14, v14), (b15, v15), (b16, v16), (b17, v17), (b18, v18)] h
theorem kO {a b0 b1 b2 b3 b4 b5 b6 b7 b8 b9 b10 b11 b12 b13 b14 b15 b16 b17 b18 : String} {v0 v1 v2 v3 v4 v5 v6 v7 v8 v9 v10 v11 v12 v13 v14 v15 v16 v17 v18 : LV} {u v : LV} {r : Rho} (h : [b0, b1, b2, b3, b4, b5, b6, b7, b8, b9, b10, b11, b12, b13, b14, b15, b16, b17, b18].contains a = false) : setR ((Str.ofString b0, v0) :: (Str.ofString b1, v1) :: (Str.ofString b2, v2) :: (Str.ofString b3, v3) :: (Str.ofString b4, v4) :: (Str.ofString b5, v5) :: (Str.ofString b6, v6) :: (Str.ofString b7, v7) :: (Str.ofString b8, v8) :: (Str.ofString b9, v9) :: (Str.ofString b10, v10) :: (Str.ofString b11, v11) :: (Str.ofString b12, v12) :: (Str.ofString b13, v13) :: (Str.ofString b14, v14) :: (Str.ofString b15, v15) :: (Str.ofString b16, v16) :: (Str.ofString b17, v17) :: (Str.ofString b18, v18) :: (Str.ofString a, u) :: r) (Str.ofString a) v = (Str.ofString b0, v0) :: (Str.ofString b1, v1) :: (Str.ofString b2, v2) :: (Str.ofString b3, v3) :: (Str.ofString b4, v4) :: (Str.ofString b5, v5) :: (Str.ofString b6, v6) :: (Str.ofString b7, v7) :: (Str.ofString b8, v8) :: (Str.ofString b9, v9) :: (Str.ofString b10, v10) :: (Str.ofString b11, v11) :: (Str.ofString b12, v12) :: (Str.ofString b13, v13) :: (Str.ofString b14, v14) :: (Str.ofString b15, v15) :: (Str.ofString b16, v16) :: (Str.ofString b17, v17) :: (Str.ofString b18, v18) :: (Str.ofString a, v) :: setR r (Str.ofString a) v := sr_at [(b0, v0), (b1, v1), (b2, v2), (b3, v3), (b4, v4), (b5, v5), (b6, v6), (b7, v7), (b8, v8), (b9, v9), (b10, v10), (b11, v11), (b12, v12), (b13, v13), (b14, v14), (b15, v15), (b16, v16), (b17, v17), (b18, v18)] h
theorem qf {a b0 b1 b2 b3 b4 b5 b6 b7 b8 b9 b10 b11 b12 b13 b14 b15 b16 b17 b18 : String} {v0 v1 v2 v3 v4 v5 v6 v7 v8 v9 v10 v11 v12 v13 v14 v15 v16 v17 v18 : LV} {v : LV} (h : [b0, b1, b2, b3, b4, b5, b6, b7, b8, b9, b10, b11, b12, b13, b14, b15, b16, b17, b18].contains a = false) : setR [(Str.ofString b0, v0), (Str.ofString b1, v1), (Str.ofString b2, v2), (Str.ofString b3, v3), (Str.ofString b4, v4), (Str.ofString b5, v5), (Str.ofString b6, v6), (Str.ofString b7, v7), (Str.ofString b8, v8), (Str.ofString b9, v9), (Str.ofString b10, v10), (Str.ofString b11, v11), (Str.ofString b12, v12), (Str.ofString b13, v13), (Str.ofString b14, v14), (Str.ofString b15, v15), (Str.ofString b16, v16), (Str.ofString b17, v17), (Str.ofString b18, v18)] (Str.ofString a) v = [(Str.ofString b0, v0), (Str.ofString b1, v1), (Str.ofString b2, v2), (Str.ofString b3, v3), (Str.ofString b4, v4), (Str.ofString b5, v5), (Str.ofString b6, v6), (Str.ofString b7, v7), (Str.ofString b8, v8), (Str.ofString b9, v9), (Str.ofString b10, v10), (Str.ofString b11, v11), (Str.ofString b12, v12), (Str.ofString b13, v13), (Str.ofString b14, v14), (Str.ofString b15, v15), (Str.ofString b16, v16), (Str.ofString b17, v17), (Str.ofString b18, v18)] := sr_not [(b0, v0), (b1, v1), (b2, v2), (b3, v3), (b4, v4), (b5, v5), (b6, v6), (b7, v7), (b8, v8), (b9, v9), (b10, v10), (b11, v11), (b12, v12), (b13, v13), (b14, v14), (b15, v15), (b16, v16), (b17, v17), (b18, v18)] h
theorem jZ {a b0 b1 b2 b3 b4 b5 b6 b7 b8 b9 b10 b11 b12 b13 b14 b15 b16 b17 b18 : String} {v0 v1 v2 v3 v4 v5 v6 v7 v8 v9 v10 v11 v12 v13 v14 v15 v16 v17 v18 : LV} {q : Pos} {d : D} {r : Rho} (h : nmk a [b0, b1, b2, b3, b4, b5, b6, b7, b8, b9, b10, b11, b12, b13, b14, b15, b16, b17, b18] = true) : (evN P (n + 1)).e sc ((Str.ofString b0, v0) :: (Str.ofString b1, v1) :: (Str.ofString b2, v2) :: (Str.ofString b3, v3) :: (Str.ofString b4, v4) :: (Str.ofString b5, v5) :: (Str.ofString b6, v6) :: (Str.ofString b7, v7) :: (Str.ofString b8, v8) :: (Str.ofString b9, v9) :: (Str.ofString b10, v10) :: (Str.ofString b11, v11) :: (Str.ofString b12, v12) :: (Str.ofString b13, v13) :: (Str.ofString b14, v14) :: (Str.ofString b15, v15) :: (Str.ofString b16, v16) :: (Str.ofString b17, v17) :: (Str.ofString b18, v18) :: (Str.ofString a, .fz d) :: r) (.Name (Str.ofString a) q) = some d := nm_at [(b0, v0), (b1, v1), (b2, v2), (b3, v3), (b4, v4), (b5, v5), (b6, v6), (b7, v7), (b8, v8), (b9, v9), (b10, v10), (b11, v11), (b12, v12), (b13, v13), (b14, v14), (b15, v15), (b16, v16), (b17, v17), (b18, v18)] h
theorem qC {a b0 b1 b2 b3 b4 b5 b6 b7 b8 b9 b10 b11 b12 b13 b14 b15 b16 b17 b18 : String} {v0 v1 v2 v3 v4 v5 v6 v7 v8 v9 v10 v11 v12 v13 v14 v15 v16 v17 v18 : LV} {u v : LV} {r : Rho} (h : ask sc a [b0, b1, b2, b3, b4, b5, b6, b7, b8, b9, b10, b11, b12, b13, b14, b15, b16, b17, b18] = true) : asgN sc ((Str.ofString b0, v0) :: (Str.ofString b1, v1) :: (Str.ofString b2, v2) :: (Str.ofString b3, v3) :: (Str.ofString b4, v4) :: (Str.ofString b5, v5) :: (Str.ofString b6, v6) :: (Str.ofString b7, v7) :: (Str.ofString b8, v8) :: (Str.ofString b9, v9) :: (Str.ofString b10, v10) :: (Str.ofString b11, v11) :: (Str.ofString b12, v12) :: (Str.ofString b13, v13) :: (Str.ofString b14, v14) :: (Str.ofString b15, v15) :: (Str.ofString b16, v16) :: (Str.ofString b17, v17) :: (Str.ofString b18, v18) :: (Str.ofString a, u) :: r) (Str.ofString a) v = some ((Str.ofString b0, v0) :: (Str.ofString b1, v1) :: (Str.ofString b2, v2) :: (Str.ofString b3, v3) :: (Str.ofString b4, v4) :: (Str.ofString b5, v5) :: (Str.ofString b6, v6) :: (Str.ofString b7, v7) :: (Str.ofString b8, v8) :: (Str.ofString b9, v9) :: (Str.ofString b10, v10) :: (Str.ofString b11, v11) :: (Str.ofString b12, v12) :: (Str.ofString b13, v13) :: (Str.ofString b14, v14) :: (Str.ofString b15, v15) :: (Str.ofString b16, v16) :: (Str.ofString b17, v17) :: (Str.ofString b18, v18) :: (Str.ofString a, v) :: setR r (Str.ofString a) v) := as_at [(b0, v0), (b1, v1), (b2, v2), (b3, v3), (b4, v4), (b5, v5), (b6, v6), (b7, v7), (b8, v8), (b9, v9), (b10, v10), (b11, v11), (b12, v12), (b13, v13), (b14, v14), (b15, v15), (b16, v16), (b17, v17), (b18, v18)] h
theorem kP {a b0 b1 b2 b3 b4 b5 b6 b7 b8 b9 b10 b11 b12 b13 b14 b15 b16 b17 b18 b19 : String} {v0 v1 v2 v3 v4 v5 v6 v7 v8 v9 v10 v11 v12 v13 v14 v15 v16 v17 v18 v19 : LV} {u v : LV} {r : Rho} (h : [b0, b1, b2, b3, b4, b5, b6, b7, b8, b9, b10, b11, b12, b13, b14, b15, b16, b17, b18, b19].contains a = false) : setR ((Str.ofString b0, v0) :: (Str.ofString b1, v1) :: (Str.ofString b2, v2) :: (Str.ofString b3, v3) :: (Str.ofString b4, v4) :: (Str.ofString b5, v5) :: (Str.ofString b6, v6) :: (Str.ofString b7, v7) :: (Str.ofString b8, v8) :: (Str.ofString b9, v9) :: (Str.ofString b10, v10) :: (Str.ofString b11, v11) :: (Str.ofString b12, v12) :: (Str.ofString b13, v13) :: (Str.ofString b14, v14) :: (Str.ofString b15, v15) :: (Str.ofString b16, v16) :: (Str.ofString b17, v17) :: (Str.ofString b18, v18) :: (Str.ofString b19, v19) :: (Str.ofString a, u) :: r) (Str.ofString a) v = (Str.ofString b0, v0) :: (Str.ofString b1, v1) :: (Str.ofString b2, v2) :: (Str.ofString b3, v3) :: (Str.ofString b4, v4) :: (Str.ofString b5, v5) :: (Str.ofString b6, v6) :: (Str.ofString b7, v7) :: (Str.ofString b8, v8) :: (Str.ofString b9, v9) :: (Str.ofString b10, v10) :: (Str.ofString b11, v11) :: (Str.ofString b12, v12) :: (Str.ofString b13, v13) :: (Str.ofString b14, v14) :: (Str.ofString b15, v15) :: (Str.ofString b16, v16) :: (Str.ofString b17, v17) :: (Str.ofString b18, v18) :: (Str.ofString b19, v19) :: (Str.ofString a, v) :: setR r (Str.ofString a) v := sr_at [(b0, v0), (b1, v1), (b2, v2), (b3, v3), (b4, v4), (b5, v5), (b6, v6), (b7, v7), (b8, v8), (b9, v9), (b10, v10), (b11, v11), (b12, v12), (b13, v13), (b14, v14), (b15, v15), (b16, v16), (b17, v17), (b18, v18), (b19, v19)] h
theorem qg {a b0 b1 b2 b3 b4 b5 b6 b7 b8 b9 b10 b11 b12 b13 b14 b15 b16 b17 b18 b19 : String} {v0 v1 v2 v3 v4 v5 v6 v7 v8 v9 v10 v11 v12 v13 v14 v15 v16 v17 v18 v19 : LV} {v : LV} (h : [b0, b1, b2, b3, b4, b5, b6, b7, b8, b9, b10, b11, b12, b13, b14, b15, b16, b17, b18, b19].contains a = false) : setR [(Str.ofString b0, v0), (Str.ofString b1, v1), (Str.ofString b2, v2), (Str.ofString b3, v3), (Str.ofString b4, v4), (Str.ofString b5, v5), (Str.ofString b6, v6), (Str.ofString b7, v7), (Str.ofString b8, v8), (Str.ofString b9, v9), (Str.ofString b10, v10), (Str.ofString b11, v11), (Str.ofString b12, v12), (Str.ofString b13, v13), (Str.ofString b14, v14), (Str.ofString b15, v15), (Str.ofString b16, v16), (Str.ofString b17, v17), (Str.ofString b18, v18), (Str.ofString b19, v19)] (Str.ofString a) v = [(Str.ofString b0, v0), (Str.ofString b1, v1), (Str.ofString b2, v2), (Str.ofString b3, v3), (Str.ofString b4, v4), (Str.ofString b5, v5), (Str.ofString b6, v6), (Str.ofString b7, v7), (Str.ofString b8, v8), (Str.ofString b9, v9), (Str.ofString b10, v10), (Str.ofString b11, v11), (Str.ofString b12, v12), (Str.ofString b13, v13), (Str.ofString b14, v14), (Str.ofString b15, v15), (Str.ofString b16, v16), (Str.ofString b17, v17), (Str.ofString b18, v18), (Str.ofString b19, v19)] := sr_not [(b0, v0), (b1, v1), (b2, v2), (b3, v3), (b4, v4), (b5, v5), (b6, v6), (b7, v7), (b8, v8), (b9, v9), (b10, v10), (b11, v11), (b12, v12), (b13, v13), (b14, v14), (b15, v15), (b16, v16), (b17, v17), (b18, v18), (b19, v19)] h
theorem j0 {a b0 b1 b2 b3 b4 b5 b6 b7 b8 b9 b10 b11 b12 b13 b14 b15 b16 b17 b18 b19 : String} {v0 v1 v2 v3 v4 v5 v6 v7 v8 v9 v10 v11 v12 v13 v14 v15 v16 v17 v18 v19 : LV} {q : Pos} {d : D} {r : Rho} (h : nmk a [b0, b1, b2, b3, b4, b5, b6, b7, b8, b9, b10, b11, b12, b13, b14, b15, b16, b17, b18, b19] = true) : (evN P (n + 1)).e sc ((Str.ofString b0, v0) :: (Str.ofString b1, v1) :: (Str.ofString b2, v2) :: (Str.ofString b3, v3) :: (Str.ofString b4, v4) :: (Str.ofString b5, v5) :: (Str.ofString b6, v6) :: (Str.ofString b7, v7) :: (Str.ofString b8, v8) :: (Str.ofString b9, v9) :: (Str.ofString b10, v10) :: (Str.ofString b11, v11) :: (Str.ofString b12, v12) :: (Str.ofString b13, v13) :: (Str.ofString b14, v14) :: (Str.ofString b15, v15) :: (Str.ofString b16, v16) :: (Str.ofString b17, v17) :: (Str.ofString b18, v18) :: (Str.ofString b19, v19) :: (Str.ofString a, .fz d) :: r) (.Name (Str.ofString a) q) = some d := nm_at [(b0, v0), (b1, v1), (b2, v2), (b3, v3), (b4, v4), (b5, v5), (b6, v6), (b7, v7), (b8, v8), (b9, v9), (b10, v10), (b11, v11), (b12, v12), (b13, v13), (b14, v14), (b15, v15), (b16, v16), (b17, v17), (b18, v18), (b19, v19)] h
theorem qD {a b0 b1 b2 b3 b4 b5 b6 b7 b8 b9 b10 b11 b12 b13 b14 b15 b16 b17 b18 b19 : String} {v0 v1 v2 v3 v4 v5 v6 v7 v8 v9 v10 v11 v12 v13 v14 v15 v16 v17 v18 v19 : LV} {u v : LV} {r : Rho} (h : ask sc a [b0, b1, b2, b3, b4, b5, b6, b7, b8, b9, b10, b11, b12, b13, b14, b15, b16, b17, b18, b19] = true) : asgN sc ((Str.ofString b0, v0) :: (Str.ofString b1, v1) :: (Str.ofString b2, v2) :: (Str.ofString b3, v3) :: (Str.ofString b4, v4) :: (Str.ofString b5, v5) :: (Str.ofString b6, v6) :: (Str.ofString b7, v7) :: (Str.ofString b8, v8) :: (Str.ofString b9, v9) :: (Str.ofString b10, v10) :: (Str.ofString b11, v11) :: (Str.ofString b12, v12) :: (Str.ofString b13, v13) :: (Str.ofString b14, v14) :: (Str.ofString b15, v15) :: (Str.ofString b16, v16) :: (Str.ofString b17, v17) :: (Str.ofString b18, v18) :: (Str.ofString b19, v19) :: (Str.ofString a, u) :: r) (Str.ofString a) v = some ((Str.ofString b0, v0) :: (Str.ofString b1, v1) :: (Str.ofString b2, v2) :: (Str.ofString b3, v3) :: (Str.ofString b4, v4) :: (Str.ofString b5, v5) :: (Str.ofString b6, v6) :: (Str.ofString b7, v7) :: (Str.ofString b8, v8) :: (Str.ofString b9, v9) :: (Str.ofString b10, v10) :: (Str.ofString b11, v11) :: (Str.ofString b12, v12) :: (Str.ofString b13, v13) :: (Str.ofString b14, v14) :: (Str.ofString b15, v15) :: (Str.ofString b16, v16) :: (Str.ofString b17, v17) :: (Str.ofString b18, v18) :: (Str.ofString b19, v19) :: (Str.ofString a, v) :: setR r (Str.ofString a) v) := as_at [(b0, v0), (b1, v1), (b2, v2), (b3, v3), (b4, v4), (b5, v5), (b6, v6), (b7, v7), (b8, v8), (b9, v9), (b10, v10), (b11, v11), (b12, v12), (b13, v13), (b14, v14), (b15, v15), (b16, v16), (b17, v17), (b18, v18), (b19, v19)] h
theorem qh {a b0 b1 b2 b3 b4 b5 b6 b7 b8 b9 b10 b11 b12 b13 b14 b15 b16 b17 b18 b19 b20 : String} {v0 v1 v2 v3 v4 v5 v6 v7 v8 v9 v10 v11 v12 v13 v14 v15 v16 v17 v18 v19 v20 : LV} {v : LV} (h : [b0, b1, b2, b3, b4, b5, b6, b7, b8, b9, b10, b11, b12, b13, b14, b15, b16, b17, b18, b19, b20].contains a = false) : setR [(Str.ofString b0, v0), (Str.ofString b1, v1), (Str.ofString b2, v2), (Str.ofString b3, v3), (Str.ofString b4, v4), (Str.ofString b5, v5), (Str.ofString b6, v6), (Str.ofString b7, v7), (Str.ofString b8, v8), (Str.ofString b9, v9), (Str.ofString b10, v10), (Str.ofString b11, v11), (Str.ofString b12, v12), (Str.ofString b13, v13), (Str.ofString b14, v14), (Str.ofString b15, v15), (Str.ofString b16, v16), (Str.ofString b17, v17), (Str.ofString b18, v18), (Str.ofString b19, v19), (Str.ofString b20, v20)] (Str.ofString a) v = [(Str.ofString b0, v0), (Str.ofString b1, v1), (Str.ofString b2, v2), (Str.ofString b3, v3), (Str.ofString b4, v4), (Str.ofString b5, v5), (Str.ofString b6, v6), (Str.ofString b7, v7), (Str.ofString b8, v8), (Str.ofString b9, v9), (Str.ofString b10, v10), (Str.ofString b11, v11), (Str.ofString b12, v12), (Str.ofString b13, v13), (Str.ofString b14, v14), (Str.ofString b15, v15), (Str.ofString b16, v16), (Str.ofString b17, v17), (Str.ofString b18, v18), (Str.ofString b19, v19), (Str.ofString b20, v20)] := sr_not [(b0, v0), (b1, v1), (b2, v2), (b3, v3), (b4, v4), (b5, v5), (b6, v6), (b7, v7), (b8, v8), (b9, v9), (b10, v10), (b11, v11), (b12, v12), (b13, v13), (b14, v14), (b15, v15), (b16, v16), (b17, v17), (b18, v18), (b19, v19), (b20, v20)] h
theorem j3 {a b0 b1 b2 b3 b4 b5 b6 b7 b8 b9 b10 b11 b12 b13 b14 b15 b16 b17 b18 b19 b20 : String} {v0 v1 v2 v3 v4 v5 v6 v7 v8 v9 v10 v11 v12 v13 v14 v15 v16 v17 v18 v19 v20 : LV} {q : Pos} {d : D} {r : Rho} (h : nmk a [b0, b1, b2, b3, b4, b5, b6, b7, b8, b9, b10, b11, b12, b13, b14, b15, b16, b17, b18, b19, b20] = true) : (evN P (n + 1)).e sc ((Str.ofString b0, v0) :: (Str.ofString b1, v1) :: (Str.ofString b2, v2) :: (Str.ofString b3, v3) :: (Str.ofString b4, v4) :: (Str.ofString b5, v5) :: (Str.ofString b6, v6) :: (Str.ofString b7, v7) :: (Str.ofString b8, v8) :: (Str.ofString b9, v9) :: (Str.ofString b10, v10) :: (Str.ofString b11, v11) :: (Str.ofString b12, v12) :: (Str.ofString b13, v13) :: (Str.ofString b14, v14) :: (Str.ofString b15, v15) :: (Str.ofString b16, v16) :: (Str.ofString b17, v17) :: (Str.ofString b18, v18) :: (Str.ofString b19, v19) :: (Str.ofString b20, v20) :: (Str.ofString a, .fz d) :: r) (.Name (Str.ofString a) q) = some d := nm_at [(b0, v0), (b1, v1), (b2, v2), (b3, v3), (b4, v4), (b5, v5), (b6, v6), (b7, v7), (b8, v8), (b9, v9), (b10, v10), (b11, v11), (b12, v12), (b13, v13), (b14, v14), (b15, v15), (b16, v16), (b17, v17), (b18, v18), (b19, v19), (b20, v20)] h
theorem qE {a b0 b1 b2 b3 b4 b5 b6 b7 b8 b9 b10 b11 b12 b13 b14 b15 b16 b17 b18 b19 b20 : String} {v0 v1 v2 v3 v4 v5 v6 v7 v8 v9 v10 v11 v12 v13 v14 v15 v16 v17 v18 v19 v20 : LV} {u v : LV} {r : Rho} (h : ask sc a [b0, b1, b2, b3, b4, b5, b6, b7, b8, b9, b10, b11, b12, b13, b14, b15, b16, b17, b18, b19, b20] = true) : asgN sc ((Str.ofString b0, v0) :: (Str.ofString b1, v1) :: (Str.ofString b2, v2) :: (Str.ofString b3, v3) :: (Str.ofString b4, v4) :: (Str.ofString b5, v5) :: (Str.ofString b6, v6) :: (Str.ofString b7, v7) :: (Str.ofString b8, v8) :: (Str.ofString b9, v9) :: (Str.ofString b10, v10) :: (Str.ofString b11, v11) :: (Str.ofString b12, v12) :: (Str.ofString b13, v13) :: (Str.ofString b14, v14) :: (Str.ofString b15, v15) :: (Str.ofString b16, v16) :: (Str.ofString b17, v17) :: (Str.ofString b18, v18) :: (Str.ofString b19, v19) :: (Str.ofString b20, v20) :: (Str.ofString a, u) :: r) (Str.ofString a) v = some ((Str.ofString b0, v0) :: (Str.ofString b1, v1) :: (Str.ofString b2, v2) :: (Str.ofString b3, v3) :: (Str.ofString b4, v4) :: (Str.ofString b5, v5) :: (Str.ofString b6, v6) :: (Str.ofString b7, v7) :: (Str.ofString b8, v8) :: (Str.ofString b9, v9) :: (Str.ofString b10, v10) :: (Str.ofString b11, v11) :: (Str.ofString b12, v12) :: (Str.ofString b13, v13) :: (Str.ofString b14, v14) :: (Str.ofString b15, v15) :: (Str.ofString b16, v16) :: (Str.ofString b17, v17) :: (Str.ofString b18, v18) :: (Str.ofString b19, v19) :: (Str.ofString b20, v20) :: (Str.ofString a, v) :: setR r (Str.ofString a) v) := as_at [(b0, v0), (b1, v1), (b2, v2), (b3, v3), (b4, v4), (b5, v5), (b6, v6), (b7, v7), (b8, v8), (b9, v9), (b10, v10), (b11, v11), (b12, v12), (b13, v13), (b14, v14), (b15, v15), (b16, v16), (b17, v17), (b18, v18), (b19, v19), (b20, v20)] h
theorem j4 {a b0 b1 b2 b3 b4 b5 b6 b7 b8 b9 b10 b11 b12 b13 b14 b15 b16 b17 b18 b19 b20 b21 : String} {v0 v1 v2 v3 v4 v5 v6 v7 v8 v9 v10 v11 v12 v13 v14 v15 v16 v17 v18 v19 v20 v21 : LV} {q : Pos} {d : D} {r : Rho} (h : nmk a [b0, b1, b2, b3, b4, b5, b6, b7, b8, b9, b10, b11, b12, b13, b14, b15, b16, b17, b18, b19, b20, b21] = true) : (evN P (n + 1)).e sc ((Str.ofString b0, v0) :: (Str.ofString b1, v1) :: (Str.ofString b2, v2) :: (Str.ofString b3, v3) :: (Str.ofString b4, v4) :: (Str.ofString b5, v5) :: (Str.ofString b6, v6) :: (Str.ofString b7, v7) :: (Str.ofString b8, v8) :: (Str.ofString b9, v9) :: (Str.ofString b10, v10) :: (Str.ofString b11, v11) :: (Str.ofString b12, v12) :: (Str.ofString b13, v13) :: (Str.ofString b14, v14) :: (Str.ofString b15, v15) :: (Str.ofString b16, v16) :: (Str.ofString b17, v17) :: (Str.ofString b18, v18) :: (Str.ofString b19, v19) :: (Str.ofString b20, v20) :: (Str.ofString b21, v21) :: (Str.ofString a, .fz d) :: r) (.Name (Str.ofString a) q) = some d := nm_at [(b0, v0), (b1, v1), (b2, v2), (b3, v3), (b4, v4), (b5, v5), (b6, v6), (b7, v7), (b8, v8), (b9, v9), (b10, v10), (b11, v11), (b12, v12), (b13, v13), (b14, v14), (b15, v15), (b16, v16), (b17, v17), (b18, v18), (b19, v19), (b20, v20), (b21, v21)] h
theorem qF {a b0 b1 b2 b3 b4 b5 b6 b7 b8 b9 b10 b11 b12 b13 b14 b15 b16 b17 b18 b19 b20 b21 : String} {v0 v1 v2 v3 v4 v5 v6 v7 v8 v9 v10 v11 v12 v13 v14 v15 v16 v17 v18 v19 v20 v21 : LV} {u v : LV} {r : Rho} (h : ask sc a [b0, b1, b2, b3, b4, b5, b6, b7, b8, b9, b10, b11, b12, b13, b14, b15, b16, b17, b18, b19, b20, b21] = true) : asgN sc ((Str.ofString b0, v0) :: (Str.ofString b1, v1) :: (Str.ofString b2, v2) :: (Str.ofString b3, v3) :: (Str.ofString b4, v4) :: (Str.ofString b5, v5) :: (Str.ofString b6, v6) :: (Str.ofString b7, v7) :: (Str.ofString b8, v8) :: (Str.ofString b9, v9) :: (Str.ofString b10, v10) :: (Str.ofString b11, v11) :: (Str.ofString b12, v12) :: (Str.ofString b13, v13) :: (Str.ofString b14, v14) :: (Str.ofString b15, v15) :: (Str.ofString b16, v16) :: (Str.ofString b17, v17) :: (Str.ofString b18, v18) :: (Str.ofString b19, v19) :: (Str.ofString b20, v20) :: (Str.ofString b21, v21) :: (Str.ofString a, u) :: r) (Str.ofString a) v = some ((Str.ofString b0, v0) :: (Str.ofString b1, v1) :: (Str.ofString b2, v2) :: (Str.ofString b3, v3) :: (Str.ofString b4, v4) :: (Str.ofString b5, v5) :: (Str.ofString b6, v6) :: (Str.ofString b7, v7) :: (Str.ofString b8, v8) :: (Str.ofString b9, v9) :: (Str.ofString b10, v10) :: (Str.ofString b11, v11) :: (Str.ofString b12, v12) :: (Str.ofString b13, v13) :: (Str.ofString b14, v14) :: (Str.ofString b15, v15) :: (Str.ofString b16, v16) :: (Str.ofString b17, v17) :: (Str.ofString b18, v18) :: (Str.ofString b19, v19) :: (Str.ofString b20, v20) :: (Str.ofString b21, v21) :: (Str.ofString a, v) :: setR r (Str.ofString a) v) := as_at [(b0, v0), (b1, v1), (b2, v2), (b3, v3), (b4, v4), (b5, v5), (b6, v6), (b7, v7), (b8, v8), (b9, v9), (b10, v10), (b11, v11), (b12, v12), (b13, v13), (b14, v14), (b15, v15), (b16, v16), (b17, v17), (b18, v18), (b19, v19), (b20, v20), (b21, v21)] h
theorem kp {α : Type} {a b0 b1 b2 b3 b4 b5 b6 b7 b8 b9 b10 b11 b12 b13 b14 b15 b16 b17 b18 b19 b20 b21 b22 : String} {v0 v1 v2 v3 v4 v5 v6 v7 v8 v9 v10 v11 v12 v13 v14 v15 v16 v17 v18 v19 v20 v21 v22 : α} {v : α} {r : List (Str × α)} (h : [b0, b1, b2, b3, b4, b5, b6, b7, b8, b9, b10, b11, b12, b13, b14, b15, b16, b17, b18, b19, b20, b21, b22].contains a = false) : List.lookup (Str.ofString a) ((Str.ofString b0, v0) :: (Str.ofString b1, v1) :: (Str.ofString b2, v2) :: (Str.ofString b3, v3) :: (Str.ofString b4, v4) :: (Str.ofString b5, v5) :: (Str.ofString b6, v6) :: (Str.ofString b7, v7) :: (Str.ofString b8, v8) :: (Str.ofString b9, v9) :: (Str.ofString b10, v10) :: (Str.ofString b11, v11) :: (Str.ofString b12, v12) :: (Str.ofString b13, v13) :: (Str.ofString b14, v14) :: (Str.ofString b15, v15) :: (Str.ofString b16, v16) :: (Str.ofString b17, v17) :: (Str.ofString b18, v18) :: (Str.ofString b19, v19) :: (Str.ofString b20, v20) :: (Str.ofString b21, v21) :: (Str.ofString b22, v22) :: (Str.ofString a, v) :: r) = some v := lk_at [(b0, v0), (b1, v1), (b2, v2), (b3, v3), (b4, v4), (b5, v5), (b6, v6), (b7, v7), (b8, v8), (b9, v9), (b10, v10), (b11, v11), (b12, v12), (b13, v13), (b14, v14), (b15, v15), (b16, v16), (b17, v17), (b18, v18), (b19, v19), (b20, v20), (b21, v21), (b22, v22)] h
theorem kD {α : Type} {a b0 b1 b2 b3 b4 b5 b6 b7 b8 b9 b10 b11 b12 b13 b14 b15 b16 b17 b18 b19 b20 b21 b22 : String} {v0 v1 v2 v3 v4 v5 v6 v7 v8 v9 v10 v11 v12 v13 v14 v15 v16 v17 v18 v19 v20 v21 v22 : α} (h : [b0, b1, b2, b3, b4, b5, b6, b7, b8, b9, b10, b11, b12, b13, b14, b15, b16, b17, b18, b19, b20, b21, b22].contains a = false) : List.lookup (Str.ofString a) ([(Str.ofString b0, v0), (Str.ofString b1, v1), (Str.ofString b2, v2), (Str.ofString b3, v3), (Str.ofString b4, v4), (Str.ofString b5, v5), (Str.ofString b6, v6), (Str.ofString b7, v7), (Str.ofString b8, v8), (Str.ofString b9, v9), (Str.ofString b10, v10), (Str.ofString b11, v11), (Str.ofString b12, v12), (Str.ofString b13, v13), (Str.ofString b14, v14), (Str.ofString b15, v15), (Str.ofString b16, v16), (Str.ofString b17, v17), (Str.ofString b18, v18), (Str.ofString b19, v19), (Str.ofString b20, v20), (Str.ofString b21, v21), (Str.ofString b22, v22)] : List (Str × α)) = none := lk_not [(b0, v0), (b1, v1), (b2, v2), (b3, v3), (b4, v4), (b5, v5), (b6, v6), (b7, v7), (b8, v8), (b9, v9), (b10, v10), (b11, v11), (b12, v12), (b13, v13), (b14, v14), (b15, v15), (b16, v16), (b17, v17), (b18, v18), (b19, v19), (b20, v20), (b21, v21), (b22, v22)] h
theorem kq {α : Type} {a b0 b1 b2 b3 b4 b5 b6 b7 b8 b9 b10 b11 b12 b13 b14 b15 b16 b17 b18 b19 b20 b21 b22 b23 : String} {v0 v1 v2 v3 v4 v5 v6 v7 v8 v9 v10 v11 v12 v13 v14 v15 v16 v17 v18 v19 v20 v21 v22 v23 : α} {v : α} {r : List (Str × α)} (h : [b0, b1, b2, b3, b4, b5, b6, b7, b8, b9, b10, b11, b12, b13, b14, b15, b16, b17, b18, b19, b20, b21, b22, b23].contains a = false) : List.lookup (Str.ofString a) ((Str.ofString b0, v0) :: (Str.ofString b1, v1) :: (Str.ofString b2, v2) :: (Str.ofString b3, v3) :: (Str.ofString b4, v4) :: (Str.ofString b5, v5) :: (Str.ofString b6, v6) :: (Str.ofString b7, v7) :: (Str.ofString b8, v8) :: (Str.ofString b9, v9) :: (Str.ofString b10, v10) :: (Str.ofString b11, v11) :: (Str.ofString b12, v12) :: (Str.ofString b13, v13) :: (Str.ofString b14, v14) :: (Str.ofString b15, v15) :: (Str.ofString b16, v16) :: (Str.ofString b17, v17) :: (Str.ofString b18, v18) :: (Str.ofString b19, v19) :: (Str.ofString b20, v20) :: (Str.ofString b21, v21) :: (Str.ofString b22, v22) :: (Str.ofString b23, v23) :: (Str.ofString a, v) :: r) = some v := lk_at [(b0, v0), (b1, v1), (b2, v2), (b3, v3), (b4, v4), (b5, v5), (b6, v6), (b7, v7), (b8, v8), (b9, v9), (b10, v10), (b11, v11), (b12, v12), (b13, v13), (b14, v14), (b15, v15), (b16, v16), (b17, v17), (b18, v18), (b19, v19), (b20, v20), (b21, v21), (b22, v22), (b23, v23)] h
theorem kt {α : Type} {a b0 b1 b2 b3 b4 b5 b6 b7 b8 b9 b10 b11 b12 b13 b14 b15 b16 b17 b18 b19 b20 b21 b22 b23 b24 : String} {v0 v1 v2 v3 v4 v5 v6 v7 v8 v9 v10 v11 v12 v13 v14 v15 v16 v17 v18 v19 v20 v21 v22 v23 v24 : α} {v : α} {r : List (Str × α)} (h : [b0, b1, b2, b3, b4, b5, b6, b7, b8, b9, b10, b11, b12, b13, b14, b15, b16, b17, b18, b19, b20, b21, b22, b23, b24].contains a = false) : List.lookup (Str.ofString a) ((Str.ofString b0, v0) :: (Str.ofString b1, v1) :: (Str.ofString b2, v2) :: (Str.ofString b3, v3) :: (Str.ofString b4, v4) :: (Str.ofString b5, v5) :: (Str.ofString b6, v6) :: (Str.ofString b7, v7) :: (Str.ofString b8, v8) :: (Str.ofString b9, v9) :: (Str.ofString b10, v10) :: (Str.ofString b11, v11) :: (Str.ofString b12, v12) :: (Str.ofString b13, v13) :: (Str.ofString b14, v14) :: (Str.ofString b15, v15) :: (Str.ofString b16, v16) :: (Str.ofString b17, v17) :: (Str.ofString b18, v18) :: (Str.ofString b19, v19) :: (Str.ofString b20, v20) :: (Str.ofString b21, v21) :: (Str.ofString b22, v22) :: (Str.ofString b23, v23) :: (Str.ofString b24, v24) :: (Str.ofString a, v) :: r) = some v := lk_at [(b0, v0), (b1, v1), (b2, v2), (b3, v3), (b4, v4), (b5, v5), (b6, v6), (b7, v7), (b8, v8), (b9, v9), (b10, v10), (b11, v11), (b12, v12), (b13, v13), (b14, v14), (b15, v15), (b16, v16), (b17, v17), (b18, v18), (b19, v19), (b20, v20), (b21, v21), (b22, v22), (b23, v23), (b24, v24)] h
/-! the reckoner's small functions at each shape -/
theorem zs {a b c d} : isFresh (.BinOp a b c d) = true := rfl
theorem zt {a b c d} : isFresh (.IfExp a b c d) = false := rfl
theorem zu {a b c d} : isFresh (.ListComp a b c d) = true := rfl
theorem zv {a b c d} : isFresh (.Compare a b c d) = false := rfl
theorem zZ {a b c d} : notComp (.Compare a b c d) = true := rfl
theorem zw {a b c d} : isFresh (.Call a b c d) = false := rfl
theorem zx {a b c} : isFresh (.Constant a b c) = false := rfl
theorem zy {a b} : isFresh (.Name a b) = false := rfl
theorem z0 {a b} : notComp (.Name a b) = true := rfl
theorem zz {a b} : isFresh (.List a b) = true := rfl
theorem zA {a b c} : isFresh (.Tuple a b c) = false := rfl
theorem xa {a b c} : notComp (.Tuple a b c) = true := rfl
theorem zB {a b c d e f} : isFresh (.Subscript a (.Slice b c d e) f) = true := rfl
theorem zO {sc : Scope} {ρ : Rho} {x p d} : bindT sc ρ (.Name x p) d = asgN sc ρ x (.fz d) := id rfl
theorem zP {sc : Scope} {ρ : Rho} {ts k p ds} : bindT sc ρ (.Tuple ts k p) (.tup ds) = bindNs sc ρ ts ds := id rfl
noncomputable def oBs (sc : Scope) (ts : List Expr) (ds : List D) : Option Rho → Option Rho := o1 fun ρ => bindNs sc ρ ts ds
theorem zQ {sc : Scope} {ρ : Rho} {ts : List Expr} {ds : List D} : oBs sc ts ds (some ρ) = bindNs sc ρ ts ds := id rfl
theorem zR {sc : Scope} {ρ : Rho} : bindNs sc ρ [] [] = some ρ := rfl
theorem zS {sc : Scope} {ρ : Rho} {x p ts d ds} : bindNs sc ρ (.Name x p :: ts) (d :: ds) = oBs sc ts ds (asgN sc ρ x (.fz d)) := id rfl
noncomputable def oAs (sc : Scope) (d : D) (ts : List Expr) : Option Rho → Option Rho := o1 fun ρ => asgNs sc d ρ ts
theorem zT {sc : Scope} {ρ : Rho} {ts : List Expr} {d : D} : oAs sc d ts (some ρ) = asgNs sc d ρ ts := id rfl
theorem zU {sc : Scope} {ρ : Rho} {d : D} : asgNs sc d ρ [] = some ρ := rfl
theorem zV {sc : Scope} {ρ : Rho} {x p ts} {d : D} : asgNs sc d ρ (.Name x p :: ts) = oAs sc d ts (asgN sc ρ x (.fz d)) := id rfl
theorem zW {d} : LV.fzOnly (.fz d) = .fz d := rfl
theorem x6 {d : D} : lvOf false d = .fz d := by cases d <;> rfl
theorem x7 {l} : lvOf true (.list l) = .ow l := rfl
theorem x8 {i} : lvOf true (.int i) = .fz (.int i) := rfl
theorem xZ {b} : truthD (.bool b) = some b := rfl
theorem x5 {i} : truthD (.int i) = some (decide (i ≠ 0)) := rfl
theorem xH : constD .none = some .none := rfl
theorem xI {b} : constD (.bool b) = some (.bool b) := rfl
theorem xJ {b} : constD (.int b) = some (.int b) := rfl
theorem xK {b} : constD (.str b) = some (.str b.cps.toList) := rfl
theorem xL {b} : constD (.bytes b) = some (.bytes b) := rfl
theorem x9 {i} : flat (.int i) = true := rfl
theorem zN {V : EvF} {sc : Scope} {ρ : Rho} {c} : ifsD V sc ρ [c] = V.t sc ρ c := id rfl
theorem xd {ρ : Rho} : updR ρ [] = ρ := rfl
theorem xe {ρ : Rho} {x v r} : updR ρ ((x, v) :: r) = updR (setR ρ x v) r := rfl
theorem wU {l : List D} : itD (.list l) = if l.length ≤ lim then some l else none := rfl
theorem wV {l : List Nat} : itD (.str l) = if l.length ≤ lim then some (l.map fun c => .str [c]) else none := rfl
theorem wW {l : List UInt8} : itD (.bytes l) = if l.length ≤ lim then some (l.map fun b => .int (b.toNat : Int)) else none := rfl
theorem wX {a b c : Int} : itD (.rng a b c) = if -1000000 ≤ a ∧ a ≤ 1000000 ∧ -1000000 ≤ b ∧ b ≤ 1000000 ∧ (c = 1 ∨ c = -1) then some ((rngL a b c).map .int) else none := rfl
theorem zX {a : Str} {d : D} : setF [] a d = [(a, d)] := rfl
theorem zY {a b : String} {d e : D} {r : List (Str × D)} (h : (b == a) = false) : setF ((Str.ofString b, e) :: r) (Str.ofString a) d = (Str.ofString b, e) :: setF r (Str.ofString a) d := if_neg fun z => by rw [ofString_inj] at z; rw [z] at h; simp at h
/-! conditions as one word -/
noncomputable def lenOk (es : List Expr) : Bool := decide (es.length ≤ lim)
noncomputable def okMt (o : Expr) (ap p : Pos) (args : List Expr) (kws : List Keyword) : Bool := attrBaseOk o && ap.endLine == p.line && decide (args.length + kws.length < 20)
noncomputable def okLC (iter : Expr) (scope : Scope) : Bool := okE iter && scope.kind == .function && nodupB (scope.names.map (·.1)) && (0 : Int) == 0
noncomputable def okRw (ts : List Expr) (v : Expr) : Bool := distinctNames ts [] && notConsts v && (ts.length == 2 || ts.length == 3)
noncomputable def okSb (x : Str) (i v : Expr) : Bool := notComp v && !((nmE fuelN i).contains x) && nmOk x
noncomputable def okAp (x : Str) (e : Expr) (ap cp : Pos) : Bool := !((nmE fuelN e).contains x) && ap.endLine == cp.line && okE e && nmOk x
theorem zL {x : Str} {v : LV} {r : Rho} : oFr x (some v) (some r) = some ((x, v.fzOnly) :: r) := rfl
theorem zM {x : Str} {r : Rho} : oUr x (some r) = some ((x, .un) :: r) := rfl
theorem zH {ρ : Rho} {sc : Scope} : compRho sc ρ [] = some [] := rfl
theorem zI {ρ : Rho} {sc : Scope} {x r} : compRho sc ρ ((x, .globalImplicit) :: r) = compRho sc ρ r := rfl
theorem zJ {ρ : Rho} {sc : Scope} {x r} : compRho sc ρ ((x, .local) :: r) = oUr x (compRho sc ρ r) := id rfl
theorem zK {ρ : Rho} {sc : Scope} {x r} (h : okFr sc x = true) : compRho sc ρ ((x, .free) :: r) = oFr x (ρ.lookup x) (compRho sc ρ r) := if_pos h
theorem qG {x : Str} {p} (h : nmOk x = true) : (evN P (n + 1)).e sc ρ (.Name x p) = oLk P sc x (ρ.lookup x) := ev_name.trans (if_pos h)
theorem yr {x : Str} (h : sc.names.lookup x = some .globalImplicit) : oLk P sc x none = P.gl x := oLk_n.trans (if_pos h)
theorem qJ {l op r p} (h : okE r = true) : (evN P (n + 1)).e sc ρ (.Compare l [op] [r] p) = oB (oCmp op ((evN P n).e sc ρ l) ((evN P n).e sc ρ r)) := ev_cmp.trans (if_pos h)
theorem qL {es : List Expr} {p} (h : lenOk es = true) : (evN P (n + 1)).e sc ρ (.List es p) = oList (evs ((evN P n).e sc ρ) es) := ev_list.trans (if_pos (of_decide_eq_true h))
theorem qM {es : List Expr} {k p} (h : lenOk es = true) : (evN P (n + 1)).e sc ρ (.Tuple es k p) = oTup (evs ((evN P n).e sc ρ) es) := ev_tup.trans (if_pos (of_decide_eq_true h))
theorem qO {f : Expr → Option D} {e r} (h : okE e = true) : evs f (e :: r) = oCons (f e) (evs f r) := evs_cons.trans (if_pos h)
theorem qR {o x p} (h : attrBaseOk o = true) : (evN P (n + 1)).e sc ρ (.Attribute o x p) = oAtt P x ((evN P n).e sc ρ o) := ev_att.trans (if_pos h)
theorem q8 {o x ap args kws p} (h : okMt o ap p args kws = true) : (evN P (n + 1)).e sc ρ (.Call (.Attribute o x ap) args kws p) = oMt P x ((evN P n).e sc ρ o) (evs ((evN P n).e sc ρ) args) (evk ((evN P n).e sc ρ) kws) := ev_mt.trans (if_pos h)
theorem ya {elt target iter ifs scope p} (h : okLC iter scope = true) : (evN P (n + 1)).e sc ρ (.ListComp elt [⟨target, iter, ifs, 0⟩] scope p) = oComp (evN P n) scope target ifs elt (compI (evN P n) sc ρ target iter) (compRho sc ρ scope.names) := ev_comp.trans (if_pos h)
theorem yk {l op r p} (h : okE r = true) : (evN P (n + 1)).t sc ρ (.Compare l [op] [r] p) = oCmp op ((evN P n).e sc ρ l) ((evN P n).e sc ρ r) := et_cmp.trans (if_pos h)
theorem yl {l o1 o2 r1 r2 p} (h : okE r2 = true) : (evN P (n + 1)).t sc ρ (.Compare l [o1, o2] [r1, r2] p) = oCmp2 o1 o2 ((evN P n).e sc ρ l) ((evN P n).e sc ρ r1) ((evN P n).e sc ρ r2) := et_cmp2.trans (if_pos h)
theorem jq {x p v q} (h : okV v = true) : S1 P n sc ρ (.Assign [.Name x p] v q) = oAsg sc x (isFresh v) (evO (evN P fuelN) sc ρ v) := s_name.trans (if_pos h)
theorem jr {ts k tp v q} (h : okRw ts v = true) : S1 P n sc ρ (.Assign [.Tuple ts k tp] v q) = oRow sc ts (evO (evN P fuelN) sc ρ v) := s_row.trans (if_pos h)
theorem ju {x p a q v s} (h : nmOk x = true) : S1 P n sc ρ (.Assign [.Attribute (.Name x p) a q] v s) = oAttr P x a (notComp v) (evO (evN P fuelN) sc ρ v) := s_attr.trans (if_pos h)
theorem jv {x p i q v s} (h : okSb x i v = true) : S1 P n sc ρ (.Assign [.Subscript (.Name x p) i q] v s) = oSub (evN P fuelN) sc x i (evO (evN P fuelN) sc ρ v) := s_sub.trans (if_pos h)
theorem jx {x p m ap e cp s} (h : okAp x e ap cp = true) : S1 P n sc ρ (.Expr (.Call (.Attribute (.Name x p) m ap) [e] [] cp) s) = oApp x m (ρ.lookup x) (evO (evN P fuelN) sc ρ e) := s_app.trans (if_pos h)
theorem jz {tgt it b p} (h : okE it = true) : S1 P n sc ρ (.For tgt it b [] p) = oFor (exN P n sc) sc tgt b (evO (evN P fuelN) sc ρ it) := s_for.trans (if_pos h)
theorem yU {ts : List Expr} {ds : List D} {ρ₁ : Rho} (h : ds.length ≤ lim) : oRow sc ts (some (.tup ds, ρ₁)) = oNext (bindNs sc ρ₁ ts ds) := oRow_t.trans (if_pos h)
theorem yV {ts : List Expr} {ds : List D} {ρ₁ : Rho} (h : ds.length ≤ lim) : oRow sc ts (some (.list ds, ρ₁)) = oNext (bindNs sc ρ₁ ts ds) := oRow_l.trans (if_pos h)
theorem yL {z : Bool} {N : List Str} : oO ρ N (some (.bool z)) = some (.bool z, ρ) := id rfl
theorem yM {z : Int} {N : List Str} : oO ρ N (some (.int z)) = some (.int z, ρ) := id rfl
theorem yW {z : Int} {ts : List Expr} {ρ₁ : Rho} : oNames sc ts (some (.int z, ρ₁)) = oNext (asgNs sc (.int z) ρ₁ ts) := id rfl
theorem yN {z : List Nat} {N : List Str} : oO ρ N (some (.str z)) = some (.str z, ρ) := id rfl
theorem yO {z : List UInt8} {N : List Str} : oO ρ N (some (.bytes z)) = some (.bytes z, ρ) := id rfl
theorem yP {z : Value} {N : List Str} : oO ρ N (some (.val z)) = some (.val z, ρ) := id rfl
theorem yQ {z : List D} {N : List Str} : oO ρ N (some (.list z)) = some (.list z, frzM N ρ) := id rfl
theorem yR {z : List D} {N : List Str} : oO ρ N (some (.tup z)) = some (.tup z, frzM N ρ) := id rfl
theorem yS {y z u : Int} {N : List Str} : oO ρ N (some (.rng y z u)) = some (.rng y z u, frzM N ρ) := id rfl
set_option tactic.hygienic true in
theorem yY {x : Str} {ok : Bool} {d : D} {l : List D} {k : Int} {ρ₂ : Rho} (h : (flat d && inB k l.length && ok && decide (l.length ≤ lim)) = true) : oSub1 x ok d (some (.ow l)) (some (.int k, ρ₂)) = some (.next (setR ρ₂ x (.ow (l.set (ix k l.length) d)))) := oSub1_s.trans (if_pos h)
set_option tactic.hygienic true in
theorem zo {x : Str} {l : List D} {d : D} {ρ₁ : Rho} (h : l.length ≤ lim) : oApp x (Str.ofString "append") (some (.ow l)) (some (d, ρ₁)) = some (.next (setR ρ₁ x (.ow (l ++ [d])))) := oApp_a h
set_option tactic.hygienic true in
theorem zh {x a : Str} {ok : Bool} {d : D} {ρ₁ : Rho} {y C : Addr} {fs : List (Str × D)} (h : (P.st C a && decide (fs.length < 100) && ok) = true) : oAt2 P x a ok d ρ₁ (some (.oi y C fs)) = some (.next (setR ρ₁ x (.oi y C (setF fs a d)))) := oAt2_s.trans (if_pos h)
end
end Mine

set_option maxHeartbeats 8000000
namespace Mine
open PySem PySem.W PySem.Calls PyProof.Rows
noncomputable abbrev R0 := PySem.Challenge.rw_pa0015_02.row
noncomputable abbrev pg0 : Program := R0.toRowW.prog
noncomputable def q0 : Program := view pg0 [0,2,4,5,7,8,9,10,11,12,19,20,21,22,23,24,25]
noncomputable def ls0 : List Str := ["Whitespace", "bytes_types", "a2b_base64", "b2a_base64", "b64encode", "b64decode"]
noncomputable def st (i : Nat) : Stmt := pg0.main.body[i]?.getD (.Pass default)
noncomputable def mt (i j : Nat) : Stmt := match st i with
  | .ClassDef _ _ _ b _ _ _ _ _ _ _ => b[j]?.getD (.Pass default)
  | _ => .Pass default
noncomputable abbrev ta {α : Type} (l : List α) : Array α := l.toArray
noncomputable def mkF (s : Stmt) (q : Str) (df kw dc md cd ct : Value) : Obj := match s with
  | .FunctionDef n as b _ _ _ sc _ _ _ => ⟨.type "function", none, .func ⟨n, q, as, .stmts b, sc, 3, [], df, kw, dc, md, none, cd, ct, 0⟩, #[]⟩
  | _ => default
noncomputable def KK (P : Params) : Frag := [
  (2, Obj.mk Value.none none (Data.dict (ta List.nil)) (ta List.nil)),
  (3, Obj.mk (Value.type "dict") none (Data.dict (ta (List.cons (DictEntry.mk (PyData.keyHash P (Str.ofString "__name__")) (Value.str (Str.ofString "__name__") 165) (Value.str (Str.ofString "law_pa0015_02") 410)) (List.cons (DictEntry.mk (PyData.keyHash P (Str.ofString "__doc__")) (Value.str (Str.ofString "__doc__") 166) Value.none) (List.cons (DictEntry.mk (PyData.keyHash P (Str.ofString "__package__")) (Value.str (Str.ofString "__package__") 167) Value.none) (List.cons (DictEntry.mk (PyData.keyHash P (Str.ofString "__loader__")) (Value.str (Str.ofString "__loader__") 168) (Value.builtin "__main__.__loader__#opaque")) (List.cons (DictEntry.mk (PyData.keyHash P (Str.ofString "__spec__")) (Value.str (Str.ofString "__spec__") 169) Value.none) (List.cons (DictEntry.mk (PyData.keyHash P (Str.ofString "__annotations__")) (Value.str (Str.ofString "__annotations__") 170) (Value.ref 6)) (List.cons (DictEntry.mk (PyData.keyHash P (Str.ofString "__builtins__")) (Value.str (Str.ofString "__builtins__") 171) (Value.ref 4)) (List.cons (DictEntry.mk (PyData.keyHash P (Str.ofString "__file__")) (Value.str (Str.ofString "__file__") 173) (Value.str (Str.ofString "/claim/cut.py") 172)) (List.cons (DictEntry.mk (PyData.keyHash P (Str.ofString "__cached__")) (Value.str (Str.ofString "__cached__") 174) Value.none) (List.cons (DictEntry.mk (PyData.keyHash P (Str.ofString "_wall")) (Value.str (Str.ofString "_wall") 193) (Value.ref 21)) (List.cons (DictEntry.mk (PyData.keyHash P (Str.ofString "Whitespace")) (Value.str (Str.ofString "Whitespace") 296) (Value.ref 83)) (List.cons (DictEntry.mk (PyData.keyHash P (Str.ofString "bytes_types")) (Value.str (Str.ofString "bytes_types") 299) (Value.ref 88)) (List.cons (DictEntry.mk (PyData.keyHash P (Str.ofString "_bytes_from_decode_data")) (Value.str (Str.ofString "_bytes_from_decode_data") 306) (Value.ref 95)) (List.cons (DictEntry.mk (PyData.keyHash P (Str.ofString "Error")) (Value.str (Str.ofString "Error") 326) (Value.ref 105)) (List.cons (DictEntry.mk (PyData.keyHash P (Str.ofString "_ascii_buffer")) (Value.str (Str.ofString "_ascii_buffer") 334) (Value.ref 115)) (List.cons (DictEntry.mk (PyData.keyHash P (Str.ofString "_buffer")) (Value.str (Str.ofString "_buffer") 342) (Value.ref 122)) (List.cons (DictEntry.mk (PyData.keyHash P (Str.ofString "_truth")) (Value.str (Str.ofString "_truth") 350) (Value.ref 129)) (List.cons (DictEntry.mk (PyData.keyHash P (Str.ofString "_B64")) (Value.str (Str.ofString "_B64") 352) (Value.bytes (ta (List.cons 65 (List.cons 66 (List.cons 67 (List.cons 68 (List.cons 69 (List.cons 70 (List.cons 71 (List.cons 72 (List.cons 73 (List.cons 74 (List.cons 75 (List.cons 76 (List.cons 77 (List.cons 78 (List.cons 79 (List.cons 80 (List.cons 81 (List.cons 82 (List.cons 83 (List.cons 84 (List.cons 85 (List.cons 86 (List.cons 87 (List.cons 88 (List.cons 89 (List.cons 90 (List.cons 97 (List.cons 98 (List.cons 99 (List.cons 100 (List.cons 101 (List.cons 102 (List.cons 103 (List.cons 104 (List.cons 105 (List.cons 106 (List.cons 107 (List.cons 108 (List.cons 109 (List.cons 110 (List.cons 111 (List.cons 112 (List.cons 113 (List.cons 114 (List.cons 115 (List.cons 116 (List.cons 117 (List.cons 118 (List.cons 119 (List.cons 120 (List.cons 121 (List.cons 122 (List.cons 48 (List.cons 49 (List.cons 50 (List.cons 51 (List.cons 52 (List.cons 53 (List.cons 54 (List.cons 55 (List.cons 56 (List.cons 57 (List.cons 43 (List.cons 47 List.nil))))))))))))))))))))))))))))))))))))))))))))))))))))))))))))))))) 351)) (List.cons (DictEntry.mk (PyData.keyHash P (Str.ofString "_b64_value")) (Value.str (Str.ofString "_b64_value") 359) (Value.ref 136)) (List.cons (DictEntry.mk (PyData.keyHash P (Str.ofString "a2b_base64")) (Value.str (Str.ofString "a2b_base64") 375) (Value.ref 144)) (List.cons (DictEntry.mk (PyData.keyHash P (Str.ofString "b2a_base64")) (Value.str (Str.ofString "b2a_base64") 389) (Value.ref 152)) (List.cons (DictEntry.mk (PyData.keyHash P (Str.ofString "b64encode")) (Value.str (Str.ofString "b64encode") 400) (Value.ref 160)) (List.cons (DictEntry.mk (PyData.keyHash P (Str.ofString "b64decode")) (Value.str (Str.ofString "b64decode") 409) (Value.ref 168)) (List.cons (DictEntry.mk (PyData.keyHash P (Str.ofString "_law_pairs")) (Value.str (Str.ofString "_law_pairs") 423) (Value.ref 175)) (List.cons (DictEntry.mk (PyData.keyHash P (Str.ofString "_law_octets")) (Value.str (Str.ofString "_law_octets") 435) (Value.ref 182)) (List.cons (DictEntry.mk (PyData.keyHash P (Str.ofString "_law_line")) (Value.str (Str.ofString "_law_line") 441) (Value.ref 187)) (List.cons (DictEntry.mk (PyData.keyHash P (Str.ofString "_law_number")) (Value.str (Str.ofString "_law_number") 450) (Value.ref 194)) (List.cons (DictEntry.mk (PyData.keyHash P (Str.ofString "_law_orders")) (Value.str (Str.ofString "_law_orders") 456) (Value.ref 199)) (List.cons (DictEntry.mk (PyData.keyHash P (Str.ofString "_law_lead")) (Value.str (Str.ofString "_law_lead") 462) (Value.ref 204)) (List.cons (DictEntry.mk (PyData.keyHash P (Str.ofString "law")) (Value.str (Str.ofString "law") 468) (Value.ref 209)) List.nil))))))))))))))))))))))))))))))) 30) (ta List.nil)),
  (20, Obj.mk (Value.type "code") none (Data.fields (ta (List.cons (Value.str (Str.ofString "_wall") 187) (List.cons (Value.str (Str.ofString "_wall") 188) (List.cons (Value.str (Str.ofString "/claim/cut.py") 189) (List.cons (Value.int 1 0) (List.cons (Value.int 1 0) (List.cons (Value.int 0 0) (List.cons (Value.int 0 0) (List.cons (Value.int 3 0) (List.cons (Value.ref 15) (List.cons (Value.bool true) (List.cons (Value.int 181 0) (List.cons (Value.ref 16) (List.cons Value.none (List.cons (Value.ref 17) (List.cons (Value.ref 18) (List.cons (Value.ref 19) (List.cons (Value.int 191 0) (List.cons (Value.int 1 0) (List.cons (Value.str (Str.ofString "/claim/cut.py") 192) List.nil))))))))))))))))))))) (ta List.nil)),
  (21, mkF (st 0) "_wall" (Value.none) (Value.none) (Value.none) (Value.str (Str.ofString "__main__") 164) (Value.ref 20) (Value.none)),
  (37, Obj.mk (Value.type "code") none (Data.fields (ta (List.cons (Value.str (Str.ofString "__init__") 213) (List.cons (Value.str (Str.ofString "Whitespace.__init__") 214) (List.cons (Value.str (Str.ofString "/claim/cut.py") 215) (List.cons (Value.int 8 0) (List.cons (Value.int 2 0) (List.cons (Value.int 0 0) (List.cons (Value.int 0 0) (List.cons (Value.int 3 0) (List.cons (Value.ref 32) (List.cons (Value.bool true) (List.cons (Value.int 181 0) (List.cons (Value.ref 33) (List.cons Value.none (List.cons (Value.ref 34) (List.cons (Value.ref 35) (List.cons (Value.ref 36) (List.cons (Value.int 225 0) (List.cons (Value.int 8 0) (List.cons (Value.str (Str.ofString "/claim/cut.py") 226) List.nil))))))))))))))))))))) (ta List.nil)),
  (38, mkF (mt 2 1) "Whitespace.__init__" (Value.none) (Value.none) (Value.none) (Value.str (Str.ofString "cpy313.tabnanny") 194) (Value.ref 37) (Value.none)),
  (44, Obj.mk (Value.type "code") none (Data.fields (ta (List.cons (Value.str (Str.ofString "longest_run_of_spaces") 228) (List.cons (Value.str (Str.ofString "Whitespace.longest_run_of_spaces") 229) (List.cons (Value.str (Str.ofString "/claim/cut.py") 230) (List.cons (Value.int 31 0) (List.cons (Value.int 1 0) (List.cons (Value.int 0 0) (List.cons (Value.int 0 0) (List.cons (Value.int 3 0) (List.cons (Value.ref 39) (List.cons (Value.bool true) (List.cons (Value.int 181 0) (List.cons (Value.ref 40) (List.cons Value.none (List.cons (Value.ref 41) (List.cons (Value.ref 42) (List.cons (Value.ref 43) (List.cons (Value.int 234 0) (List.cons (Value.int 31 0) (List.cons (Value.str (Str.ofString "/claim/cut.py") 235) List.nil))))))))))))))))))))) (ta List.nil)),
  (45, mkF (mt 2 2) "Whitespace.longest_run_of_spaces" (Value.none) (Value.none) (Value.none) (Value.str (Str.ofString "cpy313.tabnanny") 194) (Value.ref 44) (Value.none)),
  (51, Obj.mk (Value.type "code") none (Data.fields (ta (List.cons (Value.str (Str.ofString "indent_level") 237) (List.cons (Value.str (Str.ofString "Whitespace.indent_level") 238) (List.cons (Value.str (Str.ofString "/claim/cut.py") 239) (List.cons (Value.int 35 0) (List.cons (Value.int 2 0) (List.cons (Value.int 0 0) (List.cons (Value.int 0 0) (List.cons (Value.int 3 0) (List.cons (Value.ref 46) (List.cons (Value.bool true) (List.cons (Value.int 181 0) (List.cons (Value.ref 47) (List.cons Value.none (List.cons (Value.ref 48) (List.cons (Value.ref 49) (List.cons (Value.ref 50) (List.cons (Value.int 246 0) (List.cons (Value.int 35 0) (List.cons (Value.str (Str.ofString "/claim/cut.py") 247) List.nil))))))))))))))))))))) (ta List.nil)),
  (52, mkF (mt 2 3) "Whitespace.indent_level" (Value.none) (Value.none) (Value.none) (Value.str (Str.ofString "cpy313.tabnanny") 194) (Value.ref 51) (Value.none)),
  (58, Obj.mk (Value.type "code") none (Data.fields (ta (List.cons (Value.str (Str.ofString "equal") 249) (List.cons (Value.str (Str.ofString "Whitespace.equal") 250) (List.cons (Value.str (Str.ofString "/claim/cut.py") 251) (List.cons (Value.int 42 0) (List.cons (Value.int 2 0) (List.cons (Value.int 0 0) (List.cons (Value.int 0 0) (List.cons (Value.int 3 0) (List.cons (Value.ref 53) (List.cons (Value.bool true) (List.cons (Value.int 181 0) (List.cons (Value.ref 54) (List.cons Value.none (List.cons (Value.ref 55) (List.cons (Value.ref 56) (List.cons (Value.ref 57) (List.cons (Value.int 254 0) (List.cons (Value.int 42 0) (List.cons (Value.str (Str.ofString "/claim/cut.py") 255) List.nil))))))))))))))))))))) (ta List.nil)),
  (59, mkF (mt 2 4) "Whitespace.equal" (Value.none) (Value.none) (Value.none) (Value.str (Str.ofString "cpy313.tabnanny") 194) (Value.ref 58) (Value.none)),
  (65, Obj.mk (Value.type "code") none (Data.fields (ta (List.cons (Value.str (Str.ofString "not_equal_witness") 257) (List.cons (Value.str (Str.ofString "Whitespace.not_equal_witness") 258) (List.cons (Value.str (Str.ofString "/claim/cut.py") 259) (List.cons (Value.int 45 0) (List.cons (Value.int 2 0) (List.cons (Value.int 0 0) (List.cons (Value.int 0 0) (List.cons (Value.int 3 0) (List.cons (Value.ref 60) (List.cons (Value.bool true) (List.cons (Value.int 181 0) (List.cons (Value.ref 61) (List.cons Value.none (List.cons (Value.ref 62) (List.cons (Value.ref 63) (List.cons (Value.ref 64) (List.cons (Value.int 265 0) (List.cons (Value.int 45 0) (List.cons (Value.str (Str.ofString "/claim/cut.py") 266) List.nil))))))))))))))))))))) (ta List.nil)),
  (66, mkF (mt 2 5) "Whitespace.not_equal_witness" (Value.none) (Value.none) (Value.none) (Value.str (Str.ofString "cpy313.tabnanny") 194) (Value.ref 65) (Value.none)),
  (72, Obj.mk (Value.type "code") none (Data.fields (ta (List.cons (Value.str (Str.ofString "less") 268) (List.cons (Value.str (Str.ofString "Whitespace.less") 269) (List.cons (Value.str (Str.ofString "/claim/cut.py") 270) (List.cons (Value.int 53 0) (List.cons (Value.int 2 0) (List.cons (Value.int 0 0) (List.cons (Value.int 0 0) (List.cons (Value.int 3 0) (List.cons (Value.ref 67) (List.cons (Value.bool true) (List.cons (Value.int 181 0) (List.cons (Value.ref 68) (List.cons Value.none (List.cons (Value.ref 69) (List.cons (Value.ref 70) (List.cons (Value.ref 71) (List.cons (Value.int 273 0) (List.cons (Value.int 53 0) (List.cons (Value.str (Str.ofString "/claim/cut.py") 274) List.nil))))))))))))))))))))) (ta List.nil)),
  (73, mkF (mt 2 6) "Whitespace.less" (Value.none) (Value.none) (Value.none) (Value.str (Str.ofString "cpy313.tabnanny") 194) (Value.ref 72) (Value.none)),
  (79, Obj.mk (Value.type "code") none (Data.fields (ta (List.cons (Value.str (Str.ofString "not_less_witness") 276) (List.cons (Value.str (Str.ofString "Whitespace.not_less_witness") 277) (List.cons (Value.str (Str.ofString "/claim/cut.py") 278) (List.cons (Value.int 56 0) (List.cons (Value.int 2 0) (List.cons (Value.int 0 0) (List.cons (Value.int 0 0) (List.cons (Value.int 3 0) (List.cons (Value.ref 74) (List.cons (Value.bool true) (List.cons (Value.int 181 0) (List.cons (Value.ref 75) (List.cons Value.none (List.cons (Value.ref 76) (List.cons (Value.ref 77) (List.cons (Value.ref 78) (List.cons (Value.int 281 0) (List.cons (Value.int 56 0) (List.cons (Value.str (Str.ofString "/claim/cut.py") 282) List.nil))))))))))))))))))))) (ta List.nil)),
  (80, mkF (mt 2 7) "Whitespace.not_less_witness" (Value.none) (Value.none) (Value.none) (Value.str (Str.ofString "cpy313.tabnanny") 194) (Value.ref 79) (Value.none)),
  (82, Obj.mk (Value.type "dict") none (Data.dict (ta (List.cons (DictEntry.mk (PyData.keyHash P (Str.ofString "__module__")) (Value.str (Str.ofString "__module__") 203) (Value.str (Str.ofString "cpy313.tabnanny") 194)) (List.cons (DictEntry.mk (PyData.keyHash P (Str.ofString "__firstlineno__")) (Value.str (Str.ofString "__firstlineno__") 207) (Value.int 5 206)) (List.cons (DictEntry.mk (PyData.keyHash P (Str.ofString "S")) (Value.str (Str.ofString "S") 211) (Value.str (Str.ofString " ") 209)) (List.cons (DictEntry.mk (PyData.keyHash P (Str.ofString "T")) (Value.str (Str.ofString "T") 212) (Value.str (Str.ofString "\t") 210)) (List.cons (DictEntry.mk (PyData.keyHash P (Str.ofString "__init__")) (Value.str (Str.ofString "__init__") 227) (Value.ref 38)) (List.cons (DictEntry.mk (PyData.keyHash P (Str.ofString "longest_run_of_spaces")) (Value.str (Str.ofString "longest_run_of_spaces") 236) (Value.ref 45)) (List.cons (DictEntry.mk (PyData.keyHash P (Str.ofString "indent_level")) (Value.str (Str.ofString "indent_level") 248) (Value.ref 52)) (List.cons (DictEntry.mk (PyData.keyHash P (Str.ofString "equal")) (Value.str (Str.ofString "equal") 256) (Value.ref 59)) (List.cons (DictEntry.mk (PyData.keyHash P (Str.ofString "not_equal_witness")) (Value.str (Str.ofString "not_equal_witness") 267) (Value.ref 66)) (List.cons (DictEntry.mk (PyData.keyHash P (Str.ofString "less")) (Value.str (Str.ofString "less") 275) (Value.ref 73)) (List.cons (DictEntry.mk (PyData.keyHash P (Str.ofString "not_less_witness")) (Value.str (Str.ofString "not_less_witness") 283) (Value.ref 80)) (List.cons (DictEntry.mk (PyData.keyHash P (Str.ofString "__static_attributes__")) (Value.str (Str.ofString "__static_attributes__") 289) (Value.ref 81)) (List.cons (DictEntry.mk (PyData.keyHash P (Str.ofString "__dict__")) (Value.str (Str.ofString "__dict__") 291) (Value.ref 84)) (List.cons (DictEntry.mk (PyData.keyHash P (Str.ofString "__weakref__")) (Value.str (Str.ofString "__weakref__") 293) (Value.ref 85)) (List.cons (DictEntry.mk (PyData.keyHash P (Str.ofString "__doc__")) (Value.str (Str.ofString "__doc__") 294) Value.none) List.nil)))))))))))))))) 4) (ta List.nil)),
  (83, Obj.mk (Value.type "type") none (Data.cls (ClassData.mk (Str.ofString "Whitespace") (List.cons (Value.type "object") List.nil) (List.cons (Value.ref 83) (List.cons (Value.type "object") List.nil)) 82 (Str.ofString "Whitespace") true List.nil List.nil false none false)) (ta (List.cons none (List.cons none (List.cons (some (Value.str (Str.ofString "Whitespace") 196)) (List.cons (some (Value.str (Str.ofString "Whitespace") 204)) (List.cons (some (Value.builtin "object.__new__")) (List.cons (some (Value.bool true)) List.nil)))))))),
  (84, Obj.mk (Value.type "getset_descriptor") none (Data.fields (ta (List.cons (Value.str (Str.ofString "__dict__") 290) (List.cons (Value.ref 83) (List.cons (Value.builtin "function.__dict__") (List.cons (Value.builtin "function.__dict__#set") List.nil)))))) (ta List.nil)),
  (85, Obj.mk (Value.type "getset_descriptor") none (Data.fields (ta (List.cons (Value.str (Str.ofString "__weakref__") 292) (List.cons (Value.ref 83) (List.cons (Value.builtin "ExceptionGroup.__weakref__") (List.cons Value.none List.nil)))))) (ta List.nil)),
  (88, Obj.mk (Value.type "tuple") none (Data.seq (ta (List.cons (Value.type "bytes") (List.cons (Value.type "bytearray") List.nil)))) (ta List.nil)),
  (94, Obj.mk (Value.type "code") none (Data.fields (ta (List.cons (Value.str (Str.ofString "_bytes_from_decode_data") 300) (List.cons (Value.str (Str.ofString "_bytes_from_decode_data") 301) (List.cons (Value.str (Str.ofString "/claim/cut.py") 302) (List.cons (Value.int 60 0) (List.cons (Value.int 1 0) (List.cons (Value.int 0 0) (List.cons (Value.int 0 0) (List.cons (Value.int 3 0) (List.cons (Value.ref 89) (List.cons (Value.bool true) (List.cons (Value.int 181 0) (List.cons (Value.ref 90) (List.cons Value.none (List.cons (Value.ref 91) (List.cons (Value.ref 92) (List.cons (Value.ref 93) (List.cons (Value.int 304 0) (List.cons (Value.int 60 0) (List.cons (Value.str (Str.ofString "/claim/cut.py") 305) List.nil))))))))))))))))))))) (ta List.nil)),
  (95, mkF (st 5) "_bytes_from_decode_data" (Value.none) (Value.none) (Value.none) (Value.str (Str.ofString "cpy313.base64") 297) (Value.ref 94) (Value.none)),
  (104, Obj.mk (Value.type "dict") none (Data.dict (ta (List.cons (DictEntry.mk (PyData.keyHash P (Str.ofString "__module__")) (Value.str (Str.ofString "__module__") 316) (Value.str (Str.ofString "binascii") 307)) (List.cons (DictEntry.mk (PyData.keyHash P (Str.ofString "__firstlineno__")) (Value.str (Str.ofString "__firstlineno__") 320) (Value.int 73 319)) (List.cons (DictEntry.mk (PyData.keyHash P (Str.ofString "__static_attributes__")) (Value.str (Str.ofString "__static_attributes__") 321) (Value.ref 103)) (List.cons (DictEntry.mk (PyData.keyHash P (Str.ofString "__weakref__")) (Value.str (Str.ofString "__weakref__") 323) (Value.ref 106)) (List.cons (DictEntry.mk (PyData.keyHash P (Str.ofString "__doc__")) (Value.str (Str.ofString "__doc__") 324) Value.none) List.nil)))))) 3) (ta List.nil)),
  (105, Obj.mk (Value.type "type") none (Data.cls (ClassData.mk (Str.ofString "Error") (List.cons (Value.type "ValueError") List.nil) (List.cons (Value.ref 105) (List.cons (Value.type "ValueError") (List.cons (Value.type "Exception") (List.cons (Value.type "BaseException") (List.cons (Value.type "object") List.nil))))) 104 (Str.ofString "Error") true List.nil List.nil false none false)) (ta (List.cons (some (Value.ref 96)) (List.cons none (List.cons (some (Value.str (Str.ofString "Error") 309)) (List.cons (some (Value.str (Str.ofString "Error") 317)) (List.cons (some (Value.builtin "ValueError.__new__")) (List.cons (some (Value.bool true)) List.nil)))))))),
  (106, Obj.mk (Value.type "getset_descriptor") none (Data.fields (ta (List.cons (Value.str (Str.ofString "__weakref__") 322) (List.cons (Value.ref 105) (List.cons (Value.builtin "ExceptionGroup.__weakref__") (List.cons Value.none List.nil)))))) (ta List.nil)),
  (114, Obj.mk (Value.type "code") none (Data.fields (ta (List.cons (Value.str (Str.ofString "_ascii_buffer") 327) (List.cons (Value.str (Str.ofString "_ascii_buffer") 328) (List.cons (Value.str (Str.ofString "/claim/cut.py") 329) (List.cons (Value.int 75 0) (List.cons (Value.int 1 0) (List.cons (Value.int 0 0) (List.cons (Value.int 0 0) (List.cons (Value.int 3 0) (List.cons (Value.ref 109) (List.cons (Value.bool true) (List.cons (Value.int 181 0) (List.cons (Value.ref 110) (List.cons Value.none (List.cons (Value.ref 111) (List.cons (Value.ref 112) (List.cons (Value.ref 113) (List.cons (Value.int 332 0) (List.cons (Value.int 75 0) (List.cons (Value.str (Str.ofString "/claim/cut.py") 333) List.nil))))))))))))))))))))) (ta List.nil)),
  (115, mkF (st 8) "_ascii_buffer" (Value.none) (Value.none) (Value.none) (Value.str (Str.ofString "binascii") 307) (Value.ref 114) (Value.none)),
  (121, Obj.mk (Value.type "code") none (Data.fields (ta (List.cons (Value.str (Str.ofString "_buffer") 335) (List.cons (Value.str (Str.ofString "_buffer") 336) (List.cons (Value.str (Str.ofString "/claim/cut.py") 337) (List.cons (Value.int 86 0) (List.cons (Value.int 1 0) (List.cons (Value.int 0 0) (List.cons (Value.int 0 0) (List.cons (Value.int 3 0) (List.cons (Value.ref 116) (List.cons (Value.bool true) (List.cons (Value.int 181 0) (List.cons (Value.ref 117) (List.cons Value.none (List.cons (Value.ref 118) (List.cons (Value.ref 119) (List.cons (Value.ref 120) (List.cons (Value.int 340 0) (List.cons (Value.int 86 0) (List.cons (Value.str (Str.ofString "/claim/cut.py") 341) List.nil))))))))))))))))))))) (ta List.nil)),
  (122, mkF (st 9) "_buffer" (Value.none) (Value.none) (Value.none) (Value.str (Str.ofString "binascii") 307) (Value.ref 121) (Value.none)),
  (128, Obj.mk (Value.type "code") none (Data.fields (ta (List.cons (Value.str (Str.ofString "_truth") 343) (List.cons (Value.str (Str.ofString "_truth") 344) (List.cons (Value.str (Str.ofString "/claim/cut.py") 345) (List.cons (Value.int 93 0) (List.cons (Value.int 1 0) (List.cons (Value.int 0 0) (List.cons (Value.int 0 0) (List.cons (Value.int 3 0) (List.cons (Value.ref 123) (List.cons (Value.bool true) (List.cons (Value.int 181 0) (List.cons (Value.ref 124) (List.cons Value.none (List.cons (Value.ref 125) (List.cons (Value.ref 126) (List.cons (Value.ref 127) (List.cons (Value.int 348 0) (List.cons (Value.int 93 0) (List.cons (Value.str (Str.ofString "/claim/cut.py") 349) List.nil))))))))))))))))))))) (ta List.nil)),
  (129, mkF (st 10) "_truth" (Value.none) (Value.none) (Value.none) (Value.str (Str.ofString "binascii") 307) (Value.ref 128) (Value.none)),
  (135, Obj.mk (Value.type "code") none (Data.fields (ta (List.cons (Value.str (Str.ofString "_b64_value") 353) (List.cons (Value.str (Str.ofString "_b64_value") 354) (List.cons (Value.str (Str.ofString "/claim/cut.py") 355) (List.cons (Value.int 99 0) (List.cons (Value.int 1 0) (List.cons (Value.int 0 0) (List.cons (Value.int 0 0) (List.cons (Value.int 3 0) (List.cons (Value.ref 130) (List.cons (Value.bool true) (List.cons (Value.int 181 0) (List.cons (Value.ref 131) (List.cons Value.none (List.cons (Value.ref 132) (List.cons (Value.ref 133) (List.cons (Value.ref 134) (List.cons (Value.int 357 0) (List.cons (Value.int 99 0) (List.cons (Value.str (Str.ofString "/claim/cut.py") 358) List.nil))))))))))))))))))))) (ta List.nil)),
  (136, mkF (st 12) "_b64_value" (Value.none) (Value.none) (Value.none) (Value.str (Str.ofString "binascii") 307) (Value.ref 135) (Value.none)),
  (137, Obj.mk (Value.type "dict") none (Data.dict (ta (List.cons (DictEntry.mk (PyData.keyHash P (Str.ofString "strict_mode")) (Value.str (Str.ofString "strict_mode") 360) (Value.bool false)) List.nil)) 1) (ta List.nil)),
  (143, Obj.mk (Value.type "code") none (Data.fields (ta (List.cons (Value.str (Str.ofString "a2b_base64") 361) (List.cons (Value.str (Str.ofString "a2b_base64") 362) (List.cons (Value.str (Str.ofString "/claim/cut.py") 363) (List.cons (Value.int 111 0) (List.cons (Value.int 1 0) (List.cons (Value.int 1 0) (List.cons (Value.int 1 0) (List.cons (Value.int 3 0) (List.cons (Value.ref 138) (List.cons (Value.bool true) (List.cons (Value.int 181 0) (List.cons (Value.ref 139) (List.cons Value.none (List.cons (Value.ref 140) (List.cons (Value.ref 141) (List.cons (Value.ref 142) (List.cons (Value.int 373 0) (List.cons (Value.int 111 0) (List.cons (Value.str (Str.ofString "/claim/cut.py") 374) List.nil))))))))))))))))))))) (ta List.nil)),
  (144, mkF (st 13) "a2b_base64" (Value.none) (Value.ref 137) (Value.none) (Value.str (Str.ofString "binascii") 307) (Value.ref 143) (Value.none)),
  (145, Obj.mk (Value.type "dict") none (Data.dict (ta (List.cons (DictEntry.mk (PyData.keyHash P (Str.ofString "newline")) (Value.str (Str.ofString "newline") 376) (Value.bool true)) List.nil)) 1) (ta List.nil)),
  (151, Obj.mk (Value.type "code") none (Data.fields (ta (List.cons (Value.str (Str.ofString "b2a_base64") 377) (List.cons (Value.str (Str.ofString "b2a_base64") 378) (List.cons (Value.str (Str.ofString "/claim/cut.py") 379) (List.cons (Value.int 165 0) (List.cons (Value.int 1 0) (List.cons (Value.int 1 0) (List.cons (Value.int 1 0) (List.cons (Value.int 3 0) (List.cons (Value.ref 146) (List.cons (Value.bool true) (List.cons (Value.int 181 0) (List.cons (Value.ref 147) (List.cons Value.none (List.cons (Value.ref 148) (List.cons (Value.ref 149) (List.cons (Value.ref 150) (List.cons (Value.int 387 0) (List.cons (Value.int 165 0) (List.cons (Value.str (Str.ofString "/claim/cut.py") 388) List.nil))))))))))))))))))))) (ta List.nil)),
  (152, mkF (st 14) "b2a_base64" (Value.none) (Value.ref 145) (Value.none) (Value.str (Str.ofString "binascii") 307) (Value.ref 151) (Value.none)),
  (153, Obj.mk (Value.type "tuple") none (Data.seq (ta (List.cons Value.none List.nil))) (ta List.nil)),
  (159, Obj.mk (Value.type "code") none (Data.fields (ta (List.cons (Value.str (Str.ofString "b64encode") 392) (List.cons (Value.str (Str.ofString "b64encode") 393) (List.cons (Value.str (Str.ofString "/claim/cut.py") 394) (List.cons (Value.int 188 0) (List.cons (Value.int 2 0) (List.cons (Value.int 0 0) (List.cons (Value.int 0 0) (List.cons (Value.int 3 0) (List.cons (Value.ref 154) (List.cons (Value.bool true) (List.cons (Value.int 181 0) (List.cons (Value.ref 155) (List.cons Value.none (List.cons (Value.ref 156) (List.cons (Value.ref 157) (List.cons (Value.ref 158) (List.cons (Value.int 398 0) (List.cons (Value.int 188 0) (List.cons (Value.str (Str.ofString "/claim/cut.py") 399) List.nil))))))))))))))))))))) (ta List.nil)),
  (160, mkF (st 16) "b64encode" (Value.ref 153) (Value.none) (Value.none) (Value.str (Str.ofString "cpy313.base64") 390) (Value.ref 159) (Value.none)),
  (161, Obj.mk (Value.type "tuple") none (Data.seq (ta (List.cons Value.none (List.cons (Value.bool false) List.nil)))) (ta List.nil)),
  (167, Obj.mk (Value.type "code") none (Data.fields (ta (List.cons (Value.str (Str.ofString "b64decode") 401) (List.cons (Value.str (Str.ofString "b64decode") 402) (List.cons (Value.str (Str.ofString "/claim/cut.py") 403) (List.cons (Value.int 194 0) (List.cons (Value.int 3 0) (List.cons (Value.int 0 0) (List.cons (Value.int 0 0) (List.cons (Value.int 3 0) (List.cons (Value.ref 162) (List.cons (Value.bool true) (List.cons (Value.int 181 0) (List.cons (Value.ref 163) (List.cons Value.none (List.cons (Value.ref 164) (List.cons (Value.ref 165) (List.cons (Value.ref 166) (List.cons (Value.int 407 0) (List.cons (Value.int 194 0) (List.cons (Value.str (Str.ofString "/claim/cut.py") 408) List.nil))))))))))))))))))))) (ta List.nil)),
  (168, mkF (st 17) "b64decode" (Value.ref 161) (Value.none) (Value.none) (Value.str (Str.ofString "cpy313.base64") 390) (Value.ref 167) (Value.none)),
  (174, Obj.mk (Value.type "code") none (Data.fields (ta (List.cons (Value.str (Str.ofString "_law_pairs") 412) (List.cons (Value.str (Str.ofString "_law_pairs") 413) (List.cons (Value.str (Str.ofString "/claim/cut.py") 414) (List.cons (Value.int 202 0) (List.cons (Value.int 1 0) (List.cons (Value.int 0 0) (List.cons (Value.int 0 0) (List.cons (Value.int 3 0) (List.cons (Value.ref 169) (List.cons (Value.bool true) (List.cons (Value.int 181 0) (List.cons (Value.ref 170) (List.cons Value.none (List.cons (Value.ref 171) (List.cons (Value.ref 172) (List.cons (Value.ref 173) (List.cons (Value.int 421 0) (List.cons (Value.int 202 0) (List.cons (Value.str (Str.ofString "/claim/cut.py") 422) List.nil))))))))))))))))))))) (ta List.nil)),
  (175, mkF (st 19) "_law_pairs" (Value.none) (Value.none) (Value.none) (Value.str (Str.ofString "law_pa0015_02") 410) (Value.ref 174) (Value.none)),
  (181, Obj.mk (Value.type "code") none (Data.fields (ta (List.cons (Value.str (Str.ofString "_law_octets") 424) (List.cons (Value.str (Str.ofString "_law_octets") 425) (List.cons (Value.str (Str.ofString "/claim/cut.py") 426) (List.cons (Value.int 214 0) (List.cons (Value.int 2 0) (List.cons (Value.int 0 0) (List.cons (Value.int 0 0) (List.cons (Value.int 3 0) (List.cons (Value.ref 176) (List.cons (Value.bool true) (List.cons (Value.int 181 0) (List.cons (Value.ref 177) (List.cons Value.none (List.cons (Value.ref 178) (List.cons (Value.ref 179) (List.cons (Value.ref 180) (List.cons (Value.int 433 0) (List.cons (Value.int 214 0) (List.cons (Value.str (Str.ofString "/claim/cut.py") 434) List.nil))))))))))))))))))))) (ta List.nil)),
  (182, mkF (st 20) "_law_octets" (Value.none) (Value.none) (Value.none) (Value.str (Str.ofString "law_pa0015_02") 410) (Value.ref 181) (Value.none)),
  (186, Obj.mk (Value.type "code") none (Data.fields (ta (List.cons (Value.str (Str.ofString "_law_line") 436) (List.cons (Value.str (Str.ofString "_law_line") 437) (List.cons (Value.str (Str.ofString "/claim/cut.py") 438) (List.cons (Value.int 223 0) (List.cons (Value.int 2 0) (List.cons (Value.int 0 0) (List.cons (Value.int 0 0) (List.cons (Value.int 3 0) (List.cons (Value.ref 183) (List.cons (Value.bool true) (List.cons (Value.int 181 0) (List.cons (Value.ref 184) (List.cons Value.none (List.cons Value.none (List.cons Value.none (List.cons (Value.ref 185) (List.cons (Value.int 439 0) (List.cons (Value.int 223 0) (List.cons (Value.str (Str.ofString "/claim/cut.py") 440) List.nil))))))))))))))))))))) (ta List.nil)),
  (187, mkF (st 21) "_law_line" (Value.none) (Value.none) (Value.none) (Value.str (Str.ofString "law_pa0015_02") 410) (Value.ref 186) (Value.none)),
  (193, Obj.mk (Value.type "code") none (Data.fields (ta (List.cons (Value.str (Str.ofString "_law_number") 442) (List.cons (Value.str (Str.ofString "_law_number") 443) (List.cons (Value.str (Str.ofString "/claim/cut.py") 444) (List.cons (Value.int 228 0) (List.cons (Value.int 1 0) (List.cons (Value.int 0 0) (List.cons (Value.int 0 0) (List.cons (Value.int 3 0) (List.cons (Value.ref 188) (List.cons (Value.bool true) (List.cons (Value.int 181 0) (List.cons (Value.ref 189) (List.cons Value.none (List.cons (Value.ref 190) (List.cons (Value.ref 191) (List.cons (Value.ref 192) (List.cons (Value.int 448 0) (List.cons (Value.int 228 0) (List.cons (Value.str (Str.ofString "/claim/cut.py") 449) List.nil))))))))))))))))))))) (ta List.nil)),
  (194, mkF (st 22) "_law_number" (Value.none) (Value.none) (Value.none) (Value.str (Str.ofString "law_pa0015_02") 410) (Value.ref 193) (Value.none)),
  (198, Obj.mk (Value.type "code") none (Data.fields (ta (List.cons (Value.str (Str.ofString "_law_orders") 451) (List.cons (Value.str (Str.ofString "_law_orders") 452) (List.cons (Value.str (Str.ofString "/claim/cut.py") 453) (List.cons (Value.int 233 0) (List.cons (Value.int 1 0) (List.cons (Value.int 0 0) (List.cons (Value.int 0 0) (List.cons (Value.int 3 0) (List.cons (Value.ref 195) (List.cons (Value.bool true) (List.cons (Value.int 181 0) (List.cons (Value.ref 196) (List.cons Value.none (List.cons Value.none (List.cons Value.none (List.cons (Value.ref 197) (List.cons (Value.int 454 0) (List.cons (Value.int 233 0) (List.cons (Value.str (Str.ofString "/claim/cut.py") 455) List.nil))))))))))))))))))))) (ta List.nil)),
  (199, mkF (st 23) "_law_orders" (Value.none) (Value.none) (Value.none) (Value.str (Str.ofString "law_pa0015_02") 410) (Value.ref 198) (Value.none)),
  (203, Obj.mk (Value.type "code") none (Data.fields (ta (List.cons (Value.str (Str.ofString "_law_lead") 457) (List.cons (Value.str (Str.ofString "_law_lead") 458) (List.cons (Value.str (Str.ofString "/claim/cut.py") 459) (List.cons (Value.int 242 0) (List.cons (Value.int 2 0) (List.cons (Value.int 0 0) (List.cons (Value.int 0 0) (List.cons (Value.int 3 0) (List.cons (Value.ref 200) (List.cons (Value.bool true) (List.cons (Value.int 181 0) (List.cons (Value.ref 201) (List.cons Value.none (List.cons Value.none (List.cons Value.none (List.cons (Value.ref 202) (List.cons (Value.int 460 0) (List.cons (Value.int 242 0) (List.cons (Value.str (Str.ofString "/claim/cut.py") 461) List.nil))))))))))))))))))))) (ta List.nil)),
  (204, mkF (st 24) "_law_lead" (Value.none) (Value.none) (Value.none) (Value.str (Str.ofString "law_pa0015_02") 410) (Value.ref 203) (Value.none)),
  (208, Obj.mk (Value.type "code") none (Data.fields (ta (List.cons (Value.str (Str.ofString "law") 463) (List.cons (Value.str (Str.ofString "law") 464) (List.cons (Value.str (Str.ofString "/claim/cut.py") 465) (List.cons (Value.int 244 0) (List.cons (Value.int 1 0) (List.cons (Value.int 0 0) (List.cons (Value.int 0 0) (List.cons (Value.int 3 0) (List.cons (Value.ref 205) (List.cons (Value.bool true) (List.cons (Value.int 181 0) (List.cons (Value.ref 206) (List.cons Value.none (List.cons Value.none (List.cons Value.none (List.cons (Value.ref 207) (List.cons (Value.int 466 0) (List.cons (Value.int 244 0) (List.cons (Value.str (Str.ofString "/claim/cut.py") 467) List.nil))))))))))))))))))))) (ta List.nil)),
  (209, mkF (st 25) "law" (Value.none) (Value.none) (Value.none) (Value.str (Str.ofString "law_pa0015_02") 410) (Value.ref 208) (Value.none))]
noncomputable def as0 : List Addr := [2, 3, 20, 21, 37, 38, 44, 45, 51, 52, 58, 59, 65, 66, 72, 73, 79, 80, 82, 83, 84, 85, 88, 94, 95, 104, 105, 106, 114, 115, 121, 122, 128, 129, 135, 136, 137, 143, 144, 145, 151, 152, 153, 159, 160, 161, 167, 168, 174, 175, 181, 182, 186, 187, 193, 194, 198, 199, 203, 204, 208, 209]
noncomputable abbrev HK : Hook := kHook KK as0 (fun _ => by kernel_rfl)
theorem hl0 : LeftO pg0 q0 ls0 (fun s => xlAt q0 [] s && recOk (RowW.records R0.toRowW) s) HK.obs HK.val (2*1288+100) := LeftO.of_split "special-get-raises" (fun w => by kernel_rfl)
end Mine

namespace Mine
open PySem PySem.W PySem.Calls PyProof.Rows PySem.SeqAt

noncomputable def F (a : Addr) : FuncData := fdAt (KK pr0) a
noncomputable def dfsL : List (Addr × Df) :=
  [(45, ⟨F 45, bnP [("self" : Str)]⟩),
   (52, ⟨F 52, bnP [("self" : Str), ("tabsize" : Str)]⟩),
   (59, ⟨F 59, bnP [("self" : Str), ("other" : Str)]⟩),
   (66, ⟨F 66, bnP [("self" : Str), ("other" : Str)]⟩),
   (73, ⟨F 73, bnP [("self" : Str), ("other" : Str)]⟩),
   (80, ⟨F 80, bnP [("self" : Str), ("other" : Str)]⟩),
   (95, ⟨F 95, bnP [("s" : Str)]⟩),
   (115, ⟨F 115, bnP [("data" : Str)]⟩),
   (122, ⟨F 122, bnP [("data" : Str)]⟩),
   (129, ⟨F 129, bnP [("x" : Str)]⟩),
   (136, ⟨F 136, bnP [("c" : Str)]⟩),
   (144, ⟨F 144, bnK ("data" : Str) ("strict_mode" : Str)⟩),
   (152, ⟨F 152, bnK ("data" : Str) ("newline" : Str)⟩),
   (160, ⟨F 160, bnD ("s" : Str) ("altchars" : Str)⟩),
   (168, ⟨F 168, bnF ("s" : Str) ("altchars" : Str) ("validate" : Str)⟩),
   (175, ⟨F 175, bnP [("numbers" : Str)]⟩),
   (182, ⟨F 182, bnP [("figures" : Str), ("spare" : Str)]⟩),
   (187, ⟨F 187, bnP [("figures" : Str), ("spare" : Str)]⟩),
   (194, ⟨F 194, bnP [("row" : Str)]⟩),
   (199, ⟨F 199, bnP [("runs" : Str)]⟩),
   (204, ⟨F 204, bnP [("runs" : Str), ("blanks" : Str)]⟩),
   (209, ⟨F 209, bnP [("script" : Str)]⟩)]
noncomputable def B64L : List UInt8 := [65, 66, 67, 68, 69, 70, 71, 72, 73, 74, 75, 76, 77, 78, 79, 80, 81, 82, 83, 84, 85, 86, 87, 88, 89, 90, 97, 98, 99, 100, 101, 102, 103, 104, 105, 106, 107, 108, 109, 110, 111, 112, 113, 114, 115, 116, 117, 118, 119, 120, 121, 122, 48, 49, 50, 51, 52, 53, 54, 55, 56, 57, 43, 47]
noncomputable def glL : List (Str × D) :=
  [(("Whitespace" : Str), .val (.ref 83)),
   (("_bytes_from_decode_data" : Str), .val (.ref 95)),
   (("_ascii_buffer" : Str), .val (.ref 115)),
   (("_buffer" : Str), .val (.ref 122)),
   (("_truth" : Str), .val (.ref 129)),
   (("_b64_value" : Str), .val (.ref 136)),
   (("a2b_base64" : Str), .val (.ref 144)),
   (("b2a_base64" : Str), .val (.ref 152)),
   (("b64encode" : Str), .val (.ref 160)),
   (("b64decode" : Str), .val (.ref 168)),
   (("_law_pairs" : Str), .val (.ref 175)),
   (("_law_octets" : Str), .val (.ref 182)),
   (("_law_line" : Str), .val (.ref 187)),
   (("_law_number" : Str), .val (.ref 194)),
   (("_law_orders" : Str), .val (.ref 199)),
   (("_law_lead" : Str), .val (.ref 204)),
   (("law" : Str), .val (.ref 209)),
   (("len" : Str), .val (.builtin "len")),
   (("max" : Str), .val (.builtin "max")),
   (("sum" : Str), .val (.builtin "sum")),
   (("chr" : Str), .val (.builtin "chr")),
   (("isinstance" : Str), .val (.builtin "isinstance")),
   (("range" : Str), .val (.type "range")),
   (("tuple" : Str), .val (.type "tuple")),
   (("type" : Str), .val (.type "type")),
   (("bytes" : Str), .val (.type "bytes")),
   (("bool" : Str), .val (.type "bool")),
   (("str" : Str), .val (.type "str")),
   (("bytearray" : Str), .val (.type "bytearray")),
   (("int" : Str), .val (.type "int")),
   (("zip" : Str), .val (.type "zip")),
   (("_B64" : Str), .bytes B64L)]
noncomputable def msL : List (Str × Addr) := [(("longest_run_of_spaces" : Str), 45), (("indent_level" : Str), 52), (("equal" : Str), 59), (("not_equal_witness" : Str), 66), (("less" : Str), 73), (("not_less_witness" : Str), 80)]
noncomputable def TT : TD where
  C := 83
  gl := glL
  ms := msL
  ats := ["raw", "n", "nt", "norm", "is_simple"]
  cats := [("S", [32]), ("T", [9])]
  sts := ["raw", "n", "nt", "norm", "is_simple"]
  dfs := dfsL
  cf := ⟨F 38, "self", bnC "ws"⟩
noncomputable abbrev PT (n : Nat) : Pg := PN TT.tab n
theorem vj (n : Nat) : (PN TT.tab n).gl ("Whitespace" : Str) = some (.val (.ref 83)) := by rw [pn_gl]; rfl
theorem vm (n : Nat) : (PN TT.tab n).gl ("_bytes_from_decode_data" : Str) = some (.val (.ref 95)) := by rw [pn_gl]; rfl
theorem vo (n : Nat) : (PN TT.tab n).gl ("_ascii_buffer" : Str) = some (.val (.ref 115)) := by rw [pn_gl]; rfl
theorem vq (n : Nat) : (PN TT.tab n).gl ("_buffer" : Str) = some (.val (.ref 122)) := by rw [pn_gl]; rfl
theorem vr (n : Nat) : (PN TT.tab n).gl ("_truth" : Str) = some (.val (.ref 129)) := by rw [pn_gl]; rfl
theorem vv (n : Nat) : (PN TT.tab n).gl ("_b64_value" : Str) = some (.val (.ref 136)) := by rw [pn_gl]; rfl
theorem vw (n : Nat) : (PN TT.tab n).gl ("a2b_base64" : Str) = some (.val (.ref 144)) := by rw [pn_gl]; rfl
theorem vx (n : Nat) : (PN TT.tab n).gl ("b2a_base64" : Str) = some (.val (.ref 152)) := by rw [pn_gl]; rfl
theorem vy (n : Nat) : (PN TT.tab n).gl ("b64encode" : Str) = some (.val (.ref 160)) := by rw [pn_gl]; rfl
theorem vz (n : Nat) : (PN TT.tab n).gl ("b64decode" : Str) = some (.val (.ref 168)) := by rw [pn_gl]; rfl
theorem vA (n : Nat) : (PN TT.tab n).gl ("_law_pairs" : Str) = some (.val (.ref 175)) := by rw [pn_gl]; rfl
theorem vB (n : Nat) : (PN TT.tab n).gl ("_law_octets" : Str) = some (.val (.ref 182)) := by rw [pn_gl]; rfl
theorem vC (n : Nat) : (PN TT.tab n).gl ("_law_line" : Str) = some (.val (.ref 187)) := by rw [pn_gl]; rfl
theorem vD (n : Nat) : (PN TT.tab n).gl ("_law_number" : Str) = some (.val (.ref 194)) := by rw [pn_gl]; rfl
theorem vE (n : Nat) : (PN TT.tab n).gl ("_law_orders" : Str) = some (.val (.ref 199)) := by rw [pn_gl]; rfl
theorem vF (n : Nat) : (PN TT.tab n).gl ("_law_lead" : Str) = some (.val (.ref 204)) := by rw [pn_gl]; rfl
theorem vG (n : Nat) : (PN TT.tab n).gl ("len" : Str) = some (.val (.builtin "len")) := by rw [pn_gl]; rfl
theorem vH (n : Nat) : (PN TT.tab n).gl ("max" : Str) = some (.val (.builtin "max")) := by rw [pn_gl]; rfl
theorem vI (n : Nat) : (PN TT.tab n).gl ("sum" : Str) = some (.val (.builtin "sum")) := by rw [pn_gl]; rfl
theorem vJ (n : Nat) : (PN TT.tab n).gl ("chr" : Str) = some (.val (.builtin "chr")) := by rw [pn_gl]; rfl
theorem vK (n : Nat) : (PN TT.tab n).gl ("isinstance" : Str) = some (.val (.builtin "isinstance")) := by rw [pn_gl]; rfl
theorem vL (n : Nat) : (PN TT.tab n).gl ("range" : Str) = some (.val (.type "range")) := by rw [pn_gl]; rfl
theorem vM (n : Nat) : (PN TT.tab n).gl ("tuple" : Str) = some (.val (.type "tuple")) := by rw [pn_gl]; rfl
theorem vN (n : Nat) : (PN TT.tab n).gl ("type" : Str) = some (.val (.type "type")) := by rw [pn_gl]; rfl
theorem vO (n : Nat) : (PN TT.tab n).gl ("bytes" : Str) = some (.val (.type "bytes")) := by rw [pn_gl]; rfl
theorem vP (n : Nat) : (PN TT.tab n).gl ("bool" : Str) = some (.val (.type "bool")) := by rw [pn_gl]; rfl
theorem vQ (n : Nat) : (PN TT.tab n).gl ("str" : Str) = some (.val (.type "str")) := by rw [pn_gl]; rfl
theorem vR (n : Nat) : (PN TT.tab n).gl ("bytearray" : Str) = some (.val (.type "bytearray")) := by rw [pn_gl]; rfl
theorem vS (n : Nat) : (PN TT.tab n).gl ("int" : Str) = some (.val (.type "int")) := by rw [pn_gl]; rfl
theorem vT (n : Nat) : (PN TT.tab n).gl ("_B64" : Str) = some (.bytes B64L) := by rw [pn_gl]; rfl
theorem vd : attT TT (.val (.ref 83)) (Str.ofString "S") = some (.str [32]) := rfl
theorem ve : attT TT (.val (.ref 83)) (Str.ofString "T") = some (.str [9]) := rfl
theorem vg : TT.C = 83 := rfl
theorem vf : TT.cf.self = Str.ofString "self" := rfl
theorem w4 (n : Nat) : (PN TT.tab n).st 83 (Str.ofString "raw") = true := by rw [pn_st]; rfl
theorem vh (fs : List (Str × D)) : attT TT (.inst 83 fs) (Str.ofString "raw") = oAtI (fs.lookup (Str.ofString "raw")) := att_in (t := TT) (by simp [TT])
theorem w5 (n : Nat) : (PN TT.tab n).st 83 (Str.ofString "n") = true := by rw [pn_st]; rfl
theorem w6 (n : Nat) : (PN TT.tab n).st 83 (Str.ofString "nt") = true := by rw [pn_st]; rfl
theorem w7 (n : Nat) : (PN TT.tab n).st 83 (Str.ofString "norm") = true := by rw [pn_st]; rfl
theorem w9 (n : Nat) : (PN TT.tab n).st 83 (Str.ofString "is_simple") = true := by rw [pn_st]; rfl
section
variable {G : Gd} {pr : Params} {mg mb : Str → Option Value}
theorem fd45 : fdB (F 45) = true := by kernel_rfl
theorem dat45 (B : Bs G (KK pr) mg mb) : DefAt G 45 (F 45) (bodyOf (F 45)) := defAt_K B (oc := .type "function") (od := none) (sl := #[]) (by kernel_rfl) (fdOk_of fd45) (by kernel_rfl)
theorem fd52 : fdB (F 52) = true := by kernel_rfl
theorem dat52 (B : Bs G (KK pr) mg mb) : DefAt G 52 (F 52) (bodyOf (F 52)) := defAt_K B (oc := .type "function") (od := none) (sl := #[]) (by kernel_rfl) (fdOk_of fd52) (by kernel_rfl)
theorem fd59 : fdB (F 59) = true := by kernel_rfl
theorem dat59 (B : Bs G (KK pr) mg mb) : DefAt G 59 (F 59) (bodyOf (F 59)) := defAt_K B (oc := .type "function") (od := none) (sl := #[]) (by kernel_rfl) (fdOk_of fd59) (by kernel_rfl)
theorem fd66 : fdB (F 66) = true := by kernel_rfl
theorem dat66 (B : Bs G (KK pr) mg mb) : DefAt G 66 (F 66) (bodyOf (F 66)) := defAt_K B (oc := .type "function") (od := none) (sl := #[]) (by kernel_rfl) (fdOk_of fd66) (by kernel_rfl)
theorem fd73 : fdB (F 73) = true := by kernel_rfl
theorem dat73 (B : Bs G (KK pr) mg mb) : DefAt G 73 (F 73) (bodyOf (F 73)) := defAt_K B (oc := .type "function") (od := none) (sl := #[]) (by kernel_rfl) (fdOk_of fd73) (by kernel_rfl)
theorem fd80 : fdB (F 80) = true := by kernel_rfl
theorem dat80 (B : Bs G (KK pr) mg mb) : DefAt G 80 (F 80) (bodyOf (F 80)) := defAt_K B (oc := .type "function") (od := none) (sl := #[]) (by kernel_rfl) (fdOk_of fd80) (by kernel_rfl)
theorem fd95 : fdB (F 95) = true := by kernel_rfl
theorem dat95 (B : Bs G (KK pr) mg mb) : DefAt G 95 (F 95) (bodyOf (F 95)) := defAt_K B (oc := .type "function") (od := none) (sl := #[]) (by kernel_rfl) (fdOk_of fd95) (by kernel_rfl)
theorem fd115 : fdB (F 115) = true := by kernel_rfl
theorem dat115 (B : Bs G (KK pr) mg mb) : DefAt G 115 (F 115) (bodyOf (F 115)) := defAt_K B (oc := .type "function") (od := none) (sl := #[]) (by kernel_rfl) (fdOk_of fd115) (by kernel_rfl)
theorem fd122 : fdB (F 122) = true := by kernel_rfl
theorem dat122 (B : Bs G (KK pr) mg mb) : DefAt G 122 (F 122) (bodyOf (F 122)) := defAt_K B (oc := .type "function") (od := none) (sl := #[]) (by kernel_rfl) (fdOk_of fd122) (by kernel_rfl)
theorem fd129 : fdB (F 129) = true := by kernel_rfl
theorem dat129 (B : Bs G (KK pr) mg mb) : DefAt G 129 (F 129) (bodyOf (F 129)) := defAt_K B (oc := .type "function") (od := none) (sl := #[]) (by kernel_rfl) (fdOk_of fd129) (by kernel_rfl)
theorem fd136 : fdB (F 136) = true := by kernel_rfl
theorem dat136 (B : Bs G (KK pr) mg mb) : DefAt G 136 (F 136) (bodyOf (F 136)) := defAt_K B (oc := .type "function") (od := none) (sl := #[]) (by kernel_rfl) (fdOk_of fd136) (by kernel_rfl)
theorem fd144 : fdB (F 144) = true := by kernel_rfl
theorem dat144 (B : Bs G (KK pr) mg mb) : DefAt G 144 (F 144) (bodyOf (F 144)) := defAt_K B (oc := .type "function") (od := none) (sl := #[]) (by kernel_rfl) (fdOk_of fd144) (by kernel_rfl)
theorem fd152 : fdB (F 152) = true := by kernel_rfl
theorem dat152 (B : Bs G (KK pr) mg mb) : DefAt G 152 (F 152) (bodyOf (F 152)) := defAt_K B (oc := .type "function") (od := none) (sl := #[]) (by kernel_rfl) (fdOk_of fd152) (by kernel_rfl)
theorem fd160 : fdB (F 160) = true := by kernel_rfl
theorem dat160 (B : Bs G (KK pr) mg mb) : DefAt G 160 (F 160) (bodyOf (F 160)) := defAt_K B (oc := .type "function") (od := none) (sl := #[]) (by kernel_rfl) (fdOk_of fd160) (by kernel_rfl)
theorem fd168 : fdB (F 168) = true := by kernel_rfl
theorem dat168 (B : Bs G (KK pr) mg mb) : DefAt G 168 (F 168) (bodyOf (F 168)) := defAt_K B (oc := .type "function") (od := none) (sl := #[]) (by kernel_rfl) (fdOk_of fd168) (by kernel_rfl)
theorem fd175 : fdB (F 175) = true := by kernel_rfl
theorem dat175 (B : Bs G (KK pr) mg mb) : DefAt G 175 (F 175) (bodyOf (F 175)) := defAt_K B (oc := .type "function") (od := none) (sl := #[]) (by kernel_rfl) (fdOk_of fd175) (by kernel_rfl)
theorem fd182 : fdB (F 182) = true := by kernel_rfl
theorem dat182 (B : Bs G (KK pr) mg mb) : DefAt G 182 (F 182) (bodyOf (F 182)) := defAt_K B (oc := .type "function") (od := none) (sl := #[]) (by kernel_rfl) (fdOk_of fd182) (by kernel_rfl)
theorem fd187 : fdB (F 187) = true := by kernel_rfl
theorem dat187 (B : Bs G (KK pr) mg mb) : DefAt G 187 (F 187) (bodyOf (F 187)) := defAt_K B (oc := .type "function") (od := none) (sl := #[]) (by kernel_rfl) (fdOk_of fd187) (by kernel_rfl)
theorem fd194 : fdB (F 194) = true := by kernel_rfl
theorem dat194 (B : Bs G (KK pr) mg mb) : DefAt G 194 (F 194) (bodyOf (F 194)) := defAt_K B (oc := .type "function") (od := none) (sl := #[]) (by kernel_rfl) (fdOk_of fd194) (by kernel_rfl)
theorem fd199 : fdB (F 199) = true := by kernel_rfl
theorem dat199 (B : Bs G (KK pr) mg mb) : DefAt G 199 (F 199) (bodyOf (F 199)) := defAt_K B (oc := .type "function") (od := none) (sl := #[]) (by kernel_rfl) (fdOk_of fd199) (by kernel_rfl)
theorem fd204 : fdB (F 204) = true := by kernel_rfl
theorem dat204 (B : Bs G (KK pr) mg mb) : DefAt G 204 (F 204) (bodyOf (F 204)) := defAt_K B (oc := .type "function") (od := none) (sl := #[]) (by kernel_rfl) (fdOk_of fd204) (by kernel_rfl)
theorem fd209 : fdB (F 209) = true := by kernel_rfl
theorem dat209 (B : Bs G (KK pr) mg mb) : DefAt G 209 (F 209) (bodyOf (F 209)) := defAt_K B (oc := .type "function") (od := none) (sl := #[]) (by kernel_rfl) (fdOk_of fd209) (by kernel_rfl)
theorem fd38 : fdB (F 38) = true := by kernel_rfl
theorem dat38 (B : Bs G (KK pr) mg mb) : DefAt G 38 (F 38) (bodyOf (F 38)) := defAt_K B (oc := .type "function") (od := none) (sl := #[]) (by kernel_rfl) (fdOk_of fd38) (by kernel_rfl)
theorem dfo45 (B : Bs G (KK pr) mg mb) : DfOk G 45 ⟨F 45, bnP [("self" : Str)]⟩ := dfP B (dat45 B) (by kernel_rfl) (of1 fun v S => by kernel_rfl)
theorem dfo52 (B : Bs G (KK pr) mg mb) : DfOk G 52 ⟨F 52, bnP [("self" : Str), ("tabsize" : Str)]⟩ := dfP B (dat52 B) (by kernel_rfl) (of2 fun v w S => by kernel_rfl)
theorem dfo59 (B : Bs G (KK pr) mg mb) : DfOk G 59 ⟨F 59, bnP [("self" : Str), ("other" : Str)]⟩ := dfP B (dat59 B) (by kernel_rfl) (of2 fun v w S => by kernel_rfl)
theorem dfo66 (B : Bs G (KK pr) mg mb) : DfOk G 66 ⟨F 66, bnP [("self" : Str), ("other" : Str)]⟩ := dfP B (dat66 B) (by kernel_rfl) (of2 fun v w S => by kernel_rfl)
theorem dfo73 (B : Bs G (KK pr) mg mb) : DfOk G 73 ⟨F 73, bnP [("self" : Str), ("other" : Str)]⟩ := dfP B (dat73 B) (by kernel_rfl) (of2 fun v w S => by kernel_rfl)
theorem dfo80 (B : Bs G (KK pr) mg mb) : DfOk G 80 ⟨F 80, bnP [("self" : Str), ("other" : Str)]⟩ := dfP B (dat80 B) (by kernel_rfl) (of2 fun v w S => by kernel_rfl)
theorem dfo95 (B : Bs G (KK pr) mg mb) : DfOk G 95 ⟨F 95, bnP [("s" : Str)]⟩ := dfP B (dat95 B) (by kernel_rfl) (of1 fun v S => by kernel_rfl)
theorem dfo115 (B : Bs G (KK pr) mg mb) : DfOk G 115 ⟨F 115, bnP [("data" : Str)]⟩ := dfP B (dat115 B) (by kernel_rfl) (of1 fun v S => by kernel_rfl)
theorem dfo122 (B : Bs G (KK pr) mg mb) : DfOk G 122 ⟨F 122, bnP [("data" : Str)]⟩ := dfP B (dat122 B) (by kernel_rfl) (of1 fun v S => by kernel_rfl)
theorem dfo129 (B : Bs G (KK pr) mg mb) : DfOk G 129 ⟨F 129, bnP [("x" : Str)]⟩ := dfP B (dat129 B) (by kernel_rfl) (of1 fun v S => by kernel_rfl)
theorem dfo136 (B : Bs G (KK pr) mg mb) : DfOk G 136 ⟨F 136, bnP [("c" : Str)]⟩ := dfP B (dat136 B) (by kernel_rfl) (of1 fun v S => by kernel_rfl)
theorem dfo144 (B : Bs G (KK pr) mg mb) : DfOk G 144 ⟨F 144, bnK ("data" : Str) ("strict_mode" : Str)⟩ := dfK B (dat144 B) (by kernel_rfl) (fun v w S => by kernel_rfl)
theorem dfo152 (B : Bs G (KK pr) mg mb) : DfOk G 152 ⟨F 152, bnK ("data" : Str) ("newline" : Str)⟩ := dfK B (dat152 B) (by kernel_rfl) (fun v w S => by kernel_rfl)
theorem dfo160 (B : Bs G (KK pr) mg mb) : DfOk G 160 ⟨F 160, bnD ("s" : Str) ("altchars" : Str)⟩ := dfD B (dat160 B) (by kernel_rfl) (fun v w S => by kernel_rfl) (fun v S => by kernel_rfl)
theorem dfo168 (B : Bs G (KK pr) mg mb) : DfOk G 168 ⟨F 168, bnF ("s" : Str) ("altchars" : Str) ("validate" : Str)⟩ := dfF B (dat168 B) (by kernel_rfl) (fun v w S => by kernel_rfl)
theorem dfo175 (B : Bs G (KK pr) mg mb) : DfOk G 175 ⟨F 175, bnP [("numbers" : Str)]⟩ := dfP B (dat175 B) (by kernel_rfl) (of1 fun v S => by kernel_rfl)
theorem dfo182 (B : Bs G (KK pr) mg mb) : DfOk G 182 ⟨F 182, bnP [("figures" : Str), ("spare" : Str)]⟩ := dfP B (dat182 B) (by kernel_rfl) (of2 fun v w S => by kernel_rfl)
theorem dfo187 (B : Bs G (KK pr) mg mb) : DfOk G 187 ⟨F 187, bnP [("figures" : Str), ("spare" : Str)]⟩ := dfP B (dat187 B) (by kernel_rfl) (of2 fun v w S => by kernel_rfl)
theorem dfo194 (B : Bs G (KK pr) mg mb) : DfOk G 194 ⟨F 194, bnP [("row" : Str)]⟩ := dfP B (dat194 B) (by kernel_rfl) (of1 fun v S => by kernel_rfl)
theorem dfo199 (B : Bs G (KK pr) mg mb) : DfOk G 199 ⟨F 199, bnP [("runs" : Str)]⟩ := dfP B (dat199 B) (by kernel_rfl) (of1 fun v S => by kernel_rfl)
theorem dfo204 (B : Bs G (KK pr) mg mb) : DfOk G 204 ⟨F 204, bnP [("runs" : Str), ("blanks" : Str)]⟩ := dfP B (dat204 B) (by kernel_rfl) (of2 fun v w S => by kernel_rfl)
theorem dfo209 (B : Bs G (KK pr) mg mb) : DfOk G 209 ⟨F 209, bnP [("script" : Str)]⟩ := dfP B (dat209 B) (by kernel_rfl) (of1 fun v S => by kernel_rfl)
theorem cfo (B : Bs G (KK pr) mg mb) : CfOk G (KK pr) 83 ⟨F 38, "self", bnC "ws"⟩ 38 := cfC B (by kernel_rfl) (by kernel_rfl) (by kernel_rfl) (keepOk_cls B (oc := _) (od := _) (cd := _) (sl := _) rfl (by kernel_rfl)) (dat38 B) (by kernel_rfl) (by kernel_rfl) (by decide) (fun v w S => by kernel_rfl)
theorem all_c {α : Type} {P : α → Prop} {a : α} {l : List α} (h : P a) (k : ∀ p ∈ l, P p) : ∀ p ∈ a :: l, P p := List.forall_mem_cons.mpr ⟨h, k⟩
theorem all_n {α : Type} {P : α → Prop} : ∀ p ∈ ([] : List α), P p := fun _ h => nomatch h
theorem tab_ok (B : Bs G (KK pr) mg mb) : TabOk G (KK pr) TT.tab := by
  refine TD.ok B TT ?_ ?_ ?_ ?_ ?_ ?_ ⟨38, cfo B⟩
  · refine all_c (gl_K B (by kernel_rfl) fun φ _ => .val _) ?_
    refine all_c (gl_K B (by kernel_rfl) fun φ _ => .val _) ?_
    refine all_c (gl_K B (by kernel_rfl) fun φ _ => .val _) ?_
    refine all_c (gl_K B (by kernel_rfl) fun φ _ => .val _) ?_
    refine all_c (gl_K B (by kernel_rfl) fun φ _ => .val _) ?_
    refine all_c (gl_K B (by kernel_rfl) fun φ _ => .val _) ?_
    refine all_c (gl_K B (by kernel_rfl) fun φ _ => .val _) ?_
    refine all_c (gl_K B (by kernel_rfl) fun φ _ => .val _) ?_
    refine all_c (gl_K B (by kernel_rfl) fun φ _ => .val _) ?_
    refine all_c (gl_K B (by kernel_rfl) fun φ _ => .val _) ?_
    refine all_c (gl_K B (by kernel_rfl) fun φ _ => .val _) ?_
    refine all_c (gl_K B (by kernel_rfl) fun φ _ => .val _) ?_
    refine all_c (gl_K B (by kernel_rfl) fun φ _ => .val _) ?_
    refine all_c (gl_K B (by kernel_rfl) fun φ _ => .val _) ?_
    refine all_c (gl_K B (by kernel_rfl) fun φ _ => .val _) ?_
    refine all_c (gl_K B (by kernel_rfl) fun φ _ => .val _) ?_
    refine all_c (gl_K B (by kernel_rfl) fun φ _ => .val _) ?_
    refine all_c (gl_B B (by kernel_rfl) (by kernel_rfl) (by decide)) ?_
    refine all_c (gl_B B (by kernel_rfl) (by kernel_rfl) (by decide)) ?_
    refine all_c (gl_B B (by kernel_rfl) (by kernel_rfl) (by decide)) ?_
    refine all_c (gl_B B (by kernel_rfl) (by kernel_rfl) (by decide)) ?_
    refine all_c (gl_B B (by kernel_rfl) (by kernel_rfl) (by decide)) ?_
    refine all_c (gl_B B (by kernel_rfl) (by kernel_rfl) (by decide)) ?_
    refine all_c (gl_B B (by kernel_rfl) (by kernel_rfl) (by decide)) ?_
    refine all_c (gl_B B (by kernel_rfl) (by kernel_rfl) (by decide)) ?_
    refine all_c (gl_B B (by kernel_rfl) (by kernel_rfl) (by decide)) ?_
    refine all_c (gl_B B (by kernel_rfl) (by kernel_rfl) (by decide)) ?_
    refine all_c (gl_B B (by kernel_rfl) (by kernel_rfl) (by decide)) ?_
    refine all_c (gl_B B (by kernel_rfl) (by kernel_rfl) (by decide)) ?_
    refine all_c (gl_B B (by kernel_rfl) (by kernel_rfl) (by decide)) ?_
    refine all_c (gl_B B (by kernel_rfl) (by kernel_rfl) (by decide)) ?_
    refine all_c (gl_K B (v := .bytes B64L.toArray 351) (by kernel_rfl) fun φ _ => .bytes _ _) ?_
    exact all_n
  · refine all_c (by kernel_rfl) ?_
    refine all_c (by kernel_rfl) ?_
    refine all_c (by kernel_rfl) ?_
    refine all_c (by kernel_rfl) ?_
    refine all_c (by kernel_rfl) ?_
    refine all_c (by kernel_rfl) ?_
    exact all_n
  · refine all_c (by kernel_rfl) ?_
    refine all_c (by kernel_rfl) ?_
    refine all_c (by kernel_rfl) ?_
    refine all_c (by kernel_rfl) ?_
    refine all_c (by kernel_rfl) ?_
    exact all_n
  · refine all_c (⟨by kernel_rfl, 209, by kernel_rfl⟩) ?_
    refine all_c (⟨by kernel_rfl, 210, by kernel_rfl⟩) ?_
    exact all_n
  · refine all_c (by kernel_rfl) ?_
    refine all_c (by kernel_rfl) ?_
    refine all_c (by kernel_rfl) ?_
    refine all_c (by kernel_rfl) ?_
    refine all_c (by kernel_rfl) ?_
    exact all_n
  · refine all_c (dfo45 B) ?_
    refine all_c (dfo52 B) ?_
    refine all_c (dfo59 B) ?_
    refine all_c (dfo66 B) ?_
    refine all_c (dfo73 B) ?_
    refine all_c (dfo80 B) ?_
    refine all_c (dfo95 B) ?_
    refine all_c (dfo115 B) ?_
    refine all_c (dfo122 B) ?_
    refine all_c (dfo129 B) ?_
    refine all_c (dfo136 B) ?_
    refine all_c (dfo144 B) ?_
    refine all_c (dfo152 B) ?_
    refine all_c (dfo160 B) ?_
    refine all_c (dfo168 B) ?_
    refine all_c (dfo175 B) ?_
    refine all_c (dfo182 B) ?_
    refine all_c (dfo187 B) ?_
    refine all_c (dfo194 B) ?_
    refine all_c (dfo199 B) ?_
    refine all_c (dfo204 B) ?_
    refine all_c (dfo209 B) ?_
    exact all_n
end
end Mine

set_option maxHeartbeats 4000000
namespace Mine
open PySem PySem.W PySem.Calls PyProof.Rows PySem.SeqAt
noncomputable def b64v (c : Int) : Int := if 65 ≤ c ∧ c ≤ 90 then c - 65 else if 97 ≤ c ∧ c ≤ 122 then c - 71 else if 48 ≤ c ∧ c ≤ 57 then c + 4 else if c = 43 then 62 else if c = 47 then 63 else 64
theorem c_b64v (n : Nat) (c : Int) : (PT (n + 1)).fn (.ref 136) [.int c] [] = some (.int (b64v c)) := by
  (refine (fn_df rfl rfl).trans ?_; refine run_ex fun sc b g1 g2 => ?_; (conv at g1 => (lhs; whnf)); (conv at g2 => (lhs; whnf)); subst g1 g2)
  (simp (decide := true) only [ja,jb,jc,jd,jg,jh,ji,jj,jy,jB,jG,↓jH,j5,qH,yk,yl,fuelN,yt,yv,yx,yM,zc,xc,vU,ub,xJ,xO,xR,xW,rho0,bindsD,List.reverse_cons,List.reverse_nil,List.nil_append,Nat.reduceAdd,Bool.and_eq_true,decide_eq_true_eq,uc,ud,ue,uf,ug, *])
  unfold b64v
  rfl
theorem c_buffer (n : Nat) (b : List UInt8) : (PT (n + 1)).fn (.ref 122) [.bytes b] [] = some (.bytes b) := by
  (refine (fn_df rfl rfl).trans ?_; refine run_ex fun sc b g1 g2 => ?_; (conv at g1 => (lhs; whnf)); (conv at g2 => (lhs; whnf)); subst g1 g2)
  (simp (decide := true) only [jb,jc,jd,jg,jh,ji,jj,jn,jq,jy,jB,↓jH,↓jI,j5,j7,j8,ku,kv,qj,qG,qN,qO,qP,q9,yk,fuelN,yo,yp,yq,yr,yv,yy,yG,yK,yO,yP,yT,zc,zq,zw,xc,xT,x6,rho0,bindsD,List.reverse_cons,List.reverse_nil,List.nil_append,decide_eq_true,wb,wu,wJ,wQ,Nat.reduceAdd,vN,vO, *])
theorem c_ascii (n : Nat) (b : List UInt8) : (PT (n + 1)).fn (.ref 115) [.bytes b] [] = some (.bytes b) := by
  (refine (fn_df rfl rfl).trans ?_; refine run_ex fun sc b g1 g2 => ?_; (conv at g1 => (lhs; whnf)); (conv at g2 => (lhs; whnf)); subst g1 g2)
  (simp (decide := true) only [ja,jb,jc,jd,jg,jh,ji,jj,jn,jq,jy,jB,↓jH,↓jI,j5,j7,j8,ka,ku,kv,qj,qG,qN,qO,qP,q9,yk,fuelN,yo,yp,yq,yr,yv,yy,yG,yK,yO,yP,yT,zc,zq,zr,zw,xc,xT,x6,rho0,bindsD,List.reverse_cons,List.reverse_nil,List.nil_append,decide_false,decide_eq_true,wb,wu,wJ,wQ,Nat.reduceAdd,vN,vO,vQ, *])
theorem c_truth (n : Nat) (b : Bool) : (PT (n + 1)).fn (.ref 129) [.bool b] [] = some (.bool b) := by
  (refine (fn_df rfl rfl).trans ?_; refine run_ex fun sc b g1 g2 => ?_; (conv at g1 => (lhs; whnf)); (conv at g2 => (lhs; whnf)); subst g1 g2)
  induction b using Bool.casesOn <;> (simp (decide := true) only [jb,jc,jd,jg,jh,ji,jj,jn,jq,jy,jB,jG,↓jH,↓jI,j5,j7,j8,j9,ka,kc,kd,ke,kf,kg,kh,ki,kj,kl,km,ku,kv,qj,qG,qK,qN,qO,qP,q9,yc,ye,yg,yi,yj,yk,ym,fuelN,yo,yp,yr,yv,yy,yG,yH,yK,yL,yP,yT,zc,zi,zj,zl,zm,zq,zw,xc,xH,xI,xT,xZ,x6,rho0,bindsD,List.reverse_cons,List.reverse_nil,List.nil_append,decide_false,decide_eq_true,wb,wu,wK,wQ,wR,Nat.reduceAdd,vL,vM,vN,vO,vP,vQ,vR,vS, *])
noncomputable def b64n (c : Nat) : Nat := if 65 ≤ c ∧ c ≤ 90 then c - 65 else if 97 ≤ c ∧ c ≤ 122 then c - 71 else if 48 ≤ c ∧ c ≤ 57 then c + 4 else if c = 43 then 62 else if c = 47 then 63 else 64
theorem c_b64n (n : Nat) (c : Nat) : (PT (n + 1)).fn (.ref 136) [.int (c : Int)] [] = some (.int ((b64n c : Nat) : Int)) := by
  rw [c_b64v]
  congr 2
  unfold b64v b64n
  split
  · rw [if_pos (by lia)]; lia
  split
  · rw [if_neg (by lia), if_pos (by lia)]; lia
  split
  · rw [if_neg (by lia), if_neg (by lia), if_pos (by lia)]; lia
  split
  · rw [if_neg (by lia), if_neg (by lia), if_neg (by lia), if_pos (by lia)]; rfl
  split
  · rw [if_neg (by lia), if_neg (by lia), if_neg (by lia), if_neg (by lia), if_pos (by lia)]; rfl
  · rw [if_neg (by lia), if_neg (by lia), if_neg (by lia), if_neg (by lia), if_neg (by lia)]; rfl
/-! a2b_base64 -/
structure A2 where
  out : List Nat
  q : Nat
  lc : Nat
  pads : Nat
  i : Nat
noncomputable def a2st (s : A2) (c : UInt8) : A2 :=
  if c.toNat = 61 then { s with pads := s.pads + 1, i := s.i + 1 }
  else if 64 ≤ b64n c.toNat then { s with i := s.i + 1 }
  else if s.q = 0 then ⟨s.out, 1, b64n c.toNat, 0, s.i + 1⟩
  else if s.q = 1 then ⟨s.out ++ [s.lc * 4 ||| b64n c.toNat / 16], 2, b64n c.toNat % 16, 0, s.i + 1⟩
  else if s.q = 2 then ⟨s.out ++ [s.lc * 16 ||| b64n c.toNat / 4], 3, b64n c.toNat % 4, 0, s.i + 1⟩
  else ⟨s.out ++ [s.lc * 64 ||| b64n c.toNat], 0, 0, 0, s.i + 1⟩
noncomputable def A2I (k : Nat) (s : A2) : Prop := s.q ≤ 3 ∧ s.lc < 64 ∧ (s.q = 2 → s.lc < 16) ∧ (s.q = 3 → s.lc < 4) ∧ s.i = k ∧ s.out.length ≤ k ∧ ∀ x ∈ s.out, x < 256
set_option tactic.hygienic true in
theorem a2I_step {k : Nat} {s : A2} {c : UInt8} (h : A2I k s) : A2I (k + 1) (a2st s c) := by
  refine e0a7 (h) fun h1 h2 h3 h4 h5 h6 h7 => ?_
  unfold a2st
  split
  · exact ⟨h1, h2, h3, h4, by dsimp only; lia, by dsimp only; lia, h7⟩
  split
  · exact ⟨h1, h2, h3, h4, by dsimp only; lia, by dsimp only; lia, h7⟩
  rename_i hv
  have hv : b64n c.toNat < 64 := by lia
  have app : ∀ y, y < 256 → ∀ x ∈ s.out ++ [y], x < 256 := fun y hy x hx => by
    rcases List.mem_append.mp hx with z | z
    · exact h7 x z
    · rw [List.mem_singleton.mp z]; exact hy
  split
  · exact ⟨by dsimp only; lia, by dsimp only; lia, by dsimp only; lia, by dsimp only; lia, by dsimp only; lia, by dsimp only; lia, h7⟩
  split
  · refine ⟨by dsimp only; lia, by dsimp only; lia, by dsimp only; lia, by dsimp only; lia, by dsimp only; lia, by rw [List.length_append]; show _ + 1 ≤ _; lia, app _ ?_⟩
    exact Nat.or_lt_two_pow (n := 8) (by lia) (by lia)
  split
  · refine ⟨by dsimp only; lia, by dsimp only; lia, by dsimp only; lia, by dsimp only; lia, by dsimp only; lia, by rw [List.length_append]; show _ + 1 ≤ _; lia, app _ ?_⟩
    exact Nat.or_lt_two_pow (n := 8) (by lia) (by lia)
  · refine ⟨by dsimp only; lia, by dsimp only; lia, by dsimp only; lia, by dsimp only; lia, by dsimp only; lia, by rw [List.length_append]; show _ + 1 ≤ _; lia, app _ ?_⟩
    exact Nat.or_lt_two_pow (n := 8) (by lia) (by lia)
noncomputable def a2b (b : List UInt8) : A2 := b.foldl a2st ⟨[], 0, 0, 0, 0⟩
noncomputable def nI (k : Nat) : D := .int (k : Int)
noncomputable def a2U (s : A2) (j : Option D) : List (Str × LV) := [("out", .ow (s.out.map fun k : Nat => D.int (k : Int))), ("quad_pos", .fz (.int (s.q : Int))), ("leftchar", .fz (.int (s.lc : Int))), ("pads", .fz (.int (s.pads : Int))), ("i", .fz (.int (s.i : Int))), ("this_ch", LJ j)]
theorem c_a2b (n : Nat) (b : List UInt8) (hl : b.length ≤ lim) (h1 : (a2b b).q ≠ 1) (h2 : (a2b b).q ≠ 0 → 4 ≤ (a2b b).q + (a2b b).pads) :
    (PT (n + 2)).fn (.ref 144) [.bytes b] [("strict_mode", .bool false)] = some (.bytes ((a2b b).out.map fun k => k.toUInt8)) := by
  (refine (fn_df rfl rfl).trans ?_; refine run_ex fun sc b g1 g2 => ?_; (conv at g1 => (lhs; whnf)); (conv at g2 => (lhs; whnf)); subst g1 g2)
  unfold a2b at *
  have e1 := c_truth n
  have e2 := c_ascii n
  have e3 := c_b64n n
  (simp (decide := true) only [jb,jc,jg,ji,jj,jn,jo,jq,jz,jG,↓jH,↓jI,j5,j6,j7,kf,kg,kv,kC,kQ,kR,kS,kT,kU,kW,kX,qj,qk,ql,qm,qn,qo,qp,qG,qL,qN,qO,qP,q9,fuelN,yo,yq,yr,yy,yA,yG,yK,yL,yM,yO,yQ,yT,za,zb,zw,zx,zz,xJ,x6,x7,rho0,bindsD,List.reverse_cons,List.reverse_nil,List.nil_append,List.cons_append,↓reduceIte,wW,Nat.reduceAdd,vo,vr, *])
  refine outD_of (nx_forU (fun c : UInt8 => D.int (c.toNat : Int)) b a2st a2U A2I ⟨[], 0, 0, 0, 0⟩ none ?_ ?_ ?_ ?_)
  · unfold a2U; (simp (decide := true) only [jl,kI,kJ,kK,kL,kM,kN,kQ,kR,kS,kT,kU,yp,xd,xe,xy,List.map_nil, *])
  · exact ⟨by decide, by decide, by decide, by decide, rfl, Nat.le_refl _, fun x hx => (nomatch hx)⟩
  · intro k s j c hc hI
    refine ⟨a2I_step hI, ?_⟩
    refine e0a7 (hI) fun i1 i2 i3 i4 i5 i6 i7 => ?_
    have hk : k < b.length := (List.getElem?_eq_some_iff.mp hc).1
    have hol : s.out.length ≤ lim := by lia
    unfold a2U a2st
    by_cases c1 : c.toNat = 61
    · have c1' : (c.toNat : Int) = 61 := by lia
      refine ⟨_, by (simp (decide := true) only [kI,kJ,kK,kL,kM,kN,kQ,kR,kS,kT,kU,qr,yp,zO,xd,xe, *]) <;> rfl, .some (.int 61), .inr ?_⟩
      (simp (decide := true) only [jb,jc,jg,jh,ji,jj,jm,jo,jq,jy,jG,↓jL,↓jN,↓jP,kI,kJ,kK,kL,kM,kN,kQ,kR,kS,kT,kU,qo,qH,yc,yd,yf,yj,yk,fuelN,yp,yt,yv,yK,yM,yT,zq,zs,xd,xe,xg,xx,xJ,xO,xR,xS,xW,x8,decide_eq_true,↓reduceIte,Nat.reduceAdd, *])
      by_cases d1 : (2 : Int) ≤ (s.q : Int)
      · by_cases d2 : ((s.q + (s.pads + 1) : Nat) : Int) ≤ 4
        · (simp (decide := true) only [jb,jc,jf,jg,ji,jj,jo,jq,jD,jG,↓jO,kQ,qp,qH,yf,fuelN,yt,yK,yM,yT,zq,zs,xx,xJ,x8,decide_eq_true,↓reduceIte,Nat.reduceAdd, *]) <;> rfl
        · (simp (decide := true) only [ja,jb,jc,jf,jg,jh,ji,jj,jo,jq,jy,jD,jG,↓jI,↓jO,kQ,qp,qH,yb,yh,ym,fuelN,yt,yH,yK,yM,yT,zn,zq,zr,zs,xx,xJ,xZ,x8,Bool.not_false,decide_false,decide_eq_true,↓reduceIte,Nat.reduceAdd, *]) <;> rfl
      · (simp (decide := true) only [ja,jb,jc,jf,jg,jh,ji,jj,jo,jq,jy,jD,jG,↓jI,↓jO,kQ,qp,qH,yb,ym,fuelN,yt,yH,yK,yM,yT,zk,zn,zq,zr,zs,xx,xJ,xZ,x8,Bool.not_false,decide_false,↓reduceIte,Nat.reduceAdd, *]) <;> rfl
    · have c1' : ¬ (c.toNat : Int) = 61 := by lia
      by_cases c2 : 64 ≤ b64n c.toNat
      · have c2' : (64 : Int) ≤ (b64n c.toNat : Int) := by lia
        refine ⟨_, by (simp (decide := true) only [kI,kJ,kK,kL,kM,kN,kQ,kR,kS,kT,kU,qr,yp,zO,xd,xe, *]) <;> rfl, .some (.int (b64n c.toNat : Int)), .inr ?_⟩
        (simp (decide := true) only [ja,jb,jc,jf,jg,jh,ji,jj,jm,jo,jq,jy,jD,jG,↓jI,↓jO,↓jP,ki,kC,kI,kJ,kK,kL,kM,kN,kQ,kR,kS,kT,kU,qp,qr,qG,qH,qN,qO,qP,q9,yk,ym,fuelN,yo,yp,yr,yt,yv,yy,yG,yH,yK,yM,yT,zq,zr,zs,zw,xd,xe,xx,xJ,xO,xS,xW,xZ,x6,x8,decide_false,decide_eq_true,↓reduceIte,Nat.reduceAdd,vv, *]) <;> rfl
      · have c2' : ¬ (64 : Int) ≤ (b64n c.toNat : Int) := by lia
        refine ⟨_, by (simp (decide := true) only [kI,kJ,kK,kL,kM,kN,kQ,kR,kS,kT,kU,qr,yp,zO,xd,xe, *]) <;> rfl, .some (.int (b64n c.toNat : Int)), .inl ?_⟩
        have c3 : b64n c.toNat < 1000000 := by lia
        have c4 : s.lc < 1000000 := by lia
        (simp (decide := true) only [ja,jb,jc,jg,jh,ji,jj,jm,jo,jq,jy,jG,↓jI,↓jL,↓jN,↓jP,ki,kC,kI,kJ,kK,kL,kM,kN,kQ,kR,kS,kT,kU,qo,qr,qG,qN,qO,qP,q9,yc,yd,yf,yh,yj,yk,ym,fuelN,yo,yp,yr,yv,yy,yG,yH,yK,yM,yT,zr,zw,zx,xd,xe,xJ,xO,xS,xW,xZ,x5,x6,decide_false,↓reduceIte,Nat.reduceAdd,vv, *])
        obtain q | q | q | q : s.q = 0 ∨ s.q = 1 ∨ s.q = 2 ∨ s.q = 3 := by lia
        all_goals ((simp (decide := true) only [ja,jb,jc,jg,jh,ji,jj,jo,jq,jx,jy,jG,↓jL,↓jM,↓jO,↓jP,j8,ke,kI,kQ,kS,kT,kU,qm,qn,qp,qG,qH,List.length_map,yk,fuelN,yo,yq,yt,yv,yK,yM,yT,zo,zq,zr,zs,zx,zy,xh,xj,xk,xl,xo,xq,xt,xu,xx,xy,xz,xA,xB,List.map_append,List.map_cons,List.map_nil,xJ,xO,xW,x6,x8,reduceCtorEq,decide_false,decide_eq_true,↓reduceIte,Nat.reduceAdd, *]) <;> rfl)
  · intro j hI
    refine e0a7 (hI) fun i1 i2 i3 i4 i5 i6 i7 => ?_
    generalize List.foldl a2st ⟨[], 0, 0, 0, 0⟩ b = s at *
    have h1' : ¬ (s.q : Int) = 1 := by lia
    have i8 := bytesD_nat i7 (show s.out.length ≤ lim by lia)
    unfold a2U
    by_cases q0 : (s.q : Int) = 0
    · (simp (decide := true) only [ja,jb,jc,jd,jg,jh,ji,jj,jk,jo,jy,jB,jG,↓jK,↓jL,↓jN,kl,kC,kI,kJ,kK,kL,kM,kN,kQ,kR,kS,kT,kU,qG,qH,qN,qO,qP,q9,yc,yd,yj,yk,fuelN,yo,yp,yr,yt,yv,yy,yG,yO,zc,zk,zn,zr,xd,xe,xJ,xO,xP,xW,Bool.not_true,decide_false,decide_eq_true,↓reduceIte,wb,ww,Nat.reduceAdd,vO, *])
    · have h2' := h2 (by lia)
      have q1 : ¬ ((s.q + s.pads : Nat) : Int) < 4 := by lia
      (simp (decide := true) only [ja,jb,jc,jd,jg,jh,ji,jj,jk,jo,jy,jB,jG,↓jK,↓jL,↓jN,kl,kC,kI,kJ,kK,kL,kM,kN,kQ,kR,kS,kT,kU,qG,qH,qN,qO,qP,q9,yc,yd,yf,yh,yj,yk,fuelN,yo,yp,yr,yt,yv,yy,yG,yO,zc,zn,zr,xd,xe,xg,xJ,xO,xP,xQ,xW,Bool.not_false,decide_false,↓reduceIte,wb,ww,Nat.reduceAdd,vO, *])
/-! b2a_base64 -/
noncomputable def sg (k : Nat) : Nat := (B64L[k]?.getD 0).toNat
theorem sg_lt (k : Nat) : sg k < 256 := by unfold sg; exact UInt8.toNat_lt _
theorem b64_len : B64L.length = 64 := by decide
theorem idx_b64 {x : Nat} (h : x < 64) : idxD (.bytes B64L) (x : Int) = some (.int ((sg x : Nat) : Int)) := by
  unfold idxD
  dsimp only
  have hb : inB (x : Int) B64L.length = true ∧ 0 ≤ (x : Int) := ⟨decide_eq_true (by rw [b64_len]; unfold lim; lia), by lia⟩
  rw [if_pos hb, Int.toNat_natCast, List.getElem?_eq_getElem (by rw [b64_len]; exact h)]
  unfold sg
  rw [List.getElem?_eq_getElem (by rw [b64_len]; exact h)]
  rfl
theorem l_add_0 : binF .Add (.int 0) (.int 8) = some (.int 8) := id rfl
theorem l_add_2 : binF .Add (.int 2) (.int 8) = some (.int 10) := id rfl
theorem l_add_4 : binF .Add (.int 4) (.int 8) = some (.int 12) := id rfl
structure B2 where
  out : List Nat
  lb : Nat
  lc : Nat
noncomputable def b2st (s : B2) (b : UInt8) : B2 :=
  if s.lb = 0 then ⟨s.out ++ [sg ((s.lc * 256 ||| b.toNat) % 65536 / 4 % 64)], 2, (s.lc * 256 ||| b.toNat) % 65536⟩
  else if s.lb = 2 then ⟨s.out ++ [sg ((s.lc * 256 ||| b.toNat) % 65536 / 16 % 64)], 4, (s.lc * 256 ||| b.toNat) % 65536⟩
  else ⟨s.out ++ [sg ((s.lc * 256 ||| b.toNat) % 65536 / 64 % 64)] ++ [sg ((s.lc * 256 ||| b.toNat) % 65536 / 1 % 64)], 0, (s.lc * 256 ||| b.toNat) % 65536⟩
noncomputable def B2I (k : Nat) (s : B2) : Prop := (s.lb = 0 ∨ s.lb = 2 ∨ s.lb = 4) ∧ s.lc < 65536 ∧ s.out.length ≤ 2 * k ∧ ∀ x ∈ s.out, x < 256
theorem b2I_step {k : Nat} {s : B2} {c : UInt8} (h : B2I k s) : B2I (k + 1) (b2st s c) := by
  refine e0a4 (h) fun h1 h2 h3 h4 => ?_
  have app : ∀ (l : List Nat) y, (∀ x ∈ l, x < 256) → ∀ x ∈ l ++ [sg y], x < 256 := fun l y hl x hx => by
    rcases List.mem_append.mp hx with z | z
    · exact hl x z
    · rw [List.mem_singleton.mp z]; exact sg_lt _
  unfold b2st
  split
  · exact ⟨.inr (.inl rfl), Nat.mod_lt _ (by decide), by rw [List.length_append]; show _ + 1 ≤ _; lia, app _ _ h4⟩
  split
  · exact ⟨.inr (.inr rfl), Nat.mod_lt _ (by decide), by rw [List.length_append]; show _ + 1 ≤ _; lia, app _ _ h4⟩
  · exact ⟨.inl rfl, Nat.mod_lt _ (by decide), by rw [List.length_append, List.length_append]; show _ + 1 + 1 ≤ _; lia, app _ _ (app _ _ h4)⟩
noncomputable def b2fin (s : B2) : List Nat := if s.lb = 2 then s.out ++ [sg (s.lc % 4 * 16)] ++ [61] ++ [61] else if s.lb = 4 then s.out ++ [sg (s.lc % 16 * 4)] ++ [61] else s.out
noncomputable def b2a (b : List UInt8) : List Nat := b2fin (b.foldl b2st ⟨[], 0, 0⟩)
noncomputable def b2U (s : B2) (j : Option D) : List (Str × LV) := [("out", .ow (s.out.map fun k : Nat => D.int (k : Int))), ("leftbits", .fz (.int (s.lb : Int))), ("leftchar", .fz (.int (s.lc : Int))), ("b", LJ j)]
theorem c_b2a (n : Nat) (b : List UInt8) (hl : b.length ≤ 100000) :
    (PT (n + 2)).fn (.ref 152) [.bytes b] [("newline", .bool false)] = some (.bytes ((b2a b).map fun k => k.toUInt8)) := by
  (refine (fn_df rfl rfl).trans ?_; refine run_ex fun sc b g1 g2 => ?_; (conv at g1 => (lhs; whnf)); (conv at g2 => (lhs; whnf)); subst g1 g2)
  unfold b2a at *
  have hl' : b.length ≤ lim := by unfold lim; lia
  have e1 := c_truth n
  have e2 := c_buffer n
  (simp (decide := true) only [jb,jc,jg,ji,jj,jn,jo,jq,jz,jG,↓jH,↓jI,j5,j6,j7,kd,ke,kv,kB,kQ,kR,kS,kT,kU,qj,qk,ql,qm,qn,qG,qL,qN,qO,qP,q9,fuelN,yo,yq,yr,yy,yA,yG,yK,yL,yM,yO,yQ,yT,za,zb,zw,zx,zz,xJ,x6,x7,rho0,bindsD,List.reverse_cons,List.reverse_nil,List.nil_append,List.cons_append,↓reduceIte,wW,Nat.reduceAdd,vq,vr, *])
  refine outD_of (nx_forU (fun c : UInt8 => D.int (c.toNat : Int)) b b2st b2U B2I ⟨[], 0, 0⟩ none ?_ ?_ ?_ ?_)
  · unfold b2U; (simp (decide := true) only [jl,kI,kJ,kK,kL,kQ,kR,kS,yp,xd,xe,xy,List.map_nil, *])
  · exact ⟨.inl rfl, by decide, Nat.le_refl _, fun x hx => (nomatch hx)⟩
  · intro k s j c hc hI
    refine ⟨b2I_step hI, ?_⟩
    refine e0a4 (hI) fun i1 i2 i3 i4 => ?_
    have hk : k < b.length := (List.getElem?_eq_some_iff.mp hc).1
    have hol : s.out.length ≤ lim := by unfold lim; lia
    have hol2 : s.out.length + 1 ≤ lim := by unfold lim; lia
    have c4 : s.lc < 1000000 := by lia
    have x1 := idx_b64 (x := (s.lc * 256 ||| c.toNat) % 65536 / 4 % 64) (Nat.mod_lt _ (by decide))
    have x2 := idx_b64 (x := (s.lc * 256 ||| c.toNat) % 65536 / 16 % 64) (Nat.mod_lt _ (by decide))
    have x3 := idx_b64 (x := (s.lc * 256 ||| c.toNat) % 65536 / 64 % 64) (Nat.mod_lt _ (by decide))
    have x4 := idx_b64 (x := (s.lc * 256 ||| c.toNat) % 65536 / 1 % 64) (Nat.mod_lt _ (by decide))
    have y0 := l_add_0
    have y1 := l_add_2
    have y2 := l_add_4
    have y3 := @ub
    unfold b2U b2st
    refine ⟨_, by (simp (decide := true) only [kI,kJ,kK,kL,kQ,kR,kS,qo,yp,zO,xd,xe, *]) <;> rfl, some (.int (c.toNat : Int)), .inl ?_⟩
    obtain q | q | q := i1
    all_goals ((simp (decide := true) only [ja,jb,jc,jg,jh,ji,jj,jm,jo,jq,jx,jA,jG,↓jL,↓jM,↓jN,j8,kf,kB,kI,kJ,kK,kL,kQ,kR,kS,qm,qn,qG,qH,qX,List.length_map,yk,fuelN,yo,yp,yr,yt,yv,yF,yK,yM,yT,zo,zs,xd,xe,xh,xm,xn,xo,xq,xr,xv,xw,xy,xA,xC,xD,xE,xF,xG,List.map_append,List.map_cons,List.map_nil,xJ,xS,x8,reduceCtorEq,decide_false,decide_eq_true,↓reduceIte,List.length_cons,List.length_nil,List.length_append,Int.reduceSub,Nat.reduceAdd,vT, *]) <;> rfl)
  · intro j hI
    refine e0a4 (hI) fun i1 i2 i3 i4 => ?_
    generalize List.foldl b2st ⟨[], 0, 0⟩ b = s at *
    have l0 : s.out.length ≤ lim := by unfold lim; lia
    have l1 : s.out.length + 1 ≤ lim := by unfold lim; lia
    have l2 : s.out.length + 1 + 1 ≤ lim := by unfold lim; lia
    have x1 := idx_b64 (x := s.lc % 4 * 16) (by lia)
    have x2 := idx_b64 (x := s.lc % 16 * 4) (by lia)
    have z1 : s.lc % 4 < 1000000 := by lia
    have z2 : s.lc % 16 < 1000000 := by lia
    have app : ∀ (l : List Nat) y, y < 256 → (∀ x ∈ l, x < 256) → ∀ x ∈ l ++ [y], x < 256 := fun l y hy hl x hx => by
      rcases List.mem_append.mp hx with z | z
      · exact hl x z
      · rw [List.mem_singleton.mp z]; exact hy
    have i8 := bytesD_nat i4 l0
    have i9 := bytesD_nat (app _ 61 (by decide) (app _ 61 (by decide) (app _ (sg (s.lc % 4 * 16)) (sg_lt _) i4))) (by rw [List.length_append, List.length_append, List.length_append]; show _ + 1 + 1 + 1 ≤ lim; unfold lim; lia)
    have i10 := bytesD_nat (app _ 61 (by decide) (app _ (sg (s.lc % 16 * 4)) (sg_lt _) i4)) (by rw [List.length_append, List.length_append]; show _ + 1 + 1 ≤ lim; unfold lim; lia)
    have c61 : ((61 : Nat) : Int) = 61 := rfl
    simp only [List.map_append, List.map_cons, List.map_nil, c61] at i9 i10
    clear c61
    unfold b2U b2fin
    obtain q | q | q := i1
    · (simp (decide := true) only [ja,jb,jc,jd,jg,jh,ji,jj,jk,jo,jy,jB,jG,↓jI,↓jK,↓jL,kg,kB,kI,kJ,kK,kL,kQ,kR,kS,qG,qN,qO,qP,q9,yk,ym,fuelN,yo,yp,yr,yv,yy,yG,yH,yO,zc,zr,xd,xe,xy,xJ,xO,xW,xZ,reduceCtorEq,decide_false,↓reduceIte,wb,ww,Nat.reduceAdd,vO, *])
    · (simp (decide := true) only [ja,jb,jc,jd,jg,jh,ji,jj,jk,jo,jx,jy,jB,jG,↓jI,↓jK,↓jL,↓jM,j8,kf,kg,kB,kI,kJ,kK,kL,kQ,kR,kS,qG,qH,qN,qO,qP,qX,q9,List.length_map,yk,ym,fuelN,yo,yp,yr,yt,yv,yy,yF,yG,yH,yM,yO,zc,zo,zq,zr,xd,xe,xk,xu,xA,List.map_append,List.map_cons,List.map_nil,xJ,xO,xW,xZ,decide_eq_true,↓reduceIte,wb,ww,List.length_cons,List.length_nil,List.length_append,Nat.reduceAdd,vO,vT, *])
    · (simp (decide := true) only [ja,jb,jc,jd,jg,jh,ji,jj,jk,jo,jx,jy,jB,jG,↓jI,↓jK,↓jL,↓jM,j8,kf,kg,kB,kI,kJ,kK,kL,kQ,kR,kS,qG,qH,qN,qO,qP,qX,q9,List.length_map,yk,ym,fuelN,yo,yp,yr,yt,yv,yy,yF,yG,yH,yM,yO,zc,zo,zq,zr,xd,xe,xj,xt,xC,List.map_append,List.map_cons,List.map_nil,xJ,xO,xW,xZ,decide_false,decide_eq_true,↓reduceIte,wb,ww,List.length_cons,List.length_nil,List.length_append,Nat.reduceAdd,vO,vT, *])
/-! b64encode, b64decode -/
theorem w_ascii : (Str.ofString "ascii").cps.toList = wAscii := by decide +kernel
theorem mkTab_len (a b : List UInt8) : (mkTab a b).length = 256 := by unfold mkTab; rw [Array.length_toList]; exact tabA_size a b
theorem encodeD_ok {x : List Nat} (h : ∀ c ∈ x, c < 128) (hl : x.length ≤ lim) : encodeD [.str x, .str wAscii] = some (.bytes (x.map (·.toUInt8))) := by
  exact if_pos ⟨rfl, h, hl⟩
theorem maketransD_ok {a b : List UInt8} (h : a.length = b.length) : maketransD [.bytes a, .bytes b] = some (.bytes (mkTab a b)) := by
  exact if_pos h
theorem translateD_ok {x a b : List UInt8} (h : x.length ≤ lim) : translateD [.bytes x, .bytes (mkTab a b)] = some (.bytes (trans x (mkTab a b))) := by
  exact if_pos ⟨mkTab_len a b, h⟩
theorem trans_len (x t : List UInt8) : (trans x t).length = x.length := by unfold trans; rw [List.length_map]
theorem c_bytesFrom (n : Nat) (x : List Nat) (h : ∀ c ∈ x, c < 128) (hl : x.length ≤ lim) : (PT (n + 1)).fn (.ref 95) [.str x] [] = some (.bytes (x.map (·.toUInt8))) := by
  (refine (fn_df rfl rfl).trans ?_; refine run_ex fun sc b g1 g2 => ?_; (conv at g1 => (lhs; whnf)); (conv at g2 => (lhs; whnf)); subst g1 g2)
  have e1 := encodeD_ok h hl
  have e2 := w_ascii
  clear h
  (simp (decide := true) only [jb,jd,jg,jh,ji,jj,jy,jB,jF,jG,↓jH,j5,j6,j7,ku,qG,qN,qO,qP,q8,q9,yn,fuelN,yo,yr,yy,yG,yH,yO,zc,ze,zf,zq,xc,xK,xZ,rho0,bindsD,List.reverse_cons,List.reverse_nil,List.nil_append,List.cons_append,↓reduceIte,wa,wi,wn,wA,wP,wY,vK,vQ, *])
noncomputable def encB (b p : List UInt8) : List UInt8 := trans ((b2a b).map fun k => k.toUInt8) (mkTab [43, 47] p)
noncomputable def decS (x p : List Nat) : A2 := a2b (trans (x.map (·.toUInt8)) (mkTab (p.map (·.toUInt8)) [43, 47]))
noncomputable def decB (x p : List Nat) : List UInt8 := (decS x p).out.map fun k => k.toUInt8
theorem b2a_len (b : List UInt8) : (b2a b).length ≤ 2 * b.length + 3 := by
  have : ∀ (b : List UInt8) (k : Nat) (s : B2), B2I k s → B2I (k + b.length) (b.foldl b2st s) := by
    intro b
    induction b with
    | nil => intro k s h; exact h
    | cons c b ih => intro k s h; rw [List.foldl_cons, List.length_cons, show k + (b.length + 1) = k + 1 + b.length by omega]; exact ih _ _ (b2I_step h)
  obtain ⟨_, _, h, _⟩ := this b 0 ⟨[], 0, 0⟩ ⟨.inl rfl, by decide, Nat.le_refl _, fun x hx => (nomatch hx)⟩
  unfold b2a b2fin
  split
  · simp only [List.length_append, List.length_cons, List.length_nil]; omega
  split
  · simp only [List.length_append, List.length_cons, List.length_nil]; omega
  · omega
theorem c_encode (n : Nat) (b : List UInt8) (p q : UInt8) (hl : b.length ≤ 100000) : (PT (n + 3)).fn (.ref 160) [.bytes b, .bytes [p, q]] [] = some (.bytes (encB b [p, q])) := by
  (refine (fn_df rfl rfl).trans ?_; refine run_ex fun sc b g1 g2 => ?_; (conv at g1 => (lhs; whnf)); (conv at g2 => (lhs; whnf)); subst g1 g2)
  have e1 := c_b2a n b hl
  have hz : ((b2a b).map fun k => k.toUInt8).length ≤ lim := by rw [List.length_map]; have := b2a_len b; unfold lim; omega
  have e2 := translateD_ok (a := [43, 47]) (b := [p, q]) hz
  have e3 : maketransD [.bytes [43, 47], .bytes [p, q]] = some (.bytes (mkTab [43, 47] [p, q])) := maketransD_ok rfl
  have e4 : (2 : Nat) ≤ lim := by decide
  unfold encB
  clear hz
  (simp (decide := true) only [jb,jc,jd,jg,jh,ji,jj,jn,jq,jy,jB,jE,jG,↓jH,↓jI,↓jJ,j5,j6,j8,j9,kc,kv,kx,qk,qG,qN,qO,qP,qQ,q8,q9,yk,fuelN,yo,yp,yr,yv,yy,yz,yG,yK,yO,yT,zc,zd,ze,zf,zn,zq,zw,xc,xA,xH,xI,xJ,xL,xO,xU,xW,x6,Bool.not_false,rho0,bindsD,List.reverse_cons,List.reverse_nil,List.nil_append,List.cons_append,decide_eq_true,↓reduceIte,wa,wc,wp,wq,wC,wE,wI,wS,wY,List.length_cons,List.length_nil,Nat.reduceAdd,vx,vG,vO, *])
theorem c_decode (n : Nat) (x : List Nat) (p q : Nat) (h : ∀ c ∈ x, c < 128) (hp : p < 128) (hq : q < 128) (hl : x.length ≤ lim) (h1 : (decS x [p, q]).q ≠ 1) (h2 : (decS x [p, q]).q ≠ 0 → 4 ≤ (decS x [p, q]).q + (decS x [p, q]).pads) :
    (PT (n + 3)).fn (.ref 168) [.str x, .str [p, q]] [] = some (.bytes (decB x [p, q])) := by
  (refine (fn_df rfl rfl).trans ?_; refine run_ex fun sc b g1 g2 => ?_; (conv at g1 => (lhs; whnf)); (conv at g2 => (lhs; whnf)); subst g1 g2)
  have e1 := c_bytesFrom (n + 1) x h hl
  have e2 := c_bytesFrom (n + 1) [p, q] (fun c hc => by rcases List.mem_cons.mp hc with z | z; · omega
                                                        · rw [List.mem_singleton.mp z]; exact hq) (by show 2 ≤ lim; decide)
  have hz : (x.map (·.toUInt8)).length ≤ lim := by rw [List.length_map]; exact hl
  have e3 := translateD_ok (a := [p.toUInt8, q.toUInt8]) (b := [43, 47]) hz
  have e4 : maketransD [.bytes [p.toUInt8, q.toUInt8], .bytes [43, 47]] = some (.bytes (mkTab [p.toUInt8, q.toUInt8] [43, 47])) := maketransD_ok rfl
  have e5 : (2 : Nat) ≤ lim := by decide
  have e6 := c_a2b n _ (by rw [trans_len]; exact hz) h1 h2
  unfold decB decS
  clear h h1 h2 hz hp hq
  simp only [List.map_cons, List.map_nil] at e2 e6
  (simp (decide := true) only [ja,jb,jc,jd,jg,jh,ji,jj,jq,jy,jB,jE,jG,↓jH,↓jI,↓jJ,j5,j6,j7,j8,j9,kc,kd,kx,kQ,kR,qi,qj,qG,qN,qO,qP,qQ,q8,q9,yk,fuelN,yo,yr,yv,yy,yz,yG,yK,yO,yT,zc,zd,ze,zf,zn,zq,zw,xc,xA,List.map_cons,List.map_nil,xH,xJ,xL,xO,xU,xW,x6,Bool.not_false,rho0,bindsD,List.reverse_cons,List.reverse_nil,List.nil_append,List.cons_append,decide_eq_true,↓reduceIte,wa,wc,wp,wq,wC,wE,wI,wT,wY,List.length_cons,List.length_nil,Nat.reduceAdd,vm,vw,vG,vO, *])
/-! Whitespace -/
structure Ws where
  count : List Nat
  b : Nat
  n : Nat
  nt : Nat
noncomputable def grow (count : List Nat) (b : Nat) : List Nat := if count.length ≤ b then count ++ List.replicate (b - count.length + 1) 0 else count
noncomputable def bump (count : List Nat) (b : Nat) : List Nat := (grow count b).set b ((grow count b)[b]?.getD 0 + 1)
noncomputable def wsSt (s : Ws) (c : Nat) : Ws := if c = 32 then ⟨s.count, s.b + 1, s.n + 1, s.nt⟩ else ⟨bump s.count s.b, 0, s.n + 1, s.nt + 1⟩
noncomputable def isW (c : Nat) : Bool := c == 32 || c == 9
noncomputable def wsOf (x : List Nat) : Ws := (x.takeWhile isW).foldl wsSt ⟨[], 0, 0, 0⟩
noncomputable def natsD (l : List Nat) : List D := l.map fun k : Nat => D.int (k : Int)
noncomputable def wsF (x : List Nat) (w : Ws) : List (Str × D) := [("raw", .str x), ("n", .int (w.n : Int)), ("nt", .int (w.nt : Int)), ("norm", .tup [.tup (natsD w.count), .int (w.b : Int)]), ("is_simple", .bool (decide ((w.count.length : Int) ≤ 1)))]
noncomputable def wsD (x : List Nat) : D := .inst 83 (wsF x (wsOf x))
theorem natsD_len (l : List Nat) : (natsD l).length = l.length := List.length_map ..
theorem natsD_app (a b : List Nat) : natsD a ++ natsD b = natsD (a ++ b) := by unfold natsD; rw [List.map_append]
theorem idx_nats {l : List Nat} {b : Nat} (h : b < l.length) (hl : l.length ≤ lim) : idxD (.list (natsD l)) (b : Int) = some (.int ((l[b]?.getD 0 : Nat) : Int)) := by
  unfold idxD
  dsimp only
  rw [if_pos (show inB (b : Int) (natsD l).length = true from decide_eq_true (by rw [natsD_len]; lia))]
  unfold ix
  rw [if_neg (by lia), Int.toNat_natCast]
  unfold natsD
  rw [List.getElem?_map, List.getElem?_eq_getElem h]
  rfl
theorem idxT_nats {l : List Nat} {b : Nat} (h : b < l.length) (hl : l.length ≤ lim) : idxD (.tup (natsD l)) (b : Int) = some (.int ((l[b]?.getD 0 : Nat) : Int)) := by
  unfold idxD
  dsimp only
  rw [if_pos (show inB (b : Int) (natsD l).length = true from decide_eq_true (by rw [natsD_len]; lia))]
  unfold ix
  rw [if_neg (by lia), Int.toNat_natCast]
  unfold natsD
  rw [List.getElem?_map, List.getElem?_eq_getElem h]
  rfl
theorem inB_nat {b n : Nat} (h : b < n) (hl : n ≤ lim) : inB (b : Int) n = true := decide_eq_true (by lia)
theorem ix_nat {b n : Nat} : ix (b : Int) n = b := by unfold ix; rw [if_neg (by lia), Int.toNat_natCast]
theorem set_nats (l : List Nat) (b v : Nat) : (natsD l).set b (.int (v : Int)) = natsD (l.set b v) := by unfold natsD; rw [List.map_set]
theorem reps_nats (k : Nat) : reps k [D.int 0] = natsD (List.replicate k 0) := by
  unfold reps natsD
  induction k with
  | zero => rfl
  | succ k ih => rw [List.replicate_succ, List.flatten_cons, ih]; rfl
theorem grow_len {l : List Nat} {b : Nat} : b < (grow l b).length ∧ (grow l b).length = max l.length (b + 1) := by
  unfold grow
  split
  · rw [List.length_append, List.length_replicate]; lia
  · lia
noncomputable def wsU (s : Ws) (j : Option D) : List (Str × LV) := [("count", .ow (natsD s.count)), ("b", .fz (.int (s.b : Int))), ("n", .fz (.int (s.n : Int))), ("nt", .fz (.int (s.nt : Int))), ("ch", LJ j)]
noncomputable def WsJ (k : Nat) (s : Ws) : Prop := s.b ≤ k ∧ s.count.length ≤ k ∧ s.n = k ∧ s.nt ≤ k
theorem wsJ_step {k c : Nat} {s : Ws} (h : WsJ k s) : WsJ (k + 1) (wsSt s c) := by
  refine e0a4 (h) fun h1 h2 h3 h4 => ?_
  unfold wsSt
  split
  · exact ⟨by dsimp only; lia, by dsimp only; lia, by dsimp only; lia, by dsimp only; lia⟩
  · refine ⟨by dsimp only; lia, ?_, by dsimp only; lia, by dsimp only; lia⟩
    show (bump s.count s.b).length ≤ _
    unfold bump
    rw [List.length_set, grow_len.2]; lia
theorem c_ws (n : Nat) (x : List Nat) (hl : x.length ≤ 100000) : (PT (n + 1)).fn (.ref 83) [.str x] [] = some (wsD x) := by
  refine fn_cf rfl rfl (lays_nx fun sc b y g1 g2 => ?_)
  (conv at g1 => (lhs; whnf)); (conv at g2 => (lhs; whnf)); subst g1 g2
  have hl' : x.length ≤ lim := by unfold lim; lia
  (simp (decide := true) only [jb,jc,jg,ji,jj,jn,jo,jp,jq,jr,jt,ju,jz,jG,↓jH,j5,j6,kf,ku,kC,kE,kQ,kR,kS,kT,kU,kW,kY,qk,ql,qm,qn,qo,qp,qG,qL,qM,qN,qO,qR,fuelN,yo,yq,yr,yy,yA,yB,yC,yK,yM,yN,yQ,yR,yT,yU,yW,za,zb,zg,zh,zz,zQ,zR,zS,zT,zU,zV,zX,z0,xJ,x7,Bool.and_self,rho0,bindsD,bindsI,List.reverse_cons,List.reverse_nil,List.nil_append,decide_eq_true,↓reduceIte,wV,wZ,w4,vd,ve,vf,vg,vh,vi,List.length_cons,List.length_nil,Nat.reduceAdd,vj, *])
  refine nx_forB_p (fun c : Nat => D.str [c]) x isW wsSt wsU WsJ ⟨[], 0, 0, 0⟩ none ?_ ?_ ?_ ?_
  · unfold wsU natsD; (simp (decide := true) only [jl,kJ,kK,kL,kM,kN,kQ,kR,kS,kT,yp,xd,xe,xy,List.map_nil, *])
  · exact ⟨Nat.le_refl _, Nat.le_refl _, rfl, Nat.le_refl _⟩
  · intro k s j c hc hI
    refine ⟨fun _ => wsJ_step hI, ?_⟩
    refine e0a4 (hI) fun i1 i2 i3 i4 => ?_
    have hk : k < x.length := (List.getElem?_eq_some_iff.mp hc).1
    have r1 : s.count.length ≤ lim := by unfold lim; lia
    unfold wsU
    refine ⟨_, by (simp (decide := true) only [kJ,kK,kL,kM,kN,kQ,kR,kS,kT,qr,yp,zO,xd,xe, *]) <;> rfl, fun hp => ⟨some (.str [c]), ?_⟩, fun hp => ⟨some (.str [c]), ?_⟩⟩
    · by_cases c1 : c = 32
      · subst c1
        unfold wsSt
        (simp (decide := true) only [ja,jb,jc,jg,jh,ji,jj,jm,jo,jp,jq,jy,jG,↓jJ,↓jM,↓jN,↓jP,kJ,kK,kL,kM,kN,kQ,kR,kS,kT,qn,qo,qH,yk,fuelN,yp,yt,yv,yK,yM,yT,zq,zs,xd,xe,xx,xJ,xO,xX,x8,decide_eq_true,↓reduceIte,Nat.reduceAdd, *])
      · have c2 : c = 9 := by unfold isW at hp; simp at hp; lia
        subst c2
        have c3 : ¬ ([9] : List Nat) = [32] := by decide
        have y1 : binF .Sub (.int (s.b : Int)) (.int (s.count.length : Int)) = some (.int ((s.b : Int) - (s.count.length : Int))) := ub
        have y2 : binF .Add (.int ((s.b : Int) - (s.count.length : Int))) (.int 1) = some (.int ((s.b : Int) - (s.count.length : Int) + 1)) := vU
        have g1 := natsD_len
        have g2 := natsD_app
        have gl := grow_len (l := s.count) (b := s.b)
        have r2 : (grow s.count s.b).length ≤ lim := by rw [gl.2]; unfold lim; lia
        have y5 := idx_nats gl.1 r2
        have y6 := inB_nat gl.1 r2
        have y7 := @ix_nat
        have y8 := set_nats
        unfold wsSt bump
        by_cases q : s.count.length ≤ s.b
        · have q' : (s.count.length : Int) ≤ (s.b : Int) := by lia
          have y3 : binF .Mult (.list [.int 0]) (.int ((s.b : Int) - (s.count.length : Int) + 1)) = some (.list (natsD (List.replicate (s.b - s.count.length + 1) 0))) := by
            rw [bl_mul, if_pos (by simp only [List.length_cons, List.length_nil]; unfold lim; lia), ← reps_nats]
            congr 3; lia
          have y4 : s.count.length + (s.b - s.count.length + 1) ≤ lim := by unfold lim; lia
          have y9 : grow s.count s.b = s.count ++ List.replicate (s.b - s.count.length + 1) 0 := if_pos q
          have z : ∀ k : Nat, (List.replicate k (0 : Nat)).length = k := fun k => List.length_replicate
          clear hc i1 i2 i4 hk gl q
          rw [y9] at y5 y6 r2 ⊢
          rw [List.length_append, z] at y6 r2
          (simp (decide := true) only [ja,jb,jc,jg,jh,ji,jj,jm,jo,jp,jq,jv,jy,jG,↓jJ,↓jK,↓jL,↓jM,↓jN,↓jO,↓jP,j9,ka,kg,kC,kJ,kK,kL,kM,kN,kQ,kR,kS,kT,qm,qn,qo,qp,qG,qH,qL,qN,qO,qP,qV,q6,q9,yk,fuelN,yo,yp,yq,yr,yt,yv,yy,yA,yF,yG,yK,yM,yQ,yT,yX,yY,zq,zr,zs,zx,xd,xe,xx,xy,xJ,xM,xO,xS,xX,x6,x7,x8,x9,Bool.and_self,decide_false,decide_eq_true,↓reduceIte,wa,wc,wF,List.length_append,Nat.reduceAdd,vG, *])
        · have q' : ¬ (s.count.length : Int) ≤ (s.b : Int) := by lia
          have y9 : grow s.count s.b = s.count := if_neg q
          clear hc i1 i2 i4 hk gl q
          rw [y9] at y5 y6 r2 ⊢
          (simp (decide := true) only [ja,jb,jc,jg,jh,ji,jj,jm,jo,jp,jq,jv,jy,jG,↓jJ,↓jK,↓jL,↓jM,↓jN,↓jO,↓jP,j9,ka,kg,kC,kJ,kK,kL,kM,kN,kQ,kR,kS,kT,qn,qo,qp,qG,qH,qN,qO,qP,qV,q6,q9,yk,fuelN,yo,yp,yq,yr,yt,yv,yy,yF,yG,yK,yM,yT,yX,yY,zq,zr,zs,zx,xd,xe,xx,xy,xJ,xO,xS,xX,x6,x8,x9,Bool.and_self,decide_false,decide_eq_true,↓reduceIte,wa,wc,wF,Nat.reduceAdd,vG, *])
    · have c1 : ¬ ([c] : List Nat) = [32] := fun z => by
        have : c = 32 := by simpa using z
        subst this; exact absurd hp (by decide)
      have c2 : ¬ ([c] : List Nat) = [9] := fun z => by
        have : c = 9 := by simpa using z
        subst this; exact absurd hp (by decide)
      (simp (decide := true) only [jb,je,jh,ji,jj,jm,jo,jp,jy,jC,↓jJ,↓jK,↓jP,kJ,kK,kL,kM,kN,kQ,kR,kS,kT,yk,fuelN,yp,yv,zr,xd,xe,xO,xX,decide_false,↓reduceIte, *])
  · intro j hI
    have e : List.foldl wsSt ⟨[], 0, 0, 0⟩ (List.takeWhile isW x) = wsOf x := rfl
    rw [e] at hI ⊢
    clear e
    generalize wsOf x = w at *
    refine e0a4 (hI) fun i1 i2 i3 i4 => ?_
    have : (List.takeWhile isW x).length ≤ x.length := (List.takeWhile_sublist _).length_le
    have g1 := natsD_len
    have r1 : w.count.length ≤ lim := by unfold lim; lia
    unfold wsU wsF
    refine nextOk_of (by (simp (decide := true) only [ja,jb,jc,jg,ji,jj,jk,jo,jp,ju,jG,↓jL,↓jM,j5,kc,kd,kg,kh,kC,kE,kJ,kK,kL,kM,kN,kQ,kR,kS,kT,kY,qG,qJ,qM,qN,qO,qP,q9,fuelN,yo,yp,yq,yr,yv,yw,yy,yB,yG,yL,yM,yR,zg,zh,zX,zY,zZ,z0,xa,xd,xe,xJ,xR,Bool.and_self,decide_eq_true,↓reduceIte,wa,wb,wc,wx,wF,wO,w5,w6,w7,w9,List.length_cons,List.length_nil,Nat.reduceAdd,vG,vM, *]) <;> rfl) ?_
    clear i1 i2 i4 this
    (simp (decide := true) only [j5, *])
/-! Whitespace's methods -/
theorem mtm_longest_run_of_spaces (x : List Nat) : mtT TT (wsD x) (Str.ofString "longest_run_of_spaces") = some (.ref 45, [wsD x]) := rfl
theorem mtm_indent_level (x : List Nat) : mtT TT (wsD x) (Str.ofString "indent_level") = some (.ref 52, [wsD x]) := rfl
theorem mtm_equal (x : List Nat) : mtT TT (wsD x) (Str.ofString "equal") = some (.ref 59, [wsD x]) := rfl
theorem mtm_new (x : List Nat) : mtT TT (wsD x) (Str.ofString "not_equal_witness") = some (.ref 66, [wsD x]) := rfl
theorem atw_norm (x : List Nat) : attT TT (wsD x) (Str.ofString "norm") = some (.tup [.tup (natsD (wsOf x).count), .int ((wsOf x).b : Int)]) := rfl
theorem atw_nt (x : List Nat) : attT TT (wsD x) (Str.ofString "nt") = some (.int ((wsOf x).nt : Int)) := rfl
theorem wsJ_fold : ∀ (l : List Nat) (k : Nat) (s : Ws), WsJ k s → WsJ (k + l.length) (l.foldl wsSt s)
  | [], k, s, h => h
  | c :: l, k, s, h => by rw [List.foldl_cons, List.length_cons, show k + (l.length + 1) = k + 1 + l.length by lia]; exact wsJ_fold l _ _ (wsJ_step h)
theorem wsJ_of (x : List Nat) : WsJ (x.takeWhile isW).length (wsOf x) := by
  have := wsJ_fold (x.takeWhile isW) 0 ⟨[], 0, 0, 0⟩ ⟨Nat.le_refl _, Nat.le_refl _, rfl, Nat.le_refl _⟩
  rwa [Nat.zero_add] at this
theorem tw_len (x : List Nat) : (x.takeWhile isW).length ≤ x.length := (List.takeWhile_sublist _).length_le
theorem ws_bounds {x : List Nat} (hl : x.length ≤ 100000) : (wsOf x).b ≤ 100000 ∧ (wsOf x).count.length ≤ 100000 ∧ (wsOf x).n ≤ 100000 ∧ (wsOf x).nt ≤ 100000 := by
  refine e0a4 (wsJ_of x) fun h1 h2 h3 h4 => ?_
  have := tw_len x
  lia
noncomputable def longN (w : Ws) : Nat := max (w.count.length - 1) w.b
theorem max_long (c b : Nat) : (if (b : Int) > (c : Int) - 1 then (b : Int) else (c : Int) - 1) = ((max (c - 1) b : Nat) : Int) := by split <;> lia
theorem c_longest (n : Nat) (x : List Nat) (hl : x.length ≤ 100000) : (PT (n + 1)).fn (.ref 45) [wsD x] [] = some (.int ((longN (wsOf x) : Nat) : Int)) := by
  (refine (fn_df rfl rfl).trans ?_; refine run_ex fun sc b g1 g2 => ?_; (conv at g1 => (lhs; whnf)); (conv at g2 => (lhs; whnf)); subst g1 g2)
  refine e0a4 (ws_bounds hl) fun h1 h2 h3 h4 => ?_
  have e1 := atw_norm x
  have g1 := natsD_len
  have h5 : (wsOf x).count.length ≤ lim := by unfold lim; lia
  have h6 : (2 : Nat) ≤ lim := by decide
  have e2 : maxD [.int (((wsOf x).count.length : Int) - 1), .int ((wsOf x).b : Int)] = some (.int ((longN (wsOf x) : Nat) : Int)) := by
    exact congrArg (fun z => some (D.int z)) (max_long (wsOf x).count.length (wsOf x).b)
  clear h1 h2 h3 h4
  (simp (decide := true) only [jb,jc,jd,jg,ji,jj,jn,jr,jB,jG,↓jH,↓jI,↓jJ,j5,j8,j9,ku,kx,kQ,qj,qk,qG,qH,qN,qO,qP,qR,q9,fuelN,yo,yp,yr,yt,yy,yC,yG,yK,yM,yR,yU,zc,zQ,zR,zS,xc,ub,xJ,rho0,bindsD,List.reverse_cons,List.reverse_nil,List.nil_append,↓reduceIte,wa,wc,we,wH,wZ,List.length_cons,List.length_nil,Nat.reduceAdd,vG,vH, *])
theorem c_equal (n : Nat) (x y : List Nat) : (PT (n + 1)).fn (.ref 59) [wsD x, wsD y] [] = some (.bool (decide ((wsOf x).count = (wsOf y).count) && decide ((wsOf x).b = (wsOf y).b))) := by
  (refine (fn_df rfl rfl).trans ?_; refine run_ex fun sc b g1 g2 => ?_; (conv at g1 => (lhs; whnf)); (conv at g2 => (lhs; whnf)); subst g1 g2)
  have e1 := atw_norm x
  have e2 := atw_norm y
  have e3 : eqD 8 (.tup [.tup (natsD (wsOf x).count), .int ((wsOf x).b : Int)]) (.tup [.tup (natsD (wsOf y).count), .int ((wsOf y).b : Int)]) = some (decide ((wsOf x).count = (wsOf y).count) && decide ((wsOf x).b = (wsOf y).b)) := by
    show eqLD (eqD 7) [.tup (natsD (wsOf x).count), .int ((wsOf x).b : Int)] [.tup (natsD (wsOf y).count), .int ((wsOf y).b : Int)] = _
    have e4 : eqD 7 (.tup (natsD (wsOf x).count)) (.tup (natsD (wsOf y).count)) = some (decide ((wsOf x).count = (wsOf y).count)) := by
      show eqLD (eqD 6) _ _ = _
      unfold natsD
      refine eqLD_any (f := fun k : Nat => D.int (k : Int)) (fun a b => ?_) _ _
      rw [eqD_int]; congr 1; rw [Bool.eq_iff_iff]; simp; lia
    show o2 _ (eqD 7 (.tup (natsD (wsOf x).count)) (.tup (natsD (wsOf y).count))) (some (decide (((wsOf x).b : Int) = ((wsOf y).b : Int)) && true)) = _
    rw [e4]
    show some (_ && _) = _
    congr 2
    rw [Bool.and_true, Bool.eq_iff_iff]; simp; lia
  (simp (decide := true) only [jb,jd,jg,ji,jj,jB,↓jH,↓jI,j5,j6,qJ,qR,fuelN,yv,yw,yC,yL,zc,xc,xO,rho0,bindsD,List.reverse_cons,List.reverse_nil,List.nil_append,List.cons_append,wZ, *])
noncomputable def ilI (count : List Nat) (ts : Nat) : Nat := ((List.range (count.length - ts)).map fun i => (ts + i) / ts * (count[ts + i]?.getD 0)).sum
noncomputable def levI (w : Ws) (ts : Nat) : Nat := w.b + ts * (ilI w.count ts + w.nt)
theorem count_le : ∀ (l : List Nat) (k : Nat) (s : Ws), (∀ v ∈ s.count, v ≤ k) → ∀ v ∈ (l.foldl wsSt s).count, v ≤ k + l.length
  | [], k, s, h => h
  | c :: l, k, s, h => by
    rw [List.foldl_cons, List.length_cons, show k + (l.length + 1) = k + 1 + l.length by lia]
    refine count_le l _ _ fun v hv => ?_
    unfold wsSt at hv
    split at hv
    · have := h v hv; lia
    · have hv : v ∈ bump s.count s.b := hv
      unfold bump at hv
      have gr : ∀ v ∈ grow s.count s.b, v ≤ k := fun v hv => by
        unfold grow at hv
        split at hv
        · rcases List.mem_append.mp hv with z | z
          · exact h v z
          · rw [(List.mem_replicate.mp z).2]; lia
        · exact h v hv
      rcases List.mem_or_eq_of_mem_set hv with z | z
      · have := gr v z; lia
      · rw [z]
        have gl := grow_len (l := s.count) (b := s.b)
        rw [List.getElem?_eq_getElem gl.1]
        have := gr _ (List.getElem_mem gl.1)
        show _ + 1 ≤ _
        simp only [Option.getD_some]
        lia
theorem count_bound {x : List Nat} (hl : x.length ≤ 100000) {i : Nat} : ((wsOf x).count[i]?.getD 0) ≤ 100000 := by
  have h := count_le (x.takeWhile isW) 0 ⟨[], 0, 0, 0⟩ fun v hv => (nomatch hv)
  have := tw_len x
  generalize q : (wsOf x).count[i]? = r_; induction r_ using Option.casesOn with
  | none => show 0 ≤ _; lia
  | some v =>
    have := h v (List.mem_of_getElem? q)
    show v ≤ _; lia
theorem rng_nat (a b : Nat) : (rngL (a : Int) (b : Int) 1).map D.int = (List.range (b - a)).map fun i : Nat => D.int ((a + i : Nat) : Int) := by
  unfold rngL
  rw [if_pos rfl, List.map_map, show ((b : Int) - (a : Int)).toNat = b - a by lia]
  rfl
theorem foldl_sum (f : Nat → Nat) : ∀ (l : List Nat) (s : Nat), l.foldl (fun s i => s + f i) s = s + (l.map f).sum
  | [], s => by simp
  | a :: l, s => by rw [List.foldl_cons, foldl_sum f l, List.map_cons, List.sum_cons]; lia
noncomputable def ilU (s : Nat) (j : Option D) : List (Str × LV) := [("il", .fz (.int (s : Int))), ("i", LJ j)]
theorem big_val : big = 1267650600228229401496703205376 := rfl
theorem c_indent (n : Nat) (x : List Nat) (ts : Nat) (hl : x.length ≤ 100000) (h1 : 1 ≤ ts) (h2 : ts ≤ 200000) : (PT (n + 1)).fn (.ref 52) [wsD x, .int (ts : Int)] [] = some (.int ((levI (wsOf x) ts : Nat) : Int)) := by
  (refine (fn_df rfl rfl).trans ?_; refine run_ex fun sc b g1 g2 => ?_; (conv at g1 => (lhs; whnf)); (conv at g2 => (lhs; whnf)); subst g1 g2)
  refine e0a4 (ws_bounds hl) fun b1 b2 b3 b4 => ?_
  have e1 := atw_norm x
  have e2 := atw_nt x
  have g1 := natsD_len
  have h5 : (wsOf x).count.length ≤ lim := by unfold lim; lia
  have h6 : (2 : Nat) ≤ lim := by decide
  have h7 : (-1000000 : Int) ≤ (ts : Int) ∧ (ts : Int) ≤ 1000000 ∧ (-1000000 : Int) ≤ ((wsOf x).count.length : Int) ∧ ((wsOf x).count.length : Int) ≤ 1000000 := by lia
  have h8 := rng_nat ts (wsOf x).count.length
  (simp (decide := true) only [jb,jc,jg,ji,jj,jn,jq,jr,jz,jG,↓jH,↓jI,↓jJ,j5,j6,kc,kd,kv,kA,kQ,kR,kS,qk,ql,qm,qG,qN,qO,qP,qR,q9,fuelN,yo,yr,yy,yC,yG,yK,yM,yR,yS,yT,yU,za,zb,zx,zQ,zR,zS,xJ,x6,rho0,bindsD,List.reverse_cons,List.reverse_nil,List.nil_append,List.cons_append,↓reduceIte,wa,wb,wc,wv,wH,wM,wX,wZ,List.length_cons,List.length_nil,Int.reduceNeg,Nat.reduceAdd,and_self,vG,vL, *])
  refine outD_of (nx_forU (fun i : Nat => D.int ((ts + i : Nat) : Int)) (List.range ((wsOf x).count.length - ts)) (fun s i => s + (ts + i) / ts * ((wsOf x).count[ts + i]?.getD 0)) ilU (fun k s => s ≤ k * (200000 * 100000)) 0 none ?_ (Nat.zero_le _) ?_ ?_)
  · unfold ilU; (simp (decide := true) only [jl,kJ,kK,kQ,yp,xd,xe,xy, *])
  · intro k s j i hi hs
    have hi' : i < (wsOf x).count.length - ts := by
      have := List.mem_of_getElem? hi
      simpa using this
    have q1 : (ts + i) / ts ≤ 200000 := Nat.le_trans (Nat.div_le_self _ _) (by lia)
    have q2 := count_bound hl (i := ts + i)
    refine ⟨?_, ?_⟩
    · have := Nat.mul_le_mul q1 q2
      show s + _ ≤ _
      rw [Nat.add_mul]; lia
    · have y1 := n_div (a := ts + i) (k := ts) (by lia) (by lia)
      have y2 := idxT_nats (l := (wsOf x).count) (b := ts + i) (by lia) h5
      have y3 := n_mul (a := (ts + i) / ts) (k := (wsOf x).count[ts + i]?.getD 0) (by rw [big_val]; lia) (by rw [big_val]; lia)
      clear q1 q2 hi hi' hs h1 h2 b1 b2 b3 b4 h7
      unfold ilU
      refine ⟨_, by (simp (decide := true) only [kJ,kK,kQ,qn,yp,zO,xd,xe, *]) <;> rfl, some (.int ((ts + i : Nat) : Int)), .inl ?_⟩
      (simp (decide := true) only [ja,jb,jc,jg,ji,jj,jm,jq,↓jI,↓jJ,↓jL,↓jM,kJ,kK,kQ,qm,qH,qV,fuelN,yp,yt,yF,yK,yM,yT,zs,xd,xe,xg,x8,Nat.reduceAdd, *])
  · intro j hs
    have e : List.foldl (fun s i => s + (ts + i) / ts * ((wsOf x).count[ts + i]?.getD 0)) 0 (List.range ((wsOf x).count.length - ts)) = ilI (wsOf x).count ts := by
      rw [foldl_sum]; unfold ilI; lia
    rw [e] at hs ⊢
    rw [List.length_range] at hs
    have y3 := n_mul (a := ts) (k := ilI (wsOf x).count ts + (wsOf x).nt) (by rw [big_val]; lia) (by rw [big_val]; lia)
    clear hs h1 h2 b1 b2 b3 b4 h7 e h8
    unfold ilU levI
    (simp (decide := true) only [jb,jd,jg,ji,jj,jk,jB,↓jH,↓jI,↓jK,↓jL,kJ,kK,kQ,qH,qR,fuelN,yp,yt,yC,yM,zc,xd,xe,xg,wZ,Nat.reduceAdd, *])
/-! the witnesses, less -/
noncomputable def T3n (p : Nat × Nat × Nat) : D := .tup [.int (p.1 : Int), .int (p.2.1 : Int), .int (p.2.2 : Int)]
noncomputable def topN (x y : List Nat) : Nat := max (longN (wsOf x)) (longN (wsOf y)) + 1
noncomputable def witN (p : Nat → Nat → Bool) (x y : List Nat) : List (Nat × Nat × Nat) := ((List.range (topN x y)).filter fun i => p (levI (wsOf x) (i + 1)) (levI (wsOf y) (i + 1))).map fun i => (i + 1, levI (wsOf x) (i + 1), levI (wsOf y) (i + 1))
theorem foldl_filter {α β : Type} (p : α → Bool) (g : α → β) : ∀ (l : List α) (s : List β), l.foldl (fun s i => if p i = true then s ++ [g i] else s) s = s ++ (l.filter p).map g
  | [], s => by simp
  | a :: l, s => by
    rw [List.foldl_cons, foldl_filter p g l]
    by_cases h : p a = true
    · rw [if_pos h, List.filter_cons_of_pos h, List.map_cons, List.append_assoc]; rfl
    · rw [if_neg h, List.filter_cons_of_neg h]
theorem rng_1 (b : Nat) : (rngL 1 (b : Int) 1).map D.int = (List.range (b - 1)).map fun i : Nat => D.int ((i + 1 : Nat) : Int) := by
  have := rng_nat 1 b
  rw [show ((1 : Nat) : Int) = 1 from rfl] at this
  rw [this]
  refine List.map_congr_left fun i _ => ?_
  rw [Nat.add_comm]
theorem long_le {x : List Nat} (hl : x.length ≤ 100000) : longN (wsOf x) ≤ 100000 := by
  refine e0a4 (ws_bounds hl) fun h1 h2 h3 h4 => ?_
  unfold longN; lia
theorem max2_nat (a b : Nat) : maxD [.int (a : Int), .int (b : Int)] = some (.int ((max a b : Nat) : Int)) := by
  have : (if (b : Int) > (a : Int) then (b : Int) else (a : Int)) = ((max a b : Nat) : Int) := by split <;> lia
  exact congrArg (fun z => some (D.int z)) this
noncomputable def witU (s : List (Nat × Nat × Nat)) (j : Option D) : List (Str × LV) := [("a", .ow (s.map T3n)), ("ts", LJ j)]
theorem c_new (n : Nat) (x y : List Nat) (hx : x.length ≤ 100000) (hy : y.length ≤ 100000) : (PT (n + 2)).fn (.ref 66) [wsD x, wsD y] [] = some (.list ((witN (fun a b => decide (a ≠ b)) x y).map T3n)) := by
  (refine (fn_df rfl rfl).trans ?_; refine run_ex fun sc b g1 g2 => ?_; (conv at g1 => (lhs; whnf)); (conv at g2 => (lhs; whnf)); subst g1 g2)
  have m1 := mtm_longest_run_of_spaces
  have m2 := mtm_indent_level
  have e1 := c_longest n x hx
  have e2 := c_longest n y hy
  have b1 := long_le hx
  have b2 := long_le hy
  have e3 := max2_nat
  have h9 : max (longN (wsOf x)) (longN (wsOf y)) + 1 = topN x y := rfl
  have h7 : topN x y + 1 ≤ 200000 := by lia
  have h7a : (-1000000 : Int) ≤ ((topN x y + 1 : Nat) : Int) := by lia
  have h7b : ((topN x y + 1 : Nat) : Int) ≤ 1000000 := by lia
  have h8 := rng_1 (topN x y + 1)
  rw [show topN x y + 1 - 1 = topN x y by lia] at h8
  clear b1 b2
  (simp (decide := true) only [jb,jc,jg,ji,jj,jn,jo,jq,jz,jG,↓jH,↓jI,↓jJ,j5,j6,ka,kc,kv,kz,kQ,kR,qk,ql,qG,qH,qL,qN,qO,qP,q8,q9,fuelN,yo,yr,yt,yy,yA,yG,yK,yM,yQ,yS,yT,za,zb,ze,zf,zs,zz,xx,xJ,x7,x8,rho0,bindsD,List.reverse_cons,List.reverse_nil,List.nil_append,List.cons_append,↓reduceIte,wa,wb,we,wv,wM,wX,wY,Int.reduceNeg,Nat.reduceAdd,and_self,vH,vL, *])
  refine outD_of (nx_forU (fun i : Nat => D.int ((i + 1 : Nat) : Int)) (List.range (topN x y)) (fun s i => if (fun i => decide (levI (wsOf x) (i + 1) ≠ levI (wsOf y) (i + 1))) i = true then s ++ [(fun i => (i + 1, levI (wsOf x) (i + 1), levI (wsOf y) (i + 1))) i] else s) witU (fun k s => s.length ≤ k) [] none ?_ (Nat.le_refl _) ?_ ?_)
  · unfold witU; (simp (decide := true) only [jl,kI,kJ,kQ,yp,xd,xe,List.map_nil, *])
  · intro k s j i hi hs
    have hi' : i < topN x y := by
      have := List.mem_of_getElem? hi
      simpa using this
    have hk : k < topN x y := by
      have := (List.getElem?_eq_some_iff.mp hi).1
      simpa using this
    have hl : s.length ≤ lim := by unfold lim; lia
    have y1 := c_indent n x (i + 1) hx (by lia) (by lia)
    have y2 := c_indent n y (i + 1) hy (by lia) (by lia)
    have h3 : (3 : Nat) ≤ lim := by decide
    refine ⟨?_, _, by unfold witU; (simp (decide := true) only [kI,kJ,kQ,qm,yp,zO,xd,xe, *]) <;> rfl, some (.int ((i + 1 : Nat) : Int)), .inl ?_⟩
    · dsimp only
      split
      · rw [List.length_append]; show _ + 1 ≤ _; lia
      · lia
    · clear hi hi' hk hs h7 h7a h7b h8 h9 e1 e2 e3
      unfold witU T3n
      by_cases q : levI (wsOf x) (i + 1) ≠ levI (wsOf y) (i + 1)
      · have q' : ¬ (((levI (wsOf x) (i + 1) : Nat) : Int) = ((levI (wsOf y) (i + 1) : Nat) : Int)) := by lia
        have q2 : decide (levI (wsOf x) (i + 1) ≠ levI (wsOf y) (i + 1)) = true := decide_eq_true q
        clear q
        (simp (decide := true) only [ja,jb,jc,jg,jh,ji,jj,jm,jo,jx,jy,↓jH,↓jI,↓jL,j8,kI,kJ,kQ,qM,qN,qO,qP,q8,List.length_map,yk,fuelN,yp,yv,yy,yB,yR,ze,zf,zn,zo,zq,xd,xe,List.map_append,List.map_cons,List.map_nil,xP,xW,Bool.not_false,List.nil_append,List.cons_append,decide_false,↓reduceIte,wY,Nat.reduceAdd, *])
      · have q' : ((((levI (wsOf x) (i + 1) : Nat) : Int) = ((levI (wsOf y) (i + 1) : Nat) : Int))) := by lia
        have q2 : decide (levI (wsOf x) (i + 1) ≠ levI (wsOf y) (i + 1)) = false := decide_eq_false q
        clear q
        (simp (decide := true) only [ja,jb,jc,jh,ji,jj,jm,jo,jy,↓jH,↓jI,↓jL,kI,kJ,kQ,qN,qO,qP,q8,yk,fuelN,yp,yv,yy,ze,zf,zn,zr,xd,xe,xP,xW,Bool.not_true,reduceCtorEq,List.nil_append,List.cons_append,decide_eq_true,↓reduceIte,wY,Nat.reduceAdd, *])
  · intro j hs
    rw [foldl_filter (fun i => decide (levI (wsOf x) (i + 1) ≠ levI (wsOf y) (i + 1))) (fun i => (i + 1, levI (wsOf x) (i + 1), levI (wsOf y) (i + 1)))]
    clear hs h7 h7a h7b h8 h9 e1 e2 e3
    unfold witU witN
    (simp (decide := true) only [jb,jd,jg,ji,jj,jk,jo,jB,j8,kI,kJ,kQ,qG,fuelN,yo,yp,yq,yQ,zc,xd,xe,List.nil_append,↓reduceIte,Nat.reduceAdd, *])
/-! what law 2 takes of laws 1 and 4 -/
noncomputable def P2n (p : Nat × Nat) : D := .tup [.int (p.1 : Int), .int (p.2 : Int)]
noncomputable def numN (F : List Nat) : Nat := F.foldl (fun s f => 64 * s + f) 0
noncomputable def octF (m N : Nat) : List Nat × Nat := (List.range m).foldl (fun (s : List Nat × Nat) (_ : Nat) => (s.1 ++ [s.2 % 256], s.2 / 256)) ([], N)
noncomputable def octN (F : List Nat) (spare : Nat) : List Nat := (octF (F.length / 4 * 3) (numN F)).1.reverse.take (F.length / 4 * 3 - spare)
theorem cut_rev {l : List D} (h : l.length ≤ lim) : cutD (.list l) none none (some (-1)) = some (.list l.reverse) := by
  have e : cutL (.list l) none none (some (-1)) = some l.reverse := if_pos ⟨h, rfl, rfl, rfl⟩
  unfold cutD; rw [e]
theorem cut_take {α : Type} (l : List α) (k : Nat) : cut none (some (k : Int)) l = l.take k := by
  unfold cut
  simp only [Option.elim, List.drop_zero, Nat.sub_zero]
  unfold clipAt
  split
  · lia
  · rw [show (max 0 (min (k : Int) (l.length : Int))).toNat = min k l.length by omega]
    rcases Nat.le_total k l.length with h | h
    · rw [Nat.min_eq_left h]
    · rw [Nat.min_eq_right h, List.take_of_length_le (Nat.le_refl _), List.take_of_length_le h]
theorem cut_to {l : List D} (h : l.length ≤ lim) (k : Nat) : cutD (.list l) none (some (k : Int)) none = some (.list (l.take k)) := by
  have e : cutL (.list l) none (some (k : Int)) none = some (cut none (some (k : Int)) l) := if_pos h
  unfold cutD; rw [e, cut_take]
theorem cut_toS {l : List Nat} (h : l.length ≤ lim) (k : Nat) : cutD (.str l) none (some (k : Int)) none = some (.str (l.take k)) := by
  have e : cutS (.str l) none (some (k : Int)) none = some (.str (cut none (some (k : Int)) l)) := if_pos ⟨rfl, h⟩
  rw [cut_take] at e; exact e
theorem rng_0 (b : Nat) : (rngL 0 (b : Int) 1).map D.int = (List.range b).map fun i : Nat => D.int (i : Int) := by
  have := rng_nat 0 b
  rw [show ((0 : Nat) : Int) = 0 from rfl] at this
  rw [this]
  refine List.map_congr_left fun i _ => ?_
  rw [Nat.zero_add]
noncomputable def numU (s : Nat) (j : Option D) : List (Str × LV) := [("number", .fz (.int (s : Int))), ("figure", LJ j)]
noncomputable def octU (s : List Nat × Nat) (j : Option D) : List (Str × LV) := [("octets", .ow (natsD s.1)), ("number", .fz (.int (s.2 : Int))), ("place", LJ j)]
theorem c_octets (n : Nat) (F : List Nat) (spare : Nat) (hl : F.length ≤ 12) (hf : ∀ f ∈ F, f < 64) (hs : spare ≤ F.length / 4 * 3) : (PT (n + 1)).fn (.ref 182) [.list (natsD F), .int (spare : Int)] [] = some (.bytes ((octN F spare).map fun k => k.toUInt8)) := by
  (refine (fn_df rfl rfl).trans ?_; refine run_ex fun sc b g1 g2 => ?_; (conv at g1 => (lhs; whnf)); (conv at g2 => (lhs; whnf)); subst g1 g2)
  have g1 := natsD_len
  have r1 : F.length ≤ lim := by unfold lim; lia
  (simp (decide := true) only [jb,jc,jg,ji,jj,jn,jq,jz,jG,j5,j6,kv,kS,qk,qG,fuelN,yo,yq,yK,yM,yQ,yT,za,zb,zx,xJ,x6,rho0,bindsD,List.reverse_cons,List.reverse_nil,List.nil_append,List.cons_append,↓reduceIte,wU,Nat.reduceAdd, *])
  refine outD_of (nx_forU (fun k : Nat => D.int (k : Int)) F (fun s f => 64 * s + f) numU (fun k s => s < 64 ^ k) 0 none ?_ (by decide) ?_ ?_)
  · unfold numU; (simp (decide := true) only [jl,kH,kI,kR,kS,xd,xe,xy, *])
  · intro k s j f hf' hI
    have hk : k < F.length := (List.getElem?_eq_some_iff.mp hf').1
    have f64 := hf f (List.mem_of_getElem? hf')
    have p1 : 64 ^ k ≤ 64 ^ 12 := Nat.pow_le_pow_right (by decide) (by lia)
    have p2 : 64 ^ (k + 1) = 64 ^ k * 64 := Nat.pow_succ ..
    have p3 : 64 ^ 12 = 4722366482869645213696 := rfl
    refine ⟨by show 64 * s + f < _; rw [p2]; lia, ?_⟩
    have y1 : binF .Mult (.int 64) (.int (s : Int)) = some (.int ((64 * s : Nat) : Int)) := n_mul (a := 64) (by rw [big_val]; decide) (by rw [big_val]; lia)
    clear hk f64 p1 p2 p3 hI hf'
    unfold numU
    refine ⟨_, by (simp (decide := true) only [kH,kI,kR,kS,ql,zO,xd,xe, *]) <;> rfl, some (.int (f : Int)), .inl ?_⟩
    (simp (decide := true) only [ja,jb,jc,jg,ji,jj,jm,jn,jq,jG,↓jJ,↓jK,kH,kI,kR,kS,qk,qH,fuelN,yt,yK,yM,yT,zs,xd,xe,xg,xJ,x8,Nat.reduceAdd, *])
  · intro j hI
    have e : List.foldl (fun s f => 64 * s + f) 0 F = numN F := rfl
    rw [e]
    clear e hI
    unfold octN
    generalize numN F = N
    have y1 : binF .FloorDiv (.int (F.length : Int)) (.int 4) = some (.int ((F.length / 4 : Nat) : Int)) := n_div (by decide) (by decide)
    have y2 : binF .Mult (.int ((F.length / 4 : Nat) : Int)) (.int 3) = some (.int ((F.length / 4 * 3 : Nat) : Int)) := n_mul (k := 3) (by rw [big_val]; lia) (by rw [big_val]; decide)
    have h7 : (-1000000 : Int) ≤ ((F.length / 4 * 3 : Nat) : Int) ∧ ((F.length / 4 * 3 : Nat) : Int) ≤ 1000000 := by lia
    have h8 := rng_0 (F.length / 4 * 3)
    unfold numU
    generalize hm : F.length / 4 * 3 = m at *
    have hm9 : m ≤ 9 := by lia
    (simp (decide := true) only [jb,jc,jg,ji,jj,jk,jn,jo,jq,jz,jG,↓jH,kc,kd,kA,kH,kI,kQ,kR,kS,qm,qG,qH,qL,qN,qO,qP,q9,fuelN,yo,yr,yt,yy,yA,yG,yK,yQ,yS,yT,za,zb,zz,xd,xe,xJ,x7,↓reduceIte,wa,wb,wc,wv,wF,wL,wX,Int.reduceNeg,Nat.reduceAdd,and_self,vG,vL, *])
    refine nx_forU (fun i : Nat => D.int (i : Int)) (List.range m) (fun (s : List Nat × Nat) (_ : Nat) => (s.1 ++ [s.2 % 256], s.2 / 256)) octU (fun k s => s.1.length = k ∧ ∀ x ∈ s.1, x < 256) ([], N) none ?_ ⟨rfl, fun x hx => (nomatch hx)⟩ ?_ ?_
    · unfold octU natsD; (simp (decide := true) only [jl,kH,kJ,kK,kQ,kS,yp,xd,xe,List.map_nil, *])
    · intro k s j' i hi hI
      have hk : k < m := by
        have := (List.getElem?_eq_some_iff.mp hi).1
        simpa using this
      obtain ⟨hI1, hI2⟩ := hI
      refine ⟨⟨by rw [List.length_append, hI1]; rfl, fun x hx => ?_⟩, ?_⟩
      · rcases List.mem_append.mp hx with z | z
        · exact hI2 x z
        · rw [List.mem_singleton.mp z]; exact Nat.mod_lt _ (by decide)
      · have z1 : binF .Mod (.int (s.2 : Int)) (.int 256) = some (.int ((s.2 % 256 : Nat) : Int)) := n_mod (by decide)
        have z2 : binF .FloorDiv (.int (s.2 : Int)) (.int 256) = some (.int ((s.2 / 256 : Nat) : Int)) := n_div (by decide) (by decide)
        have r2 : s.1.length ≤ lim := by unfold lim; lia
        have z3 : natsD s.1 ++ [D.int ((s.2 % 256 : Nat) : Int)] = natsD (s.1 ++ [s.2 % 256]) := by rw [← natsD_app]; rfl
        clear hI1 hI2 hk hi h7 h8 hm9 hm hl hf hs y1 y2
        unfold octU
        refine ⟨_, by (simp (decide := true) only [kH,kJ,kK,kQ,kS,qn,yp,zO,xd,xe, *]) <;> rfl, some (.int (i : Int)), .inl ?_⟩
        (simp (decide := true) only [ja,jb,jc,jg,ji,jj,jk,jm,jo,jq,jx,jG,↓jJ,j9,kH,kJ,kK,kQ,kS,qk,qH,fuelN,yp,yt,yK,yM,yT,zo,zs,xd,xe,xJ,x8,↓reduceIte,Nat.reduceAdd, *])
    · intro j' hI
      have e : List.foldl (fun (s : List Nat × Nat) (_ : Nat) => (s.1 ++ [s.2 % 256], s.2 / 256)) ([], N) (List.range m) = octF m N := rfl
      rw [e, List.length_range] at hI
      rw [e]
      clear e
      generalize octF m N = s at *
      obtain ⟨hI1, hI2⟩ := hI
      have r2 : s.1.length ≤ lim := by unfold lim; lia
      have z1 : binF .Sub (.int (m : Int)) (.int (spare : Int)) = some (.int ((m - spare : Nat) : Int)) := by
        have : (m : Int) - (spare : Int) = ((m - spare : Nat) : Int) := by lia
        rw [ub, this]
      have z2 : cutD (.list (natsD s.1)) none none (some (-1)) = some (.list (natsD s.1.reverse)) := by
        rw [cut_rev (by rw [natsD_len]; exact r2)]; unfold natsD; rw [List.map_reverse]
      have z3 : cutD (.list (natsD s.1.reverse)) none (some ((m - spare : Nat) : Int)) none = some (.list (natsD (s.1.reverse.take (m - spare)))) := by
        rw [cut_to (by rw [natsD_len, List.length_reverse]; exact r2)]; unfold natsD; rw [List.map_take]
      have z4 : bytesD [.list (natsD (s.1.reverse.take (m - spare)))] = some (.bytes ((s.1.reverse.take (m - spare)).map fun k => k.toUInt8)) :=
        bytesD_nat (fun x hx => hI2 x (List.mem_reverse.mp (List.mem_of_mem_take hx))) (by rw [List.length_take, List.length_reverse]; omega)
      have r3 : m ≤ lim := by unfold lim; lia
      have z5 : unD .USub (.int 1) = some (.int (-1)) := id rfl
      clear hI2 h7 h8 hm9 hm hl hf hs y1 y2
      unfold octU
      (simp (decide := true) only [jb,jd,jg,ji,jj,jk,jo,jB,jG,↓jI,↓jL,kd,ke,kA,kH,kJ,kK,kQ,kS,qG,qH,qI,qN,qO,qP,qS,qT,qU,q9,fuelN,yo,yp,yr,yt,yu,yy,yD,yE,yG,yO,zc,xd,xe,xJ,↓reduceIte,wa,wb,wc,ww,wF,Int.reduceNeg,Nat.reduceAdd,vG,vO, *])
noncomputable def SGW : List Nat := [65, 66, 67, 68, 69, 70, 71, 72, 73, 74, 75, 76, 77, 78, 79, 80, 81, 82, 83, 84, 85, 86, 87, 88, 89, 90, 97, 98, 99, 100, 101, 102, 103, 104, 105, 106, 107, 108, 109, 110, 111, 112, 113, 114, 115, 116, 117, 118, 119, 120, 121, 122, 48, 49, 50, 51, 52, 53, 54, 55, 56, 57, 32, 9]
theorem w_sgw : (Str.ofString "ABCDEFGHIJKLMNOPQRSTUVWXYZabcdefghijklmnopqrstuvwxyz0123456789 \t").cps.toList = SGW := by decide +kernel
theorem w_eq : (Str.ofString "=").cps.toList = [61] := by decide +kernel
theorem w_nil : (Str.ofString "").cps.toList = [] := by decide +kernel
noncomputable def sgW (k : Nat) : Nat := SGW[k]?.getD 0
theorem idx_sgw {k : Nat} (h : k < 64) : idxD (.str SGW) (k : Int) = some (.str [sgW k]) := by
  have hl : SGW.length = 64 := by decide
  unfold idxD
  dsimp only
  rw [if_pos (show inB (k : Int) SGW.length = true from decide_eq_true (by rw [hl]; unfold lim; lia))]
  unfold ix sgW
  rw [if_neg (by lia), Int.toNat_natCast, List.getElem?_eq_getElem (by rw [hl]; exact h)]
  rfl
noncomputable def shownN (F : List Nat) (spare : Nat) : List Nat := (F.take (F.length - spare)).set (F.length - spare - 1) ((F.take (F.length - spare))[F.length - spare - 1]?.getD 0 / 4 ^ spare * 4 ^ spare)
noncomputable def lineN (F : List Nat) (spare : Nat) : List Nat := (shownN F spare).map sgW ++ List.replicate spare 61
theorem strs_map {α : Type} (g : α → List Nat) : ∀ l : List α, strs? (l.map fun a => D.str (g a)) = some (l.map g)
  | [] => rfl
  | a :: l => by show o2 (fun a l => some (a :: l)) (some (g a)) (strs? (l.map fun a => D.str (g a))) = _; rw [strs_map g l]; rfl
theorem flatten_one (g : Nat → Nat) : ∀ l : List Nat, (l.map fun k => [g k]).flatten = l.map g
  | [] => rfl
  | a :: l => by rw [List.map_cons, List.flatten_cons, flatten_one g l]; rfl
theorem joinD_ok {l : List D} {xs : List (List Nat)} (h : strs? l = some xs) (hl : xs.flatten.length ≤ lim) : joinD [.str [], .list l] = some (.str xs.flatten) := by
  show o1 _ (strs? l) = _
  rw [h]; exact if_pos ⟨rfl, hl⟩
theorem idx_last {l : List Nat} (h : 0 < l.length) (hl : l.length ≤ lim) : idxD (.list (natsD l)) (-1) = some (.int ((l[l.length - 1]?.getD 0 : Nat) : Int)) := by
  unfold idxD
  dsimp only
  rw [if_pos (show inB (-1) (natsD l).length = true from decide_eq_true (by rw [natsD_len]; lia))]
  unfold ix
  rw [if_pos (by decide), natsD_len, show (-1 + (l.length : Int)).toNat = l.length - 1 by lia]
  unfold natsD
  rw [List.getElem?_map, List.getElem?_eq_getElem (by lia)]
  rfl
theorem shown_lt {F : List Nat} {spare : Nat} (hf : ∀ f ∈ F, f < 64) : ∀ f ∈ shownN F spare, f < 64 := fun f h => by
  unfold shownN at h
  rcases List.mem_or_eq_of_mem_set h with z | z
  · exact hf f (List.mem_of_mem_take z)
  · rw [z]
    refine Nat.lt_of_le_of_lt (Nat.div_mul_le_self _ _) ?_
    generalize q : (F.take (F.length - spare))[F.length - spare - 1]? = r_; induction r_ using Option.casesOn with
    | none => show 0 < 64; decide
    | some v => exact hf v (List.mem_of_mem_take (List.mem_of_getElem? q))
theorem cGo_nats {V : EvF} {scope : Scope} {ρ₀ : Rho} {target elt : Expr} (g : Nat → D) (xs : List Nat) (h : ∀ a, a ∈ xs → ∃ ρ₁, bindT scope ρ₀ target (.int (a : Int)) = some ρ₁ ∧ V.e scope ρ₁ elt = some (g a)) : cGo V scope ρ₀ target [] elt (natsD xs) = some (.list (xs.map g)) :=
  cGo_map (fun k : Nat => D.int (k : Int)) g xs h
theorem repsC (k c : Nat) : reps k [c] = List.replicate k c := by
  unfold reps
  induction k with
  | zero => rfl
  | succ k ih => rw [List.replicate_succ, List.flatten_cons, ih]; rfl
theorem s_mul {c k : Nat} (h : k ≤ 1000) : binF .Mult (.str [c]) (.int (k : Int)) = some (.str (List.replicate k c)) := by
  rw [bs_mul, if_pos (by rw [Int.toNat_natCast, List.length_cons, List.length_nil]; unfold lim; lia), Int.toNat_natCast, repsC]
theorem c_line (n : Nat) (F : List Nat) (spare : Nat) (hl : F.length ≤ 12) (hf : ∀ f ∈ F, f < 64) (hs : spare ≤ 2) (hs' : spare < F.length) : (PT (n + 1)).fn (.ref 187) [.list (natsD F), .int (spare : Int)] [] = some (.str (lineN F spare)) := by
  (refine (fn_df rfl rfl).trans ?_; refine run_ex fun sc b g1 g2 => ?_; (conv at g1 => (lhs; whnf)); (conv at g2 => (lhs; whnf)); subst g1 g2)
  have g1 := natsD_len
  have r1 : F.length ≤ lim := by unfold lim; lia
  have w1 := w_sgw
  have w2 := w_eq
  have w3 := w_nil
  have z1 : binF .Sub (.int (F.length : Int)) (.int (spare : Int)) = some (.int ((F.length - spare : Nat) : Int)) := by
    have : (F.length : Int) - (spare : Int) = ((F.length - spare : Nat) : Int) := by lia
    rw [ub, this]
  have z3 : cutD (.list (natsD F)) none (some ((F.length - spare : Nat) : Int)) none = some (.list (natsD (F.take (F.length - spare)))) := by
    rw [cut_to (by rw [natsD_len]; exact r1)]; unfold natsD; rw [List.map_take]
  have tl : (F.take (F.length - spare)).length = F.length - spare := by rw [List.length_take]; lia
  have z4 := idx_last (l := F.take (F.length - spare)) (by rw [tl]; lia) (by rw [tl]; lia)
  rw [tl] at z4
  have z5 : unD .USub (.int 1) = some (.int (-1)) := id rfl
  have z6 : binF .Pow (.int 4) (.int (spare : Int)) = some (.int ((4 ^ spare : Nat) : Int)) := by
    rw [ua, if_pos (by lia), Int.toNat_natCast, Int.natCast_pow]; rfl
  have hp : 0 < 4 ^ spare ∧ 4 ^ spare ≤ 16 := by
    obtain q | q | q : spare = 0 ∨ spare = 1 ∨ spare = 2 := by lia
    all_goals (subst q; decide)
  have sl := shown_lt (spare := spare) hf
  unfold shownN at sl
  generalize hv : (F.take (F.length - spare))[F.length - spare - 1]?.getD 0 = v at *
  have hv64 : v < 64 := by
    rw [← hv]
    generalize q : (F.take (F.length - spare))[F.length - spare - 1]? = r_; induction r_ using Option.casesOn with
    | none => show 0 < 64; decide
    | some v => exact hf v (List.mem_of_mem_take (List.mem_of_getElem? q))
  have z7 : binF .FloorDiv (.int (v : Int)) (.int ((4 ^ spare : Nat) : Int)) = some (.int ((v / 4 ^ spare : Nat) : Int)) := n_div hp.1 (by lia)
  have z8 : binF .Mult (.int ((v / 4 ^ spare : Nat) : Int)) (.int ((4 ^ spare : Nat) : Int)) = some (.int ((v / 4 ^ spare * 4 ^ spare : Nat) : Int)) :=
    n_mul (by have := Nat.div_le_self v (4 ^ spare); rw [big_val]; lia) (by rw [big_val]; lia)
  have z9 : inB (-1) (F.length - spare) = true := decide_eq_true (by lia)
  have z10 : ix (-1) (F.length - spare) = F.length - spare - 1 := by unfold ix; rw [if_pos (by decide)]; lia
  have hS : shownN F spare = (F.take (F.length - spare)).set (F.length - spare - 1) (v / 4 ^ spare * 4 ^ spare) := by unfold shownN; rw [hv]
  have z11 : (natsD (F.take (F.length - spare))).set (F.length - spare - 1) (.int ((v / 4 ^ spare * 4 ^ spare : Nat) : Int)) = natsD (shownN F spare) := by rw [set_nats, hS]
  rw [← hS] at sl
  have hSl : (shownN F spare).length = F.length - spare := by rw [hS, List.length_set, tl]
  have r2 : F.length - spare ≤ lim := by lia
  have r3 : spare ≤ lim := by lia
  have r4 : F.length - spare + spare ≤ lim := by lia
  have z12 := s_mul (c := 61) (k := spare) (by lia)
  have z13 : joinD [.str [], .list ((shownN F spare).map fun k => D.str [sgW k])] = some (.str ((shownN F spare).map sgW)) := by
    have := joinD_ok (strs_map (fun k => [sgW k]) (shownN F spare)) (by rw [flatten_one, List.length_map, hSl]; exact r2)
    rwa [flatten_one] at this
  have z14 : (List.replicate spare 61).length = spare := List.length_replicate
  unfold lineN
  clear hv hv64 hf hp hS
  generalize shownN F spare = S at *
  (simp (decide := true) only [jb,jc,jg,ji,jj,jn,jo,jq,jv,jB,jG,↓jH,↓jI,↓jK,j5,j6,j7,j8,j9,kv,ky,kI,kQ,qk,ql,qG,qH,qI,qN,qO,qP,qS,qT,qU,qY,q7,q8,q9,ya,fuelN,yo,yp,yr,yt,yu,yy,yD,yE,yF,yG,yI,yJ,yK,yM,yN,yQ,yT,yX,yY,zx,zB,zC,zH,zJ,zK,zL,zM,zW,xJ,xK,x6,x7,x9,Bool.and_self,rho0,bindsD,List.reverse_cons,List.reverse_nil,List.nil_append,List.cons_append,decide_eq_true,↓reduceIte,wa,wc,wF,wU,Int.reduceNeg,Nat.reduceAdd,vG, *])
  rw [cGo_nats (fun k => D.str [sgW k]) S]
  · (simp (decide := true) only [jd,List.length_map,yt,yy,yN,zc,ze,zf,xc,xN,List.nil_append,List.cons_append,↓reduceIte,wa,wk,wy,wY, *])
  · intro a ha
    have y := idx_sgw (sl a ha)
    clear sl
    exact ⟨_, by (simp (decide := true) only [kQ,qj,zO, *]) <;> rfl, by (simp (decide := true) only [↓jI,↓jJ,qV,yF, *])⟩
theorem w_sp : (Str.ofString " ").cps.toList = [32] := by decide +kernel
theorem w_tb : (Str.ofString "\t").cps.toList = [9] := by decide +kernel
theorem w_st : (Str.ofString " \t").cps.toList = [32, 9] := by decide +kernel
noncomputable def intsL (l : List Int) : D := .list (l.map D.int)
noncomputable def padN (k : Nat) : Nat := (4 - k % 4) % 4
noncomputable def strsD (l : List (List Nat)) : List D := l.map D.str
noncomputable def bytsD (l : List (List UInt8)) : List D := l.map D.bytes
noncomputable def natssD (l : List (List Nat)) : List D := l.map fun x => D.list (natsD x)
theorem eqD_ints (xs ys : List Int) : eqD 8 (.list (xs.map D.int)) (.list (ys.map D.int)) = some (decide (xs = ys)) := eqD_list (fun a b => eqD_int 6 a b) xs ys
theorem eqD_strs (xs ys : List (List Nat)) : eqD 8 (.list (strsD xs)) (.list (strsD ys)) = some (decide (xs = ys)) := eqD_list (fun a b => eqD_str 6 a b) xs ys
theorem reps_rep {α β : Type} (f : α → β) (k : Nat) (a : α) : reps k [f a] = (List.replicate k a).map f := by
  unfold reps
  induction k with
  | zero => rfl
  | succ k ih => rw [List.replicate_succ, List.flatten_cons, ih, List.replicate_succ, List.map_cons]; rfl
section
variable {V : EvF} {scope : Scope} {ρ₀ : Rho} {target elt : Expr}
theorem cGo_g {α : Type} {items : List D} (f g : α → D) (xs : List α) (hi : items = xs.map f) (out : List D) (ho : xs.map g = out) (h : ∀ a, a ∈ xs → ∃ ρ₁, bindT scope ρ₀ target (f a) = some ρ₁ ∧ V.e scope ρ₁ elt = some (g a)) : cGo V scope ρ₀ target [] elt items = some (.list out) := by
  rw [hi, ← ho]; exact cGo_map f g xs h
end
theorem itD_bytes {x : List UInt8} (h : x.length ≤ lim) : itD (.bytes x) = some (x.map fun b => D.int (b.toNat : Int)) := if_pos h
theorem flatten_oneU {α : Type} (g : α → Nat) : ∀ l : List α, (l.map fun k => [g k]).flatten = l.map g
  | [] => rfl
  | a :: l => by rw [List.map_cons, List.flatten_cons, flatten_oneU g l]; rfl
set_option tactic.hygienic true in
theorem split_len (c : Nat) : ∀ x : List Nat, ∀ r ∈ splitAt c x, r.length ≤ x.length
  | [], r, h => by rw [splitAt, List.mem_singleton] at h; rw [h]; exact Nat.le_refl _
  | y :: x, r, h => by
    rw [splitAt] at h
    split at h
    · rcases List.mem_cons.mp h with z | z
      · rw [z]; exact Nat.zero_le _
      · have := split_len c x r z; rw [List.length_cons]; lia
    · split at h
      · rename_i p ps e
        rcases List.mem_cons.mp h with z | z
        · have := split_len c x p (by rw [e]; exact List.mem_cons_self)
          rw [z, List.length_cons, List.length_cons]; lia
        · have := split_len c x r (by rw [e]; exact List.mem_cons_of_mem _ z)
          rw [List.length_cons]; lia
      · rw [List.mem_singleton.mp h]; simp
set_option tactic.hygienic true in
theorem split_cnt (c : Nat) : ∀ x : List Nat, (splitAt c x).length ≤ x.length + 1
  | [] => Nat.le_refl _
  | y :: x => by
    have := split_cnt c x
    rw [splitAt]
    split
    · rw [List.length_cons, List.length_cons]; lia
    · split
      · rename_i p ps e
        rw [e, List.length_cons] at this
        rw [List.length_cons, List.length_cons]; lia
      · rw [List.length_cons, List.length_cons]; simp
theorem maxI_nat : ∀ (l : List Nat), l ≠ [] → maxI (l.map fun k : Nat => (k : Int)) = ((l.foldr max 0 : Nat) : Int)
  | [a], _ => by simp [maxI]
  | a :: b :: l, _ => by
    have ih := maxI_nat (b :: l) (List.cons_ne_nil _ _)
    have e : maxI ((a :: b :: l).map fun k : Nat => (k : Int)) = if maxI ((b :: l).map fun k : Nat => (k : Int)) > (a : Int) then maxI ((b :: l).map fun k : Nat => (k : Int)) else (a : Int) := rfl
    rw [e, ih, show (a :: b :: l).foldr max 0 = max a ((b :: l).foldr max 0) from rfl]
    generalize (b :: l).foldr max 0 = m
    split <;> lia
noncomputable def maxR (l : List Nat) : Nat := l.foldr max 0
theorem maxD_nats {l : List Nat} (h : l ≠ []) : maxD [.list (natsD l)] = some (.int ((maxR l : Nat) : Int)) := by
  show o1 _ (ints? (natsD l)) = _
  rw [show ints? (natsD l) = some (l.map fun k : Nat => (k : Int)) from ints_nat l]
  show (if _ then _ else none) = _
  rw [if_pos (by rw [List.length_map]; exact List.length_pos_iff.mpr h), maxI_nat l h]
  rfl
noncomputable def octB (F : List Nat) (sp : Nat) : List UInt8 := (octN F sp).map fun k => k.toUInt8
noncomputable def lineB (row : List UInt8) : List Nat := (encB row [32, 9]).map fun c => c.toNat
noncomputable def twN (x : List Nat) : List Nat := x.takeWhile isW
theorem idx_map {α : Type} (f : α → D) {xs : List α} {k : Nat} (d : α) (h : k < xs.length) (hl : xs.length ≤ lim) : idxD (.list (xs.map f)) (k : Int) = some (f (xs[k]?.getD d)) := by
  unfold idxD
  dsimp only
  rw [List.length_map, if_pos (inB_nat h hl), ix_nat, List.getElem?_map, List.getElem?_eq_getElem h]
  rfl
theorem le_maxR {l : List Nat} {x : Nat} (h : x ∈ l) : x ≤ maxR l := by
  unfold maxR
  induction l with
  | nil => cases h
  | cons a l ih =>
    rw [List.foldr_cons]
    rcases List.mem_cons.mp h with z | z
    · lia
    · have := ih z; lia
theorem chr_ok (c : UInt8) : chrD [.int (c.toNat : Int)] = some (.str [c.toNat]) := by
  have := UInt8.toNat_lt c
  show (if _ then _ else none) = _; rw [if_pos (by lia), Int.toNat_natCast]
noncomputable def runN (r : Nat) : List Nat := List.replicate r 32 ++ [9]
noncomputable def leadN (runs : List Nat) (bl : Nat) : List Nat := (runs.map runN).flatten ++ List.replicate bl 32
theorem c_lead (n : Nat) (runs : List Nat) (bl : Nat) (h1 : runs.length ≤ 1000) (h2 : ∀ r ∈ runs, r ≤ 100) (h3 : bl ≤ 100) (h4 : ((runs.map runN).flatten).length ≤ 1000) : (PT (n + 1)).fn (.ref 204) [.list (natsD runs), .int (bl : Int)] [] = some (.str (leadN runs bl)) := by
  (refine (fn_df rfl rfl).trans ?_; refine run_ex fun sc b g1 g2 => ?_; (conv at g1 => (lhs; whnf)); (conv at g2 => (lhs; whnf)); subst g1 g2)
  have r1 : (natsD runs).length ≤ lim := by rw [natsD_len]; unfold lim; lia
  have w0 := w_nil
  have w1 := w_sp
  have w2 := w_tb
  have e1 : binF .Mult (.str [32]) (.int (bl : Int)) = some (.str (List.replicate bl 32)) := s_mul (by lia)
  have e3 : joinD [.str [], .list (runs.map fun r => D.str (runN r))] = some (.str ((runs.map runN).flatten)) := joinD_ok (strs_map runN runs) (by unfold lim; lia)
  have e4 : binF .Add (.str ((runs.map runN).flatten)) (.str (List.replicate bl 32)) = some (.str (leadN runs bl)) := by
    show (if _ then _ else none) = _
    rw [if_pos (by rw [List.length_replicate]; unfold lim; lia)]; rfl
  clear h4 h3 h1
  (simp (decide := true) only [jb,jg,ji,jj,jB,jG,↓jH,↓jI,j5,j6,qH,qN,qO,qP,q8,ya,fuelN,yt,yI,yJ,zC,zH,zJ,zM,xK,rho0,bindsD,List.reverse_cons,List.reverse_nil,List.nil_append,List.cons_append,↓reduceIte,wU, *])
  rw [cGo_nats (fun r => D.str (runN r)) runs]
  · (simp (decide := true) only [jd,yt,yy,yN,zc,ze,zf,xc,List.nil_append,List.cons_append,wa,wk,wy,wY, *])
  · intro r hr
    have y1 : binF .Mult (.str [32]) (.int (r : Int)) = some (.str (List.replicate r 32)) := s_mul (by have := h2 r hr; lia)
    have y2 : binF .Add (.str (List.replicate r 32)) (.str [9]) = some (.str (runN r)) := by
      show (if _ then _ else none) = _
      rw [if_pos (by rw [List.length_replicate]; have := h2 r hr; unfold lim; show r + 1 ≤ _; lia)]; rfl
    clear hr h2 e3 e4 e1 r1
    exact ⟨_, by (simp (decide := true) only [qj,yp,zO, *]) <;> rfl, by (simp (decide := true) only [jG,↓jI,qH,yt,xK, *])⟩
theorem idxOf_ne {α : Type} [BEq α] [LawfulBEq α] {a r : α} {l : List α} (h : a ≠ r) : (a :: l).idxOf r = l.idxOf r + 1 := by rw [List.idxOf_cons, beq_eq_false_iff_ne.mpr h]; rfl
theorem take_idx (r : Nat) : ∀ l : List Nat, r ∈ l → l.take (l.idxOf r) ++ l.drop (l.idxOf r + 1) = l.erase r
  | [], h => no_mem h
  | a :: l, h => by
    by_cases e : a = r
    · subst e
      rw [List.idxOf_cons_self, List.erase_cons_head]; rfl
    · have hm : r ∈ l := (List.mem_cons.mp h).resolve_left fun z => e z.symm
      rw [idxOf_ne e, List.erase_cons_tail (by simpa using e), List.take_succ_cons, List.drop_succ_cons, List.cons_append, take_idx r l hm]
theorem cut_drop {α : Type} (l : List α) (k : Nat) : cut (some (k : Int)) none l = l.drop k := by
  unfold cut
  simp only [Option.elim]
  unfold clipAt
  split
  · lia
  · rw [show (max 0 (min (k : Int) (l.length : Int))).toNat = min k l.length by omega]
    rcases Nat.le_total k l.length with h | h
    · rw [Nat.min_eq_left h, List.take_of_length_le (by rw [List.length_drop]; exact Nat.le_refl _)]
    · rw [Nat.min_eq_right h, Nat.sub_self, List.take_zero, List.drop_of_length_le h]
theorem cut_from {l : List D} (h : l.length ≤ lim) (k : Nat) : cutD (.list l) (some (k : Int)) none none = some (.list (l.drop k)) := by
  have e : cutL (.list l) (some (k : Int)) none none = some (cut (some (k : Int)) none l) := if_pos h
  unfold cutD; rw [e, cut_drop]
theorem n_sub {a b : Nat} (h : b ≤ a) : binF .Sub (.int (a : Int)) (.int (b : Int)) = some (.int ((a - b : Nat) : Int)) := by
  have : (a : Int) - (b : Int) = ((a - b : Nat) : Int) := by lia
  rw [ub, this]
theorem lead_len : ∀ runs : List Nat, (∀ x ∈ runs, x ≤ 17) → ((runs.map runN).flatten).length ≤ runs.length * 18
  | [], _ => Nat.le_refl _
  | a :: l, q => by
    have h1 := lead_len l fun x hx => q x (List.mem_cons_of_mem _ hx)
    have h2 := q a List.mem_cons_self
    have h3 : (runN a).length = a + 1 := by unfold runN; rw [List.length_append, List.length_replicate]; rfl
    rw [List.map_cons, List.flatten_cons, List.length_append, List.length_cons, h3]
    lia
theorem c_leadS (n : Nat) (runs : List Nat) (bl : Nat) (h1 : runs.length ≤ 10) (h2 : ∀ r ∈ runs, r ≤ 17) (h3 : bl ≤ 17) : (PT (n + 1)).fn (.ref 204) [.list (natsD runs), .int (bl : Int)] [] = some (.str (leadN runs bl)) :=
  c_lead n runs bl (by lia) (fun r hr => Nat.le_trans (h2 r hr) (by decide)) (by lia) (by have := lead_len runs h2; lia)
section
variable {V : EvF} {scope : Scope} {ρ₀ : Rho} {target elt : Expr} {ifs : List Expr}
end
noncomputable def mxN (l : List Nat) : Nat := l.foldr (fun r m => max (r + 1) m) 0
noncomputable def cntN (l : List Nat) : List Nat := (List.range (mxN l)).map fun i => l.count i
/-! law 2: pairs, number -/
noncomputable def cd2 (x : Int) : Nat := (x % 1984).toNat
noncomputable def prSt (s : List (Nat × Nat) × Bool) (x : Int) : List (Nat × Nat) × Bool :=
  if cd2 x / 4 % 8 = 7 then (s.1 ++ [(cd2 x / 32, cd2 x / 32)], true)
  else (s.1 ++ [if s.2 = true then (62 + cd2 x % 2, 62 + cd2 x % 2) else (62 + cd2 x % 2, 62 + cd2 x / 2 % 2)], s.2)
noncomputable def prs2 (nums : List Int) : List (Nat × Nat) := (nums.foldl prSt ([], false)).1 ++ List.replicate (padN nums.length) (0, 0)
noncomputable def prU (s : List (Nat × Nat) × Bool) (j : Option D × Option D × Option D) : List (Str × LV) := [("pairs", .ow (s.1.map P2n)), ("ended", .fz (.bool s.2)), ("x", LJ j.1), ("code", LJ j.2.1), ("white", LJ j.2.2)]
theorem c_pairs (n : Nat) (nums : List Int) (hl : nums.length ≤ 8) : (PT (n + 1)).fn (.ref 175) [intsL nums] [] = some (.list ((prs2 nums).map P2n)) := by
  (refine (fn_df rfl rfl).trans ?_; refine run_ex fun sc b g1 g2 => ?_; (conv at g1 => (lhs; whnf)); (conv at g2 => (lhs; whnf)); subst g1 g2)
  have h2 : (2 : Nat) ≤ lim := by decide
  have h1 : (1 : Nat) ≤ lim := by decide
  have hnl : nums.length ≤ lim := by unfold lim; lia
  unfold intsL
  (simp (decide := true) only [jb,jc,jg,ji,jj,jn,jo,jq,jz,jG,j5,ku,kS,kT,qj,qk,qG,qL,qN,List.length_map,fuelN,yo,yq,yA,yK,yL,yQ,yT,za,zb,zx,zz,xI,x6,x7,rho0,bindsD,List.reverse_cons,List.reverse_nil,List.nil_append,↓reduceIte,wU,Nat.reduceAdd, *])
  refine outD_of (nx_forU D.int nums prSt prU (fun k s => s.1.length = k) ([], false) (none, none, none) ?_ rfl ?_ ?_)
  · unfold prU; (simp (decide := true) only [jl,kF,kH,kI,kJ,kK,kQ,kR,kS,kT,yp,xd,xe,List.map_nil, *])
  · intro k s j x hx hI
    have hk : k < nums.length := (List.getElem?_eq_some_iff.mp hx).1
    have r2 : s.1.length ≤ lim := by unfold lim; lia
    have h0 : 0 ≤ x % 1984 := Int.emod_nonneg _ (by decide)
    have y0 : binF .Mod (.int x) (.int 1984) = some (.int ((cd2 x : Nat) : Int)) := by
      rw [vX, if_pos (by decide)]
      exact congrArg (fun z => some (D.int z)) (Int.toNat_of_nonneg h0).symm
    have y1 : binF .Mod (.int ((cd2 x : Nat) : Int)) (.int 2) = some (.int ((cd2 x % 2 : Nat) : Int)) := n_mod (by decide)
    have y2 : binF .FloorDiv (.int ((cd2 x : Nat) : Int)) (.int 2) = some (.int ((cd2 x / 2 : Nat) : Int)) := n_div (by decide) (by decide)
    have y3 : binF .Mod (.int ((cd2 x / 2 : Nat) : Int)) (.int 2) = some (.int ((cd2 x / 2 % 2 : Nat) : Int)) := n_mod (by decide)
    have y4 : binF .FloorDiv (.int ((cd2 x : Nat) : Int)) (.int 4) = some (.int ((cd2 x / 4 : Nat) : Int)) := n_div (by decide) (by decide)
    have y5 : binF .Mod (.int ((cd2 x / 4 : Nat) : Int)) (.int 8) = some (.int ((cd2 x / 4 % 8 : Nat) : Int)) := n_mod (by decide)
    have y6 : binF .FloorDiv (.int ((cd2 x : Nat) : Int)) (.int 32) = some (.int ((cd2 x / 32 : Nat) : Int)) := n_div (by decide) (by decide)
    have y7 : ∀ a : Nat, binF .Add (.int 62) (.int (a : Int)) = some (.int ((62 + a : Nat) : Int)) := fun a => rfl
    have y8 : decide (((cd2 x / 4 % 8 : Nat) : Int) = 7) = decide (cd2 x / 4 % 8 = 7) := by rw [Bool.eq_iff_iff, decide_eq_true_iff, decide_eq_true_iff]; lia
    have i0 : ∀ a b : D, idxD (.tup [a, b]) 0 = some a := fun a b => rfl
    have hi : (prSt s x).1.length = k + 1 := by
      unfold prSt
      split <;> (rw [List.length_append, hI]; rfl)
    refine ⟨hi, _, by unfold prU; (simp (decide := true) only [kF,kH,kI,kJ,kK,kQ,kR,kS,kT,ql,yp,zO,xd,xe, *]) <;> rfl, (some (.int x), some (.int ((cd2 x : Nat) : Int)), some (P2n (62 + cd2 x % 2, 62 + cd2 x / 2 % 2))), .inl ?_⟩
    clear hi hI hx hk h0 hl hnl
    unfold prU prSt P2n
    generalize cd2 x = c at *
    by_cases q : c / 4 % 8 = 7
    · have q' : decide (c / 4 % 8 = 7) = true := decide_eq_true q
      rw [if_pos q]
      clear q
      (simp (decide := true) only [ja,jb,jc,jg,jh,ji,jj,jk,jm,jo,jq,jx,jy,jG,↓jK,↓jL,j6,kF,kH,kI,kJ,kK,kQ,kR,kS,kT,qk,qm,qn,qH,qM,qN,qO,List.length_map,yk,fuelN,yp,yt,yv,yy,yB,yK,yL,yM,yR,yT,zo,zq,zs,zx,zA,xd,xe,List.map_append,List.map_cons,List.map_nil,xI,xJ,xO,xW,x6,x8,↓reduceIte,Nat.reduceAdd, *])
    · have q' : decide (c / 4 % 8 = 7) = false := decide_eq_false q
      rw [if_neg q]
      clear q
      obtain ⟨l, b⟩ := s
      induction b using Bool.casesOn
      · (simp (decide := true) only [ja,jb,jc,jg,jh,ji,jj,jk,jm,jo,jq,jx,jy,jG,↓jJ,↓jK,↓jL,↓jM,j6,kF,kH,kI,kJ,kK,kQ,kR,kS,kT,qm,qn,qH,qK,qM,qN,qO,qW,List.length_map,yk,ym,fuelN,yp,yt,yv,yy,yB,yF,yH,yK,yM,yR,yT,zj,zo,zr,zs,zA,xd,xe,List.map_append,List.map_cons,List.map_nil,xJ,xO,xW,xZ,x6,x8,reduceCtorEq,↓reduceIte,Nat.reduceAdd, *])
      · (simp (decide := true) only [ja,jb,jc,jg,jh,ji,jj,jk,jm,jo,jq,jx,jy,jG,↓jJ,↓jK,↓jL,↓jM,j6,kF,kH,kI,kJ,kK,kQ,kR,kS,kT,qm,qn,qH,qK,qM,qN,qO,qW,List.length_map,yk,ym,fuelN,yp,yt,yv,yy,yB,yF,yH,yK,yM,yR,yT,zi,zo,zr,zs,zA,xd,xe,List.map_append,List.map_cons,List.map_nil,xJ,xO,xW,xZ,x6,x8,↓reduceIte,Nat.reduceAdd, *])
  · intro j hI
    have p2 : unD .USub (.int (nums.length : Int)) = some (.int (-(nums.length : Int))) := id rfl
    have p3 : binF .Mod (.int (-(nums.length : Int))) (.int 4) = some (.int ((padN nums.length : Nat) : Int)) := by
      have : -(nums.length : Int) % 4 = ((padN nums.length : Nat) : Int) := by unfold padN; lia
      rw [vX, if_pos (by decide), this]
    have e3 : padN nums.length ≤ 3 := by unfold padN; lia
    have p4 : binF .Mult (.list [.tup [.int 0, .int 0]]) (.int ((padN nums.length : Nat) : Int)) = some (.list ((List.replicate (padN nums.length) (0, 0)).map P2n)) := by
      rw [bl_mul, if_pos (by rw [Int.toNat_natCast, List.length_cons, List.length_nil]; unfold lim; lia), Int.toNat_natCast]
      exact congrArg (fun z => some (D.list z)) (reps_rep P2n (padN nums.length) (0, 0))
    have p5 : binF .Add (.list ((nums.foldl prSt ([], false)).1.map P2n)) (.list ((List.replicate (padN nums.length) (0, 0)).map P2n)) = some (.list ((prs2 nums).map P2n)) := by
      rw [xM, if_pos (by rw [List.length_map, List.length_map, List.length_replicate, hI]; unfold lim; lia), ← List.map_append]; rfl
    clear hI e3 hl
    unfold prU
    (simp (decide := true) only [jb,jd,jg,ji,jj,jk,jo,jB,jG,↓jH,↓jI,kc,kA,kF,kH,kI,kJ,kK,kQ,kR,kS,kT,qG,qH,qI,qL,qM,qN,qO,qP,q9,List.length_map,fuelN,yo,yp,yr,yt,yu,yy,yA,yB,yG,yQ,zc,xd,xe,xJ,↓reduceIte,wa,wc,wF,Nat.reduceAdd,vG, *])
noncomputable def nmU (s : Nat) (j : Option D) : List (Str × LV) := [("number", .fz (.int (s : Int))), ("octet", LJ j)]
noncomputable def num256 (row : List UInt8) : Nat := row.foldl (fun s b => 256 * s + b.toNat) 0
theorem c_number (n : Nat) (row : List UInt8) (hl : row.length ≤ 9) : (PT (n + 1)).fn (.ref 194) [.bytes row] [] = some (.int ((num256 row : Nat) : Int)) := by
  (refine (fn_df rfl rfl).trans ?_; refine run_ex fun sc b g1 g2 => ?_; (conv at g1 => (lhs; whnf)); (conv at g2 => (lhs; whnf)); subst g1 g2)
  have r1 : row.length ≤ lim := by unfold lim; lia
  have e2 := itD_bytes r1
  (simp (decide := true) only [jb,jc,jg,ji,jj,jn,jq,jz,jG,j5,ku,kQ,qj,qG,fuelN,yo,yq,yK,yM,yO,yT,za,zb,zx,xJ,x6,rho0,bindsD,List.reverse_cons,List.reverse_nil,List.nil_append,Nat.reduceAdd, *])
  refine outD_of (nx_forU (fun b : UInt8 => D.int (b.toNat : Int)) row (fun s b => 256 * s + b.toNat) nmU (fun k s => s < 256 ^ k) 0 none ?_ (by decide) ?_ ?_)
  · unfold nmU; (simp (decide := true) only [jl,kF,kH,kQ,yp,xd,xe,xy, *])
  · intro k s j b hb hI
    have hk : k < row.length := (List.getElem?_eq_some_iff.mp hb).1
    have b256 := UInt8.toNat_lt b
    have p1 : 256 ^ k ≤ 256 ^ 9 := Nat.pow_le_pow_right (by decide) (by lia)
    have p2 : 256 ^ (k + 1) = 256 ^ k * 256 := Nat.pow_succ ..
    have p3 : 256 ^ 9 = 4722366482869645213696 := rfl
    refine ⟨by show 256 * s + b.toNat < _; rw [p2]; lia, ?_⟩
    have y1 : binF .Mult (.int 256) (.int (s : Int)) = some (.int ((256 * s : Nat) : Int)) := n_mul (a := 256) (by rw [big_val]; decide) (by rw [big_val]; lia)
    clear hk b256 p1 p2 p3 hI hb
    unfold nmU
    refine ⟨_, by (simp (decide := true) only [kF,kH,kQ,qk,yp,zO,xd,xe, *]) <;> rfl, some (.int (b.toNat : Int)), .inl ?_⟩
    (simp (decide := true) only [ja,jb,jc,jg,ji,jj,jm,jq,jG,↓jI,↓jJ,kF,kH,kQ,qj,qH,fuelN,yp,yt,yK,yM,yT,zs,xd,xe,xg,xJ,x8,Nat.reduceAdd, *])
  · intro j hI
    clear hI hl e2 r1
    unfold nmU num256
    (simp (decide := true) only [jb,jd,jg,ji,jj,jk,jB,j6,kF,kH,kQ,qG,fuelN,yo,yp,yq,yM,zc,xd,xe,Nat.reduceAdd, *])
/-! law 2: orders -/
theorem idxOf_cast (r : Nat) : ∀ l : List Nat, (l.map fun k : Nat => (k : Int)).idxOf (r : Int) = l.idxOf r
  | [] => rfl
  | a :: l => by
    rw [List.map_cons]
    by_cases e : a = r
    · subst e; rw [List.idxOf_cons_self, List.idxOf_cons_self]
    · rw [idxOf_ne e, idxOf_ne (a := ((a : Nat) : Int)) (by lia), idxOf_cast r l]
theorem indexD_nat {l : List Nat} {r : Nat} (h : r ∈ l) (hl : l.length ≤ lim) : indexD [.list (natsD l), .int (r : Int)] = some (.int ((l.idxOf r : Nat) : Int)) := by
  show o1 _ (ints? (natsD l)) = _
  rw [show ints? (natsD l) = some (l.map fun k : Nat => (k : Int)) from ints_nat l]
  show (if _ then _ else none) = _
  rw [if_pos ⟨by rw [natsD_len]; exact hl, List.mem_map.mpr ⟨r, h, rfl⟩⟩, idxOf_cast]
noncomputable def downs : Nat → List Nat
  | 0 => [0]
  | m + 1 => (m + 1) :: downs m
noncomputable def ordsN : Nat → List Nat → List (List Nat)
  | 0, _ => [[]]
  | k + 1, runs => ((downs (maxR runs)).map fun r => if r ∈ runs then (ordsN k (runs.erase r)).map (fun o => r :: o) else []).flatten
noncomputable def wtR (runs : List Nat) : Nat := (runs.map fun r => r + 1).sum
theorem rng_down : ∀ m : Nat, (rngL (m : Int) (-1) (-1)).map D.int = (downs m).map fun i : Nat => D.int (i : Int)
  | 0 => rfl
  | m + 1 => by
    have e : ∀ m : Nat, rngL (m : Int) (-1) (-1) = (List.range (m + 1)).map (fun i : Nat => (m : Int) - (i : Int)) := fun m => by
      unfold rngL
      rw [if_neg (by decide), show ((m : Int) - -1).toNat = m + 1 by lia]
    have ih := rng_down m
    rw [e] at ih
    rw [e, List.range_succ_eq_map, List.map_cons, List.map_cons, List.map_map]
    show _ = D.int ((m + 1 : Nat) : Int) :: (downs m).map fun i : Nat => D.int (i : Int)
    rw [← ih]
    refine congr (congrArg List.cons ?_) ?_
    · exact congrArg D.int (by lia)
    · rw [List.map_map, List.map_map]
      refine List.map_congr_left fun i _ => congrArg D.int ?_
      show ((m + 1 : Nat) : Int) - ((i + 1 : Nat) : Int) = (m : Int) - (i : Int)
      lia
theorem downs_len : ∀ m, (downs m).length = m + 1
  | 0 => rfl
  | m + 1 => by rw [downs, List.length_cons, downs_len m]
theorem wtR_erase {runs : List Nat} {r : Nat} (h : r ∈ runs) : wtR (runs.erase r) + (r + 1) = wtR runs := by
  induction runs with
  | nil => exact no_mem h
  | cons a l ih =>
    by_cases e : a = r
    · subst e
      rw [List.erase_cons_head]
      unfold wtR
      rw [List.map_cons, List.sum_cons]; lia
    · have hm : r ∈ l := (List.mem_cons.mp h).resolve_left fun z => e z.symm
      have i := ih hm
      rw [List.erase_cons_tail (by simpa using e)]
      unfold wtR at *
      rw [List.map_cons, List.sum_cons, List.map_cons, List.sum_cons]; lia
theorem downs_sum (S : Nat) (f : Nat → Nat) : ∀ m, m + 1 ≤ S → (∀ r ≤ m, f r ≤ 2 ^ (S - (r + 1))) → ((downs m).map f).sum + 2 ^ (S - (m + 1)) ≤ 2 ^ S
  | 0, h, hf => by
    have := hf 0 (Nat.le_refl _)
    have e : 2 ^ S = 2 ^ (S - 1) * 2 := by rw [← Nat.pow_succ]; congr 1; lia
    show f 0 + 0 + 2 ^ (S - 1) ≤ 2 ^ S
    rw [e]
    have : f 0 ≤ 2 ^ (S - 1) := this
    lia
  | m + 1, h, hf => by
    have ih := downs_sum S f m (by lia) fun r hr => hf r (Nat.le_succ_of_le hr)
    have := hf (m + 1) (Nat.le_refl _)
    have e : 2 ^ (S - (m + 1)) = 2 ^ (S - (m + 1 + 1)) * 2 := by rw [← Nat.pow_succ]; congr 1; lia
    rw [downs, List.map_cons, List.sum_cons]
    lia
theorem maxR_mem : ∀ {l : List Nat}, l ≠ [] → maxR l ∈ l
  | [a], _ => by
    show max a 0 ∈ _
    rw [Nat.max_eq_left (Nat.zero_le _)]; exact List.mem_singleton.mpr rfl
  | a :: b :: l, _ => by
    have ih := maxR_mem (l := b :: l) (List.cons_ne_nil _ _)
    show max a (maxR (b :: l)) ∈ _
    rcases Nat.le_total a (maxR (b :: l)) with h | h
    · rw [Nat.max_eq_right h]; exact List.mem_cons_of_mem _ ih
    · rw [Nat.max_eq_left h]; exact List.mem_cons_self
theorem mem_wt {runs : List Nat} {r : Nat} (h : r ∈ runs) : r + 1 ≤ wtR runs := by
  have := wtR_erase h; lia
theorem ords_le : ∀ (k : Nat) (runs : List Nat), runs.length = k → (ordsN k runs).length ≤ 2 ^ wtR runs
  | 0, runs, _ => Nat.pow_pos (by decide)
  | k + 1, runs, h => by
    have hne : runs ≠ [] := fun z => by rw [z] at h; cases h
    rw [ordsN, List.length_flatten, List.map_map]
    refine Nat.le_trans (Nat.le_add_right _ (2 ^ (wtR runs - (maxR runs + 1)))) (downs_sum (wtR runs) _ (maxR runs) (mem_wt (maxR_mem hne)) fun r hr => ?_)
    show (if r ∈ runs then _ else []).length ≤ _
    by_cases q : r ∈ runs
    · rw [if_pos q, List.length_map]
      have := ords_le k (runs.erase r) (by rw [List.length_erase_of_mem q]; lia)
      have e := wtR_erase q
      rwa [show wtR (runs.erase r) = wtR runs - (r + 1) by lia] at this
    · rw [if_neg q]; exact Nat.zero_le _
theorem ords_len : ∀ (k : Nat) (runs : List Nat), ∀ o ∈ ordsN k runs, o.length = k
  | 0, _, o, h => by rw [List.mem_singleton.mp h]; rfl
  | k + 1, runs, o, h => by
    rw [ordsN] at h
    obtain ⟨l, hl, ho⟩ := List.mem_flatten.mp h
    obtain ⟨r, hr, rfl⟩ := List.mem_map.mp hl
    by_cases q : r ∈ runs
    · rw [if_pos q] at ho
      obtain ⟨p, hp, rfl⟩ := List.mem_map.mp ho
      rw [List.length_cons, ords_len k _ p hp]
    · rw [if_neg q] at ho; exact no_mem ho
theorem fold_app {α β : Type} (g : α → List β) : ∀ (l : List α) (s : List β), l.foldl (fun s a => s ++ g a) s = s ++ (l.map g).flatten
  | [], s => (List.append_nil s).symm
  | a :: l, s => by rw [List.foldl_cons, fold_app g l, List.map_cons, List.flatten_cons, List.append_assoc]
theorem in_nats (runs : List Nat) (r : Nat) : inD (.int (r : Int)) (.list (natsD runs)) = some (decide (r ∈ runs)) := by
  show o1 (fun l => o1 (fun is => some (decide ((r : Int) ∈ is))) (ints? l)) (some (natsD runs)) = _
  show o1 (fun is => some (decide ((r : Int) ∈ is))) (ints? (natsD runs)) = _
  rw [show ints? (natsD runs) = some (runs.map fun k : Nat => (k : Int)) from ints_nat runs]
  show some _ = _
  refine congrArg some ?_
  rw [Bool.eq_iff_iff, decide_eq_true_iff, decide_eq_true_iff, List.mem_map]
  exact ⟨fun ⟨a, h, e⟩ => by have e : a = r := by lia
                             rwa [← e], fun h => ⟨r, h, rfl⟩⟩
theorem eq_nil (runs : List Nat) : eqD 8 (.list (natsD runs)) (.list []) = some (decide (runs = [])) := by
  have := eqD_ints (runs.map fun k : Nat => (k : Int)) []
  rw [List.map_map] at this
  refine this.trans (congrArg some ?_)
  rw [Bool.eq_iff_iff, decide_eq_true_iff, decide_eq_true_iff, List.map_eq_nil_iff]
noncomputable def ordU (s : List (List Nat)) (j : Option D × Option D) : List (Str × LV) := [("orders", .ow (natssD s)), ("run", LJ j.1), ("place", LJ j.2)]
theorem natssD_app (a b : List (List Nat)) : natssD a ++ natssD b = natssD (a ++ b) := (List.map_append ..).symm
theorem natssD_len (a : List (List Nat)) : (natssD a).length = a.length := List.length_map ..
theorem c_orders (n : Nat) : ∀ (k : Nat) (runs : List Nat), runs.length = k → wtR runs ≤ 8 → (PT (n + k + 1)).fn (.ref 199) [.list (natsD runs)] [] = some (.list (natssD (ordsN k runs)))
  | 0, runs, h, _ => by
    have e : runs = [] := List.length_eq_zero_iff.mp h
    subst e
    (refine (fn_df rfl rfl).trans ?_; refine run_ex fun sc b g1 g2 => ?_; (conv at g1 => (lhs; whnf)); (conv at g2 => (lhs; whnf)); subst g1 g2)
    have e1 : eqD 8 (.list []) (.list []) = some true := rfl
    have e2 : natsD [] = [] := rfl
    have e3 : natssD (ordsN 0 []) = [.list []] := rfl
    rw [e2, e3]
    clear e2 e3 h
    (simp (decide := true) only [jb,jd,jg,jh,ji,jj,jn,jy,jB,↓jH,j5,ku,qL,qN,qO,yk,fuelN,yv,yy,yA,yQ,zc,zq,xc,xO,rho0,bindsD,List.reverse_cons,List.reverse_nil,List.nil_append, *])
  | k + 1, runs, h, hw => by
    have ih := c_orders n k
    show (PT ((n + k + 1) + 1)).fn (.ref 199) [.list (natsD runs)] [] = _
    (refine (fn_df rfl rfl).trans ?_; refine run_ex fun sc b g1 g2 => ?_; (conv at g1 => (lhs; whnf)); (conv at g2 => (lhs; whnf)); subst g1 g2)
    have hne : runs ≠ [] := fun z => by rw [z] at h; cases h
    have e1 : eqD 8 (.list (natsD runs)) (.list []) = some false := by rw [eq_nil, decide_eq_false hne]
    have k8 : runs.length ≤ 8 := by
      have : ∀ l : List Nat, l.length ≤ wtR l := fun l => by
        unfold wtR
        induction l with
        | nil => exact Nat.le_refl _
        | cons a l ih => rw [List.map_cons, List.sum_cons, List.length_cons]; lia
      exact Nat.le_trans (this runs) hw
    have kk : k ≤ 8 := by lia
    have m8 : maxR runs ≤ 8 := by have := mem_wt (maxR_mem hne); lia
    have e2 := maxD_nats hne
    have e3 : unD .USub (.int 1) = some (.int (-1)) := id rfl
    have h9 : itD (.rng ((maxR runs : Nat) : Int) (-1) (-1)) = some ((downs (maxR runs)).map fun i : Nat => D.int (i : Int)) := by
      rw [wX, if_pos (by lia), rng_down]
    have r1 : (natsD runs).length ≤ lim := by rw [natsD_len]; unfold lim; lia
    (simp (decide := true) only [ja,jb,jc,jg,jh,ji,jj,jn,jo,jq,jy,jz,jG,↓jH,j5,j9,ka,ku,ky,kR,qj,qG,qI,qL,qN,qO,qP,q9,yk,fuelN,yo,yr,yu,yv,yy,yA,yG,yK,yQ,yS,yT,za,zb,zr,zz,xJ,xO,x7,rho0,bindsD,List.reverse_cons,List.reverse_nil,List.nil_append,↓reduceIte,wa,wb,we,wv,wN,Int.reduceNeg,Nat.reduceAdd,vH,vL, *])
    refine outD_of (nx_forU (fun i : Nat => D.int (i : Int)) (downs (maxR runs)) (fun s r => s ++ (if r ∈ runs then (ordsN k (runs.erase r)).map (fun o => r :: o) else [])) ordU (fun i s => s.length ≤ 256 * i) [] (none, none) ?_ (Nat.le_refl _) ?_ ?_)
    · unfold ordU natssD; (simp (decide := true) only [jl,kF,kH,kI,kQ,kR,yp,xd,xe,List.map_nil, *])
    · intro i s j r hr hI
      have hi : i < maxR runs + 1 := by rw [← downs_len]; exact (List.getElem?_eq_some_iff.mp hr).1
      have in1 := in_nats runs r
      by_cases q : r ∈ runs
      · have q' : decide (r ∈ runs) = true := decide_eq_true q
        have hk : (runs.erase r).length = k := by rw [List.length_erase_of_mem q]; lia
        have ol := ords_le k (runs.erase r) hk
        have wl : wtR (runs.erase r) ≤ 8 := by have := wtR_erase q; lia
        have ol : (ordsN k (runs.erase r)).length ≤ 256 := Nat.le_trans ol (Nat.pow_le_pow_right (n := 2) (by decide) wl)
        have ih := ih (runs.erase r) hk wl
        have hlen := ords_len k (runs.erase r)
        rw [if_pos q]
        refine ⟨by rw [List.length_append, List.length_map]; lia, _, by unfold ordU; (simp (decide := true) only [kF,kH,kI,kQ,kR,qk,yp,zO,xd,xe, *]) <;> rfl, (some (.int (r : Int)), some (.int ((runs.idxOf r : Nat) : Int))), .inl ?_⟩
        have f1 := indexD_nat q (by rw [natsD_len] at r1; exact r1)
        have f2 := cut_to r1 (runs.idxOf r)
        have f3 := cut_from r1 (runs.idxOf r + 1)
        have f4 : (natsD runs).take (runs.idxOf r) ++ (natsD runs).drop (runs.idxOf r + 1) = natsD (runs.erase r) := by
          rw [← take_idx r runs q]; unfold natsD; rw [List.map_append, List.map_take, List.map_drop]
        have f5 : ((natsD runs).take (runs.idxOf r)).length + ((natsD runs).drop (runs.idxOf r + 1)).length ≤ lim := by
          rw [List.length_take, List.length_drop, natsD_len]; unfold lim; lia
        have f6 : binF .Add (.list ((natsD runs).take (runs.idxOf r))) (.list ((natsD runs).drop (runs.idxOf r + 1))) = some (.list (natsD (runs.erase r))) := by
          rw [xM, if_pos f5, f4]
        have f7 : (natssD s).length + (natssD ((ordsN k (runs.erase r)).map fun o => r :: o)).length ≤ lim := by
          rw [natssD_len, natssD_len, List.length_map]; unfold lim; lia
        have f8 : (natssD (ordsN k (runs.erase r))).length ≤ lim := by rw [natssD_len]; unfold lim; lia
        have na := natssD_app
        clear f4 f5 ol wl hk q hi hI hr h9 e2 e1 m8 hne hw h
        generalize ordsN k (runs.erase r) = O at *
        unfold ordU
        (simp (decide := true) only [jb,jc,jg,jh,ji,jj,jk,jm,jo,jq,jw,jy,jG,↓jH,↓jJ,↓jK,j6,j7,kc,ky,kF,kH,kI,kQ,kR,ql,qG,qH,qN,qO,qP,qS,qT,qU,q8,q9,ya,yk,fuelN,yo,yp,yr,yt,yv,yy,yD,yE,yG,yI,yJ,yK,yM,yT,ze,zf,zq,zw,zF,zH,zJ,zK,zL,zM,zW,xd,xe,xx,xJ,xV,x6,List.nil_append,List.cons_append,↓reduceIte,wa,wj,wD,wU,wY,Nat.reduceAdd,vE, *])
        rw [cGo_g (items := natssD O) (fun x => D.list (natsD x)) (fun o => D.list (natsD (r :: o))) O rfl (natssD (O.map fun o => r :: o)) (by unfold natssD; rw [List.map_map]; rfl)]
        · (simp (decide := true) only [ja,jc,ji,jj,jo,kR,qj,yK,yQ,yZ,↓reduceIte,Nat.reduceAdd, *])
        · intro o ho
          have ol := hlen o ho
          have g1 : binF .Add (.list [.int (r : Int)]) (.list (natsD o)) = some (.list (natsD (r :: o))) := by
            rw [xM, if_pos (by rw [natsD_len, ol]; show 1 + k ≤ lim; unfold lim; lia)]; rfl
          clear ho ol hlen ih kk f1 f2 f3 f6 f7 f8 in1
          exact ⟨_, by (simp (decide := true) only [kQ,qj,zO, *]) <;> rfl, by (simp (decide := true) only [↓jI,↓jJ,qH,qL,qN,qO,yt,yy,yA, *])⟩
      · have q' : decide (r ∈ runs) = false := decide_eq_false q
        rw [if_neg q, List.append_nil]
        refine ⟨by lia, _, by unfold ordU; (simp (decide := true) only [kF,kH,kI,kQ,kR,qk,yp,zO,xd,xe, *]) <;> rfl, (some (.int (r : Int)), j.2), .inl ?_⟩
        clear hi hI hr h9 e2 e1 m8 hne hw h q ih
        unfold ordU
        (simp (decide := true) only [ja,jb,jc,jh,ji,jj,jk,jm,jo,jy,↓jH,↓jJ,kF,kH,kI,kQ,kR,yk,fuelN,yp,yv,zr,xd,xe,xV,↓reduceIte,Nat.reduceAdd, *])
    · intro j hI
      have e5 : List.foldl (fun s r => s ++ (if r ∈ runs then (ordsN k (runs.erase r)).map (fun o => r :: o) else [])) [] (downs (maxR runs)) = ordsN (k + 1) runs := by
        rw [fold_app]; rfl
      rw [e5] at hI ⊢
      clear e5 ih hI h hw hne e1 e2 h9 m8
      unfold ordU
      (simp (decide := true) only [jb,jd,jg,ji,jj,jk,jo,jB,j6,kF,kH,kI,kQ,kR,qG,fuelN,yo,yp,yq,yQ,zc,xd,xe,↓reduceIte,Nat.reduceAdd, *])
/-! law 2: the law's own walk -/
noncomputable def dflt2 : List Int := [2, 1, 1, 2, 0, 3, 0, 156]
noncomputable def nums2 (ns : List Int) : List Int := if ns = [] then dflt2 else ns.take 8
noncomputable def sp2 (nums : List Int) : Nat := (nums.sum % 3).toNat
noncomputable def toldN (c : List Nat) : List Nat := ((List.range c.length).map fun i => List.replicate (c[i]?.getD 0) i).flatten
noncomputable def eqB (x y : List Nat) : Bool := decide ((wsOf x).count = (wsOf y).count) && decide ((wsOf x).b = (wsOf y).b)
structure LawD2 (nums : List Int) (Pr : List (Nat × Nat)) (sp : Nat) (F1 F2 : List Nat) (R1 R2 : List UInt8) (L1 L2 lead rest : List Nat) (parts : List (List Nat)) (runs : List Nat) (bl k : Nat) (Os Ts : List (List Nat)) (Rs : List (List UInt8)) (c told : List Nat) (A : Bool) : Prop where
  n1 : 1 ≤ nums.length
  n8 : nums.length ≤ 8
  pr : prs2 nums = Pr
  sp' : sp = sp2 nums
  s2 : sp ≤ 2
  pl : Pr.length ≤ 8
  pl4 : Pr.length % 4 = 0 ∧ 4 ≤ Pr.length
  p64 : ∀ p ∈ Pr, p.1 < 64 ∧ p.2 < 64
  f1 : F1 = Pr.map fun p => p.1
  f2 : F2 = Pr.map fun p => p.2
  r1 : R1 = octB F1 sp
  r2 : R2 = octB F2 sp
  li1 : lineB R1 = L1
  li2 : lineB R2 = L2
  lq1 : lineN F1 sp = L1
  lq2 : lineN F2 sp = L2
  ll1 : L1.length ≤ 100
  ll2 : L2.length ≤ 100
  tw : twN L1 = lead
  re : L1.drop lead.length = rest
  hp : splitAt 9 lead = parts
  ple : 1 ≤ parts.length
  hru : (parts.take (parts.length - 1)).map List.length = runs
  hbl : (parts[parts.length - 1]?.getD []).length = bl
  hk : runs.length = k
  wt : wtR runs ≤ 8
  b8 : bl ≤ 8
  os : ordsN k runs = Os
  ts : Os.map (fun o => leadN o bl ++ rest) = Ts
  o8 : ∀ o ∈ Os, o.length ≤ 8 ∧ ∀ r ∈ o, r ≤ 8
  tl : ∀ t ∈ Ts, t.length ≤ 100 ∧ ∀ x ∈ t, x < 128
  tq : ∀ t ∈ Ts, (decS t [32, 9]).q ≠ 1 ∧ ((decS t [32, 9]).q ≠ 0 → 4 ≤ (decS t [32, 9]).q + (decS t [32, 9]).pads)
  rs : Ts.map (fun t => decB t [32, 9]) = Rs
  rl : ∀ r ∈ Rs, r.length ≤ 9
  mr : runs ∈ Os
  ix : Rs[Os.idxOf runs]? = some R1
  up : ∀ i, i + 1 < Rs.length → num256 (Rs[i]?.getD []) < num256 (Rs[i + 1]?.getD [])
  eq : ∀ t ∈ Ts, eqB t L1 = true
  hc : (wsOf L1).count = c
  hb : (wsOf L1).b = bl
  cl : c.length ≤ 9
  c8 : ∀ i : Nat, c[i]?.getD 0 ≤ 8
  to : toldN c = told
  tol : told.length ≤ 8
  to8 : ∀ r ∈ told, r ≤ 8
  t0 : leadN told.reverse bl ++ rest = Ts[0]?.getD []
  t1 : leadN told bl ++ rest = Ts[Ts.length - 1]?.getD []
  al : A = eqB L2 L1
  al2 : A = decide (witN (fun a b => decide (a ≠ b)) L2 L1 = [])
  al3 : A = decide (R2 ∈ Rs)
noncomputable def toU (s : List Nat) (j : Option D) : List (Str × LV) := [("told", .ow (natsD s)), ("length", LJ j)]
theorem cut_last {l : List D} (h : 1 ≤ l.length) (hl : l.length ≤ lim) : cutD (.list l) none (some (-1)) none = some (.list (l.take (l.length - 1))) := by
  have e : cutL (.list l) none (some (-1)) none = some (cut none (some (-1)) l) := if_pos hl
  unfold cutD; rw [e]
  unfold cut
  simp only [Option.elim, List.drop_zero, Nat.sub_zero]
  unfold clipAt
  rw [if_pos (by decide), show (max 0 (min (-1 + (l.length : Int)) (l.length : Int))).toNat = l.length - 1 by lia]
theorem splitD_ok {x : List Nat} {c : Nat} (h : x.length ≤ 100000) : splitD [.str x, .str [c]] = some (.list (strsD (splitAt c x))) := by
  exact if_pos h
theorem idx_lastS {l : List (List Nat)} (h : 0 < l.length) (hl : l.length ≤ lim) : idxD (.list (strsD l)) (-1) = some (.str (l[l.length - 1]?.getD [])) := by
  have e : (strsD l).length = l.length := List.length_map ..
  unfold idxD
  dsimp only
  rw [if_pos (show inB (-1) (strsD l).length = true from decide_eq_true (by rw [e]; lia))]
  unfold ix
  rw [if_pos (by decide), e, show (-1 + (l.length : Int)).toNat = l.length - 1 by lia]
  unfold strsD
  rw [List.getElem?_map, List.getElem?_eq_getElem (by lia)]
  rfl
theorem natssI (Os : List (List Nat)) : intss? (natssD Os) = some (Os.map fun o => o.map fun k : Nat => (k : Int)) := by
  induction Os with
  | nil => rfl
  | cons a l ih =>
    show o2 (fun x l => some (x :: l)) (ints? (natsD a)) (intss? (natssD l)) = _
    rw [ih, show ints? (natsD a) = some (a.map fun k : Nat => (k : Int)) from ints_nat a]; rfl
theorem idxOf_inj {α β : Type} [BEq α] [LawfulBEq α] [BEq β] [LawfulBEq β] (f : α → β) (hf : ∀ a b, f a = f b → a = b) (r : α) : ∀ l : List α, (l.map f).idxOf (f r) = l.idxOf r
  | [] => rfl
  | a :: l => by
    rw [List.map_cons]
    by_cases e : a = r
    · subst e; rw [List.idxOf_cons_self, List.idxOf_cons_self]
    · rw [idxOf_ne e, idxOf_ne (a := f a) (fun z => e (hf _ _ z)), idxOf_inj f hf r l]
theorem indexD_natss {Os : List (List Nat)} {r : List Nat} (h : r ∈ Os) (hl : Os.length ≤ lim) : indexD [.list (natssD Os), .list (natsD r)] = some (.int ((Os.idxOf r : Nat) : Int)) := by
  show idxL (natssD Os) (natsD r) = _
  show o2 _ (intss? (natssD Os)) (ints? (natsD r)) = _
  rw [natssI, show ints? (natsD r) = some (r.map fun k : Nat => (k : Int)) from ints_nat r]
  show (if _ then _ else none) = _
  rw [if_pos ⟨by rw [List.length_map]; exact hl, List.mem_map.mpr ⟨r, h, rfl⟩⟩, idxOf_inj (fun o : List Nat => o.map fun k : Nat => (k : Int)) (fun a b e => List.map_inj_right (fun x y z => by lia) |>.mp e)]
theorem bytsI (Rs : List (List UInt8)) : bytess? (bytsD Rs) = some Rs := by
  induction Rs with
  | nil => rfl
  | cons a l ih =>
    show o2 (fun x l => some (x :: l)) (some a) (bytess? (bytsD l)) = _
    rw [ih]
    first | done | rfl
theorem in_byts (Rs : List (List UInt8)) (r : List UInt8) : inD (.bytes r) (.list (bytsD Rs)) = some (decide (r ∈ Rs)) := by
  show o1 (fun is => some (decide (r ∈ is))) (bytess? (bytsD Rs)) = _
  rw [bytsI]
  first | done | rfl
theorem eq_bb (a : Bool) : eqD 8 (.list [.bool a, .bool a]) (.list [.bool a, .bool a]) = some true := by
  induction a using Bool.casesOn <;> rfl
theorem eqD_T3n_nil (l : List (Nat × Nat × Nat)) : eqD 8 (.list (l.map T3n)) (.list []) = some (decide (l = [])) := by
  induction l using List.casesOn <;> rfl
theorem cGo_none {V : EvF} {scope : Scope} {ρ₀ : Rho} {target elt : Expr} {ifs : List Expr} {α : Type} {items : List D} (f : α → D) (xs : List α) (hi : items = xs.map f) (h : ∀ a, a ∈ xs → ∃ ρ₁, bindT scope ρ₀ target (f a) = some ρ₁ ∧ ifsD V scope ρ₁ ifs = some false) : cGo V scope ρ₀ target ifs elt items = some (.list []) := by
  rw [hi, cGo_filter f f (fun _ => false) xs fun a ha => (h a ha).elim fun ρ₁ z => ⟨ρ₁, z.1, z.2, fun z => (nomatch z)⟩, List.filter_eq_nil_iff.mpr fun _ _ => Bool.false_ne_true]; rfl
theorem oO_ws (ρ : Rho) (N : List Str) (x : List Nat) : oO ρ N (some (wsD x)) = some (wsD x, frzM N ρ) := id rfl
theorem c_law (n : Nat) (ns : List Int) (hn : ns.length ≤ 63) {Pr : List (Nat × Nat)} {sp : Nat} {F1 F2 : List Nat} {R1 R2 : List UInt8} {L1 L2 lead rest : List Nat} {parts : List (List Nat)} {runs : List Nat} {bl k : Nat} {Os Ts : List (List Nat)} {Rs : List (List UInt8)} {c told : List Nat} {A : Bool} (H : LawD2 (nums2 ns) Pr sp F1 F2 R1 R2 L1 L2 lead rest parts runs bl k Os Ts Rs c told A) : (PT (n + 10)).fn (.ref 209) [intsL ns] [] = some (.bool true) := by
  (refine (fn_df rfl rfl).trans ?_; refine run_ex fun sc b g1 g2 => ?_; (conv at g1 => (lhs; whnf)); (conv at g2 => (lhs; whnf)); subst g1 g2)
  have g0 : ∀ xs : List Int, eqD 8 (.list (xs.map D.int)) (.list []) = some (decide (xs = [])) := fun xs => eqD_ints xs []
  have g1 : cutD (.list (ns.map D.int)) none (some 8) none = some (.list ((ns.take 8).map D.int)) := by
    have := cut_to (l := ns.map D.int) (by rw [List.length_map]; unfold lim; lia) 8
    rw [List.map_take]; exact this
  have h8 : (8 : Nat) ≤ lim := by decide
  have h0 : (0 : Nat) ≤ lim := by decide
  have h1 : (1 : Nat) ≤ lim := by decide
  have h2 : (2 : Nat) ≤ lim := by decide
  have hI : oIf (some (!decide (ns = []))) (some (.list (List.map D.int (List.take 8 ns)))) (some (.list [.int 2, .int 1, .int 1, .int 2, .int 0, .int 3, .int 0, .int 156])) = some (.list ((nums2 ns).map D.int)) := by
    unfold nums2
    by_cases q : ns = []
    · rw [decide_eq_true q, if_pos q]; rfl
    · rw [decide_eq_false q, if_neg q]; rfl
  unfold intsL
  generalize nums2 ns = nums at *
  have hnl : nums.length ≤ lim := by have := H.n8; unfold lim; lia
  have p1 := c_pairs (n + 8) nums H.n8
  rw [H.pr] at p1
  unfold intsL at p1
  have p7 : sumD [.list (nums.map D.int)] = some (.int nums.sum) := by
    show o1 _ (ints? (nums.map D.int)) = _
    rw [show ints? (nums.map D.int) = some (nums.map id) from ints_map id nums, List.map_id]
  have p8 : binF .Mod (.int nums.sum) (.int 3) = some (.int (sp : Int)) := by
    have : nums.sum % 3 = (sp : Int) := by rw [H.sp']; unfold sp2; lia
    rw [vX, if_pos (by decide), this]
  have p9 : Pr.length ≤ lim := by have := H.pl; unfold lim; lia
  have l1 : F1.length = Pr.length := by rw [H.f1, List.length_map]
  have l2 : F2.length = Pr.length := by rw [H.f2, List.length_map]
  have a1 : ∀ f ∈ F1, f < 64 := fun f hf => by rw [H.f1] at hf; obtain ⟨p, hp, rfl⟩ := List.mem_map.mp hf; exact (H.p64 p hp).1
  have a2 : ∀ f ∈ F2, f < 64 := fun f hf => by rw [H.f2] at hf; obtain ⟨p, hp, rfl⟩ := List.mem_map.mp hf; exact (H.p64 p hp).2
  have P8 := H.pl
  have P4 := H.pl4
  have S2 := H.s2
  have o1 := c_octets (n + 8) F1 sp (by lia) a1 (by lia)
  have o2 := c_octets (n + 8) F2 sp (by lia) a2 (by lia)
  have ol : ∀ F : List Nat, F.length = Pr.length → (octB F sp).length ≤ 9 := fun F hF => by
    unfold octB octN
    rw [List.length_map, List.length_take]
    lia
  rw [show ((octN F1 sp).map fun k => k.toUInt8) = R1 from H.r1.symm] at o1
  rw [show ((octN F2 sp).map fun k => k.toUInt8) = R2 from H.r2.symm] at o2
  have R1l : R1.length ≤ 9 := by rw [H.r1]; exact ol F1 l1
  have R2l : R2.length ≤ 9 := by rw [H.r2]; exact ol F2 l2
  have n1 := c_line (n + 8) F1 sp (by lia) a1 S2 (by lia)
  have n2 := c_line (n + 8) F2 sp (by lia) a2 S2 (by lia)
  rw [H.lq1] at n1
  rw [H.lq2] at n2
  have ch := chr_ok
  have w0 := w_nil
  have w1 := w_st
  have w2 := w_tb
  have f1 := H.f1
  have f2 := H.f2
  (simp (decide := true) only [jb,jc,jg,ji,jj,jn,jq,jG,↓jH,↓jI,↓jK,j5,kp,kq,ku,kD,qf,qg,qh,qj,qk,ql,qG,qH,qK,qL,qN,qO,qP,qS,qT,qU,q9,ya,List.length_map,yk,fuelN,yo,yr,yt,yv,yy,yA,yD,yE,yG,yI,yJ,yK,yM,yQ,yT,zn,zs,zt,zw,zz,zC,zH,zJ,zM,xJ,xP,x6,x8,rho0,bindsD,List.reverse_cons,List.reverse_nil,List.nil_append,↓reduceIte,wa,wf,wU,Nat.reduceAdd,vA,vI, *])
  rw [cGo_g (elt := .Name (Str.ofString "f") _) (items := Pr.map P2n) P2n (fun p => .int (p.1 : Int)) Pr rfl (natsD F1) (by rw [f1]; unfold natsD; rw [List.map_map]; rfl)]
  rotate_left
  · intro a ha
    clear g0 g1 hI p1 p7 p8 p9 H ha hnl a1 a2 P8 P4 o1 o2 ol n1 n2 f1 f2 l1 l2
    unfold P2n
    exact ⟨_, by (simp (decide := true) only [kQ,qj,qk,yp,zP,zQ,zR,zS, *]) <;> rfl, by (simp (decide := true) only [↓jI, *])⟩
  rw [cGo_g (elt := .Name (Str.ofString "g") _) (items := Pr.map P2n) P2n (fun p => .int (p.2 : Int)) Pr rfl (natsD F2) (by rw [f2]; unfold natsD; rw [List.map_map]; rfl)]
  rotate_left
  · intro a ha
    clear g0 g1 hI p1 p7 p8 p9 H ha hnl a1 a2 P8 P4 o1 o2 ol n1 n2 f1 f2 l1 l2
    unfold P2n
    exact ⟨_, by (simp (decide := true) only [kQ,qj,qk,yp,zP,zQ,zR,zS, *]) <;> rfl, by (simp (decide := true) only [↓jJ, *])⟩
  clear p1 p7 p8 g0 g1 hI p9 f1 f2
  (simp (decide := true) only [jb,jc,jg,ji,jj,jn,jo,jr,↓jL,j7,qe,qm,ya,fuelN,yy,yA,yI,yJ,yK,yQ,yT,zC,zH,zI,zJ,zK,zL,zM,zW,x7,↓reduceIte,wU,List.length_cons,List.length_nil,Nat.reduceAdd, *])
  rw [cGo_g (items := [.list (natsD F1), .list (natsD F2)]) (fun F => D.list (natsD F)) (fun F => .bytes (octB F sp)) [F1, F2] rfl [.bytes R1, .bytes R2] (by rw [H.r1, H.r2]; rfl)]
  rotate_left
  · intro a ha
    have e : (PT (n + 9)).fn (.ref 182) [.list (natsD a), .int (sp : Int)] [] = some (.bytes (octB a sp)) := by
      rcases List.mem_cons.mp ha with z | z
      · subst z; rw [← H.r1]; exact o1
      · have z := List.mem_singleton.mp z
        subst z; rw [← H.r2]; exact o2
    clear H ha o1 o2 n1 n2 a1 a2 l1 l2
    exact ⟨_, by (simp (decide := true) only [kQ,qj,zO, *]) <;> rfl, by (simp (decide := true) only [↓jI,↓jJ,j7,kx,qG,qN,qO,qP,q9,yo,yr,yy,yG,vB, *])⟩
  clear o1 o2
  (simp (decide := true) only [jb,jc,jg,ji,jj,jn,jo,jr,↓jM,↓jN,qc,qd,qn,qo,qL,qN,qO,ya,fuelN,yy,yA,yI,yJ,yK,yQ,yV,zE,zH,zI,zJ,zM,zQ,zR,zS,↓reduceIte,wU,List.length_cons,List.length_nil,Nat.reduceAdd, *])
  rw [cGo_g (items := [.bytes R1, .bytes R2]) D.bytes (fun row => .str (lineB row)) [R1, R2] rfl [.str L1, .str L2] (by rw [← H.li1, ← H.li2]; rfl)]
  rotate_left
  · intro a ha
    have al : a.length ≤ 9 := by
      rcases List.mem_cons.mp ha with z | z
      · subst z; exact R1l
      · have z := List.mem_singleton.mp z
        subst z; exact R2l
    have e1 := c_encode (n + 6) a 32 9 (by lia)
    have el : (encB a [32, 9]).length ≤ lim := by unfold encB; rw [trans_len, List.length_map]; have := b2a_len a; unfold lim; lia
    have e2 := itD_bytes el
    have e3 : joinD [.str [], .list ((encB a [32, 9]).map fun c => D.str [c.toNat])] = some (.str (lineB a)) := by
      have := joinD_ok (strs_map (fun c : UInt8 => [c.toNat]) (encB a [32, 9])) (by
        rw [flatten_oneU, List.length_map]; exact el)
      rwa [flatten_oneU] at this
    clear H ha n1 n2 a1 a2 l1 l2 R1l R2l ol P8 P4 al e2 hnl
    refine ⟨_, by (simp (decide := true) only [qj,yp,zO, *]) <;> rfl, ?_⟩
    (simp (decide := true) only [jG,↓jI,j7,kv,qG,qN,qO,qP,q8,q9,ya,yo,yr,yy,yG,yI,yJ,zG,zH,zI,zJ,zM,xK,xL,↓reduceIte,wW,not_false_eq_true,vy, *])
    rw [cGo_g (items := (encB a [32, 9]).map fun b => D.int (b.toNat : Int)) (fun b : UInt8 => D.int (b.toNat : Int)) (fun c : UInt8 => D.str [c.toNat]) (encB a [32, 9]) rfl _ rfl]
    · (simp (decide := true) only [yy,ze,zf,List.nil_append,List.cons_append,wa,wk,wy,wY, *])
    · intro c hc
      clear hc e1 e3
      exact ⟨_, by (simp (decide := true) only [qj,yp,zO, *]) <;> rfl, by (simp (decide := true) only [↓jI,j7,kv,qG,qN,qO,qP,q9,yo,yr,yy,yG,wa,wg,vJ, *])⟩
  have q1 : eqD 8 (.list [.str L1, .str L2]) (.list [.str L1, .str L2]) = some true := by
    have := eqD_strs [L1, L2] [L1, L2]
    rw [decide_eq_true rfl] at this; exact this
  have i0 : ∀ a b : D, idxD (.list [a, b]) 0 = some a := fun a b => rfl
  have i1 : ∀ a b : D, idxD (.list [a, b]) 1 = some b := fun a b => rfl
  (simp (decide := true) only [jb,jc,jh,ji,jj,jn,jy,↓jL,↓jO,↓jP,j7,k9,qa,qp,qr,qL,qN,qO,ya,yk,fuelN,yy,yA,yI,yJ,yK,yQ,yV,zC,zH,zI,zJ,zK,zL,zM,zQ,zR,zS,zW,↓reduceIte,wU,List.length_cons,List.length_nil,Nat.reduceAdd, *])
  rw [cGo_g (items := [.list (natsD F1), .list (natsD F2)]) (fun F => D.list (natsD F)) (fun F => .str (lineN F sp)) [F1, F2] rfl [.str L1, .str L2] (by rw [← H.lq1, ← H.lq2]; rfl)]
  rotate_left
  · intro a ha
    have e : (PT (n + 9)).fn (.ref 187) [.list (natsD a), .int (sp : Int)] [] = some (.str (lineN a sp)) := by
      rcases List.mem_cons.mp ha with z | z
      · subst z; rw [H.lq1]; exact n1
      · have z := List.mem_singleton.mp z
        subst z; rw [H.lq2]; exact n2
    clear H ha n1 n2 a1 a2 l1 l2 q1 R1l R2l ol P8 P4 hnl
    exact ⟨_, by (simp (decide := true) only [kQ,qj,zO, *]) <;> rfl, by (simp (decide := true) only [↓jI,↓jJ,j7,kx,qG,qN,qO,qP,q9,yo,yr,yy,yG,vC, *])⟩
  clear n1 n2 a1 a2 l1 l2 ol P8 P4 hnl
  have L1l := H.ll1
  have L2l := H.ll2
  have al : L1.length ≤ lim := by unfold lim; lia
  have dw : lstripD [32, 9] L1 = L1.drop lead.length := by
    rw [← H.tw]
    unfold lstripD twN
    rw [drop_takeWhile]
    congr 1
    funext k
    unfold isW
    simp [Bool.beq_eq_decide_eq]
  have e1 : lstripF [.str L1, .str [32, 9]] = some (.str rest) := by
    show (if _ then _ else none) = _; rw [if_pos al, dw, H.re]
  have tl : lead.length ≤ L1.length := by rw [← H.tw]; exact tw_len L1
  have e2 : rest.length = L1.length - lead.length := by rw [← H.re]; exact List.length_drop
  have e3 : binF .Sub (.int (L1.length : Int)) (.int (rest.length : Int)) = some (.int ((lead.length : Nat) : Int)) := by
    have : (L1.length : Int) - (rest.length : Int) = (lead.length : Int) := by lia
    rw [ub, this]
  have e4 : cutD (.str L1) none (some ((lead.length : Nat) : Int)) none = some (.str lead) := by
    rw [cut_toS al]
    congr 2
    rw [← H.tw]
    exact (List.prefix_iff_eq_take.mp (List.takeWhile_prefix _)).symm
  have e5 : rest.length ≤ lim := by lia
  have s1 := splitD_ok (x := lead) (c := 9) (by lia)
  rw [H.hp] at s1
  have pln : parts.length ≤ 101 := by rw [← H.hp]; have := split_cnt 9 lead; lia
  have sl : (strsD parts).length = parts.length := List.length_map ..
  have pl2 : parts.length ≤ lim := by unfold lim; lia
  have u1 : unD .USub (.int 1) = some (.int (-1)) := id rfl
  have c1 : cutD (.list (strsD parts)) none (some (-1)) none = some (.list (strsD (parts.take (parts.length - 1)))) := by
    rw [cut_last (by rw [sl]; exact H.ple) (by rw [sl]; exact pl2), sl]; unfold strsD; rw [List.map_take]
  have c2 := idx_lastS H.ple pl2
  have c3 := H.hbl
  have pm : ∀ p ∈ parts, p.length ≤ lim := fun p hp => by
    rw [← H.hp] at hp
    have := split_len 9 lead p hp; lia
  have c4 : bl ≤ lim := by have := H.b8; unfold lim; lia
  have sl3 : (strsD (parts.take (parts.length - 1))).length ≤ lim := by unfold strsD; rw [List.length_map, List.length_take]; lia
  clear dw tl e2
  (simp (decide := true) only [ja,jb,jc,jg,ji,jj,jn,jq,jG,↓jO,↓jQ,↓jR,kt,kD,k6,k7,qs,qt,qG,qH,qI,qN,qO,qP,qS,qT,qU,q8,q9,ya,fuelN,yo,yr,yt,yu,yv,yy,yD,yE,yG,yI,yJ,yK,yN,yQ,yT,ze,zf,zn,zr,zu,zw,zD,zH,zI,zJ,zM,xJ,xK,xP,x6,Bool.not_true,List.nil_append,List.cons_append,↓reduceIte,wa,wc,wm,wo,wz,wB,wG,wU,wY,Int.reduceNeg,Nat.reduceAdd,vG, *])
  rw [cGo_g (items := strsD (parts.take (parts.length - 1))) D.str (fun p => .int (p.length : Int)) (parts.take (parts.length - 1)) rfl (natsD runs) (by rw [← H.hru]; unfold natsD; rw [List.map_map]; rfl)]
  rotate_left
  · intro a ha
    have al := pm a (List.mem_of_mem_take ha)
    clear H ha pm q1 e1 e3 e4 s1 c1 c2 c3 c4
    exact ⟨_, by (simp (decide := true) only [qj,yp,zO, *]) <;> rfl, by (simp (decide := true) only [↓jI,j7,kv,qG,qN,qO,qP,q9,yo,yr,yy,yG,↓reduceIte,wa,wc,wG,vG, *])⟩
  clear q1 e1 e3 e4 s1 c1 pm
  have hk8 : k ≤ 8 := by
    have : ∀ l : List Nat, l.length ≤ wtR l := fun l => by
      unfold wtR
      induction l with
      | nil => exact Nat.le_refl _
      | cons a l ih => rw [List.map_cons, List.sum_cons, List.length_cons]; lia
    have := this runs
    have := H.wt
    have := H.hk
    lia
  have O := c_orders (n + 8 - k) k runs H.hk H.wt
  rw [show n + 8 - k + k + 1 = n + 9 by lia, H.os] at O
  have Ol : Os.length ≤ 256 := by
    rw [← H.os]
    exact Nat.le_trans (ords_le k runs H.hk) (Nat.pow_le_pow_right (n := 2) (by decide) H.wt)
  have nol : (natssD Os).length ≤ lim := by rw [natssD_len]; unfold lim; lia
  (simp (decide := true) only [jb,jc,jg,ji,jj,jn,jo,jq,↓jS,↓jT,kf,kg,kD,k4,k5,qu,qv,qG,qN,qO,qP,q9,ya,fuelN,yo,yr,yy,yG,yI,yJ,yK,yQ,yT,zu,zw,zC,zH,zI,zJ,zK,zL,zM,zW,x6,x7,↓reduceIte,wU,Nat.reduceAdd,vE, *])
  have tq := fun o (ho : o ∈ Os) => H.tl (leadN o bl ++ rest) (by rw [← H.ts]; exact List.mem_map.mpr ⟨o, ho, rfl⟩)
  rw [cGo_g (items := natssD Os) (fun o => D.list (natsD o)) (fun o => .str (leadN o bl ++ rest)) Os rfl (strsD Ts) (by rw [← H.ts]; unfold strsD; rw [List.map_map]; rfl)]
  rotate_left
  · intro o ho
    have d1 := c_leadS (n + 8) o bl (by have := (H.o8 o ho).1; lia) (fun r hr => by have := (H.o8 o ho).2 r hr; lia) (by have := H.b8; lia)
    have d2 : binF .Add (.str (leadN o bl)) (.str rest) = some (.str (leadN o bl ++ rest)) := by
      rw [xN, if_pos (by have := (tq o ho).1; rw [List.length_append] at this; unfold lim; lia)]
    clear H ho tq O nol Ol
    exact ⟨_, by (simp (decide := true) only [kR,qj,zO, *]) <;> rfl, by (simp (decide := true) only [jG,↓jI,↓jJ,↓jK,j7,j8,ky,qG,qH,qI,qN,qO,qP,qY,q9,yo,yr,yt,yu,yy,yF,yG,xJ,↓reduceIte,wa,wc,wG,Int.reduceNeg,vF,vG, *])⟩
  clear O tq c2 c4
  have tsl : (strsD Ts).length ≤ lim := by unfold strsD; rw [List.length_map, ← H.ts, List.length_map]; unfold lim; lia
  (simp (decide := true) only [jb,jc,jg,ji,jj,jn,jo,jq,↓jU,kZ,qw,ya,fuelN,yI,yJ,yK,yQ,yT,zu,zC,zH,zI,zJ,zM,x7,↓reduceIte,wU,Nat.reduceAdd, *])
  rw [cGo_g (items := strsD Ts) D.str (fun l => .bytes (decB l [32, 9])) Ts rfl (bytsD Rs) (by rw [← H.rs]; unfold bytsD; rw [List.map_map]; rfl)]
  rotate_left
  · intro a ha
    obtain ⟨a1, a2⟩ := H.tl a ha
    obtain ⟨a3, a4⟩ := H.tq a ha
    have e1 := c_decode (n + 6) a 32 9 a2 (by decide) (by decide) (by unfold lim; lia) a3 a4
    clear H ha a1 a2 a3 a4
    exact ⟨_, by (simp (decide := true) only [qj,yp,zO, *]) <;> rfl, by (simp (decide := true) only [jG,↓jI,j7,kv,qG,qN,qO,qP,q9,yo,yr,yy,yG,xK,vz, *])⟩
  have Rl : Rs.length = Os.length := by rw [← H.rs, ← H.ts, List.length_map, List.length_map]
  have bsl : (bytsD Rs).length = Rs.length := List.length_map ..
  have rsl : Rs.length ≤ lim := by unfold lim; lia
  have x1 := indexD_natss H.mr (by unfold lim; lia)
  have x2 : idxD (.list (bytsD Rs)) ((Os.idxOf runs : Nat) : Int) = some (.bytes R1) := by
    have := idx_map D.bytes (xs := Rs) (k := Os.idxOf runs) [] (by rw [Rl]; exact List.idxOf_lt_length_of_mem H.mr) rsl
    rwa [H.ix] at this
  have x3 : eqD 8 (.bytes R1) (.bytes R1) = some true := by rw [xY, decide_eq_true rfl]
  have rz : Rs.length ≤ 256 := by lia
  clear Rl
  (simp (decide := true) only [ja,jb,jc,jg,jh,ji,jj,jn,jo,jq,jy,↓jM,↓jS,↓jT,↓jV,kY,qx,qN,qO,qP,qZ,q8,ya,yk,fuelN,yv,yy,yF,yI,yJ,yK,yQ,yT,ze,zf,zn,zr,zu,zC,zH,zI,zJ,zM,xP,x7,Bool.not_true,List.nil_append,List.cons_append,↓reduceIte,wa,wj,wD,wU,wY,Nat.reduceAdd, *])
  rw [cGo_g (items := bytsD Rs) D.bytes (fun r => .int ((num256 r : Nat) : Int)) Rs rfl (natsD (Rs.map num256)) (by unfold natsD; rw [List.map_map]; rfl)]
  rotate_left
  · intro a ha
    have e1 := c_number (n + 8) a (H.rl a ha)
    clear H ha x1 x2 x3
    exact ⟨_, by (simp (decide := true) only [qj,yp,zO, *]) <;> rfl, by (simp (decide := true) only [↓jI,j7,kv,qG,qN,qO,qP,q9,yo,yr,yy,yG,vD, *])⟩
  clear x1 x2 x3
  have r7 := rng_1 Rs.length
  have r8 : itD (.rng 1 (Rs.length : Int) 1) = some ((List.range (Rs.length - 1)).map fun i : Nat => D.int ((i + 1 : Nat) : Int)) := by
    rw [wX, if_pos (by lia), r7]
  have hl : (Rs.map num256).length = Rs.length := List.length_map ..
  (simp (decide := true) only [jb,jc,jh,ji,jj,jn,jo,jy,jG,↓jV,km,kt,kD,kX,qy,qG,qL,qN,qO,qP,q9,ya,yk,fuelN,yo,yr,yy,yA,yG,yI,yJ,yK,yQ,yT,zG,zH,zJ,zK,zL,zM,zW,xJ,x7,↓reduceIte,wa,wb,wc,wv,wF,wM,not_false_eq_true,Nat.reduceAdd,vG,vL, *])
  have up := H.up
  have hg : ∀ i : Nat, i < Rs.length → idxD (.list (natsD (Rs.map num256))) (i : Int) = some (.int ((num256 (Rs[i]?.getD []) : Nat) : Int)) := fun i hi => by
    rw [idx_nats (by rw [hl]; exact hi) (by rw [hl]; exact rsl), List.getElem?_map, List.getElem?_eq_getElem hi]; rfl
  rw [cGo_none (fun i : Nat => D.int ((i + 1 : Nat) : Int)) (List.range (Rs.length - 1)) rfl]
  rotate_left
  · intro i hi
    have hi : i + 1 < Rs.length := by have := List.mem_range.mp hi; lia
    have q1 := hg (i + 1) hi
    have q2 := hg i (by lia)
    have q3 : binF .Sub (.int ((i + 1 : Nat) : Int)) (.int 1) = some (.int (i : Int)) := n_sub (b := 1) (by lia)
    have q4 : ¬ ((num256 (Rs[i + 1]?.getD []) : Nat) : Int) ≤ ((num256 (Rs[i]?.getD []) : Nat) : Int) := by have := up i hi; lia
    clear H hi hg up r7 r8
    exact ⟨_, by (simp (decide := true) only [kQ,qj,zO, *]) <;> rfl, by (simp (decide := true) only [jG,↓jI,↓jJ,qH,qV,qX,yk,yt,yv,yF,zN,xJ,xS,decide_false, *])⟩
  clear hg up r7 r8
  have en : eqD 8 (.list []) (.list []) = some true := rfl
  have W1 := c_ws (n + 8) L1 (by lia)
  have ow := oO_ws
  (simp (decide := true) only [ja,jb,jc,jg,jh,ji,jj,jn,jo,jq,jy,↓jO,↓jU,kn,kD,kW,qz,qG,qL,qN,qO,qP,q9,ya,yk,fuelN,yo,yr,yv,yy,yA,yG,yI,yJ,yK,yT,zn,zr,zw,zC,zH,zI,zJ,zK,zL,zM,zW,xP,x6,Bool.not_true,↓reduceIte,wU,Nat.reduceAdd,vj, *])
  have m1 := mtm_equal
  rw [cGo_none (items := strsD Ts) D.str Ts rfl]
  rotate_left
  · intro a ha
    have e1 := c_ws (n + 8) a (by have := (H.tl a ha).1; lia)
    have e2 := c_equal (n + 8) a L1
    rw [show (decide ((wsOf a).count = (wsOf L1).count) && decide ((wsOf a).b = (wsOf L1).b)) = true from H.eq a ha] at e2
    clear H ha
    exact ⟨_, by (simp (decide := true) only [kQ,qj,zO, *]) <;> rfl, by (simp (decide := true) only [↓jI,↓jJ,j7,kx,qG,qN,qO,qP,q8,q9,yb,yn,yo,yr,yy,yG,yH,ze,zf,zn,zN,xZ,Bool.not_true,List.nil_append,List.cons_append,wY,vj, *])⟩
  have a1 := atw_norm
  have hc := H.hc
  have hb := H.hb
  have cl := H.cl
  have c8 := H.c8
  have hto := H.to
  have ncl : (natsD c).length = c.length := natsD_len c
  have clm : c.length ≤ lim := by unfold lim; lia
  have r9 : itD (.rng 0 (c.length : Int) 1) = some ((List.range c.length).map fun i : Nat => D.int (i : Int)) := by
    rw [wX, if_pos (by lia), rng_0]
  (simp (decide := true) only [ja,jb,jc,jg,ji,jj,jn,jo,jq,jr,jz,↓jW,↓jX,kt,kD,kS,kT,kU,qA,qB,qC,qG,qL,qN,qO,qP,qR,q9,fuelN,yo,yr,yv,yy,yA,yC,yG,yK,yQ,yR,yS,yT,yU,za,zb,zn,zr,zz,zQ,zR,zS,xP,x7,Bool.not_true,↓reduceIte,wa,wb,wc,wv,wH,wL,wZ,List.length_cons,List.length_nil,Nat.reduceAdd,vG,vL, *])
  refine outD_of (nx_forU (fun i : Nat => D.int (i : Int)) (List.range c.length) (fun s i => s ++ List.replicate (c[i]?.getD 0) i) toU (fun k s => s.length ≤ 8 * k) [] none ?_ (Nat.le_refl _) ?_ ?_)
  · unfold toU natsD; (simp (decide := true) only [jl,kO,kP,kR,kS,xd,xe,List.map_nil, *])
  · intro i s j a ha hI
    have hi : i < c.length := by have := (List.getElem?_eq_some_iff.mp ha).1; rwa [List.length_range] at this
    have ha' : a < c.length := List.mem_range.mp (List.mem_of_getElem? ha)
    have x1 := idxT_nats (l := c) ha' clm
    have x2 := c8 a
    have x3 : binF .Mult (.list [.int (a : Int)]) (.int ((c[a]?.getD 0 : Nat) : Int)) = some (.list (natsD (List.replicate (c[a]?.getD 0) a))) := by
      rw [bl_mul, if_pos (by rw [Int.toNat_natCast, List.length_cons, List.length_nil]; unfold lim; lia), Int.toNat_natCast]
      exact congrArg (fun z => some (D.list z)) (reps_rep (fun k : Nat => D.int (k : Int)) (c[a]?.getD 0) a)
    have x4 : (natsD s).length + (natsD (List.replicate (c[a]?.getD 0) a)).length ≤ lim := by
      rw [natsD_len, natsD_len, List.length_replicate]; unfold lim; lia
    have na := natsD_app
    refine ⟨by rw [List.length_append, List.length_replicate]; lia, _, by unfold toU; (simp (decide := true) only [kO,kP,kR,kS,qD,zO,xd,xe, *]) <;> rfl, some (.int (a : Int)), .inl ?_⟩
    clear H hI hi ha ha' hto c8 r9 cl hc hb
    unfold toU
    (simp (decide := true) only [ja,jb,jc,jg,ji,jj,jm,jn,jo,jx,↓jX,↓j0,ko,kO,kP,kR,kS,qH,qL,qN,qO,qV,fuelN,yt,yy,yA,yF,yQ,zp,xd,xe,↓reduceIte,Nat.reduceAdd, *])
  · intro j hI
    have e5 : List.foldl (fun s i => s ++ List.replicate (c[i]?.getD 0) i) [] (List.range c.length) = told := by
      rw [fold_app]; exact hto
    rw [e5]
    clear hI e5 r9 c8 hto
    have z1 : (natsD told).length ≤ lim := by rw [natsD_len]; have := H.tol; unfold lim; lia
    have z2 : cutD (.list (natsD told)) none none (some (-1)) = some (.list (natsD told.reverse)) := by
      rw [cut_rev z1]; unfold natsD; rw [List.map_reverse]
    have t8 : ∀ r ∈ told, r ≤ 17 := fun r hr => Nat.le_trans (H.to8 r hr) (by decide)
    have b8 := H.b8
    have tn := H.tol
    have d1 := c_leadS (n + 8) told.reverse bl (by rw [List.length_reverse]; lia) (fun r hr => t8 r (List.mem_reverse.mp hr)) (by lia)
    have d2 := c_leadS (n + 8) told bl (by lia) t8 (by lia)
    have Tl : Ts.length = Os.length := by rw [← H.ts, List.length_map]
    have O1 : 0 < Os.length := List.length_pos_of_mem H.mr
    have T0 : 0 < Ts.length := by lia
    have Tm : Ts.length ≤ lim := by unfold lim; lia
    have g1 : Ts[0]?.getD [] ∈ Ts := by rw [List.getElem?_eq_getElem T0]; exact List.getElem_mem _
    have g2 : Ts[Ts.length - 1]?.getD [] ∈ Ts := by rw [List.getElem?_eq_getElem (by lia)]; exact List.getElem_mem _
    have d3 : binF .Add (.str (leadN told.reverse bl)) (.str rest) = some (.str (Ts[0]?.getD [])) := by
      rw [xN, if_pos (by have := (H.tl _ g1).1; rw [← H.t0, List.length_append] at this; unfold lim; lia), H.t0]
    have d4 : binF .Add (.str (leadN told bl)) (.str rest) = some (.str (Ts[Ts.length - 1]?.getD [])) := by
      rw [xN, if_pos (by have := (H.tl _ g2).1; rw [← H.t1, List.length_append] at this; unfold lim; lia), H.t1]
    have d5 : idxD (.list (strsD Ts)) 0 = some (.str (Ts[0]?.getD [])) := idx_map D.str (k := 0) [] T0 Tm
    have d6 := idx_lastS T0 Tm
    have d7 : eqD 8 (.list [.str (Ts[0]?.getD []), .str (Ts[Ts.length - 1]?.getD [])]) (.list [.str (Ts[0]?.getD []), .str (Ts[Ts.length - 1]?.getD [])]) = some true := by
      have := eqD_strs [Ts[0]?.getD [], Ts[Ts.length - 1]?.getD []] [Ts[0]?.getD [], Ts[Ts.length - 1]?.getD []]
      rw [decide_eq_true rfl] at this; exact this
    have W2 := c_ws (n + 8) L2 (by lia)
    have N2 := c_new (n + 7) L2 L1 (by lia) (by lia)
    have E2 := c_equal (n + 8) L2 L1
    rw [show (decide ((wsOf L2).count = (wsOf L1).count) && decide ((wsOf L2).b = (wsOf L1).b)) = A from H.al.symm] at E2
    have K1 := in_byts Rs R2
    rw [← H.al3] at K1
    have K2 := eqD_T3n_nil (witN (fun a b => decide (a ≠ b)) L2 L1)
    rw [← H.al2] at K2
    have K3 := eq_bb A
    have m2 := mtm_new
    clear H Tl O1 T0 Tm g1 g2 tn b8 t8 Ol hk8 cl clm ncl
    unfold toU
    (simp (decide := true) only [ja,jb,jc,jd,jg,jh,ji,jj,jk,jn,jo,jq,jy,jB,jG,↓jN,↓jP,↓jQ,↓jU,↓jV,↓jW,↓jY,↓jZ,↓j3,↓j4,kD,kO,kP,kQ,kR,kS,qE,qF,qG,qH,qI,qJ,qL,qN,qO,qP,qS,qT,qU,qW,qY,q8,q9,yk,fuelN,yo,yp,yr,yt,yu,yv,yw,yy,yA,yD,yE,yF,yG,yK,yL,yT,zc,ze,zf,zn,zr,zv,zw,xd,xe,xJ,xO,xP,xV,x6,Bool.not_true,List.nil_append,List.cons_append,↓reduceIte,wY,Int.reduceNeg,Nat.reduceAdd,vj,vF, *])
/-! plain: columns of a lead -/
/-! the longest run -/
noncomputable def runsF : Nat → List Nat → List Nat
  | k, [] => [k]
  | k, c :: r => if c = 9 then k :: runsF 0 r else runsF (k + 1) r
theorem split_runs : ∀ (d : List Nat) (k : Nat) (p : List Nat) (ps : List (List Nat)), splitAt 9 d = p :: ps → (k + p.length) :: ps.map List.length = runsF k d
  | [], k, p, ps, h => by
    rw [splitAt] at h
    cases h; rfl
  | c :: r, k, p, ps, h => by
    rw [splitAt] at h
    rw [runsF]
    by_cases hc : c = 9
    · rw [if_pos hc] at h ⊢
      cases h
      generalize e : splitAt 9 r = r_; induction r_ using List.casesOn with
      | nil => exact absurd e (splitAt_ne 9 r)
      | cons p' ps' =>
        rw [← split_runs r 0 p' ps' e, Nat.zero_add]; rfl
    · rw [if_neg hc] at h ⊢
      generalize e : splitAt 9 r = r_; induction r_ using List.casesOn with
      | nil => exact absurd e (splitAt_ne 9 r)
      | cons p' ps' =>
        rw [e] at h
        cases h
        rw [← split_runs r (k + 1) p' _ e, List.length_cons, show k + (p'.length + 1) = k + 1 + p'.length by lia]
/-! columns grow -/
/-! equal columns, equal norms -/
noncomputable def cAt (count : List Nat) (i : Nat) : Nat := count[i]?.getD 0
theorem cAt_out {count : List Nat} {i : Nat} (h : count.length ≤ i) : cAt count i = 0 := by unfold cAt; rw [List.getElem?_eq_none h]; rfl
noncomputable def gS (count : List Nat) (ts M : Nat) : Nat := ((List.range (M - ts)).map fun i => (ts + i) / ts * cAt count (ts + i)).sum
theorem gS_more (count : List Nat) (ts : Nat) : ∀ k, gS count ts (count.length + k) = ilI count ts
  | 0 => rfl
  | k + 1 => by
    have ih := gS_more count ts k
    unfold gS at ih ⊢
    rcases Nat.lt_or_ge (count.length + k) ts with h | h
    · rw [show count.length + (k + 1) - ts = 0 by lia]
      rw [show count.length + k - ts = 0 by lia] at ih
      exact ih
    · rw [show count.length + (k + 1) - ts = (count.length + k - ts) + 1 by lia, List.range_succ, List.map_append, List.sum_append, ih]
      simp only [List.map_cons, List.map_nil, List.sum_cons, List.sum_nil]
      rw [cAt_out (by lia)]
      lia
theorem gS_eq {count : List Nat} {ts M : Nat} (h : count.length ≤ M) : gS count ts M = ilI count ts := by
  have := gS_more count ts (M - count.length)
  rwa [show count.length + (M - count.length) = M by lia] at this
theorem gS_head {count : List Nat} {ts M : Nat} (h : ts < M) (h0 : 0 < ts) : gS count ts M = cAt count ts + ((List.range (M - ts - 1)).map fun i => (ts + (i + 1)) / ts * cAt count (ts + (i + 1))).sum := by
  unfold gS
  rw [show M - ts = (M - ts - 1) + 1 by lia, List.range_succ_eq_map, List.map_cons, List.sum_cons, List.map_map, Nat.add_zero, Nat.div_self h0, Nat.one_mul]
  rfl
theorem cAt_of_gS {c d : List Nat} {M : Nat} (h : ∀ ts, 1 ≤ ts → ts < M → gS c ts M = gS d ts M) : ∀ k i, M - i ≤ k → 1 ≤ i → cAt c i = cAt d i ∨ M ≤ i
  | 0, i, hk, _ => .inr (by lia)
  | k + 1, i, hk, hi => by
    rcases Nat.lt_or_ge i M with hM | hM
    · refine .inl ?_
      have e := h i hi hM
      rw [gS_head hM hi, gS_head hM hi] at e
      have : ((List.range (M - i - 1)).map fun j => (i + (j + 1)) / i * cAt c (i + (j + 1))) = ((List.range (M - i - 1)).map fun j => (i + (j + 1)) / i * cAt d (i + (j + 1))) := by
        refine List.map_congr_left fun j hj => ?_
        have hj : j < M - i - 1 := by simpa using hj
        rcases cAt_of_gS h k (i + (j + 1)) (by lia) (by lia) with z | z
        · rw [z]
        · lia
      rw [this] at e
      lia
    · exact .inr hM
noncomputable def CntI (s : Ws) : Prop := s.nt = s.count.sum ∧ ∀ i, i + 1 = s.count.length → cAt s.count i ≠ 0
theorem sum_set : ∀ (l : List Nat) (j : Nat), j < l.length → (l.set j (l[j]?.getD 0 + 1)).sum = l.sum + 1
  | c :: l, 0, _ => by show (c + 1) + l.sum = c + l.sum + 1; lia
  | c :: l, j + 1, h => by
    rw [List.set_cons_succ, List.getElem?_cons_succ, List.sum_cons, List.sum_cons, sum_set l j (by simpa using h)]; lia
theorem sum_rep0 : ∀ n : Nat, (List.replicate n 0).sum = 0
  | 0 => rfl
  | n + 1 => by rw [List.replicate_succ, List.sum_cons, sum_rep0 n]
theorem sum_grow (l : List Nat) (b : Nat) : (grow l b).sum = l.sum := by
  unfold grow
  split
  · rw [List.sum_append, sum_rep0, Nat.add_zero]
  · rfl
theorem cAt_set {l : List Nat} {j i v : Nat} (h : j < l.length) : cAt (l.set j v) i = if i = j then v else cAt l i := by
  unfold cAt
  rw [List.getElem?_set]
  by_cases e : j = i
  · subst e; rw [if_pos rfl, if_pos h, if_pos rfl]; rfl
  · rw [if_neg e, if_neg fun z => e z.symm]
theorem cAt_grow (l : List Nat) (b i : Nat) : cAt (grow l b) i = cAt l i := by
  unfold grow
  split
  · unfold cAt
    rcases Nat.lt_or_ge i l.length with h | h
    · rw [List.getElem?_append_left h]
    · rw [List.getElem?_append_right h, List.getElem?_eq_none h, List.getElem?_replicate]
      split <;> rfl
  · rfl
theorem cntI_step {s : Ws} {c : Nat} (h : CntI s) : CntI (wsSt s c) := by
  unfold wsSt
  split
  · exact h
  · obtain ⟨h1, h2⟩ := h
    refine ⟨?_, fun i hi => ?_⟩
    · show s.nt + 1 = (bump s.count s.b).sum
      unfold bump
      rw [sum_set _ _ grow_len.1, sum_grow, h1]
    · show cAt (bump s.count s.b) i ≠ 0
      have hi : i + 1 = (bump s.count s.b).length := hi
      unfold bump at hi ⊢
      rw [List.length_set, grow_len.2] at hi
      rw [cAt_set grow_len.1]
      split
      · lia
      · rw [cAt_grow]
        refine h2 i ?_
        lia
theorem cntI_fold : ∀ (l : List Nat) (s : Ws), CntI s → CntI (l.foldl wsSt s)
  | [], _, h => h
  | c :: l, s, h => cntI_fold l _ (cntI_step h)
theorem cntI_of (x : List Nat) : CntI (wsOf x) := cntI_fold _ ⟨[], 0, 0, 0⟩ ⟨rfl, fun i hi => (nomatch hi)⟩
theorem sum_range (l : List Nat) : ∀ k, ((List.range (l.length + k)).map (cAt l)).sum = l.sum
  | 0 => by
    have : ∀ l : List Nat, ((List.range l.length).map (cAt l)).sum = l.sum := by
      intro l
      induction l with
      | nil => rfl
      | cons c l ih => rw [List.length_cons, List.range_succ_eq_map, List.map_cons, List.sum_cons, List.map_map, List.sum_cons, ← ih]; rfl
    exact this l
  | k + 1 => by
    rw [← Nat.add_assoc, List.range_succ, List.map_append, List.sum_append, sum_range l k]
    simp only [List.map_cons, List.map_nil, List.sum_cons, List.sum_nil]
    rw [cAt_out (by lia)]; lia
theorem count_ext {c d : List Nat} (hc : ∀ i, i + 1 = c.length → cAt c i ≠ 0) (hd : ∀ i, i + 1 = d.length → cAt d i ≠ 0) (h : ∀ i, cAt c i = cAt d i) : c = d := by
  have len : c.length = d.length := by
    rcases Nat.lt_trichotomy c.length d.length with z | z | z
    · exact absurd ((h _).symm.trans (cAt_out (by lia))) (hd (d.length - 1) (by lia))
    · exact z
    · exact absurd ((h _).trans (cAt_out (by lia))) (hc (c.length - 1) (by lia))
  refine List.ext_getElem len fun i h1 h2 => ?_
  have := h i
  unfold cAt at this
  rw [List.getElem?_eq_getElem h1, List.getElem?_eq_getElem h2] at this
  exact this
theorem lev_unfold (w : Ws) (ts : Nat) : levI w ts = w.b + ts * (ilI w.count ts + w.nt) := rfl
theorem il_zero {count : List Nat} {ts : Nat} (h : count.length ≤ ts) : ilI count ts = 0 := by
  unfold ilI; rw [show count.length - ts = 0 by lia]; rfl
theorem top_facts (x y : List Nat) : (wsOf x).b < topN x y ∧ (wsOf x).count.length ≤ topN x y ∧ (wsOf y).b < topN x y ∧ (wsOf y).count.length ≤ topN x y := by
  have l : ∀ w : Ws, w.count.length ≤ longN w + 1 := fun w => Nat.sub_le_iff_le_add.mp (Nat.le_max_left _ _)
  have b : ∀ w : Ws, w.b ≤ longN w := fun w => Nat.le_max_right _ _
  exact ⟨Nat.lt_succ_of_le (Nat.le_trans (b _) (Nat.le_max_left _ _)), Nat.le_trans (l _) (Nat.succ_le_succ (Nat.le_max_left _ _)), Nat.lt_succ_of_le (Nat.le_trans (b _) (Nat.le_max_right _ _)), Nat.le_trans (l _) (Nat.succ_le_succ (Nat.le_max_right _ _))⟩
theorem norm_of_lev {x y : List Nat} (h : ∀ ts, 1 ≤ ts → ts ≤ topN x y → levI (wsOf x) ts = levI (wsOf y) ts) : (wsOf x).count = (wsOf y).count ∧ (wsOf x).b = (wsOf y).b := by
  obtain ⟨t1, t2, t3, t4⟩ := top_facts x y
  have T : 1 ≤ topN x y := by unfold topN; lia
  have e := h (topN x y) T (Nat.le_refl _)
  rw [lev_unfold, lev_unfold, il_zero t2, il_zero t4, Nat.zero_add, Nat.zero_add] at e
  have hb : (wsOf x).b = (wsOf y).b := by
    have := congrArg (· % topN x y) e
    simp only [Nat.add_mul_mod_self_left] at this
    rwa [Nat.mod_eq_of_lt t1, Nat.mod_eq_of_lt t3] at this
  have hnt : (wsOf x).nt = (wsOf y).nt := by
    rw [hb] at e
    exact Nat.eq_of_mul_eq_mul_left T (Nat.add_left_cancel e)
  refine ⟨?_, hb⟩
  have hg : ∀ ts, 1 ≤ ts → ts < topN x y → gS (wsOf x).count ts (topN x y) = gS (wsOf y).count ts (topN x y) := fun ts h1 h2 => by
    rw [gS_eq t2, gS_eq t4]
    have e := h ts h1 (Nat.le_of_lt h2)
    rw [lev_unfold, lev_unfold, hb, hnt] at e
    have := Nat.eq_of_mul_eq_mul_left h1 (Nat.add_left_cancel e)
    lia
  have c1 := cntI_of x
  have c2 := cntI_of y
  have big : ∀ i, 1 ≤ i → cAt (wsOf x).count i = cAt (wsOf y).count i := fun i hi => by
    rcases cAt_of_gS hg (topN x y) i (by lia) hi with z | z
    · exact z
    · rw [cAt_out (by lia), cAt_out (by lia)]
  have zero : cAt (wsOf x).count 0 = cAt (wsOf y).count 0 := by
    have s1 := sum_range (wsOf x).count (topN x y - (wsOf x).count.length)
    have s2 := sum_range (wsOf y).count (topN x y - (wsOf y).count.length)
    rw [show (wsOf x).count.length + (topN x y - (wsOf x).count.length) = (topN x y - 1) + 1 by lia, List.range_succ_eq_map, List.map_cons, List.sum_cons, List.map_map] at s1
    rw [show (wsOf y).count.length + (topN x y - (wsOf y).count.length) = (topN x y - 1) + 1 by lia, List.range_succ_eq_map, List.map_cons, List.sum_cons, List.map_map] at s2
    have : (List.range (topN x y - 1)).map (cAt (wsOf x).count ∘ Nat.succ) = (List.range (topN x y - 1)).map (cAt (wsOf y).count ∘ Nat.succ) := List.map_congr_left fun i _ => big (i + 1) (by lia)
    rw [this] at s1
    have := c1.1
    have := c2.1
    lia
  refine count_ext c1.2 c2.2 fun i => ?_
  induction i using Nat.casesAuxOn with
  | zero => exact zero
  | succ i => exact big (i + 1) (by lia)
theorem lev_of_norm {x y : List Nat} (h1 : (wsOf x).count = (wsOf y).count) (h2 : (wsOf x).b = (wsOf y).b) (ts : Nat) : levI (wsOf x) ts = levI (wsOf y) ts := by
  rw [lev_unfold, lev_unfold, h1, h2, (cntI_of x).1, (cntI_of y).1, h1]
theorem eqB_iff (x y : List Nat) : eqB x y = true ↔ ∀ i, i < topN x y → levI (wsOf x) (i + 1) = levI (wsOf y) (i + 1) := by
  unfold eqB
  rw [Bool.and_eq_true, decide_eq_true_eq, decide_eq_true_eq]
  refine ⟨fun h i _ => lev_of_norm h.1 h.2 _, fun h => norm_of_lev fun ts h1 h2 => ?_⟩
  have := h (ts - 1) (by lia)
  rwa [show ts - 1 + 1 = ts by lia] at this
/-! plain: octets and figures -/
noncomputable def bytesG : List Nat → List Nat
  | a :: b :: c :: d :: r => (a * 4 + b / 16) :: (b % 16 * 16 + c / 4) :: (c % 4 * 64 + d) :: bytesG r
  | _ => []
noncomputable def numB (s : Nat) (l : List Nat) : Nat := l.foldl (fun s x => 256 * s + x) s
theorem ind4 {α : Type} {Q : α → Prop} {P : List α → Prop} (h0 : P []) (h4 : ∀ a b c d r, Q a → Q b → Q c → Q d → P r → P (a :: b :: c :: d :: r)) {F : List α} (h : F.length % 4 = 0) (k : ∀ f ∈ F, Q f) : P F := by
  have go : ∀ (n : Nat) (F : List α), F.length = 4 * n → (∀ f ∈ F, Q f) → P F := fun n => by
    induction n with
    | zero => exact of0 fun _ => h0
    | succ n ih =>
      show ∀ F : List α, F.length = 4 * n + 1 + 1 + 1 + 1 → (∀ f ∈ F, Q f) → P F
      exact ofS fun a => ofS fun b => ofS fun c => ofS fun d r e k => h4 a b c d r (k a (.head _)) (k b (.tail _ (.head _))) (k c (.tail _ (.tail _ (.head _)))) (k d (.tail _ (.tail _ (.tail _ (.head _))))) (ih r e fun f hf => k f (.tail _ (.tail _ (.tail _ (.tail _ hf)))))
  exact go (F.length / 4) F (Nat.mul_div_cancel' (Nat.dvd_of_mod_eq_zero h)).symm k
theorem num4 {s a b c d u v w x : Nat} (h : b = u * 16 + v) (h' : c = w * 4 + x) : 64 * (64 * (64 * (64 * s + a) + b) + c) + d = 256 * (256 * (256 * s + (a * 4 + u)) + (v * 16 + w)) + (x * 64 + d) := by subst h h'; lia
theorem num_eq {F : List Nat} (h : F.length % 4 = 0) (k : ∀ f ∈ F, f < 64) : ∀ s, F.foldl (fun s f => 64 * s + f) s = numB s (bytesG F) :=
  ind4 (P := fun F => ∀ s, F.foldl (fun s f => 64 * s + f) s = numB s (bytesG F)) (fun _ => rfl) (fun a b c d r _ _ _ _ ih s => (ih _).trans (congrArg (fun z => numB z (bytesG r)) (num4 (Nat.div_add_mod' b 16).symm (Nat.div_add_mod' c 4).symm))) h k
theorem bytesG_len {F : List Nat} (h : F.length % 4 = 0) : (bytesG F).length = F.length / 4 * 3 :=
  ind4 (Q := fun _ => True) (P := fun F => (bytesG F).length = F.length / 4 * 3) rfl (fun a b c d r _ _ _ _ ih => by
    show (bytesG r).length + 3 = (r.length + 4) / 4 * 3
    rw [Nat.add_div_right _ (by decide), Nat.succ_mul, ih]) h fun _ _ => trivial
theorem ma_lt {a b m k : Nat} (ha : a < m) (hb : b < k) : a * k + b < m * k := Nat.lt_of_lt_of_le (Nat.add_lt_add_left hb _) ((Nat.succ_mul a k).symm ▸ Nat.mul_le_mul_right k ha)
theorem d16 {b : Nat} (h : b < 64) : b / 16 < 4 := Nat.div_lt_of_lt_mul h
theorem d4 {b : Nat} (h : b < 64) : b / 4 < 16 := Nat.div_lt_of_lt_mul h
theorem m16 (b : Nat) : b % 16 < 16 := Nat.mod_lt _ (by decide)
theorem m4 (b : Nat) : b % 4 < 4 := Nat.mod_lt _ (by decide)
theorem bytesG_lt {F : List Nat} (h : F.length % 4 = 0) (k : ∀ f ∈ F, f < 64) : ∀ x ∈ bytesG F, x < 256 :=
  ind4 (P := fun F => ∀ x ∈ bytesG F, x < 256) (fun _ h => no_mem h) (fun a b c d r ha hb hc hd ih => List.forall_mem_cons.mpr ⟨ma_lt ha (d16 hb), List.forall_mem_cons.mpr ⟨ma_lt (m16 b) (d4 hc), List.forall_mem_cons.mpr ⟨ma_lt (m4 c) hd, ih⟩⟩⟩) h k
theorem bytesG_app {G : List Nat} (H : List Nat) (h : G.length % 4 = 0) : bytesG (G ++ H) = bytesG G ++ bytesG H :=
  ind4 (Q := fun _ => True) (P := fun G => bytesG (G ++ H) = bytesG G ++ bytesG H) rfl (fun a b c d r _ _ _ _ ih => congrArg (fun l => (a * 4 + b / 16) :: (b % 16 * 16 + c / 4) :: (c % 4 * 64 + d) :: l) ih) h fun _ _ => trivial
noncomputable def itO : Nat → List Nat × Nat → List Nat × Nat
  | 0, s => s
  | k + 1, s => itO k (s.1 ++ [s.2 % 256], s.2 / 256)
theorem foldl_itO : ∀ (l : List Nat) (s : List Nat × Nat), l.foldl (fun (s : List Nat × Nat) (_ : Nat) => (s.1 ++ [s.2 % 256], s.2 / 256)) s = itO l.length s
  | [], _ => rfl
  | _ :: l, s => by rw [List.foldl_cons, foldl_itO l, List.length_cons]; rfl
theorem itO_bytes : ∀ (rs : List Nat) (o : List Nat) (t : Nat), (∀ x ∈ rs, x < 256) → itO rs.length (o, numB t rs.reverse) = (o ++ rs, t)
  | [], o, t, _ => by simp [itO, numB]
  | x :: rs, o, t, h => by
    have hx := h x List.mem_cons_self
    have ih := itO_bytes rs (o ++ [x]) t fun y hy => h y (List.mem_cons_of_mem _ hy)
    have e : numB t (x :: rs).reverse = 256 * numB t rs.reverse + x := by
      unfold numB; rw [List.reverse_cons, List.foldl_append]; rfl
    rw [List.length_cons, itO, e]
    dsimp only
    rw [show (256 * numB t rs.reverse + x) % 256 = x by lia, show (256 * numB t rs.reverse + x) / 256 = numB t rs.reverse by lia, ih]
    simp
theorem octN_eq {F : List Nat} (h : F.length % 4 = 0) (hf : ∀ f ∈ F, f < 64) (sp : Nat) : octN F sp = (bytesG F).take ((bytesG F).length - sp) := by
  have e : numN F = numB 0 (bytesG F).reverse.reverse := by rw [List.reverse_reverse]; exact num_eq h hf 0
  have i := itO_bytes (bytesG F).reverse [] 0 fun x hx => bytesG_lt h hf x (List.mem_reverse.mp hx)
  unfold octN octF
  rw [foldl_itO, List.length_range, ← bytesG_len h, e]
  rw [List.length_reverse] at i
  rw [i, List.nil_append, List.reverse_reverse]
theorem or_add {a b k : Nat} (h : b < 2 ^ k) : a * 2 ^ k ||| b = a * 2 ^ k + b := by
  rw [← Nat.shiftLeft_eq, Nat.shiftLeft_add_eq_or_of_lt h]
/-! encoding -/
noncomputable def b2n (s : B2) (x : Nat) : B2 :=
  if s.lb = 0 then ⟨s.out ++ [sg ((s.lc * 256 + x) % 65536 / 4 % 64)], 2, (s.lc * 256 + x) % 65536⟩
  else if s.lb = 2 then ⟨s.out ++ [sg ((s.lc * 256 + x) % 65536 / 16 % 64)], 4, (s.lc * 256 + x) % 65536⟩
  else ⟨s.out ++ [sg ((s.lc * 256 + x) % 65536 / 64 % 64)] ++ [sg ((s.lc * 256 + x) % 65536 / 1 % 64)], 0, (s.lc * 256 + x) % 65536⟩
theorem u8 {x : Nat} (h : x < 256) : x.toUInt8.toNat = x := by
  show (UInt8.ofNat x).toNat = x
  rw [UInt8.toNat_ofNat']
  exact Nat.mod_eq_of_lt h
theorem b2_nat : ∀ (l : List Nat) (s : B2), (∀ x ∈ l, x < 256) → (l.map fun k => k.toUInt8).foldl b2st s = l.foldl b2n s
  | [], _, _ => rfl
  | x :: l, s, h => by
    have hx := h x List.mem_cons_self
    rw [List.map_cons, List.foldl_cons, List.foldl_cons]
    have : b2st s x.toUInt8 = b2n s x := by
      unfold b2st b2n
      rw [u8 hx, show s.lc * 256 ||| x = s.lc * 256 + x from or_add (k := 8) hx]
    rw [this]
    exact b2_nat l _ fun y hy => h y (List.mem_cons_of_mem _ hy)
theorem pick1 {x y k m n a r : Nat} (e : x = y * (k * m) + (a * k + r)) (ha : a < m) (hr : r < k) : x % (k * (m * n)) / k % m = a := by
  rw [Nat.mod_mul_right_div_self, Nat.mod_mul_right_mod, e, Nat.mul_comm k m, ← Nat.mul_assoc, ← Nat.add_assoc, ← Nat.add_mul, Nat.add_comm, Nat.add_mul_div_right _ _ (Nat.zero_lt_of_lt hr), Nat.div_eq_of_lt hr, Nat.zero_add, Nat.add_comm, Nat.add_mul_mod_self_right, Nat.mod_eq_of_lt ha]
theorem low {t y x m n : Nat} (e : t = y * m + x) (h : x < m) : t % (m * n) % m = x := by rw [Nat.mod_mul_right_mod, e, Nat.add_comm, Nat.add_mul_mod_self_right, Nat.mod_eq_of_lt h]
theorem low4 {l a b : Nat} (hb : b < 64) : (l * 256 + (a * 4 + b / 16)) % 65536 % 4 = b / 16 := low (y := l * 64 + a) (n := 16384) (by lia) (d16 hb)
theorem low16 {l v c : Nat} (hc : c < 64) : (l * 256 + (v * 16 + c / 4)) % 65536 % 16 = c / 4 := low (y := l * 16 + v) (n := 4096) (by lia) (d4 hc)
theorem st2e {l q u v w b : Nat} (h1 : q * 4 + u = l) (h2 : u * 16 + v = b) : l * 256 + (v * 16 + w) = q * 1024 + (b * 16 + w) := by subst h1 h2; lia
theorem st3e {l q u v d c : Nat} (h1 : q * 16 + u = l) (h2 : u * 4 + v = c) : l * 256 + (v * 64 + d) = q * 4096 + (c * 64 + d) := by subst h1 h2; lia
theorem st4e (l v d : Nat) : l * 256 + (v * 64 + d) = (l * 4 + v) * 64 + (d * 1 + 0) := by lia
theorem st1 {o : List Nat} {l a b : Nat} (ha : a < 64) (hb : b < 64) : b2n ⟨o, 0, l⟩ (a * 4 + b / 16) = ⟨o ++ [sg a], 2, (l * 256 + (a * 4 + b / 16)) % 65536⟩ :=
  congrArg (fun z => B2.mk (o ++ [sg z]) 2 ((l * 256 + (a * 4 + b / 16)) % 65536)) (pick1 (k := 4) (m := 64) (n := 256) rfl ha (d16 hb))
theorem st2 {o : List Nat} {l b c : Nat} (h : l % 4 = b / 16) (hb : b < 64) (hc : c < 64) : b2n ⟨o, 2, l⟩ (b % 16 * 16 + c / 4) = ⟨o ++ [sg b], 4, (l * 256 + (b % 16 * 16 + c / 4)) % 65536⟩ :=
  congrArg (fun z => B2.mk (o ++ [sg z]) 4 ((l * 256 + (b % 16 * 16 + c / 4)) % 65536)) (pick1 (k := 16) (m := 64) (n := 64) (y := l / 4) (r := c / 4) (st2e (h ▸ Nat.div_add_mod' l 4) (Nat.div_add_mod' b 16)) hb (d4 hc))
theorem st3 {o : List Nat} {l c d : Nat} (h : l % 16 = c / 4) (hc : c < 64) (hd : d < 64) : b2n ⟨o, 4, l⟩ (c % 4 * 64 + d) = ⟨o ++ [sg c] ++ [sg d], 0, (l * 256 + (c % 4 * 64 + d)) % 65536⟩ := by
  have e1 : (l * 256 + (c % 4 * 64 + d)) % 65536 / 64 % 64 = c := pick1 (k := 64) (m := 64) (n := 16) (y := l / 16) (st3e (h ▸ Nat.div_add_mod' l 16) (Nat.div_add_mod' c 4)) hc hd
  have e2 : (l * 256 + (c % 4 * 64 + d)) % 65536 / 1 % 64 = d := pick1 (k := 1) (m := 64) (n := 1024) (st4e l (c % 4) d) hd (by decide)
  show B2.mk (o ++ [sg ((l * 256 + (c % 4 * 64 + d)) % 65536 / 64 % 64)] ++ [sg ((l * 256 + (c % 4 * 64 + d)) % 65536 / 1 % 64)]) 0 _ = _
  rw [e1, e2]
theorem enc_full {F : List Nat} (o : List Nat) (lc : Nat) (h : F.length % 4 = 0) (k : ∀ f ∈ F, f < 64) : ∃ lc', (bytesG F).foldl b2n ⟨o, 0, lc⟩ = ⟨o ++ F.map sg, 0, lc'⟩ :=
  ind4 (P := fun F => ∀ o lc, ∃ lc', (bytesG F).foldl b2n ⟨o, 0, lc⟩ = ⟨o ++ F.map sg, 0, lc'⟩) (fun o lc => ⟨lc, by rw [List.map_nil, List.append_nil]; rfl⟩) (fun a b c d r ha hb hc hd ih o lc => by
    refine e1a1 (ih (o ++ [sg a] ++ [sg b] ++ [sg c] ++ [sg d]) ((((lc * 256 + (a * 4 + b / 16)) % 65536 * 256 + (b % 16 * 16 + c / 4)) % 65536 * 256 + (c % 4 * 64 + d)) % 65536)) fun lc' ih => ?_
    refine ⟨lc', ?_⟩
    show (bytesG r).foldl b2n (b2n (b2n (b2n ⟨o, 0, lc⟩ (a * 4 + b / 16)) (b % 16 * 16 + c / 4)) (c % 4 * 64 + d)) = _
    rw [st1 ha hb, st2 (low4 hb) hb hc, st3 (low16 hc) hc hd, ih, List.append_assoc, List.append_assoc, List.append_assoc, List.append_assoc]; rfl) h k o lc
theorem snoc4 {F : List Nat} (h : F.length % 4 = 0) (h4 : 4 ≤ F.length) : ∃ G a b c d, F = G ++ [a, b, c, d] ∧ G.length % 4 = 0 :=
  of4 (P := fun l => F = F.take (F.length - 4) ++ l → ∃ G a b c d, F = G ++ [a, b, c, d] ∧ G.length % 4 = 0)
    (fun a b c d e => ⟨_, a, b, c, d, e, by rw [List.length_take, Nat.min_eq_left (Nat.sub_le _ _)]; exact (Nat.mod_eq_sub_mod h4).symm.trans h⟩)
    (F.drop (F.length - 4)) (by rw [List.length_drop]; exact Nat.sub_sub_self h4) (List.take_append_drop (F.length - 4) F).symm
theorem shown_0 (G : List Nat) (a b c d : Nat) : shownN (G ++ [a, b, c, d]) 0 = G ++ [a, b, c, d] := by
  unfold shownN
  have l : (G ++ [a, b, c, d]).length = G.length + 4 := by simp
  rw [l, show G.length + 4 - 0 = G.length + 4 by lia, List.take_length_add_append, show G.length + 4 - 1 = G.length + 3 by lia, List.set_append_right _ _ (by lia), List.getElem?_append_right (by lia)]
  simp
theorem shown_1 (G : List Nat) (a b c d : Nat) : shownN (G ++ [a, b, c, d]) 1 = G ++ [a, b, c / 4 * 4] := by
  unfold shownN
  have l : (G ++ [a, b, c, d]).length = G.length + 4 := by simp
  rw [l, show G.length + 4 - 1 = G.length + 3 by lia, List.take_length_add_append, show G.length + 3 - 1 = G.length + 2 by lia, List.set_append_right _ _ (by lia), List.getElem?_append_right (by lia)]
  simp
theorem shown_2 (G : List Nat) (a b c d : Nat) : shownN (G ++ [a, b, c, d]) 2 = G ++ [a, b / 16 * 16] := by
  unfold shownN
  have l : (G ++ [a, b, c, d]).length = G.length + 4 := by simp
  rw [l, show G.length + 4 - 2 = G.length + 2 by lia, List.take_length_add_append, show G.length + 2 - 1 = G.length + 1 by lia, List.set_append_right _ _ (by lia), List.getElem?_append_right (by lia)]
  simp
/-! encoding, the end; decoding -/
theorem take_G {F G : List Nat} {a b c d : Nat} (hF : F = G ++ [a, b, c, d]) (hG : G.length % 4 = 0) : bytesG F = bytesG G ++ [a * 4 + b / 16, b % 16 * 16 + c / 4, c % 4 * 64 + d] := by
  rw [hF, bytesG_app _ hG]; rfl
theorem enc_all {F : List Nat} (h : F.length % 4 = 0) (h4 : 4 ≤ F.length) (hf : ∀ f ∈ F, f < 64) {sp : Nat} (hs : sp ≤ 2) : b2a (octB F sp) = (shownN F sp).map sg ++ List.replicate sp 61 := by
  obtain ⟨G, a, b, c, d, hF, hG⟩ := snoc4 h h4
  have ha := hf a (by rw [hF]; simp)
  have hb := hf b (by rw [hF]; simp)
  have hc := hf c (by rw [hF]; simp)
  have hd := hf d (by rw [hF]; simp)
  have kG : ∀ f ∈ G, f < 64 := fun f hm => hf f (by rw [hF]; exact List.mem_append_left _ hm)
  have lt : ∀ x ∈ octN F sp, x < 256 := fun x hx => by
    rw [octN_eq h hf] at hx
    exact bytesG_lt h hf x (List.mem_of_mem_take hx)
  have run : b2a (octB F sp) = b2fin ((octN F sp).foldl b2n ⟨[], 0, 0⟩) := by
    unfold b2a octB
    rw [b2_nat _ _ lt]
  rw [run, octN_eq h hf]
  obtain ⟨lc, e⟩ := enc_full [] 0 hG kG
  have tk := take_G hF hG
  have len : (bytesG F).length = (bytesG G).length + 3 := by rw [tk]; simp
  obtain q | q | q : sp = 0 ∨ sp = 1 ∨ sp = 2 := by lia
  · subst q
    obtain ⟨lc', e'⟩ := enc_full [] 0 h hf
    rw [Nat.sub_zero, List.take_of_length_le (Nat.le_refl _), e']
    unfold b2fin
    dsimp only
    rw [if_neg (by decide), if_neg (by decide)]
    rw [hF, shown_0]
    simp
  · subst q
    rw [len, show (bytesG G).length + 3 - 1 = (bytesG G).length + 2 from rfl, tk, List.take_length_add_append, List.foldl_append, e, List.nil_append]
    show b2fin (b2n (b2n ⟨G.map sg, 0, lc⟩ (a * 4 + b / 16)) (b % 16 * 16 + c / 4)) = _
    rw [st1 ha hb, st2 (low4 hb) hb hc]
    unfold b2fin
    dsimp only
    rw [if_neg (by decide), if_pos rfl, hF, shown_1, low16 hc]
    simp
  · subst q
    rw [len, show (bytesG G).length + 3 - 2 = (bytesG G).length + 1 from rfl, tk, List.take_length_add_append, List.foldl_append, e, List.nil_append]
    show b2fin (b2n ⟨G.map sg, 0, lc⟩ (a * 4 + b / 16)) = _
    rw [st1 ha hb]
    unfold b2fin
    dsimp only
    rw [if_pos rfl, hF, shown_2, low4 hb]
    simp
theorem tab_w : ∀ k, k < 64 → ((mkTab [43, 47] [32, 9]).getD (sg k).toUInt8.toNat (sg k).toUInt8).toNat = sgW k := by decide +kernel
theorem tab_e : ((mkTab [43, 47] [32, 9]).getD (61 : Nat).toUInt8.toNat (61 : Nat).toUInt8).toNat = 61 := by decide +kernel
theorem line_eq {F : List Nat} (h : F.length % 4 = 0) (h4 : 4 ≤ F.length) (hf : ∀ f ∈ F, f < 64) {sp : Nat} (hs : sp ≤ 2) : lineB (octB F sp) = lineN F sp := by
  have sl := shown_lt (spare := sp) hf
  unfold lineB encB trans lineN
  rw [enc_all h h4 hf hs, List.map_map, List.map_map, List.map_append, List.map_map]
  congr 1
  · refine List.map_congr_left fun k hk => ?_
    exact tab_w k (sl k hk)
  · rw [List.map_replicate]
    congr 1
    exact tab_e
/-! decoding -/
theorem tab_d : ∀ k, k < 64 → (mkTab [32, 9] [43, 47]).getD (sgW k).toUInt8.toNat (sgW k).toUInt8 = (sg k).toUInt8 := by decide +kernel
theorem tab_de : (mkTab [32, 9] [43, 47]).getD (61 : Nat).toUInt8.toNat (61 : Nat).toUInt8 = 61 := by decide +kernel
theorem sg_b64 : ∀ k, k < 64 → (sg k).toUInt8.toNat ≠ 61 ∧ b64n (sg k).toUInt8.toNat = k := by decide +kernel
theorem a2_sign {k : Nat} (h : k < 64) (s : A2) : a2st s (sg k).toUInt8 = (if s.q = 0 then ⟨s.out, 1, k, 0, s.i + 1⟩
  else if s.q = 1 then ⟨s.out ++ [s.lc * 4 ||| k / 16], 2, k % 16, 0, s.i + 1⟩
  else if s.q = 2 then ⟨s.out ++ [s.lc * 16 ||| k / 4], 3, k % 4, 0, s.i + 1⟩
  else ⟨s.out ++ [s.lc * 64 ||| k], 0, 0, 0, s.i + 1⟩) := by
  obtain ⟨h1, h2⟩ := sg_b64 k h
  unfold a2st
  rw [if_neg h1, h2, if_neg (by lia)]
theorem a2_pad (s : A2) : a2st s 61 = { s with pads := s.pads + 1, i := s.i + 1 } := by
  unfold a2st; rw [if_pos (by decide)]
theorem or2 {a b : Nat} (h : b < 64) : a * 4 ||| b / 16 = a * 4 + b / 16 := or_add (k := 2) (d16 h)
theorem or4 {b c : Nat} (h : c < 64) : b * 16 ||| c / 4 = b * 16 + c / 4 := or_add (k := 4) (d4 h)
theorem or6 {c d : Nat} (h : d < 64) : c * 64 ||| d = c * 64 + d := or_add (k := 6) h
theorem sd1 {o : List Nat} {l p i a : Nat} (ha : a < 64) : a2st ⟨o, 0, l, p, i⟩ (sg a).toUInt8 = ⟨o, 1, a, 0, i + 1⟩ := (a2_sign ha _).trans (if_pos rfl)
theorem sd2 {o : List Nat} {a p i b : Nat} (hb : b < 64) : a2st ⟨o, 1, a, p, i⟩ (sg b).toUInt8 = ⟨o ++ [a * 4 + b / 16], 2, b % 16, 0, i + 1⟩ := by rw [a2_sign hb, ← or2 hb]; rfl
theorem sd3 {o : List Nat} {b p i c : Nat} (hc : c < 64) : a2st ⟨o, 2, b, p, i⟩ (sg c).toUInt8 = ⟨o ++ [b * 16 + c / 4], 3, c % 4, 0, i + 1⟩ := by rw [a2_sign hc, ← or4 hc]; rfl
theorem sd4 {o : List Nat} {c p i d : Nat} (hd : d < 64) : a2st ⟨o, 3, c, p, i⟩ (sg d).toUInt8 = ⟨o ++ [c * 64 + d], 0, 0, 0, i + 1⟩ := by rw [a2_sign hd, ← or6 hd]; rfl
theorem dec_full {F : List Nat} (o : List Nat) (i lc : Nat) (h : F.length % 4 = 0) (k : ∀ f ∈ F, f < 64) : ∃ i' lc', (F.map fun k => (sg k).toUInt8).foldl a2st ⟨o, 0, lc, 0, i⟩ = ⟨o ++ bytesG F, 0, lc', 0, i'⟩ :=
  ind4 (P := fun F => ∀ o i lc, ∃ i' lc', (F.map fun k => (sg k).toUInt8).foldl a2st ⟨o, 0, lc, 0, i⟩ = ⟨o ++ bytesG F, 0, lc', 0, i'⟩) (fun o i lc => ⟨i, lc, by rw [List.map_nil]; exact congrArg (fun z => A2.mk z 0 lc 0 i) (List.append_nil o).symm⟩) (fun a b c d r ha hb hc hd ih o i lc => by
    refine e2a1 (ih (o ++ [a * 4 + b / 16] ++ [b % 16 * 16 + c / 4] ++ [c % 4 * 64 + d]) (i + 1 + 1 + 1 + 1) 0) fun i' lc' ih => ?_
    refine ⟨i', lc', ?_⟩
    show (r.map fun k => (sg k).toUInt8).foldl a2st (a2st (a2st (a2st (a2st ⟨o, 0, lc, 0, i⟩ (sg a).toUInt8) (sg b).toUInt8) (sg c).toUInt8) (sg d).toUInt8) = _
    rw [sd1 ha, sd2 hb, sd3 hc, sd4 hd, ih, List.append_assoc, List.append_assoc, List.append_assoc]; rfl) h k o i lc
theorem dec_line {F : List Nat} (hf : ∀ f ∈ F, f < 64) (sp : Nat) : trans ((lineN F sp).map (·.toUInt8)) (mkTab ([32, 9].map Nat.toUInt8) [43, 47]) = (shownN F sp).map (fun k => (sg k).toUInt8) ++ List.replicate sp 61 := by
  have sl := shown_lt (spare := sp) hf
  unfold trans lineN
  rw [List.map_map, List.map_append, List.map_map]
  congr 1
  · refine List.map_congr_left fun k hk => ?_
    exact tab_d k (sl k hk)
  · rw [List.map_replicate]
    congr 1
    exact tab_de
theorem dec_all {F : List Nat} (h : F.length % 4 = 0) (h4 : 4 ≤ F.length) (hf : ∀ f ∈ F, f < 64) {sp : Nat} (hs : sp ≤ 2) :
    (decS (lineN F sp) [32, 9]).out = octN F sp ∧ (decS (lineN F sp) [32, 9]).q ≠ 1 ∧ ((decS (lineN F sp) [32, 9]).q ≠ 0 → 4 ≤ (decS (lineN F sp) [32, 9]).q + (decS (lineN F sp) [32, 9]).pads) := by
  obtain ⟨G, a, b, c, d, hF, hG⟩ := snoc4 h h4
  have ha := hf a (by rw [hF]; simp)
  have hb := hf b (by rw [hF]; simp)
  have hc := hf c (by rw [hF]; simp)
  have hd := hf d (by rw [hF]; simp)
  have kG : ∀ f ∈ G, f < 64 := fun f hm => hf f (by rw [hF]; exact List.mem_append_left _ hm)
  have tk := take_G hF hG
  have len : (bytesG F).length = (bytesG G).length + 3 := by rw [tk]; simp
  have D : decS (lineN F sp) [32, 9] = a2b ((shownN F sp).map (fun k => (sg k).toUInt8) ++ List.replicate sp 61) := by
    unfold decS; rw [dec_line hf]
  rw [D, octN_eq h hf]
  obtain q | q | q : sp = 0 ∨ sp = 1 ∨ sp = 2 := by lia
  · subst q
    obtain ⟨i', lc', e⟩ := dec_full [] 0 0 h hf
    have e' : a2b ((shownN F 0).map (fun k => (sg k).toUInt8) ++ List.replicate 0 61) = ⟨[] ++ bytesG F, 0, lc', 0, i'⟩ := by
      rw [hF, shown_0, ← hF, List.replicate_zero, List.append_nil]; exact e
    rw [e', Nat.sub_zero, List.take_of_length_le (Nat.le_refl _)]
    exact ⟨rfl, Nat.zero_ne_one, fun z => absurd rfl z⟩
  · subst q
    obtain ⟨i', lc', e⟩ := dec_full [] 0 0 hG kG
    have e' : ∃ l i, a2b ((shownN F 1).map (fun k => (sg k).toUInt8) ++ List.replicate 1 61) = ⟨bytesG G ++ [a * 4 + b / 16] ++ [b % 16 * 16 + c / 4], 3, l, 0 + 1, i⟩ := by
      refine ⟨c / 4 * 4 % 4, i' + 1 + 1 + 1 + 1, ?_⟩
      rw [hF, shown_1]
      unfold a2b
      rw [List.map_append, List.foldl_append, List.foldl_append, e, List.nil_append]
      show a2st (a2st (a2st (a2st ⟨bytesG G, 0, lc', 0, i'⟩ (sg a).toUInt8) (sg b).toUInt8) (sg (c / 4 * 4)).toUInt8) 61 = _
      rw [sd1 ha, sd2 hb, sd3 (Nat.lt_of_le_of_lt (Nat.div_mul_le_self c 4) hc), a2_pad, Nat.mul_div_cancel _ (by decide)]
    obtain ⟨l, i, e'⟩ := e'
    rw [e']
    refine ⟨?_, by dsimp only; decide, fun _ => by dsimp only; decide⟩
    dsimp only
    rw [len, show (bytesG G).length + 3 - 1 = (bytesG G).length + 2 from rfl, tk, List.take_length_add_append]
    simp
  · subst q
    obtain ⟨i', lc', e⟩ := dec_full [] 0 0 hG kG
    have e' : ∃ l i, a2b ((shownN F 2).map (fun k => (sg k).toUInt8) ++ List.replicate 2 61) = ⟨bytesG G ++ [a * 4 + b / 16], 2, l, 0 + 1 + 1, i⟩ := by
      refine ⟨b / 16 * 16 % 16, i' + 1 + 1 + 1 + 1, ?_⟩
      rw [hF, shown_2]
      unfold a2b
      rw [List.map_append, List.foldl_append, List.foldl_append, e, List.nil_append]
      show a2st (a2st (a2st (a2st ⟨bytesG G, 0, lc', 0, i'⟩ (sg a).toUInt8) (sg (b / 16 * 16)).toUInt8) 61) 61 = _
      rw [sd1 ha, sd2 (Nat.lt_of_le_of_lt (Nat.div_mul_le_self b 16) hb), a2_pad, a2_pad, Nat.mul_div_cancel _ (by decide)]
    obtain ⟨l, i, e'⟩ := e'
    rw [e']
    refine ⟨?_, by dsimp only; decide, fun _ => by dsimp only; decide⟩
    dsimp only
    rw [len, show (bytesG G).length + 3 - 2 = (bytesG G).length + 1 from rfl, tk, List.take_length_add_append]
    simp
/-! and, or -/
/-! plain, law 2: orders -/
theorem mem_downs {m r : Nat} : r ∈ downs m ↔ r ≤ m := by
  induction m with
  | zero => exact List.mem_singleton.trans Nat.le_zero.symm
  | succ m ih => rw [downs, List.mem_cons, ih]; lia
theorem ords_mem : ∀ (k : Nat) (runs o : List Nat), runs.length = k → (o ∈ ordsN k runs ↔ o.Perm runs)
  | 0, runs, o, h => by
    rw [List.length_eq_zero_iff.mp h]
    exact List.mem_singleton.trans ⟨fun e => by rw [e], fun e => e.eq_nil⟩
  | k + 1, runs, o, h => by
    rw [ordsN, List.mem_flatten]
    constructor
    · rintro ⟨l, hl, ho⟩
      obtain ⟨r, hr, rfl⟩ := List.mem_map.mp hl
      by_cases q : r ∈ runs
      · rw [if_pos q] at ho
        obtain ⟨p, hp, rfl⟩ := List.mem_map.mp ho
        have := (ords_mem k (runs.erase r) p (by rw [List.length_erase_of_mem q]; lia)).mp hp
        exact (this.cons r).trans (List.perm_cons_erase q).symm
      · rw [if_neg q] at ho; exact no_mem ho
    · intro hp
      have hl := hp.length_eq
      match o, hp, hl with
      | [], hp, hl => rw [h] at hl; cases hl
      | r :: p, hp, hl =>
        have q : r ∈ runs := hp.mem_iff.mp List.mem_cons_self
        refine ⟨_, List.mem_map.mpr ⟨r, mem_downs.mpr (le_maxR q), rfl⟩, ?_⟩
        rw [if_pos q]
        refine List.mem_map.mpr ⟨p, (ords_mem k (runs.erase r) p (by rw [List.length_erase_of_mem q]; lia)).mpr ?_, rfl⟩
        exact (hp.trans (List.perm_cons_erase q)).cons_inv
noncomputable def fR (r : Nat) : List Nat := List.replicate r 62 ++ [63]
noncomputable def fL (o : List Nat) (bl : Nat) : List Nat := (o.map fR).flatten ++ List.replicate bl 62
theorem fL_cons (r : Nat) (o : List Nat) (bl : Nat) : fL (r :: o) bl = fR r ++ fL o bl := by
  unfold fL; rw [List.map_cons, List.flatten_cons, List.append_assoc]
theorem fL_len (bl : Nat) : ∀ o : List Nat, (fL o bl).length = wtR o + bl
  | [] => by unfold fL; rw [List.map_nil, List.flatten_nil, List.nil_append, List.length_replicate]; exact (Nat.zero_add _).symm
  | r :: o => by
    rw [fL_cons, List.length_append, fL_len bl o]
    unfold fR wtR
    rw [List.length_append, List.length_replicate, List.map_cons, List.sum_cons, List.length_singleton]; lia
theorem fL_W (bl : Nat) : ∀ o : List Nat, ∀ f ∈ fL o bl, f = 62 ∨ f = 63
  | [], f, h => by
    unfold fL at h
    rw [List.map_nil, List.flatten_nil, List.nil_append] at h
    exact .inl (List.mem_replicate.mp h).2
  | r :: o, f, h => by
    rw [fL_cons] at h
    rcases List.mem_append.mp h with z | z
    · unfold fR at z
      rcases List.mem_append.mp z with z | z
      · exact .inl (List.mem_replicate.mp z).2
      · exact .inr (List.mem_singleton.mp z)
    · exact fL_W bl o f z
theorem fL_64 {o : List Nat} {bl : Nat} : ∀ f ∈ fL o bl, f < 64 := fun f h => by rcases fL_W bl o f h with z | z <;> rw [z] <;> decide
theorem numN_s : ∀ (F : List Nat) (s : Nat), F.foldl (fun s f => 64 * s + f) s = s * 64 ^ F.length + numN F
  | [], s => (Nat.mul_one s).symm
  | f :: F, s => by
    have e1 := numN_s F (64 * s + f)
    have e2 : numN (f :: F) = (64 * 0 + f) * 64 ^ F.length + numN F := numN_s F (64 * 0 + f)
    rw [List.foldl_cons, e1, e2, List.length_cons, Nat.pow_succ, Nat.add_mul, Nat.mul_zero, Nat.zero_add, Nat.add_assoc]
    rw [Nat.mul_comm 64 s, Nat.mul_assoc, Nat.mul_comm 64]
theorem numN_app (A B : List Nat) : numN (A ++ B) = numN A * 64 ^ B.length + numN B := by
  show (A ++ B).foldl _ 0 = _
  rw [List.foldl_append, numN_s]; rfl
theorem numN_lt : ∀ F : List Nat, (∀ f ∈ F, f < 64) → numN F < 64 ^ F.length
  | [], _ => Nat.one_pos
  | f :: F, h => by
    have ih := numN_lt F fun x hx => h x (List.mem_cons_of_mem _ hx)
    have hf := h f List.mem_cons_self
    have e := numN_app [f] F
    rw [show numN [f] = 64 * 0 + f from rfl, Nat.mul_zero, Nat.zero_add] at e
    show numN ([f] ++ F) < _
    rw [e, List.length_cons, Nat.pow_succ]
    have := Nat.mul_le_mul_right (64 ^ F.length) (show f + 1 ≤ 64 from hf)
    lia
noncomputable def W (bl : Nat) (o : List Nat) : Nat := numN (fL o bl)
theorem W_cons (bl r : Nat) {p p' : List Nat} (h : wtR p = wtR p') : W bl p < W bl p' ↔ W bl (r :: p) < W bl (r :: p') := by
  unfold W
  rw [fL_cons, fL_cons, numN_app, numN_app, fL_len, fL_len, h]
  lia
theorem W_head (bl : Nat) {r r' : Nat} {p p' : List Nat} (h : r' < r) (hw : wtR (r :: p) = wtR (r' :: p')) : W bl (r :: p) < W bl (r' :: p') := by
  have l1 := fL_len bl (r :: p)
  have l2 := fL_len bl (r' :: p')
  have e1 : fL (r :: p) bl = List.replicate r' 62 ++ (62 :: (List.replicate (r - r' - 1) 62 ++ [63] ++ fL p bl)) := by
    rw [fL_cons]
    unfold fR
    rw [show r = r' + (1 + (r - r' - 1)) by lia, ← List.replicate_append_replicate, ← List.replicate_append_replicate]
    rw [show r' + (1 + (r - r' - 1)) - r' - 1 = r - r' - 1 by lia]
    simp
  have e2 : fL (r' :: p') bl = List.replicate r' 62 ++ (63 :: fL p' bl) := by
    rw [fL_cons]; unfold fR; simp
  have hx : ∀ f ∈ List.replicate (r - r' - 1) 62 ++ [63] ++ fL p bl, f < 64 := fun f hf => by
    have : f ∈ fL (r :: p) bl := by rw [e1]; exact List.mem_append_right _ (List.mem_cons_of_mem _ hf)
    exact fL_64 f this
  unfold W
  rw [e1, List.length_append, List.length_cons, List.length_replicate] at l1
  rw [e2, List.length_append, List.length_cons, List.length_replicate] at l2
  rw [e1, e2]
  generalize List.replicate (r - r' - 1) 62 ++ [63] ++ fL p bl = X at *
  generalize fL p' bl = Y at *
  have hl : X.length = Y.length := by lia
  have h1 := numN_lt X hx
  have a1 := numN_app [62] X
  have a2 := numN_app [63] Y
  rw [show numN [62] = 62 from rfl] at a1
  rw [show numN [63] = 63 from rfl] at a2
  rw [numN_app, numN_app, List.length_cons, List.length_cons, hl]
  show _ + numN ([62] ++ X) < _ + numN ([63] ++ Y)
  rw [a1, a2, hl]
  rw [hl] at h1
  lia
theorem wtR_perm {l m : List Nat} (h : l.Perm m) : wtR l = wtR m := (h.map _).sum_nat
theorem ords_up (bl : Nat) : ∀ (k : Nat) (runs : List Nat), runs.length = k → (ordsN k runs).Pairwise fun a b => W bl a < W bl b
  | 0, _, _ => List.pairwise_singleton _ _
  | k + 1, runs, h => by
    have ih := fun r (q : r ∈ runs) => ords_up bl k (runs.erase r) (by rw [List.length_erase_of_mem q]; lia)
    have mm := fun r (q : r ∈ runs) p => (ords_mem k (runs.erase r) p (by rw [List.length_erase_of_mem q]; lia)).mp
    rw [ordsN, List.pairwise_flatten]
    constructor
    · intro l hl
      obtain ⟨r, hr, rfl⟩ := List.mem_map.mp hl
      by_cases q : r ∈ runs
      · rw [if_pos q, List.pairwise_map]
        exact (ih r q).imp_of_mem fun ha hb hab => (W_cons bl r (wtR_perm ((mm r q _ ha).trans (mm r q _ hb).symm))).mp hab
      · rw [if_neg q]; exact List.Pairwise.nil
    · rw [List.pairwise_map]
      have dp : ∀ m, (downs m).Pairwise fun a b => b < a := by
        intro m
        induction m with
        | zero => exact List.pairwise_singleton _ _
        | succ m ih => exact List.Pairwise.cons (fun r hr => Nat.lt_succ_of_le (mem_downs.mp hr)) ih
      refine (dp _).imp fun {r r'} hr x hx y hy => ?_
      by_cases q : r ∈ runs
      · rw [if_pos q] at hx
        by_cases q' : r' ∈ runs
        · rw [if_pos q'] at hy
          obtain ⟨p, hp, rfl⟩ := List.mem_map.mp hx
          obtain ⟨p', hp', rfl⟩ := List.mem_map.mp hy
          refine W_head bl hr ?_
          exact wtR_perm ((((mm r q _ hp).cons r).trans (List.perm_cons_erase q).symm).trans (((mm r' q' _ hp').cons r').trans (List.perm_cons_erase q').symm).symm)
        · rw [if_neg q'] at hy; exact no_mem hy
      · rw [if_neg q] at hx; exact no_mem hx
theorem W_asc (bl : Nat) : ∀ (a x : List Nat), a.Perm x → a.Pairwise (· ≤ ·) → W bl x ≤ W bl a
  | [], x, h, _ => by rw [h.symm.eq_nil]; exact Nat.le_refl _
  | r :: a, [], h, _ => by cases h.eq_nil
  | r :: a, r' :: x, h, s => by
    have hm : r' ∈ r :: a := h.mem_iff.mpr List.mem_cons_self
    have hle : r ≤ r' := by
      rcases List.mem_cons.mp hm with z | z
      · exact Nat.le_of_eq z.symm
      · exact List.rel_of_pairwise_cons s z
    rcases Nat.lt_or_eq_of_le hle with z | z
    · exact Nat.le_of_lt (W_head bl z (wtR_perm h.symm))
    · subst z
      have hp := h.cons_inv
      have ih := W_asc bl a x hp s.of_cons
      exact Nat.not_lt.mp fun z => Nat.not_lt.mpr ih ((W_cons bl r (wtR_perm hp)).mpr z)
theorem W_desc (bl : Nat) : ∀ (a x : List Nat), a.Perm x → a.Pairwise (fun i j => j ≤ i) → W bl a ≤ W bl x
  | [], x, h, _ => by rw [h.symm.eq_nil]; exact Nat.le_refl _
  | r :: a, [], h, _ => by cases h.eq_nil
  | r :: a, r' :: x, h, s => by
    have hm : r' ∈ r :: a := h.mem_iff.mpr List.mem_cons_self
    have hle : r' ≤ r := by
      rcases List.mem_cons.mp hm with z | z
      · exact Nat.le_of_eq z
      · exact List.rel_of_pairwise_cons s z
    rcases Nat.lt_or_eq_of_le hle with z | z
    · exact Nat.le_of_lt (W_head bl z (wtR_perm h))
    · subst z
      have hp := h.cons_inv
      have ih := W_desc bl a x hp s.of_cons
      exact Nat.not_lt.mp fun z => Nat.not_lt.mpr ih ((W_cons bl r' (wtR_perm hp.symm)).mpr z)
/-! plain, law 2: norms, leads, what is told -/
theorem lead_cons (r : Nat) (runs : List Nat) (bl : Nat) : leadN (r :: runs) bl = runN r ++ leadN runs bl := by
  unfold leadN; rw [List.map_cons, List.flatten_cons, List.append_assoc]
theorem lead_W (runs : List Nat) (bl : Nat) : ∀ c ∈ leadN runs bl, c = 32 ∨ c = 9 := by
  induction runs with
  | nil => exact fun c hc => .inl (List.mem_replicate.mp (show c ∈ List.replicate bl 32 from hc)).2
  | cons r runs ih =>
    intro c hc
    rw [lead_cons] at hc
    rcases List.mem_append.mp hc with hc | hc
    · rcases List.mem_append.mp (show c ∈ List.replicate r 32 ++ [9] from hc) with hc | hc
      · exact .inl (List.mem_replicate.mp hc).2
      · exact .inr (List.mem_singleton.mp hc)
    · exact ih c hc
theorem mxN_snoc (l : List Nat) (b : Nat) : mxN (l ++ [b]) = max (mxN l) (b + 1) := by
  induction l with
  | nil => show max (b + 1) 0 = max 0 (b + 1); lia
  | cons a l ih => show max (a + 1) (mxN (l ++ [b])) = max (max (a + 1) (mxN l)) (b + 1); rw [ih]; lia
theorem cnt_out {l : List Nat} {i : Nat} (h : mxN l ≤ i) : l.count i = 0 := by
  induction l with
  | nil => rfl
  | cons a l ih =>
    have h : max (a + 1) (mxN l) ≤ i := h
    rw [List.count_cons_of_ne (by lia), ih (by lia)]
theorem cntN_len (l : List Nat) : (cntN l).length = mxN l := by unfold cntN; rw [List.length_map, List.length_range]
set_option tactic.hygienic true in
theorem grow_cnt (l : List Nat) (b : Nat) : grow (cntN l) b = (List.range (max (mxN l) (b + 1))).map fun i => l.count i := by
  unfold grow
  rw [cntN_len]
  split
  · rename_i h
    rw [show max (mxN l) (b + 1) = mxN l + (b - mxN l + 1) by lia, List.range_add, List.map_append, List.map_map]
    refine congrArg (cntN l ++ ·) (Eq.symm ?_)
    exact (List.map_eq_replicate_iff.mpr fun i _ => cnt_out (l := l) (Nat.le_add_right (mxN l) i)).trans (by rw [List.length_range])
  · rename_i h
    rw [show max (mxN l) (b + 1) = mxN l by lia]; rfl
theorem bump_cnt (l : List Nat) (b : Nat) : bump (cntN l) b = cntN (l ++ [b]) := by
  unfold bump
  rw [grow_cnt]
  have hb : b < max (mxN l) (b + 1) := by lia
  rw [List.getElem?_map, List.getElem?_range hb]
  show _ = (List.range (mxN (l ++ [b]))).map fun i => (l ++ [b]).count i
  rw [mxN_snoc]
  refine List.ext_getElem (by rw [List.length_set, List.length_map, List.length_map]) fun i h1 h2 => ?_
  rw [List.getElem_set]
  rw [List.getElem_map, List.getElem_range, List.getElem_map, List.getElem_range, List.count_append]
  by_cases e : b = i
  · subst e; rw [if_pos rfl, List.count_singleton_self]; rfl
  · rw [if_neg e, List.count_eq_zero_of_not_mem (a := i) (l := [b]) (fun z => e (List.mem_singleton.mp z).symm)]; rfl
theorem bump_fold : ∀ (l acc : List Nat), l.foldl bump (cntN acc) = cntN (acc ++ l)
  | [], acc => by rw [List.append_nil]; rfl
  | a :: l, acc => by rw [List.foldl_cons, bump_cnt, bump_fold l, List.append_assoc]; rfl
theorem ws_rep : ∀ (k : Nat) (s : Ws), ((List.replicate k 32).foldl wsSt s).count = s.count ∧ ((List.replicate k 32).foldl wsSt s).b = s.b + k
  | 0, s => ⟨rfl, rfl⟩
  | k + 1, s => by
    rw [List.replicate_succ, List.foldl_cons]
    refine e0a2 (ws_rep k (wsSt s 32)) fun h1 h2 => ?_
    exact ⟨h1, h2.trans (by show s.b + 1 + k = _; lia)⟩
theorem ws_lead (bl : Nat) : ∀ (runs : List Nat) (s : Ws), s.b = 0 → ((leadN runs bl).foldl wsSt s).count = runs.foldl bump s.count ∧ ((leadN runs bl).foldl wsSt s).b = bl
  | [], s, h => by
    refine e0a2 (ws_rep bl s) fun h1 h2 => ?_
    exact ⟨h1, h2.trans (by rw [h, Nat.zero_add])⟩
  | r :: runs, s, h => by
    rw [lead_cons, List.foldl_append, List.foldl_cons]
    unfold runN
    rw [List.foldl_append]
    refine e0a2 (ws_rep r s) fun h1 h2 => ?_
    refine e0a2 (ws_lead bl runs (List.foldl wsSt (List.foldl wsSt s (List.replicate r 32)) [9]) rfl) fun h3 h4 => ?_
    refine ⟨h3.trans ?_, h4⟩
    show runs.foldl bump (bump (List.foldl wsSt s (List.replicate r 32)).count (List.foldl wsSt s (List.replicate r 32)).b) = _
    rw [h1, h2, h, Nat.zero_add]
theorem cntN_perm {l m : List Nat} (h : l.Perm m) : cntN l = cntN m := by
  have e : mxN l = mxN m := by
    unfold mxN
    induction h with
    | nil => rfl
    | cons a _ ih => rw [List.foldr_cons, List.foldr_cons, ih]
    | swap a b l => rw [List.foldr_cons, List.foldr_cons, List.foldr_cons, List.foldr_cons]; lia
    | trans _ _ ih1 ih2 => exact ih1.trans ih2
  unfold cntN
  rw [e]
  exact List.map_congr_left fun i _ => h.count_eq i
theorem parts_runs (x : List Nat) : (splitAt 9 x).map List.length = runsF 0 x := by
  generalize e : splitAt 9 x = r_; induction r_ using List.casesOn with
  | nil => exact absurd e (splitAt_ne 9 x)
  | cons p ps => rw [← split_runs x 0 p ps e, Nat.zero_add]; rfl
theorem lead_parse : ∀ (x : List Nat) (k : Nat), (∀ c ∈ x, c = 32 ∨ c = 9) → 1 ≤ (runsF k x).length ∧ leadN ((runsF k x).take ((runsF k x).length - 1)) ((runsF k x)[(runsF k x).length - 1]?.getD 0) = List.replicate k 32 ++ x
  | [], k, _ => ⟨Nat.le_refl _, (List.append_nil _).symm⟩
  | c :: x, k, h => by
    have hx := fun d hd => h d (List.mem_cons_of_mem _ hd)
    rcases h c List.mem_cons_self with z | z
    · subst z
      have e : runsF k (32 :: x) = runsF (k + 1) x := rfl
      rw [e]
      refine e0a2 (lead_parse x (k + 1) hx) fun h1 h2 => ⟨h1, h2.trans ?_⟩
      rw [← List.replicate_append_replicate, List.append_assoc]; rfl
    · subst z
      have e : runsF k (9 :: x) = k :: runsF 0 x := rfl
      rw [e]
      refine e0a2 (lead_parse x 0 hx) fun h1 h2 => ?_
      generalize runsF 0 x = R at *
      refine ⟨by rw [List.length_cons]; lia, ?_⟩
      obtain ⟨n, hn⟩ : ∃ n, R.length = n + 1 := ⟨R.length - 1, by lia⟩
      rw [hn] at h2
      rw [List.length_cons, hn, show n + 1 + 1 - 1 = n + 1 from rfl, List.take_succ_cons, List.getElem?_cons_succ, lead_cons]
      rw [show n + 1 - 1 = n from rfl] at h2
      rw [h2]
      unfold runN
      rw [List.append_assoc]; rfl
noncomputable def NoW (x : List Nat) : Prop := ∀ c ∈ x.head?, isW c = false
theorem tw_leadR (runs : List Nat) (bl : Nat) {rest : List Nat} (h : NoW rest) : twN (leadN runs bl ++ rest) = leadN runs bl := by
  unfold twN
  rw [List.takeWhile_append_of_pos fun c hc => by rcases lead_W runs bl c hc with z | z <;> rw [z] <;> rfl]
  induction rest using List.casesOn with
  | nil => exact List.append_nil _
  | cons c r => rw [List.takeWhile_cons_of_neg (by rw [h c rfl]; exact Bool.false_ne_true), List.append_nil]
theorem ws_lineR (runs : List Nat) (bl : Nat) {rest : List Nat} (h : NoW rest) : (wsOf (leadN runs bl ++ rest)).count = cntN runs ∧ (wsOf (leadN runs bl ++ rest)).b = bl := by
  have e : wsOf (leadN runs bl ++ rest) = (leadN runs bl).foldl wsSt ⟨[], 0, 0, 0⟩ := congrArg (fun z : List Nat => z.foldl wsSt ⟨[], 0, 0, 0⟩) (tw_leadR runs bl h)
  rw [e]
  refine e0a2 (ws_lead bl runs ⟨[], 0, 0, 0⟩ rfl) fun h1 h2 => ?_
  exact ⟨h1.trans (bump_fold runs []), h2⟩
theorem cntN_at (l : List Nat) (i : Nat) : (cntN l)[i]?.getD 0 = l.count i := by
  rcases Nat.lt_or_ge i (mxN l) with h | h
  · unfold cntN
    rw [List.getElem?_map, List.getElem?_range h]; rfl
  · rw [List.getElem?_eq_none (by rw [cntN_len]; exact h), cnt_out h]; rfl
theorem perm_of_cnt {l m : List Nat} (h : cntN l = cntN m) : l.Perm m := List.perm_iff_count.mpr fun i => by rw [← cntN_at, ← cntN_at, h]
theorem told_count (runs : List Nat) : ∀ (n i : Nat), (((List.range n).map fun j => List.replicate ((cntN runs)[j]?.getD 0) j).flatten).count i = if i < n then runs.count i else 0
  | 0, i => rfl
  | n + 1, i => by
    rw [List.range_succ, List.map_append, List.flatten_append, List.count_append, told_count runs n i, List.map_singleton, List.flatten_singleton, List.count_replicate, cntN_at]
    by_cases q : n = i
    · subst q
      rw [if_neg (Nat.lt_irrefl _), if_pos (Nat.lt_succ_self _), if_pos (by simp)]; lia
    · have qb : ¬ (n == i) = true := by simpa using q
      rw [if_neg qb]
      by_cases z : i < n
      · rw [if_pos z, if_pos (by lia)]; rfl
      · rw [if_neg z, if_neg (by lia)]
theorem told_perm (runs : List Nat) : (toldN (cntN runs)).Perm runs := List.perm_iff_count.mpr fun i => by
  unfold toldN
  rw [told_count, cntN_len]
  by_cases q : i < mxN runs
  · rw [if_pos q]
  · rw [if_neg q, cnt_out (by lia)]
theorem told_up (c : List Nat) : (toldN c).Pairwise (· ≤ ·) := by
  unfold toldN
  rw [List.pairwise_flatten]
  constructor
  · intro l hl
    obtain ⟨i, _, rfl⟩ := List.mem_map.mp hl
    exact List.pairwise_replicate.mpr (.inr (Nat.le_refl i))
  · rw [List.pairwise_map]
    refine List.pairwise_lt_range.imp fun {a b} h x hx y hy => ?_
    rw [(List.mem_replicate.mp hx).2, (List.mem_replicate.mp hy).2]
    exact Nat.le_of_lt h
theorem told_down (c : List Nat) : (toldN c).reverse.Pairwise (fun i j => j ≤ i) := List.pairwise_reverse.mpr (told_up c)
theorem ords_first (bl : Nat) {k : Nat} {runs d : List Nat} (h : runs.length = k) (hd : d.Perm runs) (s : d.Pairwise (fun i j => j ≤ i)) : (ordsN k runs)[0]?.getD [] = d := by
  have up := ords_up bl k runs h
  have hm := (ords_mem k runs d h).mpr hd
  obtain ⟨i, hi, e⟩ := List.getElem_of_mem hm
  rw [List.getElem?_eq_getElem (Nat.lt_of_le_of_lt (Nat.zero_le _) hi)]
  show (ordsN k runs)[0] = d
  rcases Nat.eq_zero_or_pos i with z | z
  · subst z; exact e
  · have := List.pairwise_iff_getElem.mp up 0 i (by lia) hi z
    rw [e] at this
    have p0 := (ords_mem k runs _ h).mp (List.getElem_mem (show 0 < (ordsN k runs).length by lia))
    have := W_desc bl d _ (hd.trans p0.symm) s
    lia
theorem ords_last (bl : Nat) {k : Nat} {runs a : List Nat} (h : runs.length = k) (ha : a.Perm runs) (s : a.Pairwise (· ≤ ·)) : (ordsN k runs)[(ordsN k runs).length - 1]?.getD [] = a := by
  have up := ords_up bl k runs h
  have hm := (ords_mem k runs a h).mpr ha
  obtain ⟨i, hi, e⟩ := List.getElem_of_mem hm
  rw [List.getElem?_eq_getElem (by lia)]
  show (ordsN k runs)[(ordsN k runs).length - 1] = a
  by_cases z : i = (ordsN k runs).length - 1
  · subst z; exact e
  · have := List.pairwise_iff_getElem.mp up i ((ordsN k runs).length - 1) hi (by lia) (by lia)
    rw [e] at this
    have p0 := (ords_mem k runs _ h).mp (List.getElem_mem (show (ordsN k runs).length - 1 < (ordsN k runs).length by lia))
    have := W_asc bl a _ (ha.trans p0.symm) s
    lia
/-! plain, law 2: the pairs and what is shown of them -/
noncomputable def isWh (f : Nat) : Prop := f = 62 ∨ f = 63
structure GoodP (u v : List (Nat × Nat)) : Prop where
  w : ∀ p ∈ u, isWh p.1 ∧ isWh p.2
  e : ∀ p ∈ v, p.1 = p.2 ∧ p.1 < 64
  h : ∀ p ∈ v.head?, p.1 < 62
theorem cd2_lt (x : Int) : cd2 x < 1984 := by
  unfold cd2
  have h1 : x % 1984 < 1984 := Int.emod_lt_of_pos _ (by decide)
  have h0 : 0 ≤ x % 1984 := Int.emod_nonneg _ (by decide)
  lia
theorem wh_2 (c : Nat) : isWh (62 + c % 2) := by unfold isWh; lia
theorem good_snoc {u v : List (Nat × Nat)} (h : GoodP u v) {p : Nat × Nat} (e : p.1 = p.2 ∧ p.1 < 64) (z : v = [] → p.1 < 62) : GoodP u (v ++ [p]) := by
  refine ⟨h.w, fun q hq => ?_, fun q hq => ?_⟩
  · rcases List.mem_append.mp hq with y | y
    · exact h.e q y
    · rw [List.mem_singleton.mp y]; exact e
  · cases v with
    | nil =>
      have : q = p := by simpa using hq.symm
      rw [this]; exact z rfl
    | cons a v => exact h.h q hq
theorem fold_good : ∀ (nums : List Int) (s : List (Nat × Nat) × Bool), (∃ u v, s.1 = u ++ v ∧ GoodP u v ∧ (s.2 = false ↔ v = [])) → ∃ u v, (nums.foldl prSt s).1 = u ++ v ∧ GoodP u v
  | [], _, ⟨u, v, e, g, _⟩ => ⟨u, v, e, g⟩
  | x :: nums, s, ⟨u, v, e, g, b⟩ => by
    rw [List.foldl_cons]
    refine fold_good nums (prSt s x) ?_
    have c := cd2_lt x
    unfold prSt
    by_cases q : cd2 x / 4 % 8 = 7
    · rw [if_pos q]
      refine ⟨u, v ++ [(cd2 x / 32, cd2 x / 32)], by show s.1 ++ _ = _; rw [e, List.append_assoc], good_snoc g ⟨rfl, by show cd2 x / 32 < 64; lia⟩ fun _ => by show cd2 x / 32 < 62; lia, ⟨fun z => (nomatch z), fun z => absurd z (by simp)⟩⟩
    · rw [if_neg q]
      by_cases z : s.2 = true
      · rw [if_pos z]
        have vn : v ≠ [] := fun y => by have := b.mpr y; rw [z] at this; cases this
        refine ⟨u, v ++ [(62 + cd2 x % 2, 62 + cd2 x % 2)], by show s.1 ++ _ = _; rw [e, List.append_assoc], good_snoc g ⟨rfl, by show 62 + cd2 x % 2 < 64; lia⟩ fun y => absurd y vn, ⟨fun y => ?_, fun y => absurd y (by simp)⟩⟩
        have y : s.2 = false := y
        rw [z] at y; cases y
      · rw [if_neg z]
        have z : s.2 = false := Bool.eq_false_iff.mpr z
        have vn := b.mp z
        subst vn
        rw [List.append_nil] at e
        refine ⟨u ++ [(62 + cd2 x % 2, 62 + cd2 x / 2 % 2)], [], by show s.1 ++ _ = _; rw [e, List.append_nil], ⟨fun p hp => ?_, fun p hp => no_mem hp, fun p hp => (nomatch hp)⟩, ⟨fun _ => rfl, fun _ => z⟩⟩
        rcases List.mem_append.mp hp with y | y
        · exact g.w p y
        · rw [List.mem_singleton.mp y]; exact ⟨wh_2 _, wh_2 _⟩
theorem good_pad {u v : List (Nat × Nat)} (h : GoodP u v) : ∀ k, GoodP u (v ++ List.replicate k (0, 0))
  | 0 => by rw [List.replicate_zero, List.append_nil]; exact h
  | k + 1 => by
    rw [List.replicate_succ', ← List.append_assoc]
    exact good_snoc (good_pad h k) ⟨rfl, by decide⟩ fun _ => by decide
theorem prs_good (nums : List Int) : ∃ u v, prs2 nums = u ++ v ∧ GoodP u v := by
  obtain ⟨u, v, e, g⟩ := fold_good nums ([], false) ⟨[], [], rfl, ⟨fun p hp => no_mem hp, fun p hp => no_mem hp, fun p hp => (nomatch hp)⟩, ⟨fun _ => rfl, fun _ => rfl⟩⟩
  exact ⟨u, v ++ List.replicate (padN nums.length) (0, 0), by unfold prs2; rw [e, List.append_assoc], good_pad g _⟩
theorem prs_len (nums : List Int) : (prs2 nums).length = nums.length + padN nums.length := by
  have : ∀ (l : List Int) (s : List (Nat × Nat) × Bool), (l.foldl prSt s).1.length = s.1.length + l.length := by
    intro l
    induction l with
    | nil => exact fun s => rfl
    | cons a l ih =>
      intro s
      rw [List.foldl_cons, ih, List.length_cons]
      unfold prSt
      split <;> (rw [List.length_append, List.length_singleton]; lia)
  unfold prs2
  rw [List.length_append, List.length_replicate, this]
  exact congrArg (· + _) (Nat.zero_add _)
theorem good_take {u v : List (Nat × Nat)} (h : GoodP u v) (k : Nat) : ∃ u' v', (u ++ v).take k = u' ++ v' ∧ GoodP u' v' := by
  refine ⟨u.take k, v.take (k - u.length), List.take_append .., ⟨fun p hp => h.w p (List.mem_of_mem_take hp), fun p hp => h.e p (List.mem_of_mem_take hp), fun p hp => ?_⟩⟩
  cases v with
  | nil => rw [List.take_nil] at hp; cases hp
  | cons a v =>
    cases hk : k - u.length with
    | zero => rw [hk] at hp; cases hp
    | succ n => rw [hk] at hp; exact h.h p hp
theorem shown_app (A B : List Nat) (x : Nat) : shownN (A ++ x :: B) B.length = A ++ [x / 4 ^ B.length * 4 ^ B.length] := by
  unfold shownN
  have l : (A ++ x :: B).length - B.length = A.length + 1 := by rw [List.length_append, List.length_cons]; lia
  have t : (A ++ x :: B).take (A.length + 1) = A ++ [x] := by
    rw [List.take_length_add_append]; rfl
  rw [l, t, Nat.add_sub_cancel, List.set_append_right _ _ (Nat.le_refl _), Nat.sub_self, List.getElem?_append_right (Nat.le_refl _), Nat.sub_self]
  rfl
theorem split_end {α : Type} (P : List α) {k : Nat} (h : k < P.length) : ∃ A p B, P = A ++ p :: B ∧ B.length = k := by
  refine ⟨P.take (P.length - k - 1), P[P.length - k - 1], P.drop (P.length - k - 1 + 1), ?_, by rw [List.length_drop]; lia⟩
  rw [← List.drop_eq_getElem_cons, List.take_append_drop]
theorem shown_zero {F : List Nat} (h : 0 < F.length) : shownN F 0 = F := by
  obtain ⟨A, p, B, e, z⟩ := split_end F h
  have z := List.length_eq_zero_iff.mp z
  subst z
  rw [e]
  exact (shown_app A [] p).trans (by rw [List.length_nil, Nat.pow_zero, Nat.div_one, Nat.mul_one])
theorem floor_ok {x sp : Nat} (h : x < 64) (h1 : sp = 1 ∨ sp = 2) : x / 4 ^ sp * 4 ^ sp < 62 := by
  rcases h1 with z | z
  · subst z; show x / 4 * 4 < 62; lia
  · subst z; show x / 16 * 16 < 62; lia
theorem floor_wh {x y sp : Nat} (hx : isWh x) (hy : isWh y) (h1 : sp = 1 ∨ sp = 2) : x / 4 ^ sp * 4 ^ sp = y / 4 ^ sp * 4 ^ sp := by
  unfold isWh at hx hy
  rcases h1 with z | z
  · subst z; show x / 4 * 4 = y / 4 * 4; lia
  · subst z; show x / 16 * 16 = y / 16 * 16; lia
theorem shown_good {u v : List (Nat × Nat)} (g : GoodP u v) {sp : Nat} (hs : sp ≤ 2) (hl : sp < (u ++ v).length) : ∃ u' v', GoodP u' v' ∧ shownN ((u ++ v).map fun p => p.1) sp = (u' ++ v').map (fun p => p.1) ∧ shownN ((u ++ v).map fun p => p.2) sp = (u' ++ v').map (fun p => p.2) ∧ (u' ++ v').length + sp = (u ++ v).length ∧ (sp = 0 ∨ ∃ T x, v'.map (fun p => p.1) = T ++ [x * 4 ^ sp]) := by
  rcases Nat.eq_zero_or_pos sp with z | z
  · subst z
    exact ⟨u, v, g, shown_zero (by rw [List.length_map]; exact hl), shown_zero (by rw [List.length_map]; exact hl), rfl, .inl rfl⟩
  · have h1 : sp = 1 ∨ sp = 2 := by lia
    obtain ⟨A, p, B, e, hB⟩ := split_end (u ++ v) hl
    have hp : p ∈ u ++ v := by rw [e]; exact List.mem_append_right _ List.mem_cons_self
    have p64 : p.1 < 64 := by
      rcases List.mem_append.mp hp with y | y
      · rcases (g.w p y).1 with q | q <;> (rw [q]; decide)
      · exact (g.e p y).2
    have pe : p.1 / 4 ^ sp * 4 ^ sp = p.2 / 4 ^ sp * 4 ^ sp := by
      rcases List.mem_append.mp hp with y | y
      · exact floor_wh (g.w p y).1 (g.w p y).2 h1
      · rw [(g.e p y).1]
    obtain ⟨u', w', e', g'⟩ := good_take g A.length
    have eA : (u ++ v).take A.length = A := by rw [e, List.take_left']; rfl
    rw [eA] at e'
    have q1 := floor_ok p64 h1
    refine ⟨u', w' ++ [(p.1 / 4 ^ sp * 4 ^ sp, p.2 / 4 ^ sp * 4 ^ sp)], good_snoc g' ⟨pe, Nat.lt_trans q1 (by decide)⟩ fun _ => q1, ?_, ?_, ?_, .inr ⟨w'.map fun p => p.1, p.1 / 4 ^ sp, by rw [List.map_append]; rfl⟩⟩
    · have s := shown_app (A.map fun p => p.1) (B.map fun p => p.1) p.1
      rw [List.length_map, hB] at s
      rw [e, List.map_append, List.map_cons, s, ← List.append_assoc, ← e', List.map_append]; rfl
    · have s := shown_app (A.map fun p => p.2) (B.map fun p => p.2) p.2
      rw [List.length_map, hB] at s
      rw [e, List.map_append, List.map_cons, s, ← List.append_assoc, ← e', List.map_append]; rfl
    · have hl : (u ++ v).length = A.length + (B.length + 1) := by rw [e, List.length_append, List.length_cons]
      rw [← List.append_assoc, ← e', List.length_append, List.length_singleton, hl, hB]; lia
/-! plain, law 2: the texts of the orders -/
theorem sg_low : ∀ f, f < 62 → isW (sgW f) = false := by decide +kernel
theorem sg_128 : ∀ f, f < 64 → sgW f < 128 := by decide +kernel
theorem fL_sg (bl : Nat) : ∀ o : List Nat, (fL o bl).map sgW = leadN o bl
  | [] => by show (List.replicate bl 62).map sgW = _; rw [List.map_replicate]; rfl
  | r :: o => by
    rw [fL_cons, lead_cons, List.map_append, fL_sg bl o]
    unfold fR runN
    rw [List.map_append, List.map_replicate]; rfl
noncomputable def iW (c : Nat) : Nat := if c = 32 then 62 else 63
theorem wh_back {U : List Nat} (h : ∀ f ∈ U, isWh f) : (U.map sgW).map iW = U := by
  rw [List.map_map]
  exact (List.map_congr_left fun f hf => by rcases h f hf with z | z <;> rw [z] <;> rfl).trans (List.map_id U)
theorem fL_of {U runs : List Nat} {bl : Nat} (h : ∀ f ∈ U, isWh f) (e : leadN runs bl = U.map sgW) : U = fL runs bl := by
  rw [← wh_back h, ← e, ← fL_sg, wh_back (fL_W bl runs)]
noncomputable def restN (T : List Nat) (sp : Nat) : List Nat := T.map sgW ++ List.replicate sp 61
theorem rest_now {T : List Nat} (sp : Nat) (h : ∀ f ∈ T.head?, f < 62) : NoW (restN T sp) := by
  unfold NoW restN
  induction T using List.casesOn with
  | nil =>
    induction sp using Nat.casesOn with
    | zero => exact fun c hc => nomatch hc
    | succ sp => exact fun c hc => (Option.some.inj hc) ▸ rfl
  | cons a T => exact fun c hc => (Option.some.inj hc) ▸ sg_low a (h a rfl)
noncomputable def Fo (bl sp : Nat) (T o : List Nat) : List Nat := fL o bl ++ (T ++ List.replicate sp 0)
structure TlD (bl sp : Nat) (T : List Nat) (n : Nat) : Prop where
  s2 : sp ≤ 2
  t64 : ∀ f ∈ T, f < 64
  th : ∀ f ∈ T.head?, f < 62
  tl : sp = 0 ∨ ∃ T' x, T = T' ++ [x * 4 ^ sp]
  n4 : (n + bl + T.length + sp) % 4 = 0
  n5 : 4 ≤ n + bl + T.length + sp
  n8 : n + bl + T.length + sp ≤ 8
theorem Fo_len (bl sp : Nat) (T o : List Nat) : (Fo bl sp T o).length = wtR o + bl + T.length + sp := by
  unfold Fo
  rw [List.length_append, fL_len, List.length_append, List.length_replicate]; lia
theorem shown_Fo {bl sp n : Nat} {T o : List Nat} (H : TlD bl sp T n) (hw : wtR o = n) : shownN (Fo bl sp T o) sp = fL o bl ++ T := by
  rcases H.tl with z | ⟨T', x, e⟩
  · subst z
    rw [shown_zero (by rw [Fo_len, hw]; have := H.n5; lia)]
    unfold Fo
    rw [List.replicate_zero, List.append_nil]
  · have s := shown_app (fL o bl ++ T') (List.replicate sp 0) (x * 4 ^ sp)
    rw [List.length_replicate, Nat.mul_div_cancel _ (Nat.pow_pos (by decide)), List.append_assoc, List.append_assoc, ← e] at s
    unfold Fo
    rw [← s, e, List.append_assoc]; rfl
theorem Fo_64 {bl sp n : Nat} {T o : List Nat} (H : TlD bl sp T n) : ∀ f ∈ Fo bl sp T o, f < 64 := fun f hf => by
  rcases List.mem_append.mp hf with z | z
  · exact fL_64 f z
  · rcases List.mem_append.mp z with z | z
    · exact H.t64 f z
    · rw [(List.mem_replicate.mp z).2]; decide
structure TxD (sp : Nat) (F t : List Nat) : Prop where
  ln : lineN F sp = t
  de : decB t [32, 9] = octB F sp
  q : (decS t [32, 9]).q ≠ 1 ∧ ((decS t [32, 9]).q ≠ 0 → 4 ≤ (decS t [32, 9]).q + (decS t [32, 9]).pads)
  li : lineB (octB F sp) = t
  ol : (octB F sp).length ≤ 9
  tl : t.length ≤ 100
  t128 : ∀ x ∈ t, x < 128
theorem txD {F : List Nat} {sp : Nat} (h : F.length % 4 = 0) (h4 : 4 ≤ F.length) (h8 : F.length ≤ 8) (hf : ∀ f ∈ F, f < 64) (hs : sp ≤ 2) : TxD sp F (lineN F sp) := by
  have d := dec_all h h4 hf hs
  have sl := shown_lt (spare := sp) hf
  refine ⟨rfl, ?_, d.2, line_eq h h4 hf hs, ?_, ?_, fun x hx => ?_⟩
  · unfold decB octB; rw [d.1]
  · unfold octB octN
    rw [List.length_map, List.length_take]; lia
  · unfold lineN shownN
    rw [List.length_append, List.length_map, List.length_set, List.length_take, List.length_replicate]; lia
  · unfold lineN at hx
    rcases List.mem_append.mp hx with z | z
    · obtain ⟨f, hf, e⟩ := List.mem_map.mp z
      rw [← e]; exact sg_128 f (sl f hf)
    · rw [(List.mem_replicate.mp z).2]; decide
theorem tx_of {bl sp n : Nat} {T o : List Nat} (H : TlD bl sp T n) (hw : wtR o = n) : TxD sp (Fo bl sp T o) (leadN o bl ++ restN T sp) := by
  have l := Fo_len bl sp T o
  rw [hw] at l
  have := txD (by rw [l]; exact H.n4) (by rw [l]; exact H.n5) (by rw [l]; exact H.n8) (Fo_64 (o := o) H) H.s2
  have e : lineN (Fo bl sp T o) sp = leadN o bl ++ restN T sp := by
    unfold lineN restN
    rw [shown_Fo H hw, List.map_append, fL_sg, List.append_assoc]
  rwa [e] at this
/-! heights -/
theorem numB_s : ∀ (l : List Nat) (s : Nat), numB s l = s * 256 ^ l.length + numB 0 l
  | [], s => (Nat.mul_one s).symm
  | a :: l, s => by
    have e1 : numB s (a :: l) = _ := numB_s l (256 * s + a)
    have e2 : numB 0 (a :: l) = _ := numB_s l (256 * 0 + a)
    rw [e1, e2, List.length_cons, Nat.pow_succ, Nat.add_mul, Nat.mul_zero, Nat.zero_add, Nat.add_assoc]
    rw [Nat.mul_comm 256 s, Nat.mul_assoc, Nat.mul_comm 256]
theorem numB_lt : ∀ l : List Nat, (∀ x ∈ l, x < 256) → numB 0 l < 256 ^ l.length
  | [], _ => Nat.one_pos
  | a :: l, h => by
    have ih := numB_lt l fun x hx => h x (List.mem_cons_of_mem _ hx)
    have ha := h a List.mem_cons_self
    have e : numB 0 (a :: l) = (256 * 0 + a) * 256 ^ l.length + numB 0 l := numB_s l (256 * 0 + a)
    rw [e, Nat.mul_zero, Nat.zero_add, List.length_cons, Nat.pow_succ]
    have := Nat.mul_le_mul_right (256 ^ l.length) (show a + 1 ≤ 256 from ha)
    lia
theorem num256_map : ∀ (l : List Nat) (s : Nat), (∀ x ∈ l, x < 256) → (l.map fun k => k.toUInt8).foldl (fun s b => 256 * s + b.toNat) s = numB s l
  | [], _, _ => rfl
  | a :: l, s, h => by
    rw [List.map_cons, List.foldl_cons, u8 (h a List.mem_cons_self)]
    exact num256_map l _ fun x hx => h x (List.mem_cons_of_mem _ hx)
theorem num_oct {F : List Nat} (h : F.length % 4 = 0) (hf : ∀ f ∈ F, f < 64) {sp : Nat} (hs : sp ≤ (bytesG F).length) : ∃ r, r < 256 ^ sp ∧ numN F = num256 (octB F sp) * 256 ^ sp + r := by
  have e : numN F = numB 0 (bytesG F) := num_eq h hf 0
  have b := bytesG_lt h hf
  have e2 : num256 (octB F sp) = numB 0 ((bytesG F).take ((bytesG F).length - sp)) := by
    unfold num256 octB
    rw [octN_eq h hf]
    exact num256_map _ 0 fun x hx => b x (List.mem_of_mem_take hx)
  have l : ((bytesG F).drop ((bytesG F).length - sp)).length = sp := by rw [List.length_drop]; lia
  have q := numB_lt ((bytesG F).drop ((bytesG F).length - sp)) fun x hx => b x (List.mem_of_mem_drop hx)
  rw [l] at q
  refine ⟨_, q, ?_⟩
  rw [e, e2]
  have s := numB_s ((bytesG F).drop ((bytesG F).length - sp)) (numB 0 ((bytesG F).take ((bytesG F).length - sp)))
  rw [l] at s
  rw [← s]
  conv => lhs; rw [← List.take_append_drop ((bytesG F).length - sp) (bytesG F)]
  exact List.foldl_append
theorem up_oct {bl sp n : Nat} {T a b : List Nat} (H : TlD bl sp T n) (ha : wtR a = n) (hb : wtR b = n) (h : W bl a < W bl b) : num256 (octB (Fo bl sp T a) sp) < num256 (octB (Fo bl sp T b) sp) := by
  have la := Fo_len bl sp T a
  have lb := Fo_len bl sp T b
  rw [ha] at la
  rw [hb] at lb
  have n4 := H.n4
  have n5 := H.n5
  have s2 := H.s2
  have Ga := bytesG_len (F := Fo bl sp T a) (by rw [la]; exact n4)
  have Gb := bytesG_len (F := Fo bl sp T b) (by rw [lb]; exact n4)
  rw [la] at Ga
  rw [lb] at Gb
  obtain ⟨r, hr, er⟩ := num_oct (F := Fo bl sp T a) (by rw [la]; exact n4) (Fo_64 H) (sp := sp) (by rw [Ga]; lia)
  obtain ⟨s, hs, es⟩ := num_oct (F := Fo bl sp T b) (by rw [lb]; exact n4) (Fo_64 H) (sp := sp) (by rw [Gb]; lia)
  have e : ∀ o, numN (Fo bl sp T o) = W bl o * 64 ^ (T ++ List.replicate sp 0).length + numN (T ++ List.replicate sp 0) := fun o => numN_app _ _
  have p : 256 ^ sp ≤ 64 ^ (T ++ List.replicate sp 0).length := by
    rw [List.length_append, List.length_replicate]
    rcases H.tl with z | ⟨T', x, z⟩
    · subst z; exact Nat.pow_pos (by decide)
    · have : sp + 1 ≤ T.length + sp := by rw [z, List.length_append, List.length_singleton]; lia
      refine Nat.le_trans ?_ (Nat.pow_le_pow_right (by decide) this)
      obtain q | q | q : sp = 0 ∨ sp = 1 ∨ sp = 2 := by lia
      all_goals (subst q; decide)
  have m := Nat.mul_le_mul_right (64 ^ (T ++ List.replicate sp 0).length) (show W bl a + 1 ≤ W bl b from h)
  rw [e a] at er
  rw [e b] at es
  refine Nat.not_le.mp fun z => ?_
  have := Nat.mul_le_mul_right (256 ^ sp) z
  rw [Nat.add_mul, Nat.one_mul] at m
  lia
/-! plain, law 2: the law -/
theorem wit_nil (x y : List Nat) : witN (fun a b => decide (a ≠ b)) x y = [] ↔ eqB x y = true := by
  rw [eqB_iff]
  unfold witN
  rw [List.map_eq_nil_iff, List.filter_eq_nil_iff]
  exact ⟨fun h i hi => Classical.byContradiction fun z => h i (List.mem_range.mpr hi) (decide_eq_true z), fun h i hi z => of_decide_eq_true z (h i (List.mem_range.mp hi))⟩
theorem optLen (o : Option (List Nat)) : (o.map List.length).getD 0 = (o.getD []).length := by
  induction o using Option.casesOn with
  | none => rfl
  | some a => rfl
theorem parse {U : List Nat} (h : ∀ f ∈ U, isWh f) : ∃ runs bl, U = fL runs bl ∧ leadN runs bl = U.map sgW ∧ 1 ≤ (splitAt 9 (leadN runs bl)).length ∧ ((splitAt 9 (leadN runs bl)).take ((splitAt 9 (leadN runs bl)).length - 1)).map List.length = runs ∧ ((splitAt 9 (leadN runs bl))[(splitAt 9 (leadN runs bl)).length - 1]?.getD []).length = bl := by
  have P := lead_parse (U.map sgW) 0 fun c hc => by
    obtain ⟨f, hf, e⟩ := List.mem_map.mp hc
    rw [← e]
    rcases h f hf with z | z
    · rw [z]; exact .inl rfl
    · rw [z]; exact .inr rfl
  rw [← parts_runs, List.length_map, List.getElem?_map, optLen, ← List.map_take] at P
  have P2 : leadN _ _ = U.map sgW := P.2
  refine ⟨_, _, fL_of h P2, P2, ?_⟩
  rw [P2]
  exact ⟨P.1, rfl, rfl⟩
theorem map_getD {α β : Type} (f : α → β) {l : List α} {i : Nat} (d : α) (e : β) (h : i < l.length) : (l.map f)[i]?.getD e = f (l[i]?.getD d) := by
  rw [List.getElem?_map, List.getElem?_eq_getElem h]; rfl
theorem len_wt (l : List Nat) : l.length ≤ wtR l := by
  unfold wtR
  induction l with
  | nil => exact Nat.le_refl _
  | cons a l ih => rw [List.map_cons, List.sum_cons, List.length_cons]; lia
theorem mx_wt (l : List Nat) : mxN l ≤ wtR l := by
  induction l with
  | nil => exact Nat.le_refl _
  | cons a l ih =>
    have e : wtR (a :: l) = a + 1 + wtR l := by unfold wtR; rw [List.map_cons, List.sum_cons]
    show max (a + 1) (mxN l) ≤ _
    rw [e]; lia
section
variable {bl sp : Nat} {T runs : List Nat} (H : TlD bl sp T (wtR runs)) {o : List Nat}
include H
theorem tx_ord (h : o ∈ ordsN runs.length runs) : TxD sp (Fo bl sp T o) (leadN o bl ++ restN T sp) := tx_of H (wtR_perm ((ords_mem _ runs o rfl).mp h))
theorem eq_ord (h : o ∈ ordsN runs.length runs) : eqB (leadN o bl ++ restN T sp) (leadN runs bl ++ restN T sp) = true := by
  have nw := rest_now sp H.th
  unfold eqB
  rw [(ws_lineR o bl nw).1, (ws_lineR o bl nw).2, (ws_lineR runs bl nw).1, (ws_lineR runs bl nw).2, cntN_perm ((ords_mem _ runs o rfl).mp h), decide_eq_true rfl, decide_eq_true rfl]; rfl
theorem row_up (i : Nat) (h : i + 1 < (ordsN runs.length runs).length) : num256 (((ordsN runs.length runs).map fun o => decB (leadN o bl ++ restN T sp) [32, 9])[i]?.getD []) < num256 (((ordsN runs.length runs).map fun o => decB (leadN o bl ++ restN T sp) [32, 9])[i + 1]?.getD []) := by
  have h0 := Nat.lt_of_succ_lt h
  rw [List.getElem?_map, List.getElem?_map, List.getElem?_eq_getElem h, List.getElem?_eq_getElem h0]
  show num256 (decB _ _) < num256 (decB _ _)
  have m0 := List.getElem_mem h0
  have m1 := List.getElem_mem h
  rw [(tx_ord H m0).de, (tx_ord H m1).de]
  exact up_oct H (wtR_perm ((ords_mem _ runs _ rfl).mp m0)) (wtR_perm ((ords_mem _ runs _ rfl).mp m1)) (List.pairwise_iff_getElem.mp (ords_up bl _ runs rfl) i (i + 1) h0 h (Nat.lt_succ_self i))
theorem alike_iff {runs2 : List Nat} {bl2 : Nat} : eqB (leadN runs2 bl2 ++ restN T sp) (leadN runs bl ++ restN T sp) = true ↔ ∃ o ∈ ordsN runs.length runs, leadN o bl ++ restN T sp = leadN runs2 bl2 ++ restN T sp := by
  have nw := rest_now sp H.th
  constructor
  · intro h
    unfold eqB at h
    rw [(ws_lineR runs2 bl2 nw).1, (ws_lineR runs2 bl2 nw).2, (ws_lineR runs bl nw).1, (ws_lineR runs bl nw).2] at h
    have h1 := of_decide_eq_true (Bool.and_eq_true_iff.mp h).1
    have h2 := of_decide_eq_true (Bool.and_eq_true_iff.mp h).2
    exact ⟨runs2, (ords_mem _ runs _ rfl).mpr (perm_of_cnt h1), by rw [h2]⟩
  · intro ⟨o, ho, e⟩
    rw [← e]; exact eq_ord H ho
end
theorem law2D {nums : List Int} (h1 : 1 ≤ nums.length) (h8 : nums.length ≤ 8) : ∃ Pr sp F1 F2 R1 R2 L1 L2 lead rest parts runs bl k Os Ts Rs c told A, LawD2 nums Pr sp F1 F2 R1 R2 L1 L2 lead rest parts runs bl k Os Ts Rs c told A := by
  obtain ⟨u, v, eP, g⟩ := prs_good nums
  have len := prs_len nums
  have s3 : sp2 nums ≤ 2 := by
    unfold sp2
    have := Int.emod_lt_of_pos nums.sum (show (0 : Int) < 3 by decide)
    lia
  have m4 : (prs2 nums).length % 4 = 0 ∧ 4 ≤ (prs2 nums).length ∧ (prs2 nums).length ≤ 8 := by rw [len]; unfold padN; lia
  have p64 : ∀ p ∈ prs2 nums, p.1 < 64 ∧ p.2 < 64 := fun p hp => by
    rw [eP] at hp
    rcases List.mem_append.mp hp with z | z
    · have := g.w p z
      unfold isWh at this; lia
    · have := g.e p z; lia
  generalize hsp : sp2 nums = sp at s3
  obtain ⟨u', v', g', S1, S2, ls, tl⟩ := shown_good g s3 (by rw [← eP]; lia)
  rw [← eP] at S1 S2 ls
  have ev : v'.map (fun p => p.2) = v'.map (fun p => p.1) := List.map_congr_left fun p hp => (g'.e p hp).1.symm
  rw [List.map_append] at S1 S2
  rw [ev] at S2
  have Tl : v'.length = (v'.map fun p => p.1).length := (List.length_map ..).symm
  have t64 : ∀ f ∈ v'.map (fun p => p.1), f < 64 := fun f hf => by
    obtain ⟨p, hp, e⟩ := List.mem_map.mp hf
    rw [← e]; exact (g'.e p hp).2
  have th : ∀ f ∈ (v'.map (fun p => p.1)).head?, f < 62 := fun f hf => by
    rw [List.head?_map] at hf
    obtain ⟨p, hp, e⟩ := Option.map_eq_some_iff.mp hf
    rw [← e]; exact g'.h p hp
  generalize v'.map (fun p => p.1) = T at *
  obtain ⟨runs, bl, U1, l1, ple, hru, hbl⟩ := parse (U := u'.map fun p => p.1) fun f hf => by
    obtain ⟨p, hp, e⟩ := List.mem_map.mp hf
    rw [← e]; exact (g'.w p hp).1
  obtain ⟨runs2, bl2, U2, l2, -⟩ := parse (U := u'.map fun p => p.2) fun f hf => by
    obtain ⟨p, hp, e⟩ := List.mem_map.mp hf
    rw [← e]; exact (g'.w p hp).2
  have ul : wtR runs + bl = u'.length := by rw [← fL_len, ← U1, List.length_map]
  have nl : wtR runs + bl + T.length + sp = (prs2 nums).length := by rw [ul, ← Tl, ← List.length_append]; exact ls
  have H : TlD bl sp T (wtR runs) := ⟨s3, t64, th, tl, by rw [nl]; exact m4.1, by rw [nl]; exact m4.2.1, by rw [nl]; exact m4.2.2⟩
  have X1 := txD (F := (prs2 nums).map fun p => p.1) (by rw [List.length_map]; exact m4.1) (by rw [List.length_map]; exact m4.2.1) (by rw [List.length_map]; exact m4.2.2) (fun f hf => by obtain ⟨p, hp, e⟩ := List.mem_map.mp hf; rw [← e]; exact (p64 p hp).1) s3
  have X2 := txD (F := (prs2 nums).map fun p => p.2) (by rw [List.length_map]; exact m4.1) (by rw [List.length_map]; exact m4.2.1) (by rw [List.length_map]; exact m4.2.2) (fun f hf => by obtain ⟨p, hp, e⟩ := List.mem_map.mp hf; rw [← e]; exact (p64 p hp).2) s3
  have E1 : lineN ((prs2 nums).map fun p => p.1) sp = leadN runs bl ++ restN T sp := by
    unfold lineN restN
    rw [S1, List.map_append, ← l1, List.append_assoc]
  have E2 : lineN ((prs2 nums).map fun p => p.2) sp = leadN runs2 bl2 ++ restN T sp := by
    unfold lineN restN
    rw [S2, List.map_append, ← l2, List.append_assoc]
  rw [E1] at X1
  rw [E2] at X2
  have nw := rest_now sp th
  have mr : runs ∈ ordsN runs.length runs := (ords_mem _ runs _ rfl).mpr (List.Perm.refl _)
  have w8 : wtR runs ≤ 8 := by lia
  have tp := told_perm runs
  have O0 := List.length_pos_of_mem mr
  have lw := len_wt runs
  have mm : ∀ {o : List Nat}, o.Perm runs → o.length ≤ 8 ∧ ∀ r ∈ o, r ≤ 8 := fun {o} ho => ⟨by rw [ho.length_eq]; lia, fun r hr => by have := mem_wt (ho.mem_iff.mp hr); lia⟩
  have tx : ∀ t ∈ (ordsN runs.length runs).map (fun o => leadN o bl ++ restN T sp), ∃ o ∈ ordsN runs.length runs, leadN o bl ++ restN T sp = t := fun t ht => List.mem_map.mp ht
  refine ⟨prs2 nums, sp, _, _, _, _, leadN runs bl ++ restN T sp, leadN runs2 bl2 ++ restN T sp, leadN runs bl, restN T sp, splitAt 9 (leadN runs bl), runs, bl, runs.length, ordsN runs.length runs, _, _, cntN runs, toldN (cntN runs), eqB (leadN runs2 bl2 ++ restN T sp) (leadN runs bl ++ restN T sp), ⟨h1, h8, rfl, hsp.symm, s3, m4.2.2, ⟨m4.1, m4.2.1⟩, p64, rfl, rfl, rfl, rfl, X1.li, X2.li, X1.ln, X2.ln, X1.tl, X2.tl, tw_leadR runs bl nw, List.drop_left, rfl, ple, hru, hbl, rfl, w8, by lia, rfl, rfl, fun o ho => mm ((ords_mem _ runs o rfl).mp ho), fun t ht => ?_, fun t ht => ?_, rfl, fun r hr => ?_, mr, ?_, fun i hi => ?_, fun t ht => ?_, (ws_lineR runs bl nw).1, (ws_lineR runs bl nw).2, ?_, fun i => ?_, rfl, ?_, (mm tp).2, ?_, ?_, rfl, ?_, ?_⟩⟩
  · obtain ⟨o, ho, e⟩ := tx t ht
    rw [← e]; exact ⟨(tx_ord H ho).tl, (tx_ord H ho).t128⟩
  · obtain ⟨o, ho, e⟩ := tx t ht
    rw [← e]; exact (tx_ord H ho).q
  · obtain ⟨t, ht, e⟩ := List.mem_map.mp hr
    obtain ⟨o, ho, e'⟩ := tx t ht
    rw [← e, ← e', (tx_ord H ho).de]; exact (tx_ord H ho).ol
  · have il := List.idxOf_lt_length_of_mem mr
    rw [List.getElem?_map, List.getElem?_map, List.getElem?_eq_getElem il, List.getElem_idxOf il]
    exact congrArg some X1.de
  · rw [List.map_map] at hi ⊢
    rw [List.length_map] at hi
    exact row_up H i hi
  · obtain ⟨o, ho, e⟩ := tx t ht
    rw [← e]; exact eq_ord H ho
  · rw [cntN_len]; have := mx_wt runs; lia
  · rw [cntN_at]; exact Nat.le_trans List.count_le_length (by lia)
  · exact (mm tp).1
  · rw [map_getD _ [] [] O0, ords_first bl rfl ((List.reverse_perm _).trans tp) (told_down _)]
  · rw [List.length_map, map_getD _ [] [] (Nat.sub_lt O0 Nat.one_pos), ords_last bl rfl tp (told_up _)]
  · rw [Bool.eq_iff_iff, decide_eq_true_iff]
    exact (wit_nil _ _).symm
  · rw [Bool.eq_iff_iff, decide_eq_true_iff, alike_iff H, List.map_map, List.mem_map]
    constructor
    · intro ⟨o, ho, e⟩
      exact ⟨o, ho, (congrArg (fun t => decB t [32, 9]) e).trans X2.de⟩
    · intro ⟨o, ho, e⟩
      have e : decB (leadN o bl ++ restN T sp) [32, 9] = _ := e
      rw [(tx_ord H ho).de] at e
      exact ⟨o, ho, by rw [← (tx_ord H ho).li, e]; exact X2.li⟩
theorem nums2_ok (ns : List Int) : 1 ≤ (nums2 ns).length ∧ (nums2 ns).length ≤ 8 := by
  unfold nums2
  by_cases q : ns = []
  · rw [if_pos q]; exact ⟨by decide, by decide⟩
  · rw [if_neg q, List.length_take]
    have := List.length_pos_iff.mpr q
    lia
theorem law2_run (n : Nat) (ns : List Int) (hn : ns.length ≤ 63) : (PT (n + 10)).fn (.ref 209) [intsL ns] [] = some (.bool true) := by
  obtain ⟨h1, h8⟩ := nums2_ok ns
  obtain ⟨_, _, _, _, _, _, _, _, _, _, _, _, _, _, _, _, _, _, _, _, H⟩ := law2D h1 h8
  exact c_law n ns hn H
end Mine
set_option maxHeartbeats 8000000
namespace Mine
open PySem PySem.W PyProof.Rows
set_option tactic.hygienic true in
theorem holds_of (run : ∀ ns : List Int, ns.length ≤ 63 → (PT 20).fn (.ref 209) [.list (ns.map .int)] [] = some (.bool true)) : PySem.Challenge.rw_pa0015_02.Holds := by
  w_on
  refine holds_law (by decide +kernel) fun said => ?_
  refine holds_open (q := q0) (loose := ls0) (Xt := fun s => xlAt q0 [] s && recOk (RowW.records R0.toRowW) s) (XP := XL q0 []) (Yf := HK.obs) (Ya := HK.val) (YP := HK.says) (N := 2*1288+100) hl0 HK.of HK.keeps (fun s e => xl_of s (Bool.and_eq_true_iff.mp e).1) XL.keeps (by rfl) (by rfl) (by rfl) (fun s e => recFacts_of (Bool.and_eq_true_iff.mp e).2) (by rfl) (by first | assumption | decide +kernel) (by decide +kernel) ⟨rfl, rfl, rfl, rfl, rfl, by decide +kernel⟩ ?hw ?hc
  case hw => w_witness2
  clear said
  intro w s₀ s₁ mg mb G Y fa o pm cd doc dV kV ho hd hcd hD hmg hg args vals as hpre hlay hrd hwl hlo
  have KX := kIn_of Y
  refine Ground.open G ?_
  intro T B D TE TW
  have hmg2 := mg_of KX (Top.g T) (n := Str.ofString "law") (v := .ref 209) (by kernel_rfl)
  have hfa : fa = 209 := by
    have := hmg.symm.trans hmg2
    cases this; rfl
  subst hfa
  have Bg : Bs ⟨PySem.Challenge.rw_pa0015_02.row.prog, w, s₁.heap⟩ (KK w.params) mg mb := ⟨KX, Top.g T, Top.b T, Top.nolimit T, Top.builtins T⟩
  clear hmg hmg2 hd hcd hD ho T B D TE TW
  wrow_args hpre hlay hrd hwl hlo
  rename_i ns _ _ _ _ _ _ _ a vs _ hl _ hw1 _ hi _ hlen _
  have hlen : ns.length ≤ 63 := by omega
  have C := (PN_ok Bg (tab_ok Bg) 20).fn _ _ _ _ (run ns hlen)
  have hw : s₁.heap.get? a = some (lsO vs 0) := by
    obtain ⟨ol, hl1, hl2, n, hl3⟩ := hl
    have w1 : Well w.params s₁.heap (.ref a) (.list (ofPys (List.map PyData.int ns))) := hw1
    cases w1 with | list e r =>
    rw [hl1] at e; cases e
    cases hl3
    exact hl1
  have g : Gnd ⟨PySem.Challenge.rw_pa0015_02.row.prog, w, s₁.heap⟩ (fun b => s₁.heap.get? b) s₁ := ⟨fun _ _ e => e, fun _ _ e => e⟩
  have R : Room callerA (2 * 20) := ⟨rfl, by decide +kernel, by decide +kernel⟩
  refine wpAny_mono (C.run [.ref a] [] _ s₁ callerA _ g R (.cons (.list hw (ints_rep hi)) .nil) ⟨rfl, .nil⟩) (fun v s' q => ?_) fun _ _ e => e
  obtain ⟨φ', x, r⟩ := q
  have r := r.iBool
  subst r
  obtain ⟨h', tk', e'⟩ := x.eq
  refine GoodW.toG ⟨.inl ⟨_, .bool true, [], rfl, fun _ => rfl, .bool true, ?_, fun _ => ⟨List.nodup_nil, fun _ h => (nomatch h)⟩⟩, x.ext, by rw [e'], by rw [e']; exact hg⟩
  wrow_post
end Mine

open PySem PySem.W PyProof.Rows
theorem PySem.Challenge.cw_pa0015_02_holds : PySem.Challenge.rw_pa0015_02.Holds :=
  Mine.holds_of fun ns h => Mine.law2_run 10 ns h
