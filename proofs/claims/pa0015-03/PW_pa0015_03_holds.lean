import PyProof.Rows.All
import Wide.All
import OpenK.AllK
import Wide.FinOn
import PySem.Challenge.RW_pa0015_03
set_option linter.all false
set_option tactic.hygienic false
set_option genInjectivity false
set_option genSizeOf false
set_option genSizeOfSpec false
set_option Elab.async false
set_option maxRecDepth 100000
set_option maxHeartbeats 8000000
open PySem.Str (ofString)
namespace Mine
theorem e0a2 {A0 A1 : Prop} {g : Prop} (h : A0∧A1) (k : A0→A1→g) : g:=k h.1 h.2
theorem e0a3 {A0 A1 A2 : Prop} {g : Prop} (h : A0∧A1∧A2) (k : A0→A1→A2→g) : g:=k h.1 h.2.1 h.2.2
theorem e0a4 {A0 A1 A2 A3 : Prop} {g : Prop} (h : A0∧A1∧A2∧A3) (k : A0→A1→A2→A3→g) : g:=k h.1 h.2.1 h.2.2.1 h.2.2.2
theorem e0a5 {A0 A1 A2 A3 A4 : Prop} {g : Prop} (h : A0∧A1∧A2∧A3∧A4) (k : A0→A1→A2→A3→A4→g) : g:=k h.1 h.2.1 h.2.2.1 h.2.2.2.1 h.2.2.2.2
theorem e0a7 {A0 A1 A2 A3 A4 A5 A6 : Prop} {g : Prop} (h : A0∧A1∧A2∧A3∧A4∧A5∧A6) (k : A0→A1→A2→A3→A4→A5→A6→g) : g:=k h.1 h.2.1 h.2.2.1 h.2.2.2.1 h.2.2.2.2.1 h.2.2.2.2.2.1 h.2.2.2.2.2.2
theorem e1a1 {α0 : Type} {A0 : α0→Prop} {g : Prop} (h : ∃ x0,A0 x0) (k : ∀ x0,A0 x0→g) : g:=h.elim fun x0 h=>k x0 h
theorem e1a2 {α0 : Type} {A0 A1 : α0→Prop} {g : Prop} (h : ∃ x0,A0 x0∧A1 x0) (k : ∀ x0,A0 x0→A1 x0→g) : g:=h.elim fun x0 h=>k x0 h.1 h.2
theorem e1a3 {α0 : Type} {A0 A1 A2 : α0→Prop} {g : Prop} (h : ∃ x0,A0 x0∧A1 x0∧A2 x0) (k : ∀ x0,A0 x0→A1 x0→A2 x0→g) : g:=h.elim fun x0 h=>k x0 h.1 h.2.1 h.2.2
theorem e2a1 {α0 : Type} {α1 : Type} {A0 : α0→α1→Prop} {g : Prop} (h : ∃ x0 x1,A0 x0 x1) (k : ∀ x0 x1,A0 x0 x1→g) : g:=h.elim fun x0 h=>h.elim fun x1 h=>k x0 x1 h
theorem e2a2 {α0 : Type} {α1 : Type} {A0 A1 : α0→α1→Prop} {g : Prop} (h : ∃ x0 x1,A0 x0 x1∧A1 x0 x1) (k : ∀ x0 x1,A0 x0 x1→A1 x0 x1→g) : g:=h.elim fun x0 h=>h.elim fun x1 h=>k x0 x1 h.1 h.2
theorem e2a3 {α0 : Type} {α1 : Type} {A0 A1 A2 : α0→α1→Prop} {g : Prop} (h : ∃ x0 x1,A0 x0 x1∧A1 x0 x1∧A2 x0 x1) (k : ∀ x0 x1,A0 x0 x1→A1 x0 x1→A2 x0 x1→g) : g:=h.elim fun x0 h=>h.elim fun x1 h=>k x0 x1 h.1 h.2.1 h.2.2
theorem e2a4 {α0 : Type} {α1 : Type} {A0 A1 A2 A3 : α0→α1→Prop} {g : Prop} (h : ∃ x0 x1,A0 x0 x1∧A1 x0 x1∧A2 x0 x1∧A3 x0 x1) (k : ∀ x0 x1,A0 x0 x1→A1 x0 x1→A2 x0 x1→A3 x0 x1→g) : g:=h.elim fun x0 h=>h.elim fun x1 h=>k x0 x1 h.1 h.2.1 h.2.2.1 h.2.2.2
theorem e3a2 {α0 : Type} {α1 : Type} {α2 : Type} {A0 A1 : α0→α1→α2→Prop} {g : Prop} (h : ∃ x0 x1 x2,A0 x0 x1 x2∧A1 x0 x1 x2) (k : ∀ x0 x1 x2,A0 x0 x1 x2→A1 x0 x1 x2→g) : g:=h.elim fun x0 h=>h.elim fun x1 h=>h.elim fun x2 h=>k x0 x1 x2 h.1 h.2
theorem e3a3 {α0 : Type} {α1 : Type} {α2 : Type} {A0 A1 A2 : α0→α1→α2→Prop} {g : Prop} (h : ∃ x0 x1 x2,A0 x0 x1 x2∧A1 x0 x1 x2∧A2 x0 x1 x2) (k : ∀ x0 x1 x2,A0 x0 x1 x2→A1 x0 x1 x2→A2 x0 x1 x2→g) : g:=h.elim fun x0 h=>h.elim fun x1 h=>h.elim fun x2 h=>k x0 x1 x2 h.1 h.2.1 h.2.2
theorem e3a4 {α0 : Type} {α1 : Type} {α2 : Type} {A0 A1 A2 A3 : α0→α1→α2→Prop} {g : Prop} (h : ∃ x0 x1 x2,A0 x0 x1 x2∧A1 x0 x1 x2∧A2 x0 x1 x2∧A3 x0 x1 x2) (k : ∀ x0 x1 x2,A0 x0 x1 x2→A1 x0 x1 x2→A2 x0 x1 x2→A3 x0 x1 x2→g) : g:=h.elim fun x0 h=>h.elim fun x1 h=>h.elim fun x2 h=>k x0 x1 x2 h.1 h.2.1 h.2.2.1 h.2.2.2
theorem e3a6 {α0 : Type} {α1 : Type} {α2 : Type} {A0 A1 A2 A3 A4 A5 : α0→α1→α2→Prop} {g : Prop} (h : ∃ x0 x1 x2,A0 x0 x1 x2∧A1 x0 x1 x2∧A2 x0 x1 x2∧A3 x0 x1 x2∧A4 x0 x1 x2∧A5 x0 x1 x2) (k : ∀ x0 x1 x2,A0 x0 x1 x2→A1 x0 x1 x2→A2 x0 x1 x2→A3 x0 x1 x2→A4 x0 x1 x2→A5 x0 x1 x2→g) : g:=h.elim fun x0 h=>h.elim fun x1 h=>h.elim fun x2 h=>k x0 x1 x2 h.1 h.2.1 h.2.2.1 h.2.2.2.1 h.2.2.2.2.1 h.2.2.2.2.2
theorem e4a2 {α0 : Type} {α1 : Type} {α2 : Type} {α3 : Type} {A0 A1 : α0→α1→α2→α3→Prop} {g : Prop} (h : ∃ x0 x1 x2 x3,A0 x0 x1 x2 x3∧A1 x0 x1 x2 x3) (k : ∀ x0 x1 x2 x3,A0 x0 x1 x2 x3→A1 x0 x1 x2 x3→g) : g:=h.elim fun x0 h=>h.elim fun x1 h=>h.elim fun x2 h=>h.elim fun x3 h=>k x0 x1 x2 x3 h.1 h.2
theorem e4a6 {α0 : Type} {α1 : Type} {α2 : Type} {α3 : Type} {A0 A1 A2 A3 A4 A5 : α0→α1→α2→α3→Prop} {g : Prop} (h : ∃ x0 x1 x2 x3,A0 x0 x1 x2 x3∧A1 x0 x1 x2 x3∧A2 x0 x1 x2 x3∧A3 x0 x1 x2 x3∧A4 x0 x1 x2 x3∧A5 x0 x1 x2 x3) (k : ∀ x0 x1 x2 x3,A0 x0 x1 x2 x3→A1 x0 x1 x2 x3→A2 x0 x1 x2 x3→A3 x0 x1 x2 x3→A4 x0 x1 x2 x3→A5 x0 x1 x2 x3→g) : g:=h.elim fun x0 h=>h.elim fun x1 h=>h.elim fun x2 h=>h.elim fun x3 h=>k x0 x1 x2 x3 h.1 h.2.1 h.2.2.1 h.2.2.2.1 h.2.2.2.2.1 h.2.2.2.2.2
theorem e5a7 {α0 : Type} {α1 : Type} {α2 : Type} {α3 : Type} {α4 : Type} {A0 A1 A2 A3 A4 A5 A6 : α0→α1→α2→α3→α4→Prop} {g : Prop} (h : ∃ x0 x1 x2 x3 x4,A0 x0 x1 x2 x3 x4∧A1 x0 x1 x2 x3 x4∧A2 x0 x1 x2 x3 x4∧A3 x0 x1 x2 x3 x4∧A4 x0 x1 x2 x3 x4∧A5 x0 x1 x2 x3 x4∧A6 x0 x1 x2 x3 x4) (k : ∀ x0 x1 x2 x3 x4,A0 x0 x1 x2 x3 x4→A1 x0 x1 x2 x3 x4→A2 x0 x1 x2 x3 x4→A3 x0 x1 x2 x3 x4→A4 x0 x1 x2 x3 x4→A5 x0 x1 x2 x3 x4→A6 x0 x1 x2 x3 x4→g) : g:=h.elim fun x0 h=>h.elim fun x1 h=>h.elim fun x2 h=>h.elim fun x3 h=>h.elim fun x4 h=>k x0 x1 x2 x3 x4 h.1 h.2.1 h.2.2.1 h.2.2.2.1 h.2.2.2.2.1 h.2.2.2.2.2.1 h.2.2.2.2.2.2
end Mine
namespace Mine
open PySem PySem.W PySem.Calls PyProof.Rows
theorem no_some {α : Type} {r : α} {P : Prop} (h : some r = none) : P:=(Option.some_ne_none r h).elim
theorem no_ft {P : Prop} (h : false = true) : P:=(Bool.false_ne_true h).elim
theorem no_tf {P : Prop} (h : true = false) : P:=(Bool.false_ne_true h.symm).elim
theorem no_mem {α : Type} {a : α} {P : Prop} (h : a∈([] : List α)) : P:=(List.not_mem_nil h).elim
theorem no_none {α : Type} {r : α} {P : Prop} (h : (none : Option α) = some r) : P:=(Option.some_ne_none r h.symm).elim
inductive D where
 | none
 | bool (b : Bool)
 | int (i : Int)
 | str (s : List Nat)
 | bytes (b : List UInt8)
 | list (l : List D)
 | tup (l : List D)
 | inst (c : Addr) (fs : List (Str×D))
 | rng (a b c : Int)
 | val (v : Value)
 deriving Inhabited
noncomputable abbrev o1 {α β : Type} (f : α→Option β) : Option α→Option β
 | some a=>f a
 | none=>none
noncomputable abbrev o2 {α β γ : Type} (f : α→β→Option γ) (x : Option α) (y : Option β) : Option γ:=o1 (fun a=>o1 (f a) y) x
noncomputable abbrev o3 {α β γ δ : Type} (f : α→β→γ→Option δ) (x : Option α) (y : Option β) (z : Option γ) : Option δ:=o1 (fun a=>o2 (f a) y z) x
theorem o1_inv {α β : Type} {f : α→Option β} {x : Option α} {r : β} (h : o1 f x = some r) : ∃ a,x = some a∧f a = some r:=by
 induction x using Option.casesOn with
 | none=>exact no_none h
 | some a=>exact ⟨a,rfl,h⟩
theorem o2_inv {α β γ : Type} {f : α→β→Option γ} {x : Option α} {y : Option β} {r : γ} (h : o2 f x y = some r) : ∃ a b,x = some a∧y = some b∧f a b = some r:=by
 refine e1a2 (o1_inv h) fun a e h=>?_
 refine e1a2 (o1_inv h) fun b e' h=>?_
 exact ⟨a,b,e,e',h⟩
theorem o3_inv {α β γ δ : Type} {f : α→β→γ→Option δ} {x : Option α} {y : Option β} {z : Option γ} {r : δ} (h : o3 f x y z = some r) : ∃ a b c,x = some a∧y = some b∧z = some c∧f a b c = some r:=by
 refine e1a2 (o1_inv h) fun a e h=>?_
 refine e2a3 (o2_inv h) fun b c e' e'' h=>?_
 exact ⟨a,b,c,e,e',e'',h⟩
theorem oif_inv {α : Type} {c : Prop} [Decidable c] {x : Option α} {r : α} (h : (if c then x else none) = some r) : c∧x = some r:=by
 by_cases k : c
 ·rw [if_pos k] at h; exact ⟨k,h⟩
 ·rw [if_neg k] at h; exact no_none h
theorem some_inv {α : Type} {a b : α} (h : some a = some b) : b = a:=(Option.some.inj h).symm
theorem and_inv {a b : Bool} (h : (a && b) = true) : a = true∧b = true:=Bool.and_eq_true_iff.mp h
theorem o1_e {α β : Type} {f : α→Option β} {x : Option α} {r : β} {g : Prop} (h : o1 f x = some r) (k : ∀ a,x = some a→f a = some r→g) : g:=e1a2 (o1_inv h) k
theorem o2_e {α β γ : Type} {f : α→β→Option γ} {x : Option α} {y : Option β} {r : γ} {g : Prop} (h : o2 f x y = some r) (k : ∀ a b,x = some a→y = some b→f a b = some r→g) : g:=e2a3 (o2_inv h) k
theorem o3_e {α β γ δ : Type} {f : α→β→γ→Option δ} {x : Option α} {y : Option β} {z : Option γ} {r : δ} {g : Prop} (h : o3 f x y z = some r) (k : ∀ a b c,x = some a→y = some b→z = some c→f a b c = some r→g) : g:=e3a4 (o3_inv h) k
@[elab_as_elim] theorem some_e {α : Type} {P : α→Prop} {a b : α} (h : some a = some b) (k : P a) : P b:=Option.some.inj h ▸ k
theorem oif_e {α : Type} {c : Prop} [Decidable c] {x : Option α} {r : α} {g : Prop} (h : (if c then x else none) = some r) (k : c→x = some r→g) : g:=k (oif_inv h).1 (oif_inv h).2
theorem and_e {a b : Bool} {g : Prop} (h : (a && b) = true) (k : a = true→b = true→g) : g:=k (and_inv h).1 (and_inv h).2
noncomputable def onE {α : Type} (d : α) (nm : Str→Pos→α) (tp : List Expr→Nat→Pos→α) (at' : Expr→Str→Pos→α) (sb : Expr→Expr→Pos→α) (cl : Expr→List Expr→List Keyword→Pos→α) : Expr→α
 | .Name x p=>nm x p
 | .Tuple ts k p=>tp ts k p
 | .Attribute o a p=>at' o a p
 | .Subscript v i p=>sb v i p
 | .Call f as ks p=>cl f as ks p
 | _=>d
noncomputable def nameOf : Expr→Option Str:=onE none (fun x _a=>some x) (fun _a _a _a=>none) (fun _a _a _a=>none) (fun _a _a _a=>none) (fun _a _a _a _a=>none)
noncomputable def noE (k : Nat) (e : Expr) : Bool:=!(Nat.beq e.ctorIdx k)
theorem nameOf_inv {e : Expr} {x : Str} (h : nameOf e = some x) : ∃ p,e = .Name x p:=by
 induction e using PySem.Expr.casesOn <;> first | exact no_none h | exact ⟨_,by rw [some_inv h]⟩
noncomputable def tupD : D→Option (List D)
 | .tup ds=>some ds
 | _=>none
theorem tupD_inv {d : D} {l : List D} (h : tupD d = some l) : d = .tup l:=by
 induction d using Mine.D.casesOn <;> first | exact no_none h | rw [some_inv h]
noncomputable def intD : D→Option Int
 | .int i=>some i
 | _=>none
theorem intD_inv {d : D} {i : Int} (h : intD d = some i) : d = .int i:=by
 induction d using Mine.D.casesOn <;> first | exact no_none h | rw [some_inv h]
noncomputable def bytD : D→Option (List UInt8)
 | .bytes x=>some x
 | _=>none
theorem bytD_inv {d : D} {x : List UInt8} (h : bytD d = some x) : d = .bytes x:=by
 induction d using Mine.D.casesOn <;> first | exact no_none h | rw [some_inv h]
noncomputable def valD : D→Option Value
 | .val v=>some v
 | _=>none
theorem valD_inv {d : D} {v : Value} (h : valD d = some v) : d = .val v:=by
 induction d using Mine.D.casesOn <;> first | exact no_none h | rw [some_inv h]
noncomputable def strD : D→Option (List Nat)
 | .str x=>some x
 | _=>none
theorem strD_inv {d : D} {x : List Nat} (h : strD d = some x) : d = .str x:=by
 induction d using Mine.D.casesOn <;> first | exact no_none h | rw [some_inv h]
noncomputable def lstD : D→Option (List D)
 | .list x=>some x
 | _=>none
theorem lstD_inv {d : D} {x : List D} (h : lstD d = some x) : d = .list x:=by
 induction d using Mine.D.casesOn <;> first | exact no_none h | rw [some_inv h]
noncomputable abbrev Fz:=Addr→Option Obj
noncomputable def lsO (vs : List Value) (n : Nat) : Obj:={ cls:=.type "list",data:=.seq vs.toArray n }
noncomputable def tpO (vs : List Value) (n : Nat) : Obj:={ cls:=.type "tuple",data:=.seq vs.toArray n }
noncomputable def rgO (a b c : Int) (t u v : Tok) : Obj:={ cls:=.type "range",data:=.fields #[.int a t,.int b u,.int c v] }
mutual
inductive Rep (φ : Fz) : Value→D→Prop
 | none : Rep φ .none .none
 | bool (b : Bool) : Rep φ (.bool b) (.bool b)
 | int (i : Int) (t : Tok) : Rep φ (.int i t) (.int i)
 | str (l : List Nat) (t : Tok) : Rep φ (.str ⟨l.toArray⟩ t) (.str l)
 | bytes (l : List UInt8) (t : Tok) : Rep φ (.bytes l.toArray t) (.bytes l)
 | list {a : Addr} {vs : List Value} {n : Nat} {ds : List D} : φ a = some (lsO vs n)→RepL φ vs ds→Rep φ (.ref a) (.list ds)
 | tup {a : Addr} {vs : List Value} {n : Nat} {ds : List D} : φ a = some (tpO vs n)→RepL φ vs ds→Rep φ (.ref a) (.tup ds)
 | inst {x dx C : Addr} {es : List DictEntry} {n : Nat} {fs : List (Str×D)} : φ x = some (instObj C dx)→φ dx = some (dictOf es n)→RepF φ es fs→Rep φ (.ref x) (.inst C fs)
 | rng {r : Addr} {a b c : Int} {t u v : Tok} : φ r = some (rgO a b c t u v)→Rep φ (.ref r) (.rng a b c)
 | val (v : Value) : Rep φ v (.val v)
inductive RepL (φ : Fz) : List Value→List D→Prop
 | nil : RepL φ [] []
 | cons {v : Value} {vs : List Value} {d : D} {ds : List D} : Rep φ v d→RepL φ vs ds→RepL φ (v :: vs) (d :: ds)
inductive RepF (φ : Fz) : List DictEntry→List (Str×D)→Prop
 | nil : RepF φ [] []
 | cons {h : Int} {x : Str} {t : Tok} {v : Value} {es : List DictEntry} {d : D} {fs : List (Str×D)} : Rep φ v d→RepF φ es fs→RepF φ (⟨h,.str x t,v⟩ :: es) ((x,d) :: fs)
end
section
variable {φ φ' : Fz} (h : ∀ a o,φ a = some o→φ' a = some o)
include h
theorem Rep.mono {v : Value} {d : D} (r : Rep φ v d) : Rep φ' v d :=
 Rep.rec (motive_1:=fun v d _a=>Rep φ' v d) (motive_2:=fun vs ds _a=>RepL φ' vs ds) (motive_3:=fun es fs _a=>RepF φ' es fs)
  .none (fun b=>.bool b) (fun i t=>.int i t) (fun l t=>.str l t) (fun l t=>.bytes l t) (fun e _a r=>.list (h _ _ e) r) (fun e _a r=>.tup (h _ _ e) r) (fun e f _a r=>.inst (h _ _ e) (h _ _ f) r) (fun e=>.rng (h _ _ e)) (fun v=>.val v) .nil (fun _a _a x r=>.cons x r) .nil (fun _a _a x r=>.cons x r) r
theorem RepL.mono {vs : List Value} {ds : List D} (r : RepL φ vs ds) : RepL φ' vs ds :=
 RepL.rec (motive_1:=fun v d _a=>Rep φ' v d) (motive_2:=fun vs ds _a=>RepL φ' vs ds) (motive_3:=fun es fs _a=>RepF φ' es fs)
  .none (fun b=>.bool b) (fun i t=>.int i t) (fun l t=>.str l t) (fun l t=>.bytes l t) (fun e _a r=>.list (h _ _ e) r) (fun e _a r=>.tup (h _ _ e) r) (fun e f _a r=>.inst (h _ _ e) (h _ _ f) r) (fun e=>.rng (h _ _ e)) (fun v=>.val v) .nil (fun _a _a x r=>.cons x r) .nil (fun _a _a x r=>.cons x r) r
theorem RepF.mono {es : List DictEntry} {fs : List (Str×D)} (r : RepF φ es fs) : RepF φ' es fs :=
 RepF.rec (motive_1:=fun v d _a=>Rep φ' v d) (motive_2:=fun vs ds _a=>RepL φ' vs ds) (motive_3:=fun es fs _a=>RepF φ' es fs)
  .none (fun b=>.bool b) (fun i t=>.int i t) (fun l t=>.str l t) (fun l t=>.bytes l t) (fun e _a r=>.list (h _ _ e) r) (fun e _a r=>.tup (h _ _ e) r) (fun e f _a r=>.inst (h _ _ e) (h _ _ f) r) (fun e=>.rng (h _ _ e)) (fun v=>.val v) .nil (fun _a _a x r=>.cons x r) .nil (fun _a _a x r=>.cons x r) r
end
section
variable {φ : Fz} {v : Value}
noncomputable def RepI (φ : Fz) (v : Value) : D→Prop
 | .none=>v = .none
 | .bool b=>v = .bool b
 | .int i=>∃ t,v = .int i t
 | .str l=>∃ t,v = .str ⟨l.toArray⟩ t
 | .bytes l=>∃ t,v = .bytes l.toArray t
 | .list ds=>∃ a vs n,v = .ref a∧φ a = some (lsO vs n)∧RepL φ vs ds
 | .tup ds=>∃ a vs n,v = .ref a∧φ a = some (tpO vs n)∧RepL φ vs ds
 | .inst C fs=>∃ x dx es n,v = .ref x∧φ x = some (instObj C dx)∧φ dx = some (dictOf es n)∧RepF φ es fs
 | .rng a b c=>∃ r t u w,v = .ref r∧φ r = some (rgO a b c t u w)
 | .val w=>v = w
set_option tactic.hygienic true in
theorem Rep.inv {d : D} (h : Rep φ v d) : RepI φ v d:=by
 cases h
 case none=>rfl
 case bool=>rfl
 case int i t=>exact ⟨t,rfl⟩
 case str l t=>exact ⟨t,rfl⟩
 case bytes l t=>exact ⟨t,rfl⟩
 case list e r=>exact ⟨_,_,_,rfl,e,r⟩
 case tup e r=>exact ⟨_,_,_,rfl,e,r⟩
 case inst e f r=>exact ⟨_,_,_,_,rfl,e,f,r⟩
 case rng e=>exact ⟨_,_,_,_,rfl,e⟩
 case val=>rfl
theorem Rep.iNone (h : Rep φ v .none) : v = .none:=h.inv
theorem Rep.iBool {b : Bool} (h : Rep φ v (.bool b)) : v = .bool b:=h.inv
theorem Rep.iInt {i : Int} (h : Rep φ v (.int i)) : ∃ t,v = .int i t:=h.inv
theorem Rep.iStr {l : List Nat} (h : Rep φ v (.str l)) : ∃ t,v = .str ⟨l.toArray⟩ t:=h.inv
theorem Rep.iBytes {l : List UInt8} (h : Rep φ v (.bytes l)) : ∃ t,v = .bytes l.toArray t:=h.inv
theorem Rep.iVal {w : Value} (h : Rep φ v (.val w)) : v = w:=h.inv
theorem Rep.iList {ds : List D} (h : Rep φ v (.list ds)) : ∃ a vs n,v = .ref a∧φ a = some (lsO vs n)∧RepL φ vs ds:=h.inv
theorem Rep.iTup {ds : List D} (h : Rep φ v (.tup ds)) : ∃ a vs n,v = .ref a∧φ a = some (tpO vs n)∧RepL φ vs ds:=h.inv
theorem Rep.iInst {C : Addr} {fs : List (Str×D)} (h : Rep φ v (.inst C fs)) : ∃ x dx es n,v = .ref x∧φ x = some (instObj C dx)∧φ dx = some (dictOf es n)∧RepF φ es fs:=h.inv
theorem Rep.iRng {a b c : Int} (h : Rep φ v (.rng a b c)) : ∃ r t u w,v = .ref r∧φ r = some (rgO a b c t u w):=h.inv
theorem RepL.iNil {vs : List Value} (h : RepL φ vs []) : vs = []:=by cases h; rfl
theorem RepL.iCons {vs : List Value} {d : D} {ds : List D} (h : RepL φ vs (d :: ds)) : ∃ v ws,vs = v :: ws∧Rep φ v d∧RepL φ ws ds:=by cases h with | cons r rs=>exact ⟨_,_,rfl,r,rs⟩
end
section
variable {φ : Fz} {v : Value} {P : Value→Prop}
@[elab_as_elim] theorem Rep.sInt {i : Int} (h : Rep φ v (.int i)) (k : ∀ t,P (.int i t)) : P v:=h.iInt.elim fun t e=>e ▸ k t
@[elab_as_elim] theorem Rep.sStr {l : List Nat} (h : Rep φ v (.str l)) (k : ∀ t,P (.str ⟨l.toArray⟩ t)) : P v:=h.iStr.elim fun t e=>e ▸ k t
@[elab_as_elim] theorem Rep.sBytes {l : List UInt8} (h : Rep φ v (.bytes l)) (k : ∀ t,P (.bytes l.toArray t)) : P v:=h.iBytes.elim fun t e=>e ▸ k t
@[elab_as_elim] theorem Rep.sList {ds : List D} (h : Rep φ v (.list ds)) (k : ∀ a vs n,φ a = some (lsO vs n)→RepL φ vs ds→P (.ref a)) : P v:=e3a3 h.iList fun a vs n e f r=>e ▸ k a vs n f r
@[elab_as_elim] theorem Rep.sTup {ds : List D} (h : Rep φ v (.tup ds)) (k : ∀ a vs n,φ a = some (tpO vs n)→RepL φ vs ds→P (.ref a)) : P v:=e3a3 h.iTup fun a vs n e f r=>e ▸ k a vs n f r
@[elab_as_elim] theorem RepL.sCons {P : List Value→Prop} {vs : List Value} {d : D} {ds : List D} (h : RepL φ vs (d :: ds)) (k : ∀ v ws,Rep φ v d→RepL φ ws ds→P (v :: ws)) : P vs:=e2a3 h.iCons fun v ws e f r=>e ▸ k v ws f r
@[elab_as_elim] theorem RepL.sNil {P : List Value→Prop} {vs : List Value} (h : RepL φ vs []) (k : P []) : P vs:=h.iNil ▸ k
theorem RepL.jNil {ds : List D} (h : RepL φ [] ds) : ds = []:=by cases h; rfl
theorem RepL.jCons {vs : List Value} {ds : List D} (h : RepL φ (v :: vs) ds) : ∃ d es,ds = d :: es∧Rep φ v d∧RepL φ vs es:=by cases h with | cons r rs=>exact ⟨_,_,rfl,r,rs⟩
@[elab_as_elim] theorem RepL.uNil {P : List D→Prop} {ds : List D} (h : RepL φ [] ds) (k : P []) : P ds:=h.jNil ▸ k
@[elab_as_elim] theorem RepL.uCons {P : List D→Prop} {vs : List Value} {ds : List D} (h : RepL φ (v :: vs) ds) (k : ∀ d es,Rep φ v d→RepL φ vs es→P (d :: es)) : P ds:=e2a3 h.jCons fun d es e f r=>e ▸ k d es f r
end
section
variable {φ : Fz} {v w : Value} {d e : D} {vs ws : List Value} {ds es : List D}
theorem RepL.length (h : RepL φ vs ds) : vs.length = ds.length:=by
 induction vs generalizing ds with
 | nil=>exact h.uNil rfl
 | cons v vs ih=>exact h.uCons fun _a _a _a r=>congrArg Nat.succ (ih r)
theorem RepL.append (h : RepL φ vs ds) (k : RepL φ ws es) : RepL φ (vs ++ ws) (ds ++ es):=by
 induction vs generalizing ds with
 | nil=>exact h.uNil k
 | cons v vs ih=>exact h.uCons fun _a _a x r=>.cons x (ih r)
theorem RepL.get (h : RepL φ vs ds) {k : Nat} {d : D} (e : ds[k]? = some d) : ∃ v,vs[k]? = some v∧Rep φ v d:=by
 induction ds generalizing vs k with
 | nil=>exact no_none (List.getElem?_nil.symm.trans e)
 | cons x xs ih =>
  refine h.sCons fun v ws r rs=>?_
  induction k using Nat.casesAuxOn with
  | zero=>exact ⟨v,rfl,Option.some.inj e ▸ r⟩
  | succ k=>exact ih rs e
theorem RepL.getV (h : RepL φ vs ds) {k : Nat} {v : Value} (e : vs[k]? = some v) : ∃ d,ds[k]? = some d∧Rep φ v d:=by
 induction vs generalizing ds k with
 | nil=>exact no_none (List.getElem?_nil.symm.trans e)
 | cons x xs ih =>
  refine h.uCons fun d es r rs=>?_
  induction k using Nat.casesAuxOn with
  | zero=>exact ⟨d,rfl,Option.some.inj e ▸ r⟩
  | succ k=>exact ih rs e
theorem RepL.take (h : RepL φ vs ds) (k : Nat) : RepL φ (vs.take k) (ds.take k):=by
 induction vs generalizing ds k with
 | nil=>refine h.uNil ?_; rw [List.take_nil,List.take_nil]; exact .nil
 | cons v vs ih =>
  refine h.uCons fun d es r rs=>?_
  induction k using Nat.casesAuxOn with
  | zero=>exact .nil
  | succ k=>exact .cons r (ih rs k)
theorem RepL.drop (h : RepL φ vs ds) (k : Nat) : RepL φ (vs.drop k) (ds.drop k):=by
 induction vs generalizing ds k with
 | nil=>refine h.uNil ?_; rw [List.drop_nil,List.drop_nil]; exact .nil
 | cons v vs ih =>
  refine h.uCons fun d es r rs=>?_
  induction k using Nat.casesAuxOn with
  | zero=>exact .cons r rs
  | succ k=>exact ih rs k
theorem RepL.reverse (h : RepL φ vs ds) : RepL φ vs.reverse ds.reverse:=by
 induction vs generalizing ds with
 | nil=>exact h.uNil .nil
 | cons v vs ih=>refine h.uCons fun d es r rs=>?_; rw [List.reverse_cons,List.reverse_cons]; exact (ih rs).append (.cons r .nil)
theorem RepL.set (h : RepL φ vs ds) (k : Nat) (x : Rep φ v d) : RepL φ (vs.set k v) (ds.set k d):=by
 induction vs generalizing ds k with
 | nil=>exact h.uNil .nil
 | cons w vs ih =>
  refine h.uCons fun d' es r rs=>?_
  induction k using Nat.casesAuxOn with
  | zero=>exact .cons x rs
  | succ k=>exact .cons r (ih rs k)
theorem RepL.one (h : Rep φ v d) : RepL φ [v] [d]:=.cons h .nil
end
structure Step (φ : Fz) (s : Shared) (φ' : Fz) (s' : Shared) : Prop where
 eq : ∃ h' tk,s' = { s with heap:=h',toks:=tk }
 ext : ∀ b o,s.heap.get? b = some o→s'.heap.get? b = some o
 up : ∀ a o,φ a = some o→φ' a = some o
 new : ∀ a o,φ' a = some o→φ a = some o∨s.heap.get? a = none
 fin : ∀ a o,φ' a = some o→s'.heap.get? a = some o
theorem none_of_ext {h h' : Heap} (e : ∀ b o,h.get? b = some o→h'.get? b = some o) {a : Addr} (n : h'.get? a = none) : h.get? a = none:=by
 generalize q : h.get? a = r_; induction r_ using Option.casesOn with
 | none=>rfl
 | some o=>rw [e a o q] at n; exact no_some n
section
variable {φ φ₁ φ₂ : Fz} {s s₁ s₂ : Shared}
theorem Step.refl (fin : ∀ a o,φ a = some o→s.heap.get? a = some o) : Step φ s φ s:=⟨⟨s.heap,s.toks,rfl⟩,fun _a _a e=>e,fun _a _a e=>e,fun _a _a e=>.inl e,fin⟩
theorem Step.trans (x : Step φ s φ₁ s₁) (y : Step φ₁ s₁ φ₂ s₂) : Step φ s φ₂ s₂:=by
 refine e2a1 (x.eq) fun h1 t1 e1=>?_
 refine e2a1 (y.eq) fun h2 t2 e2=>?_
 refine ⟨⟨h2,t2,by rw [e2,e1]⟩,fun b o e=>y.ext b o (x.ext b o e),fun a o e=>y.up a o (x.up a o e),fun a o e=>?_,y.fin⟩
 rcases y.new a o e with q | q
 ·exact x.new a o q
 ·exact .inr (none_of_ext x.ext q)
theorem Step.toks (fin : ∀ a o,φ a = some o→s.heap.get? a = some o) (k : Nat) : Step φ s φ { s with toks:=k }:=⟨⟨s.heap,k,rfl⟩,fun _a _a e=>e,fun _a _a e=>e,fun _a _a e=>.inl e,fin⟩
theorem Step.heap (fin : ∀ a o,φ a = some o→s.heap.get? a = some o) {h' : Heap} {tk : Nat} (ext : ∀ b o,s.heap.get? b = some o→h'.get? b = some o) : Step φ s φ { s with heap:=h',toks:=tk } :=
 ⟨⟨h',tk,rfl⟩,ext,fun _a _a e=>e,fun _a _a e=>.inl e,fun a o e=>ext _ _ (fin a o e)⟩
end
noncomputable def Fz.put (φ : Fz) (a : Addr) (o : Obj) : Fz:=fun b=>if b = a then some o else φ b
theorem Fz.put_self (φ : Fz) (a : Addr) (o : Obj) : φ.put a o a = some o:=by simp [Fz.put]
theorem Fz.put_ne (φ : Fz) {a b : Addr} (o : Obj) (h : b≠a) : φ.put a o b = φ b:=by simp [Fz.put,h]
theorem Fz.put_inv {φ : Fz} {a b : Addr} {o p : Obj} {g : Prop} (q : φ.put a o b = some p) (k1 : b = a→o = p→g) (k2 : φ b = some p→g) : g:=by
 by_cases z : b = a
 ·refine k1 z (Option.some.inj (Eq.trans ?_ q)); rw [z,Fz.put_self]
 ·exact k2 ((Fz.put_ne φ o z).symm.trans q)
theorem Step.freeze {φ φ₁ : Fz} {s s₁ : Shared} {a : Addr} {o : Obj} (x : Step φ s φ₁ s₁) (n : s.heap.get? a = none) (h : s₁.heap.get? a = some o) (f : φ₁ a = none) : Step φ s (φ₁.put a o) s₁:=by
 refine ⟨x.eq,x.ext,fun b p e=>?_,fun b p e=>?_,fun b p e=>?_⟩
 ·by_cases q : b = a
  ·subst q; rw [x.up _ _ e] at f; exact no_some f
  ·rw [Fz.put_ne _ _ q]; exact x.up b p e
 ·exact Fz.put_inv e (fun z _a=>.inr (z ▸ n)) (x.new b p)
 ·exact Fz.put_inv e (fun z w=>z ▸ w ▸ h) (x.fin b p)
theorem Fz.put_up {φ : Fz} {a : Addr} {o : Obj} (f : φ a = none) : ∀ b p,φ b = some p→φ.put a o b = some p:=fun b p e=>by
 by_cases q : b = a
 ·subst q; rw [e] at f; exact no_some f
 ·rw [Fz.put_ne _ _ q]; exact e
noncomputable def EP (φ : Fz) (s : Shared) (d : D) (v : Value) (s' : Shared) : Prop:=∃ φ',Step φ s φ' s'∧Rep φ' v d
noncomputable def EPL (φ : Fz) (s : Shared) (l : List D) (v : Value) (s' : Shared) : Prop :=
 ∃ φ' a n vs,Step φ s φ' s'∧v = .ref a∧s'.heap.get? a = some (lsO vs n)∧RepL φ' vs l∧φ' a = none∧s.heap.get? a = none
noncomputable def EPs (φ : Fz) (s : Shared) (ds : List D) (vs : List Value) (s' : Shared) : Prop:=∃ φ',Step φ s φ' s'∧RepL φ' vs ds
theorem EP.after {φ φ₁ : Fz} {s s₁ s₂ : Shared} {d : D} {v : Value} (x : Step φ s φ₁ s₁) (y : EP φ₁ s₁ d v s₂) : EP φ s d v s₂:=e1a2 y fun φ' z r=>⟨φ',x.trans z,r⟩
theorem EPL.after {φ φ₁ : Fz} {s s₁ s₂ : Shared} {d : List D} {v : Value} (x : Step φ s φ₁ s₁) (y : EPL φ₁ s₁ d v s₂) : EPL φ s d v s₂ :=
 e4a6 y fun φ' a n vs z e g r f k=>⟨φ',a,n,vs,x.trans z,e,g,r,f,none_of_ext x.ext k⟩
theorem EPL.ep {φ : Fz} {s s' : Shared} {l : List D} {v : Value} (x : EPL φ s l v s') : EP φ s (.list l) v s':=by
 refine e4a6 (x) fun φ' a n vs z rr5 g r f k=>?_
 subst rr5
 exact ⟨φ'.put a (lsO vs n),z.freeze k g f,.list (Fz.put_self ..) (r.mono (Fz.put_up f))⟩
theorem EP.pure {φ : Fz} {s : Shared} {d : D} {v : Value} (fin : ∀ a o,φ a = some o→s.heap.get? a = some o) (r : Rep φ v d) : EP φ s d v s:=⟨φ,.refl fin,r⟩
theorem EP.tk {φ : Fz} {s : Shared} {d : D} {v : Value} {k : Nat} (fin : ∀ a o,φ a = some o→s.heap.get? a = some o) (r : Rep φ v d) : EP φ s d v { s with toks:=k }:=⟨φ,.toks fin k,r⟩
theorem get_size_none (h : Heap) : h.get? h.objs.size = none:=by
 generalize q : h.get? h.objs.size = r_; induction r_ using Option.casesOn with
 | none=>rfl
 | some o=>exact absurd (Heap.lt_size q) (Nat.lt_irrefl _)
theorem Step.push {φ : Fz} {s : Shared} (fin : ∀ a o,φ a = some o→s.heap.get? a = some o) (o : Obj) (tk : Nat) : Step φ s φ { s with heap:=s.heap.push o,toks:=tk } :=
 .heap fin fun _a _a e=>Heap.get?_push_of_some _ e
theorem fz_size {φ : Fz} {h : Heap} (fin : ∀ a o,φ a = some o→h.get? a = some o) : φ h.objs.size = none:=by
 generalize q : φ h.objs.size = r_; induction r_ using Option.casesOn with
 | none=>rfl
 | some o=>have:=fin _ _ q; rw [get_size_none] at this; exact no_none this
end Mine
namespace Mine
open PySem PySem.W PySem.Calls PyProof.Rows PySem.SeqAt
noncomputable def eqLD (f : D→D→Option Bool) : List D→List D→Option Bool
 | [],[]=>some true
 | x :: xs,y :: ys=>o2 (fun a b=>some (a && b)) (f x y) (eqLD f xs ys)
 | [],_ :: _=>some false
 | _ :: _,[]=>some false
noncomputable def nonD : D→Option Unit
 | .none=>some ()
 | _=>none
theorem nonD_inv {d : D} {u : Unit} (h : nonD d = some u) : d = .none:=by
 induction d using Mine.D.casesOn <;> first | exact no_none h | rfl
noncomputable def booD : D→Option Bool
 | .bool b=>some b
 | _=>none
theorem booD_inv {d : D} {b : Bool} (h : booD d = some b) : d = .bool b:=by
 induction d using Mine.D.casesOn <;> first | exact no_none h | rw [some_inv h]
noncomputable def eqD : Nat→D→D→Option Bool
 | 0,_,_=>none
 | n + 1,d,e=>match d with
  | .none=>o1 (fun _a=>some true) (nonD e)
  | .bool a=>o1 (fun b=>some (a == b)) (booD e)
  | .int a=>o1 (fun b=>some (decide (a = b))) (intD e)
  | .str a=>o1 (fun b=>some (decide (a = b))) (strD e)
  | .bytes a=>o1 (fun b=>some (decide (a = b))) (bytD e)
  | .list a=>o1 (fun b=>if a.length = b.length then eqLD (eqD n) a b else some false) (lstD e)
  | .tup a=>o1 (fun b=>eqLD (eqD n) a b) (tupD e)
  | _=>none
theorem lsO_inj {vs ws : List Value} {n m : Nat} (h : some (lsO vs n) = some (lsO ws m)) : vs = ws:=by
 simp [lsO] at h; exact h.1
theorem tpO_inj {vs ws : List Value} {n m : Nat} (h : some (tpO vs n) = some (tpO ws m)) : vs = ws:=by
 simp [tpO] at h; exact h.1
theorem lsO_isList {h : Heap} {a : Addr} {vs : List Value} {n : Nat} (e : h.get? a = some (lsO vs n)) : h.IsList a vs.toArray:=⟨_,e,rfl,n,rfl⟩
theorem tpO_isTuple {h : Heap} {a : Addr} {vs : List Value} {n : Nat} (e : h.get? a = some (tpO vs n)) : h.IsTuple a vs.toArray:=⟨_,e,rfl,n,rfl⟩
theorem eqLD_inv {f : D→D→Option Bool} {x y : D} {xs ys : List D} {r : Bool} (h : eqLD f (x :: xs) (y :: ys) = some r) : ∃ a b,f x y = some a∧eqLD f xs ys = some b∧r = (a && b):=by
 refine o2_e h fun a b h1 h2 h=>?_
 exact ⟨a,b,h1,h2,some_inv h⟩
theorem eqLD_same {φ : Fz} {f : D→D→Option Bool} (hf : ∀ v d e r,Rep φ v d→Rep φ v e→f d e = some r→r = true) {vs : List Value} {ds es : List D} {r : Bool} (x : RepL φ vs ds) (y : RepL φ vs es) (h : eqLD f ds es = some r) : r = true:=by
 induction ds generalizing vs es r with
 | nil=>have qq:=x.iNil; subst qq; induction es using List.casesOn with
  | nil=>exact some_inv h
  | cons e es=>obtain ⟨_,_,e,_⟩:=y.iCons; cases e
 | cons d ds ih =>
  refine e2a3 (x.iCons) fun v ws rr2 x1 x2=>?_
  subst rr2
  induction es using List.casesOn with
  | nil=>cases y.iNil
  | cons e es =>
   refine e2a3 (y.iCons) fun _a _a q y1 y2=>?_
   cases q
   refine e2a3 (eqLD_inv h) fun a b h1 h2 rr4=>?_
   subst rr4
   rw [hf _ _ _ _ x1 y1 h1,ih x2 y2 h2]; rfl
set_option tactic.hygienic true in
theorem eqD_same {φ : Fz} {n : Nat} {v : Value} {d e : D} {r : Bool} (x : Rep φ v d) (y : Rep φ v e) (h : eqD n d e = some r) : r = true:=by
 induction n generalizing v d e r with
 | zero=>exact no_none h
 | succ n ih =>
  induction d using Mine.D.casesOn <;> first | exact no_none h | skip
  case none=>refine o1_e h fun _a _a h=>?_; exact some_inv h
  case bool a =>
   refine o1_e h fun b hb g=>?_
   have qq:=booD_inv hb; subst qq
   have q:=x.iBool.symm.trans y.iBool
   cases q
   refine some_e g ?_; exact beq_self_eq_true a
  case int a =>
   refine o1_e h fun b hb g=>?_
   have qq:=intD_inv hb; subst qq
   refine e1a1 (x.iInt) fun t rr1=>?_
   subst rr1
   refine e1a1 (y.iInt) fun u q=>?_
   cases q
   rw [some_inv g]; exact decide_eq_true rfl
  case str a =>
   refine o1_e h fun b hb g=>?_
   have qq:=strD_inv hb; subst qq
   refine e1a1 (x.iStr) fun t rr1=>?_
   subst rr1
   refine e1a1 (y.iStr) fun u q=>?_
   cases q
   rw [some_inv g]; exact decide_eq_true rfl
  case bytes a =>
   refine o1_e h fun b hb g=>?_
   have qq:=bytD_inv hb; subst qq
   refine e1a1 (x.iBytes) fun t rr1=>?_
   subst rr1
   refine e1a1 (y.iBytes) fun u q=>?_
   cases q
   rw [some_inv g]; exact decide_eq_true rfl
  case list a =>
   refine o1_e h fun b hb g=>?_
   have qq:=lstD_inv hb; subst qq
   refine e3a3 (x.iList) fun p vs k rr3 e1 r1=>?_
   subst rr3
   refine e3a3 (y.iList) fun p' ws k' q e2 r2=>?_
   cases q
   have qq:=lsO_inj (e1.symm.trans e2); subst qq
   rw [if_pos (r1.length.symm.trans r2.length)] at g
   exact eqLD_same (fun v d e r x y h=>ih x y h) r1 r2 g
  case tup a =>
   refine o1_e h fun b hb g=>?_
   have qq:=tupD_inv hb; subst qq
   refine e3a3 (x.iTup) fun p vs k rr3 e1 r1=>?_
   subst rr3
   refine e3a3 (y.iTup) fun p' ws k' q e2 r2=>?_
   cases q
   have qq:=tpO_inj (e1.symm.trans e2); subst qq
   exact eqLD_same (fun v d e r x y h=>ih x y h) r1 r2 g
theorem eqLD_range (f : D→D→Option Bool) {xs ys : List D} {r : Bool} (h : eqLD f xs ys = some r) : ∃ e : Nat→Bool,(∀ j x y,xs[j]? = some x→ys[j]? = some y→f x y = some (e j)) ∧
  r = ((List.range (min xs.length ys.length)).all e && xs.length == ys.length):=by
 induction xs generalizing ys r with
 | nil=>induction ys using List.casesOn with
  | nil=>exact ⟨fun _a=>true,(fun j x y h1=>no_none h1),some_inv h⟩
  | cons y ys=>exact ⟨fun _a=>true,(fun j x y h1=>no_none h1),by refine some_e h ?_; rw [List.length_nil,Nat.zero_min]; rfl⟩
 | cons x xs ih=>induction ys using List.casesOn with
  | nil=>exact ⟨fun _a=>true,(fun j x y _a h1=>no_none h1),by refine some_e h ?_; rw [List.length_nil,Nat.min_zero]; rfl⟩
  | cons y ys =>
   refine e2a3 (eqLD_inv h) fun a b h1 h2 rr4=>?_
   subst rr4
   refine e1a2 (ih h2) fun e he rr2=>?_
   subst rr2
   refine ⟨fun j=>match j with | 0=>a | k + 1=>e k,fun j x' y' p q=>?_,?_⟩
   ·induction j using Nat.casesAuxOn with
    | zero=>cases p; cases q; exact h1
    | succ k=>exact he k x' y' p q
   ·rw [List.length_cons,List.length_cons,Nat.succ_min_succ,List.range_succ_eq_map,List.all_cons,List.all_map,Bool.and_assoc,show (xs.length.succ == ys.length.succ) = (xs.length == ys.length) from Bool.eq_iff_iff.mpr (beq_iff_eq.trans (Nat.succ_inj.trans beq_iff_eq.symm))]
    rfl
section
variable {φ : Fz} {A : Around} {s : Shared}
theorem str_beq (a b : List Nat) : ((⟨a.toArray⟩ : Str) == ⟨b.toArray⟩) = decide (a = b):=by
 rw [Bool.eq_iff_iff]; simp
theorem int_beq (a b : Int) : (a == b) = decide (a = b):=by rw [Bool.eq_iff_iff]; simp
structure CmpK (A : Around) (s : Shared) (K : Value→Value→Bool→Prop) : Prop where
 non : K .none .none true
 boo : ∀ a b,K (.bool a) (.bool b) (a == b)
 int : ∀ a b t u,K (.int a t) (.int b u) (a == b)
 str : ∀ (a b : Str) t u,K (.str a t) (.str b u) (a == b)
 byt : ∀ (a b : List UInt8) t u,K (.bytes a.toArray t) (.bytes b.toArray u) (decide (a = b))
 lst : ∀ {a b : Addr} {is js : Array Value} {e : Nat→Bool},s.heap.IsList a is→s.heap.IsList b js→is.size = js.size→(∀ j (h1 : j < is.size) (h2 : j < js.size),EqAt A.in1 s is[j] js[j] (e j))→K (.ref a) (.ref b) ((List.range is.size).all e)
 lsn : ∀ {a b : Addr} {is js : Array Value},s.heap.IsList a is→s.heap.IsList b js→(is.size != js.size) = true→K (.ref a) (.ref b) false
 tup : ∀ {a b : Addr} {is js : Array Value} {e : Nat→Bool},s.heap.IsTuple a is→s.heap.IsTuple b js→(∀ j (h1 : j < is.size) (h2 : j < js.size),EqAt A.in1 s is[j] js[j] (e j))→K (.ref a) (.ref b) ((List.range (min is.size js.size)).all e && is.size == js.size)
theorem elems {K : Value→Value→Bool→Prop} {vs ws : List Value} {ds es : List D} {f : D→D→Option Bool} {g : Nat→Bool} (r1 : RepL φ vs ds) (r2 : RepL φ ws es) (hg : ∀ j x y,ds[j]? = some x→es[j]? = some y→f x y = some (g j)) (ih : ∀ {v w d e r},Rep φ v d→Rep φ w e→f d e = some r→K v w r)
  (j : Nat) (j1 : j < vs.toArray.size) (j2 : j < ws.toArray.size) : K vs.toArray[j] ws.toArray[j] (g j):=by
 refine e1a2 (r1.getV (List.getElem?_eq_getElem (l:=vs) j1)) fun x hx rx=>?_
 refine e1a2 (r2.getV (List.getElem?_eq_getElem (l:=ws) j2)) fun y hy ry=>?_
 exact ih rx ry (hg j x y hx hy)
set_option tactic.hygienic true in
theorem eqK (fin : ∀ a o,φ a = some o→s.heap.get? a = some o) {K : Value→Value→Bool→Prop} (C : CmpK A s K) {n : Nat} (ih : ∀ {v w d e r},Rep φ v d→Rep φ w e→eqD n d e = some r→EqAt A.in1 s v w r)
  {v w : Value} {d e : D} {r : Bool} (x : Rep φ v d) (y : Rep φ w e) (h : eqD (n + 1) d e = some r) : K v w r:=by
 induction d using Mine.D.casesOn <;> first | exact no_none h | skip
 case none =>
  refine o1_e h fun _a hb g=>?_
  have qq:=nonD_inv hb; subst qq
  rw [x.iNone,y.iNone,some_inv g]; exact C.non
 case bool a =>
  refine o1_e h fun b hb g=>?_
  have qq:=booD_inv hb; subst qq
  rw [x.iBool,y.iBool,some_inv g]; exact C.boo a b
 case int a =>
  refine o1_e h fun b hb g=>?_
  have qq:=intD_inv hb; subst qq
  refine x.sInt fun t=>?_
  refine y.sInt fun u=>?_
  refine some_e g ?_; rw [← int_beq]; exact C.int a b t u
 case str a =>
  refine o1_e h fun b hb g=>?_
  have qq:=strD_inv hb; subst qq
  refine x.sStr fun t=>?_
  refine y.sStr fun u=>?_
  refine some_e g ?_; rw [← str_beq]; exact C.str _ _ t u
 case bytes a =>
  refine o1_e h fun b hb g=>?_
  have qq:=bytD_inv hb; subst qq
  refine x.sBytes fun t=>?_
  refine y.sBytes fun u=>?_
  refine some_e g ?_; exact C.byt a b t u
 case list a =>
  refine o1_e h fun b hb g=>?_
  have qq:=lstD_inv hb; subst qq
  refine x.sList fun p vs k e1 r1=>?_
  refine y.sList fun p' ws k' e2 r2=>?_
  have h1:=lsO_isList (fin _ _ e1)
  have h2:=lsO_isList (fin _ _ e2)
  have s1 : vs.toArray.size = a.length:=r1.length
  have s2 : ws.toArray.size = b.length:=r2.length
  by_cases hl : a.length = b.length
  ·rw [if_pos hl] at g
   refine e1a2 (eqLD_range _ g) fun f hf hr=>?_
   rw [hl,Nat.min_self,beq_self_eq_true,Bool.and_true,← hl,← s1] at hr
   rw [hr]
   exact C.lst h1 h2 (s1.trans (hl.trans s2.symm)) (elems r1 r2 hf ih)
  ·rw [if_neg hl] at g
   refine some_e g ?_
   exact C.lsn h1 h2 (bne_iff_ne.mpr (by rw [s1,s2]; exact hl))
 case tup a =>
  refine o1_e h fun b hb g=>?_
  have qq:=tupD_inv hb; subst qq
  refine x.sTup fun p vs k e1 r1=>?_
  refine y.sTup fun p' ws k' e2 r2=>?_
  refine e1a2 (eqLD_range _ g) fun f hf hr=>?_
  have s1 : vs.toArray.size = a.length:=r1.length
  have s2 : ws.toArray.size = b.length:=r2.length
  rw [← s1,← s2] at hr
  rw [hr]
  exact C.tup (tpO_isTuple (fin _ _ e1)) (tpO_isTuple (fin _ _ e2)) (elems r1 r2 hf ih)
theorem cmpEq (hu : A.units < cLine) : CmpK A s (RcAt A s) where
 non:=RcAt.none_none
 boo:=RcAt.bool_bool
 int:=fun a b t u=>RcAt.int_int a t b u
 str:=fun a b t u=>RcAt.str_str a t b u
 byt:=fun a b t u prog w E Q q=>eq_bytes (by rw [show (a.toArray.toList == b.toArray.toList) = decide (a = b) from Bool.beq_eq_decide_eq _ _]; exact q)
 lst:=fun h1 h2 hs he=>RcAt.lists h1 h2 hs hu he
 lsn:=fun h1 h2 hs=>RcAt.lists_lengths h1 h2 hs hu
 tup:=fun h1 h2 he=>RcAt.tuples h1 h2 hu he
theorem cmpNe (hu : A.units < cLine) : CmpK A s (fun v w r=>RcNeAt A s v w (!r)) where
 non:=RcNeAt.none_none
 boo:=RcNeAt.bool_bool
 int:=fun a b t u=>RcNeAt.int_int a t b u
 str:=fun a b t u=>RcNeAt.str_str a t b u
 byt:=fun a b t u prog w E Q q=>ne_bytes (by rw [show (a.toArray.toList != b.toArray.toList) = !decide (a = b) from congrArg (!·) (Bool.beq_eq_decide_eq a b)]; exact q)
 lst:=fun h1 h2 hs he=>RcNeAt.lists h1 h2 hs hu he
 lsn:=fun h1 h2 hs=>RcNeAt.lists_lengths h1 h2 hs hu
 tup:=fun h1 h2 he=>RcNeAt.tuples h1 h2 hu he
theorem refs_at {a b : Addr} {r : Bool} (h : RcAt A s (.ref a) (.ref b) r) (hr : Value.ref a = .ref b→r = true) : EqAt A s (.ref a) (.ref b) r:=by
 by_cases q : a = b
 ·subst q; rw [hr rfl]; exact EqAt.same _
 ·exact EqAt.of_refs q h
theorem cmpAt (hu : A.units < cLine) : CmpK A s (fun v w r=>(v = w→r = true)→EqAt A s v w r) where
 non:=fun _a=>EqAt.same _
 boo:=fun a b _a=>EqAt.bool_bool a b
 int:=fun a b t u _a=>EqAt.int_int a t b u
 str:=fun a b t u _a=>EqAt.str_str a t b u
 byt:=fun a b t u _a prog w E Q hq=>eqBool_bytes hq
 lst:=fun h1 h2 hs he=>refs_at ((cmpEq hu).lst h1 h2 hs he)
 lsn:=fun h1 h2 hs=>refs_at ((cmpEq hu).lsn h1 h2 hs)
 tup:=fun h1 h2 he=>refs_at ((cmpEq hu).tup h1 h2 he)
theorem eqAt (fin : ∀ a o,φ a = some o→s.heap.get? a = some o) {n : Nat} {A : Around} {v w : Value} {d e : D} {r : Bool} (x : Rep φ v d) (y : Rep φ w e) (h : eqD n d e = some r) (hu : A.units + n < cLine) : EqAt A s v w r:=by
 induction n generalizing A v w d e r with
 | zero=>exact no_none h
 | succ n ih=>exact eqK fin (cmpAt (Nat.lt_of_le_of_lt (Nat.le_add_right _ _) hu)) (fun x y h=>ih x y h (by rw [Around.in1_units]; lia)) x y h fun q=>eqD_same x (q ▸ y) h
theorem compareEq (fin : ∀ a o,φ a = some o→s.heap.get? a = some o) {n : Nat} {v w : Value} {d e : D} {r : Bool} {prog : Program} {wd : World} {E : Value→Shared→Prop} {Q : Value→Shared→Prop}
  (x : Rep φ v d) (y : Rep φ w e) (h : eqD (n + 1) d e = some r) (hu : A.units + (n + 1) < cLine) (q : Q (.bool r) s) : wpAny (model prog wd) A (compareOp .Eq v w) Q E s :=
 eqK fin (cmpEq (Nat.lt_of_le_of_lt (Nat.le_add_right _ _) hu)) (fun x y h=>eqAt fin x y h (by rw [Around.in1_units]; lia)) x y h prog wd E Q q
theorem compareNe (fin : ∀ a o,φ a = some o→s.heap.get? a = some o) {n : Nat} {v w : Value} {d e : D} {r : Bool} {prog : Program} {wd : World} {E : Value→Shared→Prop} {Q : Value→Shared→Prop}
  (x : Rep φ v d) (y : Rep φ w e) (h : eqD (n + 1) d e = some r) (hu : A.units + (n + 1) < cLine) (q : Q (.bool (!r)) s) : wpAny (model prog wd) A (compareOp .NotEq v w) Q E s :=
 eqK fin (cmpNe (Nat.lt_of_le_of_lt (Nat.le_add_right _ _) hu)) (fun x y h=>eqAt fin x y h (by rw [Around.in1_units]; lia)) x y h prog wd E Q q
end
noncomputable def big : Int:=1267650600228229401496703205376
noncomputable def lim : Nat:=1000000
noncomputable def reps {α : Type} (n : Nat) (l : List α) : List α:=(List.replicate n l).flatten
noncomputable def binZ (op : Operator) (a b : Int) : Option D:=match op with
 | .Add=>some (.int (a + b))
 | .Sub=>some (.int (a - b))
 | .Mult=>if -big < a∧a < big∧-big < b∧b < big then some (.int (a * b)) else none
 | .FloorDiv=>if 0 < b∧b < big then some (.int (a / b)) else none
 | .Mod=>if 0 < b then some (.int (a % b)) else none
 | .Pow=>if 0≤b∧b≤100∧2≤a∧a < 1000 then some (.int (a ^ b.toNat)) else none
 | .LShift=>if 0≤b∧b≤100∧-big < a∧a < big then some (.int (a * 2 ^ b.toNat)) else none
 | .RShift=>if 0≤b then some (.int (a / 2 ^ b.toNat)) else none
 | .BitAnd=>if 0≤a∧0≤b then some (.int ((a.toNat &&& b.toNat : Nat) : Int)) else none
 | .BitOr=>if 0≤a∧0≤b then some (.int ((a.toNat ||| b.toNat : Nat) : Int)) else none
 | .BitXor=>if 0≤a∧0≤b then some (.int (((a.toNat ||| b.toNat : Nat) : Int) - ((a.toNat &&& b.toNat : Nat) : Int))) else none
 | _=>none
noncomputable def wFmt : List Nat:=(ofString "Invalid base64-encoded string: number of data characters (%d) cannot be 1 more than a multiple of 4").cps.toList
noncomputable def fmtT (n : Int) : Str:=ofString "Invalid base64-encoded string: number of data characters (" ++ ofString (toString n) ++ ofString ") cannot be 1 more than a multiple of 4"
noncomputable def fmtN (n : Int) : List Nat:=(fmtT n).cps.toList
noncomputable def binS (op : Operator) (a : List Nat) (e : D) : Option D:=match op with
 | .Add=>o1 (fun b=>if a.length + b.length≤lim then some (.str (a ++ b)) else none) (strD e)
 | .Mult=>o1 (fun n=>if a.length * n.toNat≤lim∧n≤1000000∧-1000000≤n then some (.str (reps n.toNat a)) else none) (intD e)
 | .Mod=>o1 (fun n=>if a = wFmt∧0≤n∧n < 10 ^ 10 then some (.str (fmtN n)) else none) (intD e)
 | _=>none
noncomputable def binD (op : Operator) (d e : D) : Option D:=match d with
 | .int a=>o1 (binZ op a) (intD e)
 | .str a=>binS op a e
 | _=>none
noncomputable def binLs (op : Operator) (a : List D) (e : D) : Option (List D):=match op with
 | .Add=>o1 (fun b=>if a.length + b.length≤lim then some (a ++ b) else none) (lstD e)
 | .Mult=>o1 (fun n=>if a.length * n.toNat≤lim∧n≤1000000∧-1000000≤n then some (reps n.toNat a) else none) (intD e)
 | _=>none
noncomputable def binL (op : Operator) (d e : D) : Option (List D):=o1 (fun a=>binLs op a e) (lstD d)
theorem bits_big {a : Int} (h1 : -big < a) (h2 : a < big) : Builtin.Int.intBits a≤100:=intBits_le (by unfold big at h1 h2; lia)
theorem log2_big {b : Int} (h1 : 0 < b) (h2 : b < big) : b.natAbs.log2 < 9000:=by
 have : b.natAbs.log2 < 100:=(Nat.log2_lt (by lia)).mpr (by unfold big at h2; lia)
 lia
theorem bitAnd_nn {a b : Int} (ha : 0≤a) (hb : 0≤b) : Builtin.bitAnd a b = ((a.toNat &&& b.toNat : Nat) : Int):=by
 unfold Builtin.bitAnd; rw [decide_eq_true ha,decide_eq_true hb]
theorem bitOr_nn {a b : Int} (ha : 0≤a) (hb : 0≤b) : Builtin.bitOr a b = ((a.toNat ||| b.toNat : Nat) : Int):=by
 have e : ∀ x : Int,Builtin.bitNot x = -x - 1:=fun x=>rfl
 unfold Builtin.bitOr Builtin.bitAnd
 rw [decide_eq_false (by rw [e]; lia : ¬ (0 : Int)≤Builtin.bitNot a),decide_eq_false (by rw [e]; lia : ¬ (0 : Int)≤Builtin.bitNot b)]
 simp only [e]
 rw [show (-(-a - 1) - 1) = a by lia,show (-(-b - 1) - 1) = b by lia]
 lia
theorem size_foldl {α : Type} (n : Nat) (x : Array α) : ((List.replicate n x).foldl (· ++ ·) #[]).toList = reps n x.toList:=by
 have gen : ∀ (n : Nat) (acc : Array α),((List.replicate n x).foldl (· ++ ·) acc).toList = acc.toList ++ reps n x.toList:=by
  intro n
  induction n with
  | zero=>intro acc; simp [reps]
  | succ n ih=>intro acc; rw [List.replicate_succ,List.foldl_cons,ih]; simp [reps,List.replicate_succ]
 simpa using gen n #[]
theorem reps_nil {α : Type} (n : Nat) : reps n ([] : List α) = []:=by induction n <;> simp_all [reps,List.replicate_succ]
theorem reps_one {α : Type} (l : List α) : reps 1 l = l:=by simp [reps,List.replicate_succ]
theorem repL_reps {φ : Fz} {vs : List Value} {ds : List D} (h : RepL φ vs ds) : ∀ n,RepL φ (reps n vs) (reps n ds)
 | 0=>.nil
 | n + 1=>by
  have e1 : reps (n + 1) vs = vs ++ reps n vs:=by simp [reps,List.replicate_succ]
  have e2 : reps (n + 1) ds = ds ++ reps n ds:=by simp [reps,List.replicate_succ]
  rw [e1,e2]; exact h.append (repL_reps h n)
theorem txt_mul (a : List Nat) (n : Int) : Txt.mul ⟨a.toArray⟩ n = ⟨(reps n.toNat a).toArray⟩:=by
 unfold Txt.mul
 by_cases h : n < 1
 ·rw [if_pos h,show n.toNat = 0 by lia]; rfl
 ·rw [if_neg h]
  by_cases h1 : (n == 1 || (Str.length ⟨a.toArray⟩) == 0) = true
  ·rw [if_pos h1]
   rcases Bool.or_eq_true_iff.mp h1 with q | q
   ·have : n = 1:=by simpa using q
    subst this; rw [show (1 : Int).toNat = 1 from rfl,reps_one]
   ·have : a = []:=by simpa [Str.length] using q
    subst this; rw [reps_nil]
  ·rw [if_neg h1]
   congr 1
   apply Array.ext'
   rw [size_foldl]
theorem str_len (l : List Nat) : Str.length ⟨l.toArray⟩ = l.length:=by simp [Str.length]
theorem str_app (a b : List Nat) : ((⟨a.toArray⟩ : Str) ++ ⟨b.toArray⟩) = ⟨(a ++ b).toArray⟩:=by
 apply Str.ext'; rw [Str.cps_append]; simp
section
variable {φ : Fz} {A : Around} {s : Shared} {prog : Program} {wd : World} {E : Value→Shared→Prop}
theorem binZ_ok {op : Operator} {a b : Int} {t u : Tok} {r : D} (fin : ∀ a o,φ a = some o→s.heap.get? a = some o) (h : binZ op a b = some r) : wpAny (model prog wd) A (binaryOp op (.int a t) (.int b u)) (EP φ s r) E s:=by
 induction op using PySem.Operator.casesOn <;> first | exact no_none h | skip
 case Add=>refine some_e h ?_; exact PyProof.Rows.add_int (EP.tk fin (.int _ _))
 case Sub=>refine some_e h ?_; exact PyProof.Rows.sub_int (EP.tk fin (.int _ _))
 case Mult =>
  refine oif_e h fun hl h=>?_
  refine some_e h ?_
  refine PyProof.Rows.mul_int (EP.tk fin (.int _ _)) ?_
  have h1:=bits_big hl.1 hl.2.1
  have h2:=bits_big hl.2.2.1 hl.2.2.2
  unfold IntMulOk Builtin.Int.intTooBig
  rw [show bitsLine = 134217728 from rfl]
  simp only [Bool.and_eq_true,decide_eq_true_eq,not_and]
  intro _
  lia
 case FloorDiv =>
  refine oif_e h fun hl h=>?_
  refine some_e h ?_
  refine AutoIntOps.floordiv_1 (by simp; lia) (by rw [PyProof.noPylong_of_log2 (log2_big hl.1 hl.2)]; exact Bool.false_ne_true) ?_
  rw [Int.fdiv_eq_ediv_of_nonneg _ (Int.le_of_lt hl.1)]
  exact EP.tk fin (.int _ _)
 case Mod =>
  refine oif_e h fun hl h=>?_
  refine some_e h ?_
  refine PyProof.Rows.mod_int (Int.ne_of_gt hl) ?_
  rw [Int.fmod_eq_emod_of_nonneg _ (Int.le_of_lt hl)]
  exact EP.tk fin (.int _ _)
 case Pow =>
  obtain ⟨⟨h1,h2,h3,h4⟩,h⟩:=oif_inv h
  refine some_e h ?_
  by_cases hb : b = 0
  ·subst hb; exact AutoIntOps.pow_0 (by lia) (by simp) (EP.tk fin (by simpa using Rep.int (φ:=φ) 1 s.toks))
  ·refine AutoIntOps.pow_4 (by lia) (by simpa using hb) (by simp; lia) (by simp; lia) ?_ (EP.tk fin (.int _ _))
   have hbit : Builtin.Int.intBits a≤10:=intBits_le (by lia)
   unfold Builtin.Int.intTooBig
   rw [show bitsLine = 134217728 from rfl]
   have : ((Builtin.Int.intBits a : Nat) : Int) * b≤10 * 100:=Int.mul_le_mul (by lia) h2 h1 (by lia)
   simp; lia
 case LShift =>
  refine oif_e h fun hl h=>?_
  refine some_e h ?_
  refine PyProof.Rows.lshift_int hl.1 ?_ (EP.tk fin (.int _ _))
  have:=bits_big hl.2.2.1 hl.2.2.2
  lia
 case RShift =>
  refine oif_e h fun hl h=>?_
  refine some_e h ?_
  refine PyProof.Rows.rshift_int hl ?_
  rw [Int.fdiv_eq_ediv_of_nonneg _ (Int.le_of_lt (Int.pow_pos (by decide)))]
  exact EP.tk fin (.int _ _)
 case BitAnd =>
  refine oif_e h fun hl h=>?_
  refine some_e h ?_
  exact PyProof.Rows.and_int (bitAnd_nn hl.1 hl.2 ▸ EP.tk fin (.int _ _))
 case BitOr =>
  refine oif_e h fun hl h=>?_
  refine some_e h ?_
  exact PyProof.Rows.or_int (bitOr_nn hl.1 hl.2 ▸ EP.tk fin (.int _ _))
 case BitXor =>
  refine oif_e h fun hl h=>?_
  refine some_e h ?_
  refine PyProof.Rows.xor_int ?_
  unfold Builtin.bitXor
  rw [bitOr_nn hl.1 hl.2,bitAnd_nn hl.1 hl.2]
  exact EP.tk fin (.int _ _)
theorem fmt_ok {n : Int} {t u : Tok} {Q : Value→Shared→Prop} (h0 : 0≤n) (h1 : n < 10 ^ 10) (h : ∀ t' k,Q (.str (fmtT n) t') { s with toks:=k }) : wpAny (model prog wd) A (binaryOp .Mod (.str ⟨wFmt.toArray⟩ t) (.int n u)) Q E s:=by
 have e : (⟨wFmt.toArray⟩ : Str) = ofString "Invalid base64-encoded string: number of data characters (%d) cannot be 1 more than a multiple of 4":=rfl
 rw [e]
 refine' KPc.mod_int (T:=fmtT) ?a h0 h1 ?b ?c
 case a=>kpc_eq
 case b=>kpc_run
 case c=>exact h
theorem binS_ok {op : Operator} {a : List Nat} {t : Tok} {w : Value} {e r : D} (fin : ∀ a o,φ a = some o→s.heap.get? a = some o) (y : Rep φ w e) (h : binS op a e = some r) : wpAny (model prog wd) A (binaryOp op (.str ⟨a.toArray⟩ t) w) (EP φ s r) E s:=by
 induction op using PySem.Operator.casesOn <;> first | exact no_none h | skip
 case Add =>
  refine o1_e h fun b hb g=>?_
  refine oif_e g fun hl g=>?_
  have qq:=strD_inv hb; subst qq
  refine y.sStr fun u=>?_
  refine some_e g ?_
  refine SB.add (fun t' k=>?_) ?_
  ·rw [str_app]; exact EP.tk fin (.str _ _)
  ·rw [str_len,str_len,sizeLine_eq]; unfold lim at hl; lia
 case Mult =>
  refine o1_e h fun n hb g=>?_
  obtain ⟨⟨h1,h2,h3⟩,g⟩:=oif_inv g
  have qq:=intD_inv hb; subst qq
  refine y.sInt fun u=>?_
  refine some_e g ?_
  unfold lim at h1
  refine SB.mul ⟨?_,fun q1 q2=>?_,fun q1 q2=>?_⟩ (fun t' k=>?_)
  ·rw [decide_eq_false (by lia),decide_eq_false (by lia)]; rfl
  ·rw [str_len]
   have hn : 0 < n:=by lia
   have hm : (a.length : Int) * n≤1000000:=by
    have : ((a.length * n.toNat : Nat) : Int) = (a.length : Int) * n:=by rw [Int.natCast_mul,Int.toNat_of_nonneg (by lia)]
    lia
   have:=Int.le_ediv_of_mul_le hn (show (a.length : Int) * n≤2 ^ 63 - 1 by lia)
   lia
  ·rw [str_len]; unfold Builtin.Str.tooLong; rw [sizeLine_eq]; exact decide_eq_false (by lia)
  ·rw [txt_mul]; exact EP.tk fin (.str _ _)
 case Mod =>
  refine o1_e h fun n hb g=>?_
  obtain ⟨⟨h1,h2,h3⟩,g⟩:=oif_inv g
  have qq:=intD_inv hb; subst qq
  refine y.sInt fun u=>?_
  refine some_e g ?_
  subst h1
  refine fmt_ok h2 h3 fun t' k=>?_
  have r:=Rep.str (φ:=φ) (fmtN n) t'
  unfold fmtN at r
  rw [Array.toArray_toList] at r
  exact EP.tk fin r
set_option tactic.hygienic true in
theorem bin_ok {op : Operator} {v w : Value} {d e r : D} (fin : ∀ a o,φ a = some o→s.heap.get? a = some o) (x : Rep φ v d) (y : Rep φ w e) (h : binD op d e = some r) :
  wpAny (model prog wd) A (binaryOp op v w) (EP φ s r) E s:=by
 induction d using Mine.D.casesOn <;> first | exact no_none h | skip
 case int a =>
  refine o1_e h fun b hb g=>?_
  have qq:=intD_inv hb; subst qq
  refine x.sInt fun t=>?_
  refine y.sInt fun u=>?_
  exact binZ_ok fin g
 case str a =>
  refine x.sStr fun t=>?_
  exact binS_ok fin y h
set_option tactic.hygienic true in
theorem binL_ok {op : Operator} {v w : Value} {d e : D} {r : List D} (fin : ∀ a o,φ a = some o→s.heap.get? a = some o) (x : Rep φ v d) (y : Rep φ w e) (h : binL op d e = some r) :
  wpAny (model prog wd) A (binaryOp op v w) (EPL φ s r) E s:=by
 refine o1_e h fun l hd g=>?_
 have qq:=lstD_inv hd; subst qq
 refine x.sList fun a vs n e1 r1=>?_
 have hl:=fin _ _ e1
 have sz:=r1.length
 induction op using PySem.Operator.casesOn <;> first | exact no_none g | skip
 case Add =>
  refine o1_e g fun l2 hb g2=>?_
  refine oif_e g2 fun hz g3=>?_
  have qq:=lstD_inv hb; subst qq
  refine y.sList fun b ws m e2 r2=>?_
  refine some_e g3 ?_
  refine P.add_list (n:=n) (n2:=m) (items:=vs.toArray) (items2:=ws.toArray) hl (fin _ _ e2) ?_ ?_
  ·refine ⟨φ,s.heap.objs.size,0,vs ++ ws,.push fin _ s.toks,rfl,?_,r1.append r2,fz_size fin,get_size_none _⟩
   rw [Heap.get?_push_size _ rfl,List.append_toArray]; rfl
  ·rw [List.size_toArray,List.size_toArray,sz,r2.length,sizeLine_eq]; unfold lim at hz; lia
 case Mult =>
  refine o1_e g fun n hb g2=>?_
  obtain ⟨⟨h1,h2,h3⟩,g3⟩:=oif_inv g2
  have qq:=intD_inv hb; subst qq
  refine y.sInt fun u=>?_
  rename_i m
  refine some_e g3 ?_
  unfold lim at h1
  refine wpAny_binaryOp_repeat_ref (T:="list") (U:="int") (by decide) ⟨_,hl,rfl⟩ (fun s'=>typeIs_int s' _ _) noFill_list_mul F.fills_int_mul F.slot_int_rmul repeat_list F.slot_int_index.lookup
   (call_meets F.slot_int_rmul (typeIs_int s _ _) F.entry_int_rmul (F.args_int_rmul_2 _ _) (int___rmul___int_list _ _ a vs.toArray m)
   ⟨hl,rfl,⟨_,hl,rfl⟩,call_meets F.slot_list_mul ⟨_,hl,rfl⟩ F.entry_list_mul (F.args_list_mul_2 _ _)
   (AutoListH.list___mul___list_int_3 a vs.toArray m _ _ (by simp [Builtin.List.listFitsIndex]; lia) (by simp [sz]; lia) (by simp [Builtin.List.listTooLong,sizeLine,sz]; lia))
   ⟨hl,?_⟩⟩)
  refine ⟨φ,s.heap.objs.size,0,reps n.toNat vs,.push fin _ s.toks,rfl,?_,repL_reps r1 _,fz_size fin,get_size_none _⟩
  rw [Heap.get?_push_size _ rfl]
  refine congrArg (fun z=>some ({ cls:=.type "list",data:=.seq z 0 } : Obj)) ?_
  apply Array.ext'
  rw [size_foldl]
  by_cases he : vs = []
  ·subst he; simp [reps_nil]
  ·simp [he]
end
noncomputable def typN : Value→Option String
 | .type a=>some a
 | _=>none
theorem typN_inv {v : Value} {a : String} (h : typN v = some a) : v = .type a:=by
 induction v using PySem.Value.casesOn <;> first | exact no_none h | rw [some_inv h]
noncomputable def notNone : D→Option Bool
 | .val _=>none
 | .none=>some true
 | _=>some false
noncomputable def isD (d e : D) : Option Bool:=match e with
 | .none=>notNone d
 | .val b=>o1 (fun v=>o2 (fun a b=>some (a == b)) (typN v) (typN b)) (valD d)
 | _=>none
noncomputable def listOf {α : Type} (f : D→Option α) : List D→Option (List α)
 | []=>some []
 | d :: r=>o2 (fun a l=>some (a :: l)) (f d) (listOf f r)
noncomputable abbrev ints? : List D→Option (List Int):=listOf intD
noncomputable def oneC : List Nat→Option Nat
 | [c]=>some c
 | _=>none
theorem oneC_inv {l : List Nat} {c : Nat} (h : oneC l = some c) : l = [c]:=by
 match l,h with
 | [],h=>exact no_none h
 | [x],h=>rw [some_inv h]
 | _ :: _ :: _,h=>exact no_none h
noncomputable def inD (d e : D) : Option Bool:=match d with
 | .int i=>o1 (fun l=>o1 (fun is=>some (decide (i∈is))) (ints? l)) (lstD e)
 | .str x=>o2 (fun c l=>some (decide (c∈l))) (oneC x) (strD e)
 | _=>none
noncomputable def intC (f : Int→Int→Bool) (d e : D) : Option Bool:=o2 (fun a b=>some (f a b)) (intD d) (intD e)
noncomputable def notO : Option Bool→Option Bool:=o1 fun b=>some (!b)
noncomputable def cmpD (op : CmpOp) (d e : D) : Option Bool:=match op with
 | .Eq=>eqD 8 d e
 | .NotEq=>notO (eqD 8 d e)
 | .Lt=>intC (fun a b=>decide (a < b)) d e
 | .LtE=>intC (fun a b=>decide (a≤b)) d e
 | .Gt=>intC (fun a b=>decide (b < a)) d e
 | .GtE=>intC (fun a b=>decide (b≤a)) d e
 | .Is=>isD d e
 | .IsNot=>notO (isD d e)
 | .In=>inD d e
 | .NotIn=>none
noncomputable def truthD : D→Option Bool
 | .bool b=>some b
 | .int i=>some (decide (i≠0))
 | _=>none
noncomputable def unD (op : UnaryOp) (d : D) : Option D:=match op with
 | .USub=>o1 (fun a=>some (.int (-a))) (intD d)
 | .Not=>o1 (fun b=>some (.bool (!b))) (truthD d)
 | _=>none
theorem listOf_inv {α : Type} {f : D→Option α} {d : D} {r : List D} {l : List α} (h : listOf f (d :: r) = some l) : ∃ a m,f d = some a∧listOf f r = some m∧l = a :: m:=by
 refine o2_e h fun a m h1 h2 h=>?_
 exact ⟨a,m,h1,h2,some_inv h⟩
theorem list_of {α : Type} {f : D→Option α} {mk : α→Tok→Value} {φ : Fz} (hf : ∀ {v d a},Rep φ v d→f d = some a→∃ t,v = mk a t) {vs : List Value} {ds : List D} {is : List α} (r : RepL φ vs ds) (h : listOf f ds = some is) : (∀ v∈vs,∃ i t,v = mk i t∧i∈is)∧(∀ i∈is,∃ t,mk i t∈vs):=by
 induction ds generalizing vs is with
 | nil=>rw [r.iNil,some_inv h]; exact ⟨(fun _a h=>no_mem h),(fun _a h=>no_mem h)⟩
 | cons d ds ih =>
  refine r.sCons fun v ws r1 rs=>?_
  refine e2a3 (listOf_inv h) fun a m h1 h2 rr4=>?_
  subst rr4
  refine e1a1 (hf r1 h1) fun t rr1=>?_
  subst rr1
  refine e0a2 (ih rs h2) fun g1 g2=>?_
  refine ⟨fun v hv=>(List.mem_cons.mp hv).elim (fun e=>⟨a,t,e,List.mem_cons_self⟩) fun hv=>?_,fun j hj=>(List.mem_cons.mp hj).elim (fun e=>⟨t,e ▸ List.mem_cons_self⟩) fun hj=>?_⟩
  ·obtain ⟨k,u,e,hm⟩:=g1 v hv; exact ⟨k,u,e,List.mem_cons_of_mem _ hm⟩
  ·obtain ⟨u,hm⟩:=g2 j hj; exact ⟨u,List.mem_cons_of_mem _ hm⟩
theorem ints_of {φ : Fz} {vs : List Value} {ds : List D} {is : List Int} (r : RepL φ vs ds) (h : ints? ds = some is) : (∀ v∈vs,∃ i t,v = .int i t∧i∈is)∧(∀ i∈is,∃ t,Value.int i t∈vs) :=
 list_of (mk:=.int) (fun r e=>(intD_inv e ▸ r : Rep φ _ (.int _)).iInt) r h
noncomputable def eInt (i : Int) : Value→Bool
 | .int j _=>j == i
 | _=>false
section
variable {φ : Fz} {A : Around} {s : Shared} {prog : Program} {wd : World} {E : Value→Shared→Prop}
set_option tactic.hygienic true in
theorem is_cases {v w : Value} {d e : D} {r : Bool} (x : Rep φ v d) (y : Rep φ w e) (h : isD d e = some r) : (∃ a b,v = .type a∧w = .type b∧r = (Value.type a == Value.type b))∨(v = .none∧w = .none∧r = true)∨(v≠.none∧w = .none∧r = false):=by
 induction e using Mine.D.casesOn <;> first | exact no_none h | skip
 case none =>
  induction d using Mine.D.casesOn <;> first | exact no_none h | skip
  case none=>exact .inr (.inl ⟨x.iNone,y.iNone,some_inv h⟩)
  all_goals refine .inr (.inr ⟨fun z=>?_,y.iNone,some_inv h⟩)
  case bool=>have q:=x.iBool; rw [z] at q; cases q
  case int=>obtain ⟨_,q⟩:=x.iInt; rw [z] at q; cases q
  case str=>obtain ⟨_,q⟩:=x.iStr; rw [z] at q; cases q
  case bytes=>obtain ⟨_,q⟩:=x.iBytes; rw [z] at q; cases q
  case list=>obtain ⟨_,_,_,q,_⟩:=x.iList; rw [z] at q; cases q
  case tup=>obtain ⟨_,_,_,q,_⟩:=x.iTup; rw [z] at q; cases q
  case inst=>obtain ⟨_,_,_,_,q,_⟩:=x.iInst; rw [z] at q; cases q
  case rng=>obtain ⟨_,_,_,_,q,_⟩:=x.iRng; rw [z] at q; cases q
 case val b =>
  refine o1_e h fun u h1 g=>?_
  refine o2_e g fun a b' h2 h3 g2=>?_
  have qq:=valD_inv h1; subst qq
  exact .inl ⟨a,b',x.iVal.trans (typN_inv h2),y.iVal.trans (typN_inv h3),by refine some_e g2 ?_; rw [Bool.eq_iff_iff]; simp⟩
theorem is_ok {v w : Value} {d e : D} {r : Bool} {Q : Value→Shared→Prop} (x : Rep φ v d) (y : Rep φ w e) (h : isD d e = some r) (q : Q (.bool r) s) : wpAny (model prog wd) A (compareOp .Is v w) Q E s:=by
 rcases is_cases x y h with ⟨a,b,rfl,rfl,rfl⟩ | ⟨rfl,rfl,rfl⟩ | ⟨hn,rfl,rfl⟩
 ·exact wpAny_is_plain rfl q
 ·exact is_none_none q
 ·exact is_none_ne hn q
theorem isnot_ok {v w : Value} {d e : D} {r : Bool} {Q : Value→Shared→Prop} (x : Rep φ v d) (y : Rep φ w e) (h : isD d e = some r) (q : Q (.bool (!r)) s) : wpAny (model prog wd) A (compareOp .IsNot v w) Q E s:=by
 rcases is_cases x y h with ⟨a,b,rfl,rfl,rfl⟩ | ⟨rfl,rfl,rfl⟩ | ⟨hn,rfl,rfl⟩
 ·exact wpAny_isNot_plain rfl q
 ·exact isnot_none_none q
 ·exact isnot_none_ne hn q
theorem in_list {α : Type} {e : Value→Bool} {mk : α→Tok→Value} {b : α} {a : Addr} {vs : List Value} {n : Nat} {is : List α} {v : Value} {r : Bool} {Q : Value→Shared→Prop} (e1 : s.heap.get? a = some (lsO vs n)) (h : (∀ v∈vs,∃ i t,v = mk i t∧i∈is)∧(∀ i∈is,∃ t,mk i t∈vs))
  (he : ∀ c t,e (mk c t) = true ↔ c = b) (hq : ∀ c t,EqAt A.in1 s (mk c t) v (e (mk c t))) (hr : r = true ↔ b∈is) (q : Q (.bool r) s) : wpAny (model prog wd) A (compareOp .In v (.ref a)) Q E s:=by
 refine in_listAt e (lsO_isList e1) (fun y hy=>?_) ?_
 ·refine e2a2 (h.1 y (List.mem_toArray.mp hy)) fun j u rr2 _a=>?_
  subst rr2
  exact hq j u
 ·have : vs.toArray.any e = r:=by
   rw [Bool.eq_iff_iff,List.any_toArray,List.any_eq_true,hr]
   constructor
   ·rintro ⟨v,hv,ev⟩
    refine e2a2 (h.1 v hv) fun j u rr2 hj=>?_
    subst rr2
    exact (he j u).mp ev ▸ hj
   ·intro hi
    refine e1a1 (h.2 b hi) fun u hu=>?_
    exact ⟨_,hu,(he b u).mpr rfl⟩
  rw [this]; exact q
set_option tactic.hygienic true in
theorem in_ok (fin : ∀ a o,φ a = some o→s.heap.get? a = some o) {v w : Value} {d e : D} {r : Bool} {Q : Value→Shared→Prop} (x : Rep φ v d) (y : Rep φ w e) (h : inD d e = some r) (q : Q (.bool r) s) : wpAny (model prog wd) A (compareOp .In v w) Q E s:=by
 induction d using Mine.D.casesOn <;> first | exact no_none h | skip
 case int i =>
  refine o1_e h fun l hl g=>?_
  refine o1_e g fun is hi g=>?_
  have qq:=lstD_inv hl; subst qq
  refine x.sInt fun t=>?_
  refine y.sList fun a vs n e1 r1=>?_
  exact in_list (e:=eInt i) (mk:=.int) (fin _ _ e1) (ints_of r1 hi) (fun c t=>beq_iff_eq) (fun c u=>EqAt.int_int _ _ _ _) (some_inv g ▸ decide_eq_true_iff) q
 case str z =>
  refine o2_e h fun c l hc hl g=>?_
  have qq:=oneC_inv hc; subst qq
  have qq:=strD_inv hl; subst qq
  refine x.sStr fun t=>?_
  refine y.sStr fun u=>?_
  refine SB.contains ?_
  have : Txt.contains ⟨l.toArray⟩ ⟨[c].toArray⟩ = decide (c∈l):=by
   unfold Txt.contains
   rw [show (⟨[c].toArray⟩ : Str) = ⟨#[c]⟩ from rfl,StrLaws.found_one]
  rw [this]; exact some_inv g ▸ q
theorem intC_inv {f : Int→Int→Bool} {v w : Value} {d e : D} {r : Bool} (x : Rep φ v d) (y : Rep φ w e) (h : intC f d e = some r) : ∃ a b t u,v = .int a t∧w = .int b u∧r = f a b:=by
 refine o2_e h fun a b h1 h2 g=>?_
 have qq:=intD_inv h1; subst qq
 have qq:=intD_inv h2; subst qq
 refine x.sInt fun t=>?_
 refine y.sInt fun u=>?_
 exact ⟨a,b,t,u,rfl,rfl,some_inv g⟩
theorem cmp_ok {op : CmpOp} {v w : Value} {d e : D} {r : Bool} {Q : Value→Shared→Prop} (fin : ∀ a o,φ a = some o→s.heap.get? a = some o) (hu : A.units + 8 < cLine) (x : Rep φ v d) (y : Rep φ w e) (h : cmpD op d e = some r)
  (q : Q (.bool r) s) : wpAny (model prog wd) A (compareOp op v w) Q E s:=by
 induction op using PySem.CmpOp.casesOn
 case Eq=>exact compareEq fin x y h hu q
 case NotEq=>refine o1_e h fun b hb g=>?_; exact compareNe fin x y hb hu (some_inv g ▸ q)
 case Lt=>obtain ⟨a,b,t,u,rfl,rfl,rfl⟩:=intC_inv x y h; exact PyProof.Rows.lt_int q
 case LtE=>obtain ⟨a,b,t,u,rfl,rfl,rfl⟩:=intC_inv x y h; exact PyProof.Rows.le_int q
 case Gt=>obtain ⟨a,b,t,u,rfl,rfl,rfl⟩:=intC_inv x y h; exact PyProof.Rows.gt_int q
 case GtE=>obtain ⟨a,b,t,u,rfl,rfl,rfl⟩:=intC_inv x y h; exact PyProof.Rows.ge_int q
 case Is=>exact is_ok x y h q
 case IsNot=>refine o1_e h fun b hb g=>?_; exact isnot_ok x y hb (some_inv g ▸ q)
 case In=>exact in_ok fin x y h q
 case NotIn=>exact no_none h
theorem int_bne (a b : Int) : (a != b) = decide (a≠b):=by rw [Bool.eq_iff_iff]; simp
set_option tactic.hygienic true in
theorem truth_ok {v : Value} {d : D} {r : Bool} {Q : Bool→Shared→Prop} (x : Rep φ v d) (h : truthD d = some r) (q : Q r s) : wpAny (model prog wd) A (truthy v) Q E s:=by
 induction d using Mine.D.casesOn <;> first | exact no_none h | skip
 case bool b=>rw [x.iBool,← some_inv h]; exact wpAny_truthy_bool q
 case int i=>obtain ⟨t,rfl⟩:=x.iInt; exact PyProof.Rows.truthy_int (by rw [int_bne]; exact some_inv h ▸ q)
theorem un_ok {op : UnaryOp} {v : Value} {d r : D} (fin : ∀ a o,φ a = some o→s.heap.get? a = some o) (x : Rep φ v d) (h : unD op d = some r) : wpAny (model prog wd) A (unaryOp op v) (EP φ s r) E s:=by
 induction op using PySem.UnaryOp.casesOn <;> first | exact no_none h | skip
 case USub =>
  refine o1_e h fun a ha g=>?_
  have qq:=intD_inv ha; subst qq
  refine x.sInt fun t=>?_
  refine some_e g ?_
  exact PyProof.Rows.neg_int (EP.tk fin (.int _ _))
 case Not =>
  refine o1_e h fun b hb g=>?_
  refine some_e g ?_
  exact not_of (truth_ok x hb (EP.pure fin (.bool _)))
noncomputable def ix (k : Int) (n : Nat) : Nat:=if k < 0 then (k + n).toNat else k.toNat
noncomputable def inB (k : Int) (n : Nat) : Bool:=decide (-(n : Int)≤k∧k < n∧n≤lim)
noncomputable def idxD (d : D) (k : Int) : Option D:=match d with
 | .list l=>if inB k l.length = true then l[ix k l.length]? else none
 | .tup l=>if inB k l.length = true then l[ix k l.length]? else none
 | .str l=>if inB k l.length = true then l[ix k l.length]?.map fun c=>.str [c] else none
 | .bytes l=>if inB k l.length = true∧0≤k then l[k.toNat]?.map fun b=>.int (b.toNat : Int) else none
 | _=>none
theorem seqIndex_ix {k : Int} {n : Nat} (h : inB k n = true) : seqIndex? k n = some (ix k n)∧ix k n < n∧n≤lim∧-(n : Int)≤k∧k < n:=by
 have h:=of_decide_eq_true h
 unfold seqIndex? ix
 dsimp only
 by_cases hk : k < 0
 ·simp only [hk,if_true]
  rw [decide_eq_true (by lia : (0 : Int)≤k + n),decide_eq_true (by lia : k + (n : Int) < n)]
  exact ⟨rfl,by lia,h.2.2,h.1,h.2.1⟩
 ·simp only [hk,if_false]
  rw [decide_eq_true (by lia : (0 : Int)≤k),decide_eq_true (by lia : k < n)]
  exact ⟨rfl,by lia,h.2.2,h.1,h.2.1⟩
noncomputable def notSlice : Expr→Bool:=noE 26
theorem subscripted_plain {slice : Expr} {o i : Value} (h : notSlice slice = true) : subscripted slice false o i = operate [o,i] (getItem o i):=by
 induction slice using PySem.Expr.casesOn <;> first | rfl | exact no_ft h
set_option tactic.hygienic true in
theorem getItem_ok {v : Value} {k : Int} {u : Tok} {d r : D} (fin : ∀ a o,φ a = some o→s.heap.get? a = some o) (x : Rep φ v d) (h : idxD d k = some r) :
  wpAny (model prog wd) A (getItem v (.int k u)) (EP φ s r) E s:=by
 induction d using Mine.D.casesOn <;> first | exact no_none h | skip
 case list l =>
  refine oif_e h fun hb g=>?_
  refine e0a5 (seqIndex_ix hb) fun h1 h2 h3 h4 h5=>?_
  unfold lim at h3
  refine x.sList fun a vs n e1 r1=>?_
  refine e1a2 (r1.get g) fun v hv rv=>?_
  have hl:=lsO_isList (fin _ _ e1)
  have sz : vs.toArray.size = l.length:=r1.length
  by_cases hk : k < 0
  ·refine wpAny_getItem_list_neg hl hk (by rw [sz]; lia) (by lia) ?_ (EP.pure fin rv)
   rw [ix,if_pos hk] at hv
   rw [sz,List.getElem?_toArray]; exact hv
  ·refine wpAny_getItem_list hl (by lia) (by lia) ?_ (EP.pure fin rv)
   rw [ix,if_neg hk] at hv
   rw [List.getElem?_toArray]; exact hv
 case tup l =>
  refine oif_e h fun hb g=>?_
  refine e0a5 (seqIndex_ix hb) fun h1 h2 h3 h4 h5=>?_
  unfold lim at h3
  refine x.sTup fun a vs n e1 r1=>?_
  refine e1a2 (r1.get g) fun v hv rv=>?_
  refine PyProof.Rows.getItem_tuple (items:=vs.toArray) ⟨_,fin _ _ e1,rfl,n,rfl⟩ (by lia) (by lia) (by rw [List.size_toArray,r1.length]; exact h1) ?_ (EP.pure fin rv)
  rw [List.getElem?_toArray]; exact hv
 case str l =>
  refine oif_e h fun hb g=>?_
  refine e0a5 (seqIndex_ix hb) fun h1 h2 h3 h4 h5=>?_
  unfold lim at h3
  refine e1a2 (Option.map_eq_some_iff.mp g) fun c hc rr2=>?_
  subst rr2
  refine x.sStr fun t=>?_
  refine P.getItem_str (c:=c) (by rw [decide_eq_false (by lia),decide_eq_false (by lia)]; rfl) ?_ (EP.tk fin (.str [c] _))
  rw [str_len,h1]; simpa using hc
 case bytes l =>
  refine oif_e h fun hb g=>?_
  refine e0a5 (seqIndex_ix hb.1) fun h1 h2 h3 h4 h5=>?_
  unfold lim at h3
  refine e1a2 (Option.map_eq_some_iff.mp g) fun c hc rr2=>?_
  subst rr2
  refine x.sBytes fun t=>?_
  refine getItem_bytes (by lia) hb.2 (by lia) ?_
  have : l.getD k.toNat 0 = c:=by rw [List.getD_eq_getElem?_getD,hc]; rfl
  rw [this]
  exact EP.tk fin (.int _ _)
set_option tactic.hygienic true in
theorem item_ok {value slice : Expr} {v : Value} {k : Int} {u : Tok} {d r : D} (fin : ∀ a o,φ a = some o→s.heap.get? a = some o) (x : Rep φ v d) (h : idxD d k = some r) (hs : notSlice slice = true) :
  wpAny (model prog wd) A (subscriptTail value slice v (.int k u)) (EP φ s r) E s:=by
 have g:=getItem_ok (prog:=prog) (wd:=wd) (A:=A) (E:=E) (u:=u) fin x h
 induction d using Mine.D.casesOn <;> first | exact no_none h | skip
 case list l=>obtain ⟨a,vs,n,rfl,e1,r1⟩:=x.iList; exact tail_any (lsO_isList (fin _ _ e1)).typeIs slot_list_getitem.lookup g (subscripted_plain hs)
 case tup l=>obtain ⟨a,vs,n,rfl,e1,r1⟩:=x.iTup; exact tail_any (tpO_isTuple (fin _ _ e1)).typeIs slot_tuple_getitem.lookup g (subscripted_plain hs)
 case str l=>obtain ⟨t,rfl⟩:=x.iStr; exact tail_any (typeIs_str s _ _) F.slot_str_getitem.lookup g (subscripted_plain hs)
 case bytes l=>obtain ⟨t,rfl⟩:=x.iBytes; exact tail_any (typeIs_bytes s _ _) FB.slot_bytes_getitem.lookup g (subscripted_plain hs)
noncomputable def cut {α : Type} (lo hi : Option Int) (l : List α) : List α:=(l.drop (lo.elim 0 (clipAt l.length))).take (hi.elim l.length (clipAt l.length) - lo.elim 0 (clipAt l.length))
theorem cut_length_le {α : Type} (lo hi : Option Int) (l : List α) : (cut lo hi l).length≤l.length:=by
 unfold cut; rw [List.length_take,List.length_drop]; lia
theorem RepL.cut {vs : List Value} {ds : List D} (h : RepL φ vs ds) (lo hi : Option Int) : RepL φ (Mine.cut lo hi vs) (Mine.cut lo hi ds):=by
 unfold Mine.cut; rw [h.length]; exact (h.drop _).take _
noncomputable def cutL1 (lo hi : Option Int) (l : List D) : Option Int→Option (List D)
 | none=>if l.length≤lim then some (cut lo hi l) else none
 | some k=>if l.length≤lim∧lo = none∧hi = none∧k = -1 then some l.reverse else none
noncomputable def cutL (d : D) (lo hi st : Option Int) : Option (List D):=o1 (fun l=>cutL1 lo hi l st) (lstD d)
noncomputable def cutS (d : D) (lo hi st : Option Int) : Option D:=o1 (fun l=>if st = none∧l.length≤lim then some (.str (cut lo hi l)) else none) (strD d)
theorem slicePick_cut (vs : List Value) (lo hi : Option Int) : slicePick vs.toArray lo hi none = (cut lo hi vs).toArray:=by
 rw [slicePick_plain]; simp [cut]
theorem getSlice_ok {v vl vu vt : Value} {sl : Addr} {lo hi st : Option Int} {d : D} {r : List D} (fin : ∀ a o,φ a = some o→s.heap.get? a = some o) (x : Rep φ v d) (hsl : s.heap.IsSliceOf sl vl vu vt)
  (pl : IsPart vl lo) (pu : IsPart vu hi) (ps : IsPart vt st) (h : cutL d lo hi st = some r) : wpAny (model prog wd) A (getItem v (.ref sl)) (EPL φ s r) E s:=by
 refine o1_e h fun l hd g=>?_
 have qq:=lstD_inv hd; subst qq
 refine x.sList fun a vs n e1 r1=>?_
 have sz : vs.toArray.size = l.length:=r1.length
 have hz : l.length≤1000000→vs.toArray.size≤sizeLine:=fun h=>by rw [sz,sizeLine_eq]; lia
 induction st using Option.casesOn with
 | none =>
  refine oif_e g fun hl g=>?_
  refine some_e g ?_
  refine wpAny_getItem_list_slice (lsO_isList (fin _ _ e1)) hsl pl pu ps (by simp) ?_ (hz hl)
  refine ⟨φ,s.heap.objs.size,0,cut lo hi vs,.push fin _ s.toks,rfl,?_,r1.cut lo hi,fz_size fin,get_size_none _⟩
  rw [Heap.get?_push_size _ rfl,slicePick_cut]; rfl
 | some k =>
  obtain ⟨⟨h1,e2,e3,e4⟩,g3⟩:=oif_inv g
  refine some_e g3 ?_
  subst e2 e3 e4
  refine wpAny_getItem_list_slice (lsO_isList (fin _ _ e1)) hsl pl pu ps (by simp) ?_ (hz h1)
  refine ⟨φ,s.heap.objs.size,0,vs.reverse,.push fin _ s.toks,rfl,?_,r1.reverse,fz_size fin,get_size_none _⟩
  rw [Heap.get?_push_size _ rfl,krv_pick]; rfl
theorem part_of {v : Value} {lo : Option Int} (h : IsPart v lo) : ∃ p,v = partValue p∧p.map (·.1) = lo:=by
 cases h with
 | none=>exact ⟨none,rfl,rfl⟩
 | int i t=>exact ⟨some (i,t),rfl,rfl⟩
theorem strIndices_plain (lo hi : Option Int) (n : Nat) : Builtin.Str.strSliceIndices lo hi 1 n = (List.range (hi.elim n (clipAt n) - lo.elim 0 (clipAt n))).map (lo.elim 0 (clipAt n) + ·):=by
 rw [← sliceRange_one]
 unfold Builtin.Str.strSliceIndices
 induction lo using Option.casesOn <;> induction hi using Option.casesOn <;> simp [clipAt_cast]
theorem clipAt_le (n : Nat) (i : Int) : clipAt n i≤n:=by have:=clipAt_cast n i; lia
set_option tactic.hygienic true in
theorem getSliceS_ok {v vl vu vt : Value} {sl : Addr} {lo hi st : Option Int} {d r : D} (fin : ∀ a o,φ a = some o→s.heap.get? a = some o) (x : Rep φ v d) (hsl : s.heap.IsSliceOf sl vl vu vt)
  (pl : IsPart vl lo) (pu : IsPart vu hi) (ps : IsPart vt st) (h : cutS d lo hi st = some r) : wpAny (model prog wd) A (getItem v (.ref sl)) (EP φ s r) E s:=by
 refine o1_e h fun l hd g=>?_
 have qq:=strD_inv hd; subst qq
 obtain ⟨⟨hst,hl⟩,g⟩:=oif_inv g
 refine some_e g ?_
 subst hst
 unfold lim at hl
 refine x.sStr fun t=>?_
 cases ps
 refine e1a2 (part_of pl) fun p rr1 rr2=>?_
 subst rr1 rr2
 refine e1a2 (part_of pu) fun q rr1 rr2=>?_
 subst rr1 rr2
 refine wpAny_getItem_str_slice (l:=p) (u:=q) (st:=none) hsl (by rfl) ?_
 have e : (slicePicked ⟨l.toArray⟩ p q none).filterMap ((⟨l.toArray⟩ : Str).cps[·]?) = cut (p.map (·.1)) (q.map (·.1)) l:=by
  unfold slicePicked cut
  rw [show ((none : Option (Int×Tok)).map (·.1)).getD 1 = 1 from rfl,strIndices_plain,str_len,pick_run]
 unfold sliceMade
 split
 ·rename_i hc
  have : cut (p.map (·.1)) (q.map (·.1)) l = l:=by
   have hc:=(Bool.and_eq_true_iff.mp hc).2
   unfold slicePicked at hc
   rw [show ((none : Option (Int×Tok)).map (·.1)).getD 1 = 1 from rfl,strIndices_plain,str_len] at hc
   simp only [List.length_map,List.length_range,beq_iff_eq] at hc
   unfold cut
   have h1 : (q.map (·.1)).elim l.length (clipAt l.length)≤l.length:=by induction q using Option.casesOn <;> simp [clipAt_le]
   by_cases hz : l.length = 0
   ·have : l = []:=List.length_eq_zero_iff.mp hz
    subst this; simp
   ·rw [show (p.map (·.1)).elim 0 (clipAt l.length) = 0 by lia,show (q.map (·.1)).elim l.length (clipAt l.length) = l.length by lia]
    simp
  rw [this]; exact EP.pure fin (.str _ _)
 ·rw [e]
  refine ⟨?_,EP.tk fin (.str _ _)⟩
  rw [str_len]; have:=cut_length_le (p.map (·.1)) (q.map (·.1)) l; rw [sizeLine_eq]; lia
end
structure Gd where
 prog : Program
 w : World
 h : Heap
structure Gnd (G : Gd) (φ : Fz) (s : Shared) : Prop where
 gnd : ∀ b o,G.h.get? b = some o→φ b = some o
 fin : ∀ a o,φ a = some o→s.heap.get? a = some o
theorem Gnd.step {G : Gd} {φ φ' : Fz} {s s' : Shared} (g : Gnd G φ s) (x : Step φ s φ' s') : Gnd G φ' s':=⟨fun b o e=>x.up b o (g.gnd b o e),x.fin⟩
theorem Gnd.keep {G : Gd} {φ : Fz} {s : Shared} (g : Gnd G φ s) : ∀ b o,G.h.get? b = some o→s.heap.get? b = some o:=fun b o e=>g.fin b o (g.gnd b o e)
structure Room (A : Around) (l : Nat) : Prop where
 handled : A.handled = none
 depth : A.depth + l < recursionLimit
 units : A.units + 8 * l + 80 < cLine
theorem Room.deeper {A : Around} {l : Nat} (r : Room A (l + 1)) (env : Env) : Room (A.deeper env) l:=⟨r.handled,by have:=r.depth; show A.depth + 1 + l < _; lia,by have:=r.units; rw [Around.deeper_units]; lia⟩
theorem Room.le {A : Around} {l k : Nat} (r : Room A l) (h : k≤l) : Room A k:=⟨r.handled,Nat.lt_of_le_of_lt (Nat.add_le_add_left h _) r.depth,Nat.lt_of_le_of_lt (Nat.add_le_add_right (Nat.add_le_add_left (Nat.mul_le_mul_left 8 h) _) 80) r.units⟩
inductive Loc where
 | loc
 | own (ca : Addr)
 | fre (ca : Addr)
inductive LV where
 | un
 | fz (d : D)
 | ow (l : List D)
 | oi (y C : Addr) (fs : List (Str×D))
inductive CV where
 | un
 | fz (v : Value) (d : D)
 | ow (a : Addr) (l : List D)
 | oi (x dx C : Addr) (fs : List (Str×D))
noncomputable def CV.ab : CV→LV
 | .un=>.un
 | .fz _ d=>.fz d
 | .ow _ l=>.ow l
 | .oi y _ C fs=>.oi y C fs
theorem ab_ow {cv : CV} {l : List D} (h : cv.ab = .ow l) : ∃ a,cv = .ow a l:=by
 induction cv using Mine.CV.casesOn <;> first | exact LV.noConfusion h | exact LV.noConfusion h fun e=>⟨_,by rw [e]⟩
theorem ab_oi {cv : CV} {y C : Addr} {fs : List (Str×D)} (h : cv.ab = .oi y C fs) : ∃ dx,cv = .oi y dx C fs:=by
 induction cv using Mine.CV.casesOn <;> first | exact LV.noConfusion h | exact LV.noConfusion h fun e1 e2 e3=>⟨_,by rw [e1,e2,e3]⟩
theorem ab_fz {cv : CV} {d : D} (h : cv.ab = .fz d) : ∃ v,cv = .fz v d:=by
 induction cv using Mine.CV.casesOn <;> first | exact LV.noConfusion h | exact LV.noConfusion h fun e=>⟨_,by rw [e]⟩
noncomputable def CV.val? : CV→Option Value
 | .un=>none
 | .fz v _=>some v
 | .ow a _=>some (.ref a)
 | .oi x _ _ _=>some (.ref x)
noncomputable def CV.priv : CV→List Addr
 | .ow a _=>[a]
 | .oi x dx _ _=>[x,dx]
 | _=>[]
structure CE where
 x : Str
 loc : Loc
 cv : CV
noncomputable def Loc.priv : Loc→List Addr
 | .own ca=>[ca]
 | _=>[]
noncomputable def CE.priv (e : CE) : List Addr:=e.loc.priv ++ e.cv.priv
noncomputable abbrev Rho:=List (Str×LV)
noncomputable def abs (c : List CE) : Rho:=c.map fun e=>(e.x,e.cv.ab)
noncomputable def privs (env : Env) (c : List CE) : List Addr:=env.locals :: c.flatMap CE.priv
noncomputable def KeyOk (w : World) (es : List DictEntry) : Prop:=∀ e∈es,∃ x t,e.key = .str x t∧e.hash = PyData.keyHash w.params x
noncomputable def Slot (hb : Heap) (env : Env) (h : Heap) (m : Str→Option Value) (e : CE) : Prop:=match e.loc with
 | .loc=>env.kindOf e.x = some .local∧∀ v,e.cv.val? = some v→m e.x = some v
 | .own ca=>env.kindOf e.x = some .cell∧env.cells.lookup e.x = some ca∧∃ ov,h.IsCell ca ov∧∀ v,e.cv.val? = some v→ov = some v
 | .fre ca=>(env.kindOf e.x = some .free∨env.kindOf e.x = some .cell)∧env.cells.lookup e.x = some ca∧∃ ov,hb.IsCell ca ov∧∀ v,e.cv.val? = some v→ov = some v
noncomputable def Good (w : World) (φ : Fz) (h : Heap) : CV→Prop
 | .un=>True
 | .fz v d=>Rep φ v d
 | .ow a l=>∃ n vs,h.get? a = some (lsO vs n)∧RepL φ vs l
 | .oi x dx C fs=>h.get? x = some (instObj C dx)∧∃ es n,h.get? dx = some (dictOf es n)∧RepF φ es fs∧KeyOk w es
noncomputable def LocOk : Option NameKind→Loc→Prop
 | some .local,.loc=>True
 | some .cell,.own _=>True
 | some .free,.fre _=>True
 | _,_=>False
theorem locOk_fre {o : Option NameKind} {ca : Addr} (h : LocOk o (.fre ca)) : o = some .free:=by
 induction o using Option.casesOn with
 | none=>exact h.elim
 | some k=>induction k using PySem.NameKind.casesOn <;> first | rfl | exact h.elim
structure St (G : Gd) (hb : Heap) (sc : Scope) (env : Env) (c : List CE) (φ : Fz) (s : Shared) : Prop where
 g : Gnd G φ s
 base : ∀ b o,hb.get? b = some o→s.heap.get? b = some o
 kind : env.scope.kind = .function
 glo : env.globals = mainGlobals
 bui : env.builtins = builtinsNs
 gk : ∀ x,sc.names.lookup x = some .globalImplicit→env.kindOf x = some .globalImplicit
 lk : ∀ e∈c,LocOk (sc.names.lookup e.x) e.loc
 nd : (c.map (·.x)).Nodup
 pnd : (privs env c).Nodup
 pfz : ∀ a∈privs env c,φ a = none
 pbs : ∀ a∈privs env c,hb.get? a = none
 vars : ∃ m,s.heap.Ns env.locals m∧∀ e∈c,Slot hb env s.heap m e∧Good G.w φ s.heap e.cv
theorem Good.mono {w : World} {φ φ' : Fz} {h h' : Heap} {cv : CV} (g : Good w φ h cv) (up : ∀ a o,φ a = some o→φ' a = some o) (ext : ∀ a∈cv.priv,∀ o,h.get? a = some o→h'.get? a = some o) : Good w φ' h' cv:=by
 induction cv using Mine.CV.casesOn with
 | un=>trivial
 | fz v d=>exact Rep.mono up g
 | ow a l=>obtain ⟨n,vs,e,r⟩:=g; exact ⟨n,vs,ext _ (.head _) _ e,r.mono up⟩
 | oi x dx C fs=>obtain ⟨e,es,n,f,r,k⟩:=g; exact ⟨ext _ (.head _) _ e,es,n,ext _ (.tail _ (.head _)) _ f,r.mono up,k⟩
theorem Slot.mono {hb : Heap} {env : Env} {h h' : Heap} {m : Str→Option Value} {e : CE} (x : Slot hb env h m e) (ext : ∀ a∈e.loc.priv,∀ o,h.get? a = some o→h'.get? a = some o) : Slot hb env h' m e:=by
 obtain ⟨n,loc,cv⟩:=e
 induction loc using Mine.Loc.casesOn with
 | loc=>exact x
 | own ca=>obtain ⟨h1,h2,ov,h3,h4⟩:=x; exact ⟨h1,h2,ov,(let ⟨o,ho,hd⟩:=h3; ⟨o,ext _ (.head _) _ ho,hd⟩),h4⟩
 | fre ca=>exact x
theorem St.privLive {G : Gd} {hb : Heap} {sc : Scope} {env : Env} {c : List CE} {φ : Fz} {s : Shared} (S : St G hb sc env c φ s) : ∀ a∈privs env c,∃ o,s.heap.get? a = some o:=by
 refine e1a2 S.vars fun m hn hv=>fun a ha=>?_
 rcases List.mem_cons.mp ha with rfl | ha
 ·obtain ⟨o,_,_,ho,_⟩:=hn; exact ⟨o,ho⟩
 ·obtain ⟨e,he,hp⟩:=List.mem_flatMap.mp ha
  have hvs:=hv e he
  obtain ⟨n,loc,cv⟩:=e
  rcases List.mem_append.mp hp with hp | hp
  ·induction loc using Mine.Loc.casesOn with
   | own ca=>obtain ⟨_,_,_,⟨o,ho,_⟩,_⟩:=hvs.1; exact ⟨o,List.mem_singleton.mp hp ▸ ho⟩
   | loc=>exact (List.not_mem_nil hp).elim
   | fre ca=>exact (List.not_mem_nil hp).elim
  ·induction cv using Mine.CV.casesOn with
   | ow b l=>obtain ⟨n,vs,e,_⟩:=hvs.2; exact ⟨_,List.mem_singleton.mp hp ▸ e⟩
   | oi y dy C fs =>
    obtain ⟨e,es,n,f,_⟩:=hvs.2
    exact (List.mem_cons.mp hp).elim (fun z=>⟨_,z ▸ e⟩) fun z=>⟨_,List.mem_singleton.mp z ▸ f⟩
   | un=>exact (List.not_mem_nil hp).elim
   | fz v d=>exact (List.not_mem_nil hp).elim
theorem St.step {G : Gd} {hb : Heap} {sc : Scope} {env : Env} {c : List CE} {φ φ' : Fz} {s s' : Shared} (S : St G hb sc env c φ s) (x : Step φ s φ' s') : St G hb sc env c φ' s':=by
 refine e1a2 (S.vars) fun m hn hv=>?_
 refine ⟨S.g.step x,fun b o e=>x.ext b o (S.base b o e),S.kind,S.glo,S.bui,S.gk,S.lk,S.nd,S.pnd,fun a ha=>?_,S.pbs,m,hn.keeps x.ext,fun e he=>⟨(hv e he).1.mono fun a _a o h=>x.ext a o h,(hv e he).2.mono x.up fun a _a o h=>x.ext a o h⟩⟩
 generalize q : φ' a = r_; induction r_ using Option.casesOn with
 | none=>rfl
 | some o =>
  rcases x.new a o q with h | h
  ·rw [S.pfz a ha] at h; exact no_none h
  ·exfalso
   obtain ⟨o,w⟩:=S.privLive a ha
   rw [w] at h; exact no_some h
set_option tactic.hygienic true in
theorem abs_lookup {c : List CE} {x : Str} {lv : LV} (h : (abs c).lookup x = some lv) : ∃ e∈c,e.x = x∧e.cv.ab = lv:=by
 induction c with
 | nil=>cases h
 | cons e c ih =>
  rw [abs,List.map_cons,List.lookup_cons] at h
  split at h
  ·rename_i q
   have qq:=Option.some.inj (h); subst qq
   exact ⟨e,List.mem_cons_self,(beq_iff_eq.mp q).symm,rfl⟩
  ·refine e1a2 (ih h) fun e' m r=>?_
   exact ⟨e',List.mem_cons_of_mem _ m,r⟩
theorem St.load {G : Gd} {hb : Heap} {sc : Scope} {env : Env} {c : List CE} {φ : Fz} {s : Shared} (S : St G hb sc env c φ s) {e : CE} (he : e∈c) {v : Value} (hv : e.cv.val? = some v) {M : Model} {A : Around} {Q : Value→Shared→Prop} {E : Value→Shared→Prop}
  (hc : (e.x == ("__classdict__" : Str)) = false) (q : Q v s) : wpAny M A (loadName env e.x) Q E s:=by
 refine e1a2 (S.vars) fun m hn hv'=>?_
 have hs:=(hv' e he).1
 obtain ⟨n,loc,cv⟩:=e
 induction loc using Mine.Loc.casesOn with
 | loc=>exact wpAny_loadName_local S.kind hs.1 hn (hs.2 v hv) q
 | own ca =>
  obtain ⟨h1,h2,ov,h3,h4⟩:=hs
  rw [h4 v hv] at h3
  exact wpAny_loadName_cell S.kind h1 h2 h3 q
 | fre ca =>
  obtain ⟨h1,h2,ov,h3,h4⟩:=hs
  rw [h4 v hv] at h3
  rcases h1 with h1 | h1
  ·exact wpAny_loadName_free S.kind h1 h2 (h3.keeps S.base) q hc
  ·exact wpAny_loadName_cell S.kind h1 h2 (h3.keeps S.base) q
noncomputable def setC (c : List CE) (x : Str) (cv : CV) : List CE:=c.map fun e=>if e.x = x then { e with cv:=cv } else e
noncomputable def setR (ρ : Rho) (x : Str) (lv : LV) : Rho:=ρ.map fun p=>if p.1 = x then (p.1,lv) else p
theorem abs_set (c : List CE) (x : Str) (cv : CV) : abs (setC c x cv) = setR (abs c) x cv.ab:=by
 simp only [abs,setC,setR,List.map_map]
 apply List.map_congr_left
 intro e _
 simp only [Function.comp]
 by_cases h : e.x = x <;> simp [h]
theorem set_names (c : List CE) (x : Str) (cv : CV) : (setC c x cv).map (·.x) = c.map (·.x):=by
 simp only [setC,List.map_map]
 apply List.map_congr_left
 intro e _
 simp only [Function.comp]
 by_cases h : e.x = x <;> simp [h]
theorem mem_set {c : List CE} {x : Str} {cv : CV} {e : CE} (h : e∈setC c x cv) : (∃ e'∈c,e'.x = x∧e = { e' with cv:=cv })∨(e∈c∧e.x≠x):=by
 refine e1a2 (List.mem_map.mp h) fun e' m q=>?_
 by_cases k : e'.x = x
 ·rw [if_pos k] at q; exact .inl ⟨e',m,k,q.symm⟩
 ·rw [if_neg k] at q; subst q; exact .inr ⟨m,k⟩
theorem set_none {c : List CE} {x : Str} {cv : CV} (h : x ∉ c.map (·.x)) : setC c x cv = c:=by
 unfold setC
 conv=>rhs; rw [← List.map_id c]
 apply List.map_congr_left
 intro e he
 rw [if_neg (fun k=>h (List.mem_map.mpr ⟨e,he,k⟩))]; rfl
theorem set_cons (e : CE) (c : List CE) (x : Str) (cv : CV) : setC (e :: c) x cv = (if e.x = x then { e with cv:=cv } else e) :: setC c x cv:=rfl
theorem priv_with (e : CE) (cv : CV) : CE.priv { e with cv:=cv } = e.loc.priv ++ cv.priv:=rfl
theorem mem_setPriv {c : List CE} {x : Str} {cv : CV} {a : Addr} (h : a∈(setC c x cv).flatMap CE.priv) : a∈cv.priv∨a∈c.flatMap CE.priv:=by
 refine e1a2 (List.mem_flatMap.mp h) fun e m p=>?_
 rcases mem_set m with ⟨e',m',k,rfl⟩ | ⟨m',k⟩
 ·rw [priv_with] at p
  rcases List.mem_append.mp p with q | q
  ·exact .inr (List.mem_flatMap.mpr ⟨e',m',List.mem_append_left _ q⟩)
  ·exact .inl q
 ·exact .inr (List.mem_flatMap.mpr ⟨e,m',p⟩)
theorem nodup_setPriv : ∀ {c : List CE} {x : Str} {cv : CV},(c.map (·.x)).Nodup→(c.flatMap CE.priv).Nodup→cv.priv.Nodup→(∀ a∈cv.priv,a ∉ c.flatMap CE.priv)→((setC c x cv).flatMap CE.priv).Nodup
 | [],_,_,_,_,_,_=>List.nodup_nil
 | e :: c,x,cv,n,p,q,f=>by
  rw [List.map_cons,List.nodup_cons] at n
  rw [List.flatMap_cons,List.nodup_append] at p
  refine e0a3 (p) fun p1 p2 p3=>?_
  rw [set_cons]
  by_cases k : e.x = x
  ·rw [if_pos k,set_none (by rw [← k]; exact n.1),List.flatMap_cons,priv_with,List.nodup_append]
   have p1' : (e.loc.priv ++ e.cv.priv).Nodup:=p1
   rw [List.nodup_append] at p1'
   refine ⟨?_,p2,?_⟩
   ·rw [List.nodup_append]
    exact ⟨p1'.1,q,fun a ha b hb e'=>f b hb (List.mem_flatMap.mpr ⟨e,List.mem_cons_self,List.mem_append_left _ (e' ▸ ha)⟩)⟩
   ·intro a ha b hb e'
    rcases List.mem_append.mp ha with ha | ha
    ·exact p3 a (List.mem_append_left _ ha) b hb e'
    ·exact f a ha (by rw [e',List.flatMap_cons]; exact List.mem_append_right _ hb)
  ·rw [if_neg k,List.flatMap_cons,List.nodup_append]
   refine ⟨p1,nodup_setPriv n.2 p2 q fun a ha m=>f a ha (by rw [List.flatMap_cons]; exact List.mem_append_right _ m),fun a ha b hb e'=>?_⟩
   rcases mem_setPriv hb with hb | hb
   ·exact f b hb (by rw [List.flatMap_cons]; exact List.mem_append_left _ (e' ▸ ha))
   ·exact p3 a ha b hb e'
theorem mem_priv_ne {env : Env} {c : List CE} (pnd : (privs env c).Nodup) {e : CE} (he : e∈c) {a : Addr} (ha : a∈e.priv) : a≠env.locals:=by
 rw [privs,List.nodup_cons] at pnd
 intro q
 exact pnd.1 (q ▸ List.mem_flatMap.mpr ⟨e,he,ha⟩)
theorem priv_apart : ∀ {c : List CE},(c.flatMap CE.priv).Nodup→∀ {e e' : CE},e∈c→e'∈c→e.x≠e'.x→∀ a∈e.priv,a ∉ e'.priv
 | [],_,_,_,h,_,_,_,_=>by cases h
 | f :: c,p,e,e',h,h',k,a,ha=>by
  rw [List.flatMap_cons,List.nodup_append] at p
  refine e0a3 (p) fun p1 p2 p3=>?_
  intro ha'
  rcases List.mem_cons.mp h with z | z
  ·rcases List.mem_cons.mp h' with z' | z'
   ·exact k (by rw [z,z'])
   ·exact p3 a (z ▸ ha) a (List.mem_flatMap.mpr ⟨e',z',ha'⟩) rfl
  ·rcases List.mem_cons.mp h' with z' | z'
   ·exact p3 a (z' ▸ ha') a (List.mem_flatMap.mpr ⟨e,z,ha⟩) rfl
   ·exact priv_apart p2 z z' k a ha ha'
theorem priv_nodup {c : List CE} (p : (c.flatMap CE.priv).Nodup) {e : CE} (h : e∈c) : e.priv.Nodup:=by
 induction c with
 | nil=>cases h
 | cons f c ih =>
  rw [List.flatMap_cons,List.nodup_append] at p
  exact (List.mem_cons.mp h).elim (fun z=>z ▸ p.1) (ih p.2.1)
structure Fit (G : Gd) (hb : Heap) (env : Env) (c : List CE) (φ : Fz) (s : Shared) (cv : CV) : Prop where
 good : Good G.w φ s.heap cv
 nd : cv.priv.Nodup
 off : ∀ a∈cv.priv,a ∉ privs env c∧φ a = none∧hb.get? a = none
theorem Fit.fz {G : Gd} {hb : Heap} {env : Env} {c : List CE} {φ : Fz} {s : Shared} {v : Value} {d : D} (r : Rep φ v d) : Fit G hb env c φ s (.fz v d):=⟨r,List.nodup_nil,fun _a h=>(no_mem h)⟩
theorem St.setWith {G : Gd} {hb : Heap} {sc : Scope} {env : Env} {c : List CE} {φ : Fz} {s : Shared} (S : St G hb sc env c φ s) {x : Str} {cv : CV} (F : Fit G hb env c φ s cv) {h' : Heap} {tk : Nat} {b : Addr}
  (hsb : Heap.SameBut b s.heap h') (hbp : b∈privs env c) (hbc : b ∉ c.flatMap (fun e=>e.cv.priv))
  (hm : ∃ m,h'.Ns env.locals m∧∀ e∈c,(e.x≠x→Slot hb env h' m e)∧(e.x = x→Slot hb env h' m { e with cv:=cv })) : St G hb sc env (setC c x cv) φ { s with heap:=h',toks:=tk }:=by
 refine e1a2 (hm) fun m hn hs=>?_
 refine e1a2 (S.vars) fun m₀ _a hv=>?_
 have pnd:=S.pnd
 rw [privs,List.nodup_cons] at pnd
 have up : ∀ a o,a≠b→s.heap.get? a = some o→h'.get? a = some o:=fun a o n e=>(hsb.2 a n).trans e
 refine ⟨⟨S.g.gnd,fun a o e=>up a o (fun q=>?_) (S.g.fin a o e)⟩,fun a o e=>up a o (fun q=>?_) (S.base a o e),S.kind,S.glo,S.bui,S.gk,fun e he=>?_,by rw [set_names]; exact S.nd,?_,fun a ha=>?_,fun a ha=>?_,m,hn,fun e he=>?_⟩
 ·rw [q,S.pfz b hbp] at e; exact no_none e
 ·rw [q,S.pbs b hbp] at e; exact no_none e
 ·rcases mem_set he with ⟨e',m',k,rfl⟩ | ⟨m',k⟩
  ·exact S.lk e' m'
  ·exact S.lk e m'
 ·rw [privs,List.nodup_cons]
  refine ⟨fun q=>?_,nodup_setPriv S.nd pnd.2 F.nd fun a ha q=>(F.off a ha).1 (List.mem_cons_of_mem _ q)⟩
  rcases mem_setPriv q with q | q
  ·exact (F.off _ q).1 List.mem_cons_self
  ·exact pnd.1 q
 ·rcases List.mem_cons.mp ha with rfl | ha
  ·exact S.pfz _ List.mem_cons_self
  ·rcases mem_setPriv ha with q | q
   ·exact (F.off _ q).2.1
   ·exact S.pfz _ (List.mem_cons_of_mem _ q)
 ·rcases List.mem_cons.mp ha with rfl | ha
  ·exact S.pbs _ List.mem_cons_self
  ·rcases mem_setPriv ha with q | q
   ·exact (F.off _ q).2.2
   ·exact S.pbs _ (List.mem_cons_of_mem _ q)
 ·rcases mem_set he with ⟨e',m',k,rfl⟩ | ⟨m',k⟩
  ·exact ⟨(hs e' m').2 k,F.good.mono (fun _a _a e=>e) fun a ha o e=>up a o (fun q=>(F.off a ha).1 (q ▸ hbp)) e⟩
  ·exact ⟨(hs e m').1 k,(hv e m').2.mono (fun _a _a e=>e) fun a ha o e'=>up a o (fun q=>hbc (List.mem_flatMap.mpr ⟨e,m',q ▸ ha⟩)) e'⟩
theorem name_inj {c : List CE} (nd : (c.map (·.x)).Nodup) {e e' : CE} (h : e∈c) (h' : e'∈c) (k : e.x = e'.x) : e = e':=by
 induction c with
 | nil=>cases h
 | cons f c ih =>
  rw [List.map_cons,List.nodup_cons] at nd
  rcases List.mem_cons.mp h with z | z
  ·rcases List.mem_cons.mp h' with z' | z'
   ·rw [z,z']
   ·exact absurd (List.mem_map.mpr ⟨e',z',by rw [← k,z]⟩) nd.1
  ·rcases List.mem_cons.mp h' with z' | z'
   ·exact absurd (List.mem_map.mpr ⟨e,z,by rw [k,z']⟩) nd.1
   ·exact ih nd.2 z z'
theorem St.store {G : Gd} {hb : Heap} {sc : Scope} {env : Env} {c : List CE} {φ : Fz} {s : Shared} (S : St G hb sc env c φ s) {e : CE} (he : e∈c) (hk : sc.names.lookup e.x≠some .free) {cv : CV} {v : Value} (hv : cv.val? = some v) (F : Fit G hb env c φ s cv)
  {M : Model} {A : Around} {Q : Unit→Shared→Prop} {E : Value→Shared→Prop} (q : ∀ h' tk,St G hb sc env (setC c e.x cv) φ { s with heap:=h',toks:=tk }→(∃ b∈privs env c,Heap.SameBut b s.heap h')→Q () { s with heap:=h',toks:=tk }) :
  wpAny M A (storeName env e.x v) Q E s:=by
 refine e1a2 (S.vars) fun m hn hs=>?_
 have hse:=(hs e he).1
 have hlk:=S.lk e he
 have pnd:=S.pnd
 rw [privs,List.nodup_cons] at pnd
 obtain ⟨x,loc,cv₀⟩:=e
 induction loc using Mine.Loc.casesOn with
 | loc =>
  refine wpAny_storeName_local hse.1 hn (fun h' hn' hsb=>?_) (by rw [S.kind]; rfl)
  refine q h' _ (S.setWith (b:=env.locals) F hsb List.mem_cons_self (fun m'=>?_) ⟨_,hn',fun e' he'=>⟨fun k=>?_,fun k=>?_⟩⟩) ⟨_,List.mem_cons_self,hsb⟩
  ·refine e1a2 (List.mem_flatMap.mp m') fun e' h1 h2=>?_
   exact pnd.1 (List.mem_flatMap.mpr ⟨e',h1,List.mem_append_right _ h2⟩)
  ·have hse':=(hs e' he').1
   have ne:=fun a (ha : a∈e'.loc.priv)=>mem_priv_ne S.pnd he' (List.mem_append_left _ ha)
   obtain ⟨x',loc',cv'⟩:=e'
   induction loc' using Mine.Loc.casesOn with
   | loc=>exact ⟨hse'.1,fun w hw=>by show (if x' = x then _ else _) = _; rw [if_neg k]; exact hse'.2 w hw⟩
   | own ca=>exact Slot.mono (h:=s.heap) hse' fun a ha o e=>(hsb.2 a (ne a ha)).trans e
   | fre ca=>exact hse'
  ·have : e' = ⟨x,.loc,cv₀⟩:=name_inj S.nd he' he k
   subst this
   exact ⟨hse.1,fun w hw=>by show (if x = x then _ else _) = _; rw [if_pos rfl]; rw [hv] at hw; exact hw⟩
 | own ca =>
  obtain ⟨h1,h2,ov,h3,h4⟩:=hse
  refine wpAny_storeName_cell S.kind h1 h2 h3 fun h' hc' hsb=>?_
  have hcp : ca∈c.flatMap CE.priv:=List.mem_flatMap.mpr ⟨_,he,.head _⟩
  have hne : env.locals≠ca:=fun q=>pnd.1 (q ▸ hcp)
  refine q h' s.toks (S.setWith (b:=ca) F hsb (List.mem_cons_of_mem _ hcp) (fun m'=>?_) ⟨m,hn.sameBut hsb hne,fun e' he'=>⟨fun k=>?_,fun k=>?_⟩⟩) ⟨_,List.mem_cons_of_mem _ hcp,hsb⟩
  ·refine e1a2 (List.mem_flatMap.mp m') fun e' g1 g2=>?_
   by_cases k : e'.x = x
   ·have : e' = ⟨x,.own ca,cv₀⟩:=name_inj S.nd g1 he k
    subst this
    have p:=S.pnd
    rw [privs,List.nodup_cons] at p
    have : ((⟨x,.own ca,cv₀⟩ : CE).priv).Nodup:=priv_nodup p.2 he
    have : (ca :: cv₀.priv).Nodup:=this
    rw [List.nodup_cons] at this
    exact this.1 g2
   ·exact priv_apart pnd.2 he g1 (fun z=>k z.symm) ca (.head _) (List.mem_append_right _ g2)
  ·have hse':=(hs e' he').1
   refine Slot.mono hse' fun a ha o e=>(hsb.2 a fun z=>?_).trans e
   exact priv_apart pnd.2 he he' (fun z=>k z.symm) ca (.head _) (List.mem_append_left _ (z ▸ ha))
  ·have : e' = ⟨x,.own ca,cv₀⟩:=name_inj S.nd he' he k
   subst this
   exact ⟨h1,h2,some v,hc',fun w hw=>by rw [hv] at hw; exact hw⟩
 | fre ca =>
  exact (hk (locOk_fre hlk)).elim
noncomputable def rngL (a b c : Int) : List Int:=if c = 1 then (List.range (b - a).toNat).map (fun i : Nat=>a + (i : Int)) else (List.range (a - b).toNat).map (fun i : Nat=>a - (i : Int))
theorem rng_size {a b c : Int} (h : c = 1∨c = -1) : Builtin.Range.rangeSize a b c = ((rngL a b c).length : Int):=by
 unfold Builtin.Range.rangeSize rngL
 rcases h with rfl | rfl
 ·rw [if_pos (by decide),if_pos rfl]; simp; split <;> lia
 ·rw [if_neg (by decide),if_neg (by decide : ¬ (-1 : Int) = 1)]; simp; split <;> lia
theorem rng_get {a b c : Int} (h : c = 1∨c = -1) {i : Nat} (hi : i < (rngL a b c).length) : (rngL a b c)[i]? = some (a + (i : Int) * c):=by
 unfold rngL at *
 rcases h with rfl | rfl
 ·rw [if_pos rfl] at *; simp at hi; simp [hi]
 ·rw [if_neg (by decide)] at *; simp at hi; simp [hi]; lia
noncomputable def itD : D→Option (List D)
 | .list l=>if l.length≤lim then some l else none
 | .tup l=>if l.length≤lim then some l else none
 | .str l=>if l.length≤lim then some (l.map fun c=>.str [c]) else none
 | .bytes l=>if l.length≤lim then some (l.map fun b=>.int (b.toNat : Int)) else none
 | .rng a b c=>if -1000000≤a∧a≤1000000∧-1000000≤b∧b≤1000000∧(c = 1∨c = -1) then some ((rngL a b c).map .int) else none
 | _=>none
noncomputable def ownsTuple : List String:=["enumerate", "zip", "dict_itemiterator", "dict_reverseitemiterator", "odict_iterator", "itertools.zip_longest", "itertools.pairwise"]
structure It (G : Gd) (A : Around) (φ : Fz) (I : Addr) (items : List D) (fp : List Addr) (P : Nat→Value→Prop) (Sx : Nat→Heap→Prop) : Prop where
 W : Walks G.prog G.w A I fp [I] items.length P Sx
 fpf : ∀ b∈fp,b = I∨∃ o,φ b = some o
 rep : ∀ i v,i < items.length→P i v→∃ d,items[i]? = some d∧Rep φ v d
 cls : ∀ i h,Sx i h→∃ o T vs,h.get? I = some o∧o.cls = .type T∧ownsTuple.contains T = false∧o.data = .fields vs
theorem go_ok {M : Model} {A : Around} {target : Expr} {I : Addr} {v : Value} {s : Shared} {Q : Unit→Shared→Prop} {E : Value→Shared→Prop}
  (h : ∃ o T vs,s.heap.get? I = some o∧o.cls = .type T∧ownsTuple.contains T = false∧o.data = .fields vs) (q : Q () s) : wpAny M A (letOwnedTupleGo target (.ref I) v) Q E s:=by
 refine e3a4 (h) fun o T vs ho hc ht hd=>?_
 have key : ∀ a,wpAny M A (do
   let o ← load I
   match o.cls,o.data with
   | .type n,.fields vs =>
    if ownsTuple.contains n && vs[0]? == some (rawInt a) then
     rule "for.unpacks-the-owned-tuple"
     updateField I 0 .none
   | _,_=>pure () : Sem Unit) Q E s:=fun a=>by
  refine wpAny_bind (wpAny_load ho ?_)
  rw [hc,hd]
  dsimp only
  rw [ht,Bool.false_and,if_neg Bool.false_ne_true]
  exact wpAny_pure q
 unfold letOwnedTupleGo
 induction target using PySem.Expr.casesOn <;> first | exact wpAny_pure q | (induction v using PySem.Value.casesOn <;> first | exact wpAny_pure q | exact key _)
section
variable {G : Gd} {φ : Fz} {A : Around} {s : Shared} {E : Value→Shared→Prop}
noncomputable def ItR (G : Gd) (A : Around) (φ : Fz) (s : Shared) (items : List D) (it : Value) (s' : Shared) : Prop:=∃ I fp P Sx,it = .ref I∧It G A φ I items fp P Sx∧Sx 0 s'.heap∧Step φ s φ s'∧s.heap.get? I = none∧φ I = none∧∃ o,s'.heap.get? I = some o
theorem it_new {o : Obj} {items : List D} {fp : List Addr} {P : Nat→Value→Prop} {Sx : Nat→Heap→Prop} (fin : ∀ a o,φ a = some o→s.heap.get? a = some o) (ho : o.isFreed = false) (T : It G A φ s.heap.objs.size items fp P Sx) (st : Sx 0 (s.heap.push o)) :
  ItR G A φ s items (.ref s.heap.objs.size) { s with heap:=s.heap.push o }:=⟨_,_,_,_,rfl,T,st,.push fin _ s.toks,get_size_none _,fz_size fin,_,Heap.get?_push_size _ ho⟩
theorem it_two {I a : Addr} {o : Obj} (e : φ a = some o) : ∀ b∈[I,a],b = I∨∃ o,φ b = some o:=fun b hb=>(List.mem_cons.mp hb).imp (fun z=>z) fun z=>⟨o,by rw [List.mem_singleton.mp z]; exact e⟩
theorem it_one {I : Addr} : ∀ b∈[I],b = I∨∃ o,φ b = some o:=fun b hb=>.inl (List.mem_singleton.mp hb)
theorem it_str {l : List Nat} {t : Tok} {ty : String} (fin : ∀ a o,φ a = some o→s.heap.get? a = some o) (hty : ownsTuple.contains ty = false)
  (W : Walks G.prog G.w A s.heap.objs.size [s.heap.objs.size] [s.heap.objs.size] (⟨l.toArray⟩ : Str).cps.size (SignAt ⟨l.toArray⟩) (fun i h=>h.IsStrIter s.heap.objs.size ty ⟨l.toArray⟩ t i)) :
  ItR G A φ s (l.map fun c=>D.str [c]) (.ref s.heap.objs.size) { s with heap:=s.heap.push { cls:=.type ty,data:=.fields #[.str ⟨l.toArray⟩ t,.int 0 0] } }:=by
 rw [show (⟨l.toArray⟩ : Str).cps.size = (l.map fun c=>D.str [c]).length from (List.length_map ..).symm] at W
 refine it_new fin rfl ⟨W,it_one,fun i v hi hv=>?_,fun i h st=>?_⟩ ⟨_,Heap.get?_push_size _ rfl,rfl,rfl⟩
 ·refine e2a2 (hv) fun c u e rr3=>?_
  exact ⟨.str [c],by rw [List.getElem?_map,show l[i]? = some c from by simpa using e]; rfl,rr3 ▸ .str [c] u⟩
 ·refine e1a3 (st) fun o h1 h2 h3=>?_
  exact ⟨o,_,_,h1,h2,hty,h3⟩
set_option tactic.hygienic true in
theorem iter_ok {v : Value} {d : D} {items : List D} (fin : ∀ a o,φ a = some o→s.heap.get? a = some o) (hh : A.handled = none) (x : Rep φ v d) (h : itD d = some items) :
  wpAny (model G.prog G.w) A (pyIter v) (ItR G A φ s items) E s:=by
 induction d using Mine.D.casesOn <;> first | exact no_none h | skip
 case list l =>
  refine oif_e h fun _a h=>?_
  have qq:=some_inv h; subst qq
  refine e3a3 (x.iList) fun a vs n q e1 r1=>?_
  subst q
  have W:=Walks.list (prog:=G.prog) (w:=G.w) hh s.heap.objs.size a (Nat.ne_of_lt (Heap.lt_size (fin _ _ e1))) vs.toArray
  rw [show vs.toArray.size = items.length from r1.length] at W
  refine wpAny_pyIter_list (lsO_isList (fin _ _ e1)) (it_new fin rfl ⟨W,it_two e1,fun i v hi hv=>r1.getV (by simpa using hv),fun i h st=>?_⟩ ⟨⟨_,Heap.get?_push_size _ rfl,rfl,rfl⟩,lsO_isList (Heap.get?_push_of_some _ (fin _ _ e1))⟩)
  refine e1a3 (st.1) fun o h1 h2 h3=>?_
  exact ⟨o,_,_,h1,h2,by decide,h3⟩
 case tup l =>
  refine oif_e h fun _a h=>?_
  have qq:=some_inv h; subst qq
  refine e3a3 (x.iTup) fun a vs n q e1 r1=>?_
  subst q
  have W:=Walks.tuple (prog:=G.prog) (w:=G.w) hh s.heap.objs.size a (Nat.ne_of_lt (Heap.lt_size (fin _ _ e1))) vs.toArray
  rw [show vs.toArray.size = items.length from r1.length] at W
  refine wpAny_pyIter_tuple (tpO_isTuple (fin _ _ e1)) (it_new fin rfl ⟨W,it_two e1,fun i v hi hv=>r1.getV (by simpa using hv),fun i h st=>?_⟩ ⟨⟨_,Heap.get?_push_size _ rfl,rfl,rfl⟩,tpO_isTuple (Heap.get?_push_of_some _ (fin _ _ e1))⟩)
  refine e1a3 (st.1) fun o h1 h2 h3=>?_
  exact ⟨o,_,_,h1,h2,by decide,h3⟩
 case str l =>
  refine oif_e h fun _a h=>?_
  obtain ⟨t,rfl⟩:=x.iStr
  refine some_e h ?_
  generalize ha : (⟨l.toArray⟩ : Str).cps.all (· < 128) = r_; induction r_ using Bool.casesOn
  ·exact wpAny_pyIter_wide ha (it_str fin (by decide) (Walks.strWide hh _ _ _))
  ·exact wpAny_pyIter_ascii ha (it_str fin (by decide) (Walks.strAscii hh _ _ _))
 case bytes l =>
  refine oif_e h fun _a h=>?_
  obtain ⟨t,rfl⟩:=x.iBytes
  refine some_e h ?_
  have W:=KBw.walks (prog:=G.prog) (w:=G.w) hh s.heap.objs.size l.toArray t
  rw [show l.toArray.size = (l.map fun b=>D.int (b.toNat : Int)).length from (List.length_map ..).symm] at W
  refine KBw.pyIter_bytes (it_new fin rfl ⟨W,it_one,fun i v hi hv=>?_,fun i h st=>?_⟩ ⟨_,Heap.get?_push_size _ rfl,rfl,rfl⟩)
  ·refine e2a2 (hv) fun c u e rr3=>?_
   exact ⟨.int (c.toNat : Int),by rw [List.getElem?_map,show l[i]? = some c from by simpa using e]; rfl,rr3 ▸ .int _ u⟩
  ·refine e1a3 (st) fun o h1 h2 h3=>?_
   exact ⟨o,_,_,h1,h2,by decide,h3⟩
 case rng a b c =>
  obtain ⟨⟨a1,a2,b1,b2,hc⟩,h⟩:=oif_inv h
  refine e4a2 (x.iRng) fun r t u w q e1=>?_
  subst q
  refine some_e h ?_
  have hz:=rng_size (a:=a) (b:=b) hc
  have W:=Walks.range (prog:=G.prog) (w:=G.w) hh s.heap.objs.size a c (rngL a b c).length
  rw [show (rngL a b c).length = ((rngL a b c).map D.int).length from (List.length_map ..).symm] at W
  refine wpAny_pyIter_range (fin _ _ e1) ?_ (it_new fin rfl ⟨W,it_one,fun i v hi hv=>?_,fun i h st=>⟨_,_,_,st,rfl,by decide,rfl⟩⟩ ?_)
  ·have hle : ((rngL a b c).length : Int)≤2000000:=by
    unfold rngL; split <;> simp <;> lia
   unfold Builtin.Range.small Builtin.Range.rangeFitsLong
   rw [hz]
   rcases hc with rfl | rfl <;> simp <;> lia
  ·obtain ⟨u,rfl⟩:=hv
   rw [List.length_map] at hi
   exact ⟨.int (a + (i : Int) * c),by rw [List.getElem?_map,rng_get hc hi]; rfl,.int _ u⟩
  ·show IsRangeIter _ _ _ _ _
   have e0 : a + ((0 : Nat) : Int) * c = a:=by simp
   have e1 : (((rngL a b c).map D.int).length : Int) - ((0 : Nat) : Int) = ((rngL a b c).length : Int):=by simp
   rw [hz,e0,e1]
   exact Heap.get?_push_size _ rfl
end
structure Cu (G : Gd) (A : Around) (tgt : Expr) (I : Addr) (items : List D) (wr : List Addr) (Sx : Nat→Fz→Heap→Prop) : Prop where
 frame : ∀ i φ φ' h h',Sx i φ h→(∀ a o,φ a = some o→φ' a = some o)→(∀ a o,φ a = some o→h.get? a = some o)→(∀ a o,φ' a = some o→h'.get? a = some o)→(∀ b∈wr,∀ o,h.get? b = some o→h'.get? b = some o)→Sx i φ' h'
 live : ∀ i φ h,Sx i φ h→∀ b∈wr,∃ o,h.get? b = some o
 item : ∀ i (φ : Fz) (s : Shared) (Q : Value→Shared→Prop) (E : Value→Shared→Prop),i < items.length→Sx i φ s.heap→(∀ a o,φ a = some o→s.heap.get? a = some o)→(∀ b∈wr,φ b = none) →
  (∀ v φ' h' tk d,items[i]? = some d→Rep φ' v d→Sx (i + 1) φ' h'→(∀ b o,b ∉ wr→s.heap.get? b = some o→h'.get? b = some o)→(∀ a o,φ a = some o→φ' a = some o) →
   (∀ a o,φ' a = some o→φ a = some o∨s.heap.get? a = none)→(∀ a o,φ' a = some o→h'.get? a = some o)→Q v { s with heap:=h',toks:=tk }) →
  wpAny (model G.prog G.w) A (pyNext (.ref I)) (fun r s₁=>match r with
   | none=>False
   | some v=>wpAny (model G.prog G.w) A (letOwnedTupleGo tgt (.ref I) v) (fun _a s₂=>Q v s₂) E s₁) E s
 done : ∀ (φ : Fz) (s : Shared) (Q : Shared→Prop) (E : Value→Shared→Prop),Sx items.length φ s.heap→(∀ a o,φ a = some o→s.heap.get? a = some o) →
  (∀ h' tk,(∀ b o,b ∉ wr→s.heap.get? b = some o→h'.get? b = some o)→Q { s with heap:=h',toks:=tk }) →
  wpAny (model G.prog G.w) A (pyNext (.ref I)) (fun r s₁=>r = none∧Q s₁) E s
 self : ∀ i (φ : Fz) (s : Shared) (Q : Value→Shared→Prop) (E : Value→Shared→Prop),Sx i φ s.heap→Q (.ref I) s→wpAny (model G.prog G.w) A (pyIter (.ref I)) Q E s
theorem It.cu {G : Gd} {A : Around} {φ : Fz} {I : Addr} {items : List D} {fp : List Addr} {P : Nat→Value→Prop} {Sx : Nat→Heap→Prop} (T : It G A φ I items fp P Sx) (tgt : Expr) :
  Cu G A tgt I items [I] (fun i φ' h=>(∀ a o,φ a = some o→φ' a = some o)∧Sx i h) where
 frame:=fun i φ₁ φ₂ h h' st up f f' k=>⟨fun a o e=>up a o (st.1 a o e),T.W.frame i h h' st.2 fun b hb o e=>by
  rcases T.fpf b hb with z | ⟨o',z⟩
  ·subst z; exact k _ (by simp) o e
  ·have a1:=f' b o' (up _ _ (st.1 b o' z))
   have a2:=f b o' (st.1 b o' z)
   rw [a2] at e; have qq:=Option.some.inj (e); subst qq; exact a1⟩
 live:=fun i φ₁ h st b hb=>by
  have : b = I:=by simpa using hb
  subst this
  obtain ⟨o,_,_,h1,_⟩:=T.cls i h st.2; exact ⟨o,h1⟩
 item:=fun i φ₁ s Q E hi st f fw hQ=>by
  refine T.W.item i s _ _ hi st.2 fun v h₁ tk₁ hp st₁ keep₁=>?_
  obtain ⟨d,hd,r⟩:=T.rep i v hi hp
  have fI:=fw I (by simp)
  refine go_ok (T.cls (i + 1) h₁ st₁) (hQ v φ₁ h₁ tk₁ d hd (r.mono st.1) ⟨st.1,st₁⟩ keep₁ (fun _a _a e=>e) (fun _a _a e=>.inl e) fun a o e=>keep₁ a o (fun z=>?_) (f a o e))
  have : a = I:=by simpa using z
  rw [this,fI] at e; exact no_none e
 done:=fun φ₁ s Q E st f hQ=>T.W.done s _ _ st.2 fun h' tk k=>⟨rfl,hQ h' tk k⟩
 self:=fun i φ₁ s Q E st q=>T.W.self i s _ _ st.2 q
theorem cu_ok {G : Gd} {φ : Fz} {A : Around} {s : Shared} {E : Value→Shared→Prop} {v : Value} {d : D} {items : List D} (tgt : Expr) (fin : ∀ a o,φ a = some o→s.heap.get? a = some o) (hh : A.handled = none) (x : Rep φ v d) (h : itD d = some items) :
  wpAny (model G.prog G.w) A (pyIter v) (fun it s'=>∃ I wr Sx,it = .ref I∧Cu G A tgt I items wr Sx∧Sx 0 φ s'.heap∧Step φ s φ s'∧(∀ b∈wr,s.heap.get? b = none)∧(∀ b∈wr,φ b = none)) E s :=
 wpAny_mono (iter_ok (G:=G) fin hh x h) (fun it s' q=>by
  obtain ⟨I,fp,P,Sx,rfl,T,st,y,n,f,_⟩:=q
  exact ⟨I,[I],_,rfl,T.cu tgt,⟨fun _a _a e=>e,st⟩,y,fun b hb=>(by simpa using hb : b = I) ▸ n,fun b hb=>(by simpa using hb : b = I) ▸ f⟩) fun _a _a e=>e
structure Pg where
 gl : Str→Option D
 fn : Value→List D→List (Str×D)→Option D
 mt : D→Str→Option (Value×List D)
 att : D→Str→Option D
 st : Addr→Str→Bool
structure EvF where
 e : Scope→Rho→Expr→Option D
 t : Scope→Rho→Expr→Option Bool
noncomputable def constD : Const→Option D
 | .none=>some .none
 | .bool b=>some (.bool b)
 | .int i=>some (.int i)
 | .str s=>some (.str s.cps.toList)
 | .bytes b=>some (.bytes b)
 | _=>none
noncomputable def okE (e : Expr) : Bool:=noE 7 e && noE 22 e
noncomputable def oCons : Option D→Option (List D)→Option (List D):=o2 fun d ds=>some (d :: ds)
noncomputable def oKw (x : Str) : Option D→Option (List (Str×D))→Option (List (Str×D)):=o2 fun d ds=>some ((x,d) :: ds)
noncomputable def evs (f : Expr→Option D) : List Expr→Option (List D)
 | []=>some []
 | e :: r=>if okE e = true then oCons (f e) (evs f r) else none
noncomputable def evk (f : Expr→Option D) : List Keyword→Option (List (Str×D))
 | []=>some []
 | k :: r=>o1 (fun x=>oKw x (f k.value) (evk f r)) k.arg
noncomputable def nil2 (as : List Expr) (ks : List Keyword) : Bool:=match as,ks with
 | [],[]=>true
 | _,_=>false
noncomputable def attrBaseOk (e : Expr) : Bool:=noE 16 e || onE true (fun _a _a=>true) (fun _a _a _a=>true) (fun _a _a _a=>true) (fun _a _a _a=>true) (fun f as ks _a=>noE 23 f || !nil2 as ks) e
noncomputable def nmOk (x : Str) : Bool:=!(x == ("__debug__" : Str)) && !(x == ("__classdict__" : Str))
theorem not_inv {b : Bool} (h : (!b) = true) : b = false:=by induction b using Bool.casesOn; rfl; exact nomatch h
theorem nmOk_parts {x : Str} (h : nmOk x = true) : (x == ("__debug__" : Str)) = false∧(x == ("__classdict__" : Str)) = false:=⟨not_inv (and_inv h).1,not_inv (and_inv h).2⟩
noncomputable def oLk (P : Pg) (sc : Scope) (x : Str) : Option LV→Option D
 | some (.fz d)=>some d
 | some _=>none
 | none=>if sc.names.lookup x = some .globalImplicit then P.gl x else none
noncomputable def storable (sc : Scope) (x : Str) : Bool:=match sc.names.lookup x with
 | some .local=>true
 | some .cell=>true
 | _=>false
noncomputable def hasR (ρ : Rho) (x : Str) : Bool:=(ρ.lookup x).isSome
noncomputable def bindN (sc : Scope) (ρ : Rho) (x : Str) (d : D) : Option Rho:=if storable sc x && hasR ρ x then some (setR ρ x (.fz d)) else none
noncomputable def bind1 (sc : Scope) (ρ : Rho) (t : Expr) (d : D) : Option Rho:=o1 (fun x=>bindN sc ρ x d) (nameOf t)
noncomputable def bindNs (sc : Scope) : Rho→List Expr→List D→Option Rho
 | ρ,[],[]=>some ρ
 | _,[],_ :: _=>none
 | _,_ :: _,[]=>none
 | ρ,t :: ts,d :: ds=>o1 (fun ρ'=>bindNs sc ρ' ts ds) (bind1 sc ρ t d)
noncomputable def bindT (sc : Scope) (ρ : Rho) (t : Expr) (d : D) : Option Rho:=onE none (fun x _a=>bindN sc ρ x d) (fun ts _a _a=>o1 (fun ds=>bindNs sc ρ ts ds) (tupD d)) (fun _a _a _a=>none) (fun _a _a _a=>none) (fun _a _a _a _a=>none) t
noncomputable def LV.fzOnly : LV→LV
 | .fz d=>.fz d
 | _=>.un
noncomputable def okFr (sc : Scope) (x : Str) : Bool:=match sc.names.lookup x with
 | some .cell=>true
 | some .free=>true
 | _=>false
noncomputable def oFr (x : Str) : Option LV→Option Rho→Option Rho:=o2 fun lv r=>some ((x,lv.fzOnly) :: r)
noncomputable def oUr (x : Str) : Option Rho→Option Rho:=o1 fun r=>some ((x,.un) :: r)
noncomputable def compRho (sc : Scope) (ρ : Rho) : List (Str×NameKind)→Option Rho
 | []=>some []
 | (x,k) :: r=>match k with
  | .local=>oUr x (compRho sc ρ r)
  | .cell=>oUr x (compRho sc ρ r)
  | .free=>if okFr sc x = true then oFr x (ρ.lookup x) (compRho sc ρ r) else none
  | .globalImplicit=>compRho sc ρ r
  | .globalExplicit=>none
noncomputable def ifsD (V : EvF) (sc : Scope) (ρ : Rho) : List Expr→Option Bool
 | []=>some true
 | [c]=>V.t sc ρ c
 | _=>none
noncomputable def compGo (V : EvF) (sc : Scope) (ρ₀ : Rho) (target : Expr) (ifs : List Expr) (elt : Expr) : List D→Option (List D)
 | []=>some []
 | d :: ds=>o1 (fun ρ₁=>o1 (fun b=>match b with
  | true=>oCons (V.e sc ρ₁ elt) (compGo V sc ρ₀ target ifs elt ds)
  | false=>compGo V sc ρ₀ target ifs elt ds) (ifsD V sc ρ₁ ifs)) (bindT sc ρ₀ target d)
noncomputable def oBool (op : BoolOp) (x r : Option D) : Option D:=o1 (fun v=>o1 (fun b=>match op,b with
 | .And,false=>some v
 | .Or,true=>some v
 | .And,true=>r
 | .Or,false=>r) (truthD v)) x
noncomputable def boolR (op : BoolOp) (x : Option D) (r : Option D) : List Expr→Option D
 | []=>x
 | _ :: _=>oBool op x r
noncomputable def boolD (V : EvF) (sc : Scope) (ρ : Rho) (op : BoolOp) : List Expr→Option D
 | []=>none
 | x :: rest=>boolR op (V.e sc ρ x) (boolD V sc ρ op rest) rest
noncomputable def oAll (op : BoolOp) (x r : Option Bool) : Option Bool:=o1 (fun b=>match op,b with
 | .And,false=>some false
 | .Or,true=>some true
 | .And,true=>r
 | .Or,false=>r) x
noncomputable def allT (V : EvF) (sc : Scope) (ρ : Rho) (op : BoolOp) : List Expr→Option Bool
 | []=>some (op == .And)
 | x :: rest=>oAll op (V.t sc ρ x) (allT V sc ρ op rest)
noncomputable def oPart : Option D→Option (Option Int):=o1 fun d=>o1 (fun i=>some (some i)) (intD d)
noncomputable def partD (V : EvF) (sc : Scope) (ρ : Rho) : Option Expr→Option (Option Int)
 | none=>some none
 | some e=>oPart (V.e sc ρ e)
noncomputable def binF (op : Operator) (a b : D) : Option D:=match binL op a b with
 | some l=>some (.list l)
 | none=>binD op a b
noncomputable def nodupB : List Str→Bool
 | []=>true
 | x :: r=>!(r.contains x) && nodupB r
noncomputable def cutD (a : D) (l h st : Option Int) : Option D:=match cutL a l h st with
 | some r=>some (.list r)
 | none=>cutS a l h st
noncomputable def oItems : Option D→Option (List D):=o1 itD
noncomputable def compI (V : EvF) (sc : Scope) (ρ : Rho) (_ iter : Expr) : Option (List D):=oItems (V.e sc ρ iter)
noncomputable def oBin (op : Operator) : Option D→Option D→Option D:=o2 (binF op)
noncomputable def oUn (op : UnaryOp) : Option D→Option D:=o1 (unD op)
noncomputable def oCmp (op : CmpOp) : Option D→Option D→Option Bool:=o2 (cmpD op)
noncomputable def oB : Option Bool→Option D:=o1 fun b=>some (.bool b)
noncomputable def oIf (x : Option Bool) (a b : Option D) : Option D:=o1 (fun c=>match c with
 | true=>a
 | false=>b) x
noncomputable def oIfT (x : Option Bool) (a b : Option Bool) : Option Bool:=o1 (fun c=>match c with
 | true=>a
 | false=>b) x
noncomputable def oNot : Option Bool→Option Bool:=o1 fun b=>some (!b)
noncomputable def oAnd (x y : Option Bool) : Option Bool:=o1 (fun c=>match c with
 | true=>y
 | false=>some false) x
noncomputable def oCmp2 (p q : CmpOp) : Option D→Option D→Option D→Option Bool:=o3 fun a b c=>oAnd (cmpD p a b) (cmpD q b c)
noncomputable def oList : Option (List D)→Option D:=o1 fun l=>some (.list l)
noncomputable def oTup : Option (List D)→Option D:=o1 fun l=>some (.tup l)
noncomputable def oAtt (P : Pg) (x : Str) : Option D→Option D:=o1 fun d=>P.att d x
noncomputable def oCut (a : Option D) (l h k : Option (Option Int)) : Option D:=o1 (fun a=>o3 (cutD a) l h k) a
noncomputable def oIdx : Option D→Option D→Option D:=o2 fun a i=>o1 (idxD a) (intD i)
noncomputable def oM2 (P : Pg) (ds : List D) (ks : List (Str×D)) : Option (Value×List D)→Option D:=o1 fun r=>P.fn r.1 (r.2 ++ ds) ks
noncomputable def oMt (P : Pg) (x : Str) : Option D→Option (List D)→Option (List (Str×D))→Option D:=o3 fun d ds ks=>oM2 P ds ks (P.mt d x)
noncomputable def oFn (P : Pg) : Option D→Option (List D)→Option (List (Str×D))→Option D:=o3 fun f ds ks=>o1 (fun v=>P.fn v ds ks) (valD f)
noncomputable def oTruth : Option D→Option Bool:=o1 truthD
noncomputable def cGo (V : EvF) (scope : Scope) (ρ₀ : Rho) (target : Expr) (ifs : List Expr) (elt : Expr) (items : List D) : Option D:=oList (compGo V scope ρ₀ target ifs elt items)
noncomputable def oComp (V : EvF) (scope : Scope) (target : Expr) (ifs : List Expr) (elt : Expr) : Option (List D)→Option Rho→Option D:=o2 fun items ρ₀=>cGo V scope ρ₀ target ifs elt items
noncomputable def stepSub (V : EvF) (sc : Scope) (ρ : Rho) (v : Expr) (i : Expr) : Option D:=match i with
 | .Slice lo hi st _=>oCut (V.e sc ρ v) (partD V sc ρ lo) (partD V sc ρ hi) (partD V sc ρ st)
 | i=>oIdx (V.e sc ρ v) (V.e sc ρ i)
noncomputable def stepCall (P : Pg) (V : EvF) (sc : Scope) (ρ : Rho) (args : List Expr) (kws : List Keyword) (pos : Pos) (f : Expr) : Option D:=onE none
 (fun n p=>oFn P (V.e sc ρ (.Name n p)) (evs (V.e sc ρ) args) (evk (V.e sc ρ) kws)) (fun _a _a _a=>none)
 (fun o n apos=>if (attrBaseOk o && apos.endLine == pos.line && decide (args.length + kws.length < 20)) = true then oMt P n (V.e sc ρ o) (evs (V.e sc ρ) args) (evk (V.e sc ρ) kws) else none)
 (fun _a _a _a=>none) (fun _a _a _a _a=>none) f
noncomputable def stepCmp (V : EvF) (sc : Scope) (ρ : Rho) (l : Expr) : List CmpOp→List Expr→Option D
 | [op],[r]=>if okE r = true then oB (oCmp op (V.e sc ρ l) (V.e sc ρ r)) else none
 | _,_=>none
noncomputable def stepLC (V : EvF) (sc : Scope) (ρ : Rho) (elt : Expr) (scope : Scope) : List Comprehension→Option D
 | [g]=>if (okE g.iter && scope.kind == .function && nodupB (scope.names.map (·.1)) && g.is_async == 0) = true then oComp V scope g.target g.ifs elt (compI V sc ρ g.target g.iter) (compRho sc ρ scope.names) else none
 | _=>none
noncomputable def stepE (P : Pg) (V : EvF) (sc : Scope) (ρ : Rho) (x : Expr) : Option D:=match x with
 | .Constant c _ _=>constD c
 | .Name n _=>if nmOk n = true then oLk P sc n (ρ.lookup n) else none
 | .BinOp l op r _=>oBin op (V.e sc ρ l) (V.e sc ρ r)
 | .UnaryOp op x _=>oUn op (V.e sc ρ x)
 | .BoolOp op vs _=>boolD V sc ρ op vs
 | .Compare l ops rs _=>stepCmp V sc ρ l ops rs
 | .IfExp t b o _=>oIf (V.t sc ρ t) (V.e sc ρ b) (V.e sc ρ o)
 | .List es _=>if es.length≤lim then oList (evs (V.e sc ρ) es) else none
 | .Tuple es _ _=>if es.length≤lim then oTup (evs (V.e sc ρ) es) else none
 | .Attribute o n _=>if attrBaseOk o = true then oAtt P n (V.e sc ρ o) else none
 | .Subscript v i _=>stepSub V sc ρ v i
 | .Call f args kws pos=>stepCall P V sc ρ args kws pos f
 | .ListComp elt gs scope _=>stepLC V sc ρ elt scope gs
 | _=>none
noncomputable def stepTC (V : EvF) (sc : Scope) (ρ : Rho) (l : Expr) : List CmpOp→List Expr→Option Bool
 | [op],[r]=>if okE r = true then oCmp op (V.e sc ρ l) (V.e sc ρ r) else none
 | [p,q],[r,r']=>if okE r' = true then oCmp2 p q (V.e sc ρ l) (V.e sc ρ r) (V.e sc ρ r') else none
 | _,_=>none
noncomputable def stepTU (V : EvF) (sc : Scope) (ρ : Rho) (x : Expr) : UnaryOp→Option Bool
 | .Not=>oNot (V.t sc ρ x)
 | _=>none
noncomputable def stepT (V : EvF) (sc : Scope) (ρ : Rho) (x : Expr) : Option Bool:=match x with
 | .UnaryOp op x _=>stepTU V sc ρ x op
 | .BoolOp op vs _=>allT V sc ρ op vs
 | .IfExp t b o _=>oIfT (V.t sc ρ t) (V.t sc ρ b) (V.t sc ρ o)
 | .Compare l ops rs _=>stepTC V sc ρ l ops rs
 | x=>oTruth (V.e sc ρ x)
noncomputable def evN (P : Pg) : Nat→EvF
 | 0=>⟨fun _a _a _a=>none,fun _a _a _a=>none⟩
 | n + 1=>⟨stepE P (evN P n),stepT (evN P n)⟩
theorem Step.back {φ φ' : Fz} {s s' : Shared} (x : Step φ s φ' s') : Step φ s φ s':=⟨x.eq,x.ext,fun _a _a e=>e,fun _a _a e=>.inl e,fun a o e=>x.fin a o (x.up a o e)⟩
noncomputable def EPFt (φ : Fz) (s : Shared) (v : Value) (s' : Shared) : D→Prop
 | .list l=>EPL φ s l v s'
 | d=>EP φ s d v s'
noncomputable def EPF (fr : Bool) (φ : Fz) (s : Shared) (d : D) (v : Value) (s' : Shared) : Prop:=match fr with
 | true=>EPFt φ s v s' d
 | false=>EP φ s d v s'
theorem EPF.ep {fr : Bool} {φ : Fz} {s s' : Shared} {d : D} {v : Value} (h : EPF fr φ s d v s') : EP φ s d v s':=by
 induction fr using Bool.casesOn
 ·exact h
 ·induction d using Mine.D.casesOn <;> first | exact EPL.ep h | exact h
theorem EP.epf {φ : Fz} {s s' : Shared} {d : D} {v : Value} (h : EP φ s d v s') : EPF false φ s d v s':=h
noncomputable def isFresh (e : Expr) : Bool:=!(noE 24 e && noE 8 e && noE 2 e && onE true (fun _a _a=>true) (fun _a _a _a=>true) (fun _a _a _a=>true) (fun _a i _a=>noE 26 i) (fun _a _a _a _a=>true) e)
noncomputable def RepK (φ : Fz) (kvs : List (Str×Value)) (ks : List (Str×D)) : Prop:=kvs.map (·.1) = ks.map (·.1)∧RepL φ (kvs.map (·.2)) (ks.map (·.2))
noncomputable def KeepOk (G : Gd) (f : Value) : Prop:=∃ k : Keeper,(k = .machine∨k = .frame)∧∀ M : Model,Looks M G.h (keeperOf f) k
structure CallOk (G : Gd) (l : Nat) (f : Value) (ds : List D) (ks : List (Str×D)) (d : D) : Prop where
 keep : KeepOk G f
 run : ∀ vs kvs φ s A E,Gnd G φ s→Room A l→RepL φ vs ds→RepK φ kvs ks→wpAny (model G.prog G.w) A (call f vs kvs) (EP φ s d) E s
noncomputable def StOk (G : Gd) (C : Addr) (a : Str) : Prop:=∀ (s : Shared) (x dx : Addr) (es : List DictEntry) (n : Nat) (v : Value) (A : Around) (E : Value→Shared→Prop) (Q : Unit→Shared→Prop),
 (∀ b o,G.h.get? b = some o→s.heap.get? b = some o)→s.heap.get? x = some (instObj C dx)→s.heap.get? dx = some (dictOf es n)→KeyOk G.w es→es.length < 100 →
 (∀ h' tk t n',h'.get? dx = some (dictOf (putL a (PyData.keyHash G.w.params a) (.str a t) v es) n')→Heap.SameBut dx s.heap h'→Q () { s with heap:=h',toks:=tk }) →
 wpAny (model G.prog G.w) A (setAttr (.ref x) a v) Q E s
structure POk (G : Gd) (l : Nat) (P : Pg) : Prop where
 gl : ∀ x d,P.gl x = some d→∀ (env : Env) φ s A E,env.scope.kind = .function→env.globals = mainGlobals→env.builtins = builtinsNs→env.kindOf x = some .globalImplicit→Gnd G φ s→wpAny (model G.prog G.w) A (loadName env x) (EP φ s d) E s
 fn : ∀ f ds ks d,P.fn f ds ks = some d→CallOk G l f ds ks d
 mt : ∀ d x f fs,P.mt d x = some (f,fs)→∀ v φ s A E pl,Gnd G φ s→Room A l→Rep φ v d→wpAny (model G.prog G.w) A (getMethod v x pl) (fun r s'=>r.1 = f∧∃ φ',Step φ s φ' s'∧RepL φ' r.2 fs) E s
 att : ∀ d x e,P.att d x = some e→∀ v φ s A E,Gnd G φ s→Room A l→Rep φ v d→wpAny (model G.prog G.w) A (getAttr v x true) (EP φ s e) E s
 st : ∀ C a,P.st C a = true→StOk G C a
noncomputable def ESem (G : Gd) (l : Nat) (sc : Scope) (ρ : Rho) (e : Expr) (d : D) : Prop :=
 ∀ hb env c φ s A E,Room A l→St G hb sc env c φ s→abs c = ρ→wpAny (model G.prog G.w) A (eval e env) (EPF (isFresh e) φ s d) E s
noncomputable def TSem (G : Gd) (l : Nat) (sc : Scope) (ρ : Rho) (e : Expr) (b : Bool) : Prop :=
 ∀ hb env c φ s A E,Room A l→St G hb sc env c φ s→abs c = ρ→wpAny (model G.prog G.w) A (isTrue e env (eval e env)) (fun r s'=>r = b∧Step φ s φ s') E s
structure VOk (G : Gd) (l : Nat) (V : EvF) : Prop where
 e : ∀ sc ρ e d,V.e sc ρ e = some d→ESem G l sc ρ e d
 t : ∀ sc ρ e b,V.t sc ρ e = some b→TSem G l sc ρ e b
section
variable {G : Gd} {l : Nat} {V : EvF} {P : Pg} {sc : Scope} {ρ : Rho} {hb : Heap} {env : Env} {c : List CE} {φ : Fz} {s : Shared} {A : Around} {E : Value→Shared→Prop}
theorem VOk.then (O : VOk G l V) {e : Expr} {d : D} (h : V.e sc ρ e = some d) (R : Room A l) (S : St G hb sc env c φ s) (hc : abs c = ρ) {Q : Value→Shared→Prop}
  (k : ∀ v φ' s',Step φ s φ' s'→St G hb sc env c φ' s'→Rep φ' v d→Q v s') : wpAny (model G.prog G.w) A (eval e env) Q E s :=
 wpAny_mono (O.e sc ρ e d h hb env c φ s A E R S hc) (fun v s' p=>let ⟨φ',x,r⟩:=p.ep; k v φ' s' x (S.step x) r) fun _a _a e=>e
theorem VOk.thenT (O : VOk G l V) {e : Expr} {b : Bool} (h : V.t sc ρ e = some b) (R : Room A l) (S : St G hb sc env c φ s) (hc : abs c = ρ) {Q : Bool→Shared→Prop}
  (k : ∀ s',Step φ s φ s'→St G hb sc env c φ s'→Q b s') : wpAny (model G.prog G.w) A (isTrue e env (eval e env)) Q E s :=
 wpAny_mono (O.t sc ρ e b h hb env c φ s A E R S hc) (fun v s' p=>p.1 ▸ k s' p.2 (S.step p.2)) fun _a _a e=>e
set_option tactic.hygienic true in
theorem const_ok {k : Const} {n : Nat} {pos : Pos} {d : D} (h : constD k = some d) (fin : ∀ a o,φ a = some o→s.heap.get? a = some o) : wpAny (model G.prog G.w) A (eval (.Constant k n pos) env) (EP φ s d) E s:=by
 rw [eval_Constant]
 induction k using PySem.Const.casesOn <;> first | exact no_none h | refine some_e h ?_
 ·exact wpAny_pure (EP.pure fin .none)
 ·exact wpAny_pure (EP.pure fin (.bool _))
 ·exact wpAny_mkInt (EP.tk fin (.int _ _))
 ·rename_i x
  show wpAny _ _ (mkText x) _ _ _
  refine fun _a _a _a=>?_
  have:=Rep.str (φ:=φ) x.cps.toList s.toks
  rw [Array.toArray_toList] at this
  exact EP.tk (k:=s.toks + 1) fin this
 ·rename_i b
  show wpAny _ _ (mkTextBytes b.toArray) _ _ _
  exact fun _a _a _a=>EP.tk (k:=s.toks + 1) fin (.bytes b s.toks)
theorem starEach_ok {e : Expr} {r : List Expr} (h : okE e = true) : starEach (e :: r) env = (false,eval e env) :: starEach r env:=by
 induction e using PySem.Expr.casesOn <;> first | rfl | exact no_ft h
theorem EPs.cons_after {φ₁ φ₂ : Fz} {s₁ s₂ : Shared} {v : Value} {d : D} {vs : List Value} {ds : List D} (x : Step φ s φ₁ s₁) (r₁ : Rep φ₁ v d) (y : Step φ₁ s₁ φ₂ s₂) (r₂ : RepL φ₂ vs ds) : EPs φ s (d :: ds) (v :: vs) s₂:=⟨φ₂,x.trans y,.cons (r₁.mono y.up) r₂⟩
theorem evs_inv {f : Expr→Option D} {e : Expr} {r : List Expr} {ds : List D} (h : evs f (e :: r) = some ds) : okE e = true∧∃ d ds',f e = some d∧evs f r = some ds'∧ds = d :: ds':=by
 refine oif_e h fun ok h=>?_
 refine o2_e h fun d ds' h1 h2 h=>?_
 exact ⟨ok,d,ds',h1,h2,some_inv h⟩
theorem evs_ok (O : VOk G l V) (R : Room A l) (hc : abs c = ρ) {pos : Pos} {es : List Expr} {ds : List D} {φ : Fz} {s : Shared} (h : evs (V.e sc ρ) es = some ds) (S : St G hb sc env c φ s) :
  wpAny (model G.prog G.w) A (spliced (backTo pos (starEach es env))) (EPs φ s ds) E s:=by
 induction es generalizing ds φ s with
 | nil=>refine some_e h ?_; exact Calls.spliced_nil ⟨φ,.refl S.g.fin,.nil⟩
 | cons e r ih =>
  obtain ⟨ok,d,ds',h1,h2,h3⟩:=evs_inv h
  rw [starEach_ok ok,h3]
  exact Calls.spliced_cons (O.then h1 R S hc fun v φ₁ s₁ x S₁ r₁=>wpAny_mono (ih h2 S₁) (fun vs s₂ p=>p.elim fun φ₂ p=>EPs.cons_after x r₁ p.1 p.2) fun _a _a e=>e)
theorem evk_inv {f : Expr→Option D} {k : Keyword} {r : List Keyword} {ds : List (Str×D)} (h : evk f (k :: r) = some ds) : ∃ x d ds',k.arg = some x∧f k.value = some d∧evk f r = some ds'∧ds = (x,d) :: ds':=by
 refine o1_e h fun x h0 h=>?_
 refine o2_e h fun d ds' h1 h2 h=>?_
 exact ⟨x,d,ds',h0,h1,h2,some_inv h⟩
theorem evk_ok (O : VOk G l V) (R : Room A l) (hc : abs c = ρ) {pos : Pos} {ks : List Keyword} {ds : List (Str×D)} {φ : Fz} {s : Shared} (h : evk (V.e sc ρ) ks = some ds) (S : St G hb sc env c φ s) :
  wpAny (model G.prog G.w) A (evalAll ((backToKw pos (keywordEach ks env)).map (·.2))) (EPs φ s (ds.map (·.2))) E s∧((backToKw pos (keywordEach ks env)).all (·.1.isSome) = true∧(backToKw pos (keywordEach ks env)).filterMap (·.1) = ds.map (·.1)):=by
 induction ks generalizing ds φ s with
 | nil=>refine some_e h ?_; exact ⟨wpAny_evalAll_nil ⟨φ,.refl S.g.fin,.nil⟩,rfl,rfl⟩
 | cons k r ih =>
  refine e3a4 (evk_inv h) fun x d ds' h0 h1 h2 h3=>?_
  obtain ⟨a,e,p⟩:=k
  subst h0
  rw [h3]
  refine ⟨?_,(ih h2 S).2.1,congrArg (x :: ·) (ih h2 S).2.2⟩
  refine wpAny_evalAll_cons ?_
  show wpAny _ _ (do let v ← eval e env; standAt pos; pure v) _ _ _
  exact wpAny_bind (O.then h1 R S hc fun v φ₁ s₁ x S₁ r₁=>wpAny_bind (wpAny_standAt (wpAny_pure (wpAny_mono (ih h2 S₁).1 (fun vs s₂ p=>p.elim fun φ₂ p=>EPs.cons_after x r₁ p.1 p.2) fun _a _a e=>e))))
theorem noStar (pos : Pos) {es : List Expr} {ds : List D} (h : evs (V.e sc ρ) es = some ds) : (backTo pos (starEach es env)).any (·.1) = false:=by
 induction es generalizing ds with
 | nil=>rfl
 | cons e r ih =>
  obtain ⟨ok,d,ds',h1,h2,h3⟩:=evs_inv h
  rw [starEach_ok ok]
  exact ih h2
theorem callWith_go {M : Model} {pos : Pos} {f : Value} {first : List Value} {args : List (Bool×Sem Value)} {keywords : List (Option Str×Sem Value)} {Q : Value→Shared→Prop}
  (hs : args.any (·.1) = false) (hk : keywords.all (·.1.isSome) = true)
  (h : wpAny M A (spliced args) (fun vs s₁=>wpAny M A (evalAll (keywords.map (·.2))) (fun ks s₂=>(∃ k : Keeper,(k = .machine∨k = .frame)∧Looks M s₂.heap (keeperOf f) k)∧wpAny M A (call f (first ++ vs) ((keywords.filterMap (·.1)).zip ks)) Q E s₂) E s₁) E s) :
  wpAny M A (callWith pos f first args keywords) Q E s:=by
 have hn : keywords.any (·.1.isNone) = false:=by
  rw [List.any_eq_false]
  intro x hx
  have:=List.all_eq_true.mp hk x hx
  generalize q : x.1 = r_; induction r_ using Option.casesOn <;> simp_all
 have arg : wpAny M A (evalArgs f true args keywords) (fun x s₂=>(∃ k : Keeper,(k = .machine∨k = .frame)∧Looks M s₂.heap (keeperOf f) k)∧wpAny M A (call f (first ++ x.pos) x.kw) Q E s₂) E s:=by
  induction args using List.casesOn with
  | nil =>
   refine evalArgs_kw_nil hk ?_
   have : wpAny M A (pure ([] : List Value)) (fun vs s₁=>wpAny M A (evalAll (keywords.map (·.2))) (fun ks s₂=>(∃ k : Keeper,(k = .machine∨k = .frame)∧Looks M s₂.heap (keeperOf f) k)∧wpAny M A (call f (first ++ vs) ((keywords.filterMap (·.1)).zip ks)) Q E s₂) E s₁) E s:=h
   exact fun Γ p hΓ=>this Γ p hΓ Γ p hΓ
  | cons a rest =>
   obtain ⟨b,x⟩:=a
   have : b = false:=by simp at hs; exact hs.1
   subst this
   exact evalArgs_kw hk h
 unfold callWith
 refine wpAny_bind (wpAny_holding (wpAny_mono arg (fun x s₁ h₁=>wpAny_bind (wpAny_standAt ?_)) fun _a _a x=>x))
 have tail : ∀ {t : Sem Value},wpAny M A t Q E s₁→wpAny M A (t >>= fun r=>holding [r] point >>= fun _a=>pure r) Q E s₁ :=
  fun ht=>wpAny_bind (wpAny_mono ht (fun r s₂ hr=>wpAny_bind (wpAny_holding (wpAny_point (wpAny_pure hr)))) fun _a _a x=>x)
 dsimp only
 rw [hs,hn]
 obtain ⟨⟨k,hk',L⟩,hq⟩:=h₁
 refine wpAny_bind (m:=keeperOf f) (L.here ?_)
 rcases hk' with rfl | rfl
 ·exact tail hq
 ·refine wpAny_ite ?_
  split
  ·exact tail hq
  ·exact tail (by unfold callMarked; exact Calls.wpAny_keep hq)
set_option tactic.hygienic true in
theorem attrBase_ok {o : Expr} {n : Str} {w : Sem Value} (h : attrBaseOk o = true) : attributeBase o n env w = w:=by
 induction o using PySem.Expr.casesOn
 case Call f as ks p =>
  induction f using PySem.Expr.casesOn
  case Name y q =>
   induction as using List.casesOn
   ·induction ks using List.casesOn
    ·exact no_ft h
    ·rfl
   ·rfl
  all_goals rfl
 all_goals rfl
theorem bool_ok (O : VOk G l V) (R : Room A l) (hc : abs c = ρ) {pos : Pos} {op : BoolOp} {es : List Expr} {d : D} {φ : Fz} {s : Shared} (h : boolD V sc ρ op es = some d) (S : St G hb sc env c φ s) :
  wpAny (model G.prog G.w) A (eval (.BoolOp op es pos) env) (EP φ s d) E s:=by
 induction es generalizing φ s with
 | nil=>exact no_none h
 | cons x rest ih =>
  induction rest using List.casesOn with
  | nil=>exact BoolOp_one (O.then h R S hc fun v φ₁ s₁ x _a r=>⟨φ₁,x,r⟩)
  | cons y rest =>
   refine o1_e h fun v hx h=>?_
   refine o1_e h fun b ht h=>?_
   have go : boolD V sc ρ op (y :: rest) = some d→∀ {φ₁ s₁},Step φ s φ₁ s₁→St G hb sc env c φ₁ s₁→wpAny (model G.prog G.w) A (eval (.BoolOp op (y :: rest) pos) env) (EP φ s d) E s₁:=fun h φ₁ s₁ x S₁=>wpAny_mono (ih h S₁) (fun _a _a p=>EP.after x p) fun _a _a e=>e
   induction op using PySem.BoolOp.casesOn with
   | And =>
    refine BoolOp_and (O.then hx R S hc fun v φ₁ s₁ x S₁ r=>truth_ok r ht ?_)
    induction b using Bool.casesOn with
    | false=>rw [if_neg Bool.false_ne_true,some_inv h]; exact ⟨φ₁,x,r⟩
    | true=>rw [if_pos rfl]; exact go h x S₁
   | Or =>
    refine BoolOp_or (O.then hx R S hc fun v φ₁ s₁ x S₁ r=>truth_ok r ht ?_)
    induction b using Bool.casesOn with
    | true=>rw [if_pos rfl,some_inv h]; exact ⟨φ₁,x,r⟩
    | false=>rw [if_neg Bool.false_ne_true]; exact go h x S₁
theorem part_inv {e : Expr} {k : Option Int} (h : partD V sc ρ (some e) = some k) : ∃ i,V.e sc ρ e = some (.int i)∧k = some i:=by
 refine o1_e h fun d h1 h=>?_
 refine o1_e h fun i h2 h=>?_
 exact ⟨i,by rw [h1,intD_inv h2],some_inv h⟩
theorem part_ok (O : VOk G l V) (R : Room A l) (hc : abs c = ρ) {e : Option Expr} {k : Option Int} (h : partD V sc ρ e = some k) (S : St G hb sc env c φ s) :
  wpAny (model G.prog G.w) A (evalPart e env) (fun v s'=>IsPart v k∧∃ φ',Step φ s φ' s') E s:=by
 induction e using Option.casesOn with
 | none=>refine some_e h ?_; exact wpAny_pure ⟨.none,φ,.refl S.g.fin⟩
 | some e =>
  refine e1a2 (part_inv h) fun i hi rr2=>?_
  subst rr2
  rw [evalPart_some]
  refine O.then hi R S hc fun v φ₁ s₁ x S₁ r=>?_
  cases r
  exact ⟨.int _ _,φ₁,x⟩
end
noncomputable def forgetP (p : CE→Bool) (c : List CE) : List CE:=c.map fun e=>if p e then { e with cv:=.un } else e
theorem forgetP_names (p : CE→Bool) (c : List CE) : (forgetP p c).map (·.x) = c.map (·.x):=by
 simp only [forgetP,List.map_map]
 apply List.map_congr_left
 intro e _
 simp only [Function.comp]; split <;> rfl
theorem forgetP_sub (p : CE→Bool) : ∀ c : List CE,((forgetP p c).flatMap CE.priv).Sublist (c.flatMap CE.priv)
 | []=>.slnil
 | e :: c=>by
  show ((if p e then ({ e with cv:=.un } : CE) else e).priv ++ (forgetP p c).flatMap CE.priv).Sublist (e.priv ++ c.flatMap CE.priv)
  refine List.Sublist.append ?_ (forgetP_sub p c)
  split
  ·show (e.loc.priv ++ []).Sublist (e.loc.priv ++ e.cv.priv)
   exact List.Sublist.append (List.Sublist.refl _) (List.nil_sublist _)
  ·exact List.Sublist.refl _
theorem St.forgetP {G : Gd} {hb : Heap} {sc : Scope} {env : Env} {c : List CE} {φ : Fz} {s : Shared} (S : St G hb sc env c φ s) (p : CE→Bool) : St G hb sc env (forgetP p c) φ s:=by
 refine e1a2 (S.vars) fun m hn hv=>?_
 have pnd:=S.pnd
 rw [privs,List.nodup_cons] at pnd
 have sub:=forgetP_sub p c
 have psub : ∀ a∈privs env (Mine.forgetP p c),a∈privs env c:=fun a ha=>by
  rcases List.mem_cons.mp ha with rfl | ha
  ·exact List.mem_cons_self
  ·exact List.mem_cons_of_mem _ (sub.subset ha)
 have mem : ∀ e∈Mine.forgetP p c,∃ e'∈c,e = { e' with cv:=.un }∨e = e':=fun e he=>by
  refine e1a2 (List.mem_map.mp he) fun e' m' q=>?_
  refine ⟨e',m',?_⟩
  split at q
  ·exact .inl q.symm
  ·exact .inr q.symm
 refine ⟨S.g,S.base,S.kind,S.glo,S.bui,S.gk,fun e he=>?_,by rw [forgetP_names]; exact S.nd,?_,fun a ha=>S.pfz a (psub a ha),fun a ha=>S.pbs a (psub a ha),m,hn,fun e he=>?_⟩
 ·obtain ⟨e',m',rfl | rfl⟩:=mem e he
  ·exact S.lk e' m'
  ·exact S.lk e m'
 ·rw [privs,List.nodup_cons]
  exact ⟨fun q=>pnd.1 (sub.subset q),pnd.2.sublist sub⟩
 ·obtain ⟨e',m',rfl | rfl⟩:=mem e he
  ·refine ⟨?_,trivial⟩
   have h:=(hv e' m').1
   obtain ⟨n,loc,cv⟩:=e'
   induction loc using Mine.Loc.casesOn with
   | loc=>exact ⟨h.1,fun v z=>(no_none z)⟩
   | own ca=>obtain ⟨h1,h2,ov,h3,_⟩:=h; exact ⟨h1,h2,ov,h3,fun v z=>(no_none z)⟩
   | fre ca=>obtain ⟨h1,h2,ov,h3,_⟩:=h; exact ⟨h1,h2,ov,h3,fun v z=>(no_none z)⟩
  ·exact hv e m'
noncomputable def isOwn : CE→Bool:=fun e=>match e.loc with | .fre _=>false | _=>true
theorem forgetP_set {p : CE→Bool} (hp : ∀ e cv,p { e with cv:=cv } = p e) {c : List CE} {x : Str} {cv : CV} (h : ∀ e∈c,e.x = x→p e = true) : forgetP p (setC c x cv) = forgetP p c:=by
 simp only [forgetP,setC,List.map_map]
 apply List.map_congr_left
 intro e he
 simp only [Function.comp]
 by_cases k : e.x = x
 ·rw [if_pos k,hp,h e he k]
  simp
 ·rw [if_neg k]
theorem hasR_mem {c : List CE} {x : Str} (h : hasR (abs c) x = true) : ∃ e∈c,e.x = x:=by
 unfold hasR at h
 refine e1a1 (Option.isSome_iff_exists.mp h) fun lv q=>?_
 refine e1a3 (abs_lookup q) fun e m r _a=>?_
 exact ⟨e,m,r⟩
theorem storable_ne {sc : Scope} {x : Str} (h : storable sc x = true) : sc.names.lookup x≠some .free:=by
 unfold storable at h
 intro q
 rw [q] at h; exact no_ft h
theorem storable_own {G : Gd} {hb : Heap} {sc : Scope} {env : Env} {c : List CE} {φ : Fz} {s : Shared} (S : St G hb sc env c φ s) {x : Str} (h : storable sc x = true) : ∀ e∈c,e.x = x→isOwn e = true:=by
 intro e he k
 have:=S.lk e he
 rw [k] at this
 unfold storable at h
 unfold isOwn
 generalize q : e.loc = r_; induction r_ using Mine.Loc.casesOn with
 | fre ca =>
  rw [q] at this
  generalize sc.names.lookup x = o at h this
  induction o using Option.casesOn with
  | none=>exact no_ft h
  | some kk=>induction kk using PySem.NameKind.casesOn <;> first | (exact no_ft h; done) | exact this.elim
 | loc=>rfl
 | own ca=>rfl
structure Moved (G : Gd) (hb : Heap) (sc : Scope) (env : Env) (c : List CE) (φ : Fz) (s : Shared) (c' : List CE) (s' : Shared) : Prop where
 st : St G hb sc env c' φ s'
 eq : ∃ h' tk,s' = { s with heap:=h',toks:=tk }
 keep : ∀ b o,b ∉ privs env c→s.heap.get? b = some o→s'.heap.get? b = some o
 priv : ∀ a∈privs env c',a∈privs env c
 own : forgetP isOwn c' = forgetP isOwn c
theorem Moved.trans {G : Gd} {hb : Heap} {sc : Scope} {env : Env} {c c₁ c₂ : List CE} {φ : Fz} {s s₁ s₂ : Shared} (x : Moved G hb sc env c φ s c₁ s₁) (y : Moved G hb sc env c₁ φ s₁ c₂ s₂) : Moved G hb sc env c φ s c₂ s₂:=by
 refine e2a1 (x.eq) fun h1 t1 e1=>?_
 refine e2a1 (y.eq) fun h2 t2 e2=>?_
 exact ⟨y.st,⟨h2,t2,by rw [e2,e1]⟩,fun b o n e=>y.keep b o (fun q=>n (x.priv b q)) (x.keep b o n e),fun a ha=>x.priv a (y.priv a ha),y.own.trans x.own⟩
section
variable {G : Gd} {l : Nat} {V : EvF} {P : Pg} {sc : Scope} {ρ : Rho} {hb : Heap} {env : Env} {c : List CE} {φ : Fz} {s : Shared} {A : Around} {E : Value→Shared→Prop}
set_option tactic.hygienic true in
theorem bindN_ok {M : Model} {x : Str} {v : Value} {d : D} {ρ' : Rho} (S : St G hb sc env c φ s) (h : bindN sc (abs c) x d = some ρ') (r : Rep φ v d) :
  wpAny M A (storeName env x v) (fun _a s'=>∃ c',abs c' = ρ'∧Moved G hb sc env c φ s c' s') E s:=by
 unfold bindN at h
 split at h
 ·rename_i q
  have qq:=Option.some.inj (h); subst qq
  refine e0a2 (Bool.and_eq_true_iff.mp q) fun q1 q2=>?_
  refine e1a2 (hasR_mem q2) fun e he rr2=>?_
  subst rr2
  refine S.store he (storable_ne q1) (cv:=.fz v d) rfl (Fit.fz r) fun h' tk S' hs=>?_
  refine ⟨_,abs_set c e.x (.fz v d),S',⟨h',tk,rfl⟩,fun b o n k=>?_,fun a ha=>?_,forgetP_set (fun e cv=>rfl) (storable_own S q1)⟩
  ·refine e1a2 (hs) fun p hp hsb=>?_
   exact (hsb.2 b fun z=>n (z ▸ hp)).trans k
  ·rcases List.mem_cons.mp ha with rfl | ha
   ·exact List.mem_cons_self
   ·rcases mem_setPriv ha with z | z
    ·cases z
    ·exact List.mem_cons_of_mem _ z
 ·exact no_none h
theorem bindNs_inv {t : Expr} {ts : List Expr} {d : D} {ds : List D} {ρ' : Rho} (h : bindNs sc ρ (t :: ts) (d :: ds) = some ρ') : ∃ x p ρ₁,t = .Name x p∧bindN sc ρ x d = some ρ₁∧bindNs sc ρ₁ ts ds = some ρ':=by
 refine o1_e h fun ρ₁ h1 h2=>?_
 refine o1_e h1 fun x hx h3=>?_
 refine e1a1 (nameOf_inv hx) fun p e=>?_
 exact ⟨x,p,ρ₁,e,h3,h2⟩
theorem bindNs_shape {ts : List Expr} {ds : List D} {ρ' : Rho} (h : bindNs sc ρ ts ds = some ρ') : (assignEach ts env).length = ds.length∧(assignEach ts env).findIdx? (·.1) = none:=by
 induction ts generalizing ρ ds with
 | nil=>induction ds using List.casesOn with
  | nil=>exact ⟨rfl,rfl⟩
  | cons d ds=>exact no_none h
 | cons t ts ih=>induction ds using List.casesOn with
  | nil=>exact no_none h
  | cons d ds =>
   refine e3a3 (bindNs_inv h) fun x p ρ₁ rr3 h1 h2=>?_
   subst rr3
   refine e0a2 (ih h2) fun g1 g2=>?_
   have e : assignEach (.Name x p :: ts) env = (false,assign (.Name x p) env) :: assignEach ts env:=rfl
   exact ⟨congrArg Nat.succ g1,by rw [e,List.findIdx?_cons,g2]; rfl⟩
theorem bindNs_ok {M : Model} {ts : List Expr} {vs : List Value} {ds : List D} {c : List CE} {s : Shared} {ρ' : Rho} (S : St G hb sc env c φ s) (h : bindNs sc (abs c) ts ds = some ρ') (r : RepL φ vs ds) :
  wpAny M A (assignInOrder ((assignEach ts env).map (·.2)) vs) (fun _a s'=>∃ c',abs c' = ρ'∧Moved G hb sc env c φ s c' s') E s:=by
 induction ts generalizing vs ds c s with
 | nil=>induction ds using List.casesOn with
  | nil=>induction vs using List.casesOn with
   | nil=>exact wpAny_pure ⟨c,some_inv h ▸ rfl,S,⟨s.heap,s.toks,rfl⟩,fun _a _a _a e=>e,fun _a e=>e,rfl⟩
   | cons v vs=>nomatch r
  | cons d ds=>exact no_none h
 | cons t ts ih=>induction ds using List.casesOn with
  | nil=>exact no_none h
  | cons d ds =>
   refine e3a3 (bindNs_inv h) fun x p ρ₁ rr3 h1 h2=>?_
   subst rr3
   induction vs using List.casesOn with
   | nil=>nomatch r
   | cons v vs =>
    have r1 : Rep φ v d∧RepL φ vs ds:=by cases r with | cons r₁ rs=>exact ⟨r₁,rs⟩
    show wpAny M A (do holding vs (assign (.Name x p) env v); assignInOrder ((assignEach ts env).map (·.2)) vs) _ E s
    refine wpAny_bind (wpAny_holding (wpAny_assign_Name (wpAny_mono (bindN_ok S h1 r1.1) (fun _a s₁ q=>q.elim fun c₁ q=>?_) fun _a _a e=>e)))
    exact wpAny_mono (ih q.2.st (q.1.symm ▸ h2) r1.2) (fun _a s₂ z=>z.elim fun c₂ z=>⟨c₂,z.1,q.2.trans z.2⟩) fun _a _a e=>e
theorem Step.moved {c : List CE} {s' : Shared} (S : St G hb sc env c φ s) (x : Step φ s φ s') : Moved G hb sc env c φ s c s':=⟨S.step x,x.eq,fun b o _a e=>x.ext b o e,fun _a h=>h,rfl⟩
set_option tactic.hygienic true in
theorem bindT_ok {target : Expr} {v : Value} {d : D} {ρ' : Rho} (hh : A.handled = none) (S : St G hb sc env c φ s) (h : bindT sc (abs c) target d = some ρ') (r : Rep φ v d) :
  wpAny (model G.prog G.w) A (assign target env v) (fun _a s'=>∃ c',abs c' = ρ'∧Moved G hb sc env c φ s c' s') E s:=by
 induction target using PySem.Expr.casesOn
 case Name x p=>exact wpAny_assign_Name (bindN_ok S h r)
 case Tuple ts k p =>
  refine o1_e h fun ds hd h=>?_
  have qq:=tupD_inv hd; subst qq
  cases r with
  | tup e1 r1 =>
  rename_i a vs n
  have g:=bindNs_shape (env:=env) h
  refine wpAny_assign_Tuple hh (tpO_isTuple (S.g.fin _ _ e1)) (by rw [g.1,List.size_toArray,r1.length]) g.2 fun h' hext=>?_
  have x : Step φ s φ { s with heap:=h' }:=.heap (tk:=s.toks) S.g.fin fun b o e=>hext b o (Nat.ne_of_lt (Heap.lt_size e)) e
  exact wpAny_mono (bindNs_ok (S.step x) h r1) (fun _a s₂ q=>q.elim fun c₂ q=>⟨c₂,q.1,(Step.moved S x).trans q.2⟩) fun _a _a e=>e
 all_goals exact no_none h
end
noncomputable def closL (cells : List (Str×Addr)) : List (Str×NameKind)→List (Str×Addr)→List (Str×Addr)
 | [],acc=>acc
 | (x,k) :: r,acc=>if k == .free then closL cells r ((x,(cells.lookup x).getD 0) :: acc) else closL cells r acc
theorem clos_eq {scope : Scope} {env : Env} (h : ∀ x,(x,NameKind.free)∈scope.names→(env.cells.lookup x).isSome = true) : closureFor scope env = pure (closL env.cells scope.names []):=by
 have gen : ∀ (names : List (Str×NameKind)) (acc : List (Str×Addr)),(∀ x,(x,NameKind.free)∈names→(env.cells.lookup x).isSome = true) →
   (forIn names acc fun (p : Str×NameKind) cs=>(if p.2 == .free then (do let a ← cellOf env p.1; pure (ForInStep.yield ((p.1,a) :: cs))) else pure (ForInStep.yield cs) : Sem (ForInStep (List (Str×Addr))))) = pure (closL env.cells names acc):=by
  intro names
  induction names with
  | nil=>intro acc _; rfl
  | cons p r ih =>
   intro acc hh
   obtain ⟨x,k⟩:=p
   rw [List.forIn_cons]
   by_cases hk : (k == NameKind.free) = true
   ·have hk' : k = .free:=by simpa using hk
    subst hk'
    refine e1a1 (Option.isSome_iff_exists.mp (hh x List.mem_cons_self)) fun a ha=>?_
    simp only [beq_self_eq_true,if_true,closL,ha,Option.getD_some]
    have : cellOf env x = pure a:=by unfold cellOf; rw [ha]
    rw [this]
    exact ih _ fun y hy=>hh y (List.mem_cons_of_mem _ hy)
   ·rw [if_neg hk]
    show (forIn r acc _ : Sem _) = _
    rw [closL,if_neg hk]
    exact ih _ fun y hy=>hh y (List.mem_cons_of_mem _ hy)
 unfold closureFor
 have:=gen scope.names [] h
 show ((forIn scope.names [] fun (p : Str×NameKind) cs=>(if p.2 == .free then (do let a ← cellOf env p.1; pure (ForInStep.yield ((p.1,a) :: cs))) else pure (ForInStep.yield cs) : Sem (ForInStep (List (Str×Addr))))) >>= fun cs=>pure cs) = _
 rw [this]; rfl
theorem closL_lookup {cells : List (Str×Addr)} : ∀ (names : List (Str×NameKind)) (acc : List (Str×Addr)),(∀ x,(x,NameKind.free)∈names→(cells.lookup x).isSome = true)→(names.map (·.1)).Nodup →
  ∀ x,(names.lookup x = some .free→(closL cells names acc).lookup x = cells.lookup x)∧(names.lookup x≠some .free→(closL cells names acc).lookup x = acc.lookup x)
 | [],acc,_,_,x=>⟨fun h=>(no_none h),fun _a=>rfl⟩
 | (y,k) :: r,acc,hc,nd,x=>by
  rw [List.map_cons,List.nodup_cons] at nd
  have ih:=fun acc=>closL_lookup r acc (fun z hz=>hc z (List.mem_cons_of_mem _ hz)) nd.2 x
  have hno : x = y→r.lookup x≠some .free:=fun e q=>nd.1 (List.mem_map.mpr ⟨(x,.free),mem_of_lookup q,e⟩)
  rw [closL,List.lookup_cons]
  by_cases hxy : x = y
  ·subst hxy
   simp only [beq_self_eq_true]
   by_cases hk : (k == NameKind.free) = true
   ·have hk' : k = .free:=by simpa using hk
    subst hk'
    rw [if_pos hk,(ih _).2 (hno rfl),List.lookup_cons,beq_self_eq_true]
    refine e1a1 (Option.isSome_iff_exists.mp (hc x List.mem_cons_self)) fun a ha=>?_
    exact ⟨fun _a=>by rw [ha]; rfl,fun h=>absurd rfl h⟩
   ·rw [if_neg hk,(ih _).2 (hno rfl)]
    exact ⟨fun h=>absurd (by have qq:=Option.some.inj (h); subst qq; rfl) hk,fun _a=>rfl⟩
  ·have hb : (x == y) = false:=by simpa using hxy
   rw [hb]
   by_cases hk : (k == NameKind.free) = true
   ·rw [if_pos hk]
    exact ⟨(ih _).1,fun h=>by rw [(ih _).2 h,List.lookup_cons,hb]⟩
   ·rw [if_neg hk]; exact ih acc
set_option tactic.hygienic true in
theorem cellsFrom_other {x : Str} : ∀ (names : List (Str×NameKind)) (n : Nat) (acc : List (Str×Addr)),(∀ k,(x,k)∈names→k≠.cell)→(cellsFrom n names acc).lookup x = acc.lookup x
 | [],_,_,_=>rfl
 | (y,k) :: r,n,acc,h=>by
  unfold cellsFrom
  split
  ·rename_i hk
   have hk' : k = .cell:=by simpa using hk
   have hxy : x≠y:=fun e=>h k (by rw [e]; exact List.mem_cons_self) hk'
   rw [cellsFrom_other r _ _ fun k hk=>h k (List.mem_cons_of_mem _ hk),List.lookup_cons,show (x == y) = false by simpa using hxy]
  ·exact cellsFrom_other r _ _ fun k hk=>h k (List.mem_cons_of_mem _ hk)
noncomputable def CV.fzOnly : CV→CV
 | .fz v d=>.fz v d
 | _=>.un
noncomputable def Loc.cell : Loc→Addr
 | .own ca=>ca
 | .fre ca=>ca
 | .loc=>0
noncomputable def compCE (c : List CE) : Nat→List (Str×NameKind)→List CE
 | _,[]=>[]
 | n,(x,k) :: r=>match k with
  | .local=>⟨x,.loc,.un⟩ :: compCE c n r
  | .cell=>⟨x,.own n,.un⟩ :: compCE c (n + 1) r
  | .free=>(match c.find? (fun e=>e.x == x) with
   | some e=>⟨x,.fre e.loc.cell,e.cv.fzOnly⟩
   | none=>⟨x,.fre 0,.un⟩) :: compCE c n r
  | _=>compCE c n r
theorem find_lookup : ∀ (c : List CE) (x : Str),(abs c).lookup x = (c.find? (fun e=>e.x == x)).map (·.cv.ab)
 | [],_=>rfl
 | e :: c,x=>by
  rw [abs,List.map_cons,List.lookup_cons,List.find?_cons]
  by_cases h : x = e.x
  ·subst h; simp
  ·have h1 : (x == e.x) = false:=by simpa using h
   have h2 : (e.x == x) = false:=by simpa using fun q=>h q.symm
   rw [h1,h2]; exact find_lookup c x
theorem ab_fzOnly (cv : CV) : cv.fzOnly.ab = cv.ab.fzOnly:=by induction cv using Mine.CV.casesOn <;> rfl
theorem compCE_abs {sc : Scope} {c : List CE} {names : List (Str×NameKind)} {n : Nat} {ρ₀ : Rho} (h : compRho sc (abs c) names = some ρ₀) : abs (compCE c n names) = ρ₀:=by
 induction names generalizing n ρ₀ with
 | nil=>exact (some_inv h).symm
 | cons p r ih =>
  obtain ⟨x,k⟩:=p
  induction k using PySem.NameKind.casesOn with
  | «local» =>
   refine o1_e h fun ρ₁ h1 h2=>?_
   refine some_e h2 ?_; rw [← ih (n:=n) h1]; rfl
  | cell =>
   refine o1_e h fun ρ₁ h1 h2=>?_
   refine some_e h2 ?_; rw [← ih (n:=n + 1) h1]; rfl
  | globalImplicit=>exact ih (n:=n) h
  | globalExplicit=>exact no_none h
  | free =>
   refine o2_e (oif_inv h).2 fun lv ρ₁ h0 h1 h2=>?_
   rw [find_lookup] at h0
   refine e1a2 (Option.map_eq_some_iff.mp h0) fun e q h3=>?_
   refine some_e h2 ?_; rw [← ih (n:=n) h1,← h3,← ab_fzOnly]
   have z : compCE c n ((x,NameKind.free) :: r) = (match c.find? (fun e=>e.x == x) with | some e=>⟨x,.fre e.loc.cell,e.cv.fzOnly⟩ | none=>⟨x,.fre 0,.un⟩) :: compCE c n r:=rfl
   rw [z,q]; rfl
theorem relabel_names {env : Env} : ∀ {names : List (Str×NameKind)} {x : Str} {k : NameKind},names.lookup x = some k →
  (names.map fun (n,k)=>if (k == NameKind.free && env.scope.kind == .function && env.kindOf n == some .cell) then (n,NameKind.cell) else (n,k)).lookup x = some k ∨
   (k = .free∧(names.map fun (n,k)=>if (k == NameKind.free && env.scope.kind == .function && env.kindOf n == some .cell) then (n,NameKind.cell) else (n,k)).lookup x = some .cell)
 | [],_,_,h=>by cases h
 | (n,k') :: r,x,k,h=>by
  have ih:=@relabel_names env r x k
  rw [List.map_cons]
  dsimp only
  by_cases hc : (k' == NameKind.free && env.scope.kind == .function && env.kindOf n == some .cell) = true
  ·rw [if_pos hc]
   rw [List.lookup_cons] at h ⊢
   cases hx : x == n with
   | true =>
    rw [hx] at h
    cases h
    refine .inr ⟨?_,rfl⟩
    have:=(Bool.and_eq_true_iff.mp (Bool.and_eq_true_iff.mp hc).1).1
    simpa using this
   | false=>rw [hx] at h; exact ih h
  ·rw [if_neg hc]
   rw [List.lookup_cons] at h ⊢
   cases hx : x == n with
   | true=>rw [hx] at h; exact .inl h
   | false=>rw [hx] at h; exact ih h
theorem lookup_of_mem {α : Type} : ∀ {l : List (Str×α)} {x : Str} {k : α},(l.map (·.1)).Nodup→(x,k)∈l→l.lookup x = some k
 | (y,j) :: r,x,k,nd,h=>by
  rw [List.map_cons,List.nodup_cons] at nd
  rw [List.lookup_cons]
  rcases List.mem_cons.mp h with z | z
  ·cases z; simp
  ·have : (x == y) = false:=by
    have : x≠y:=fun e=>nd.1 (e ▸ List.mem_map.mpr ⟨(x,k),z,rfl⟩)
    simpa using this
   rw [this]; exact lookup_of_mem nd.2 z
theorem nodup_of_B : ∀ {l : List Str},nodupB l = true→l.Nodup
 | [],_=>List.nodup_nil
 | x :: r,h=>by
  unfold nodupB at h
  refine e0a2 (Bool.and_eq_true_iff.mp h) fun h1 h2=>?_
  rw [List.nodup_cons]
  exact ⟨by simpa using h1,nodup_of_B h2⟩
noncomputable def CEIs (c : List CE) (n : Nat) (names : List (Str×NameKind)) (e : CE) : Prop :=
  ∃ k,(e.x,k)∈names∧((k = .local∧e.loc = .loc∧e.cv = .un)∨(k = .cell∧(∃ ca,e.loc = .own ca∧n≤ca)∧e.cv = .un) ∨
   (k = .free∧((∃ e',e'∈c∧e'.x = e.x∧e.loc = .fre e'.loc.cell∧e.cv = e'.cv.fzOnly)∨(c.find? (fun e'=>e'.x == e.x) = none∧e.cv = .un∧∃ ca,e.loc = .fre ca))))
theorem compCE_mem {c : List CE} : ∀ {names : List (Str×NameKind)} {n : Nat} {e : CE},e∈compCE c n names→CEIs c n names e
 | [],_,_,h=>(no_mem h)
 | (x,k) :: r,n,e,h=>by
  unfold compCE at h
  have up : ∀ {m : Nat},n≤m→e∈compCE c m r→CEIs c n ((x,k) :: r) e:=fun {m} hm hmem=>by
   refine e1a2 (compCE_mem hmem) fun k' m' q=>?_
   refine ⟨k',List.mem_cons_of_mem _ m',?_⟩
   rcases q with q | ⟨q1,⟨ca,q2,q3⟩,q4⟩ | q
   ·exact .inl q
   ·exact .inr (.inl ⟨q1,⟨ca,q2,Nat.le_trans hm q3⟩,q4⟩)
   ·exact .inr (.inr q)
  induction k using PySem.NameKind.casesOn with
  | «local» =>
   rcases List.mem_cons.mp h with z | z
   ·subst z; exact ⟨.local,List.mem_cons_self,.inl ⟨rfl,rfl,rfl⟩⟩
   ·exact up (Nat.le_refl _) z
  | cell =>
   rcases List.mem_cons.mp h with z | z
   ·subst z; exact ⟨.cell,List.mem_cons_self,.inr (.inl ⟨rfl,⟨n,rfl,Nat.le_refl _⟩,rfl⟩)⟩
   ·exact up (Nat.le_succ _) z
  | globalImplicit=>exact up (Nat.le_refl _) h
  | globalExplicit=>exact up (Nat.le_refl _) h
  | free =>
   rcases List.mem_cons.mp h with z | z
   ·generalize q : c.find? (fun e=>e.x == x) = r_; induction r_ using Option.casesOn with
    | none =>
     rw [q] at z; dsimp only at z; subst z
     exact ⟨.free,List.mem_cons_self,.inr (.inr ⟨rfl,.inr ⟨q,rfl,0,rfl⟩⟩)⟩
    | some e' =>
     rw [q] at z; dsimp only at z; subst z
     refine ⟨.free,List.mem_cons_self,.inr (.inr ⟨rfl,.inl ⟨e',List.mem_of_find?_eq_some q,?_,rfl,rfl⟩⟩)⟩
     have:=List.find?_some q; simpa using this
   ·exact up (Nat.le_refl _) z
theorem compCE_names {c : List CE} : ∀ (names : List (Str×NameKind)) (n : Nat),((compCE c n names).map (·.x)).Sublist (names.map (·.1))
 | [],_=>.slnil
 | (x,k) :: r,n=>by
  unfold compCE
  induction k using PySem.NameKind.casesOn with
  | «local»=>exact (compCE_names r n).cons_cons x
  | cell=>exact (compCE_names r (n + 1)).cons_cons x
  | globalImplicit=>exact (compCE_names r n).cons x
  | globalExplicit=>exact (compCE_names r n).cons x
  | free =>
   dsimp only
   generalize q : c.find? (fun e=>e.x == x) = r_; induction r_ using Option.casesOn <;> exact (compCE_names r n).cons_cons x
theorem fzOnly_priv (cv : CV) : cv.fzOnly.priv = []:=by induction cv using Mine.CV.casesOn <;> rfl
theorem compCE_privs {c : List CE} : ∀ (names : List (Str×NameKind)) (n : Nat),(∀ a∈(compCE c n names).flatMap CE.priv,n≤a)∧((compCE c n names).flatMap CE.priv).Nodup
 | [],_=>⟨fun _a h=>(no_mem h),List.nodup_nil⟩
 | (x,k) :: r,n=>by
  unfold compCE
  induction k using PySem.NameKind.casesOn with
  | «local»=>exact compCE_privs r n
  | cell =>
   refine e0a2 (compCE_privs (c:=c) r (n + 1)) fun h1 h2=>?_
   refine ⟨fun a ha=>?_,?_⟩
   ·rcases List.mem_cons.mp (show a∈n :: (compCE c (n + 1) r).flatMap CE.priv from ha) with z | z
    ·exact Nat.le_of_eq z.symm
    ·exact Nat.le_of_succ_le (h1 a z)
   ·show (n :: (compCE c (n + 1) r).flatMap CE.priv).Nodup
    rw [List.nodup_cons]
    exact ⟨fun z=>absurd (h1 n z) (Nat.not_succ_le_self n),h2⟩
  | globalImplicit=>exact compCE_privs r n
  | globalExplicit=>exact compCE_privs r n
  | free =>
   dsimp only
   have ih:=compCE_privs (c:=c) r n
   generalize q : c.find? (fun e=>e.x == x) = r_; induction r_ using Option.casesOn with
   | none=>exact ih
   | some e =>
    have z : ((⟨x,.fre e.loc.cell,e.cv.fzOnly⟩ : CE) :: compCE c n r).flatMap CE.priv = (compCE c n r).flatMap CE.priv:=by
     show ([] ++ e.cv.fzOnly.priv) ++ _ = _
     rw [fzOnly_priv]; rfl
    dsimp only
    rw [z]; exact ih
theorem compCE_own {c : List CE} : ∀ (names : List (Str×NameKind)) (h : Heap) (acc : List (Str×Addr)),(names.map (·.1)).Nodup→∀ e∈compCE c h.objs.size names,∀ ca,e.loc = .own ca →
  (cellsFrom h.objs.size names acc).lookup e.x = some ca∧(pushCells h names).IsCell ca none
 | [],_,_,_,_,he,_,_=>(no_mem he)
 | (x,k) :: r,h,acc,nd,e,he,ca,hl=>by
  rw [List.map_cons,List.nodup_cons] at nd
  unfold compCE at he
  unfold cellsFrom pushCells
  induction k using PySem.NameKind.casesOn with
  | «local» =>
   rcases List.mem_cons.mp he with z | z
   ·subst z; cases hl
   ·exact compCE_own r h acc nd.2 e z ca hl
  | cell =>
   have hs : (h.push { cls:=.type "cell",data:=.cell none }).objs.size = h.objs.size + 1:=Heap.size_push ..
   simp only [beq_self_eq_true,if_true]
   rcases List.mem_cons.mp he with z | z
   ·subst z
    cases hl
    refine ⟨?_,?_⟩
    ·rw [cellsFrom_other r _ _ fun k hk e=>nd.1 (List.mem_map.mpr ⟨_,hk,rfl⟩),List.lookup_cons]; simp
    ·exact ⟨_,pushCells_keeps r _ _ _ (Heap.get?_push_size _ rfl),rfl⟩
   ·rw [← hs] at z ⊢
    exact compCE_own r _ _ nd.2 e z ca hl
  | globalImplicit=>exact compCE_own r h acc nd.2 e he ca hl
  | globalExplicit=>exact compCE_own r h acc nd.2 e he ca hl
  | free =>
   rcases List.mem_cons.mp he with z | z
   ·exfalso
    generalize q : c.find? (fun e=>e.x == x) = r_; induction r_ using Option.casesOn <;> rw [q] at z <;> dsimp only at z <;> subst z <;> cases hl
   ·exact compCE_own r h acc nd.2 e z ca hl
noncomputable def compEnvX (scope : Scope) (env : Env) (C : Addr) : Env :=
 { scope:=relabel scope env,locals:=C,globals:=env.globals,cells:=cellsFrom (C + 1) scope.names (closL env.cells scope.names []),qual:=env.qual,func:=none,code:=env.code,frame:=env.frame,builtins:=env.builtins }
theorem newCompEnv {M : Model} {A : Around} {E : Value→Shared→Prop} {s : Shared} {scope : Scope} {globals : Addr} {cl : List (Str×Addr)} {qual : Str} {outer : Env} {Q : Env→Shared→Prop}
  (h : Q { scope:=scope,locals:=s.heap.objs.size,globals:=globals,cells:=cellsFrom (s.heap.objs.size + 1) scope.names cl,qual:=qual,func:=none,code:=outer.code,frame:=outer.frame,builtins:=outer.builtins }
   { s with heap:=pushCells (s.heap.push { cls:=.type "dict",data:=.dict #[] }) scope.names }) :
  wpAny M A (newFunctionEnv scope globals cl [] qual none .none (some outer)) Q E s:=by
 simp only [newFunctionEnv,Option.isSome_some,if_true]
 refine wpAny_bind (wpAny_alloc ?_)
 refine wpAny_bind (wpAny_layCells _ (fun name kind cells=>rfl) scope.names cl _ _ ?_)
 rw [List.forIn_nil]
 refine wpAny_bind (wpAny_pure (wpAny_pure ?_))
 dsimp only
 rw [show (s.heap.push { cls:=.type "dict",data:=.dict #[] }).objs.size = s.heap.objs.size + 1 from Heap.size_push ..]
 exact h
theorem none_ge {h : Heap} {a : Addr} (e : h.objs.size≤a) : h.get? a = none:=by
 generalize q : h.get? a = r_; induction r_ using Option.casesOn with
 | none=>rfl
 | some o=>exact absurd (Heap.lt_size q) (Nat.not_lt.mpr e)
section
variable {G : Gd} {l : Nat} {V : EvF} {P : Pg} {sc : Scope} {ρ : Rho} {hb : Heap} {env : Env} {c : List CE} {φ : Fz} {s : Shared} {A : Around} {E : Value→Shared→Prop}
noncomputable def FreeAt (env : Env) (c : List CE) (s : Shared) (x : Str) : Prop:=∃ e∈c,e.x = x∧env.cells.lookup x = some e.loc.cell∧∃ ov,s.heap.IsCell e.loc.cell ov∧∀ v,e.cv.val? = some v→ov = some v
theorem free_cells (S : St G hb sc env c φ s) {names : List (Str×NameKind)} {ρ₀ : Rho} (h : compRho sc (abs c) names = some ρ₀) {x : Str} (hm : (x,NameKind.free)∈names) : FreeAt env c s x:=by
 induction names generalizing ρ₀ with
 | nil=>nomatch hm
 | cons p r ih =>
  obtain ⟨y,k⟩:=p
  induction k using PySem.NameKind.casesOn with
  | «local» =>
   refine o1_e h fun ρ₁ h1 _a=>?_
   exact (List.mem_cons.mp hm).elim (fun z=>nomatch z) (ih h1)
  | cell =>
   refine o1_e h fun ρ₁ h1 _a=>?_
   exact (List.mem_cons.mp hm).elim (fun z=>nomatch z) (ih h1)
  | globalImplicit=>exact (List.mem_cons.mp hm).elim (fun z=>nomatch z) (ih h)
  | globalExplicit=>exact no_none h
  | free =>
   refine o2_e (oif_inv h).2 fun lv ρ₁ hl h1 _a=>?_
   refine (List.mem_cons.mp hm).elim (fun z=>?_) (ih h1)
   have z : x = y:=congrArg Prod.fst z
   subst z
   have hk:=(oif_inv h).1
   refine e1a3 (abs_lookup hl) fun e he rr2 _a=>?_
   refine e1a2 (S.vars) fun m hn hv=>?_
   have hs:=(hv e he).1
   have hlk:=S.lk e he
   rw [rr2] at hlk
   unfold okFr at hk
   rw [← rr2]
   refine ⟨e,he,rfl,?_⟩
   obtain ⟨n,loc,cv⟩:=e
   induction loc using Mine.Loc.casesOn with
   | loc =>
    exfalso
    generalize sc.names.lookup x = o at hk hlk
    induction o using Option.casesOn with
    | none=>exact no_ft hk
    | some k=>induction k using PySem.NameKind.casesOn <;> first | (exact no_ft hk; done) | exact hlk
   | own ca=>obtain ⟨_,h2,ov,h3,h4⟩:=hs; exact ⟨h2,ov,h3,h4⟩
   | fre ca=>obtain ⟨_,h2,ov,h3,h4⟩:=hs; exact ⟨h2,ov,h3.keeps S.base,h4⟩
theorem comp_st {scope : Scope} {ρ₀ : Rho} {s₃ : Shared} (S : St G hb sc env c φ s) (x : Step φ s φ s₃) (hk : scope.kind = .function) (nd : (scope.names.map (·.1)).Nodup) (h : compRho sc (abs c) scope.names = some ρ₀) :
  St G s.heap scope (compEnvX scope env s₃.heap.objs.size) (compCE c (s₃.heap.objs.size + 1) scope.names) φ { s₃ with heap:=pushCells (s₃.heap.push { cls:=.type "dict",data:=.dict #[] }) scope.names }:=by
 have hfc:=fun (y : Str) (hy : (y,NameKind.free)∈scope.names)=>free_cells S h hy
 have hsz : (s₃.heap.push { cls:=.type "dict",data:=.dict #[] }).objs.size = s₃.heap.objs.size + 1:=Heap.size_push ..
 have up : ∀ b o,s₃.heap.get? b = some o→(pushCells (s₃.heap.push { cls:=.type "dict",data:=.dict #[] }) scope.names).get? b = some o:=fun b o e=>pushCells_keeps _ _ _ _ (Heap.get?_push_of_some _ e)
 refine e0a2 (compCE_privs (c:=c) scope.names (s₃.heap.objs.size + 1)) fun p1 p2=>?_
 have big : ∀ a∈privs (compEnvX scope env s₃.heap.objs.size) (compCE c (s₃.heap.objs.size + 1) scope.names),s₃.heap.objs.size≤a:=fun a ha=>by
  rcases List.mem_cons.mp ha with z | z
  ·exact Nat.le_of_eq z.symm
  ·have:=p1 a z; lia
 have lookF : ∀ y,(y,NameKind.free)∈scope.names→(env.cells.lookup y).isSome = true:=fun y hy=>by
  obtain ⟨e,_,_,h2,_⟩:=hfc y hy; rw [h2]; rfl
 refine ⟨⟨S.g.gnd,fun a o e=>up a o (x.fin a o e)⟩,fun b o e=>up b o (x.ext b o e),hk,S.glo,S.bui,fun y hy=>?_,fun e he=>?_,?_,?_,fun a ha=>?_,fun a ha=>?_,fun _a=>none,?_,fun e he=>?_⟩
 ·rcases relabel_names (env:=env) hy with z | ⟨z,_⟩
  ·exact z
  ·cases z
 ·obtain ⟨k,hm,q⟩:=compCE_mem he
  rw [lookup_of_mem nd hm]
  rcases q with ⟨rfl,q2,_⟩ | ⟨rfl,⟨ca,q2,_⟩,_⟩ | ⟨rfl,q2⟩
  ·rw [q2]; trivial
  ·rw [q2]; trivial
  ·rcases q2 with ⟨e',_,_,q3,_⟩ | ⟨_,_,ca,q3⟩
   ·rw [q3]; trivial
   ·rw [q3]; trivial
 ·exact nd.sublist (compCE_names _ _)
 ·rw [privs,List.nodup_cons]
  exact ⟨fun z=>by have:=p1 _ z; exact absurd this (Nat.not_succ_le_self _),p2⟩
 ·generalize q : φ a = r_; induction r_ using Option.casesOn with
  | none=>rfl
  | some o=>have:=Heap.lt_size (x.fin a o q); exact absurd this (Nat.not_lt.mpr (big a ha))
 ·exact none_of_ext x.ext (none_ge (big a ha))
 ·exact (Heap.Ns.new s₃.heap _).keeps fun b o e=>pushCells_keeps _ _ _ _ e
 ·obtain ⟨k,hm,q⟩:=compCE_mem he
  have hl:=lookup_of_mem nd hm
  rcases q with ⟨rfl,q2,q3⟩ | ⟨rfl,⟨ca,q2,_⟩,q3⟩ | ⟨rfl,q2⟩
  ·have hkd : (compEnvX scope env s₃.heap.objs.size).kindOf e.x = some .local:=by
    rcases relabel_names (env:=env) hl with z | ⟨z,_⟩
    ·exact z
    ·cases z
   obtain ⟨n,loc,cv⟩:=e
   dsimp only at q2 q3
   subst q2 q3
   exact ⟨⟨hkd,fun v z=>(no_none z)⟩,trivial⟩
  ·have hkd : (compEnvX scope env s₃.heap.objs.size).kindOf e.x = some .cell:=by
    rcases relabel_names (env:=env) hl with z | ⟨z,_⟩
    ·exact z
    ·cases z
   rw [← hsz] at he
   obtain ⟨o1,o2⟩:=compCE_own scope.names (s₃.heap.push { cls:=.type "dict",data:=.dict #[] }) (closL env.cells scope.names []) nd e he ca q2
   rw [hsz] at o1
   obtain ⟨n,loc,cv⟩:=e
   dsimp only at q2 q3
   subst q2 q3
   exact ⟨⟨hkd,o1,none,o2,fun v z=>(no_none z)⟩,trivial⟩
  ·obtain ⟨e₀,he₀,hx₀,hc₀,ov,hov,hval⟩:=hfc e.x hm
   have hkd : (compEnvX scope env s₃.heap.objs.size).kindOf e.x = some .free∨(compEnvX scope env s₃.heap.objs.size).kindOf e.x = some .cell:=by
    rcases relabel_names (env:=env) hl with z | ⟨_,z⟩
    ·exact .inl z
    ·exact .inr z
   have hcl : (compEnvX scope env s₃.heap.objs.size).cells.lookup e.x = some e₀.loc.cell:=by
    show (cellsFrom (s₃.heap.objs.size + 1) scope.names (closL env.cells scope.names [])).lookup e.x = _
    rw [cellsFrom_other _ _ _ (fun k hk q=>by rw [lookup_of_mem nd hk] at hl; have qq:=Option.some.inj (hl); subst qq; cases q),((closL_lookup scope.names [] lookF nd e.x).1 hl)]
    exact hc₀
   rcases q2 with ⟨e',he',hx',q3,q4⟩ | ⟨q5,_,_⟩
   ·have : e' = e₀:=name_inj S.nd he' he₀ (hx'.trans hx₀.symm)
    subst this
    obtain ⟨m,hn,hv⟩:=S.vars
    have hg:=(hv e' he').2
    obtain ⟨n,loc,cv⟩:=e
    dsimp only at q3 q4 hkd hcl
    subst q3 q4
    refine ⟨⟨hkd,hcl,ov,hov,fun v z=>hval v ?_⟩,?_⟩
    ·generalize hcv : e'.cv = r_; induction r_ using Mine.CV.casesOn <;> rw [hcv] at z <;> simp [CV.fzOnly,CV.val?] at z ⊢; exact z
    ·generalize hcv : e'.cv = r_; induction r_ using Mine.CV.casesOn <;> rw [hcv] at hg <;> simp only [CV.fzOnly] <;> first | exact hg | trivial
   ·exfalso
    have:=List.find?_eq_none.mp q5 e₀ he₀
    rw [hx₀] at this; simp at this
end
theorem Good.other {w : World} {φ : Fz} {h h' : Heap} {cv : CV} (g : Good w φ h cv) (ext : ∀ a∈cv.priv,∀ o,h.get? a = some o→h'.get? a = some o) : Good w φ h' cv:=g.mono (fun _a _a e=>e) ext
theorem St.other {G : Gd} {hb : Heap} {sc : Scope} {env : Env} {c : List CE} {φ : Fz} {s : Shared} (S : St G hb sc env c φ s) {h' : Heap} {tk : Nat} (X : Addr→Prop)
  (keep : ∀ b o,¬ X b→s.heap.get? b = some o→h'.get? b = some o) (xf : ∀ b,X b→φ b = none) (xb : ∀ b,X b→hb.get? b = none) (xp : ∀ b,X b→b ∉ privs env c) : St G hb sc env c φ { s with heap:=h',toks:=tk }:=by
 refine e1a2 (S.vars) fun m hn hv=>?_
 have pk : ∀ a∈privs env c,∀ o,s.heap.get? a = some o→h'.get? a = some o:=fun a ha o e=>keep a o (fun q=>xp a q ha) e
 refine ⟨⟨S.g.gnd,fun a o e=>keep a o (fun q=>?_) (S.g.fin a o e)⟩,fun b o e=>keep b o (fun q=>?_) (S.base b o e),S.kind,S.glo,S.bui,S.gk,S.lk,S.nd,S.pnd,S.pfz,S.pbs,m,?_,fun e he=>?_⟩
 ·rw [xf a q] at e; exact no_none e
 ·rw [xb b q] at e; exact no_none e
 ·refine e3a2 (hn) fun o es ep ho r=>?_
  exact ⟨o,es,ep,pk _ List.mem_cons_self _ ho,r⟩
 ·have hp : ∀ a∈e.priv,a∈privs env c:=fun a ha=>List.mem_cons_of_mem _ (List.mem_flatMap.mpr ⟨e,he,ha⟩)
  exact ⟨(hv e he).1.mono fun a ha o q=>pk a (hp a (List.mem_append_left _ ha)) o q,(hv e he).2.other fun a ha o q=>pk a (hp a (List.mem_append_right _ ha)) o q⟩
theorem St.moreFz {G : Gd} {hb : Heap} {sc : Scope} {env : Env} {c : List CE} {φ φ' : Fz} {s : Shared} (S : St G hb sc env c φ s) (up : ∀ a o,φ a = some o→φ' a = some o) (fin : ∀ a o,φ' a = some o→s.heap.get? a = some o)
  (off : ∀ a o,φ' a = some o→a∈privs env c→False) : St G hb sc env c φ' s:=by
 refine e1a2 (S.vars) fun m hn hv=>?_
 refine ⟨⟨fun b o e=>up b o (S.g.gnd b o e),fin⟩,S.base,S.kind,S.glo,S.bui,S.gk,S.lk,S.nd,S.pnd,fun a ha=>?_,S.pbs,m,hn,fun e he=>⟨(hv e he).1,(hv e he).2.mono up fun _a _a _a e=>e⟩⟩
 generalize q : φ' a = r_; induction r_ using Option.casesOn with
 | none=>rfl
 | some o=>exact (off a o q ha).elim
section
variable {prog : Program} {w : World} {A : Around} {E : Value→Shared→Prop} {R : Result→Shared→Prop} {s : Shared}
theorem compLoop_any {elt target iter : Expr} {ifs : List Expr} {scope : Scope} {pos : Pos} {it acc : Value} {env : Env} (I : Nat→Shared→Prop)
  (turn : ∀ n s,I n s→wpAny (model prog w) A (pyNext it) (fun r s₁=>match r with
   | none=>R (.ok .next) s₁
   | some v=>wpAny (model prog w) A (letOwnedTupleGo target it v) (fun _a s₁'=>wpAny (model prog w) A (assign target env v) (fun _a s₂ =>
     wpAny (model prog w) A (forIn ifs true fun c r=>if r = true then do let ok ← isTrue c env (eval c env); pure (ForInStep.yield ok) else pure (ForInStep.yield r)) (fun ok s₃ =>
      if ok = true then wpAny (model prog w) A (eval elt env) (fun x s₄ =>
       wpAny (model prog w) A (call (.builtin "list.append") [acc,x]) (fun _a s₅=>∃ m,m < n∧I m s₅) (notedBy (model prog w) A env fun e s'=>R (.error e) s') s₄) (notedBy (model prog w) A env fun e s'=>R (.error e) s') s₃
      else ∃ m,m < n∧I m s₃) (notedBy (model prog w) A env fun e s'=>R (.error e) s') s₂) (notedBy (model prog w) A env fun e s'=>R (.error e) s') s₁') (notedBy (model prog w) A env fun e s'=>R (.error e) s') s₁) (notedBy (model prog w) A env fun e s'=>R (.error e) s') s)
  (n : Nat) (h : I n s) : codeAny (model prog w) A (.compLoop (.ListComp elt [⟨target,iter,ifs,0⟩] scope pos) 0 it acc env) R s:=by
 refine codeAny_loop rfl I (fun n s hI=>?_) n h
 show wpAny _ A ((compTurn (.ListComp elt [⟨target,iter,ifs,0⟩] scope pos) 0 it acc env).onRaise (fun x=>do noteFrame x env; theTreesLotGoes x)) _ _ s
 refine wpAny_noted ?_
 rw [compTurn_list]
 refine wpAny_bind (wpAny_standAt (wpAny_bind (wpAny_mono (turn n s hI) (fun r s₁ h₁=>?_) fun _a _a h'=>h')))
 induction r using Option.casesOn with
 | none=>exact wpAny_pure h₁
 | some v =>
  refine wpAny_bind (wpAny_mono h₁ (fun _a s₁' h₁'=>?_) fun _a _a h'=>h')
  refine wpAny_bind (wpAny_mono h₁' (fun _a s₂ h₂=>wpAny_bind (wpAny_mono h₂ (fun ok s₃ h₃=>?_) fun _a _a h'=>h')) fun _a _a h'=>h')
  induction ok using Bool.casesOn with
  | false=>exact wpAny_pure ⟨rfl,h₃⟩
  | true =>
   exact wpAny_bind (wpAny_bind (wpAny_mono h₃ (fun x s₄ h₄=>wpAny_bind (wpAny_mono h₄ (fun _a s₅ h₅=>wpAny_pure (wpAny_pure ⟨rfl,h₅⟩)) fun _a _a h'=>h')) fun _a _a h'=>h'))
end
section
variable {G : Gd} {l : Nat} {V : EvF} {P : Pg} {sc : Scope} {ρ : Rho} {hb : Heap} {env : Env} {c : List CE} {φ : Fz} {s : Shared} {A : Around} {E : Value→Shared→Prop}
theorem ifs_ok (O : VOk G l V) {ifs : List Expr} {b : Bool} (h : ifsD V sc ρ ifs = some b) (R : Room A l) (S : St G hb sc env c φ s) (hc : abs c = ρ) {Q : Bool→Shared→Prop}
  (k : ∀ s',Step φ s φ s'→St G hb sc env c φ s'→Q b s') :
  wpAny (model G.prog G.w) A (forIn ifs true fun c r=>if r = true then do let ok ← isTrue c env (eval c env); pure (ForInStep.yield ok) else pure (ForInStep.yield r)) Q E s:=by
 match ifs,h with
 | [],h=>rw [some_inv h] at k; exact wpAny_tests_nil (k s (.refl S.g.fin) S)
 | [_],h=>exact wpAny_tests_one (O.thenT h R S hc k)
 | _ :: _ :: _,h=>exact no_none h
theorem compCE_forget {names : List (Str×NameKind)} {n : Nat} : forgetP isOwn (compCE c n names) = compCE c n names:=by
 unfold forgetP
 conv=>rhs; rw [← List.map_id (compCE c n names)]
 apply List.map_congr_left
 intro e he
 refine e1a2 (compCE_mem he) fun k _a q=>?_
 obtain ⟨x,loc,cv⟩:=e
 dsimp only at q
 rcases q with ⟨_,q2,q3⟩ | ⟨_,⟨ca,q2,_⟩,q3⟩ | ⟨_,q2⟩
 ·subst q3; split <;> rfl
 ·subst q3; split <;> rfl
 ·have : isOwn ⟨x,loc,cv⟩ = false:=by
   rcases q2 with ⟨e',_,_,q3,_⟩ | ⟨_,_,ca,q3⟩ <;> subst q3 <;> rfl
  rw [this]; rfl
structure CS (G : Gd) (s : Shared) (scope : Scope) (env' : Env) (φ : Fz) (Da : Addr) (wr : List Addr) (S : Fz→Heap→Prop) (c' : List CE) (φ' : Fz) (s' : Shared) : Prop where
 st : St G s.heap scope env' c' φ' s'
 eq : ∃ h tk,s' = { s with heap:=h,toks:=tk }
 sx : S φ' s'.heap
 up : ∀ a o,φ a = some o→φ' a = some o
 new : ∀ a o,φ' a = some o→φ a = some o∨s.heap.get? a = none
 fd : φ' Da = none
 fw : ∀ b∈wr,φ' b = none
structure FrO (wr : List Addr) (S : Fz→Heap→Prop) : Prop where
 frame : ∀ φ φ' h h',S φ h→(∀ a o,φ a = some o→φ' a = some o)→(∀ a o,φ a = some o→h.get? a = some o)→(∀ a o,φ' a = some o→h'.get? a = some o)→(∀ b∈wr,∀ o,h.get? b = some o→h'.get? b = some o)→S φ' h'
 live : ∀ φ h,S φ h→∀ b∈wr,∃ o,h.get? b = some o
theorem Cu.fro {tgt : Expr} {I : Addr} {items : List D} {wr : List Addr} {Sx : Nat→Fz→Heap→Prop} (T : Cu G A tgt I items wr Sx) (i : Nat) : FrO wr (Sx i):=⟨T.frame i,T.live i⟩
theorem live_ne {h : Heap} {b : Addr} (l : ∃ o,h.get? b = some o) (z : h.get? b = none) : False:=by
 obtain ⟨o,w⟩:=l; rw [w] at z; exact no_some z
theorem St.fresh {G : Gd} {hb : Heap} {sc : Scope} {env : Env} {c : List CE} {φ : Fz} {s : Shared} (S : St G hb sc env c φ s) {a : Addr} (h : s.heap.get? a = none) : a ∉ privs env c:=fun m=>live_ne (S.privLive a m) h
theorem fset_ok {iter : Expr} {env : Env} (h : okE iter = true) (x : Value) : foldedSetIterable iter env x = pure x:=by
 induction iter using PySem.Expr.casesOn <;> first | rfl | exact no_ft h
theorem none_new {φ φ' : Fz} {h : Heap} {b : Addr} (new : ∀ a o,φ' a = some o→φ a = some o∨h.get? a = none) (f : φ b = none) (l : ∃ o,h.get? b = some o) : φ' b = none:=by
 generalize q : φ' b = r_; induction r_ using Option.casesOn with
 | none=>rfl
 | some o =>
  rcases new b o q with z | z
  ·rw [f] at z; exact no_none z
  ·exact (live_ne l z).elim
section
variable {scope : Scope} {env' : Env} {Da : Addr} {wr : List Addr} {Sx Sy : Fz→Heap→Prop} {c₁ c₂ : List CE} {φ₁ φ₂ : Fz} {s₁ s₂ : Shared}
theorem CS.item (T : FrO wr Sx) (F : CS G s scope env' φ Da wr Sx c₁ φ₁ s₁) {h₂ : Heap} {tk₂ : Nat} (nW : ∀ b∈wr,s.heap.get? b = none) (pW : ∀ b∈wr,b ∉ privs env' c₁) (lD : ∃ o,s₁.heap.get? Da = some o) (st₂ : Sy φ₂ h₂)
  (keep₂ : ∀ b o,b ∉ wr→s₁.heap.get? b = some o→h₂.get? b = some o) (up₂ : ∀ a o,φ₁ a = some o→φ₂ a = some o) (new₂ : ∀ a o,φ₂ a = some o→φ₁ a = some o∨s₁.heap.get? a = none) (fin₂ : ∀ a o,φ₂ a = some o→h₂.get? a = some o) :
  CS G s scope env' φ Da wr Sy c₁ φ₂ { s₁ with heap:=h₂,toks:=tk₂ } where
 st:=(F.st.other (h':=h₂) (tk:=tk₂) (·∈wr) (fun b o nb e=>keep₂ b o nb e) F.fw nW pW).moreFz up₂ fin₂ fun a o e hp=>by
  rcases new₂ a o e with w | w
  ·rw [F.st.pfz a hp] at w; exact no_none w
  ·exact live_ne (F.st.privLive a hp) w
 eq:=by obtain ⟨h,t,e⟩:=F.eq; exact ⟨h₂,tk₂,by rw [e]⟩
 sx:=st₂
 up:=fun a o e=>up₂ a o (F.up a o e)
 new:=fun a o e=>(new₂ a o e).elim (F.new a o) fun z=>.inr (none_of_ext F.st.base z)
 fd:=none_new new₂ F.fd lD
 fw:=fun b hb=>none_new new₂ (F.fw b hb) (T.live _ _ F.sx b hb)
theorem CS.moved (T : FrO wr Sx) (F : CS G s scope env' φ Da wr Sx c₁ φ₁ s₁) (pW : ∀ b∈wr,b ∉ privs env' c₁) (M : Moved G s.heap scope env' c₁ φ₁ s₁ c₂ s₂) : CS G s scope env' φ Da wr Sx c₂ φ₁ s₂ where
 st:=M.st
 eq:=by
  refine e2a1 (F.eq) fun h t e=>?_
  refine e2a1 (M.eq) fun h' t' e'=>?_
  exact ⟨h',t',by rw [e',e]⟩
 sx:=T.frame _ _ _ _ F.sx (fun _a _a e=>e) F.st.g.fin M.st.g.fin fun b hb o e=>M.keep _ _ (pW b hb) e
 up:=F.up
 new:=F.new
 fd:=F.fd
 fw:=F.fw
theorem CS.step (T : FrO wr Sx) (F : CS G s scope env' φ Da wr Sx c₁ φ₁ s₁) (lD : ∃ o,s₁.heap.get? Da = some o) (y : Step φ₁ s₁ φ₂ s₂) : CS G s scope env' φ Da wr Sx c₁ φ₂ s₂ where
 st:=F.st.step y
 eq:=by
  refine e2a1 (F.eq) fun h t e=>?_
  refine e2a1 (y.eq) fun h' t' e'=>?_
  exact ⟨h',t',by rw [e',e]⟩
 sx:=T.frame _ _ _ _ F.sx y.up F.st.g.fin y.fin fun b _a o e=>y.ext b o e
 up:=fun a o e=>y.up a o (F.up a o e)
 new:=fun a o e=>(y.new a o e).elim (F.new a o) fun z=>.inr (none_of_ext F.st.base z)
 fd:=none_new y.new F.fd lD
 fw:=fun b hb=>none_new y.new (F.fw b hb) (T.live _ _ F.sx b hb)
theorem CS.same (T : FrO wr Sx) (F : CS G s scope env' φ Da wr Sx c₁ φ₁ s₁) {h₂ : Heap} (sb : Heap.SameBut Da s₁.heap h₂) (hDW : ∀ b∈wr,Da≠b) (nD : s.heap.get? Da = none) (pD : Da ∉ privs env' c₁) : CS G s scope env' φ Da wr Sx c₁ φ₁ { s₁ with heap:=h₂ } where
 st:=F.st.other (tk:=s₁.toks) (· = Da) (fun b o nb e=>(sb.2 b nb).trans e) (fun b z=>z ▸ F.fd) (fun b z=>z ▸ nD) (fun b z=>z ▸ pD)
 eq:=by obtain ⟨h,t,e⟩:=F.eq; exact ⟨h₂,t,by rw [e]⟩
 sx:=T.frame _ _ _ _ F.sx (fun _a _a e=>e) F.st.g.fin (fun a o e=>(sb.2 a fun z=>by rw [z,F.fd] at e; exact no_none e).trans (F.st.g.fin a o e)) fun b hb o e=>(sb.2 b (Ne.symm (hDW b hb))).trans e
 up:=F.up
 new:=F.new
 fd:=F.fd
 fw:=F.fw
end
noncomputable def CompI (G : Gd) (V : EvF) (s : Shared) (scope : Scope) (env' : Env) (c' : List CE) (φ : Fz) (Sx : Nat→Fz→Heap→Prop) (Da : Addr) (wr : List Addr) (items out : List D) (ρ₀ : Rho) (target : Expr) (ifs : List Expr) (elt : Expr) (k : Nat) (s' : Shared) : Prop :=
 ∃ (i : Nat) (φ' : Fz) (ys : List Value) (n : Nat) (rs rest : List D),k = items.length + 1 - i∧i≤items.length∧CS G s scope env' φ Da wr (Sx i) c' φ' s' ∧
   s'.heap.get? Da = some (lsO ys n)∧RepL φ' ys rs∧compGo V scope ρ₀ target ifs elt (items.drop i) = some rest∧rs ++ rest = out∧rs.length≤i
set_option maxHeartbeats 1000000 in
theorem comp_loop (O : VOk G l V) (hR : Room A l) (S : St G hb sc env c φ s) {scope : Scope} {ρ₀ : Rho} {elt target iter : Expr} {ifs : List Expr} {pos : Pos} {items out : List D}
  (hk : scope.kind = .function) (nd : (scope.names.map (·.1)).Nodup) (hρ : compRho sc (abs c) scope.names = some ρ₀) (hlen : items.length≤2000001) (hgo : compGo V scope ρ₀ target ifs elt items = some out)
  {s₂ : Shared} {I : Addr} {wr : List Addr} {Sx : Nat→Fz→Heap→Prop} (T : Cu G A target I items wr Sx) (st0 : Sx 0 φ s₂.heap) (x₂ : Step φ s φ s₂) (nW : ∀ b∈wr,s.heap.get? b = none) (fW : ∀ b∈wr,φ b = none)
  {RR : Value→Addr→Result→Shared→Prop}
  (fin : ∀ D C φ' ys n s',Step φ s φ' s'→s'.heap.get? D = some (lsO ys n)→RepL φ' ys out→φ' D = none→φ' C = none→s.heap.get? D = none→s.heap.get? C = none→D≠C→(∃ m,s'.heap.Ns C m)→RR (.ref D) C (.ok .next) s') :
  wpAny (model G.prog G.w) A (newList []) (fun acc s₃ =>
   wpAny (model G.prog G.w) A (newFunctionEnv scope env.globals (closL env.cells scope.names []) [] env.qual none .none (some env)) (fun cenv s₄ =>
    codeAny (model G.prog G.w) A (.compStart (.ListComp elt [⟨target,iter,ifs,0⟩] scope pos) 0 (.ref I) acc { cenv with scope:=relabel scope env }) (RR acc cenv.locals) s₄) E s₃) E s₂:=by
 refine wpAny_newObj_type (hd:=by size_fits) ?_
 generalize hs3 : ({ s₂ with heap:=s₂.heap.push { cls:=.type "list",dict:=none,data:=.seq ([] : List Value).toArray } } : Shared) = s₃
 have x₃ : Step φ s φ s₃:=by rw [← hs3]; exact x₂.trans (.push x₂.fin _ s₂.toks)
 have hD0 : s₃.heap.get? s₂.heap.objs.size = some (lsO [] 0):=by rw [← hs3]; exact Heap.get?_push_size _ rfl
 have up₃ : ∀ b o,s₂.heap.get? b = some o→s₃.heap.get? b = some o:=fun b o e=>by rw [← hs3]; exact Heap.get?_push_of_some _ e
 generalize hDd : s₂.heap.objs.size = Da at hD0
 have hsDa : Da < s₃.heap.objs.size:=Heap.lt_size hD0
 have hW2 : ∀ b∈wr,∃ o,s₂.heap.get? b = some o:=T.live 0 φ s₂.heap st0
 have hsW : ∀ b∈wr,b < s₃.heap.objs.size:=fun b hb=>let ⟨o,e⟩:=hW2 b hb; Heap.lt_size (up₃ b o e)
 have hDW : ∀ b∈wr,Da≠b:=fun b hb=>let ⟨o,e⟩:=hW2 b hb; by rw [← hDd]; exact Nat.ne_of_gt (Heap.lt_size e)
 have nD : s.heap.get? Da = none:=none_of_ext x₂.ext (by rw [← hDd]; exact get_size_none _)
 have fD : φ Da = none:=by rw [← hDd]; exact fz_size x₂.fin
 refine newCompEnv ?_
 have S₄:=comp_st S x₃ hk nd hρ
 obtain ⟨C,hC⟩ : ∃ C,s₃.heap.objs.size = C:=⟨_,rfl⟩
 rw [hC] at S₄ hsDa ⊢
 have hsW : ∀ b∈wr,b < C:=fun b hb=>hC ▸ hsW b hb
 generalize hs4 : ({ s₃ with heap:=pushCells (s₃.heap.push { cls:=.type "dict",data:=.dict #[] }) scope.names } : Shared) = s₄ at S₄ ⊢
 have up₄ : ∀ b o,s₃.heap.get? b = some o→s₄.heap.get? b = some o:=fun b o e=>by rw [← hs4]; exact pushCells_keeps _ _ _ _ (Heap.get?_push_of_some _ e)
 have eq₄ : ∃ h' tk,s₄ = { s with heap:=h',toks:=tk }:=by
  refine e2a1 (x₃.eq) fun h t e=>?_
  exact ⟨_,t,by rw [← hs4,e]⟩
 generalize hc' : compCE c (C + 1) scope.names = c' at S₄
 have habs : abs c' = ρ₀:=by rw [← hc']; exact compCE_abs hρ
 have hown : forgetP isOwn c' = c':=by rw [← hc']; exact compCE_forget
 have hbig : ∀ a∈privs (compEnvX scope env C) c',C≤a:=fun a ha=>by
  rcases List.mem_cons.mp ha with z | z
  ·exact Nat.le_of_eq z.symm
  ·rw [← hc'] at z; have:=(compCE_privs (c:=c) scope.names (C + 1)).1 a z; omega
 have pD : Da ∉ privs (compEnvX scope env C) c':=fun h=>absurd (hbig _ h) (Nat.not_le.mpr hsDa)
 have pW : ∀ b∈wr,b ∉ privs (compEnvX scope env C) c':=fun b hb h=>absurd (hbig _ h) (Nat.not_le.mpr (hsW b hb))
 have nC : s.heap.get? C = none:=S₄.pbs C List.mem_cons_self
 have hDC : Da≠C:=Nat.ne_of_lt hsDa
 show codeAny _ _ (.compStart _ 0 _ _ (compEnvX scope env C)) (RR (.ref Da) C) s₄
 have st4 : Sx 0 φ s₄.heap:=T.frame 0 φ φ s₂.heap s₄.heap st0 (fun _a _a e=>e) x₂.fin (fun a o e=>up₄ _ _ (x₃.fin a o e)) fun b hb o e=>up₄ _ _ (up₃ _ _ e)
 have loop : codeAny (model G.prog G.w) A (.compLoop (.ListComp elt [⟨target,iter,ifs,0⟩] scope pos) 0 (.ref I) (.ref Da) (compEnvX scope env C)) (RR (.ref Da) C) s₄:=by
  refine compLoop_any (CompI G V s scope (compEnvX scope env C) c' φ Sx Da wr items out ρ₀ target ifs elt) ?_ (items.length + 1)
   ⟨0,φ,[],0,[],out,rfl,Nat.zero_le _,⟨S₄,eq₄,st4,fun _a _a e=>e,fun _a _a e=>.inl e,fD,fW⟩,up₄ _ _ hD0,.nil,hgo,rfl,Nat.le_refl _⟩
  rintro k s' ⟨i,φ',ys,n,rs,rest,rfl,hi,F,hD,hr,hg,ho,hrl⟩
  by_cases hlt : i < items.length
  ·refine wpAny_mono (T.item i φ' s' (fun v s₁=>wpAny (model G.prog G.w) A (assign target (compEnvX scope env C) v) ?post ?err s₁) _ hlt F.sx F.st.g.fin F.fw ?main) (fun r s₁ q=>?shape) fun _a _a e=>e
   case shape =>
    induction r using Option.casesOn with
    | none=>exact q.elim
    | some v=>exact q
   intro v φ₁ h₁ tk₁ d₁ hd₁ rv' st₁ keep₁ up₁ new₁ fin₁
   have F₁:=F.item (tk₂:=tk₁) (T.fro i) nW pW ⟨_,hD⟩ st₁ keep₁ up₁ new₁ fin₁
   rw [List.drop_eq_getElem_cons hlt,some_inv ((List.getElem?_eq_getElem hlt).symm.trans hd₁).symm] at hg
   refine o1_e hg fun ρ₁ hb₁ hg=>?_
   refine o1_e hg fun b₁ hT hg=>?_
   refine wpAny_mono (bindT_ok hR.handled F₁.st (by rw [habs]; exact hb₁) rv') (fun _a s₂' q=>q.elim fun c₂ q=>?_) fun _a _a e=>e
   refine e0a2 (q) fun ab₂ M₂=>?_
   have F₂:=F₁.moved (T.fro (i + 1)) pW M₂
   have hD₂ : s₂'.heap.get? Da = some (lsO ys n):=M₂.keep _ _ pD (keep₁ _ _ (fun z=>hDW _ z rfl) hD)
   have back : ∀ {s₃' : Shared} {φ₃ : Fz},St G s.heap scope (compEnvX scope env C) c₂ φ₃ s₃'→St G s.heap scope (compEnvX scope env C) c' φ₃ s₃':=fun z=>by
    have:=z.forgetP isOwn
    rw [M₂.own,hown] at this; exact this
   refine ifs_ok O hT hR F₂.st ab₂ fun s₃' y₃ S₃=>?_
   have F₃:=F₂.step (T.fro (i + 1)) ⟨_,hD₂⟩ y₃
   have hD₃:=y₃.ext _ _ hD₂
   have ml : items.length + 1 - (i + 1) < items.length + 1 - i:=by omega
   induction b₁ using Bool.casesOn with
   | true =>
    rw [if_pos rfl]
    refine o2_e hg fun r rs' hr₁ hrs' hg=>?_
    refine O.then hr₁ hR S₃ ab₂ fun v₄ φ₄ s₄' y₄ S₄' r₄=>?_
    have F₄:=F₃.step (T.fro (i + 1)) ⟨_,hD₃⟩ y₄
    have F₄ : CS G s scope (compEnvX scope env C) φ Da wr (Sx (i + 1)) c' φ₄ s₄':=⟨back F₄.st,F₄.eq,F₄.sx,F₄.up,F₄.new,F₄.fd,F₄.fw⟩
    refine wpAny_list_append_plain (⟨n,y₄.ext _ _ hD₃⟩ : s₄'.heap.PlainList Da ys.toArray) (fun h₅ pl₅ sb₅=>?_) (by rw [sizeLine_eq,List.size_toArray,hr.length]; omega)
    refine e1a1 (pl₅) fun n₅ e₅=>?_
    exact ⟨_,ml,i + 1,φ₄,ys ++ [v₄],n₅,rs ++ [r],rs',rfl,hlt,F₄.same (T.fro (i + 1)) sb₅ hDW nD pD,e₅.trans (by rw [List.push_toArray]; rfl),((hr.mono up₁).mono y₄.up).append (.one r₄),hrs',by rw [← ho,some_inv hg,List.append_assoc]; rfl,by rw [List.length_append]; exact Nat.succ_le_succ hrl⟩
   | false =>
    rw [if_neg Bool.false_ne_true]
    exact ⟨_,ml,i + 1,φ₁,ys,n,rs,rest,rfl,hlt,⟨back F₃.st,F₃.eq,F₃.sx,F₃.up,F₃.new,F₃.fd,F₃.fw⟩,hD₃,hr.mono up₁,hg,ho,Nat.le_succ_of_le hrl⟩
  ·have hi' : i = items.length:=by omega
   subst hi'
   rw [List.drop_length] at hg
   rw [some_inv hg,List.append_nil] at ho
   subst ho
   refine wpAny_mono (T.done φ' s' (fun s₁=>RR (.ref Da) C (.ok .next) s₁) _ F.sx F.st.g.fin fun h₁ tk₁ keep₁=>?_) (fun r s₁ q=>?_) fun _a _a e=>e
   rotate_left
   ·obtain ⟨rfl,q⟩:=q; exact q
   have S₁ : St G s.heap scope (compEnvX scope env C) c' φ' { s' with heap:=h₁,toks:=tk₁ }:=F.st.other (·∈wr) (fun b o nb e=>keep₁ b o nb e) F.fw nW pW
   obtain ⟨hh,ht,es'⟩:=F.eq
   obtain ⟨m,hn,_⟩:=S₁.vars
   exact fin Da C φ' ys n _ ⟨⟨h₁,tk₁,by rw [es']⟩,S₁.base,F.up,F.new,S₁.g.fin⟩ (keep₁ _ _ (fun z=>hDW _ z rfl) hD) hr F.fd (S₁.pfz C List.mem_cons_self) nD nC hDC ⟨m,hn⟩
 exact codeAny_compStart_list loop (T.self 0 φ _ _ _ st4 loop)
theorem itD_length {d : D} {items : List D} (hit : itD d = some items) : items.length≤2000001:=by
 have big : ∀ {n : Nat},n≤lim→n≤2000001:=fun h=>Nat.le_trans h (by decide)
 induction d using Mine.D.casesOn <;> first | exact no_none hit | skip
 case rng =>
  refine oif_e hit fun hl e=>?_
  refine some_e e ?_; rw [List.length_map]
  unfold rngL; split <;> simp <;> omega
 all_goals
  refine oif_e hit fun hl e=>?_
  refine some_e e ?_
  first | exact big hl | (rw [List.length_map]; exact big hl)
end
section
variable {G : Gd} {l : Nat} {V : EvF} {P : Pg} {sc : Scope} {ρ : Rho} {hb : Heap} {env : Env} {c : List CE} {φ : Fz} {s : Shared} {A : Around} {E : Value→Shared→Prop}
theorem epf_of {fr : Bool} {d : D} {v : Value} {s' : Shared} (h : EP φ s d v s') (hl : ∀ l,d≠.list l) : EPF fr φ s d v s':=by
 induction fr using Bool.casesOn
 ·exact h
 ·induction d using Mine.D.casesOn <;> first | exact absurd rfl (hl _) | exact h
theorem epf_list {fr : Bool} {r : List D} {v : Value} {s' : Shared} (h : EPL φ s r v s') : EPF fr φ s (.list r) v s':=by
 induction fr using Bool.casesOn
 ·exact EP.epf h.ep
 ·exact h
theorem ite_num {c : Prop} [Decidable c] {z : Int} {d : D} (h : (if c then some (D.int z) else none) = some d) : ∃ z,d = .int z:=⟨z,some_inv (oif_inv h).2⟩
set_option tactic.hygienic true in
theorem binD_nolist {op : Operator} {a b d : D} (h : binD op a b = some d) : ∀ l,d≠.list l:=by
 intro l q
 subst q
 induction a using Mine.D.casesOn <;> first | exact no_none h | skip
 case int a =>
  refine o1_e h fun n _a g=>?_
  have : ∃ z,D.list l = .int z:=by
   induction op using PySem.Operator.casesOn <;> first | exact no_none g | exact ite_num g | exact ⟨_,some_inv g⟩
  refine e1a1 (this) fun z e=>?_
  cases e
 case str a =>
  induction op using PySem.Operator.casesOn <;> first | exact no_none h | (refine o1_e h fun n _a g=>?_; cases some_inv (oif_inv g).2)
theorem cutS_nolist {a d : D} {x y z : Option Int} (h : cutS a x y z = some d) : ∀ l,d≠.list l:=by
 intro l q
 subst q
 refine o1_e h fun n _a g=>?_
 cases some_inv (oif_inv g).2
theorem name_ok (PO : POk G l P) {n : Str} {d : D} (h : oLk P sc n (ρ.lookup n) = some d) (hn : (n == ("__classdict__" : Str)) = false) (S : St G hb sc env c φ s) (hc : abs c = ρ) : wpAny (model G.prog G.w) A (loadName env n) (EP φ s d) E s:=by
 subst hc
 generalize hl : (abs c).lookup n = r_; induction r_ using Option.casesOn with
 | some lv =>
  rw [hl] at h
  refine e1a3 (abs_lookup hl) fun e he rr2 hab=>?_
  subst rr2
  refine e1a2 (S.vars) fun m hn' hv=>?_
  have hg:=(hv e he).2
  generalize hcv : e.cv = r_; induction r_ using Mine.CV.casesOn <;> rw [hcv] at hab hg <;> subst hab <;> first | exact no_none h | (refine some_e h ?_; exact S.load he (by rw [hcv]; rfl) hn (EP.pure S.g.fin hg))
 | none =>
  rw [hl] at h
  refine oif_e h fun hg h=>?_
  exact PO.gl n d h env φ s A E S.kind S.glo S.bui (S.gk n hg) S.g
theorem addM_ok (O : VOk G l V) {op : BoolOp} {es : List Expr} {b : Bool} {φ : Fz} {s : Shared} (h : allT V sc ρ op es = some b) (R : Room A l) (S : St G hb sc env c φ s) (hc : abs c = ρ) :
  wpAny (model G.prog G.w) A (allTrue op es env) (fun r s'=>r = b∧Step φ s φ s') E s:=by
 induction es generalizing s with
 | nil=>rw [arm_allTrue_nil,some_inv h]; exact wpAny_pure ⟨rfl,.refl S.g.fin⟩
 | cons x rest ih =>
  rw [arm_allTrue_cons]
  refine o1_e h fun a hx h=>?_
  refine wpAny_bind (O.thenT hx R S hc fun s' y S'=>?_)
  induction op using PySem.BoolOp.casesOn <;> induction a using Bool.casesOn <;> first | exact wpAny_mono (ih h S') (fun r s'' p=>⟨p.1,y.trans p.2⟩) (fun _ _ (e : E _ _)=>e) | exact wpAny_pure ⟨(some_inv h).symm,y⟩
theorem release_ok {M : Model} {vs k : List Value} {Q : Unit→Shared→Prop} (h : Q () s) : wpAny M A (release vs k) Q E s:=fun Γ p hΓ=>by rw [Sem.wp_release]; exact h
theorem chain2 {a : Expr} {o1 o2 : CmpOp} {b c' : Expr} {pos : Pos} {wh : Sem Value} (ok : okE c' = true) {M : Model} {Q : Bool→Shared→Prop}
  (h : wpAny M A (eval a env) (fun va s₁=>wpAny M A (eval b env) (fun vb s₂=>wpAny M A (compareOp o1 va vb) (fun r s₃=>wpAny M A (truthy r) (fun t s₄=>if t = true then
   wpAny M A (eval c' env) (fun vc s₅=>wpAny M A (compareOp o2 vb vc) (fun r' s₆=>wpAny M A (truthy r') Q E s₆) E s₅) E s₄ else Q false s₄) E s₃) E s₂) E s₁) E s) :
  wpAny M A (isTrue (.Compare a [o1,o2] [b,c'] pos) env wh) Q E s:=by
 rw [arm_isTrue_Compare]
 have hm : markedEach [o1,o2] [b,c'] (evalEach [b,c'] env) = [eval b env,eval c' env]:=by
  have : behindInMarks o2 c' = false:=by induction c' using PySem.Expr.casesOn <;> first | rfl | exact no_ft ok
  show [eval b env,markedBehindIn o2 c' (eval c' env)] = _
  rw [markedBehindIn_of_false this]
 rw [hm]
 refine wpAny_bind (wpAny_mono h (fun va s₁ h₁=>?_) fun _a _a e=>e)
 refine wpAny_bind (wpAny_holding (wpAny_mono h₁ (fun vb s₂ h₂=>wpAny_bind (wpAny_standAt (wpAny_bind (wpAny_holding (wpAny_mono h₂ (fun r s₃ h₃=>?_) fun _a _a e=>e))))) fun _a _a e=>e))
 refine wpAny_bind (release_ok ?_)
 refine wpAny_bind (wpAny_holding (wpAny_mono h₃ (fun t s₄ h₄=>?_) fun _a _a e=>e))
 induction t using Bool.casesOn with
 | false=>exact wpAny_pure h₄
 | true =>
  refine wpAny_bind (wpAny_holding (wpAny_mono h₄ (fun vc s₅ h₅=>wpAny_bind (wpAny_standAt (wpAny_bind (wpAny_operating (wpAny_mono h₅ (fun r' s₆ h₆=>wpAny_holding h₆) fun _a _a e=>e)))) ) fun _a _a e=>e))
theorem behind_ok {op : CmpOp} {r : Expr} (ok : okE r = true) : behindInMarks op r = false:=by induction r using PySem.Expr.casesOn <;> first | rfl | exact no_ft ok
set_option tactic.hygienic true in
theorem stepT_ok (O : VOk G l V) (sc : Scope) (ρ : Rho) (e : Expr) (b : Bool) (h : stepT V sc ρ e = some b) : TSem G l sc ρ e b:=by
 intro hb env c φ s A E R S hc
 have hu : A.units + 8 < cLine:=by have:=R.units; lia
 induction e using PySem.Expr.casesOn
 case UnaryOp op x p =>
  induction op using PySem.UnaryOp.casesOn
  case Not =>
   refine o1_e h fun a hx h=>?_
   refine some_e h ?_
   exact PyProof.Rows.isTrue_not (O.thenT hx R S hc fun s' y _a=>⟨rfl,y⟩)
  all_goals exact no_none h
 case BoolOp op vs p=>rw [arm_isTrue_BoolOp]; exact addM_ok O h R S hc
 case IfExp t x o p =>
  rw [arm_isTrue_IfExp]
  refine o1_e h fun a ht h=>?_
  refine wpAny_bind (O.thenT ht R S hc fun s' y S'=>?_)
  induction a using Bool.casesOn
  ·rw [if_neg Bool.false_ne_true]
   exact O.thenT h R S' hc fun s'' z _a=>⟨rfl,y.trans z⟩
  ·rw [if_pos rfl]
   exact O.thenT h R S' hc fun s'' z _a=>⟨rfl,y.trans z⟩
 case Compare x ops rs p =>
  induction ops using List.casesOn
  case nil=>exact no_none h
  case cons op ops =>
  induction ops using List.casesOn
  case nil =>
   induction rs using List.casesOn
   case nil=>exact no_none h
   case cons r rs =>
   induction rs using List.casesOn
   case cons=>exact no_none h
   case nil =>
   refine oif_e h fun ok h=>?_
   refine o2_e h fun a b' ha hb' h=>?_
   refine wpAny_isTrue_Compare1 (O.then ha R S hc fun va φ₁ s₁ y₁ S₁ r₁=>O.then hb' R S₁ hc fun vb φ₂ s₂ y₂ S₂ r₂=>?_) (behind_ok ok)
   exact cmp_ok S₂.g.fin hu (r₁.mono y₂.up) r₂ h (wpAny_truthy_bool ⟨rfl,(y₁.trans y₂).back⟩)
  case cons op' ops =>
   induction ops using List.casesOn
   case cons=>exact no_none h
   case nil =>
   induction rs using List.casesOn
   case nil=>exact no_none h
   case cons r rs =>
   induction rs using List.casesOn
   case nil=>exact no_none h
   case cons r' rs =>
   induction rs using List.casesOn
   case cons=>exact no_none h
   case nil =>
   refine oif_e h fun ok h=>?_
   refine o3_e h fun a b' c' ha hb' hc' h=>?_
   refine o1_e h fun z h1 h=>?_
   refine chain2 ok (O.then ha R S hc fun va φ₁ s₁ y₁ S₁ r₁=>O.then hb' R S₁ hc fun vb φ₂ s₂ y₂ S₂ r₂=>cmp_ok S₂.g.fin hu (r₁.mono y₂.up) r₂ h1 (wpAny_truthy_bool ?_))
   induction z using Bool.casesOn
   ·rw [if_neg Bool.false_ne_true,some_inv h]
    exact ⟨rfl,(y₁.trans y₂).back⟩
   ·rw [if_pos rfl]
    exact O.then hc' R S₂ hc fun vc φ₃ s₃ y₃ S₃ r₃=>cmp_ok S₃.g.fin hu (r₂.mono y₃.up) r₃ h (wpAny_truthy_bool ⟨rfl,((y₁.trans y₂).trans y₃).back⟩)
 all_goals
  refine o1_e h fun d hd ht=>?_
  exact isTrue_plain (O.then hd R S hc fun v φ₁ s₁ y S₁ r=>truth_ok r ht ⟨rfl,y.back⟩) rfl
end
section
variable {prog : Program} {w : World} {A : Around} {E : Value→Shared→Prop} {s : Shared} {b : Array UInt8} {t : Tok}
structure ZApart (z TI TO i1 i2 : Addr) : Prop where
 TIz : TI≠z
 TOz : TO≠z
 i1z : i1≠z
 i2z : i2≠z
 TITO : TI≠TO
 TIi1 : TI≠i1
 TIi2 : TI≠i2
 TOi1 : TO≠i1
 TOi2 : TO≠i2
 i12 : i1≠i2
end
section
variable {prog : Program} {w : World} {A : Around} {E : Value→Shared→Prop} {s : Shared}
end
section
variable {G : Gd} {A : Around} {φ : Fz} {s : Shared} {E : Value→Shared→Prop}
end
section
variable {G : Gd} {A : Around} {φ : Fz} {s : Shared} {E : Value→Shared→Prop}
end
section
variable {G : Gd} {l : Nat} {V : EvF} {P : Pg} {sc : Scope} {ρ : Rho} {hb : Heap} {env : Env} {c : List CE} {φ : Fz} {s : Shared} {A : Around} {E : Value→Shared→Prop}
noncomputable def ItPost (G : Gd) (A : Around) (tgt : Expr) (items : List D) (φ : Fz) (s : Shared) (it : Value) (s₂ : Shared) : Prop :=
 ∃ φ₁ s₁ I wr Sx,Step φ s φ₁ s₁∧it = .ref I∧Cu G A tgt I items wr Sx∧Sx 0 φ₁ s₂.heap∧Step φ₁ s₁ φ₁ s₂∧(∀ b∈wr,s₁.heap.get? b = none)∧(∀ b∈wr,φ₁ b = none)
theorem compI_ok (O : VOk G l V) (R : Room A l) (S : St G hb sc env c φ s) (hc : abs c = ρ) {target iter : Expr} {items : List D} (h : compI V sc ρ target iter = some items) :
  wpAny (model G.prog G.w) A (eval iter env) (fun v s₁'=>wpAny (model G.prog G.w) A (pyIter v) (ItPost G A target items φ s) E s₁') E s∧items.length≤2000001:=by
 unfold compI at h
 ·show _∧_
  refine o1_e h fun d hd h=>?_
  refine ⟨O.then hd R S hc fun v φ₁ s₁ y₁ S₁ r₁=>?_,itD_length h⟩
  refine wpAny_mono (cu_ok (G:=G) target S₁.g.fin R.handled r₁ h) (fun it s₂ q=>?_) fun _a _a e=>e
  refine e3a6 (q) fun I wr Sx rr3 T st0 x₂ nW fW=>?_
  subst rr3
  exact ⟨φ₁,s₁,I,wr,Sx,y₁,rfl,T,st0,x₂,nW,fW⟩
end
section
variable {G : Gd} {l : Nat} {V : EvF} {P : Pg} {sc : Scope} {ρ : Rho} {hb : Heap} {env : Env} {c : List CE} {φ : Fz} {s : Shared} {A : Around} {E : Value→Shared→Prop}
theorem newList_ok {vs : List Value} {ds : List D} (fin : ∀ a o,φ a = some o→s.heap.get? a = some o) (r : RepL φ vs ds) (hl : ds.length≤lim) : wpAny (model G.prog G.w) A (newList vs) (EPL φ s ds) E s:=by
 refine wpAny_newObj_type ?_ (by show vs.toArray.size≤sizeLine; rw [List.size_toArray,r.length,sizeLine_eq]; unfold lim at hl; lia)
 exact ⟨φ,s.heap.objs.size,0,vs,.push fin _ s.toks,rfl,Heap.get?_push_size _ rfl,r,fz_size fin,get_size_none _⟩
theorem newTuple_ok {vs : List Value} {ds : List D} (fin : ∀ a o,φ a = some o→s.heap.get? a = some o) (r : RepL φ vs ds) (hl : ds.length≤lim) : wpAny (model G.prog G.w) A (newTuple vs) (EP φ s (.tup ds)) E s:=by
 refine wpAny_newObj_type ?_ (by show vs.toArray.size≤sizeLine; rw [List.size_toArray,r.length,sizeLine_eq]; unfold lim at hl; lia)
 have f:=fz_size fin
 refine ⟨φ.put s.heap.objs.size (tpO vs 0),(Step.push fin _ s.toks).freeze (get_size_none _) (Heap.get?_push_size _ rfl) f,.tup (Fz.put_self ..) (r.mono (Fz.put_up f))⟩
theorem evs_length {f : Expr→Option D} {es : List Expr} {ds : List D} (h : evs f es = some ds) : ds.length = es.length:=by
 induction es generalizing ds with
 | nil=>refine some_e h ?_; rfl
 | cons e r ih =>
  obtain ⟨_,d,ds',_,h2,rfl⟩:=evs_inv h
  exact congrArg Nat.succ (ih h2)
theorem repK_zip {ks : List (Str×D)} {vs : List Value} (r : RepL φ vs (ks.map (·.2))) : RepK φ ((ks.map (·.1)).zip vs) ks:=by
 have hl : vs.length = ks.length:=by rw [r.length,List.length_map]
 refine ⟨?_,?_⟩
 ·rw [List.map_fst_zip (by simp [hl])]
 ·rw [List.map_snd_zip (by simp [hl])]; exact r
theorem call_go (PO : POk G l P) (O : VOk G l V) (R : Room A l) (hc : abs c = ρ) {pos : Pos} {f : Value} {fs ds : List D} {first : List Value} {ks : List (Str×D)} {args : List Expr} {kws : List Keyword} {d : D} {φ₀ : Fz} {s₀ : Shared}
  (x₀ : Step φ₀ s₀ φ s) (S : St G hb sc env c φ s) (rf : RepL φ first fs) (h1 : evs (V.e sc ρ) args = some ds) (h2 : evk (V.e sc ρ) kws = some ks) (h : P.fn f (fs ++ ds) ks = some d) :
  wpAny (model G.prog G.w) A (callWith pos f first (backTo pos (starEach args env)) (backToKw pos (keywordEach kws env))) (EP φ₀ s₀ d) E s:=by
 obtain ⟨⟨k,hk,L⟩,run⟩:=PO.fn f _ _ _ h
 have k0:=evk_ok (pos:=pos) (A:=A) (E:=E) O R hc h2 S
 refine callWith_go (noStar pos h1) k0.2.1 (wpAny_mono (evs_ok O R hc h1 S) (fun vs s₁ q=>?_) fun _a _a e=>e)
 refine e1a2 (q) fun φ₁ x₁ r₁=>?_
 have S₁:=S.step x₁
 have k1:=evk_ok (pos:=pos) (A:=A) (E:=E) O R hc h2 S₁
 refine wpAny_mono k1.1 (fun kvs s₂ q=>?_) fun _a _a e=>e
 refine e1a2 (q) fun φ₂ x₂ r₂=>?_
 have S₂:=S₁.step x₂
 refine ⟨⟨k,hk,(L _).keeps S₂.g.keep⟩,?_⟩
 rw [k1.2.2]
 exact wpAny_mono (run _ _ φ₂ s₂ A E S₂.g R ((rf.mono fun a o e=>x₂.up a o (x₁.up a o e)).append (r₁.mono x₂.up)) (repK_zip r₂)) (fun v s₃ q=>EP.after ((x₀.trans x₁).trans x₂) q) fun _a _a e=>e
theorem slice_ok (O : VOk G l V) (R : Room A l) (hc : abs c = ρ) {lo hi st : Option Expr} {p : Pos} {k1 k2 k3 : Option Int} (h1 : partD V sc ρ lo = some k1) (h2 : partD V sc ρ hi = some k2) (h3 : partD V sc ρ st = some k3) (S : St G hb sc env c φ s) :
  wpAny (model G.prog G.w) A (eval (.Slice lo hi st p) env) (fun i s'=>∃ sl vl vu vt φ',i = .ref sl∧s'.heap.IsSliceOf sl vl vu vt∧IsPart vl k1∧IsPart vu k2∧IsPart vt k3∧Step φ s φ' s') E s:=by
 refine wpAny_Slice (wpAny_mono (part_ok O R hc h1 S) (fun vl s₁ q=>?_) fun _a _a e=>e)
 obtain ⟨p1,φ₁,x₁⟩:=q
 refine wpAny_mono (part_ok O R hc h2 (S.step x₁)) (fun vu s₂ q=>?_) fun _a _a e=>e
 obtain ⟨p2,φ₂,x₂⟩:=q
 refine wpAny_mono (part_ok O R hc h3 ((S.step x₁).step x₂)) (fun vt s₃ q=>?_) fun _a _a e=>e
 obtain ⟨p3,φ₃,x₃⟩:=q
 exact ⟨_,vl,vu,vt,φ₃,rfl,Heap.IsSliceOf.new ..,p1,p2,p3,((x₁.trans x₂).trans x₃).trans (.push x₃.fin _ s₃.toks)⟩
set_option tactic.hygienic true in
theorem cut_slot {v : Value} {a d : D} {x y z : Option Int} (fin : ∀ a o,φ a = some o→s.heap.get? a = some o) (r : Rep φ v a) (h : cutD a x y z = some d) : ∃ T id,s.TypeIs v T∧typeLookup (.type T) "__getitem__" = pure (some (.builtin id)):=by
 induction a using Mine.D.casesOn <;> first | exact no_none h | skip
 case str l=>obtain ⟨t,rfl⟩:=r.iStr; exact ⟨_,_,typeIs_str s _ _,F.slot_str_getitem.lookup⟩
 case list l=>obtain ⟨a,vs,n,rfl,e1,_⟩:=r.iList; exact ⟨_,_,(lsO_isList (fin _ _ e1)).typeIs,slot_list_getitem.lookup⟩
theorem cut_ok {va : Value} {sl : Addr} {vl vu vt : Value} {a d : D} {k1 k2 k3 : Option Int} {φ₁ : Fz} {s₁ : Shared} (x₁ : Step φ s φ₁ s₁) (r₁ : Rep φ₁ va a) (hsl : s₁.heap.IsSliceOf sl vl vu vt) (q1 : IsPart vl k1) (q2 : IsPart vu k2) (q3 : IsPart vt k3) (h : cutD a k1 k2 k3 = some d) :
  wpAny (model G.prog G.w) A (getItem va (.ref sl)) (EPF true φ s d) E s₁:=by
 unfold cutD at h
 generalize hr : cutL a k1 k2 k3 = r_; induction r_ using Option.casesOn with
 | some r=>rw [hr] at h; refine some_e h ?_; exact wpAny_mono (getSlice_ok x₁.fin r₁ hsl q1 q2 q3 hr) (fun v s' q=>epf_list (EPL.after x₁ q)) fun _a _a e=>e
 | none=>rw [hr] at h; exact wpAny_mono (getSliceS_ok x₁.fin r₁ hsl q1 q2 q3 h) (fun v s' q=>epf_of (EP.after x₁ q) (cutS_nolist h)) fun _a _a e=>e
theorem idx_E (O : VOk G l V) (R : Room A l) (hc : abs c = ρ) {v i : Expr} {p : Pos} {d : D} (hn : notSlice i = true) (h : oIdx (V.e sc ρ v) (V.e sc ρ i) = some d) (S : St G hb sc env c φ s) : wpAny (model G.prog G.w) A (eval (.Subscript v i p) env) (EPF false φ s d) E s:=by
 refine o2_e h fun a k ha hk h=>?_
 refine o1_e h fun j hj h=>?_
 rw [intD_inv hj] at hk
 exact PyProof.Rows.Subscript_ (O.then ha R S hc fun va φ₁ s₁ y₁ S₁ r₁=>O.then hk R S₁ hc fun vk φ₂ s₂ y₂ S₂ r₂=>r₂.iInt.elim fun t e=>by
  rw [e]; exact wpAny_mono (item_ok S₂.g.fin (r₁.mono y₂.up) h hn) (fun v s' q=>EP.epf (EP.after (y₁.trans y₂) q)) fun _a _a e=>e)
set_option tactic.hygienic true in
theorem sub_E (O : VOk G l V) (R : Room A l) (hc : abs c = ρ) {v i : Expr} {p : Pos} {d : D} (h : stepSub V sc ρ v i = some d) (S : St G hb sc env c φ s) : wpAny (model G.prog G.w) A (eval (.Subscript v i p) env) (EPF (isFresh (.Subscript v i p)) φ s d) E s:=by
 induction i using PySem.Expr.casesOn
 case Slice lo hi st p2 =>
  refine o1_e h fun a ha h=>?_
  refine o3_e h fun k1 k2 k3 h1 h2 h3 h=>?_
  refine PyProof.Rows.Subscript_ (O.then ha R S hc fun va φ₁ s₁ y₁ S₁ r₁=>wpAny_mono (slice_ok O R hc h1 h2 h3 S₁) (fun i s₂ q=>?_) fun _a _a e=>e)
  obtain ⟨sl,vl,vu,vt,φ₂,rfl,hsl,q1,q2,q3,y₂⟩:=q
  refine e2a2 (cut_slot y₂.fin (r₁.mono y₂.up) h) fun T id hT hL=>?_
  have hg:=cut_ok (A:=A) (E:=E) (G:=G) (y₁.trans y₂) (r₁.mono y₂.up) hsl q1 q2 q3 h
  induction st using Option.casesOn with
  | none=>exact tail_any (ops:=[.ref sl,va]) hT hL hg rfl
  | some st=>exact tail_any (ops:=[va,.ref sl]) hT hL hg rfl
 all_goals exact idx_E O R hc rfl h S
theorem mcall_ok (PO : POk G l P) (O : VOk G l V) (R : Room A l) (hc : abs c = ρ) {o : Expr} {n : Str} {apos pos : Pos} {args : List Expr} {kws : List Keyword} {d : D} (h : stepCall P V sc ρ args kws pos (.Attribute o n apos) = some d) (S : St G hb sc env c φ s) :
  wpAny (model G.prog G.w) A (eval (.Call (.Attribute o n apos) args kws pos) env) (EP φ s d) E s:=by
 refine oif_e h fun hg h=>?_
 refine and_e hg fun hg hn=>?_
 refine and_e hg fun hab hline=>?_
 have hn:=of_decide_eq_true hn
 refine o3_e h fun d₀ ds ks hd hds hks h=>?_
 obtain ⟨⟨f,fs⟩,hm,h⟩:=o1_inv h
 have hform : methodCallForm (args.length + kws.length) (backTo pos (starEach args env)) (backToKw pos (keywordEach kws env)) = true:=by
  unfold methodCallForm
  have h1 : (backTo pos (starEach args env)).all (!·.1) = true:=by
   rw [← List.not_any_eq_all_not,noStar (env:=env) pos hds]; rfl
  rw [h1,(evk_ok (pos:=pos) (A:=A) (E:=E) O R hc hks S).2.1]
  simp only [Bool.true_and,decide_eq_true_eq]
  split <;> lia
 rw [arm_eval_Call,attrBase_ok hab]
 refine wpAny_bind (O.then hd R S hc fun v φ₁ s₁ y₁ S₁ r₁=>wpAny_bind (wpAny_standAt ?_))
 unfold methodCall
 rw [hform]
 refine wpAny_bind (wpAny_holding ?_)
 unfold calleeOf
 rw [if_pos rfl]
 refine wpAny_mono (PO.mt _ _ _ _ hm v φ₁ s₁ A E _ S₁.g R r₁) (fun r s₂ q=>?_) fun _a _a e=>e
 obtain ⟨f',first⟩:=r
 obtain ⟨rfl,φ₂,y₂,rf⟩:=q
 have hp : methodCallPos true o env apos pos = pure pos:=by
  unfold methodCallPos; rw [hline]; rfl
 exact wpAny_bind (wpAny_of_eq hp (call_go PO O R hc (y₁.trans y₂) (S₁.step y₂) rf hds hks h))
theorem stepLC_e {elt : Expr} {g : Comprehension} {scope : Scope} {d : D} {X : Prop} (h : stepLC V sc ρ elt scope [g] = some d)
  (k : okE g.iter = true→scope.kind = .function→(scope.names.map (·.1)).Nodup→g.is_async = 0→∀ d₀ ρ₀ out,compI V sc ρ g.target g.iter = some d₀→compRho sc ρ scope.names = some ρ₀→compGo V scope ρ₀ g.target g.ifs elt d₀ = some out→d = .list out→X) : X:=by
 refine oif_e h fun hg h=>?_
 refine and_e hg fun hg ha=>?_
 refine and_e hg fun hg hnd=>?_
 refine and_e hg fun hok hk=>?_
 refine o2_e h fun d₀ ρ₀ hd hρ h=>?_
 refine o1_e h fun out hgo h=>?_
 exact k hok (by simpa using hk) (nodup_of_B hnd) (eq_of_beq ha) d₀ ρ₀ out hd hρ hgo (some_inv h)
theorem nm_free {names : List (Str×NameKind)} (nd : (names.map (·.1)).Nodup) {k : NameKind} (x : Str×NameKind) (h : x∈names) (e : x.2 = k) : names.lookup x.1 = some k:=e ▸ lookup_of_mem nd h
theorem comp_E (O : VOk G l V) (R : Room A l) (hc : abs c = ρ) {elt : Expr} {g : Comprehension} {scope : Scope} {pos : Pos} {d : D} (h : stepLC V sc ρ elt scope [g] = some d) (S : St G hb sc env c φ s) :
  wpAny (model G.prog G.w) A (eval (.ListComp elt [g] scope pos) env) (EPF true φ s d) E s:=by
 subst hc
 obtain ⟨target,iter,ifs,asy⟩:=g
 refine stepLC_e h fun hok hk nd ha d₀ ρ₀ out hd hρ hgo hq=>?_
 have ha : asy = 0:=ha
 subst ha
 rw [hq,eval_ListComp]
 refine wpAny_comprehension_free (use:=none) (cl:=closL env.cells scope.names []) rfl (fset_ok hok) (clos_eq fun x hx=>?_) hk (fun x hx hl=>?_) ?_
 ·obtain ⟨e,_,_,h2,_⟩:=free_cells S hρ hx; rw [h2]; rfl
 ·exact nm_free nd x hx hl
 ·refine e0a2 (compI_ok (A:=A) (E:=E) O R S rfl hd) fun hI hlen=>?_
  refine wpAny_mono hI (fun v s₁' q=>wpAny_mono q (fun it s₂ q=>?_) fun _a _a e=>e) fun _a _a e=>e
  refine e5a7 q fun φ₁ s₁ I wr Sx y₁ rr T st0 x₂ nW fW=>?_
  subst rr
  refine comp_loop O R (S.step y₁) hk nd hρ hlen hgo T st0 x₂ nW fW (RR:=fun acc C=>compPost (model G.prog G.w) A E none (EPF true φ s (.list out)) acc C) ?_
  intro Da C φ' ys n s' x hD hr fD fC nD nC hDC hm
  refine e1a1 hm fun m hn=>?_
  refine ⟨m,hn,fun h'' hs''=>?_⟩
  refine epf_list ⟨φ',Da,n,ys,y₁.trans ?_,rfl,(hs''.2 Da hDC).trans hD,hr,fD,none_of_ext y₁.ext nD⟩
  refine e2a1 x.eq fun h1 t1 e1=>?_
  refine ⟨⟨h'',t1,by rw [e1]⟩,fun b o e=>(hs''.2 b fun z=>?_).trans (x.ext b o e),x.up,x.new,fun a o e=>(hs''.2 a fun z=>?_).trans (x.fin a o e)⟩
  ·rw [z,nC] at e; exact no_none e
  ·rw [z,fC] at e; exact no_none e
set_option tactic.hygienic true in
theorem stepE_ok (PO : POk G l P) (O : VOk G l V) (sc : Scope) (ρ : Rho) (e : Expr) (d : D) (h : stepE P V sc ρ e = some d) : ESem G l sc ρ e d:=by
 intro hb env c φ s A E R S hc
 have hu : A.units + 8 < cLine:=by have:=R.units; lia
 have ep : ∀ {m : Sem Value},wpAny (model G.prog G.w) A m (EP φ s d) E s→wpAny (model G.prog G.w) A m (EPF false φ s d) E s:=fun h=>wpAny_mono h (fun _a _a p=>EP.epf p) fun _a _a e=>e
 induction e using PySem.Expr.casesOn
 case Constant k n p=>exact ep (const_ok h S.g.fin)
 case Name n p =>
  refine oif_e h fun hn h=>?_
  refine e0a2 (nmOk_parts hn) fun n1 n2=>?_
  exact ep (wpAny_Name (name_ok PO h n2 S hc) n1)
 case BinOp x op y p =>
  refine o2_e h fun a b ha hb' h=>?_
  refine wpAny_BinOp (O.then ha R S hc fun va φ₁ s₁ y₁ S₁ r₁=>O.then hb' R S₁ hc fun vb φ₂ s₂ y₂ S₂ r₂=>?_)
  unfold binF at h
  generalize hr : binL op a b = r_; induction r_ using Option.casesOn with
  | some r=>rw [hr] at h; refine some_e h ?_; exact wpAny_mono (binL_ok S₂.g.fin (r₁.mono y₂.up) r₂ hr) (fun v s' q=>epf_list (EPL.after (y₁.trans y₂) q)) fun _a _a e=>e
  | none=>rw [hr] at h; exact wpAny_mono (bin_ok S₂.g.fin (r₁.mono y₂.up) r₂ h) (fun v s' q=>epf_of (EP.after (y₁.trans y₂) q) (binD_nolist h)) fun _a _a e=>e
 case UnaryOp op x p =>
  refine o1_e h fun a ha h=>?_
  exact UnaryOp_ (O.then ha R S hc fun va φ₁ s₁ y₁ S₁ r₁=>wpAny_mono (un_ok S₁.g.fin r₁ h) (fun v s' q=>EP.epf (EP.after y₁ q)) fun _a _a e=>e)
 case BoolOp op vs p=>exact ep (bool_ok O R hc h S)
 case Compare x ops rs p =>
  induction ops using List.casesOn
  case nil=>exact no_none h
  case cons op ops =>
  induction ops using List.casesOn
  case cons=>exact no_none h
  case nil =>
  induction rs using List.casesOn
  case nil=>exact no_none h
  case cons r rs =>
  induction rs using List.casesOn
  case cons=>exact no_none h
  case nil =>
  refine oif_e h fun ok h=>?_
  refine o1_e h fun z h hz=>?_
  refine o2_e h fun a b ha hb' h=>?_
  refine some_e hz ?_
  exact wpAny_Compare1 (O.then ha R S hc fun va φ₁ s₁ y₁ S₁ r₁=>O.then hb' R S₁ hc fun vb φ₂ s₂ y₂ S₂ r₂=>cmp_ok S₂.g.fin hu (r₁.mono y₂.up) r₂ h (EP.epf ⟨φ₂,y₁.trans y₂,.bool _⟩)) (behind_ok ok)
 case IfExp t x o p =>
  refine o1_e h fun a ht h=>?_
  refine IfExp_ (O.thenT ht R S hc fun s' y S'=>?_)
  induction a using Bool.casesOn
  ·rw [if_neg Bool.false_ne_true]
   exact O.then h R S' hc fun v φ₁ s₁ y₁ _a r=>EP.epf ⟨φ₁,y.trans y₁,r⟩
  ·rw [if_pos rfl]
   exact O.then h R S' hc fun v φ₁ s₁ y₁ _a r=>EP.epf ⟨φ₁,y.trans y₁,r⟩
 case List es p =>
  refine oif_e h fun hl h=>?_
  refine o1_e h fun ds hds h=>?_
  refine some_e h ?_
  exact PyProof.Rows.List_ (wpAny_mono (evs_ok O R hc hds S) (fun vs s₁ q=>q.elim fun φ₁ q=>wpAny_mono (newList_ok q.1.fin q.2 (by rw [evs_length hds]; exact hl)) (fun v s' z=>epf_list (EPL.after q.1 z)) fun _a _a e=>e) fun _a _a e=>e)
 case Tuple es k p =>
  refine oif_e h fun hl h=>?_
  refine o1_e h fun ds hds h=>?_
  refine some_e h ?_
  exact PyProof.Rows.Tuple_ (wpAny_mono (evs_ok O R hc hds S) (fun vs s₁ q=>q.elim fun φ₁ q=>wpAny_mono (newTuple_ok q.1.fin q.2 (by rw [evs_length hds]; exact hl)) (fun v s' z=>EP.epf (EP.after q.1 z)) fun _a _a e=>e) fun _a _a e=>e)
 case Attribute o n p =>
  refine oif_e h fun hab h=>?_
  refine o1_e h fun a ha h=>?_
  rw [arm_eval_Attribute,attrBase_ok hab]
  refine wpAny_bind (O.then ha R S hc fun v φ₁ s₁ y₁ S₁ r₁=>wpAny_bind (wpAny_standAt (wpAny_bind (wpAny_holding ?_))))
  exact wpAny_mono (PO.att _ _ _ h v φ₁ s₁ A E S₁.g R r₁) (fun r s₂ q=>wpAny_bind (wpAny_letTemporaryGo (wpAny_pure (EP.epf (EP.after y₁ q))))) fun _a _a e=>e
 case Subscript v i p=>exact sub_E O R hc h S
 case Call f args kws pos =>
  induction f using PySem.Expr.casesOn
  case Attribute o n apos=>exact ep (mcall_ok PO O R hc h S)
  case Name n p =>
   refine o3_e h fun f ds ks hf hds hks h=>?_
   refine o1_e h fun v hv h=>?_
   rw [valD_inv hv] at hf
   exact ep (wpAny_Call_Name_kw (O.then hf R S hc fun w φ₁ s₁ y₁ S₁ r₁=>r₁.iVal ▸ call_go PO O R hc y₁ S₁ .nil hds hks h))
  all_goals exact no_none h
 case ListComp elt gs scope p =>
  induction gs using List.casesOn
  case nil=>exact no_none h
  case cons g gs =>
  induction gs using List.casesOn
  case cons=>exact no_none h
  case nil=>exact comp_E O R hc h S
 all_goals exact no_none h
theorem evN_ok (PO : POk G l P) : ∀ n,VOk G l (evN P n)
 | 0=>⟨fun _a _a _a _a h=>(no_none h),fun _a _a _a _a h=>(no_none h)⟩
 | n + 1=>⟨stepE_ok PO (evN_ok PO n),stepT_ok (evN_ok PO n)⟩
end
mutual
noncomputable def nmE : Nat→Expr→List Str
 | 0,_=>[]
 | n + 1,e=>match e with
  | .Name x _=>[x]
  | .BinOp l _ r _=>nmE n l ++ nmE n r
  | .UnaryOp _ x _=>nmE n x
  | .BoolOp _ vs _=>nmL n vs
  | .Compare l _ rs _=>nmE n l ++ nmL n rs
  | .IfExp t b o _=>nmE n t ++ nmE n b ++ nmE n o
  | .List es _=>nmL n es
  | .Tuple es _ _=>nmL n es
  | .Attribute o _ _=>nmE n o
  | .Subscript v i _=>nmE n v ++ nmE n i
  | .Slice a b c _=>(a.map (nmE n)).getD [] ++ (b.map (nmE n)).getD [] ++ (c.map (nmE n)).getD []
  | .Call f as ks _=>nmE n f ++ nmL n as ++ ks.flatMap fun k=>nmE n k.value
  | .ListComp elt gs _ _=>nmE n elt ++ gs.flatMap fun g=>nmE n g.iter ++ nmL n g.ifs
  | _=>[]
noncomputable def nmL : Nat→List Expr→List Str
 | 0,_=>[]
 | n + 1,es=>es.flatMap (nmE n)
end
inductive SR where
 | next (ρ : Rho)
 | brk (ρ : Rho)
 | cont (ρ : Rho)
 | ret (d : D)
noncomputable def frz1 (ρ : Rho) (x : Str) : Rho:=match ρ.lookup x with
 | some (.ow l)=>setR ρ x (.fz (.list l))
 | some (.oi _ C fs)=>setR ρ x (.fz (.inst C fs))
 | _=>ρ
noncomputable def frzR : Rho→List Str→Rho
 | ρ,[]=>ρ
 | ρ,x :: F=>frzR (frz1 ρ x) F
noncomputable def frzM (N : List Str) : Rho→Rho
 | []=>[]
 | (x,v) :: r=>(match v with
  | .ow l=>if N.contains x = true then (x,.fz (.list l)) else (x,.ow l)
  | .oi y C fs=>if N.contains x = true then (x,.fz (.inst C fs)) else (x,.oi y C fs)
  | v=>(x,v)) :: frzM N r
noncomputable def flat : D→Bool
 | .none=>true
 | .bool _=>true
 | .int _=>true
 | .str _=>true
 | .bytes _=>true
 | .val _=>true
 | _=>false
noncomputable def fuelN : Nat:=30
noncomputable def oO (ρ : Rho) (N : List Str) : Option D→Option (D×Rho):=o1 fun d=>some (d,if flat d = true then ρ else frzM N ρ)
noncomputable def evO (V : EvF) (sc : Scope) (ρ : Rho) (e : Expr) : Option (D×Rho):=oO ρ (nmE fuelN e) (V.e sc (frzM (nmE fuelN e) ρ) e)
noncomputable def evT (V : EvF) (sc : Scope) (ρ : Rho) (e : Expr) : Option Bool:=V.t sc (frzM (nmE fuelN e) ρ) e
noncomputable def lvOf (fr : Bool) (d : D) : LV:=match fr,d with
 | true,.list l=>.ow l
 | _,_=>.fz d
noncomputable def asgN (sc : Scope) (ρ : Rho) (x : Str) (lv : LV) : Option Rho:=if storable sc x && hasR ρ x then some (setR ρ x lv) else none
noncomputable def asgNs (sc : Scope) (d : D) : Rho→List Expr→Option Rho
 | ρ,[]=>some ρ
 | ρ,t :: r=>o1 (fun ρ'=>asgNs sc d ρ' r) (bind1 sc ρ t d)
set_option tactic.hygienic true in
noncomputable def oNext : Option Rho→Option SR:=o1 fun ρ=>some (.next ρ)
set_option tactic.hygienic true in
noncomputable abbrev forK (F : Rho→Option SR) : SR→Option SR
 | .next ρ=>F ρ
 | .cont ρ=>F ρ
 | .brk ρ=>some (.next ρ)
 | .ret d=>some (.ret d)
set_option tactic.hygienic true in
noncomputable def forD (X : Rho→Option SR) (bind : Rho→D→Option Rho) : Rho→List D→Option SR
 | ρ,[]=>some (.next ρ)
 | ρ,d :: ds=>o1 (fun ρ₁=>o1 (forK fun ρ₂=>forD X bind ρ₂ ds) (X ρ₁)) (bind ρ d)
set_option tactic.hygienic true in
noncomputable def whileD (T : Rho→Option Bool) (X : Rho→Option SR) : Nat→Rho→Option SR
 | 0,_=>none
 | n + 1,ρ=>o1 (fun t=>match t with
  | false=>some (.next ρ)
  | true=>o1 (forK fun ρ₂=>whileD T X n ρ₂) (X ρ)) (T ρ)
noncomputable def setF : List (Str×D)→Str→D→List (Str×D)
 | [],a,d=>[(a,d)]
 | (b,e) :: r,a,d=>if b = a then (b,d) :: r else (b,e) :: setF r a d
noncomputable def isN (f : Str→Bool) : Option Str→Bool
 | some x=>f x
 | none=>false
noncomputable def distinctNames : List Expr→List Str→Bool
 | [],_=>true
 | e :: r,seen=>isN (fun x=>!(seen.contains x) && distinctNames r (x :: seen)) (nameOf e)
noncomputable def notConsts : Expr→Bool
 | .Tuple vs _ _=>!(vs.all (constantsAlone 8)) && vs.all okE
 | _=>true
noncomputable def okV (e : Expr) : Bool:=noE 9 e && noE 10 e
noncomputable def notComp (e : Expr) : Bool:=noE 8 e && okV e
noncomputable def oAsg (sc : Scope) (x : Str) (fr : Bool) : Option (D×Rho)→Option SR:=o1 fun r=>oNext (asgN sc r.2 x (lvOf fr r.1))
noncomputable def seqD : D→Option (List D)
 | .tup ds=>some ds
 | .list ds=>some ds
 | _=>none
theorem seqD_inv {d : D} {l : List D} (h : seqD d = some l) : d = .tup l∨d = .list l:=by
 induction d using Mine.D.casesOn <;> first | exact no_none h | exact .inl (congrArg D.tup (some_inv h).symm) | exact .inr (congrArg D.list (some_inv h).symm)
noncomputable def oRow (sc : Scope) (ts : List Expr) : Option (D×Rho)→Option SR:=o1 fun r=>o1 (fun ds=>if ds.length≤lim then oNext (bindNs sc r.2 ts ds) else none) (seqD r.1)
noncomputable def oNames (sc : Scope) (ts : List Expr) : Option (D×Rho)→Option SR:=o1 fun r=>if flat r.1 = true then oNext (asgNs sc r.1 r.2 ts) else none
noncomputable def oiL : LV→Option (Addr×Addr×List (Str×D))
 | .oi y C fs=>some (y,C,fs)
 | _=>none
theorem oiL_inv {v : LV} {r : Addr×Addr×List (Str×D)} (h : oiL v = some r) : v = .oi r.1 r.2.1 r.2.2:=by
 induction v using Mine.LV.casesOn <;> first | exact no_none h | rw [some_inv h]
noncomputable def owL : LV→Option (List D)
 | .ow l=>some l
 | _=>none
theorem owL_inv {v : LV} {l : List D} (h : owL v = some l) : v = .ow l:=by
 induction v using Mine.LV.casesOn <;> first | exact no_none h | rw [some_inv h]
noncomputable def oAt2 (P : Pg) (x a : Str) (ok : Bool) (d : D) (ρ₁ : Rho) : Option LV→Option SR:=o1 fun v=>o1 (fun o=>if (P.st o.2.1 a && decide (o.2.2.length < 100) && ok) = true then some (.next (setR ρ₁ x (.oi o.1 o.2.1 (setF o.2.2 a d)))) else none) (oiL v)
noncomputable def oAttr (P : Pg) (x a : Str) (ok : Bool) : Option (D×Rho)→Option SR:=o1 fun r=>oAt2 P x a ok r.1 r.2 (r.2.lookup x)
noncomputable def oSub1 (x : Str) (ok : Bool) (d : D) : Option LV→Option (D×Rho)→Option SR:=o2 fun v r=>o2 (fun l k=>if (flat d && inB k l.length && ok && decide (l.length≤lim)) = true then some (.next (setR r.2 x (.ow (l.set (ix k l.length) d)))) else none) (owL v) (intD r.1)
noncomputable def oSub (V : EvF) (sc : Scope) (x : Str) (i : Expr) : Option (D×Rho)→Option SR:=o1 fun r=>oSub1 x (notSlice i) r.1 (r.2.lookup x) (evO V sc r.2 i)
noncomputable def oAug1 (sc : Scope) (x : Str) (v : Expr) (r : Option (D×Rho)) : LV→Option SR
 | .fz d=>o1 (fun a=>o1 (fun r=>o1 (fun b=>if nmOk x = true then oNext (asgN sc r.2 x (.fz (.int (a + b)))) else none) (intD r.1)) r) (intD d)
 | _=>none
noncomputable def oAug (sc : Scope) (x : Str) (v : Expr) (w : Option LV) (r : Option (D×Rho)) : Option SR:=o1 (oAug1 sc x v r) w
noncomputable def appT (m : Str) (l : List D) (d : D) : Option (List D):=if m = "append" then (if l.length≤lim then some [d] else none) else if m = "extend" then o1 (fun t=>if l.length + t.length≤lim then some t else none) (lstD d) else none
noncomputable def oApp (x m : Str) : Option LV→Option (D×Rho)→Option SR:=o2 fun v r=>o1 (fun l=>o1 (fun t=>some (.next (setR r.2 x (.ow (l ++ t))))) (appT m l r.1)) (owL v)
noncomputable def oIfS (X : Rho→List Stmt→Option SR) (ρ : Rho) (b o : List Stmt) : Option Bool→Option SR:=o1 fun t=>match t with
 | true=>X ρ b
 | false=>X ρ o
noncomputable def oFor (X : Rho→List Stmt→Option SR) (sc : Scope) (tgt : Expr) (b : List Stmt) : Option (D×Rho)→Option SR:=o1 fun r=>o1 (fun items=>forD (fun ρ=>X ρ b) (fun ρ d=>bindT sc ρ tgt d) r.2 items) (itD r.1)
noncomputable def oRet : Option (D×Rho)→Option SR:=o1 fun r=>some (.ret r.1)
set_option tactic.hygienic true in
noncomputable def oAssert (ρ : Rho) : Option Bool→Option SR:=o1 fun t=>match t with
 | true=>some (.next ρ)
 | false=>none
noncomputable def asg1 (P : Pg) (V : EvF) (sc : Scope) (ρ : Rho) (v : Expr) (t : Expr) : Option SR:=onE none
 (fun x _a=>if okV v = true then oAsg sc x (isFresh v) (evO V sc ρ v) else none)
 (fun ts _a _a=>if (distinctNames ts [] && notConsts v && (ts.length == 2 || ts.length == 3)) = true then oRow sc ts (evO V sc ρ v) else none)
 (fun y a _a=>o1 (fun x=>if (nmOk x) = true then oAttr P x a (notComp v) (evO V sc ρ v) else none) (nameOf y))
 (fun y i _a=>o1 (fun x=>if (notComp v && !((nmE fuelN i).contains x) && nmOk x) = true then oSub V sc x i (evO V sc ρ v) else none) (nameOf y))
 (fun _a _a _a _a=>none) t
noncomputable def asgS (P : Pg) (V : EvF) (sc : Scope) (ρ : Rho) (v : Expr) : List Expr→Option SR
 | []=>none
 | [t]=>asg1 P V sc ρ v t
 | t :: u :: r=>oNames sc (t :: u :: r) (evO V sc ρ v)
noncomputable def appS (V : EvF) (sc : Scope) (ρ : Rho) (m : Str) (ap cp : Pos) (as : List Expr) (ks : List Keyword) (x : Str) : Option SR:=match as,ks with
 | [e],[]=>if (!((nmE fuelN e).contains x) && ap.endLine == cp.line && okE e && nmOk x) = true then oApp x m (ρ.lookup x) (evO V sc ρ e) else none
 | _,_=>none
noncomputable def callF : Expr→Option (Expr×List Expr×List Keyword×Pos):=onE none (fun _a _a=>none) (fun _a _a _a=>none) (fun _a _a _a=>none) (fun _a _a _a=>none) (fun f as ks cp=>some (f,as,ks,cp))
noncomputable def attF : Expr→Option (Expr×Str×Pos):=onE none (fun _a _a=>none) (fun _a _a _a=>none) (fun y m ap=>some (y,m,ap)) (fun _a _a _a=>none) (fun _a _a _a _a=>none)
theorem callF_inv {e : Expr} {r : Expr×List Expr×List Keyword×Pos} (h : callF e = some r) : e = .Call r.1 r.2.1 r.2.2.1 r.2.2.2:=by
 induction e using PySem.Expr.casesOn <;> first | exact no_none h | rw [some_inv h]
theorem attF_inv {e : Expr} {r : Expr×Str×Pos} (h : attF e = some r) : e = .Attribute r.1 r.2.1 r.2.2:=by
 induction e using PySem.Expr.casesOn <;> first | exact no_none h | rw [some_inv h]
noncomputable def exprS (V : EvF) (sc : Scope) (ρ : Rho) (e : Expr) : Option SR:=o1 (fun c=>o1 (fun a=>o1 (fun x=>appS V sc ρ a.2.1 a.2.2 c.2.2.2 c.2.1 c.2.2.1 x) (nameOf a.1)) (attF c.1)) (callF e)
noncomputable def isNil {α : Type} : List α→Bool
 | []=>true
 | _=>false
noncomputable def addF : Operator→Bool
 | .Add=>true
 | _=>false
set_option tactic.hygienic true in
noncomputable def step1 (P : Pg) (V : EvF) (X : Rho→List Stmt→Option SR) (sc : Scope) (ρ : Rho) (st : Stmt) : Option SR:=match st with
 | .Assign ts v _=>asgS P V sc ρ v ts
 | .AugAssign t op v _=>o1 (fun x=>if addF op = true then oAug sc x v (ρ.lookup x) (evO V sc ρ v) else none) (nameOf t)
 | .Expr e _=>exprS V sc ρ e
 | .If t b o _=>oIfS X ρ b o (evT V sc ρ t)
 | .For tgt it b o _=>if (isNil o && okE it) = true then oFor X sc tgt b (evO V sc ρ it) else none
 | .While t b o _=>if isNil o = true then whileD (fun ρ=>evT V sc ρ t) (fun ρ=>X ρ b) 20 ρ else none
 | .Return v _=>(match v with
  | some v=>oRet (evO V sc ρ v)
  | none=>some (.ret .none))
 | .Pass _=>some (.next ρ)
 | .Break _=>some (.brk ρ)
 | .Continue _=>some (.cont ρ)
 | .Assert t _ _=>oAssert ρ (evT V sc ρ t)
 | .Try b hs o f _=>if (!(isNil hs) && isNil o && isNil f) = true then X ρ b else none
 | _=>none
set_option tactic.hygienic true in
noncomputable abbrev seqK (F : Rho→Option SR) : SR→Option SR
 | .next ρ=>F ρ
 | .brk ρ=>some (.brk ρ)
 | .cont ρ=>some (.cont ρ)
 | .ret d=>some (.ret d)
set_option tactic.hygienic true in
noncomputable def stepS (P : Pg) (V : EvF) (X : Rho→List Stmt→Option SR) (sc : Scope) : Rho→List Stmt→Option SR
 | ρ,[]=>some (.next ρ)
 | ρ,st :: r=>o1 (seqK fun ρ'=>stepS P V X sc ρ' r) (step1 P V X sc ρ st)
noncomputable def exN (P : Pg) : Nat→Scope→Rho→List Stmt→Option SR
 | 0,_,_,_=>none
 | n + 1,sc,ρ,b=>stepS P (evN P fuelN) (exN P n sc) sc ρ b
section
variable {G : Gd} {l : Nat} {V : EvF} {P : Pg} {sc : Scope} {ρ : Rho} {hb : Heap} {env : Env} {c : List CE} {φ : Fz} {s : Shared} {A : Around} {E : Value→Shared→Prop}
theorem own_once (S : St G hb sc env c φ s) {e : CE} (he : e∈c) {cv : CV} (hcv : cv.priv = []) : ∀ a∈e.cv.priv,a ∉ privs env (setC c e.x cv):=by
 intro a ha hm
 have pnd:=S.pnd
 rw [privs,List.nodup_cons] at pnd
 rcases List.mem_cons.mp hm with z | z
 ·exact mem_priv_ne S.pnd he (List.mem_append_right _ ha) z
 ·refine e1a2 (List.mem_flatMap.mp z) fun e₁ m₁ p₁=>?_
  rcases mem_set m₁ with ⟨e',m',k,rfl⟩ | ⟨m',k⟩
  ·have : e' = e:=name_inj S.nd m' he k
   subst this
   rw [priv_with] at p₁
   have nd : (e'.loc.priv ++ e'.cv.priv).Nodup:=priv_nodup pnd.2 he
   rw [List.nodup_append] at nd
   rcases List.mem_append.mp p₁ with q | q
   ·exact nd.2.2 a q a ha rfl
   ·rw [hcv] at q; cases q
  ·exact priv_apart pnd.2 he m' (fun q=>k q.symm) a (List.mem_append_right _ ha) p₁
theorem St.freezeWith (S : St G hb sc env c φ s) {e : CE} (he : e∈c) {v : Value} {d : D} {φ' : Fz} (hv : e.cv.val? = some v) (up : ∀ a o,φ a = some o→φ' a = some o) (fin : ∀ a o,φ' a = some o→s.heap.get? a = some o)
  (new : ∀ a o,φ' a = some o→φ a = some o∨a∈e.cv.priv) (r : Rep φ' v d) : St G hb sc env (setC c e.x (.fz v d)) φ' s:=by
 refine e1a2 (S.vars) fun m hn hvs=>?_
 have pnd:=S.pnd
 rw [privs,List.nodup_cons] at pnd
 have psub : ∀ a∈privs env (setC c e.x (.fz v d)),a∈privs env c:=fun a ha=>by
  rcases List.mem_cons.mp ha with z | z
  ·rw [z]; exact List.mem_cons_self
  ·rcases mem_setPriv z with w | w
   ·cases w
   ·exact List.mem_cons_of_mem _ w
 refine ⟨⟨fun b o q=>up b o (S.g.gnd b o q),fin⟩,S.base,S.kind,S.glo,S.bui,S.gk,fun e₁ h₁=>?_,by rw [set_names]; exact S.nd,?_,fun a ha=>?_,fun a ha=>S.pbs a (psub a ha),m,hn,fun e₁ h₁=>?_⟩
 ·rcases mem_set h₁ with ⟨e',m',k,rfl⟩ | ⟨m',k⟩
  ·exact S.lk e' m'
  ·exact S.lk e₁ m'
 ·rw [privs,List.nodup_cons]
  refine ⟨fun q=>?_,nodup_setPriv S.nd pnd.2 List.nodup_nil fun a ha=>(no_mem ha)⟩
  rcases mem_setPriv q with w | w
  ·cases w
  ·exact pnd.1 w
 ·generalize q : φ' a = r_; induction r_ using Option.casesOn with
  | none=>rfl
  | some o =>
   rcases new a o q with w | w
   ·rw [S.pfz a (psub a ha)] at w; exact no_none w
   ·exact (own_once S he rfl a w ha).elim
 ·rcases mem_set h₁ with ⟨e',m',k,rfl⟩ | ⟨m',k⟩
  ·have : e' = e:=name_inj S.nd m' he k
   subst this
   refine ⟨?_,r⟩
   have hs:=(hvs e' he).1
   obtain ⟨n,loc,cv⟩:=e'
   induction loc using Mine.Loc.casesOn with
   | loc=>exact ⟨hs.1,fun w hw=>hs.2 w (by cases hw; exact hv)⟩
   | own ca=>obtain ⟨h1,h2,ov,h3,h4⟩:=hs; exact ⟨h1,h2,ov,h3,fun w hw=>h4 w (by cases hw; exact hv)⟩
   | fre ca=>obtain ⟨h1,h2,ov,h3,h4⟩:=hs; exact ⟨h1,h2,ov,h3,fun w hw=>h4 w (by cases hw; exact hv)⟩
  ·exact ⟨(hvs e₁ m').1,(hvs e₁ m').2.mono up fun _a _a _a q=>q⟩
theorem frzM_nil (N : List Str) : ∀ ρ : Rho,frzM [] ρ = ρ
 | []=>rfl
 | (x,v) :: r=>by
  unfold frzM
  rw [frzM_nil N r]
  induction v using Mine.LV.casesOn <;> rfl
theorem frzM_cons {x : Str} {F : List Str} : ∀ {ρ : Rho},(ρ.map (·.1)).Nodup→frzM (x :: F) ρ = frzM F (frz1 ρ x)
 | [],_=>by unfold frz1; rfl
 | (y,v) :: r,nd=>by
  rw [List.map_cons,List.nodup_cons] at nd
  have ih:=frzM_cons (x:=x) (F:=F) nd.2
  have no : ∀ lv,x = y→setR r x lv = r:=fun lv z=>by
   unfold setR
   conv=>rhs; rw [← List.map_id r]
   apply List.map_congr_left
   intro p hp
   rw [if_neg]; rfl
   intro q
   exact nd.1 (z ▸ q ▸ List.mem_map.mpr ⟨p,hp,rfl⟩)
  by_cases hxy : x = y
  ·subst hxy
   have hl : List.lookup x ((x,v) :: r) = some v:=by rw [List.lookup_cons]; simp
   have hnone : r.lookup x = none:=by
    rw [List.lookup_eq_none_iff]
    intro p hp
    rw [bne_iff_ne]
    intro q
    exact nd.1 (q ▸ List.mem_map.mpr ⟨p,hp,rfl⟩)
   have f2 : frz1 r x = r:=by unfold frz1; rw [hnone]
   rw [f2] at ih
   unfold frz1
   rw [hl]
   induction v using Mine.LV.casesOn with
   | un=>unfold frzM; rw [ih]
   | fz d=>unfold frzM; rw [ih]
   | ow l =>
    have e : setR ((x,LV.ow l) :: r) x (.fz (.list l)) = (x,.fz (.list l)) :: r:=by
     show (if x = x then (x,_) else _) :: setR r x _ = _
     rw [if_pos rfl,no _ rfl]
    dsimp only
    rw [e]
    unfold frzM
    rw [ih]
    simp
   | oi y C fs =>
    have e : setR ((x,LV.oi y C fs) :: r) x (.fz (.inst C fs)) = (x,.fz (.inst C fs)) :: r:=by
     show (if x = x then (x,_) else _) :: setR r x _ = _
     rw [if_pos rfl,no _ rfl]
    dsimp only
    rw [e]
    unfold frzM
    rw [ih]
    simp
  ·have hb : (x == y) = false:=beq_eq_false_iff_ne.mpr hxy
   have hb' : (y == x) = false:=beq_eq_false_iff_ne.mpr fun z=>hxy z.symm
   have hl : List.lookup x ((y,v) :: r) = r.lookup x:=by rw [List.lookup_cons,hb]
   have f2 : frz1 ((y,v) :: r) x = (y,v) :: frz1 r x:=by
    unfold frz1
    rw [hl]
    split <;> first | rfl | skip
    all_goals (show (if y = x then _ else _) :: setR r x _ = _; rw [if_neg (fun z=>hxy z.symm)])
   rw [f2]
   conv=>lhs; unfold frzM
   conv=>rhs; unfold frzM
   rw [ih]
   induction v using Mine.LV.casesOn <;> simp only [List.contains_cons,hb',Bool.false_or]
theorem frz1_names (ρ : Rho) (x : Str) : (frz1 ρ x).map (·.1) = ρ.map (·.1):=by
 have set : ∀ lv,(setR ρ x lv).map (·.1) = ρ.map (·.1):=fun lv=>by
  unfold setR
  rw [List.map_map]
  apply List.map_congr_left
  intro p _
  simp only [Function.comp]
  split <;> rfl
 unfold frz1
 split <;> first | rfl | exact set _
theorem frzR_eq : ∀ {F : List Str} {ρ : Rho},(ρ.map (·.1)).Nodup→frzR ρ F = frzM F ρ
 | [],ρ,_=>(frzM_nil [] ρ).symm
 | x :: F,ρ,nd=>by
  rw [frzM_cons nd]
  have h : ((frz1 ρ x).map (·.1)).Nodup:=by rw [frz1_names]; exact nd
  exact frzR_eq h
theorem St.frzM_eq (S : St G hb sc env c φ s) (F : List Str) : Mine.frzM F (abs c) = Mine.frzR (abs c) F:=by
 refine (frzR_eq ?_).symm
 have : (abs c).map (·.1) = c.map (·.x):=by unfold abs; rw [List.map_map]; rfl
 rw [this]; exact S.nd
structure FR (env : Env) (c : List CE) (φ : Fz) (c' : List CE) (φ' : Fz) : Prop where
 up : ∀ a o,φ a = some o→φ' a = some o
 new : ∀ a o,φ' a = some o→φ a = some o∨a∈privs env c
 pv : ∀ a∈privs env c',a∈privs env c
theorem FR.refl : FR env c φ c φ:=⟨fun _a _a e=>e,fun _a _a e=>.inl e,fun _a h=>h⟩
theorem FR.trans {c₁ c₂ : List CE} {φ₁ φ₂ : Fz} (x : FR env c φ c₁ φ₁) (y : FR env c₁ φ₁ c₂ φ₂) : FR env c φ c₂ φ₂ :=
 ⟨fun a o e=>y.up a o (x.up a o e),fun a o e=>(y.new a o e).elim (x.new a o) fun h=>.inr (x.pv a h),fun a h=>x.pv a (y.pv a h)⟩
theorem set_pv {x : Str} {cv : CV} (h : cv.priv = []) : ∀ a∈privs env (setC c x cv),a∈privs env c:=fun a ha=>by
 rcases List.mem_cons.mp ha with z | z
 ·rw [z]; exact List.mem_cons_self
 ·rcases mem_setPriv z with w | w
  ·rw [h] at w; cases w
  ·exact List.mem_cons_of_mem _ w
theorem mem_setC {x : Str} {cv : CV} {e₀ : CE} (h : e₀∈c) (hx : e₀.x≠x) : e₀∈setC c x cv:=List.mem_map.mpr ⟨e₀,h,if_neg hx⟩
theorem ow_at (S : St G hb sc env c φ s) {e : CE} (he : e∈c) {a : Addr} {k : List D} (hcv : e.cv = .ow a k) : ∃ n vs,s.heap.get? a = some (lsO vs n)∧RepL φ vs k:=by
 refine e1a2 (S.vars) fun m hn hv=>?_
 have hg:=(hv e he).2
 rw [hcv] at hg
 exact hg
set_option tactic.hygienic true in
theorem St.frz1 (S : St G hb sc env c φ s) (x : Str) : ∃ c' φ',abs c' = frz1 (abs c) x∧St G hb sc env c' φ' s∧FR env c φ c' φ'∧(∀ e₀∈c,e₀.x≠x→e₀∈c'):=by
 unfold Mine.frz1
 generalize hl : (abs c).lookup x = o
 induction o using Option.casesOn with
 | none=>exact ⟨c,φ,rfl,S,FR.refl,fun _a h _a=>h⟩
 | some lv =>
 induction lv using Mine.LV.casesOn
 case ow l =>
  refine e1a3 (abs_lookup hl) fun e he rr2 hab=>?_
  subst rr2
  refine e1a1 (ab_ow hab) fun a hcv=>?_
  refine e2a2 (ow_at S he hcv) fun n vs ho r=>?_
  have hp : a∈e.cv.priv:=by rw [hcv]; exact .head _
  have mp : a∈privs env c:=List.mem_cons_of_mem _ (List.mem_flatMap.mpr ⟨e,he,List.mem_append_right _ hp⟩)
  have up:=Fz.put_up (o:=lsO vs n) (S.pfz a mp)
  refine ⟨_,φ.put a (lsO vs n),abs_set c e.x (.fz (.ref a) (.list l)),S.freezeWith he (by rw [hcv]; rfl) up (fun b o q=>?_) (fun b o q=>?_) (.list (Fz.put_self ..) (r.mono up)),⟨up,fun b o q=>?_,set_pv rfl⟩,fun e₀ h₀ n=>mem_setC h₀ n⟩
  ·exact Fz.put_inv q (fun z w=>z ▸ w ▸ ho) (S.g.fin b o)
  ·exact Fz.put_inv q (fun z _a=>.inr (z ▸ hp)) .inl
  ·exact Fz.put_inv q (fun z _a=>.inr (z ▸ mp)) .inl
 case oi y C fs =>
  refine e1a3 (abs_lookup hl) fun e he rr2 hab=>?_
  subst rr2
  refine e1a1 (ab_oi hab) fun dy hcv=>?_
  refine e1a2 (S.vars) fun m hn hv=>?_
  have hg:=(hv e he).2
  rw [hcv] at hg
  refine e0a2 hg fun ho hg=>?_
  refine e2a3 hg fun es n hd r _a=>?_
  have hp : e.cv.priv = [y,dy]:=by rw [hcv]; rfl
  have p1 : y∈e.cv.priv:=by rw [hp]; exact .head _
  have p2 : dy∈e.cv.priv:=by rw [hp]; exact .tail _ (.head _)
  have mp : ∀ b∈e.cv.priv,b∈privs env c:=fun b hb=>List.mem_cons_of_mem _ (List.mem_flatMap.mpr ⟨e,he,List.mem_append_right _ hb⟩)
  have fy:=S.pfz y (mp y p1)
  have hne : dy≠y:=by
   have pnd:=S.pnd
   rw [privs,List.nodup_cons] at pnd
   have nd : (e.loc.priv ++ e.cv.priv).Nodup:=priv_nodup pnd.2 he
   rw [List.nodup_append,hp,List.nodup_cons] at nd
   exact fun q=>nd.2.1.1 (q ▸ .head _)
  have f1 : (φ.put y (instObj C dy)) dy = none:=(Fz.put_ne _ _ hne).trans (S.pfz dy (mp dy p2))
  have up1 : ∀ a o,φ a = some o→((φ.put y (instObj C dy)).put dy (dictOf es n)) a = some o:=fun a o q=>Fz.put_up f1 a o (Fz.put_up fy a o q)
  refine ⟨_,(φ.put y (instObj C dy)).put dy (dictOf es n),abs_set c e.x (.fz (.ref y) (.inst C fs)),S.freezeWith he (by rw [hcv]; rfl) up1 (fun b o q=>?_) (fun b o q=>?_) (.inst (Fz.put_up f1 _ _ (Fz.put_self ..)) (Fz.put_self ..) (r.mono up1)),⟨up1,fun b o q=>?_,set_pv rfl⟩,fun e₀ h₀ n=>mem_setC h₀ n⟩
  ·exact Fz.put_inv q (fun z w=>z ▸ w ▸ hd) fun q=>Fz.put_inv q (fun z w=>z ▸ w ▸ ho) (S.g.fin b o)
  ·exact Fz.put_inv q (fun z _a=>.inr (z ▸ p2)) fun q=>Fz.put_inv q (fun z _a=>.inr (z ▸ p1)) .inl
  ·exact Fz.put_inv q (fun z _a=>.inr (z ▸ mp _ p2)) fun q=>Fz.put_inv q (fun z _a=>.inr (z ▸ mp _ p1)) .inl
 all_goals exact ⟨c,φ,rfl,S,FR.refl,fun _a h _a=>h⟩
theorem St.frzR : ∀ (F : List Str) {c : List CE} {φ : Fz},St G hb sc env c φ s→∃ c' φ',abs c' = frzR (abs c) F∧St G hb sc env c' φ' s∧FR env c φ c' φ'∧(∀ e₀∈c,F.contains e₀.x = false→e₀∈c')
 | [],c,φ,S=>⟨c,φ,rfl,S,FR.refl,fun _a h _a=>h⟩
 | x :: F,c,φ,S=>by
  refine e2a4 (S.frz1 x) fun c₁ φ₁ e₁ S₁ f₁ k₁=>?_
  refine e2a4 (St.frzR F S₁) fun c₂ φ₂ e₂ S₂ f₂ k₂=>?_
  refine ⟨c₂,φ₂,?_,S₂,f₁.trans f₂,fun e₀ h₀ n=>?_⟩
  ·rw [e₂,e₁]; rfl
  ·rw [List.contains_cons,Bool.or_eq_false_iff] at n
   exact k₂ e₀ (k₁ e₀ h₀ (by simpa using n.1)) n.2
structure SRel (env : Env) (c : List CE) (φ : Fz) (s : Shared) (φ' : Fz) (s' : Shared) : Prop where
 eq : ∃ h' tk,s' = { s with heap:=h',toks:=tk }
 up : ∀ a o,φ a = some o→φ' a = some o
 new : ∀ a o,φ' a = some o→φ a = some o∨a∈privs env c∨s.heap.get? a = none
 keep : ∀ b o,b ∉ privs env c→s.heap.get? b = some o→s'.heap.get? b = some o
noncomputable def PV (env : Env) (c : List CE) (s : Shared) (c' : List CE) : Prop:=∀ a∈privs env c',a∈privs env c∨s.heap.get? a = none
theorem SRel.refl : SRel env c φ s φ s:=⟨⟨s.heap,s.toks,rfl⟩,fun _a _a e=>e,fun _a _a e=>.inl e,fun _a _a _a e=>e⟩
theorem PV.refl : PV env c s c:=fun _a h=>.inl h
theorem SRel.none {φ' : Fz} {s' : Shared} (x : SRel env c φ s φ' s') {a : Addr} (h : s'.heap.get? a = none) : a∈privs env c∨s.heap.get? a = none:=by
 by_cases p : a∈privs env c
 ·exact .inl p
 ·refine .inr ?_
  generalize q : s.heap.get? a = r_; induction r_ using Option.casesOn with
  | none=>rfl
  | some o=>rw [x.keep a o p q] at h; exact no_some h
theorem PV.trans {c₁ c₂ : List CE} {φ' : Fz} {s' : Shared} (x : SRel env c φ s φ' s') (p : PV env c s c₁) (q : PV env c₁ s' c₂) : PV env c s c₂:=fun a ha=>by
 rcases q a ha with z | z
 ·exact p a z
 ·exact x.none z
theorem SRel.trans {c₁ : List CE} {φ₁ φ₂ : Fz} {s₁ s₂ : Shared} (x : SRel env c φ s φ₁ s₁) (p : PV env c s c₁) (y : SRel env c₁ φ₁ s₁ φ₂ s₂) : SRel env c φ s φ₂ s₂:=by
 refine e2a1 (x.eq) fun h1 t1 e1=>?_
 refine e2a1 (y.eq) fun h2 t2 e2=>?_
 refine ⟨⟨h2,t2,by rw [e2,e1]⟩,fun a o e=>y.up a o (x.up a o e),fun a o e=>?_,fun b o n e=>y.keep b o (fun q=>?_) (x.keep b o n e)⟩
 ·rcases y.new a o e with z | z | z
  ·exact x.new a o z
  ·exact .inr (p a z)
  ·exact .inr (x.none z)
 ·rcases p b q with z | z
  ·exact n z
  ·rw [e] at z; exact no_some z
theorem Step.srel {φ' : Fz} {s' : Shared} (x : Step φ s φ' s') : SRel env c φ s φ' s':=⟨x.eq,x.up,fun a o e=>(x.new a o e).imp id .inr,fun b o _a e=>x.ext b o e⟩
theorem FR.srel {c' : List CE} {φ' : Fz} (x : FR env c φ c' φ') : SRel env c φ s φ' s:=⟨⟨s.heap,s.toks,rfl⟩,x.up,fun a o e=>(x.new a o e).imp id .inl,fun _a _a _a e=>e⟩
theorem FR.pv' {c' : List CE} {φ' : Fz} (x : FR env c φ c' φ') : PV env c s c':=fun a h=>.inl (x.pv a h)
noncomputable def SNx (G : Gd) (hb : Heap) (sc : Scope) (env : Env) (c : List CE) (φ : Fz) (s : Shared) (s' : Shared) (ρ' : Rho) : Prop:=∃ c' φ',abs c' = ρ'∧St G hb sc env c' φ' s'∧SRel env c φ s φ' s'∧PV env c s c'
set_option tactic.hygienic true in
noncomputable def SPost (G : Gd) (hb : Heap) (sc : Scope) (env : Env) (c : List CE) (φ : Fz) (s : Shared) (r : SR) (f : Flow) (s' : Shared) : Prop:=match r,f with
 | .next ρ',.next=>SNx G hb sc env c φ s s' ρ'
 | .brk ρ',.brk=>SNx G hb sc env c φ s s' ρ'
 | .cont ρ',.cont=>SNx G hb sc env c φ s s' ρ'
 | .ret d,.ret v=>∃ φ',Rep φ' v d∧Gnd G φ' s'∧SRel env c φ s φ' s'
 | _,_=>False
theorem SNx.after {c₁ : List CE} {φ₁ : Fz} {s₁ s₂ : Shared} {ρ' : Rho} (x : SRel env c φ s φ₁ s₁) (p : PV env c s c₁) (y : SNx G hb sc env c₁ φ₁ s₁ s₂ ρ') : SNx G hb sc env c φ s s₂ ρ' :=
 e2a4 y fun c' φ' a b d e=>⟨c',φ',a,b,x.trans p d,p.trans x e⟩
theorem SPost.after {c₁ : List CE} {φ₁ : Fz} {s₁ s₂ : Shared} {r : SR} {f : Flow} (x : SRel env c φ s φ₁ s₁) (p : PV env c s c₁) (y : SPost G hb sc env c₁ φ₁ s₁ r f s₂) : SPost G hb sc env c φ s r f s₂:=by
 induction r using Mine.SR.casesOn <;> induction f using PySem.Flow.casesOn <;> first | exact SNx.after x p y | exact e1a3 y fun φ' a b d=>⟨φ',a,b,x.trans p d⟩ | exact False.elim y
theorem flat_rep {v : Value} {d : D} {φ' : Fz} (r : Rep φ v d) (h : flat d = true) : Rep φ' v d:=by
 cases r <;> first | (exact no_ft h; done) | constructor
noncomputable def VOf (fr : Bool) (d : D) (φ₁ : Fz) (v : Value) (s s' : Shared) : Prop:=match fr,d with
 | true,.list l=>∃ a n vs,v = .ref a∧s'.heap.get? a = some (lsO vs n)∧RepL φ₁ vs l∧φ₁ a = none∧s.heap.get? a = none
 | _,_=>Rep φ₁ v d
theorem VOf.cases {fr : Bool} {d : D} {φ₁ : Fz} {v : Value} {s s' : Shared} (h : VOf fr d φ₁ v s s') : (lvOf fr d = .fz d∧Rep φ₁ v d)∨∃ l,d = .list l∧lvOf fr d = .ow l∧∃ a n vs,v = .ref a∧s'.heap.get? a = some (lsO vs n)∧RepL φ₁ vs l∧φ₁ a = none∧s.heap.get? a = none:=by
 induction fr using Bool.casesOn
 ·exact .inl ⟨rfl,h⟩
 ·induction d using Mine.D.casesOn <;> first | exact .inl ⟨rfl,h⟩ | exact .inr ⟨_,rfl,rfl,h⟩
structure EO (G : Gd) (hb : Heap) (sc : Scope) (env : Env) (c : List CE) (φ : Fz) (s : Shared) (N : List Str) (fr : Bool) (d : D) (ρ₁ : Rho) (v : Value) (s' : Shared) (c₁ : List CE) (φ₁ : Fz) : Prop where
 same : ∀ e₀∈c,N.contains e₀.x = false→e₀∈c₁
 ab : abs c₁ = ρ₁
 st : St G hb sc env c₁ φ₁ s'
 rel : SRel env c φ s φ₁ s'
 pv : ∀ a∈privs env c₁,a∈privs env c
 ext : ∀ b o,s.heap.get? b = some o→s'.heap.get? b = some o
 val : VOf fr d φ₁ v s s'
theorem evO_ok (O : VOk G l V) (R : Room A l) (S : St G hb sc env c φ s) {e : Expr} {d : D} {ρ₁ : Rho} (h : evO V sc (abs c) e = some (d,ρ₁)) {Q : Value→Shared→Prop}
  (k : ∀ v s' c₁ φ₁,EO G hb sc env c φ s (nmE fuelN e) (isFresh e) d ρ₁ v s' c₁ φ₁→Q v s') : wpAny (model G.prog G.w) A (eval e env) Q E s:=by
 unfold evO at h
 refine o1_e h fun d' hd h=>?_
 rw [S.frzM_eq] at hd
 cases h
 refine e2a4 (S.frzR (nmE fuelN e)) fun c' φ' e' S' F' K'=>?_
 refine wpAny_mono (O.e sc _ e d hd hb env c' φ' s A E R S' e') (fun v s' p=>?_) fun _a _a e=>e
 generalize hf : flat d = r_; induction r_ using Bool.casesOn with
 | true =>
  rw [if_pos hf] at k
  refine e1a2 (p.ep) fun φ₂ x₂ r₂=>?_
  have y : Step φ s φ s':=⟨x₂.eq,x₂.ext,fun _a _a e=>e,fun _a _a e=>.inl e,fun a o e=>x₂.fin a o (x₂.up a o (F'.up a o e))⟩
  refine k v s' c φ ⟨fun _a h _a=>h,rfl,S.step y,y.srel,fun _a h=>h,y.ext,?_⟩
  have : Rep φ v d:=flat_rep r₂ hf
  generalize isFresh e = r_; induction r_ using Bool.casesOn <;> induction d using Mine.D.casesOn <;> first | exact this | exact no_ft hf
 | false =>
  rw [if_neg (by rw [hf]; exact Bool.false_ne_true),S.frzM_eq] at k
  have go : ∀ {φ₂ : Fz},Step φ' s φ₂ s'→VOf (isFresh e) d φ₂ v s s'→Q v s':=fun x₂ val=>k v s' c' _ ⟨K',e',S'.step x₂,F'.srel.trans F'.pv' x₂.srel,F'.pv,x₂.ext,val⟩
  clear k
  generalize isFresh e = fr at p go
  induction fr using Bool.casesOn
  ·refine e1a2 (p.ep) fun φ₂ x₂ r₂=>?_
   exact go x₂ r₂
  ·induction d using Mine.D.casesOn <;> first | (obtain ⟨φ₂,x₂,r₂⟩:=p.ep; exact go x₂ r₂) | skip
   refine e4a6 (p) fun φ₂ a n vs x₂ h1 ho r₂ fa na=>?_
   exact go x₂ ⟨a,n,vs,h1,ho,r₂,fa,na⟩
theorem evT_ok (O : VOk G l V) (R : Room A l) (S : St G hb sc env c φ s) {e : Expr} {b : Bool} (h : evT V sc (abs c) e = some b) {Q : Bool→Shared→Prop} (k : ∀ s',St G hb sc env c φ s'→Step φ s φ s'→Q b s') :
  wpAny (model G.prog G.w) A (isTrue e env (eval e env)) Q E s:=by
 unfold evT at h
 rw [S.frzM_eq] at h
 refine e2a4 (S.frzR (nmE fuelN e)) fun c' φ' e' S' F' K'=>?_
 refine wpAny_mono (O.t sc _ e b h hb env c' φ' s A E R S' e') (fun r s' p=>?_) fun _a _a e=>e
 refine e0a2 (p) fun rr0 x=>?_
 subst rr0
 have y : Step φ s φ s':=⟨x.eq,x.ext,fun _a _a e=>e,fun _a _a e=>.inl e,fun a o e=>x.fin a o (F'.up a o e)⟩
 exact k s' (S.step y) y
end
section
variable {G : Gd} {l : Nat} {V : EvF} {P : Pg} {sc : Scope} {ρ : Rho} {hb : Heap} {env : Env} {c : List CE} {φ : Fz} {s : Shared} {A : Around} {E : Value→Shared→Prop}
theorem privs_set (nd : (c.map (·.x)).Nodup) {e : CE} (he : e∈c) {cv' : CV} (hp : cv'.priv = e.cv.priv) : privs env (setC c e.x cv') = privs env c:=by
 unfold privs
 congr 1
 unfold setC
 rw [List.flatMap_def,List.flatMap_def,List.map_map]
 congr 1
 apply List.map_congr_left
 intro e' he'
 simp only [Function.comp]
 by_cases k : e'.x = e.x
 ·have : e' = e:=name_inj nd he' he k
  subst this
  rw [if_pos rfl]
  show e'.loc.priv ++ cv'.priv = e'.loc.priv ++ e'.cv.priv
  rw [hp]
 ·rw [if_neg k]
theorem St.touch (S : St G hb sc env c φ s) {e : CE} (he : e∈c) {cv' : CV} (hv : cv'.val? = e.cv.val?) (hp : cv'.priv = e.cv.priv) {b : Addr} (hb' : b∈e.cv.priv) {h' : Heap} {tk : Nat} (hsb : Heap.SameBut b s.heap h') (good : Good G.w φ h' cv') :
  St G hb sc env (setC c e.x cv') φ { s with heap:=h',toks:=tk }:=by
 refine e1a2 (S.vars) fun m hn hs=>?_
 have hbp : b∈privs env c:=List.mem_cons_of_mem _ (List.mem_flatMap.mpr ⟨e,he,List.mem_append_right _ hb'⟩)
 have pnd:=S.pnd
 rw [privs,List.nodup_cons] at pnd
 have hbl : env.locals≠b:=fun q=>mem_priv_ne S.pnd he (List.mem_append_right _ hb') q.symm
 have up : ∀ a o,a≠b→s.heap.get? a = some o→h'.get? a = some o:=fun a o n e=>(hsb.2 a n).trans e
 have pe:=privs_set (env:=env) S.nd he hp
 refine ⟨⟨S.g.gnd,fun a o e=>up a o (fun q=>?_) (S.g.fin a o e)⟩,fun a o e=>up a o (fun q=>?_) (S.base a o e),S.kind,S.glo,S.bui,S.gk,fun e₁ h₁=>?_,by rw [set_names]; exact S.nd,by rw [pe]; exact S.pnd,by rw [pe]; exact S.pfz,by rw [pe]; exact S.pbs,
  m,hn.sameBut hsb hbl,fun e₁ h₁=>?_⟩
 ·rw [q,S.pfz b hbp] at e; exact no_none e
 ·rw [q,S.pbs b hbp] at e; exact no_none e
 ·rcases mem_set h₁ with ⟨e',m',k,rfl⟩ | ⟨m',k⟩
  ·exact S.lk e' m'
  ·exact S.lk e₁ m'
 ·rcases mem_set h₁ with ⟨e',m',k,rfl⟩ | ⟨m',k⟩
  ·have : e' = e:=name_inj S.nd m' he k
   subst this
   refine ⟨?_,good⟩
   have h0:=(hs e' he).1
   have nd : (e'.loc.priv ++ e'.cv.priv).Nodup:=priv_nodup pnd.2 he
   rw [List.nodup_append] at nd
   have h1 : Slot hb env h' m e':=h0.mono fun a ha o q=>up a o (fun z=>nd.2.2 a ha b hb' z) q
   obtain ⟨n,loc,cv⟩:=e'
   induction loc using Mine.Loc.casesOn with
   | loc=>exact ⟨h1.1,fun w hw=>h1.2 w (by rw [← hv]; exact hw)⟩
   | own ca=>obtain ⟨g1,g2,ov,g3,g4⟩:=h1; exact ⟨g1,g2,ov,g3,fun w hw=>g4 w (by rw [← hv]; exact hw)⟩
   | fre ca=>obtain ⟨g1,g2,ov,g3,g4⟩:=h1; exact ⟨g1,g2,ov,g3,fun w hw=>g4 w (by rw [← hv]; exact hw)⟩
  ·have ap:=priv_apart pnd.2 he m' (fun q=>k q.symm) b (List.mem_append_right _ hb')
   exact ⟨(hs e₁ m').1.mono fun a ha o q=>up a o (fun z=>ap (List.mem_append_left _ (z ▸ ha))) q,(hs e₁ m').2.mono (fun _a _a q=>q) fun a ha o q=>up a o (fun z=>ap (List.mem_append_right _ (z ▸ ha))) q⟩
theorem SRel.touch {b : Addr} {h' : Heap} {tk : Nat} (hb' : b∈privs env c) (hsb : Heap.SameBut b s.heap h') : SRel env c φ s φ { s with heap:=h',toks:=tk } :=
 ⟨⟨h',tk,rfl⟩,fun _a _a e=>e,fun _a _a e=>.inl e,fun a o n e=>(hsb.2 a fun q=>n (q ▸ hb')).trans e⟩
theorem own_mem {e : CE} (he : e∈c) {a : Addr} (h : a∈e.cv.priv) : a∈privs env c:=List.mem_cons_of_mem _ (List.mem_flatMap.mpr ⟨e,he,List.mem_append_right _ h⟩)
set_option tactic.hygienic true in
theorem SPost.store {M : Model} {c₁ : List CE} {φ₁ : Fz} {s₁ : Shared} {x : Str} {cv : CV} {v : Value} (S₁ : St G hb sc env c₁ φ₁ s₁) (rel : SRel env c φ s φ₁ s₁) (pv : ∀ a∈privs env c₁,a∈privs env c) (hv : cv.val? = some v) (F : Fit G hb env c₁ φ₁ s₁ cv)
  (new : ∀ a∈cv.priv,a∈privs env c∨s.heap.get? a = none) (h : (storable sc x && hasR (abs c₁) x) = true) :
  wpAny M A (storeName env x v) (fun _a s₂=>SPost G hb sc env c φ s (.next (setR (abs c₁) x cv.ab)) .next s₂) E s₁:=by
 refine e0a2 (Bool.and_eq_true_iff.mp h) fun q1 q2=>?_
 refine e1a2 (hasR_mem q2) fun e he rr2=>?_
 subst rr2
 refine S₁.store he (storable_ne q1) hv F fun h' tk S' hs=>?_
 refine e1a2 (hs) fun b hbp hsb=>?_
 refine ⟨_,φ₁,abs_set c₁ e.x cv,S',rel.trans (fun a ha=>.inl (pv a ha)) (SRel.touch hbp hsb),fun a ha=>?_⟩
 rcases List.mem_cons.mp ha with z | z
 ·rw [z]; exact .inl List.mem_cons_self
 ·rcases mem_setPriv z with w | w
  ·exact new a w
  ·exact .inl (pv a (List.mem_cons_of_mem _ w))
set_option tactic.hygienic true in
theorem asg_ok {M : Model} {N : List Str} {fr : Bool} {d : D} {ρ₁ ρ' : Rho} {v : Value} {s₁ : Shared} {c₁ : List CE} {φ₁ : Fz} {x : Str} (S : St G hb sc env c φ s) (X : EO G hb sc env c φ s N fr d ρ₁ v s₁ c₁ φ₁) (h : asgN sc ρ₁ x (lvOf fr d) = some ρ') :
  wpAny M A (storeName env x v) (fun _a s₂=>SPost G hb sc env c φ s (.next ρ') .next s₂) E s₁:=by
 refine oif_e h fun q h=>?_
 refine some_e h ?_
 rw [← X.ab] at q ⊢
 rcases X.val.cases with ⟨e,val⟩ | ⟨l,_,e,a,n,vs,rfl,ho,r,fa,na⟩
 ·rw [e]
  exact SPost.store (cv:=.fz v d) X.st X.rel X.pv rfl (Fit.fz val) (fun _a hb=>(no_mem hb)) q
 ·rw [e]
  have np : a ∉ privs env c:=fun hm=>by
   obtain ⟨o,w⟩:=S.privLive a hm; rw [na] at w; exact no_none w
  exact SPost.store (cv:=.ow a l) X.st X.rel X.pv rfl ⟨⟨n,vs,ho,r⟩,List.Pairwise.cons (fun _a h=>no_mem h) .nil,fun b hb=>List.mem_singleton.mp hb ▸ ⟨fun hm=>np (X.pv a hm),fa,none_of_ext S.base na⟩⟩ (fun b hb=>.inr (List.mem_singleton.mp hb ▸ na)) q
theorem EO.frozen {N : List Str} {fr : Bool} {d : D} {ρ₁ : Rho} {v : Value} {s₁ : Shared} {c₁ : List CE} {φ₁ : Fz} (S : St G hb sc env c φ s) (X : EO G hb sc env c φ s N fr d ρ₁ v s₁ c₁ φ₁) : ∃ φ₂,EO G hb sc env c φ s N false d ρ₁ v s₁ c₁ φ₂∧Rep φ₂ v d∧(∀ a o,φ₁ a = some o→φ₂ a = some o):=by
 rcases X.val.cases with ⟨_,val⟩ | ⟨l,rfl,_,a,n,vs,rfl,ho,r,fa,na⟩
 ·exact ⟨φ₁,⟨X.same,X.ab,X.st,X.rel,X.pv,X.ext,val⟩,val,fun _a _a e=>e⟩
 ·have up:=Fz.put_up (o:=lsO vs n) fa
  have new : ∀ b o,(φ₁.put a (lsO vs n)) b = some o→φ₁ b = some o∨(b = a∧o = lsO vs n):=fun b o q=>by
   by_cases z : b = a
   ·subst z; rw [Fz.put_self] at q; exact .inr ⟨rfl,some_inv q⟩
   ·rw [Fz.put_ne _ _ z] at q; exact .inl q
  have S':=X.st.moreFz up (fun b o q=>(new b o q).elim (X.st.g.fin b o) fun z=>z.1 ▸ z.2 ▸ ho) fun b o q hm=>by
   rcases new b o q with w | w
   ·rw [X.st.pfz b hm] at w; exact no_none w
   ·obtain ⟨o',w'⟩:=S.privLive b (X.pv b hm); rw [w.1,na] at w'; exact no_none w'
  have r' : Rep (φ₁.put a (lsO vs n)) (.ref a) (.list l):=.list (Fz.put_self ..) (r.mono up)
  exact ⟨_,⟨X.same,X.ab,S',⟨X.rel.eq,fun b o e=>up b o (X.rel.up b o e),fun b o e=>(new b o e).elim (X.rel.new b o) fun w=>.inr (.inr (w.1 ▸ na)),X.rel.keep⟩,X.pv,X.ext,r'⟩,r',up⟩
noncomputable def XSem (G : Gd) (l : Nat) (sc : Scope) (ρ : Rho) (b : List Stmt) (r : SR) : Prop :=
 ∀ hb env c φ s A E,Room A l→St G hb sc env c φ s→abs c = ρ→wpAny (model G.prog G.w) A (execs b env) (SPost G hb sc env c φ s r) E s
noncomputable def SSem (G : Gd) (l : Nat) (sc : Scope) (ρ : Rho) (st : Stmt) (r : SR) : Prop :=
 ∀ hb env c φ s A E,Room A l→St G hb sc env c φ s→abs c = ρ→wpAny (model G.prog G.w) A (exec st env) (SPost G hb sc env c φ s r) E s
noncomputable def XOk (G : Gd) (l : Nat) (sc : Scope) (X : Rho→List Stmt→Option SR) : Prop:=∀ ρ b r,X ρ b = some r→XSem G l sc ρ b r
theorem evO_then (O : VOk G l V) (R : Room A l) (S : St G hb sc env c φ s) {e : Expr} {d : D} {ρ₁ : Rho} (h : evO V sc (abs c) e = some (d,ρ₁)) {Q : Value→Shared→Prop}
  (k : ∀ v s' c₁ φ₁,EO G hb sc env c φ s (nmE fuelN e) false d ρ₁ v s' c₁ φ₁→Rep φ₁ v d→Q v s') : wpAny (model G.prog G.w) A (eval e env) Q E s :=
 evO_ok O R S h fun v s' c₁ φ₁ X=>by
  refine e1a3 (X.frozen S) fun φ₂ Y r _a=>?_
  exact k v s' c₁ φ₂ Y r
theorem return_ok (O : VOk G l V) {v : Expr} {pos : Pos} {d : D} {ρ₁ : Rho} (h : evO V sc ρ v = some (d,ρ₁)) : SSem G l sc ρ (.Return (some v) pos) (.ret d):=by
 intro hb env c φ s A E R S hc
 subst hc
 rw [exec_Return_some]
 refine wpAny_bind (wpAny_standAt (wpAny_bind (evO_then O R S h fun v s' c₁ φ₁ X r=>wpAny_pure ?_)))
 exact ⟨φ₁,r,X.st.g,X.rel⟩
theorem if_ok (O : VOk G l V) {X : Rho→List Stmt→Option SR} (HX : XOk G l sc X) {t : Expr} {b o : List Stmt} {pos : Pos} {z : Bool} {r : SR} (ht : evT V sc ρ t = some z) (h : X ρ (if z then b else o) = some r) : SSem G l sc ρ (.If t b o pos) r:=by
 intro hb env c φ s A E R S hc
 subst hc
 refine wpAny_If (evT_ok O R S ht fun s' S' x=>?_)
 induction z using Bool.casesOn
 ·rw [if_neg Bool.false_ne_true] at h ⊢
  exact wpAny_mono (HX _ _ _ h hb env c φ s' A E R S' rfl) (fun f s₂ q=>q.after x.srel PV.refl) fun _a _a e=>e
 ·rw [if_pos rfl] at h ⊢
  exact wpAny_mono (HX _ _ _ h hb env c φ s' A E R S' rfl) (fun f s₂ q=>q.after x.srel PV.refl) fun _a _a e=>e
end
section
variable {G : Gd} {l : Nat} {V : EvF} {P : Pg} {sc : Scope} {ρ : Rho} {hb : Heap} {env : Env} {c : List CE} {φ : Fz} {s : Shared} {A : Around} {E : Value→Shared→Prop}
theorem Moved.srel {c' : List CE} {s' : Shared} (x : Moved G hb sc env c φ s c' s') : SRel env c φ s φ s':=⟨x.eq,fun _a _a e=>e,fun _a _a e=>.inl e,x.keep⟩
structure FSt (G : Gd) (hb : Heap) (sc : Scope) (env : Env) (c : List CE) (φ : Fz) (s : Shared) (wr : List Addr) (S : Fz→Heap→Prop) (c' : List CE) (φ' : Fz) (s' : Shared) : Prop where
 st : St G hb sc env c' φ' s'
 sx : S φ' s'.heap
 rel : SRel env c φ s φ' s'
 pv : PV env c s c'
 fz : ∀ b∈wr,φ' b = none
 pr : ∀ b∈wr,b ∉ privs env c'
theorem FSt.go {wr : List Addr} {Sx : Fz→Heap→Prop} {c₁ c₂ : List CE} {φ₁ φ₂ : Fz} {s₁ s₂ : Shared} (T : FrO wr Sx) (F : FSt G hb sc env c φ s wr Sx c₁ φ₁ s₁) (S₂ : St G hb sc env c₂ φ₂ s₂) (x : SRel env c₁ φ₁ s₁ φ₂ s₂) (y : PV env c₁ s₁ c₂) : FSt G hb sc env c φ s wr Sx c₂ φ₂ s₂ where
 st:=S₂
 sx:=T.frame _ _ _ _ F.sx x.up F.st.g.fin S₂.g.fin fun b hb' o e=>x.keep b o (F.pr b hb') e
 rel:=F.rel.trans F.pv x
 pv:=F.pv.trans F.rel y
 fz:=fun b hb'=>by
  generalize q : φ₂ b = r_; induction r_ using Option.casesOn with
  | none=>rfl
  | some o =>
   rcases x.new b o q with z | z | z
   ·rw [F.fz b hb'] at z; exact no_none z
   ·exact (F.pr b hb' z).elim
   ·exact (live_ne (T.live _ _ F.sx b hb') z).elim
 pr:=fun b hb' hm=>(y b hm).elim (F.pr b hb') (live_ne (T.live _ _ F.sx b hb'))
set_option tactic.hygienic true in
noncomputable def TurnP (G : Gd) (hb : Heap) (sc : Scope) (env : Env) (c : List CE) (φ : Fz) (s : Shared) (wr : List Addr) (S : Fz→Heap→Prop) (K : Rho→Option SR) (r : SR) (f : Flow) (s₄ : Shared) : Prop:=match f with
 | .next=>∃ c₄ φ₄,K (abs c₄) = some r∧FSt G hb sc env c φ s wr S c₄ φ₄ s₄
 | .cont=>∃ c₄ φ₄,K (abs c₄) = some r∧FSt G hb sc env c φ s wr S c₄ φ₄ s₄
 | .brk=>SPost G hb sc env c φ s r .next s₄
 | .ret v=>SPost G hb sc env c φ s r (.ret v) s₄
theorem FSt.turn {wr : List Addr} {Sx : Fz→Heap→Prop} {c₁ : List CE} {φ₁ : Fz} {s₁ s₄ : Shared} (T : FrO wr Sx) (F : FSt G hb sc env c φ s wr Sx c₁ φ₁ s₁) {K : Rho→Option SR} {r r₁ : SR} {f : Flow} (hk : forK K r₁ = some r) (q : SPost G hb sc env c₁ φ₁ s₁ r₁ f s₄) : TurnP G hb sc env c φ s wr Sx K r f s₄:=by
 induction r₁ using Mine.SR.casesOn <;> induction f using PySem.Flow.casesOn <;> first | exact q.elim | skip
 ·refine e2a4 (q) fun c₄ φ₄ rr2 S₄ x₄ y₄=>?_
  subst rr2
  exact ⟨c₄,φ₄,hk,F.go T S₄ x₄ y₄⟩
 ·refine e2a4 (q) fun c₄ φ₄ ab₄ S₄ x₄ y₄=>?_
  have qq:=Option.some.inj (hk); subst qq
  exact ⟨c₄,φ₄,ab₄,S₄,F.rel.trans F.pv x₄,F.pv.trans F.rel y₄⟩
 ·refine e2a4 (q) fun c₄ φ₄ rr2 S₄ x₄ y₄=>?_
  subst rr2
  exact ⟨c₄,φ₄,hk,F.go T S₄ x₄ y₄⟩
 ·refine e1a3 (q) fun φ₄ r₄ g₄ x₄=>?_
  have qq:=Option.some.inj (hk); subst qq
  exact ⟨φ₄,r₄,g₄,F.rel.trans F.pv x₄⟩
theorem FSt.item {wr : List Addr} {Sx Sy : Fz→Heap→Prop} {c₁ : List CE} {φ₁ φ₂ : Fz} {s₁ : Shared} {h₂ : Heap} {tk₂ : Nat} (T : FrO wr Sx) (F : FSt G hb sc env c φ s wr Sx c₁ φ₁ s₁) (hbW : ∀ b∈wr,hb.get? b = none) (w3 : ∀ b∈wr,s.heap.get? b = none) (st₂ : Sy φ₂ h₂)
  (keep₂ : ∀ b o,b ∉ wr→s₁.heap.get? b = some o→h₂.get? b = some o) (up₂ : ∀ a o,φ₁ a = some o→φ₂ a = some o) (new₂ : ∀ a o,φ₂ a = some o→φ₁ a = some o∨s₁.heap.get? a = none) (fin₂ : ∀ a o,φ₂ a = some o→h₂.get? a = some o) :
  FSt G hb sc env c φ s wr Sy c₁ φ₂ { s₁ with heap:=h₂,toks:=tk₂ } where
 st:=(F.st.other (h':=h₂) (tk:=tk₂) (·∈wr) (fun b o nb e=>keep₂ b o nb e) F.fz hbW F.pr).moreFz up₂ fin₂ fun a o e hp=>by
  rcases new₂ a o e with w | w
  ·rw [F.st.pfz a hp] at w; exact no_none w
  ·exact live_ne (F.st.privLive a hp) w
 sx:=st₂
 rel:=by
  refine e2a1 (F.rel.eq) fun h1 t1 e1=>?_
  exact ⟨⟨h₂,tk₂,by rw [e1]⟩,fun a o e=>up₂ a o (F.rel.up a o e),fun a o e=>(new₂ a o e).elim (F.rel.new a o) fun z=>.inr (F.rel.none z),fun b o n e=>keep₂ b o (fun hw=>by rw [w3 b hw] at e; exact no_none e) (F.rel.keep b o n e)⟩
 pv:=F.pv
 fz:=fun b hb'=>by
  generalize q : φ₂ b = r_; induction r_ using Option.casesOn with
  | none=>rfl
  | some o =>
   rcases new₂ b o q with z | z
   ·rw [F.fz b hb'] at z; exact no_none z
   ·exact (live_ne (T.live _ _ F.sx b hb') z).elim
 pr:=F.pr
noncomputable def BSem (G : Gd) (hb : Heap) (sc : Scope) (env : Env) (A : Around) (b : List Stmt) (ρ : Rho) (r : SR) : Prop :=
 ∀ c φ s E,St G hb sc env c φ s→abs c = ρ→wpAny (model G.prog G.w) A (execs b env) (SPost G hb sc env c φ s r) E s
set_option tactic.hygienic true in
theorem for_loop {b : List Stmt} {X : Rho→Option SR} (HX : ∀ ρ r,X ρ = some r→BSem G hb sc env A b ρ r) (R : Room A l) (S : St G hb sc env c φ s) {tgt : Expr} {r : SR} {I : Addr} {items : List D} {wr : List Addr} {Sx : Nat→Fz→Heap→Prop}
  (T : Cu G A tgt I items wr Sx) {c₁ : List CE} {φ₁ : Fz} {s₁ : Shared} (F₁ : FSt G hb sc env c φ s wr (Sx 0) c₁ φ₁ s₁) (w3 : ∀ b∈wr,s.heap.get? b = none)
  (h : forD X (fun ρ d=>bindT sc ρ tgt d) (abs c₁) items = some r) :
  codeAny (model G.prog G.w) A (.forLoop tgt (.ref I) b [] env) (fun r' s'=>match r' with | .ok f=>SPost G hb sc env c φ s r f s' | .error e=>cameBackBy (model G.prog G.w) A env E e s') s₁:=by
 refine codeAny_forLoop_any (fun n s'=>∃ i φ' c',n = items.length + 1 - i∧i≤items.length∧forD X (fun ρ d=>bindT sc ρ tgt d) (abs c') (items.drop i) = some r∧FSt G hb sc env c φ s wr (Sx i) c' φ' s') ?_ (items.length + 1) ⟨0,φ₁,c₁,rfl,Nat.zero_le _,h,F₁⟩
 rintro n s' ⟨i,φ',c',rfl,hi,hf,F⟩
 have hbW : ∀ b∈wr,hb.get? b = none:=fun b hb'=>none_of_ext S.base (w3 b hb')
 by_cases hlt : i < items.length
 ·refine wpAny_mono (T.item i φ' s' (fun v s₂=>wpAny (model G.prog G.w) A (assign tgt env v) ?post ?err s₂) _ hlt F.sx F.st.g.fin F.fz ?main) (fun q s₂ z=>?shape) fun _a _a e=>e
  case shape =>
   induction q using Option.casesOn with
   | none=>exact z.elim
   | some v=>exact z
  intro v φ₂ h₂ tk₂ d hd rv st₂ keep₂ up₂ new₂ fin₂
  have F₂:=F.item (tk₂:=tk₂) (T.fro i) hbW w3 st₂ keep₂ up₂ new₂ fin₂
  rw [List.drop_eq_getElem_cons hlt,some_inv ((List.getElem?_eq_getElem hlt).symm.trans hd).symm] at hf
  refine o1_e hf fun ρ₂ hb₂ hf=>?_
  refine o1_e hf fun r₁ hx hf=>?_
  refine wpAny_mono (bindT_ok R.handled F₂.st hb₂ rv) (fun _a s₃ q=>q.elim fun c₃ q=>?_) fun _a _a e=>e
  have F₃:=F₂.go (T.fro (i + 1)) q.2.st q.2.srel fun a ha=>.inl (q.2.priv a ha)
  refine wpAny_mono (HX _ _ hx c₃ φ₂ s₃ _ F₃.st q.1) (fun f s₄ q=>?_) fun _a _a e=>e
  have z:=F₃.turn (T.fro (i + 1)) hf q
  induction f using PySem.Flow.casesOn with
  | next=>exact z.elim fun c₄ z=>z.elim fun φ₄ z=>⟨items.length + 1 - (i + 1),by omega,i + 1,φ₄,c₄,rfl,hlt,z⟩
  | cont=>exact z.elim fun c₄ z=>z.elim fun φ₄ z=>⟨items.length + 1 - (i + 1),by omega,i + 1,φ₄,c₄,rfl,hlt,z⟩
  | brk=>exact z
  | ret v=>exact z
 ·have hi' : i = items.length:=by omega
  subst hi'
  rw [List.drop_length] at hf
  refine some_e hf ?_
  refine wpAny_mono (T.done φ' s' (fun s₂=>SPost G hb sc env c φ s (.next (abs c')) .next s₂) _ F.sx F.st.g.fin fun h₁ tk₁ keep₁=>?_) (fun q s₂ z=>?_) fun _a _a e=>e
  rotate_left
  ·obtain ⟨rfl,z⟩:=z
   exact wpAny_execs_nil z
  refine ⟨c',φ',rfl,F.st.other (·∈wr) (fun b o nb e=>keep₁ b o nb e) F.fz hbW F.pr,?_,F.pv⟩
  refine e2a1 (F.rel.eq) fun h1 t1 e1=>?_
  exact ⟨⟨h₁,tk₁,by rw [e1]⟩,F.rel.up,F.rel.new,fun b o n e=>keep₁ b o (fun hw=>by rw [w3 b hw] at e; exact no_none e) (F.rel.keep b o n e)⟩
theorem for_at (O : VOk G l V) {b : List Stmt} {X : Rho→Option SR} (HX : ∀ ρ r,X ρ = some r→BSem G hb sc env A b ρ r) {tgt it : Expr} {pos : Pos} {d : D} {ρ₁ : Rho} {items : List D} {r : SR} (hok : okE it = true) (he : evO V sc ρ it = some (d,ρ₁)) (hit : itD d = some items)
  (h : forD X (fun ρ d=>bindT sc ρ tgt d) ρ₁ items = some r) (R : Room A l) (S : St G hb sc env c φ s) (hc : abs c = ρ) : wpAny (model G.prog G.w) A (exec (.For tgt it b [] pos) env) (SPost G hb sc env c φ s r) E s:=by
 subst hc
 have hfs : ∀ x,foldedSetIterable it env x = pure x:=fun x=>by induction it using PySem.Expr.casesOn <;> first | rfl | exact no_ft hok
 refine wpAny_For (evO_then O R S he fun v s₁ c₁ φ₁ X₁ rv=>?_) hfs
 refine wpAny_mono (cu_ok (G:=G) tgt X₁.st.g.fin R.handled rv hit) (fun x s₂ q=>?_) fun _a _a e=>e
 refine e3a6 (q) fun I wr Sx rr3 T st0 x₂ nW fW=>?_
 subst rr3
 have S₂:=X₁.st.step x₂
 rw [← X₁.ab] at h
 have w3 : ∀ b∈wr,s.heap.get? b = none:=fun b hb'=>by
  generalize q : s.heap.get? b = r_; induction r_ using Option.casesOn with
  | none=>rfl
  | some o=>have:=X₁.ext b o q; rw [nW b hb'] at this; exact no_none this
 refine for_loop HX R S T ⟨S₂,st0,X₁.rel.trans (fun a ha=>.inl (X₁.pv a ha)) x₂.srel,fun a ha=>.inl (X₁.pv a ha),fW,fun b hb' hm=>live_ne (X₁.st.privLive b hm) (nW b hb')⟩ w3 h
theorem for_ok (O : VOk G l V) {X : Rho→List Stmt→Option SR} (HX : XOk G l sc X) {tgt it : Expr} {b : List Stmt} {pos : Pos} {d : D} {ρ₁ : Rho} {items : List D} {r : SR} (hok : okE it = true) (he : evO V sc ρ it = some (d,ρ₁)) (hit : itD d = some items)
  (h : forD (fun ρ=>X ρ b) (fun ρ d=>bindT sc ρ tgt d) ρ₁ items = some r) : SSem G l sc ρ (.For tgt it b [] pos) r :=
 fun hb env c φ s A E R S hc=>for_at O (fun ρ r h c φ s E S e=>HX ρ b r h hb env c φ s A E R S e) hok he hit h R S hc
end
section
variable {G : Gd} {l : Nat} {V : EvF} {P : Pg} {sc : Scope} {ρ : Rho} {hb : Heap} {env : Env} {c : List CE} {φ : Fz} {s : Shared} {A : Around} {E : Value→Shared→Prop}
theorem while_ok (O : VOk G l V) {X : Rho→List Stmt→Option SR} (HX : XOk G l sc X) {t : Expr} {b : List Stmt} {pos : Pos} {n : Nat} {r : SR}
  (h : whileD (fun ρ=>evT V sc ρ t) (fun ρ=>X ρ b) n ρ = some r) : SSem G l sc ρ (.While t b [] pos) r:=by
 intro hb env c φ s A E R S hc
 subst hc
 have T : FrO [] (fun _a _a=>True):=⟨fun _a _a _a _a _a _a _a _a _a=>trivial,fun _a _a _a b hb=>no_mem hb⟩
 refine wpAny_While ?_
 refine codeAny_whileLoop (fun n s'=>∃ φ' c',whileD (fun ρ=>evT V sc ρ t) (fun ρ=>X ρ b) n (abs c') = some r∧FSt G hb sc env c φ s [] (fun _a _a=>True) c' φ' s') ?_ n ⟨φ,c,h,S,trivial,SRel.refl,PV.refl,(fun b hb=>no_mem hb),(fun b hb=>no_mem hb)⟩
 rintro n s' ⟨φ',c',hw,F⟩
 induction n using Nat.casesAuxOn with
 | zero=>exact no_none hw
 | succ n =>
 refine o1_e hw fun z ht hw=>?_
 refine evT_ok O R F.st ht fun s₂ S₂ x=>?_
 have F₂:=F.go T S₂ x.srel fun _a h=>.inl h
 induction z using Bool.casesOn with
 | false =>
  rw [if_neg Bool.false_ne_true,some_inv hw]
  exact wpAny_execs_nil ⟨c',φ',rfl,S₂,F₂.rel,F₂.pv⟩
 | true =>
  rw [if_pos rfl]
  refine o1_e hw fun r₁ hx hw=>?_
  refine wpAny_mono (HX _ _ _ hx hb env c' φ' s₂ A _ R S₂ rfl) (fun f s₄ q=>?_) fun _a _a e=>e
  have z:=F₂.turn T hw q
  induction f using PySem.Flow.casesOn with
  | next=>exact z.elim fun c₄ z=>z.elim fun φ₄ z=>⟨n,Nat.lt_succ_self n,φ₄,c₄,z⟩
  | cont=>exact z.elim fun c₄ z=>z.elim fun φ₄ z=>⟨n,Nat.lt_succ_self n,φ₄,c₄,z⟩
  | brk=>exact z
  | ret v=>exact z
set_option tactic.hygienic true in
theorem assert_ok (O : VOk G l V) {t : Expr} {m : Option Expr} {pos : Pos} (h : evT V sc ρ t = some true) : SSem G l sc ρ (.Assert t m pos) (.next ρ):=by
 intro hb env c φ s A E R S hc
 subst hc
 exact wpAny_Assert_holds (evT_ok O R S h fun s₂ S₂ x=>⟨rfl,c,φ,rfl,S₂,x.srel,PV.refl⟩)
theorem try_ok {X : Rho→List Stmt→Option SR} (HX : XOk G l sc X) {b : List Stmt} {h₀ : ExceptHandler} {hs : List ExceptHandler} {pos : Pos} {r : SR} (h : X ρ b = some r) : SSem G l sc ρ (.Try b (h₀ :: hs) [] [] pos) r:=by
 intro hb env c φ s A E R S hc
 refine wpAny_Try_except (wpAny_mono (HX _ _ _ h hb env c φ s A _ R S hc) (fun f s₁ q=>?_) fun _a _a e=>e)
 induction f using PySem.Flow.casesOn with
 | next=>exact wpAny_execs_nil q
 | brk=>exact q
 | cont=>exact q
 | ret v=>exact q
theorem interactive_no (S : St G hb sc env c φ s) : interactive env = false:=by unfold interactive; rw [S.kind]; rfl
theorem lookup_setR_self {x : Str} {u : LV} : ∀ {ρ : Rho},(ρ.lookup x).isSome = true→(ρ.map fun p=>if p.1 = x then (p.1,u) else p).lookup x = some u
 | [],h=>by exact no_ft h
 | (y,v) :: ρ,h=>by
  rw [List.map_cons]
  by_cases k : y = x
  ·subst k
   simp [List.lookup_cons]
  ·rw [if_neg k]
   have k' : (x == y) = false:=beq_eq_false_iff_ne.mpr fun z=>k z.symm
   simp only [List.lookup_cons,k'] at h ⊢
   exact lookup_setR_self h
theorem ow_entry (S : St G hb sc env c φ s) {x : Str} {k : List D} (h : (abs c).lookup x = some (.ow k)) : ∃ e∈c,e.x = x∧∃ a,e.cv = .ow a k∧∃ n vs,s.heap.get? a = some (lsO vs n)∧RepL φ vs k:=by
 refine e1a3 (abs_lookup h) fun e he rr2 hab=>?_
 subst rr2
 refine ⟨e,he,rfl,?_⟩
 exact e1a1 (ab_ow hab) fun a hcv=>⟨a,hcv,ow_at S he hcv⟩
theorem append_ok (O : VOk G l V) {x : Str} {p ap cp pos : Pos} {e : Expr} {d : D} {ρ₁ : Rho} {k : List D} (hline : (ap.endLine == cp.line) = true) (hok : okE e = true) (hx : (nmE fuelN e).contains x = false) (hn : nmOk x = true)
  (hl : ρ.lookup x = some (.ow k)) (he : evO V sc ρ e = some (d,ρ₁)) (hz : k.length≤lim) : SSem G l sc ρ (.Expr (.Call (.Attribute (.Name x p) "append" ap) [e] [] cp) pos) (.next (setR ρ₁ x (.ow (k ++ [d])))):=by
 intro hb env c φ s A E R S hc
 subst hc
 obtain ⟨e₀,he₀,rfl,a,hcv,n,vs,ho,r⟩:=ow_entry S hl
 refine e0a2 (nmOk_parts hn) fun n1 n2=>?_
 have ht : starEach [e] env = [(false,eval e env)]:=starEach_ok hok
 refine wpAny_Expr (wpAny_Call_append rfl (by rw [ht]; rfl) hline (by rw [ht]; rfl) (wpAny_Name (S.load he₀ (v:=.ref a) (by rw [hcv]; rfl) n2 ⟨a,vs.toArray,rfl,⟨_,n,ho,rfl,rfl,rfl⟩,?_⟩) n1)) (interactive_no S) rfl
 refine evO_then O R S he fun v s₁ c₁ φ₁ X rv=>?_
 have m₁:=X.same e₀ he₀ hx
 refine e2a2 (ow_at X.st m₁ hcv) fun n₁ vs₁ ho₁ r₁=>?_
 refine wpAny_list_append_plain (items:=vs₁.toArray) ⟨n₁,ho₁⟩ (fun h' pl sb=>?_) (by rw [sizeLine_eq,List.size_toArray,r₁.length]; unfold lim at hz; lia)
 refine e1a1 (pl) fun n₂ e₂=>?_
 have hap : a∈e₀.cv.priv:=by rw [hcv]; exact .head _
 have T:=X.st.touch (tk:=s₁.toks) m₁ (cv':=.ow a (k ++ [d])) (by rw [hcv]; rfl) (by rw [hcv]; rfl) hap sb ⟨n₂,vs₁ ++ [v],by rw [e₂]; simp [lsO],r₁.append (.one rv)⟩
 rw [← X.ab]
 have rel:=X.rel.trans (fun a ha=>.inl (X.pv a ha)) (SRel.touch (φ:=φ₁) (tk:=s₁.toks) (own_mem (env:=env) m₁ hap) sb)
 refine ⟨_,φ₁,abs_set c₁ e₀.x (.ow a (k ++ [d])),T,rel,fun b hb'=>.inl (X.pv b ?_)⟩
 rwa [privs_set X.st.nd m₁ (by rw [hcv]; rfl)] at hb'
end
section
variable {prog : Program} {w : World} {A : Around} {E : Value→Shared→Prop} {s : Shared}
end
section
variable {G : Gd} {l : Nat} {V : EvF} {P : Pg} {sc : Scope} {ρ : Rho} {hb : Heap} {env : Env} {c : List CE} {φ : Fz} {s : Shared} {A : Around} {E : Value→Shared→Prop}
set_option tactic.hygienic true in
theorem aug_int_ok (O : VOk G l V) {x : Str} {p pos : Pos} {v : Expr} {a b : Int} {ρ₁ ρ' : Rho} (hn : nmOk x = true) (hl : ρ.lookup x = some (.fz (.int a))) (he : evO V sc ρ v = some (.int b,ρ₁)) (hs : asgN sc ρ₁ x (.fz (.int (a + b))) = some ρ') :
  SSem G l sc ρ (.AugAssign (.Name x p) .Add v pos) (.next ρ'):=by
 intro hb env c φ s A E R S hc
 subst hc
 refine e0a2 (nmOk_parts hn) fun n1 n2=>?_
 refine e1a3 (abs_lookup hl) fun e₀ he₀ rr2 hab=>?_
 subst rr2
 refine e1a1 (ab_fz hab) fun w hcv=>?_
 refine e1a2 (S.vars) fun m hm hv=>?_
 have hg:=(hv e₀ he₀).2
 rw [hcv] at hg
 refine wpAny_AugAssign_Name (S.load he₀ (v:=w) (by rw [hcv]; rfl) n2 ?_)
 refine evO_then O R S he fun v s₁ c₁ φ₁ X rv=>?_
 refine rv.sInt fun u=>?_
 have hg : Rep φ w (.int a):=hg
 refine hg.sInt fun t=>?_
 refine wpAny_iadd_int ?_
 have y : Step φ₁ s₁ φ₁ { s₁ with toks:=s₁.toks + 1 }:=.toks X.st.g.fin _
 refine oif_e hs fun q hs=>?_
 refine some_e hs ?_
 ·rw [← X.ab] at q ⊢
  exact SPost.store (cv:=.fz (.int (a + b) s₁.toks) (.int (a + b))) (X.st.step y) (X.rel.trans (fun a ha=>.inl (X.pv a ha)) y.srel) X.pv rfl (Fit.fz (.int _ _)) (fun _a hb'=>(no_mem hb')) q
end
section
variable {G : Gd} {l : Nat} {V : EvF} {P : Pg} {sc : Scope} {ρ : Rho} {hb : Heap} {env : Env} {c : List CE} {φ : Fz} {s : Shared} {A : Around} {E : Value→Shared→Prop}
theorem call_ext {prog : Program} {w : World} {o elt : Expr} {apos pos : Pos} {Q : Value→Shared→Prop} (hbase : attributeBase o "extend" env (eval o env) = eval o env) (hline : (apos.endLine == pos.line) = true) (ht : starEach [elt] env = [(false,eval elt env)])
  (h : wpAny (model prog w) A (eval o env) (fun ov s₁=>∃ D its n,ov = .ref D∧IsL s₁.heap D its n∧wpAny (model prog w) A (eval elt env) (fun y s₂=>wpAny (model prog w) A (call (.builtin "list.extend") [.ref D,y]) Q E s₂) E s₁) E s) :
  wpAny (model prog w) A (eval (.Call (.Attribute o "extend" apos) [elt] [] pos) env) Q E s:=by
 rw [arm_eval_Call,hbase]
 refine wpAny_bind (wpAny_mono h (fun ov s₁ h₁=>?_) fun _a _a e=>e)
 refine e3a3 h₁ fun D its n e hD hcall=>?_
 subst e
 refine wpAny_bind (wpAny_standAt ?_)
 have fin : wpAny (model prog w) A (callWith pos (.builtin "list.extend") [.ref D] (backTo pos (starEach [elt] env)) []) Q E s₁:=by
  rw [ht]
  exact Calls.callWith_builtin rfl (Calls.evalArgs_plain (Calls.spliced_cons (wpAny_mono hcall (fun y s₂ h₂=>Calls.spliced_nil h₂) fun _a _a e=>e)))
 have hform : methodCallForm (([elt] : List Expr).length + ([] : List Keyword).length) (backTo pos (starEach [elt] env)) (backToKw pos (keywordEach [] env)) = true:=by rw [ht]; rfl
 have hpos : methodCallPos true o env apos pos = pure pos:=by unfold methodCallPos; rw [hline]; rfl
 unfold methodCall
 rw [hform]
 exact wpAny_bind (wpAny_holding (getMethod_builtin (T:="list") ⟨_,hD,rfl⟩ F.plainAttrs_list F.slot_list_extend F.type_list_extend (fun a e=>by cases e; exact ⟨_,hD,rfl⟩) (wpAny_bind (wpAny_of_eq hpos fin))))
theorem extend_ok (O : VOk G l V) {x : Str} {p ap cp pos : Pos} {e : Expr} {m : List D} {ρ₁ : Rho} {k : List D} (hline : (ap.endLine == cp.line) = true) (hok : okE e = true) (hx : (nmE fuelN e).contains x = false) (hn : nmOk x = true)
  (hl : ρ.lookup x = some (.ow k)) (he : evO V sc ρ e = some (.list m,ρ₁)) (hz : k.length + m.length≤lim) : SSem G l sc ρ (.Expr (.Call (.Attribute (.Name x p) "extend" ap) [e] [] cp) pos) (.next (setR ρ₁ x (.ow (k ++ m)))):=by
 intro hb env c φ s A E R S hc
 subst hc
 obtain ⟨e₀,he₀,rfl,a,hcv,n,vs,ho,r⟩:=ow_entry S hl
 refine e0a2 (nmOk_parts hn) fun n1 n2=>?_
 refine wpAny_Expr (call_ext rfl hline (starEach_ok hok) (wpAny_Name (S.load he₀ (v:=.ref a) (by rw [hcv]; rfl) n2 ⟨a,vs.toArray,n,rfl,ho,?_⟩) n1)) (interactive_no S) rfl
 refine evO_then O R S he fun v s₁ c₁ φ₁ X rv=>?_
 refine rv.sList fun b vs₂ n₂ e1 r1=>?_
 have m₁:=X.same e₀ he₀ hx
 refine e2a2 (ow_at X.st m₁ hcv) fun n₁ vs₁ ho₁ r₁=>?_
 have hap : a∈e₀.cv.priv:=by rw [hcv]; exact .head _
 have z : vs₁.toArray.size + vs₂.toArray.size≤1000000:=by rw [List.size_toArray,List.size_toArray,r₁.length,r1.length]; exact hz
 refine call_meets F.slot_list_extend ⟨_,ho₁,rfl⟩ F.entry_list_extend (F.args_list_extend_2 _ _) (AutoSeq1.list_extend_list_list_0 a vs₁.toArray n₁ b vs₂.toArray n₂ ?_ (by rw [sizeLine_eq]; lia) (by rw [sizeLine_eq]; lia)) ⟨ho₁,X.st.g.fin _ _ e1,?_⟩
 ·unfold Builtin.List.listTooLong
  rw [sizeLine_eq]
  simp only [Bool.and_eq_true,decide_eq_true_eq,not_and]
  intro _; lia
 have sb : Heap.SameBut a s₁.heap (s₁.heap.update a (Obj.mapSeq fun x=>x ++ vs₂.toArray)):=Heap.SameBut.update ..
 have hnew : (s₁.heap.update a (Obj.mapSeq fun x=>x ++ vs₂.toArray)).get? a = some (lsO (vs₁ ++ vs₂) (if (vs₁.toArray ++ vs₂.toArray).size == vs₁.toArray.size then n₁ else n₁ + 1)):=by
  have:=IsL.update (show IsL s₁.heap a vs₁.toArray n₁ from ho₁) (fun x=>x ++ vs₂.toArray)
  have e : (vs₁.toArray ++ vs₂.toArray) = (vs₁ ++ vs₂).toArray:=by simp
  unfold lsO
  rw [← e]
  exact this
 have T:=X.st.touch (tk:=s₁.toks) m₁ (cv':=.ow a (k ++ m)) (by rw [hcv]; rfl) (by rw [hcv]; rfl) hap sb ⟨_,vs₁ ++ vs₂,hnew,r₁.append r1⟩
 rw [← X.ab]
 have rel:=X.rel.trans (fun a ha=>.inl (X.pv a ha)) (SRel.touch (φ:=φ₁) (tk:=s₁.toks) (own_mem (env:=env) m₁ hap) sb)
 refine ⟨_,φ₁,abs_set c₁ e₀.x (.ow a (k ++ m)),T,rel,fun b hb'=>.inl (X.pv b ?_)⟩
 rwa [privs_set X.st.nd m₁ (by rw [hcv]; rfl)] at hb'
end
section
variable {prog : Program} {w : World} {A : Around} {E : Value→Shared→Prop} {s : Shared}
theorem mapSeq_set (vs : List Value) (n j : Nat) (v : Value) : Obj.mapSeq (·.setIfInBounds j v) (lsO vs n) = lsO (vs.set j v) n:=by
 unfold lsO Obj.mapSeq
 simp
theorem setItem_at {a : Addr} {vs : List Value} {n : Nat} {k : Int} {t : Tok} {v : Value} {Q : Unit→Shared→Prop} (ho : s.heap.get? a = some (lsO vs n)) (hk : inB k vs.length = true)
  (hQ : ∀ h',h'.get? a = some (lsO (vs.set (ix k vs.length) v) n)→Heap.SameBut a s.heap h'→Q () { s with heap:=h' }) : wpAny (model prog w) A (setItem (.ref a) (.int k t) v) Q E s:=by
 have hl:=lsO_isList ho
 refine e0a5 (seqIndex_ix hk) fun h1 h2 h3 h4 h5=>?_
 have hz : vs.length≤1000000:=h3
 have hfin : (s.heap.update a (Obj.mapSeq (·.setIfInBounds (ix k vs.length) v))).get? a = some (lsO (vs.set (ix k vs.length) v) n):=by
  rw [← mapSeq_set]
  exact Heap.get?_update_self _ ho (by rw [mapSeq_set]; rfl)
 have fin:=hQ _ hfin (Heap.SameBut.update ..)
 obtain ⟨x0,hx⟩ : ∃ x0,vs[ix k vs.length]? = some x0:=⟨_,List.getElem?_eq_getElem h2⟩
 unfold setItem
 refine wpAny_holding ?_
 refine wpAny_bind (wpAny_sequenceKey hl.typeIs (by decide) ?_)
 refine wpAny_bind (wpAny_callSpecial?_slot (name:=ofString "__setitem__") hl.typeIs slot_list_setitem
  (wpAny_call_entry slot_list_setitem hl.typeIs entry_list_setitem ?_ (args_list_setitem _ _ _)))
 show wpAny _ _ (Builtin.List.listSubscript? (.int k t) >>= _) _ _ s
 by_cases hk0 : k < 0
 ·refine wpAny_bind (wpAny_listSubscript_int (fitsIndex_neg hk0 (by lia)) ?_)
  obtain ⟨j,rfl⟩ : ∃ j : Nat,k = Int.negSucc j:=by
   cases k with
   | ofNat n=>exact absurd hk0 (Int.not_lt.mpr (Int.ofNat_nonneg n))
   | negSucc n=>exact ⟨n,rfl⟩
  show wpAny _ _ ((Builtin.List.listItems (.ref a) >>= fun xs=>pure ((seqIndex? (Int.negSucc j) xs.size).bind fun i=>xs[i]?.map (i,·))) >>= _) _ _ s
  refine wpAny_bind (wpAny_bind ?_)
  show wpAny _ _ (seqItems? (.ref a) >>= _) _ _ s
  refine wpAny_bind (wpAny_seqItems ho rfl (wpAny_pure (wpAny_pure ?_)))
  rw [List.size_toArray,h1]
  simp only [Option.bind_some,List.getElem?_toArray,hx,Option.map_some]
  refine wpAny_bind (wpAny_setSeqItemAt ho rfl ?_)
  first
   | exact wpAny_bind (wpAny_pure (wpAny_pure ⟨.none,rfl,wpAny_pure fin⟩))
   | exact wpAny_pure ⟨.none,rfl,wpAny_pure fin⟩
 ·refine wpAny_bind (wpAny_listSubscript_int (fitsIndex_of (by lia) (by lia)) ?_)
  have e0 : ix k vs.length = k.toNat:=by unfold ix; rw [if_neg hk0]
  rw [e0] at hx fin h2
  refine e1a1 (Int.eq_ofNat_of_zero_le (Int.not_lt.mp hk0)) fun j rr1=>?_
  subst rr1
  show wpAny _ _ ((seqItemAt a j >>= fun r=>pure (r.map (j,·))) >>= _) _ _ s
  refine wpAny_bind (wpAny_bind (wpAny_seqItemAt ho rfl (wpAny_pure ?_)))
  rw [List.getElem?_toArray,show vs[j]? = some x0 from hx]
  show wpAny _ _ (setSeqItemAt a j v >>= _) _ _ s
  refine wpAny_bind (wpAny_setSeqItemAt ho rfl ?_)
  first
   | exact wpAny_bind (wpAny_pure (wpAny_pure ⟨.none,rfl,wpAny_pure fin⟩))
   | exact wpAny_pure ⟨.none,rfl,wpAny_pure fin⟩
end
section
variable {G : Gd} {l : Nat} {V : EvF} {P : Pg} {sc : Scope} {ρ : Rho} {hb : Heap} {env : Env} {c : List CE} {φ : Fz} {s : Shared} {A : Around} {E : Value→Shared→Prop}
theorem draw_ok {I : Addr} {items : List D} {fp : List Addr} {Pv : Nat→Value→Prop} {Sx : Nat→Heap→Prop} (T : It G A φ I items fp Pv Sx) : ∀ (n i : Nat) (s : Shared) (Q : List Value→Shared→Prop),Sx i s.heap→i + n = items.length →
  (∀ vs h' tk,RepL φ vs (items.drop i)→Sx items.length h'→(∀ b o,b≠I→s.heap.get? b = some o→h'.get? b = some o)→Q vs { s with heap:=h',toks:=tk })→wpAny (model G.prog G.w) A (draw (.ref I) n) Q E s
 | 0,i,s,Q,st,hi,hQ=>by
  have : i = items.length:=by lia
  subst this
  refine wpAny_pure (hQ [] s.heap s.toks ?_ st fun _a _a _a e=>e)
  rw [List.drop_length]; exact .nil
 | n + 1,i,s,Q,st,hi,hQ=>by
  have hlt : i < items.length:=by lia
  show wpAny _ _ (pyNext (.ref I) >>= _) Q E s
  refine wpAny_bind (T.W.item i s _ _ hlt st fun v h₁ tk₁ hp st₁ keep₁=>?_)
  refine e1a2 (T.rep i v hlt hp) fun d hd r=>?_
  refine wpAny_bind (wpAny_holding (draw_ok T n (i + 1) _ _ st₁ (by lia) fun vs h' tk rs st' keep'=>wpAny_pure ?_))
  refine hQ (v :: vs) h' tk ?_ st' fun b o nb e=>keep' b o nb (keep₁ b o (by simpa using nb) e)
  have hdrop : items.drop i = d :: items.drop (i + 1):=by
   rw [List.drop_eq_getElem_cons hlt]
   rw [List.getElem?_eq_getElem hlt] at hd
   have qq:=Option.some.inj (hd); subst qq; rfl
  rw [hdrop]
  exact .cons r rs
theorem unpack_ok {v : Value} {d : D} {ds : List D} {Q : List Value→Shared→Prop} (fin : ∀ a o,φ a = some o→s.heap.get? a = some o) (hh : A.handled = none) (x : Rep φ v d) (hd : (d = .tup ds∨d = .list ds)∧ds.length≤lim)
  (h : ∀ vs s',Step φ s φ s'→RepL φ vs ds→Q vs s') : wpAny (model G.prog G.w) A (unpackItems v ds.length none) Q E s:=by
 have hit : itD d = some ds:=by
  obtain ⟨h1 | h1,h2⟩:=hd <;> subst h1 <;> simp [itD,h2]
 have hL : ∃ T id,s.TypeIs v T∧typeLookup (.type T) "__iter__" = pure (some id):=by
  obtain ⟨h1 | h1,h2⟩:=hd
  ·subst h1
   cases x with | tup e1 r1=>exact ⟨_,_,(tpO_isTuple (fin _ _ e1)).typeIs,F.slot_tuple_iter.lookup⟩
  ·subst h1
   cases x with | list e1 r1=>exact ⟨_,_,(lsO_isList (fin _ _ e1)).typeIs,PySem.slot_list_iter.lookup⟩
 refine e2a2 (hL) fun T id hT hl=>?_
 unfold unpackItems
 refine wpAny_bind ?_
 unfold notIterableAtAll
 refine wpAny_bind (wpAny_specialOf hT hl ?_)
 refine wpAny_pure ?_
 simp only [Bool.false_eq_true,if_false]
 refine wpAny_bind (wpAny_holding (wpAny_mono (iter_ok (G:=G) fin hh x hit) (fun it s₁ q=>?_) fun _a _a e=>e))
 obtain ⟨I,fp,Pv,Sx,rfl,T,st,y,nI,fI,_⟩:=q
 refine wpAny_bind (wpAny_holding (draw_ok T ds.length 0 s₁ _ st (by lia) fun vs h' tk r st' keep'=>?_))
 rw [List.drop_zero] at r
 rw [if_neg (by rw [r.length]; lia)]
 refine wpAny_bind (wpAny_holding (T.W.done _ _ _ st' fun h₂ tk₂ k₂=>?_))
 rw [if_neg (by simp)]
 refine wpAny_pure (h vs _ ?_ r)
 have all : ∀ b o,s.heap.get? b = some o→h₂.get? b = some o:=fun b o e=>by
  have nb : b≠I:=fun z=>by rw [z,nI] at e; exact no_none e
  exact k₂ b o (by simpa using nb) (keep' b o nb (y.ext b o e))
 refine e2a1 (y.eq) fun h1 t1 e1=>?_
 exact ⟨⟨h₂,tk₂,by rw [e1]⟩,all,fun _a _a e=>e,fun _a _a e=>.inl e,fun a o e=>all a o (fin a o e)⟩
end
section
variable {G : Gd} {l : Nat} {V : EvF} {P : Pg} {sc : Scope} {ρ : Rho} {hb : Heap} {env : Env} {c : List CE} {φ : Fz} {s : Shared} {A : Around} {E : Value→Shared→Prop}
theorem swaps_no {v : Expr} {t : Option Expr} {n : Nat} (h : notComp v = true) : swapsWith v t n env = pure false:=by
 induction v using PySem.Expr.casesOn <;> first | rfl | exact no_ft h
theorem sub_ok (O : VOk G l V) {x : Str} {p tp pos : Pos} {i v : Expr} {d : D} {ρ₁ ρ₂ : Rho} {k : Int} {ls : List D} (hc : notComp v = true) (hx : (nmE fuelN i).contains x = false) (hn : nmOk x = true) (he : evO V sc ρ v = some (d,ρ₁)) (hl : ρ₁.lookup x = some (.ow ls))
  (hi : evO V sc ρ₁ i = some (.int k,ρ₂)) (hf : flat d = true) (hk : inB k ls.length = true) : SSem G l sc ρ (.Assign [.Subscript (.Name x p) i tp] v pos) (.next (setR ρ₂ x (.ow (ls.set (ix k ls.length) d)))):=by
 intro hb env c φ s A E R S hab
 subst hab
 refine e0a2 (nmOk_parts hn) fun n1 n2=>?_
 refine wpAny_Assign_Subscript (evO_then O R S he fun v s₁ c₁ φ₁ X₁ rv=>?_) (swaps_no hc)
 have l₁:=hl
 rw [← X₁.ab] at l₁
 obtain ⟨e₀,he₀,rfl,a,hcv,_⟩:=ow_entry X₁.st l₁
 refine wpAny_Name (X₁.st.load he₀ (v:=.ref a) (by rw [hcv]; rfl) n2 ?_) n1
 rw [← X₁.ab] at hi
 refine evO_then O R X₁.st hi fun w s₂ c₂ φ₂ X₂ rw'=>?_
 cases rw'
 have m₂:=X₂.same e₀ he₀ hx
 refine e2a2 (ow_at X₂.st m₂ hcv) fun n₂ vs₂ ho₂ r₂=>?_
 refine setItem_at ho₂ (by rw [r₂.length]; exact hk) fun h' e' sb=>?_
 have hap : a∈e₀.cv.priv:=by rw [hcv]; exact .head _
 have T:=X₂.st.touch (tk:=s₂.toks) m₂ (cv':=.ow a (ls.set (ix k ls.length) d)) (by rw [hcv]; rfl) (by rw [hcv]; rfl) hap sb ⟨n₂,_,e',by rw [r₂.length]; exact r₂.set _ (flat_rep rv hf)⟩
 rw [← X₂.ab]
 have rel:=(X₁.rel.trans (fun a ha=>.inl (X₁.pv a ha)) X₂.rel).trans (fun a ha=>.inl (X₁.pv a (X₂.pv a ha))) (SRel.touch (φ:=φ₂) (tk:=s₂.toks) (own_mem (env:=env) m₂ hap) sb)
 refine ⟨_,φ₂,abs_set c₂ e₀.x (.ow a (ls.set (ix k ls.length) d)),T,rel,fun b hb'=>.inl (X₁.pv b (X₂.pv b ?_))⟩
 rwa [privs_set X₂.st.nd m₂ (by rw [hcv]; rfl)] at hb'
theorem put_rep {φ : Fz} {a : Str} {hsh : Int} {t : Tok} {v : Value} {d : D} (r : Rep φ v d) : ∀ {es : List DictEntry} {fs : List (Str×D)},RepF φ es fs→RepF φ (putL a hsh (.str a t) v es) (setF fs a d)
 | _,_,.nil=>.cons r .nil
 | _,_,.cons (x:=y) (t:=u) r₁ rs=>by
  unfold putL setF
  have : (Value.str y u).isStr a = (y == a):=rfl
  rw [this]
  by_cases k : y = a
  ·rw [if_pos (by simpa using k),if_pos k]; exact .cons r rs
  ·rw [if_neg (by simpa using k),if_neg k]; exact .cons r₁ (put_rep r rs)
theorem repF_length {φ : Fz} : ∀ {es : List DictEntry} {fs : List (Str×D)},RepF φ es fs→es.length = fs.length
 | _,_,.nil=>rfl
 | _,_,.cons _ r=>by simp [repF_length r]
theorem put_key {w : World} {a : Str} {t : Tok} {v : Value} : ∀ {es : List DictEntry},KeyOk w es→KeyOk w (putL a (PyData.keyHash w.params a) (.str a t) v es)
 | [],_=>fun e he=>by
  have : e = ⟨PyData.keyHash w.params a,.str a t,v⟩:=by simpa [putL] using he
  subst this; exact ⟨a,t,rfl,rfl⟩
 | e₀ :: es,k=>fun e he=>by
  unfold putL at he
  split at he
  ·rcases List.mem_cons.mp he with z | z
   ·subst z; exact k e₀ List.mem_cons_self
   ·exact k e (List.mem_cons_of_mem _ z)
  ·rcases List.mem_cons.mp he with z | z
   ·subst z; exact k e List.mem_cons_self
   ·exact put_key (fun e he=>k e (List.mem_cons_of_mem _ he)) e z
theorem attr_ok (PO : POk G l P) (O : VOk G l V) {x a : Str} {p tp pos : Pos} {v : Expr} {d : D} {ρ₁ : Rho} {y C : Addr} {fs : List (Str×D)} (hc : notComp v = true) (hn : nmOk x = true) (he : evO V sc ρ v = some (d,ρ₁)) (hl : ρ₁.lookup x = some (.oi y C fs))
  (hst : P.st C a = true) (hz : fs.length < 100) : SSem G l sc ρ (.Assign [.Attribute (.Name x p) a tp] v pos) (.next (setR ρ₁ x (.oi y C (setF fs a d)))):=by
 intro hb env c φ s A E R S hab
 subst hab
 refine e0a2 (nmOk_parts hn) fun n1 n2=>?_
 refine wpAny_Assign_stores (evO_then O R S he fun v s₁ c₁ φ₁ X₁ rv=>?_) (by unfold swapsWithSole; exact swaps_no hc) (by induction v using PySem.Expr.casesOn <;> rfl)
 rw [← X₁.ab] at hl ⊢
 refine e1a3 (abs_lookup hl) fun e₀ he₀ rr2 hab=>?_
 subst rr2
 refine e1a1 (ab_oi hab) fun dy hcv=>?_
 refine e1a2 (X₁.st.vars) fun m hm hv=>?_
 have hg:=(hv e₀ he₀).2
 rw [hcv] at hg
 obtain ⟨ho,es,n,hd,r,hk⟩:=hg
 show wpAny _ A (assign (.Attribute (.Name e₀.x p) a tp) env v) _ _ _
 rw [arm_assign_Attribute]
 refine wpAny_bind (wpAny_holding (wpAny_Name (X₁.st.load he₀ (v:=.ref y) (by rw [hcv]; rfl) n2 ?_) n1))
 refine wpAny_bind (wpAny_standAt (wpAny_bind (wpAny_holding (PO.st C a hst s₁ y dy es n v A E _ X₁.st.g.keep ho hd hk (by rw [repF_length r]; exact hz) fun h' tk t n' e' sb=>?_))))
 have hp : e₀.cv.priv = [y,dy]:=by rw [hcv]; rfl
 have hap : dy∈e₀.cv.priv:=by rw [hp]; simp
 have hne : y≠dy:=by
  have pnd:=X₁.st.pnd
  rw [privs,List.nodup_cons] at pnd
  have nd : (e₀.loc.priv ++ e₀.cv.priv).Nodup:=priv_nodup pnd.2 he₀
  rw [List.nodup_append,hp] at nd
  have:=nd.2.1
  rw [List.nodup_cons] at this
  intro q; exact this.1 (by simp [q])
 have T:=X₁.st.touch (tk:=tk) he₀ (cv':=.oi y dy C (setF fs a d)) (by rw [hcv]; rfl) (by rw [hcv]; rfl) hap sb ⟨(sb.2 y hne).trans ho,_,n',e',put_rep rv r,put_key hk⟩
 have rel:=X₁.rel.trans (fun a ha=>.inl (X₁.pv a ha)) (SRel.touch (φ:=φ₁) (tk:=tk) (own_mem (env:=env) he₀ hap) sb)
 refine fun Γ pp hΓ=>?_
 rw [Sem.wp_release]
 refine ⟨_,φ₁,abs_set c₁ e₀.x (.oi y dy C (setF fs a d)),T,rel,fun b hb'=>.inl (X₁.pv b ?_)⟩
 rwa [privs_set X₁.st.nd he₀ (by rw [hcv]; rfl)] at hb'
theorem asgNs_inv {t : Expr} {ts : List Expr} {d : D} {ρ' : Rho} (h : asgNs sc d ρ (t :: ts) = some ρ') : ∃ x p ρ₁,t = .Name x p∧bindN sc ρ x d = some ρ₁∧asgNs sc d ρ₁ ts = some ρ':=by
 refine o1_e h fun ρ₁ h1 h2=>?_
 refine o1_e h1 fun x hx h3=>?_
 refine e1a1 (nameOf_inv hx) fun p e=>?_
 exact ⟨x,p,ρ₁,e,h3,h2⟩
theorem assignAll_cons {v : Value} {t0 : Value→Sem Unit} {l : List (Value→Sem Unit)} (hl : l≠[]) : assignAll v (t0 :: l) = (do holding [v] (t0 v); assignAll v l):=by
 induction l using List.casesOn with
 | nil=>exact (hl rfl).elim
 | cons _ _=>rfl
theorem multi_ok {M : Model} {v : Value} {d : D} {ts : List Expr} {c : List CE} {s : Shared} {ρ' : Rho} (S : St G hb sc env c φ s) (h : asgNs sc d (abs c) ts = some ρ') (r : Rep φ v d) :
  wpAny M A (assignAll v ((assignEach ts env).map (·.2))) (fun _a s'=>∃ c',abs c' = ρ'∧Moved G hb sc env c φ s c' s') E s:=by
 induction ts generalizing c s with
 | nil=>exact wpAny_pure ⟨c,some_inv h ▸ rfl,S,⟨s.heap,s.toks,rfl⟩,fun _a _a _a e=>e,fun _a e=>e,rfl⟩
 | cons t ts ih =>
  refine e3a3 (asgNs_inv h) fun x p ρ₁ rr3 h1 h2=>?_
  subst rr3
  have first:=wpAny_assign_Name (pos:=p) (bindN_ok (M:=M) (A:=A) (E:=E) (v:=v) (d:=d) S h1 r)
  induction ts using List.casesOn with
  | nil=>refine some_e h2 ?_; exact first
  | cons u ts =>
   refine e3a2 (asgNs_inv h2) fun y q _a rr3 _a=>?_
   subst rr3
   refine (assignAll_cons (t0:=assign (.Name x p) env) (l:=(assignEach (.Name y q :: ts) env).map (·.2)) (List.cons_ne_nil _ _)).symm ▸ ?_
   refine wpAny_bind (wpAny_holding (wpAny_mono first (fun _a s₁ q=>q.elim fun c₁ q=>?_) fun _a _a e=>e))
   exact wpAny_mono (ih q.2.st (q.1.symm ▸ h2)) (fun _a s₂ z=>z.elim fun c₂ z=>⟨c₂,z.1,q.2.trans z.2⟩) fun _a _a e=>e
set_option tactic.hygienic true in
theorem names_ok (O : VOk G l V) {t u : Expr} {pos : Pos} {ts : List Expr} {v : Expr} {d : D} {ρ₁ ρ' : Rho} (he : evO V sc ρ v = some (d,ρ₁)) (hs : asgNs sc d ρ₁ (t :: u :: ts) = some ρ') :
  SSem G l sc ρ (.Assign (t :: u :: ts) v pos) (.next ρ'):=by
 intro hb env c φ s A E R S hab
 subst hab
 refine e3a2 (asgNs_inv hs) fun x p _a rr3 _a=>?_
 subst rr3
 refine wpAny_Assign_stores (evO_then O R S he fun v s₁ c₁ φ₁ X₁ rv=>?_) rfl rfl
 rw [← X₁.ab] at hs
 exact wpAny_mono (multi_ok X₁.st hs rv) (fun _a s₂ z=>z.elim fun c₂ z=>⟨c₂,φ₁,z.1,z.2.st,X₁.rel.trans (fun a ha=>.inl (X₁.pv a ha)) z.2.srel,fun a ha=>.inl (X₁.pv a (z.2.priv a ha))⟩) fun _a _a e=>e
end
section
variable {G : Gd} {l : Nat} {V V' : EvF} {P : Pg} {sc : Scope} {ρ : Rho} {hb : Heap} {env : Env} {c : List CE} {φ : Fz} {s : Shared} {A : Around} {E : Value→Shared→Prop}
set_option tactic.hygienic true in
theorem name_plain (O : VOk G l V) {x : Str} {p pos : Pos} {v : Expr} {d : D} {ρ₁ ρ' : Rho} (he : evO V sc ρ v = some (d,ρ₁)) (hs : asgN sc ρ₁ x (lvOf (isFresh v) d) = some ρ') {hb : Heap} {env : Env} {c : List CE} {φ : Fz} {s : Shared} {A : Around} {E : Value→Shared→Prop}
  (R : Room A l) (S : St G hb sc env c φ s) (hab : abs c = ρ) (hsw : swapsWith v (some (.Name x p)) pos.line env = pure false) : wpAny (model G.prog G.w) A (exec (.Assign [.Name x p] v pos) env) (SPost G hb sc env c φ s (.next ρ')) E s:=by
 subst hab
 exact wpAny_Assign_Name (evO_ok O R S he fun w s' c₁ φ₁ X=>asg_ok S X hs) hsw
set_option tactic.hygienic true in
theorem comp_assign (O : VOk G l V') (hV : V.e = stepE P V') {x : Str} {p pos cpos : Pos} {elt target iter : Expr} {ifs : List Expr} {scope : Scope} {d : D} {ρ₁ ρ' : Rho}
  (he : evO V sc ρ (.ListComp elt [⟨target,iter,ifs,0⟩] scope cpos) = some (d,ρ₁)) (hs : asgN sc ρ₁ x (lvOf true d) = some ρ') {hb : Heap} {env : Env} {c : List CE} {φ : Fz} {s : Shared} {A : Around} {E : Value→Shared→Prop}
  (R : Room A l) (S : St G hb sc env c φ s) (hab : abs c = ρ) (hsw : swapsWith (.ListComp elt [⟨target,iter,ifs,0⟩] scope cpos) (some (.Name x p)) pos.line env = pure true) :
  wpAny (model G.prog G.w) A (exec (.Assign [.Name x p] (.ListComp elt [⟨target,iter,ifs,0⟩] scope cpos) pos) env) (SPost G hb sc env c φ s (.next ρ')) E s:=by
 subst hab
 refine o1_e he fun d' hd he=>?_
 rw [S.frzM_eq,hV] at hd
 refine e2a4 (S.frzR (nmE fuelN (.ListComp elt [⟨target,iter,ifs,0⟩] scope cpos))) fun c' φ' e' S' F' K'=>?_
 rw [← e'] at hd
 rw [S.frzM_eq,← e'] at he
 refine stepLC_e hd fun hok hk nd _a d₀ ρ₀ out hd₀ hρ hgo hd=>?_
 subst hd
 cases he
 refine oif_e hs fun qq hs=>?_
 have qq:=some_inv hs; subst qq
 rw [exec_Assign_Name_used _ _ _ _ hsw]
 refine wpAny_bind (wpAny_standAt (wpAny_bind ?_))
 show wpAny _ A (do let _ ← comprehension (.ListComp elt [⟨target,iter,ifs,0⟩] scope cpos) scope env _ (newList []) false (eval iter env) (some (assign (.Name x p) env))) _ _ s
 refine wpAny_bind (wpAny_mono (wpAny_comprehension_free (use:=some (assign (.Name x p) env)) (Q:=fun _a s'=>SPost G hb sc env c φ s (.next (setR (abs c') x (.ow out))) .next s') (cl:=closL env.cells scope.names []) rfl (fset_ok hok) (clos_eq fun x hx=>?_) hk (fun x hx hl=>?_) ?_)
  (fun _a s' hq=>wpAny_pure (wpAny_pure hq)) fun _a _a e=>e)
 ·obtain ⟨e,_,_,h2,_⟩:=free_cells S' hρ hx; rw [h2]; rfl
 ·exact nm_free nd x hx hl
 ·show wpAny _ _ (eval iter env) _ _ _
  refine e0a2 (compI_ok (A:=A) (E:=E) O R S' rfl hd₀) fun hI hlen=>?_
  refine wpAny_mono hI (fun v s₁' q=>wpAny_mono q (fun it s₂ q=>?_) fun _a _a e=>e) fun _a _a e=>e
  refine e5a7 q fun φ₁ s₁ I wr Sx y₁ rr T st0 x₂ nW fW=>?_
  subst rr
  have S₁:=S'.step y₁
  refine comp_loop O R S₁ hk nd hρ hlen hgo T st0 x₂ nW fW (RR:=fun acc C=>compPost (model G.prog G.w) A E (some (assign (.Name x p) env)) (fun _a s'=>SPost G hb sc env c φ s (.next (setR (abs c') x (.ow out))) .next s') acc C) ?_
  intro Da C φ₂ ys n s₂ y₂ hD hr fD fC nD nC hDC hm
  have S₂:=S₁.step y₂
  have nD' : s.heap.get? Da = none:=none_of_ext y₁.ext nD
  have nC' : s.heap.get? C = none:=none_of_ext y₁.ext nC
  have pD:=S'.fresh nD'
  have pC:=S'.fresh nC'
  refine and_e qq fun q1 q2=>?_
  refine e1a2 (hasR_mem q2) fun e he rr=>?_
  subst rr
  show wpAny _ A (assign (.Name e.x p) env (.ref Da)) _ _ _
  refine wpAny_assign_Name (S₂.store he (storable_ne q1) (cv:=.ow Da out) rfl ⟨⟨n,ys,hD,hr⟩,List.Pairwise.cons (fun _a h=>no_mem h) .nil,fun b hb'=>?_⟩ fun h₃ tk₃ S₃ hs₃=>?_)
  ·exact List.mem_singleton.mp hb' ▸ ⟨pD,fD,none_of_ext S.base nD'⟩
  refine e1a2 hs₃ fun b hbp hsb=>?_
  refine e1a1 hm fun m hn=>?_
  have hbC : C≠b:=fun z=>pC (z ▸ hbp)
  refine ⟨m,hn.sameBut hsb hbC,fun h₄ hs₄=>?_⟩
  have pv₄ : ∀ a∈privs env (setC c' e.x (.ow Da out)),a∈privs env c'∨a = Da:=fun a ha=>by
   exact (List.mem_cons.mp ha).elim (fun z=>.inl (z ▸ List.mem_cons_self)) fun z=>(mem_setPriv z).elim (fun w=>.inr (List.mem_singleton.mp w)) fun w=>.inl (List.mem_cons_of_mem _ w)
  have S₄:=S₃.other (h':=h₄) (tk:=tk₃) (· = C) (fun b o nb e=>(hs₄.2 b nb).trans e) (fun b z=>z ▸ fC) (fun b z=>z ▸ none_of_ext S.base nC') (fun b z hm=>(pv₄ b hm).elim (fun w=>pC (z ▸ w)) fun w=>hDC (w.symm.trans z))
  refine ⟨_,φ₂,abs_set c' e.x (.ow Da out),S₄,?_,fun a ha=>?_⟩
  ·refine e2a1 y₁.eq fun h1 t1 e1=>?_
   refine e2a1 y₂.eq fun h2 t2 e2=>?_
   refine ⟨⟨h₄,tk₃,by rw [e2,e1]⟩,fun a o z=>y₂.up a o (y₁.up a o (F'.up a o z)),fun a o z=>?_,fun a o na z=>?_⟩
   ·exact (y₂.new a o z).elim (fun w=>(y₁.new a o w).elim (fun w=>(F'.new a o w).imp id .inl) fun w=>.inr (.inr w)) fun w=>.inr (.inr (none_of_ext y₁.ext w))
   ·have z2:=y₂.ext a o (y₁.ext a o z)
    have z3 : h₃.get? a = some o:=(hsb.2 a fun w=>na (F'.pv a (w ▸ hbp))).trans z2
    exact (hs₄.2 a fun w=>by rw [w,nC'] at z; exact no_none z).trans z3
  ·exact (pv₄ a ha).elim (fun w=>.inl (F'.pv a w)) fun w=>.inr (w ▸ nD')
set_option tactic.hygienic true in
theorem name_assign (O : VOk G l V) (O' : VOk G l V') (hV : V.e = stepE P V') {x : Str} {p pos : Pos} {v : Expr} {d : D} {ρ₁ ρ' : Rho} (hv : okV v = true) (he : evO V sc ρ v = some (d,ρ₁)) (hs : asgN sc ρ₁ x (lvOf (isFresh v) d) = some ρ') :
  SSem G l sc ρ (.Assign [.Name x p] v pos) (.next ρ'):=by
 intro hb env c φ s A E R S hab
 by_cases hn : notComp v = true
 ·exact name_plain O he hs R S hab (swaps_no hn)
 ·induction v using PySem.Expr.casesOn <;> first | exact (hn rfl).elim | (exact no_ft hv; done) | skip
  rename_i elt gens scope cpos
  have hsw : ∃ b,swapsWith (.ListComp elt gens scope cpos) (some (.Name x p)) pos.line env = pure b:=⟨_,rfl⟩
  refine e1a1 (hsw) fun b hsw=>?_
  induction b using Bool.casesOn
  ·exact name_plain O he hs R S hab hsw
  ·refine o1_e he fun d' hd _a=>?_
   rw [hV] at hd
   induction gens using List.casesOn with
   | nil=>exact no_none hd
   | cons g gs=>induction gs using List.casesOn with
    | cons=>exact no_none hd
    | nil =>
     obtain ⟨tg,it,fs,asy⟩:=g
     have qq:=eq_of_beq (and_inv (oif_inv hd).1).2
     subst qq
     exact comp_assign O' hV he hs R S hab hsw
end
section
variable {G : Gd} {l : Nat} {V V' : EvF} {P : Pg} {sc : Scope} {ρ : Rho} {hb : Heap} {env : Env} {c : List CE} {φ : Fz} {s : Shared} {A : Around} {E : Value→Shared→Prop}
theorem setR_comm (ρ : Rho) {x y : Str} (h : x≠y) (u v : LV) : setR (setR ρ x u) y v = setR (setR ρ y v) x u:=by
 unfold setR
 rw [List.map_map,List.map_map]
 apply List.map_congr_left
 intro p _
 simp only [Function.comp]
 by_cases h1 : p.1 = x
 ·have h2 : p.1≠y:=fun z=>h (h1.symm.trans z)
  simp [h1,h2,h]
 ·by_cases h2 : p.1 = y
  ·have h3 : ¬ y = x:=fun z=>h z.symm
   simp [h1,h2,h3]
  ·simp [h1,h2]
theorem lookup_setR_ne {x y : Str} {u : LV} (h : x≠y) : ∀ (ρ : Rho),(setR ρ x u).lookup y = ρ.lookup y
 | []=>rfl
 | (z,v) :: ρ=>by
  have ih:=lookup_setR_ne (u:=u) h ρ
  unfold setR at ih ⊢
  rw [List.map_cons]
  by_cases k : z = x
  ·have : (y == z) = false:=beq_eq_false_iff_ne.mpr fun w=>h (k.symm.trans w.symm)
   simp only [if_pos k,List.lookup_cons,this]
   exact ih
  ·simp only [if_neg k,List.lookup_cons]
   split
   ·rfl
   ·exact ih
set_option tactic.hygienic true in
theorem hasR_set {x y : Str} {u : LV} {ρ : Rho} : hasR (setR ρ x u) y = hasR ρ y:=by
 unfold hasR
 by_cases h : x = y
 ·subst h
  generalize q : (ρ.lookup x).isSome = r_; induction r_ using Bool.casesOn with
  | true=>unfold setR; rw [lookup_setR_self q]; rfl
  | false =>
   have : ∀ ρ : Rho,(ρ.lookup x).isSome = false→((setR ρ x u).lookup x).isSome = false:=by
    intro ρ
    induction ρ with
    | nil=>intro h; exact h
    | cons p ρ ih =>
     obtain ⟨z,v⟩:=p
     intro h
     rw [List.lookup_cons] at h
     split at h
     ·cases h
     ·rename_i q'
      have hz : z≠x:=fun w=>by simp [w] at q'
      unfold setR at ih ⊢
      rw [List.map_cons,if_neg hz,List.lookup_cons,q']
      exact ih h
   exact this ρ q
 ·rw [lookup_setR_ne h]
theorem ite_or {α : Sort _} {c : Prop} [Decidable c] {a b : α} {P : α→Prop} (h : P a) (k : ¬ c→P b) : P (if c then a else b):=by
 by_cases z : c
 ·rw [if_pos z]; exact h
 ·rw [if_neg z]; exact k z
theorem bindN_inv {x : Str} {d : D} {ρ ρ' : Rho} (h : bindN sc ρ x d = some ρ') : (storable sc x && hasR ρ x) = true∧ρ' = setR ρ x (.fz d):=⟨(oif_inv h).1,some_inv (oif_inv h).2⟩
theorem bindN_eq {x : Str} {d : D} {ρ : Rho} (h : (storable sc x && hasR ρ x) = true) : bindN sc ρ x d = some (setR ρ x (.fz d)):=if_pos h
noncomputable def tgN (ns : List (Str×Pos)) : List Expr:=ns.map fun n=>.Name n.1 n.2
theorem bindNs_move {x : Str} {a : D} {ns : List (Str×Pos)} {ds : List D} {ρa ρ₁ ρ₂ : Rho} (hx : x ∉ ns.map (·.1)) (h1 : bindN sc ρa x a = some ρ₁) (h2 : bindNs sc ρ₁ (tgN ns) ds = some ρ₂) : ∃ ρ',bindNs sc ρa (tgN ns) ds = some ρ'∧bindN sc ρ' x a = some ρ₂:=by
 induction ns generalizing ds ρa ρ₁ with
 | nil=>induction ds using List.casesOn with
  | nil=>refine some_e h2 ?_; exact ⟨ρa,rfl,h1⟩
  | cons d ds=>exact no_none h2
 | cons n ns ih=>induction ds using List.casesOn with
  | nil=>exact no_none h2
  | cons d ds =>
   refine o1_e h2 fun ρ₃ e h3=>?_
   refine e0a2 (bindN_inv h1) fun q1 e1=>?_
   refine e0a2 (bindN_inv e) fun q3 e3=>?_
   rw [List.map_cons,List.mem_cons,not_or] at hx
   subst e1
   rw [hasR_set] at q3
   have c:=setR_comm ρa hx.1 (.fz a) (.fz d)
   refine e1a2 (ih (ρa:=setR ρa n.1 (.fz d)) hx.2 (by rw [bindN_eq (by rw [hasR_set]; exact q1),← c,← e3]) h3) fun ρ' g1 g2=>?_
   refine ⟨ρ',?_,g2⟩
   show o1 (fun ρ'=>bindNs sc ρ' (tgN ns) ds) (bindN sc ρa n.1 d) = _
   rw [bindN_eq q3]; exact g1
theorem bindNs_snoc {x : Str} {p : Pos} {a : D} {ts : List Expr} {ds : List D} {ρ ρ₁ ρ₂ : Rho} (h1 : bindNs sc ρ ts ds = some ρ₁) (h2 : bindN sc ρ₁ x a = some ρ₂) : bindNs sc ρ (ts ++ [.Name x p]) (ds ++ [a]) = some ρ₂:=by
 induction ts generalizing ds ρ with
 | nil=>induction ds using List.casesOn with
  | nil=>rw [some_inv h1] at h2; show o1 _ (bindN sc ρ x a) = _; rw [h2]; rfl
  | cons d ds=>exact no_none h1
 | cons t ts ih=>induction ds using List.casesOn with
  | nil=>exact no_none h1
  | cons d ds =>
   refine o1_e h1 fun ρ₃ e h3=>?_
   show o1 (fun ρ'=>bindNs sc ρ' (ts ++ [.Name x p]) (ds ++ [a])) (bind1 sc ρ t d) = _
   rw [e]; exact ih h3
theorem bindNs_rev {ns : List (Str×Pos)} {ds : List D} {ρa ρ' : Rho} (nd : (ns.map (·.1)).Nodup) (h : bindNs sc ρa (tgN ns) ds = some ρ') : bindNs sc ρa (tgN ns.reverse) ds.reverse = some ρ':=by
 induction ns generalizing ds ρa ρ' with
 | nil=>induction ds using List.casesOn with
  | nil=>exact h
  | cons d ds=>exact no_none h
 | cons n ns ih=>induction ds using List.casesOn with
  | nil=>exact no_none h
  | cons d ds =>
   rw [List.map_cons,List.nodup_cons] at nd
   refine o1_e h fun ρ₁ e h1=>?_
   refine e1a2 (bindNs_move nd.1 e h1) fun ρ₂ g1 g2=>?_
   have:=bindNs_snoc (p:=n.2) (ih nd.2 g1) g2
   rw [List.reverse_cons,List.reverse_cons]
   unfold tgN at this ⊢
   rw [List.map_append]
   exact this
theorem filterMap_all {α β : Type} {f : α→Option β} {g : α→β} {l : List α} (h : ∀ a∈l,f a = none∨f a = some (g a)) (hl : (l.filterMap f).length = l.length) : l.filterMap f = l.map g:=by
 induction l with
 | nil=>rfl
 | cons a l ih =>
  have h':=fun b hb=>h b (List.mem_cons_of_mem _ hb)
  rcases h a List.mem_cons_self with e | e
  ·rw [List.filterMap_cons_none e] at hl
   have:=List.length_filterMap_le f l
   rw [hl,List.length_cons] at this
   exact (Nat.not_succ_le_self _ this).elim
  ·rw [List.filterMap_cons_some e] at hl ⊢
   rw [ih h' (Nat.succ.inj hl),List.map_cons]
set_option tactic.hygienic true in
theorem swapped_is {ns : List (Str×Pos)} {tp : Pos} {k : Nat} {v : Expr} (hv : notConsts v = true) : swappedStores [.Tuple (tgN ns) k tp] v env = pure none∨swappedStores [.Tuple (tgN ns) k tp] v env = pure (some (ns.map (·.1))):=by
 induction v using PySem.Expr.casesOn <;> first | exact .inl rfl | skip
 rename_i vs vk vp
 refine and_e hv fun hv _a=>?_
 unfold swappedStores
 dsimp only
 have go:=fun {c : Prop} [Decidable c] {b : Sem (Option (List Str))} (k : ¬ c→b = pure none∨b = pure (some (ns.map (·.1))))=>ite_or (P:=fun z=>z = pure none∨z = pure (some (ns.map (·.1)))) (c:=c) (.inl rfl) k
 refine go fun c1=>go fun c2=>go fun c3=>go fun c4=>?_
 rw [if_neg (fun c5=>by rw [c5] at hv; exact no_ft hv)]
 refine .inr (congrArg (fun z=>pure (some z)) ?_)
 rw [Bool.or_eq_true,not_or] at c3
 refine (filterMap_all (g:=fun e=>(nameOf e).getD default) (fun e he=>?_) (Classical.byContradiction fun z=>c3.1 (bne_iff_ne.mpr z))).trans ?_
 ·refine e1a2 (List.mem_map.mp he) fun n _a rr2=>?_
  subst rr2
  exact ite_or (P:=fun z=>z = none∨z = some _) (.inr rfl) fun _a=>.inl rfl
 ·unfold tgN; rw [List.map_map]; rfl
theorem bindNs_names {M : Model} {ns : List (Str×Pos)} {vs : List Value} {ds : List D} {c : List CE} {s : Shared} {ρ' : Rho} (S : St G hb sc env c φ s) (h : bindNs sc (abs c) (tgN ns) ds = some ρ') (r : RepL φ vs ds) :
  wpAny M A (assignInOrder (ns.map fun n=>bindName env n.1) vs) (fun _a s'=>∃ c',abs c' = ρ'∧Moved G hb sc env c φ s c' s') E s:=by
 induction ns generalizing vs ds c s with
 | nil=>induction ds using List.casesOn with
  | nil=>rw [r.iNil]; exact wpAny_pure ⟨c,some_inv h ▸ rfl,S,⟨s.heap,s.toks,rfl⟩,fun _a _a _a e=>e,fun _a e=>e,rfl⟩
  | cons d ds=>exact no_none h
 | cons n ns ih=>induction ds using List.casesOn with
  | nil=>exact no_none h
  | cons d ds =>
   refine r.sCons fun v vs r1 rs=>?_
   refine o1_e h fun ρ₁ h1 h2=>?_
   show wpAny M A (do holding (v :: vs).tail (bindName env n.1 v); assignInOrder (ns.map fun n=>bindName env n.1) vs) _ E s
   refine wpAny_bind (wpAny_holding (wpAny_bindName (wpAny_mono (bindN_ok (M:=M) (A:=A) (E:=E) S h1 r1) (fun _a s₁ q=>q.elim fun c₁ q=>?_) fun _a _a e=>e)))
   exact wpAny_mono (ih q.2.st (q.1.symm ▸ h2) rs) (fun _a s₂ z=>z.elim fun c₂ z=>⟨c₂,z.1,q.2.trans z.2⟩) fun _a _a e=>e
set_option tactic.hygienic true in
theorem rowpost {d : D} {ρ₁ : Rho} {v : Value} {N : List Str} {s₁ s₂ s₃ : Shared} {c₁ c₂ : List CE} {φ₁ : Fz} (X : EO G hb sc env c φ s N false d ρ₁ v s₁ c₁ φ₁) (x : Step φ₁ s₁ φ₁ s₂) (m : Moved G hb sc env c₁ φ₁ s₂ c₂ s₃) : SPost G hb sc env c φ s (.next (abs c₂)) .next s₃ :=
 ⟨c₂,φ₁,rfl,m.st,(X.rel.trans (fun a ha=>.inl (X.pv a ha)) x.srel).trans (fun a ha=>.inl (X.pv a ha)) m.srel,fun a ha=>.inl (X.pv a (m.priv a ha))⟩
theorem names_of {ts : List Expr} {seen : List Str} (h : distinctNames ts seen = true) : ∃ ns : List (Str×Pos),ts = tgN ns∧(ns.map (·.1)).Nodup∧∀ x∈ns.map (·.1),x ∉ seen:=by
 induction ts generalizing seen with
 | nil=>exact ⟨[],rfl,.nil,fun x hx=>no_mem hx⟩
 | cons t ts ih =>
  have h : isN (fun x=>!(seen.contains x) && distinctNames ts (x :: seen)) (nameOf t) = true:=h
  generalize hn : nameOf t = r_; induction r_ using Option.casesOn with
  | none=>rw [hn] at h; exact no_ft h
  | some x =>
   rw [hn] at h
   refine e1a1 (nameOf_inv hn) fun p rr1=>?_
   subst rr1
   refine and_e h fun h1 h2=>?_
   refine e1a3 (ih h2) fun ns rr1 nd hs=>?_
   subst rr1
   refine ⟨(x,p) :: ns,rfl,List.nodup_cons.mpr ⟨fun hx=>hs x hx List.mem_cons_self,nd⟩,fun y hy=>?_⟩
   rcases List.mem_cons.mp hy with z | z
   ·rw [z]; exact fun hm=>by
     have:=not_inv h1
     rw [List.contains_iff_mem.mpr hm] at this; exact no_tf this
   ·exact fun hm=>hs y z (List.mem_cons_of_mem _ hm)
theorem assignEach_len (ns : List (Str×Pos)) : (assignEach (tgN ns) env).length = ns.length:=by
 induction ns with
 | nil=>rfl
 | cons n ns ih=>exact congrArg Nat.succ ih
set_option tactic.hygienic true in
theorem row_ok (O : VOk G l V) {ts : List Expr} {k : Nat} {tp pos : Pos} {v : Expr} {d : D} {ds : List D} {ρ₁ ρ' : Rho} (hdn : distinctNames ts [] = true) (hv : notConsts v = true) (he : evO V sc ρ v = some (d,ρ₁)) (hd : (d = .tup ds∨d = .list ds)∧ds.length≤lim)
  (h : bindNs sc ρ₁ ts ds = some ρ') : SSem G l sc ρ (.Assign [.Tuple ts k tp] v pos) (.next ρ'):=by
 intro hb env c φ s A E R S hab
 subst hab
 have hsw : swapsWithSole [.Tuple ts k tp] v pos.line env = pure false:=by
  unfold swapsWithSole
  induction v using PySem.Expr.casesOn <;> rfl
 refine e1a3 (names_of hdn) fun ns rr1 nd _a=>?_
 subst rr1
 refine e0a2 (bindNs_shape (env:=env) h) fun sh1 sh2=>?_
 rcases swapped_is (env:=env) (tp:=tp) (k:=k) (ns:=ns) hv with hw | hw
 ·refine PyProof.Rows.Assign_Tuple (evO_then O R S he fun w s₁ c₁ φ₁ X rv=>?_) hsw hw
  rw [← X.ab] at h
  rw [arm_assign_Tuple]
  refine wpAny_bind (wpAny_standAt ?_)
  unfold unpack
  rw [sh1,sh2]
  refine wpAny_bind (wpAny_holding (unpack_ok X.st.g.fin R.handled rv hd fun vs s₂ x rvs=>?_))
  exact wpAny_mono (bindNs_ok (X.st.step x) h rvs) (fun _a s₃ q=>q.elim fun c₂ q=>q.1 ▸ rowpost X x q.2) fun _a _a e=>e
 ·refine PyProof.Rows.Assign_Tuple_swapped (names:=ns.map (·.1)) (evO_then O R S he fun w s₁ c₁ φ₁ X rv=>?_) hsw hw
  rw [← X.ab] at h
  rw [show (ns.map (·.1)).length = ds.length by rw [← sh1,List.length_map]; exact (assignEach_len ns).symm]
  refine unpack_ok X.st.g.fin R.handled rv hd fun vs s₂ x rvs=>?_
  rw [← List.map_reverse,List.map_map]
  exact wpAny_mono (bindNs_names (X.st.step x) (bindNs_rev nd h) rvs.reverse) (fun _a s₃ q=>q.elim fun c₂ q=>q.1 ▸ rowpost X x q.2) fun _a _a e=>e
end
section
variable {G : Gd} {l : Nat} {V V' : EvF} {P : Pg} {sc : Scope} {ρ : Rho} {hb : Heap} {env : Env} {c : List CE} {φ : Fz} {s : Shared} {A : Around} {E : Value→Shared→Prop}
theorem fst_some {z : Option (D×Rho)} {p : D×Rho} {d : D} (h : z = some p) (e : p.1 = d) : z = some (d,p.2):=by rw [h,← e]
set_option tactic.hygienic true in
theorem asg1_ok (PO : POk G l P) (O : VOk G l V) (O' : VOk G l V') (hV : V.e = stepE P V') {t v : Expr} {pos : Pos} {r : SR} (h : asg1 P V sc ρ v t = some r) : SSem G l sc ρ (.Assign [t] v pos) r:=by
 induction t using PySem.Expr.casesOn
 case Name x p =>
  refine oif_e h fun hv h=>?_
  refine o1_e h fun dr he h=>?_
  refine o1_e h fun ρ' hs h=>?_
  refine some_e h ?_
  exact name_assign O O' hV hv he hs
 case Tuple ts k p =>
  refine oif_e h fun hg h=>?_
  refine o1_e h fun dr he h=>?_
  refine o1_e h fun ds hd h=>?_
  refine oif_e h fun hz h=>?_
  refine o1_e h fun ρ' hs h=>?_
  refine some_e h ?_
  exact row_ok O (and_inv (and_inv hg).1).1 (and_inv (and_inv hg).1).2 he ⟨seqD_inv hd,hz⟩ hs
 case Attribute y a q =>
  refine o1_e h fun x hx h=>?_
  refine e1a1 (nameOf_inv hx) fun p rr1=>?_
  rw [rr1]
  refine oif_e h fun hn h=>?_
  refine o1_e h fun dr he h=>?_
  refine o1_e h fun w hl h=>?_
  refine o1_e h fun z hw h=>?_
  refine oif_e h fun hg h=>?_
  rw [oiL_inv hw] at hl
  refine some_e h ?_
  exact attr_ok PO O (and_inv hg).2 hn he hl (and_inv (and_inv hg).1).1 (of_decide_eq_true (and_inv (and_inv hg).1).2)
 case Subscript y i q =>
  refine o1_e h fun x hx h=>?_
  refine e1a1 (nameOf_inv hx) fun p rr1=>?_
  rw [rr1]
  refine oif_e h fun hg h=>?_
  refine o1_e h fun dr he h=>?_
  refine o2_e h fun w kr hl hi h=>?_
  refine o2_e h fun ls j hw hk h=>?_
  refine oif_e h fun hg2 h=>?_
  rw [owL_inv hw] at hl
  refine some_e h ?_
  exact sub_ok O (and_inv (and_inv hg).1).1 (not_inv (and_inv (and_inv hg).1).2) (and_inv hg).2 he hl (fst_some hi (intD_inv hk)) (and_inv (and_inv (and_inv hg2).1).1).1 (and_inv (and_inv (and_inv hg2).1).1).2
 all_goals exact no_none h
theorem appS_inv {m x : Str} {ap cp : Pos} {as : List Expr} {ks : List Keyword} {r : SR} (h : appS V sc ρ m ap cp as ks x = some r) : ∃ e,as = [e]∧ks = []∧(if (!((nmE fuelN e).contains x) && ap.endLine == cp.line && okE e && nmOk x) = true then oApp x m (ρ.lookup x) (evO V sc ρ e) else none) = some r:=by
 induction as using List.casesOn with
 | nil=>exact no_none h
 | cons e as=>induction as using List.casesOn with
  | cons=>exact no_none h
  | nil=>induction ks using List.casesOn with
   | nil=>exact ⟨e,rfl,rfl,h⟩
   | cons=>exact no_none h
theorem expr_ok (O : VOk G l V) {e : Expr} {pos : Pos} {r : SR} (h : exprS V sc ρ e = some r) : SSem G l sc ρ (.Expr e pos) r:=by
 refine o1_e h fun c hc h=>?_
 refine o1_e h fun a ha h=>?_
 refine o1_e h fun x hx h=>?_
 refine e1a1 (nameOf_inv hx) fun p e1=>?_
 refine e1a3 (appS_inv h) fun e' e2 e3 h=>?_
 refine oif_e h fun hg h=>?_
 refine o2_e h fun w u hl he h=>?_
 refine o1_e h fun ls hw h=>?_
 refine o1_e h fun tl ht h=>?_
 refine some_e h ?_
 rw [owL_inv hw] at hl
 rw [callF_inv hc,attF_inv ha,e1,e2,e3]
 unfold appT at ht
 by_cases hm : a.2.1 = "append"
 ·rw [if_pos hm] at ht
  refine oif_e ht fun hz ht=>?_
  refine some_e ht ?_
  rw [show a.2.1 = ofString "append" from hm]
  exact append_ok O (and_inv (and_inv (and_inv hg).1).1).2 (and_inv (and_inv hg).1).2 (not_inv (and_inv (and_inv (and_inv hg).1).1).1) (and_inv hg).2 hl he hz
 ·rw [if_neg hm] at ht
  refine oif_e ht fun hm ht=>?_
  refine o1_e ht fun t2 hd ht=>?_
  refine oif_e ht fun hz ht=>?_
  refine some_e ht ?_
  rw [show a.2.1 = ofString "extend" from hm]
  exact extend_ok O (and_inv (and_inv (and_inv hg).1).1).2 (and_inv (and_inv hg).1).2 (not_inv (and_inv (and_inv (and_inv hg).1).1).1) (and_inv hg).2 hl (fst_some he (lstD_inv hd)) hz
set_option tactic.hygienic true in
theorem aug_ok (O : VOk G l V) {x : Str} {p pos : Pos} {v : Expr} {r : SR} (h : oAug sc x v (ρ.lookup x) (evO V sc ρ v) = some r) : SSem G l sc ρ (.AugAssign (.Name x p) .Add v pos) r:=by
 refine o1_e h fun w hl h=>?_
 induction w using Mine.LV.casesOn
 case fz d =>
  refine o1_e h fun a ha h=>?_
  refine o1_e h fun dr he h=>?_
  refine o1_e h fun b hb h=>?_
  rw [intD_inv ha] at hl
  refine oif_e h fun hn h=>?_
  refine o1_e h fun ρ' hs h=>?_
  refine some_e h ?_
  exact aug_int_ok O hn hl (fst_some he (intD_inv hb)) hs
 all_goals exact no_none h
theorem isNil_inv {α : Type} {l : List α} (h : isNil l = true) : l = []:=by induction l using List.casesOn; rfl; exact no_ft h
set_option tactic.hygienic true in
theorem step1_ok (PO : POk G l P) (O : VOk G l V) (O' : VOk G l V') (hV : V.e = stepE P V') {X : Rho→List Stmt→Option SR} (HX : XOk G l sc X) {st : Stmt} {r : SR} (h : step1 P V X sc ρ st = some r) : SSem G l sc ρ st r:=by
 induction st using PySem.Stmt.casesOn
 case Assign ts v p =>
  induction ts using List.casesOn with
  | nil=>exact no_none h
  | cons t ts=>induction ts using List.casesOn with
   | nil=>exact asg1_ok PO O O' hV h
   | cons u ts =>
    refine o1_e h fun dr he h=>?_
    refine oif_e h fun _a h=>?_
    refine o1_e h fun ρ' hs h=>?_
    refine some_e h ?_
    exact names_ok O he hs
 case AugAssign t o v p =>
  refine o1_e h fun x hx h2=>?_
  refine e1a1 (nameOf_inv hx) fun q e=>?_
  refine oif_e h2 fun ho h3=>?_
  rw [e]
  induction o using PySem.Operator.casesOn
  case Add=>exact aug_ok O h3
  all_goals exact no_ft ho
 case Expr e p=>exact expr_ok O h
 case If t b o p =>
  refine o1_e h fun z ht h=>?_
  induction z using Bool.casesOn
  ·exact if_ok O HX ht (by rw [if_neg Bool.false_ne_true]; exact h)
  ·exact if_ok O HX ht (by rw [if_pos rfl]; exact h)
 case For tgt it b o p =>
  refine oif_e h fun hg h2=>?_
  have qq:=isNil_inv (and_inv hg).1; subst qq
  refine o1_e h2 fun dr he h3=>?_
  refine o1_e h3 fun items hit h4=>?_
  exact for_ok O HX (and_inv hg).2 he hit h4
 case While t b o p =>
  refine oif_e h fun hg h2=>?_
  have qq:=isNil_inv hg; subst qq
  exact while_ok O HX h2
 case Return v p =>
  induction v using Option.casesOn
  case some v =>
   refine o1_e h fun dr he h=>?_
   refine some_e h ?_
   exact return_ok O he
  case none =>
   refine some_e h ?_
   intro hb env c φ s A E R S hab
   exact wpAny_Return_none ⟨φ,.none,S.g,SRel.refl⟩
 case Pass p =>
  refine some_e h ?_
  intro hb env c φ s A E R S hab
  exact wpAny_Pass ⟨c,φ,hab,S,SRel.refl,PV.refl⟩
 case Break p =>
  refine some_e h ?_
  intro hb env c φ s A E R S hab
  rw [arm_exec_Break]
  exact wpAny_bind (wpAny_standAt (wpAny_pure ⟨c,φ,hab,S,SRel.refl,PV.refl⟩))
 case Continue p =>
  refine some_e h ?_
  intro hb env c φ s A E R S hab
  rw [arm_exec_Continue]
  exact wpAny_bind (wpAny_standAt (wpAny_pure ⟨c,φ,hab,S,SRel.refl,PV.refl⟩))
 case Assert t m p =>
  refine o1_e h fun z ht h=>?_
  induction z using Bool.casesOn
  ·exact no_none h
  ·refine some_e h ?_; exact assert_ok O ht
 case Try b hs o f p =>
  refine oif_e h fun hg h2=>?_
  have qq:=isNil_inv (and_inv hg).2; subst qq
  have qq:=isNil_inv (and_inv (and_inv hg).1).2; subst qq
  induction hs using List.casesOn
  ·exact no_ft (and_inv (and_inv hg).1).1
  ·exact try_ok HX h2
 all_goals exact no_none h
theorem stepS_ok (PO : POk G l P) (O : VOk G l V) (O' : VOk G l V') (hV : V.e = stepE P V') {X : Rho→List Stmt→Option SR} (HX : XOk G l sc X) {b : List Stmt} {ρ : Rho} {r : SR} (h : stepS P V X sc ρ b = some r) : XSem G l sc ρ b r:=by
 induction b generalizing ρ with
 | nil =>
  refine some_e h ?_
  intro hb env c φ s A E R S hab
  exact wpAny_execs_nil ⟨c,φ,hab,S,SRel.refl,PV.refl⟩
 | cons st b ih =>
  intro hb env c φ s A E R S hab
  refine o1_e h fun r₁ h1 h=>?_
  refine wpAny_execs_cons (wpAny_mono (step1_ok PO O O' hV HX h1 hb env c φ s A E R S hab) (fun f s₁ q=>?_) fun _a _a e=>e)
  induction r₁ using Mine.SR.casesOn <;> induction f using PySem.Flow.casesOn <;> first | exact q.elim | skip
  ·refine e2a4 (q) fun c₁ φ₁ ab₁ S₁ x₁ p₁=>?_
   exact wpAny_mono (ih h hb env c₁ φ₁ s₁ A E R S₁ ab₁) (fun f s₂ z=>z.after x₁ p₁) fun _a _a e=>e
  all_goals (refine some_e h ?_; exact q)
theorem exN_ok (PO : POk G l P) (sc : Scope) : ∀ n,XOk G l sc (exN P n sc)
 | 0=>fun _a _a _a h=>no_none h
 | n + 1=>fun ρ b r h=>stepS_ok PO (evN_ok PO fuelN) (evN_ok PO 29) rfl (exN_ok PO sc n) h
end
noncomputable def fnCE (b : Str→CV) : Nat→List (Str×NameKind)→List CE
 | _,[]=>[]
 | n,(x,k) :: r=>match k with
  | .local=>⟨x,.loc,b x⟩ :: fnCE b n r
  | .cell=>⟨x,.own n,b x⟩ :: fnCE b (n + 1) r
  | _=>fnCE b n r
noncomputable def rho0 (b : Str→LV) : List (Str×NameKind)→Rho
 | []=>[]
 | (x,k) :: r=>match k with
  | .local=>(x,b x) :: rho0 b r
  | .cell=>(x,b x) :: rho0 b r
  | _=>rho0 b r
theorem fnCE_abs (b : Str→CV) (b' : Str→LV) (h : ∀ x,(b x).ab = b' x) : ∀ (names : List (Str×NameKind)) (n : Nat),abs (fnCE b n names) = rho0 b' names
 | [],_=>rfl
 | (x,k) :: r,n=>by
  unfold fnCE rho0
  induction k using PySem.NameKind.casesOn with
  | «local»=>dsimp only; rw [← h x,← fnCE_abs b b' h r n]; rfl
  | cell=>dsimp only; rw [← h x,← fnCE_abs b b' h r (n + 1)]; rfl
  | free=>exact fnCE_abs b b' h r n
  | globalImplicit=>exact fnCE_abs b b' h r n
  | globalExplicit=>exact fnCE_abs b b' h r n
theorem fnCE_mem {b : Str→CV} : ∀ {names : List (Str×NameKind)} {n : Nat} {e : CE},e∈fnCE b n names→e.cv = b e.x∧((e.loc = .loc∧(e.x,NameKind.local)∈names)∨(∃ ca,e.loc = .own ca∧n≤ca∧(e.x,NameKind.cell)∈names))
 | [],_,_,h=>(no_mem h)
 | (x,k) :: r,n,e,h=>by
  unfold fnCE at h
  have lift : ∀ {m : Nat},n≤m→e∈fnCE b m r→e.cv = b e.x∧((e.loc = .loc∧(e.x,NameKind.local)∈(x,k) :: r)∨(∃ ca,e.loc = .own ca∧n≤ca∧(e.x,NameKind.cell)∈(x,k) :: r)):=fun hm h=>by
   refine e0a2 (fnCE_mem h) fun h1 h2=>?_
   refine ⟨h1,?_⟩
   rcases h2 with ⟨h2,h3⟩ | ⟨ca,h2,h3,h4⟩
   ·exact .inl ⟨h2,List.mem_cons_of_mem _ h3⟩
   ·exact .inr ⟨ca,h2,Nat.le_trans hm h3,List.mem_cons_of_mem _ h4⟩
  induction k using PySem.NameKind.casesOn with
  | «local» =>
   rcases List.mem_cons.mp h with z | z
   ·subst z; exact ⟨rfl,.inl ⟨rfl,List.mem_cons_self⟩⟩
   ·exact lift (Nat.le_refl _) z
  | cell =>
   rcases List.mem_cons.mp h with z | z
   ·subst z; exact ⟨rfl,.inr ⟨n,rfl,Nat.le_refl _,List.mem_cons_self⟩⟩
   ·exact lift (Nat.le_succ _) z
  | free=>exact lift (Nat.le_refl _) h
  | globalImplicit=>exact lift (Nat.le_refl _) h
  | globalExplicit=>exact lift (Nat.le_refl _) h
theorem fnCE_names {b : Str→CV} : ∀ (names : List (Str×NameKind)) (n : Nat),((fnCE b n names).map (·.x)).Sublist (names.map (·.1))
 | [],_=>.slnil
 | (x,k) :: r,n=>by
  unfold fnCE
  induction k using PySem.NameKind.casesOn with
  | «local»=>exact (fnCE_names r n).cons_cons x
  | cell=>exact (fnCE_names r (n + 1)).cons_cons x
  | free=>exact (fnCE_names r n).cons x
  | globalImplicit=>exact (fnCE_names r n).cons x
  | globalExplicit=>exact (fnCE_names r n).cons x
theorem fnCE_own {b : Str→CV} : ∀ {names : List (Str×NameKind)} {n : Nat} {acc : List (Str×Addr)},(names.map (·.1)).Nodup→∀ e∈fnCE b n names,∀ ca,e.loc = .own ca→(cellsFrom n names acc).lookup e.x = some ca
 | [],_,_,_,_,he,_,_=>(no_mem he)
 | (x,k) :: r,n,acc,nd,e,he,ca,hl=>by
  rw [List.map_cons,List.nodup_cons] at nd
  unfold fnCE at he
  unfold cellsFrom
  induction k using PySem.NameKind.casesOn with
  | «local» =>
   rcases List.mem_cons.mp he with z | z
   ·subst z; cases hl
   ·exact fnCE_own nd.2 e z ca hl
  | cell =>
   simp only [beq_self_eq_true,if_true]
   rcases List.mem_cons.mp he with z | z
   ·subst z
    cases hl
    rw [cellsFrom_other r _ _ fun k hk e=>nd.1 (List.mem_map.mpr ⟨_,hk,rfl⟩),List.lookup_cons]; simp
   ·exact fnCE_own nd.2 e z ca hl
  | free=>exact fnCE_own nd.2 e he ca hl
  | globalImplicit=>exact fnCE_own nd.2 e he ca hl
  | globalExplicit=>exact fnCE_own nd.2 e he ca hl
theorem fnCE_privs {b : Str→CV} {m : Nat} (hlt : ∀ x,∀ a∈(b x).priv,a < m) (hnd : ∀ x,(b x).priv.Nodup) (hap : ∀ x y,x≠y→∀ a∈(b x).priv,a ∉ (b y).priv) :
  ∀ (names : List (Str×NameKind)) (n : Nat),m≤n→(names.map (·.1)).Nodup→(∀ a∈(fnCE b n names).flatMap CE.priv,n≤a∨∃ x∈names.map (·.1),a∈(b x).priv)∧((fnCE b n names).flatMap CE.priv).Nodup
 | [],_,_,_=>⟨fun _a h=>(no_mem h),List.nodup_nil⟩
 | (x,k) :: r,n,hn,nd=>by
  rw [List.map_cons,List.nodup_cons] at nd
  have skip : (∀ a∈(fnCE b n r).flatMap CE.priv,n≤a∨∃ y∈((x,k) :: r).map (·.1),a∈(b y).priv)∧((fnCE b n r).flatMap CE.priv).Nodup:=by
   refine e0a2 (fnCE_privs hlt hnd hap r n hn nd.2) fun h1 h2=>?_
   exact ⟨fun a ha=>(h1 a ha).imp id fun ⟨y,hy,z⟩=>⟨y,List.mem_cons_of_mem _ hy,z⟩,h2⟩
  unfold fnCE
  induction k using PySem.NameKind.casesOn with
  | «local» =>
   refine e0a2 (fnCE_privs hlt hnd hap r n hn nd.2) fun h1 h2=>?_
   refine ⟨fun a ha=>?_,?_⟩
   ·rw [List.flatMap_cons] at ha
    rcases List.mem_append.mp ha with z | z
    ·exact .inr ⟨x,List.mem_cons_self,by simpa [CE.priv,Loc.priv] using z⟩
    ·exact skip.1 a z
   ·rw [List.flatMap_cons,List.nodup_append]
    refine ⟨by simpa [CE.priv,Loc.priv] using hnd x,h2,fun a ha a' ha' e=>?_⟩
    subst e
    have ha : a∈(b x).priv:=by simpa [CE.priv,Loc.priv] using ha
    rcases h1 a ha' with z | ⟨y,hy,z⟩
    ·have:=hlt x a ha; exact absurd z (Nat.not_le.mpr (Nat.lt_of_lt_of_le this hn))
    ·exact hap x y (fun q=>nd.1 (q ▸ hy)) a ha z
  | cell =>
   refine e0a2 (fnCE_privs hlt hnd hap r (n + 1) (Nat.le_succ_of_le hn) nd.2) fun h1 h2=>?_
   refine ⟨fun a ha=>?_,?_⟩
   ·rw [List.flatMap_cons] at ha
    rcases List.mem_append.mp ha with z | z
    ·rcases List.mem_append.mp z with w | w
     ·have : a = n:=by simpa [Loc.priv] using w
      exact .inl (Nat.le_of_eq this.symm)
     ·exact .inr ⟨x,List.mem_cons_self,w⟩
    ·rcases h1 a z with w | ⟨y,hy,w⟩
     ·exact .inl (Nat.le_of_succ_le w)
     ·exact .inr ⟨y,List.mem_cons_of_mem _ hy,w⟩
   ·rw [List.flatMap_cons,List.nodup_append]
    refine ⟨?_,h2,fun a ha a' ha' e=>?_⟩
    ·show (n :: (b x).priv).Nodup
     rw [List.nodup_cons]
     exact ⟨fun z=>absurd (hlt x n z) (Nat.not_lt.mpr hn),hnd x⟩
    ·subst e
     have ha : a∈n :: (b x).priv:=ha
     rcases List.mem_cons.mp ha with z | z
     ·subst z
      rcases h1 a ha' with w | ⟨y,hy,w⟩
      ·exact absurd w (Nat.not_succ_le_self a)
      ·exact absurd (hlt y a w) (Nat.not_lt.mpr hn)
     ·rcases h1 a ha' with w | ⟨y,hy,w⟩
      ·exact absurd (Nat.lt_of_lt_of_le (hlt x a z) hn) (Nat.not_lt.mpr (Nat.le_of_succ_le w))
      ·exact hap x y (fun q=>nd.1 (q ▸ hy)) a z w
  | free=>exact skip
  | globalImplicit=>exact skip
  | globalExplicit=>exact skip
theorem bindL_at {kindOf : Str→Option NameKind} {x : Str} (hx : kindOf x = some .local) : ∀ (binds : List (Str×Value)) (m : Str→Option Value),bindL kindOf binds m x = (binds.reverse.lookup x).or (m x)
 | [],m=>by simp [bindL]
 | (n,v) :: r,m=>by
  unfold bindL
  rw [bindL_at hx r,List.reverse_cons,List.lookup_append,Option.or_assoc]
  congr 1
  by_cases k : x = n
  ·subst k; rw [if_pos hx]; simp
  ·have kb : (x == n) = false:=beq_eq_false_iff_ne.mpr k
   split <;> simp [List.lookup_cons,kb,k]
theorem bindC_at {kindOf : Str→Option NameKind} {x : Str} (hx : kindOf x = some .cell) : ∀ (binds : List (Str×Value)) (m : Str→Option Value),bindC kindOf binds m x = (binds.reverse.lookup x).or (m x)
 | [],m=>by simp [bindC]
 | (n,v) :: r,m=>by
  unfold bindC
  rw [bindC_at hx r,List.reverse_cons,List.lookup_append,Option.or_assoc]
  congr 1
  by_cases k : x = n
  ·subst k; rw [if_neg (by rw [hx]; simp)]; simp
  ·have kb : (x == n) = false:=beq_eq_false_iff_ne.mpr k
   split <;> simp [List.lookup_cons,kb,k]
structure FdOk (fd : FuncData) (body : List Stmt) : Prop where
 body : fd.body = .stmts body
 glo : fd.globals = mainGlobals
 bui : fd.builtins = builtinsNs
 clo : fd.closure = []
 co : fd.scope.isCoroutine = false
 gen : fd.scope.isGenerator = false
 kind : fd.scope.kind = .function
 nd : (fd.scope.names.map (·.1)).Nodup
 nofree : ∀ x,(x,NameKind.free) ∉ fd.scope.names
structure Given (G : Gd) (φ : Fz) (s : Shared) (b : Str→CV) : Prop where
 good : ∀ x,Good G.w φ s.heap (b x)
 nd : ∀ x,(b x).priv.Nodup
 apart : ∀ x y,x≠y→∀ a∈(b x).priv,a ∉ (b y).priv
 off : ∀ x,∀ a∈(b x).priv,φ a = none∧G.h.get? a = none∧∃ o,s.heap.get? a = some o
section
variable {G : Gd} {l : Nat} {P : Pg} {φ : Fz} {s : Shared} {A : Around} {E : Value→Shared→Prop}
theorem enter_st {fd : FuncData} {body : List Stmt} {a : Addr} {binds : List (Str×Value)} {b : Str→CV} {s₁ : Shared} (F : FdOk fd body) (g : Gnd G φ s) (B : Given G φ s b) (hv : ∀ x,(b x).val? = binds.reverse.lookup x)
  (x : InCallC s (callEnvC fd s.heap.objs.size a).locals (bindL (callEnvC fd s.heap.objs.size a).kindOf binds fun _a=>none) (callEnvC fd s.heap.objs.size a).cells (bindC (callEnvC fd s.heap.objs.size a).kindOf binds fun _a=>none) s₁) :
  St G G.h fd.scope (callEnvC fd s.heap.objs.size a) (fnCE b (s.heap.objs.size + 1) fd.scope.names) φ s₁:=by
 have keep:=x.toInCall.keep
 have hlt : ∀ y,∀ c∈(b y).priv,c < s.heap.objs.size:=fun y c hc=>let ⟨o,ho⟩:=(B.off y c hc).2.2; Heap.lt_size ho
 refine e0a2 (fnCE_privs hlt B.nd B.apart fd.scope.names (s.heap.objs.size + 1) (Nat.le_succ _) F.nd) fun p1 p2=>?_
 have hL : (callEnvC fd s.heap.objs.size a).locals = s.heap.objs.size:=rfl
 have low : ∀ c∈privs (callEnvC fd s.heap.objs.size a) (fnCE b (s.heap.objs.size + 1) fd.scope.names),s.heap.get? c = none∨∃ y,c∈(b y).priv:=fun c hc=>by
  rcases List.mem_cons.mp hc with z | z
  ·exact .inl (by rw [z]; exact get_size_none _)
  ·rcases p1 c z with w | ⟨y,_,w⟩
   ·exact .inl (none_ge (Nat.le_of_succ_le w))
   ·exact .inr ⟨y,w⟩
 refine ⟨⟨g.gnd,fun c o e=>keep c o (g.fin c o e)⟩,fun c o e=>keep c o (g.keep c o e),F.kind,F.glo,F.bui,fun y h=>h,fun e he=>?_,F.nd.sublist (fnCE_names _ _),?_,fun c hc=>?_,fun c hc=>?_,_,x.toInCall.ns,fun e he=>?_⟩
 ·refine e0a2 (fnCE_mem he) fun h1 h2=>?_
  rcases h2 with ⟨h2,h3⟩ | ⟨ca,h2,_,h3⟩
  ·rw [lookup_of_mem F.nd h3,h2]; trivial
  ·rw [lookup_of_mem F.nd h3,h2]; trivial
 ·rw [privs,List.nodup_cons]
  refine ⟨fun z=>?_,p2⟩
  rw [hL] at z
  rcases p1 _ z with w | ⟨y,_,w⟩
  ·exact absurd w (Nat.not_succ_le_self _)
  ·exact absurd (hlt y _ w) (Nat.lt_irrefl _)
 ·rcases low c hc with z | ⟨y,z⟩
  ·generalize q : φ c = r_; induction r_ using Option.casesOn with
   | none=>rfl
   | some o=>have:=g.fin c o q; rw [z] at this; exact no_none this
  ·exact (B.off y c z).1
 ·rcases low c hc with z | ⟨y,z⟩
  ·exact none_of_ext g.keep z
  ·exact (B.off y c z).2.1
 ·refine e0a2 (fnCE_mem he) fun h1 h2=>?_
  have good : Good G.w φ s₁.heap e.cv:=by rw [h1]; exact (B.good e.x).mono (fun _a _a z=>z) fun c _a o q=>keep c o q
  rcases h2 with ⟨h2,h3⟩ | ⟨ca,h2,_,h3⟩
  ·have hk : (callEnvC fd s.heap.objs.size a).kindOf e.x = some .local:=lookup_of_mem F.nd h3
   refine ⟨?_,good⟩
   unfold Slot
   rw [h2]
   refine ⟨hk,fun v hv'=>?_⟩
   rw [bindL_at hk,← hv,← h1,hv']; rfl
  ·have hk : (callEnvC fd s.heap.objs.size a).kindOf e.x = some .cell:=lookup_of_mem F.nd h3
   refine ⟨?_,good⟩
   have hc : (callEnvC fd s.heap.objs.size a).cells.lookup e.x = some ca:=fnCE_own F.nd e he ca h2
   unfold Slot
   rw [h2]
   refine ⟨hk,hc,_,x.cell _ _ hc,fun v hv'=>?_⟩
   rw [bindC_at hk,← hv,← h1,hv']; rfl
theorem code_enter {fd : FuncData} {body : List Stmt} {a : Addr} {o : Obj} {args : Args} {binds : List (Str×Value)} {b : Str→CV} {Rr : Result→Shared→Prop} (F : FdOk fd body) (ho : s.heap.get? a = some o) (hd : o.data = .func fd) (hlim : s.heap.NoLimit) (hcd : s.heap.CodeRec fd.code fd.qualname)
  (hbind : BindsTo s fd args binds) (hkind : ∀ x∈binds,∃ k,(x.1,k)∈fd.scope.names∧(k = .local∨k = .cell)) (g : Gnd G φ s) (B : Given G φ s b) (hv : ∀ x,(b x).val? = binds.reverse.lookup x) (R : Room A (l + 1))
  (hx : ∀ s₁,InCallC s (callEnvC fd s.heap.objs.size a).locals (bindL (callEnvC fd s.heap.objs.size a).kindOf binds fun _a=>none) (callEnvC fd s.heap.objs.size a).cells (bindC (callEnvC fd s.heap.objs.size a).kindOf binds fun _a=>none) s₁ →
   St G G.h fd.scope (callEnvC fd s.heap.objs.size a) (fnCE b (s.heap.objs.size + 1) fd.scope.names) φ s₁ →
   wpAny (model G.prog G.w) (A.deeper (callEnvC fd s.heap.objs.size a)) (execs body (callEnvC fd s.heap.objs.size a)) (fun f s'=>Rr (.ok (.ret (match f with | .ret v=>v | _=>.none))) s')
    (fun e s'=>wpAny (model G.prog G.w) (A.deeper (callEnvC fd s.heap.objs.size a)) (leaving (callEnvC fd s.heap.objs.size a) e) (fun _a s''=>Rr (.error e) s'') (fun e' s''=>Rr (.error e') s'') s') s₁) :
  codeAny (model G.prog G.w) A (.call (.ref a) args) Rr s:=by
 refine codeAny_call_function (by have:=R.depth; omega) ho hd F.co F.gen F.body hcd (hbind _ _ _ _ ?_)
 rw [F.clo]
 refine wpAny_newFunctionEnv_cells F.kind (fun x hx=>?_) fun env he s₁ x=>?_
 ·refine e1a2 (hkind x hx) fun k hm hk=>?_
  have:=lookup_of_mem F.nd hm
  rcases hk with rfl | rfl
  ·exact .inl this
  ·refine .inr ⟨this,?_⟩
   have : ∀ (names : List (Str×NameKind)) (n : Nat),(names.map (·.1)).Nodup→(x.1,NameKind.cell)∈names→∀ acc,((cellsFrom n names acc).lookup x.1).isSome = true:=by
    intro names
    induction names with
    | nil=>intro n _ h; cases h
    | cons p r ih =>
     obtain ⟨y,k⟩:=p
     intro n nd h acc
     rw [List.map_cons,List.nodup_cons] at nd
     unfold cellsFrom
     rcases List.mem_cons.mp h with z | z
     ·cases z
      simp only [beq_self_eq_true,if_true]
      rw [cellsFrom_other r _ _ fun k hk e=>nd.1 (List.mem_map.mpr ⟨_,hk,rfl⟩),List.lookup_cons]; simp
     ·split
      ·exact ih _ nd.2 z _
      ·exact ih _ nd.2 z _
   exact this _ _ F.nd hm _
 ·subst he
  exact ⟨hlim.keeps x.toInCall.keep,codeAny_func (hx s₁ x (enter_st (a:=a) F g B hv x))⟩
theorem code_body {fd : FuncData} {body : List Stmt} {a : Addr} {o : Obj} {args : Args} {binds : List (Str×Value)} {b : Str→CV} {r : SR} {Rr : Result→Shared→Prop} (F : FdOk fd body) (ho : s.heap.get? a = some o) (hd : o.data = .func fd) (hlim : s.heap.NoLimit) (hcd : s.heap.CodeRec fd.code fd.qualname)
  (hbind : BindsTo s fd args binds) (hkind : ∀ x∈binds,∃ k,(x.1,k)∈fd.scope.names∧(k = .local∨k = .cell)) (g : Gnd G φ s) (B : Given G φ s b) (hv : ∀ x,(b x).val? = binds.reverse.lookup x) (R : Room A (l + 1))
  (hx : XSem G l fd.scope (rho0 (fun x=>(b x).ab) fd.scope.names) body r)
  (hQ : ∀ f s₁ s',InCallC s (callEnvC fd s.heap.objs.size a).locals (bindL (callEnvC fd s.heap.objs.size a).kindOf binds fun _a=>none) (callEnvC fd s.heap.objs.size a).cells (bindC (callEnvC fd s.heap.objs.size a).kindOf binds fun _a=>none) s₁ →
   SPost G G.h fd.scope (callEnvC fd s.heap.objs.size a) (fnCE b (s.heap.objs.size + 1) fd.scope.names) φ s₁ r f s'→Rr (.ok (.ret (match f with | .ret v=>v | _=>.none))) s') :
  codeAny (model G.prog G.w) A (.call (.ref a) args) Rr s :=
 code_enter F ho hd hlim hcd hbind hkind g B hv R fun s₁ x S=>wpAny_mono (hx G.h (callEnvC fd s.heap.objs.size a) _ φ s₁ _ _ (R.deeper _) S (fnCE_abs _ _ (fun _a=>rfl) _ _)) (fun f s' q=>hQ f s₁ s' x q) fun e s' q=>q
structure DefAt (G : Gd) (a : Addr) (fd : FuncData) (body : List Stmt) : Prop where
 ok : FdOk fd body
 obj : ∃ o,G.h.get? a = some o∧o.data = .func fd
 code : G.h.CodeRec fd.code fd.qualname
 keep : KeepOk G (.ref a)
noncomputable def bindsD (bd : List (Str×D)) : Str→LV:=fun x=>match bd.reverse.lookup x with
 | some d=>.fz d
 | none=>.un
structure Inn (G : Gd) (fd : FuncData) (a : Addr) (bd : List (Str×D)) (φ : Fz) (s : Shared) (c : List CE) (s₁ : Shared) : Prop where
 same : ∃ h tk,s₁ = { s with heap:=h,toks:=tk }
 keep : ∀ b o,s.heap.get? b = some o→s₁.heap.get? b = some o
 st : St G G.h fd.scope (callEnvC fd s.heap.objs.size a) c φ s₁
 ab : abs c = rho0 (bindsD bd) fd.scope.names
 low : ∀ b∈privs (callEnvC fd s.heap.objs.size a) c,s.heap.get? b = none
theorem def_enter (hlim : G.h.NoLimit) {a : Addr} {fd : FuncData} {body : List Stmt} {ds : List D} {ks : List (Str×D)} {bd : List (Str×D)} (D₀ : DefAt G a fd body)
  (hb : ∀ φ vs kvs (s : Shared),RepL φ vs ds→RepK φ kvs ks→Gnd G φ s→∃ binds,BindsTo s fd ⟨vs,kvs⟩ binds∧RepK φ binds bd)
  (hn : ∀ x∈bd,∃ k,(x.1,k)∈fd.scope.names∧(k = .local∨k = .cell)) {vs : List Value} {kvs : List (Str×Value)} {Rr : Result→Shared→Prop} (g : Gnd G φ s) (R : Room A (l + 1)) (r : RepL φ vs ds) (rk : RepK φ kvs ks)
  (hx : ∀ c s₁,Inn G fd a bd φ s c s₁→wpAny (model G.prog G.w) (A.deeper (callEnvC fd s.heap.objs.size a)) (execs body (callEnvC fd s.heap.objs.size a)) (fun f s'=>Rr (.ok (.ret (match f with | .ret v=>v | _=>.none))) s')
    (fun e s'=>wpAny (model G.prog G.w) (A.deeper (callEnvC fd s.heap.objs.size a)) (leaving (callEnvC fd s.heap.objs.size a) e) (fun _a s''=>Rr (.error e) s'') (fun e' s''=>Rr (.error e') s'') s') s₁) :
  codeAny (model G.prog G.w) A (.call (.ref a) ⟨vs,kvs⟩) Rr s:=by
 refine e1a2 (hb φ vs kvs s r rk g) fun binds hbind rb=>?_
 refine e1a2 (D₀.obj) fun o ho hd=>?_
 -- what each name is given
 have look : ∀ (binds : List (Str×Value)) (bd : List (Str×D)),RepK φ binds bd→∀ x,(∃ v d,binds.lookup x = some v∧bd.lookup x = some d∧Rep φ v d)∨(binds.lookup x = none∧bd.lookup x = none):=by
  intro binds
  induction binds with
  | nil=>intro bd h x; obtain ⟨h1,h2⟩:=h; induction bd using List.casesOn with
   | nil=>exact .inr ⟨rfl,rfl⟩
   | cons p bd=>cases h2
  | cons p binds ih =>
   intro bd h x
   obtain ⟨y,v⟩:=p
   refine e0a2 (h) fun h1 h2=>?_
   cases bd with
   | nil=>cases h2
   | cons q bd =>
    obtain ⟨z,d⟩:=q
    cases h2 with | cons r₁ rs =>
    have hyz : y = z:=(List.cons.inj h1).1
    subst hyz
    have ih':=ih bd ⟨(List.cons.inj h1).2,rs⟩ x
    rw [List.lookup_cons,List.lookup_cons]
    cases hxy : x == y with
    | true=>exact .inl ⟨v,d,rfl,rfl,r₁⟩
    | false=>exact ih'
 have rb' : RepK φ binds.reverse bd.reverse:=⟨by rw [List.map_reverse,List.map_reverse,rb.1],by rw [List.map_reverse,List.map_reverse]; exact rb.2.reverse⟩
 let b : Str→CV:=fun x=>match binds.reverse.lookup x,bd.reverse.lookup x with
  | some v,some d=>.fz v d
  | _,_=>.un
 have hbv : ∀ x,(b x).val? = binds.reverse.lookup x:=fun x=>by
  show CV.val? (match binds.reverse.lookup x,bd.reverse.lookup x with | some v,some d=>CV.fz v d | _,_=>.un) = _
  rcases look _ _ rb' x with ⟨v,d,h1,h2,_⟩ | ⟨h1,h2⟩ <;> rw [h1,h2] <;> rfl
 have hba : (fun x=>(b x).ab) = bindsD bd:=by
  funext x
  show CV.ab (match binds.reverse.lookup x,bd.reverse.lookup x with | some v,some d=>CV.fz v d | _,_=>.un) = _
  unfold bindsD
  rcases look _ _ rb' x with ⟨v,d,h1,h2,_⟩ | ⟨h1,h2⟩ <;> rw [h1,h2] <;> rfl
 have hno : ∀ x,(b x).priv = []:=fun x=>by
  show CV.priv (match binds.reverse.lookup x,bd.reverse.lookup x with | some v,some d=>CV.fz v d | _,_=>.un) = _
  split <;> rfl
 have good : ∀ x,Good G.w φ s.heap (b x):=fun x=>by
  show Good G.w φ s.heap (match binds.reverse.lookup x,bd.reverse.lookup x with | some v,some d=>CV.fz v d | _,_=>.un)
  rcases look _ _ rb' x with ⟨v,d,h1,h2,h3⟩ | ⟨h1,h2⟩
  ·rw [h1,h2]; exact h3
  ·rw [h1,h2]; trivial
 have B : Given G φ s b:=by
  refine ⟨good,fun x=>?_,fun x y _a a ha=>?_,fun x a ha=>?_⟩
  ·rw [hno x]; exact List.nodup_nil
  ·rw [hno x] at ha; cases ha
  ·rw [hno x] at ha; cases ha
 have hkind : ∀ x∈binds,∃ k,(x.1,k)∈fd.scope.names∧(k = .local∨k = .cell):=fun x hx=>by
  have hm : x.1∈bd.map (·.1):=rb.1 ▸ List.mem_map.mpr ⟨x,hx,rfl⟩
  refine e1a2 (List.mem_map.mp hm) fun y hy e=>?_
  rw [← e]; exact hn y hy
 refine code_enter (args:=⟨vs,kvs⟩) D₀.ok (g.keep _ _ ho) hd (hlim.keeps g.keep) (D₀.code.keeps g.keep) hbind hkind g B hbv R fun s₁ x S=>hx _ s₁ ⟨x.toInCall.same,x.toInCall.keep,S,(fnCE_abs _ _ (fun _a=>rfl) _ _).trans (by rw [hba]),fun c hc=>?_⟩
 refine e0a2 (fnCE_privs (m:=s.heap.objs.size) (fun y c hc=>by rw [hno y] at hc; cases hc) B.nd B.apart fd.scope.names (s.heap.objs.size + 1) (Nat.le_succ _) D₀.ok.nd) fun p1 p2=>?_
 rcases List.mem_cons.mp hc with z | z
 ·rw [z]; exact get_size_none _
 ·rcases p1 c z with w | ⟨y,_,w⟩
  ·exact none_ge (Nat.le_of_succ_le w)
  ·rw [hno y] at w; cases w
theorem Inn.step {fd : FuncData} {a : Addr} {bd : List (Str×D)} {c : List CE} {s₁ s' : Shared} {φ' : Fz} (I : Inn G fd a bd φ s c s₁) (y : SRel (callEnvC fd s.heap.objs.size a) c φ s₁ φ' s') (g' : Gnd G φ' s') : Step φ s φ' s':=by
 refine e2a1 (I.same) fun h1 t1 e1=>?_
 refine e2a1 (y.eq) fun h2 t2 e2=>?_
 refine ⟨⟨h2,t2,by rw [e2,e1]⟩,fun c o e=>y.keep c o (fun z=>by rw [I.low c z] at e; exact no_none e) (I.keep c o e),y.up,fun c o e=>?_,g'.fin⟩
 rcases y.new c o e with z | z | z
 ·exact .inl z
 ·exact .inr (I.low c z)
 ·exact .inr (none_of_ext I.keep z)
set_option tactic.hygienic true in
theorem def_ok (PO : POk G l P) (hlim : G.h.NoLimit) {a : Addr} {fd : FuncData} {body : List Stmt} {ds : List D} {ks : List (Str×D)} {bd : List (Str×D)} {d : D} {n : Nat} (D₀ : DefAt G a fd body)
  (hb : ∀ φ vs kvs (s : Shared),RepL φ vs ds→RepK φ kvs ks→Gnd G φ s→∃ binds,BindsTo s fd ⟨vs,kvs⟩ binds∧RepK φ binds bd)
  (hn : ∀ x∈bd,∃ k,(x.1,k)∈fd.scope.names∧(k = .local∨k = .cell))
  (hx : (∃ ρ',exN P n fd.scope (rho0 (bindsD bd) fd.scope.names) body = some (.next ρ')∧d = .none)∨exN P n fd.scope (rho0 (bindsD bd) fd.scope.names) body = some (.ret d)) : CallOk G (l + 1) (.ref a) ds ks d:=by
 refine ⟨D₀.keep,fun vs kvs φ s A E g R r rk=>wpAny_call (def_enter hlim D₀ hb hn g R r rk fun c s₁ I=>?_)⟩
 rcases hx with ⟨ρ',hx,rfl⟩ | hx
 ·refine wpAny_mono (exN_ok PO fd.scope n _ _ _ hx G.h _ c φ s₁ _ _ (R.deeper _) I.st I.ab) (fun f s' q=>?_) fun _a _a e=>e
  induction f using PySem.Flow.casesOn <;> first | exact q.elim | skip
  exact e2a4 q fun c' φ' _a S' y _a=>⟨φ',I.step y S'.g,.none⟩
 ·refine wpAny_mono (exN_ok PO fd.scope n _ _ _ hx G.h _ c φ s₁ _ _ (R.deeper _) I.st I.ab) (fun f s' q=>?_) fun _a _a e=>e
  induction f using PySem.Flow.casesOn <;> first | exact q.elim | skip
  exact e1a3 q fun φ' rv g' y=>⟨φ',I.step y g',rv⟩
end
theorem ofString_inj {a b : String} : (ofString a = ofString b) = (a = b):=by
 apply propext
 constructor
 ·intro h
  rw [Str.ofString_eq_toList,Str.ofString_eq_toList] at h
  have h:=congrArg Str.cps h
  simp only [Array.mk.injEq] at h
  have h : a.toList.map Char.toNat = b.toList.map Char.toNat:=by simpa using h
  have inj : ∀ x y : Char,x.toNat = y.toNat→x = y:=fun x y h=>Char.ext (UInt32.toNat_inj.mp h)
  have:=List.map_inj_right inj |>.mp h
  exact String.toList_inj.mp this
 ·intro h; rw [h]
theorem ofString_beq {a b : String} : (ofString a == ofString b) = (a == b):=by
 by_cases h : a = b
 ·subst h; simp
 ·have : ofString a≠ofString b:=fun z=>h (ofString_inj.mp z)
  rw [beq_eq_false_iff_ne.mpr h,beq_eq_false_iff_ne.mpr this]
theorem lk_cons {α : Type} {a b : String} {v : α} {r : List (Str×α)} : List.lookup (ofString a) ((ofString b,v) :: r) = if a = b then some v else List.lookup (ofString a) r:=by
 rw [List.lookup_cons,ofString_beq]
 by_cases h : a = b
 ·subst h; simp
 ·rw [if_neg h,beq_eq_false_iff_ne.mpr h]
theorem yr {a : String} : nmOk (ofString a) = (!(a == "__debug__") && !(a == "__classdict__")):=by unfold nmOk; rw [ofString_beq,ofString_beq]
theorem yt {x : Str} {v : LV} : setR [] x v = []:=rfl
theorem setR_cons {a b : String} {u v : LV} {r : Rho} : setR ((ofString b,u) :: r) (ofString a) v = if b = a then (ofString b,v) :: setR r (ofString a) v else (ofString b,u) :: setR r (ofString a) v:=by
 unfold setR
 rw [List.map_cons]
 simp only [ofString_inj]
 by_cases h : b = a <;> simp [h]
section
variable {P : Pg} {n : Nat} {sc : Scope} {ρ : Rho}
theorem jG {c k p} : (evN P (n + 1)).e sc ρ (.Constant c k p) = constD c:=id rfl
theorem ev_name {x p} : (evN P (n + 1)).e sc ρ (.Name x p) = if nmOk x = true then oLk P sc x (ρ.lookup x) else none:=id rfl
theorem qH {l op r p} : (evN P (n + 1)).e sc ρ (.BinOp l op r p) = oBin op ((evN P n).e sc ρ l) ((evN P n).e sc ρ r):=id rfl
theorem qI {op x p} : (evN P (n + 1)).e sc ρ (.UnaryOp op x p) = oUn op ((evN P n).e sc ρ x):=id rfl
theorem qJ {op x y r p} : (evN P (n + 1)).e sc ρ (.BoolOp op (x :: y :: r) p) = oBool op ((evN P n).e sc ρ x) (boolD (evN P n) sc ρ op (y :: r)):=id rfl
theorem qK {V : EvF} {op x} : boolD V sc ρ op [x] = V.e sc ρ x:=id rfl
theorem ev_cmp {l op r p} : (evN P (n + 1)).e sc ρ (.Compare l [op] [r] p) = if okE r = true then oB (oCmp op ((evN P n).e sc ρ l) ((evN P n).e sc ρ r)) else none:=id rfl
theorem qM {t b o p} : (evN P (n + 1)).e sc ρ (.IfExp t b o p) = oIf ((evN P n).t sc ρ t) ((evN P n).e sc ρ b) ((evN P n).e sc ρ o):=id rfl
theorem ev_list {es p} : (evN P (n + 1)).e sc ρ (.List es p) = if es.length≤lim then oList (evs ((evN P n).e sc ρ) es) else none:=id rfl
theorem ev_tup {es k p} : (evN P (n + 1)).e sc ρ (.Tuple es k p) = if es.length≤lim then oTup (evs ((evN P n).e sc ρ) es) else none:=id rfl
theorem qP {f : Expr→Option D} : evs f [] = some []:=id rfl
theorem evs_cons {f : Expr→Option D} {e r} : evs f (e :: r) = if okE e = true then oCons (f e) (evs f r) else none:=id rfl
theorem qR {f : Expr→Option D} : evk f [] = some []:=id rfl
theorem qS {f : Expr→Option D} {x e p r} : evk f (⟨some x,e,p⟩ :: r) = oKw x (f e) (evk f r):=id rfl
theorem ev_att {o x p} : (evN P (n + 1)).e sc ρ (.Attribute o x p) = if attrBaseOk o = true then oAtt P x ((evN P n).e sc ρ o) else none:=id rfl
theorem qU {V : EvF} : partD V sc ρ none = some none:=id rfl
theorem qV {V : EvF} {e} : partD V sc ρ (some e) = oPart (V.e sc ρ e):=id rfl
theorem qW {v lo hi st sp p} : (evN P (n + 1)).e sc ρ (.Subscript v (.Slice lo hi st sp) p) = oCut ((evN P n).e sc ρ v) (partD (evN P n) sc ρ lo) (partD (evN P n) sc ρ hi) (partD (evN P n) sc ρ st):=id rfl
theorem ev_mt {o x ap args kws p} : (evN P (n + 1)).e sc ρ (.Call (.Attribute o x ap) args kws p) = if (attrBaseOk o && ap.endLine == p.line && decide (args.length + kws.length < 20)) = true then
  oMt P x ((evN P n).e sc ρ o) (evs ((evN P n).e sc ρ) args) (evk ((evN P n).e sc ρ) kws) else none:=id rfl
theorem ya {x q args kws p} : (evN P (n + 1)).e sc ρ (.Call (.Name x q) args kws p) = oFn P ((evN P n).e sc ρ (.Name x q)) (evs ((evN P n).e sc ρ) args) (evk ((evN P n).e sc ρ) kws):=id rfl
theorem yc {x p} : (evN P (n + 1)).t sc ρ (.UnaryOp .Not x p) = oNot ((evN P n).t sc ρ x):=id rfl
theorem yd {op vs p} : (evN P (n + 1)).t sc ρ (.BoolOp op vs p) = allT (evN P n) sc ρ op vs:=id rfl
theorem yk {V : EvF} {op x r} : allT V sc ρ op (x :: r) = oAll op (V.t sc ρ x) (allT V sc ρ op r):=id rfl
theorem et_cmp {l op r p} : (evN P (n + 1)).t sc ρ (.Compare l [op] [r] p) = if okE r = true then oCmp op ((evN P n).e sc ρ l) ((evN P n).e sc ρ r) else none:=id rfl
theorem et_cmp2 {l o1 o2 r1 r2 p} : (evN P (n + 1)).t sc ρ (.Compare l [o1,o2] [r1,r2] p) = if okE r2 = true then oCmp2 o1 o2 ((evN P n).e sc ρ l) ((evN P n).e sc ρ r1) ((evN P n).e sc ρ r2) else none:=id rfl
theorem yn {x p} : (evN P (n + 1)).t sc ρ (.Name x p) = oTruth ((evN P n).e sc ρ (.Name x p)):=id rfl
theorem yo {f a k p} : (evN P (n + 1)).t sc ρ (.Call f a k p) = oTruth ((evN P n).e sc ρ (.Call f a k p)):=id rfl
theorem yq {o x p} : (evN P (n + 1)).t sc ρ (.Attribute o x p) = oTruth ((evN P n).e sc ρ (.Attribute o x p)):=id rfl
theorem ev_comp {elt target iter ifs scope p} : (evN P (n + 1)).e sc ρ (.ListComp elt [⟨target,iter,ifs,0⟩] scope p) = if (okE iter && scope.kind == .function && nodupB (scope.names.map (·.1)) && (0 : Int) == 0) = true then
  oComp (evN P n) scope target ifs elt (compI (evN P n) sc ρ target iter) (compRho sc ρ scope.names) else none:=id rfl
end
noncomputable def S1 (P : Pg) (n : Nat) (sc : Scope) (ρ : Rho) (st : Stmt) : Option SR:=step1 P (evN P fuelN) (exN P n sc) sc ρ st
noncomputable def nxS (P : Pg) (n : Nat) (sc : Scope) (r : List Stmt) : Option SR→Option SR:=o1 (seqK fun ρ=>exN P (n + 1) sc ρ r)
noncomputable def forX (P : Pg) (n : Nat) (sc : Scope) (tgt : Expr) (b : List Stmt) (ρ : Rho) (items : List D) : Option SR:=forD (fun ρ=>exN P n sc ρ b) (fun ρ d=>bindT sc ρ tgt d) ρ items
noncomputable def oForI (P : Pg) (n : Nat) (sc : Scope) (tgt : Expr) (b : List Stmt) (ρ : Rho) : Option (List D)→Option SR:=o1 (forX P n sc tgt b ρ)
noncomputable def whX (P : Pg) (n : Nat) (sc : Scope) (t : Expr) (b : List Stmt) (k : Nat) (ρ : Rho) : Option SR:=whileD (fun ρ=>evT (evN P fuelN) sc ρ t) (fun ρ=>exN P n sc ρ b) k ρ
section
variable {P : Pg} {n : Nat} {sc : Scope} {ρ : Rho}
set_option tactic.hygienic true in
theorem ja : exN P (n + 1) sc ρ [] = some (.next ρ):=id rfl
theorem jb {st r} : exN P (n + 1) sc ρ (st :: r) = nxS P n sc r (S1 P n sc ρ st):=id rfl
set_option tactic.hygienic true in
theorem jc {r ρ'} : nxS P n sc r (some (.next ρ')) = exN P (n + 1) sc ρ' r:=id rfl
theorem jd {r d} : nxS P n sc r (some (.ret d)) = some (.ret d):=id rfl
theorem je {r ρ'} : nxS P n sc r (some (.brk ρ')) = some (.brk ρ'):=id rfl
theorem jf {r ρ'} : nxS P n sc r (some (.cont ρ')) = some (.cont ρ'):=id rfl
theorem jg {V : EvF} {e} : evO V sc ρ e = oO ρ (nmE fuelN e) (V.e sc (frzM (nmE fuelN e) ρ) e):=id rfl
theorem jh {V : EvF} {e} : evT V sc ρ e = V.t sc (frzM (nmE fuelN e) ρ) e:=id rfl
theorem ji {N} : frzM N [] = []:=rfl
theorem jj {N x d r} : frzM N ((x,.fz d) :: r) = (x,.fz d) :: frzM N r:=rfl
theorem jn {N x r} : frzM N ((x,.un) :: r) = (x,.un) :: frzM N r:=rfl
theorem jo {N x l r} : frzM N ((x,.ow l) :: r) = (if N.contains x = true then (x,.fz (.list l)) else (x,.ow l)) :: frzM N r:=rfl
theorem jp {N x y C fs r} : frzM N ((x,.oi y C fs) :: r) = (if N.contains x = true then (x,.fz (.inst C fs)) else (x,.oi y C fs)) :: frzM N r:=rfl
theorem s_name {x p v q} : S1 P n sc ρ (.Assign [.Name x p] v q) = if okV v = true then oAsg sc x (isFresh v) (evO (evN P fuelN) sc ρ v) else none:=id rfl
theorem s_row {ts k tp v q} : S1 P n sc ρ (.Assign [.Tuple ts k tp] v q) = if (distinctNames ts [] && notConsts v && (ts.length == 2 || ts.length == 3)) = true then oRow sc ts (evO (evN P fuelN) sc ρ v) else none:=id rfl
theorem jt {x p y q r v s} : S1 P n sc ρ (.Assign (.Name x p :: .Name y q :: r) v s) = oNames sc (.Name x p :: .Name y q :: r) (evO (evN P fuelN) sc ρ v):=id rfl
theorem s_attr {x p a q v s} : S1 P n sc ρ (.Assign [.Attribute (.Name x p) a q] v s) = if nmOk x = true then oAttr P x a (notComp v) (evO (evN P fuelN) sc ρ v) else none:=id rfl
theorem s_sub {x p i q v s} : S1 P n sc ρ (.Assign [.Subscript (.Name x p) i q] v s) = if (notComp v && !((nmE fuelN i).contains x) && nmOk x) = true then oSub (evN P fuelN) sc x i (evO (evN P fuelN) sc ρ v) else none:=id rfl
theorem jw {x p v s} : S1 P n sc ρ (.AugAssign (.Name x p) .Add v s) = oAug sc x v (ρ.lookup x) (evO (evN P fuelN) sc ρ v):=id rfl
theorem s_app {x p m ap e cp s} : S1 P n sc ρ (.Expr (.Call (.Attribute (.Name x p) m ap) [e] [] cp) s) = if (!((nmE fuelN e).contains x) && ap.endLine == cp.line && okE e && nmOk x) = true then oApp x m (ρ.lookup x) (evO (evN P fuelN) sc ρ e) else none:=id rfl
theorem jy {t b o p} : S1 P n sc ρ (.If t b o p) = oIfS (exN P n sc) ρ b o (evT (evN P fuelN) sc ρ t):=id rfl
theorem s_for {tgt it b p} : S1 P n sc ρ (.For tgt it b [] p) = if okE it = true then oFor (exN P n sc) sc tgt b (evO (evN P fuelN) sc ρ it) else none:=id rfl
theorem jA {t b p} : S1 P n sc ρ (.While t b [] p) = whX P n sc t b 20 ρ:=id rfl
theorem jB {v p} : S1 P n sc ρ (.Return (some v) p) = oRet (evO (evN P fuelN) sc ρ v):=id rfl
theorem jC {p} : S1 P n sc ρ (.Break p) = some (.brk ρ):=id rfl
theorem jD {p} : S1 P n sc ρ (.Continue p) = some (.cont ρ):=id rfl
theorem jE {t m p} : S1 P n sc ρ (.Assert t m p) = oAssert ρ (evT (evN P fuelN) sc ρ t):=id rfl
theorem jF {b h hs p} : S1 P n sc ρ (.Try b (h :: hs) [] [] p) = exN P n sc ρ b:=id rfl
set_option tactic.hygienic true in
theorem for_next {tgt b d ds ρ₁ ρ₂} (h1 : bindT sc ρ tgt d = some ρ₁) (h2 : exN P n sc ρ₁ b = some (.next ρ₂)) : forX P n sc tgt b ρ (d :: ds) = forX P n sc tgt b ρ₂ ds:=by
 show o1 _ (bindT sc ρ tgt d) = _; rw [h1]; show o1 _ (exN P n sc ρ₁ b) = _; rw [h2]; rfl
theorem for_cont {tgt b d ds ρ₁ ρ₂} (h1 : bindT sc ρ tgt d = some ρ₁) (h2 : exN P n sc ρ₁ b = some (.cont ρ₂)) : forX P n sc tgt b ρ (d :: ds) = forX P n sc tgt b ρ₂ ds:=by
 show o1 _ (bindT sc ρ tgt d) = _; rw [h1]; show o1 _ (exN P n sc ρ₁ b) = _; rw [h2]; rfl
set_option tactic.hygienic true in
theorem for_brk {tgt b d ds ρ₁ ρ₂} (h1 : bindT sc ρ tgt d = some ρ₁) (h2 : exN P n sc ρ₁ b = some (.brk ρ₂)) : forX P n sc tgt b ρ (d :: ds) = some (.next ρ₂):=by
 show o1 _ (bindT sc ρ tgt d) = _; rw [h1]; show o1 _ (exN P n sc ρ₁ b) = _; rw [h2]
theorem for_ret {tgt b d ds ρ₁ r} (h1 : bindT sc ρ tgt d = some ρ₁) (h2 : exN P n sc ρ₁ b = some (.ret r)) : forX P n sc tgt b ρ (d :: ds) = some (.ret r):=by
 show o1 _ (bindT sc ρ tgt d) = _; rw [h1]; show o1 _ (exN P n sc ρ₁ b) = _; rw [h2]
end
section
variable {G : Gd} {l : Nat}
theorem keep_builtin (id : String) : KeepOk G (.builtin id):=⟨.machine,.inl rfl,fun M=>Looks.of_pure rfl⟩
theorem keep_type (id : String) : KeepOk G (.type id):=⟨.machine,.inl rfl,fun M=>Looks.of_pure rfl⟩
theorem repK_nil {φ : Fz} {kvs : List (Str×Value)} (h : RepK φ kvs []) : kvs = []:=by
 refine e0a2 (h) fun h1 _a=>?_
 induction kvs using List.casesOn with
 | nil=>rfl
 | cons _ _=>cases h1
theorem call1 {f : Value} {a d : D} (k : KeepOk G f) (h : ∀ v φ s A E,Gnd G φ s→Room A l→Rep φ v a→wpAny (model G.prog G.w) A (call f [v]) (EP φ s d) E s) : CallOk G l f [a] [] d:=by
 refine ⟨k,fun vs kvs φ s A E g R r rk=>?_⟩
 have qq:=repK_nil rk; subst qq
 cases r with | cons r₁ r =>
 cases r
 exact h _ φ s A E g R r₁
theorem call2 {f : Value} {a b d : D} (k : KeepOk G f) (h : ∀ v w φ s A E,Gnd G φ s→Room A l→Rep φ v a→Rep φ w b→wpAny (model G.prog G.w) A (call f [v,w]) (EP φ s d) E s) : CallOk G l f [a,b] [] d:=by
 refine ⟨k,fun vs kvs φ s A E g R r rk=>?_⟩
 have qq:=repK_nil rk; subst qq
 cases r with | cons r₁ r =>
 cases r with | cons r₂ r =>
 cases r
 exact h _ _ φ s A E g R r₁ r₂
theorem call3 {f : Value} {a b c d : D} (k : KeepOk G f) (h : ∀ v w x φ s A E,Gnd G φ s→Room A l→Rep φ v a→Rep φ w b→Rep φ x c→wpAny (model G.prog G.w) A (call f [v,w,x]) (EP φ s d) E s) : CallOk G l f [a,b,c] [] d:=by
 refine ⟨k,fun vs kvs φ s A E g R r rk=>?_⟩
 have qq:=repK_nil rk; subst qq
 cases r with | cons r₁ r =>
 cases r with | cons r₂ r =>
 cases r with | cons r₃ r =>
 cases r
 exact h _ _ _ φ s A E g R r₁ r₂ r₃
theorem b_len_list {ds : List D} (h : ds.length≤lim) : CallOk G l (.builtin "len") [.list ds] [] (.int ds.length):=call1 (keep_builtin _) fun v φ s A E g R r=>by
 refine e3a3 r.iList fun a vs n er e r0=>?_
 clear r
 subst er
 revert r0; intro r
 have hl:=lsO_isList (g.fin _ _ e)
 unfold lim at h
 refine call_len_list hl (by rw [List.size_toArray,r.length]; lia) ?_
 rw [List.size_toArray,r.length]
 exact EP.tk g.fin (.int _ _)
theorem b_len_str {x : List Nat} (h : x.length≤lim) : CallOk G l (.builtin "len") [.str x] [] (.int x.length):=call1 (keep_builtin _) fun v φ s A E g R r=>by
 refine e1a1 r.iStr fun t er=>?_
 clear r
 subst er
 unfold lim at h
 refine P.len_str (by rw [str_len]; lia) ?_
 rw [str_len]
 exact EP.tk g.fin (.int _ _)
theorem b_len_tup {ds : List D} (h : ds.length≤lim) : CallOk G l (.builtin "len") [.tup ds] [] (.int ds.length):=call1 (keep_builtin _) fun v φ s A E g R r=>by
 refine e3a3 r.iTup fun a vs n er e r0=>?_
 clear r
 subst er
 revert r0; intro r
 have hl : IsTup s.heap a vs.toArray:=⟨_,g.fin _ _ e,rfl,n,rfl⟩
 unfold lim at h
 refine len_tuple hl (by rw [List.size_toArray,r.length]; lia) ?_
 rw [List.size_toArray,r.length]
 exact EP.tk g.fin (.int _ _)
theorem b_len_bytes {x : List UInt8} (h : x.length≤lim) : CallOk G l (.builtin "len") [.bytes x] [] (.int x.length):=call1 (keep_builtin _) fun v φ s A E g R r=>by
 refine e1a1 r.iBytes fun t er=>?_
 clear r
 subst er
 unfold lim at h
 refine len_bytes (by rw [List.size_toArray]; lia) ?_
 rw [List.size_toArray]
 exact EP.tk g.fin (.int _ _)
theorem ints_are {φ : Fz} {vs : List Value} {ds : List D} {is : List Int} (r : RepL φ vs ds) (h : ints? ds = some is) : IntsAre vs is:=by
 induction ds generalizing vs is with
 | nil=>rw [r.iNil,some_inv h]; exact .nil
 | cons d ds ih =>
  refine r.sCons fun v ws r1 rs=>?_
  refine e2a3 (listOf_inv h) fun a m h1 h2 rr4=>?_
  subst rr4
  refine e1a1 ((intD_inv h1 ▸ r1 : Rep φ v (.int a)).iInt) fun t rr1=>?_
  subst rr1
  exact .cons _ _ (ih rs h2)
noncomputable def maxI : List Int→Int
 | []=>0
 | [x]=>x
 | x :: r=>if maxI r > x then maxI r else x
theorem maxI_spec : ∀ {ns : List Int} {M : Int},M∈ns→(∀ a,a∈ns→a≤M)→M = maxI ns
 | [x],M,h,_=>(by simpa using h : M = x)
 | x :: y :: r,M,h,k=>by
  unfold maxI
  have mem : maxI (y :: r)∈y :: r∧∀ a,a∈y :: r→a≤maxI (y :: r):=by
   have : ∀ (l : List Int) (z : Int),maxI (z :: l)∈z :: l∧∀ a,a∈z :: l→a≤maxI (z :: l):=by
    intro l
    induction l with
    | nil=>intro z; exact ⟨List.mem_cons_self,fun a ha=>by rw [List.mem_singleton.mp ha]; exact Int.le_refl _⟩
    | cons w l ih =>
     intro z
     have:=ih w
     unfold maxI
     split
     ·exact ⟨List.mem_cons_of_mem _ this.1,fun a ha=>by
       rcases List.mem_cons.mp ha with q | q
       ·subst q; lia
       ·exact this.2 a q⟩
     ·exact ⟨List.mem_cons_self,fun a ha=>by
       rcases List.mem_cons.mp ha with q | q
       ·subst q; lia
       ·have:=this.2 a q; lia⟩
   exact this r y
  split
  ·rcases List.mem_cons.mp h with q | q
   ·have:=k _ (List.mem_cons_of_mem _ mem.1); lia
   ·have h1:=mem.2 M q
    have h2:=k _ (List.mem_cons_of_mem _ mem.1)
    lia
  ·rcases List.mem_cons.mp h with q | q
   ·exact q
   ·have h1:=mem.2 M q
    have h2:=k x List.mem_cons_self
    lia
theorem b_maxL {ds : List D} {is : List Int} (h : ints? ds = some is) (hne : 0 < is.length) : CallOk G l (.builtin "max") [.list ds] [] (.int (maxI is)):=call1 (keep_builtin _) fun v φ s A E g R r=>by
 refine e3a3 r.iList fun a vs n er e r0=>?_
 clear r
 subst er
 revert r0; intro r
 have hi:=ints_are r h
 refine e1a1 (hi.allInts.items) fun xs e'=>?_
 have hns : is = xs.toList.map (·.1):=by rw [← hi.numsOf,← nums_intItems,← e']
 have hsz : 0 < xs.size:=by
  have h3:=hne; rw [hns,List.length_map,Array.length_toList] at h3; exact h3
 have hl:=lsO_isList (g.fin _ _ e)
 rw [e'] at hl
 refine max_intList R.handled hl hsz fun v h' tk hv hk=>?_
 refine e1a1 (intItems_at hv) fun t rr1=>?_
 subst rr1
 refine e0a2 (argBest_gt (numAt xs) (xs.size - 1)) fun h1 h2=>?_
 have : numAt xs (argBest (fun i j=>decide (numAt xs i > numAt xs j)) (xs.size - 1)) = maxI is:=by
  refine maxI_spec ?_ fun a ha=>?_
  ·rw [hns,numAt_eq]; exact getD_mem (by rw [List.length_map,Array.length_toList]; lia)
  ·rw [hns] at ha
   refine e1a2 (mem_getD ha) fun j hj rr2=>?_
   subst rr2
   rw [List.length_map,Array.length_toList] at hj
   rw [← numAt_eq]; exact h2 j (by lia)
 rw [this]
 exact ⟨φ,.heap g.fin hk,.int _ _⟩
theorem b_bytes {ds : List D} {is : List Int} (h : ints? ds = some is) (hr : ∀ n∈is,0≤n∧n < 256) (hz : ds.length≤lim) : CallOk G l (.type "bytes") [.list ds] [] (.bytes (is.map fun n=>n.toNat.toUInt8)):=call1 (keep_type _) fun v φ s A E g R r=>by
 refine e3a3 r.iList fun a vs n er e r0=>?_
 clear r
 subst er
 revert r0; intro r
 unfold lim at hz
 refine call_bytes_ints (lsO_isList (g.fin _ _ e)) (ints_are r h) hr (by rw [r.length,sizeLine_eq]; lia) R.handled fun h' t k ext=>?_
 exact ⟨φ,.heap g.fin ext,.bytes _ t⟩
theorem eqLD_map {α : Type} [DecidableEq α] {f : α→D} {n : Nat} (hf : ∀ a b,eqD n (f a) (f b) = some (decide (a = b))) : ∀ (xs ys : List α),xs.length = ys.length→eqLD (eqD n) (xs.map f) (ys.map f) = some (decide (xs = ys))
 | [],[],_=>rfl
 | x :: xs,y :: ys,h=>by
  show o2 _ (eqD n (f x) (f y)) (eqLD (eqD n) (xs.map f) (ys.map f)) = _
  rw [hf,eqLD_map hf xs ys (Nat.succ.inj h)]
  exact congrArg some (by rw [Bool.eq_iff_iff]; simp)
set_option tactic.hygienic true in
theorem eqD_list {α : Type} [DecidableEq α] {f : α→D} {n : Nat} (hf : ∀ a b,eqD n (f a) (f b) = some (decide (a = b))) (xs ys : List α) : eqD (n + 1) (.list (xs.map f)) (.list (ys.map f)) = some (decide (xs = ys)):=by
 show (if (xs.map f).length = (ys.map f).length then eqLD (eqD n) (xs.map f) (ys.map f) else some false) = _
 rw [List.length_map,List.length_map]
 split
 ·rename_i h; exact eqLD_map hf xs ys h
 ·rename_i h; rw [decide_eq_false fun z=>h (by rw [z])]
theorem eqD_int (n : Nat) (a b : Int) : eqD (n + 1) (.int a) (.int b) = some (decide (a = b)):=rfl
theorem b_range1 {n : Int} : CallOk G l (.type "range") [.int n] [] (.rng 0 n 1):=call1 (keep_type _) fun v φ s A E g R r=>by
 refine e1a1 r.iInt fun t er=>?_
 clear r
 subst er
 refine call_range_1 ?_
 have f:=fz_size g.fin
 exact ⟨_,((Step.push g.fin _ _).freeze (get_size_none _) (Heap.get?_push_size _ rfl) f),.rng (Fz.put_self ..)⟩
theorem b_range2 {a b : Int} : CallOk G l (.type "range") [.int a,.int b] [] (.rng a b 1):=call2 (keep_type _) fun v w φ s A E g R r r'=>by
 refine e1a1 r.iInt fun t er=>?_
 clear r
 subst er
 refine e1a1 r'.iInt fun u er2=>?_
 clear r'
 subst er2
 refine call_range_2 ?_
 have f:=fz_size g.fin
 exact ⟨_,((Step.push g.fin _ _).freeze (get_size_none _) (Heap.get?_push_size _ rfl) f),.rng (Fz.put_self ..)⟩
theorem b_range3 {a b : Int} : CallOk G l (.type "range") [.int a,.int b,.int (-1)] [] (.rng a b (-1)):=call3 (keep_type _) fun v w x φ s A E g R r r' r3=>by
 refine e1a1 r.iInt fun t er=>?_
 clear r
 subst er
 refine e1a1 r'.iInt fun u er2=>?_
 clear r'
 subst er2
 refine e1a1 r3.iInt fun u3 er3=>?_
 clear r3
 subst er3
 have f:=fz_size g.fin
 refine call_range_3 (by decide) ?_ (Or.inl (PyProof.noPylong_of_log2 (by decide +kernel)))
 exact ⟨_,((Step.push g.fin _ _).freeze (get_size_none _) (Heap.get?_push_size _ rfl) f),.rng (Fz.put_self ..)⟩
theorem b_max2 {a b : Int} : CallOk G l (.builtin "max") [.int a,.int b] [] (.int (if b > a then b else a)):=call2 (keep_builtin _) fun v w φ s A E g R r r'=>by
 refine e1a1 r.iInt fun t er=>?_
 clear r
 subst er
 refine e1a1 r'.iInt fun u er2=>?_
 clear r'
 subst er2
 refine max_two_ints R.handled fun h' tk ext=>?_
 split
 ·exact ⟨φ,.heap g.fin ext,.int _ _⟩
 ·exact ⟨φ,.heap g.fin ext,.int _ _⟩
theorem b_chr {i : Int} (h : 0≤i∧i < 1000) : CallOk G l (.builtin "chr") [.int i] [] (.str [i.toNat]):=call1 (keep_builtin _) fun v φ s A E g R r=>by
 refine e1a1 r.iInt fun t er=>?_
 clear r
 subst er
 refine P.chr_of_int (by rw [decide_eq_false (by lia),decide_eq_false (by lia)]; rfl) (EP.tk g.fin (.str [i.toNat] _))
theorem b_tuple {ds : List D} (h : ds.length≤lim) : CallOk G l (.type "tuple") [.list ds] [] (.tup ds):=call1 (keep_type _) fun v φ s A E g R r=>by
 refine e3a3 r.iList fun a vs n er e r0=>?_
 clear r
 subst er
 revert r0; intro r
 unfold lim at h
 refine call_tuple_list (lsO_isList (g.fin _ _ e)) (fun h' ext=>?_) (by rw [List.size_toArray,r.length,sizeLine_eq]; lia)
 have x : Step φ s φ { s with heap:=h',toks:=s.toks }:=.heap g.fin ext
 have f:=fz_size x.fin
 exact ⟨_,(x.trans (Step.push x.fin _ s.toks)).freeze (none_of_ext ext (get_size_none _)) (Heap.get?_push_size _ rfl) f,.tup (Fz.put_self ..) (r.mono (Fz.put_up f))⟩
theorem b_type_str {x : List Nat} : CallOk G l (.type "type") [.str x] [] (.val (.type "str")):=call1 (keep_type _) fun v φ s A E g R r=>by
 refine e1a1 r.iStr fun t er=>?_
 clear r
 subst er
 exact call_type_of (typeIs_str s _ _) (by decide) (EP.pure g.fin (.val _))
theorem b_type_bytes {x : List UInt8} : CallOk G l (.type "type") [.bytes x] [] (.val (.type "bytes")):=call1 (keep_type _) fun v φ s A E g R r=>by
 refine e1a1 r.iBytes fun t er=>?_
 clear r
 subst er
 exact call_type_of (typeIs_bytes s _ _) (by decide) (EP.pure g.fin (.val _))
theorem b_type_bool {x : Bool} : CallOk G l (.type "type") [.bool x] [] (.val (.type "bool")):=call1 (keep_type _) fun v φ s A E g R r=>by
 have er:=r.iBool
 subst er
 exact call_type_of (by exact (rfl : _)) (by decide) (EP.pure g.fin (.val _))
theorem b_isi_str {x : List Nat} : CallOk G l (.builtin "isinstance") [.str x,.val (.type "str")] [] (.bool true):=call2 (keep_builtin _) fun v w φ s A E g R r r'=>by
 refine e1a1 r.iStr fun t er=>?_
 clear r
 subst er
 have er2:=r'.iVal
 subst er2
 exact IsiPair.str_str (EP.pure g.fin (.bool _))
end
section
variable {G : Gd} {l : Nat}
noncomputable abbrev strs? : List D→Option (List (List Nat)):=listOf strD
theorem strs_are {φ : Fz} {vs : List Value} {ds : List D} {xs : List (List Nat)} (r : RepL φ vs ds) (h : strs? ds = some xs) : StrsAre vs (xs.map fun x=>⟨x.toArray⟩):=by
 induction ds generalizing vs xs with
 | nil=>rw [r.iNil,← some_inv h.symm]; exact .nil
 | cons d ds ih =>
  refine r.sCons fun v ws r1 rs=>?_
  refine e2a3 (listOf_inv h) fun a m h1 h2 e=>?_
  rw [e]
  rw [strD_inv h1] at r1
  exact r1.sStr (P:=fun v=>StrsAre (v :: ws) _) fun t=>.cons _ _ (ih rs h2)
theorem join_nil : ∀ (xs : List (List Nat)),Txt.join (⟨#[]⟩ : Str) (xs.map fun x=>⟨x.toArray⟩) = ⟨xs.flatten.toArray⟩:=by
 have fold : ∀ (rest : List (List Nat)) (acc : Array Nat),(rest.map fun x=>(⟨x.toArray⟩ : Str)).foldl (fun acc p=>acc ++ (⟨#[]⟩ : Str).cps ++ p.cps) acc = acc ++ rest.flatten.toArray:=by
  intro rest
  induction rest with
  | nil=>intro acc; simp
  | cons x r ih=>intro acc; rw [List.map_cons,List.foldl_cons,ih]; simp
 intro xs
 induction xs using List.casesOn with
 | nil=>rfl
 | cons x r =>
  show (⟨(r.map fun x=>(⟨x.toArray⟩ : Str)).foldl (fun acc p=>acc ++ (⟨#[]⟩ : Str).cps ++ p.cps) x.toArray⟩ : Str) = _
  rw [fold]; simp
theorem b_join {ds : List D} {xs : List (List Nat)} (h : strs? ds = some xs) (hz : xs.flatten.length≤lim) : CallOk G l (.builtin "str.join") [.str [],.list ds] [] (.str xs.flatten):=call2 (keep_builtin _) fun v w φ s A E g R r r'=>by
 refine e1a1 r.iStr fun t er=>?_
 clear r
 subst er
 refine e3a3 r'.iList fun a vs n er e r0=>?_
 clear r'
 subst er
 revert r0; intro r
 have hs:=strs_are r h
 refine join_list (lsO_isList (g.fin _ _ e)) (by simpa using hs) ?_ fun t' k=>?_
 ·unfold lim at hz
  have : ((xs.map fun x=>(⟨x.toArray⟩ : Str)).map (·.length)).sum = xs.flatten.length:=by
   rw [List.map_map,List.length_flatten]
   rfl
  rw [this]
  have e0 : (⟨([] : List Nat).toArray⟩ : Str).length = 0:=rfl
  rw [e0,Nat.mul_zero]
  exact Nat.le_trans hz (by decide)
 ·have : Txt.join (⟨([] : List Nat).toArray⟩ : Str) (xs.map fun x=>⟨x.toArray⟩) = ⟨xs.flatten.toArray⟩:=join_nil xs
  rw [this]
  exact EP.tk g.fin (.str _ _)
noncomputable def splitAt (c : Nat) : List Nat→List (List Nat)
 | []=>[[]]
 | x :: r=>if x = c then [] :: splitAt c r else match splitAt c r with
  | p :: ps=>(x :: p) :: ps
  | []=>[[x]]
theorem splitAt_ne (c : Nat) : ∀ x,splitAt c x≠[]
 | []=>by simp [splitAt]
 | x :: r=>by
  unfold splitAt
  split
  ·simp
  ·split <;> simp
theorem splitAt_part {c : Nat} : ∀ {p : List Nat},c ∉ p→∀ r,splitAt c (p ++ c :: r) = p :: splitAt c r
 | [],_,r=>by simp [splitAt]
 | y :: p,h,r=>by
  have hy : y≠c:=fun z=>h (z ▸ List.mem_cons_self)
  rw [List.cons_append,splitAt,if_neg hy,splitAt_part (fun z=>h (List.mem_cons_of_mem _ z)) r]
theorem splitAt_last {c : Nat} : ∀ {p : List Nat},c ∉ p→splitAt c p = [p]
 | [],_=>rfl
 | y :: p,h=>by
  have hy : y≠c:=fun z=>h (z ▸ List.mem_cons_self)
  rw [splitAt,if_neg hy,splitAt_last (fun z=>h (List.mem_cons_of_mem _ z))]
noncomputable def joinAt (c : Nat) : List (List Nat)→List Nat
 | []=>[]
 | [p]=>p
 | p :: q :: r=>p ++ c :: joinAt c (q :: r)
theorem split_join {c : Nat} : ∀ {ps : List (List Nat)},ps≠[]→(∀ p∈ps,c ∉ p)→splitAt c (joinAt c ps) = ps
 | [p],_,h=>splitAt_last (h p List.mem_cons_self)
 | p :: q :: r,_,h=>by
  rw [joinAt,splitAt_part (h p List.mem_cons_self),split_join (List.cons_ne_nil _ _) fun x hx=>h x (List.mem_cons_of_mem _ hx)]
theorem join_list_at (c : Nat) : ∀ (ps : List Str),(Str.join ⟨#[c]⟩ ps).cps.toList = joinAt c (ps.map fun p=>p.cps.toList)
 | []=>rfl
 | [p]=>rfl
 | p :: q :: r=>by
  have ih:=join_list_at c (q :: r)
  show ((p ++ (⟨#[c]⟩ : Str)) ++ Str.join ⟨#[c]⟩ (q :: r)).cps.toList = _
  show ((p.cps ++ #[c]) ++ (Str.join ⟨#[c]⟩ (q :: r)).cps).toList = _
  rw [Array.toList_append,Array.toList_append,ih]
  simp [joinAt]
theorem split_is (x : List Nat) (c : Nat) : (Txt.split ⟨x.toArray⟩ ⟨#[c]⟩).map (fun p=>p.cps.toList) = splitAt c x:=by
 have h1:=StrLaws.join_split ⟨x.toArray⟩ ⟨#[c]⟩
 have h2:=StrLaws.split_free ⟨x.toArray⟩ c
 have h3:=split_pos ⟨x.toArray⟩ ⟨#[c]⟩
 have h4:=join_list_at c (Txt.split ⟨x.toArray⟩ ⟨#[c]⟩)
 rw [h1] at h4
 have h5 : x = joinAt c ((Txt.split ⟨x.toArray⟩ ⟨#[c]⟩).map fun p=>p.cps.toList):=by simpa using h4
 conv=>rhs; rw [h5]
 refine (split_join ?_ ?_).symm
 ·intro z
  have : (Txt.split ⟨x.toArray⟩ ⟨#[c]⟩) = []:=List.map_eq_nil_iff.mp z
  rw [this] at h3; simp at h3
 ·intro p hp
  refine e1a2 (List.mem_map.mp hp) fun q hq rr2=>?_
  subst rr2
  exact h2 q hq
theorem repL_strs {φ : Fz} : ∀ (l : List (Str×Tok)),RepL φ (strValues l) (l.map fun p=>.str p.1.cps.toList)
 | []=>.nil
 | (x,t) :: r=>by
  have : Rep φ (.str x t) (.str x.cps.toList):=by
   have:=Rep.str (φ:=φ) x.cps.toList t
   rwa [Array.toArray_toList] at this
  exact .cons this (repL_strs r)
theorem b_split {x : List Nat} {c : Nat} (hz : x.length≤100000) : CallOk G l (.builtin "str.split") [.str x,.str [c]] [] (.list ((splitAt c x).map .str)):=call2 (keep_builtin _) fun v w φ s A E g R r r'=>by
 refine e1a1 r.iStr fun t er=>?_
 clear r
 subst er
 refine e1a1 r'.iStr fun u er2=>?_
 clear r'
 subst er2
 have fin : ∀ (ls : List (Str×Tok)) (k : Nat),ls.map (·.1) = Txt.split ⟨x.toArray⟩ ⟨#[c]⟩→EP φ s (.list ((splitAt c x).map .str)) (.ref s.heap.objs.size) { s with heap:=s.heap.push (lsO (strValues ls) 0),toks:=k }:=by
  intro ls k hl
  have f:=fz_size g.fin
  have e : (splitAt c x).map D.str = ls.map fun p=>.str p.1.cps.toList:=by
   rw [← split_is,← hl,List.map_map,List.map_map]; rfl
  rw [e]
  exact ⟨_,(Step.push g.fin _ k).freeze (get_size_none _) (Heap.get?_push_size _ rfl) f,.list (Fz.put_self ..) (repL_strs ls)⟩
 have hxl : (⟨x.toArray⟩ : Str).length = x.length:=str_len x
 have hy : ((⟨#[c]⟩ : Str).length == 0) = false:=rfl
 have hsz : (⟨x.toArray⟩ : Str).length≤sizeLine:=by rw [hxl,sizeLine_eq]; lia
 show wpAny _ A (call (.builtin "str.split") [.str ⟨x.toArray⟩ t,.str ⟨#[c]⟩ u]) _ _ _
 generalize h1 : (decide ((⟨x.toArray⟩ : Str).length < (⟨#[c]⟩ : Str).length) || decide (Builtin.Str.strKind ⟨x.toArray⟩ < Builtin.Str.strKind ⟨#[c]⟩)) = r_; induction r_ using Bool.casesOn
 ·generalize hf : (Builtin.Str.occurrences ⟨x.toArray⟩ ⟨#[c]⟩ 0 (⟨x.toArray⟩ : Str).length ((⟨x.toArray⟩ : Str).length + 1)).isEmpty = r_; induction r_ using Bool.casesOn
  ·have hsp : Txt.split ⟨x.toArray⟩ ⟨#[c]⟩ = _:=(if_neg (ne_true_of_eq_false h1)).trans (if_neg (ne_true_of_eq_false hf))
   have hle:=split_le ⟨x.toArray⟩ ⟨#[c]⟩
   rw [hsp] at hle
   refine call_meets F.slot_str_split (typeIs_str _ _ _) F.entry_str_split (F.args_str_split_2 _ _) (meets_str_split_sep _ _ t u h1 hy hf hsz (by rw [sizeLine_eq]; lia)) ?_
   have:=fin (numbered s.toks _) (s.toks + (Builtin.Str.partsBetween ⟨x.toArray⟩ (Builtin.Str.occurrences ⟨x.toArray⟩ ⟨#[c]⟩ 0 (⟨x.toArray⟩ : Str).length ((⟨x.toArray⟩ : Str).length + 1)) (⟨#[c]⟩ : Str).length).length) ((numbered_texts _ _).trans hsp.symm)
   rw [← strsFrom_eq] at this
   exact this
  ·have hsp : Txt.split ⟨x.toArray⟩ ⟨#[c]⟩ = _:=(if_neg (ne_true_of_eq_false h1)).trans (if_pos hf)
   exact call_meets F.slot_str_split (typeIs_str _ _ _) F.entry_str_split (F.args_str_split_2 _ _) (meets_str_split_not_found _ _ t u h1 hy hf) (fin [(_,t)] s.toks hsp.symm)
 ·have hsp : Txt.split ⟨x.toArray⟩ ⟨#[c]⟩ = _:=if_pos h1
  exact call_meets F.slot_str_split (typeIs_str _ _ _) F.entry_str_split (F.args_str_split_2 _ _) (meets_str_split_cannot_occur _ _ t u h1) (fin [(_,t)] s.toks hsp.symm)
end
open Builtin._codecs in
theorem encodeRoad_ascii (id : String) (self : Value) (x : Str) (errors : Option Str) : encodeRoad id self x (ofString "ascii") errors = (do mkBytes (← encodeNarrow id asciiCodec errors self x)):=by
 first | rfl | (unfold encodeRoad; rfl) | (unfold encodeRoad; simp only []; rfl) | decide
open Builtin._codecs in
theorem encode_tree2 (x : Str) (t u : Tok) : Builtin.«str.encode» ⟨[.str x t,.str (ofString "ascii") u],[]⟩ = (do ret (← encodeRoad "str.encode" (.str x t) x (ofString "ascii") none)):=by kernel_rfl
open Builtin._codecs in
theorem enc {M : Model} {A : Around} {E : Value→Shared→Prop} {s : Shared} {id : String} {v : Value} {x : Str} {Q : Array UInt8→Shared→Prop} (h : ∀ c∈x.cps,c < 128) (hz : x.length≤1000000) (q : Q (x.cps.map (·.toUInt8)) s) : wpAny M A (encodeNarrow id asciiCodec none v x) Q E s:=by
 unfold encodeNarrow
 dsimp only
 rw [Std.Legacy.Range.forIn_eq_forIn_range']
 have nb : ∀ c∈x.cps,asciiCodec.bad c = false:=fun c hc=>by show decide (c ≥ 128) = false; have:=h c hc; exact decide_eq_false (by lia)
 have none_bad : ∀ (r : Array Nat),(∀ c∈r,asciiCodec.bad c = false)→r.findIdx? asciiCodec.bad = none:=fun r hr=>by
  rw [Array.findIdx?_eq_none_iff]; exact fun c hc=>by simpa using hr c hc
 have hf : ∀ (r : List Nat) (acc : Array UInt8),r.toArray.foldl (fun acc y=>acc ++ (asciiCodec.bytesOf y).toArray) acc = acc ++ (r.map (·.toUInt8)).toArray:=by
  intro r
  induction r with
  | nil=>intro acc; simp
  | cons y r ih=>intro acc; simp only [List.foldl_toArray',List.foldl_cons] at ih ⊢; rw [ih]; simp [asciiCodec]
 refine wpAny_bind (wpAny_mono (wpAny_forIn_list _ (fun rest (b : Nat×Array UInt8×Faults) s'=>s' = s∧((b = (0,#[],{})∧rest.length = x.cps.size)∨(b.1 = x.cps.size∧b.2.1 = x.cps.map (·.toUInt8)))) (fun b s'=>s' = s∧b.2.1 = x.cps.map (·.toUInt8)) ?_ ?_ _ _ ?_) (fun b s' hb=>?_) fun _a _a e=>e)
 ·rintro c rest b s' ⟨rfl,hb⟩
  rcases hb with ⟨rfl,hl⟩ | ⟨hb1,hb2⟩
  ·rw [if_neg (by simp)]
   have hpos : 0 < x.cps.size:=by rw [← hl]; simp
   have h0 : x.cps[0]? = some x.cps[0]:=Array.getElem?_eq_getElem hpos
   dsimp only
   rw [h0]
   dsimp only
   rw [nb _ (Array.getElem_mem hpos),if_pos (show (!false) = true from rfl)]
   have ex : x.cps.extract 0 = x.cps:=by simp
   rw [ex,none_bad _ nb]
   refine wpAny_pure ⟨rfl,.inr ⟨by simp,?_⟩⟩
   dsimp only [Option.getD_none]
   have:=hf x.cps.toList #[]
   have e2 : (x.cps.toList.map (·.toUInt8)).toArray = x.cps.map (·.toUInt8):=by rw [← Array.toList_map,Array.toArray_toList]
   rw [Array.toArray_toList,e2] at this
   simp only [Array.extract_size,this]
   simp
  ·have hz' : b.2.1.size≤1000000:=by rw [hb2,Array.size_map]; exact hz
   rw [if_neg (by rw [sizeLine_eq]; lia)]
   have h0 : x.cps[b.1]? = none:=by rw [hb1]; simp
   rw [h0]
   exact wpAny_pure ⟨rfl,hb2⟩
 ·rintro b s' ⟨rfl,hb⟩
  rcases hb with ⟨rfl,hl⟩ | ⟨hb1,hb2⟩
  ·have : x.cps = #[]:=Array.eq_empty_of_size_eq_zero hl.symm
   refine ⟨rfl,?_⟩
   rw [this]; simp
  ·exact ⟨rfl,hb2⟩
 ·refine ⟨rfl,.inl ⟨rfl,?_⟩⟩
  rw [List.length_range']
  show [:x.length].size = x.length
  simp [Std.Legacy.Range.size]
 ·obtain ⟨rfl,hb⟩:=hb
  rw [← hb] at q
  exact wpAny_pure q
section
variable {G : Gd} {l : Nat}
noncomputable def wAscii : List Nat:=[97,115,99,105,105]
theorem wAscii_eq : (⟨wAscii.toArray⟩ : Str) = ofString "ascii":=by decide +kernel
theorem b_encode {x : List Nat} (h : ∀ c∈x,c < 128) (hz : x.length≤lim) : CallOk G l (.builtin "str.encode") [.str x,.str wAscii] [] (.bytes (x.map (·.toUInt8))):=call2 (keep_builtin _) fun v w φ s A E g R r r'=>by
 refine e1a1 r.iStr fun t er=>?_
 clear r
 subst er
 refine e1a1 r'.iStr fun u er2=>?_
 clear r'
 subst er2
 rw [wAscii_eq]
 refine wpAny_call_entry F.slot_str_encode (typeIs_str _ _ _) F.entry_str_encode ?_ (F.args_str_encode_2 _ _)
 rw [encode_tree2,encodeRoad_ascii]
 unfold lim at hz
 refine wpAny_bind (wpAny_bind (enc (by simpa using h) (by rw [str_len]; exact hz) ?_))
 have e : ((⟨x.toArray⟩ : Str).cps.map (·.toUInt8)) = (x.map (·.toUInt8)).toArray:=by simp
 rw [e]
 refine wpAny_mkBytes (wpAny_pure ⟨_,rfl,EP.tk g.fin (.bytes _ _)⟩) (by rw [List.size_toArray,List.length_map,sizeLine_eq]; lia)
theorem slot_bytes_translate : PySem.Slot "bytes" "translate" "bytes.translate" :=
 .of (owner:="bytes") (n:="translate") (by rw [typeLookup_type,builtinLookup_eq_fast]; kernel_rfl) (by decide +kernel) (by decide +kernel) (by decide +kernel)
  (by first | exact .inl (by decide +kernel) | exact .inr (by decide +kernel)) (by rw [isSubtype_type]; kernel_rfl)
theorem type_bytes_translate : typeOf (.builtin "bytes.translate") = pure (.type "method_descriptor"):=by show builtinType _ = _; rw [builtinType_eq_fast]; kernel_rfl
theorem entry_bytes_translate : entryFor table "bytes.translate" = some Builtin.«bytes.translate»:=entryFor_of_tree (by kernel_rfl)
theorem args_bytes_translate_2 (a b : Value) : argsOk "bytes.translate" ⟨[a,b],[]⟩:=by
 unfold argsOk; rw [signature?_of (id:="bytes.translate") (n:="translate".toList.reverse) (o:="bytes".toList.reverse) (by kernel_rfl) FB.owner_bytes]; kernel_rfl
theorem entry_bytes_maketrans : entryFor table "bytes.maketrans" = some Builtin.«bytes.maketrans»:=entryFor_of_tree (by kernel_rfl)
theorem plain_bytes_maketrans : plainId "bytes.maketrans" = true:=by decide +kernel
theorem check_bytes_maketrans (a b : Value) : checkBuiltinCall "bytes.maketrans" ⟨[a,b],[]⟩ = pure ():=by kernel_rfl
theorem like_eq {id : String} {b : Array UInt8} {t : Tok} : Builtin.Bytes.bytesLike id (.bytes b t) = pure b:=by
 unfold Builtin.Bytes.bytesLike
 rw [KBy.buffer_eq,pure_bind]
noncomputable def tabA (a b : List UInt8) : Array UInt8:=(a.zip b).foldl (fun t p=>t.setIfInBounds p.1.toNat p.2) ((Array.range 256).map (·.toUInt8))
noncomputable def mkTab (a b : List UInt8) : List UInt8:=(tabA a b).toList
theorem tabA_size (a b : List UInt8) : (tabA a b).size = 256:=by
 have : ∀ (l : List (UInt8×UInt8)) (t : Array UInt8),t.size = 256→(l.foldl (fun t p=>t.setIfInBounds p.1.toNat p.2) t).size = 256:=by
  intro l
  induction l with
  | nil=>intro t h; exact h
  | cons p l ih=>intro t h; exact ih _ (by rw [Array.size_setIfInBounds]; exact h)
 exact this _ _ (by simp)
theorem b_maketrans {a b : List UInt8} (h : a.length = b.length) : CallOk G l (.builtin "bytes.maketrans") [.bytes a,.bytes b] [] (.bytes (mkTab a b)):=call2 (keep_builtin _) fun v w φ s A E g R r r'=>by
 refine e1a1 r.iBytes fun t er=>?_
 clear r
 subst er
 refine e1a1 r'.iBytes fun u er2=>?_
 clear r'
 subst er2
 refine wpAny_call (codeAny_call_builtin plain_bytes_maketrans entry_bytes_maketrans ?_)
 rw [check_bytes_maketrans]
 refine wpAny_pure ?_
 unfold Builtin.«bytes.maketrans» Builtin.Bytes.maketransM
 dsimp only [List.headD,List.getD]
 refine wpAny_bind (wpAny_of_eq (a:=()) rfl (wpAny_bind (wpAny_of_eq (a:=()) rfl (wpAny_bind (wpAny_of_eq like_eq (wpAny_bind (wpAny_of_eq like_eq ?_)))))))
 rw [if_neg (by simp [h])]
 refine wpAny_bind (wpAny_mkBytes (wpAny_pure ?_) (by show (tabA a b).size≤_; rw [tabA_size]; decide))
 have:=Rep.bytes (φ:=φ) (mkTab a b) s.toks
 unfold mkTab at this
 rw [Array.toArray_toList] at this
 exact EP.tk g.fin this
noncomputable def trans (x tab : List UInt8) : List UInt8:=x.map fun c=>tab.getD c.toNat c
set_option tactic.hygienic true in
theorem b_translate {x tab : List UInt8} (h : tab.length = 256) (hz : x.length≤lim) : CallOk G l (.builtin "bytes.translate") [.bytes x,.bytes tab] [] (.bytes (trans x tab)):=call2 (keep_builtin _) fun v w φ s A E g R r r'=>by
 refine e1a1 r.iBytes fun t er=>?_
 clear r
 subst er
 refine e1a1 r'.iBytes fun u er2=>?_
 clear r'
 subst er2
 refine wpAny_call_entry slot_bytes_translate (typeIs_bytes _ _ _) entry_bytes_translate ?_ (args_bytes_translate_2 _ _)
 unfold Builtin.«bytes.translate» Builtin.Bytes.translateM
 dsimp only
 rw [if_neg (by simp),if_neg (by simp),if_neg (by simp)]
 refine wpAny_bind (wpAny_of_eq like_eq ?_)
 rw [if_neg (by simp [h])]
 refine wpAny_bind (wpAny_pure ?_)
 dsimp only [List.head?,Option.map_none,Option.orElse]
 refine wpAny_bind (wpAny_pure (wpAny_bind (wpAny_of_eq (a:=x.toArray) rfl ?_)))
 have e : (x.toArray.filter (fun c=>!(#[] : Array UInt8).contains c)).map (fun c=>tab.toArray.getD c.toNat c) = (trans x tab).toArray:=by
  unfold trans
  have : List.filter (fun (c : UInt8)=>true) x = x:=List.filter_eq_self.mpr fun _a _a=>rfl
  simp [this]
 rw [show (fun c=>match (some tab.toArray : Option (Array UInt8)) with | some t=>t.getD c.toNat c | none=>c) = fun c : UInt8=>tab.toArray.getD c.toNat c from rfl,e]
 have hl : (trans x tab).length = x.length:=by unfold trans; simp
 unfold lim at hz
 split
 ·rename_i hq
  refine wpAny_bind (wpAny_rule (wpAny_bind (wpAny_of_eq (a:=.bytes x.toArray t) rfl (wpAny_pure ⟨_,rfl,?_⟩))))
  have : trans x tab = x:=by
   have:=beq_iff_eq.mp hq
   simpa using this
  rw [this]
  exact EP.pure g.fin (.bytes _ _)
 ·refine wpAny_bind (wpAny_mkBytes (wpAny_pure ⟨_,rfl,EP.tk g.fin (.bytes _ _)⟩) (by rw [List.size_toArray,hl,sizeLine_eq]; lia))
end
structure Bs (G : Gd) (K : Frag) (mg mb : Str→Option Value) : Prop where
 X : K.In G.h
 g : G.h.Ns mainGlobals mg
 b : G.h.Ns builtinsNs mb
 lim : G.h.NoLimit
 boot : ∀ x : Str,x≠"__name__"→mb x = bootBuiltins x
section
variable {G : Gd} {K : Frag} {mg mb : Str→Option Value} {φ : Fz} {s : Shared} {A : Around} {E : Value→Shared→Prop} {l : Nat}
theorem Bs.In (B : Bs G K mg mb) (g : Gnd G φ s) : K.In s.heap:=B.X.keeps g.keep
noncomputable def GlOk (G : Gd) (x : Str) (d : D) : Prop:=∀ (env : Env) φ s A E,env.scope.kind = .function→env.globals = mainGlobals→env.builtins = builtinsNs→env.kindOf x = some .globalImplicit→Gnd G φ s→wpAny (model G.prog G.w) A (loadName env x) (EP φ s d) E s
theorem load_global {M : Model} {env : Env} {x : Str} {Q : Value→Shared→Prop} (hk : env.scope.kind = .function) (hx : env.kindOf x = some .globalImplicit) (h : wpAny M A (loadGlobal env x) Q E s) : wpAny M A (loadName env x) Q E s:=by
 unfold loadName
 simp only [Env.blockKind,hk,hx,ScopeKind.isAnnotationScope,Bool.false_and,Bool.false_eq_true,if_false]
 exact h
theorem gl_K (B : Bs G K mg mb) {x : Str} {v : Value} {d : D} (e : nsIn K mainGlobals x = some (some v)) (r : ∀ φ,(∀ b o,G.h.get? b = some o→φ b = some o)→Rep φ v d) : GlOk G x d:=fun env φ s A E hk hg hb hx g=>by
 refine load_global hk hx (loadGlobal_global (mg:=mg) (by rw [hg]; exact B.g.keeps g.keep) (mg_of B.X B.g e) (EP.pure g.fin (r φ g.gnd)))
theorem gl_B (B : Bs G K mg mb) {x : Str} {v : Value} (e : nsIn K mainGlobals x = some none) (hv : bootBuiltins x = some v) (hn : x≠"__name__") : GlOk G x (.val v):=fun env φ s A E hk hg hb hx g=>by
 refine load_global hk hx (loadGlobal_builtin (mg:=mg) (mb:=mb) (by rw [hg]; exact B.g.keeps g.keep) (mg_none_of B.X B.g e) (by rw [hb]; exact B.b.keeps g.keep) ((B.boot x hn).trans hv) (EP.pure g.fin (.val _)))
noncomputable def AttOk (G : Gd) (l : Nat) (d : D) (x : Str) (e : D) : Prop:=∀ v φ s A E,Gnd G φ s→Room A l→Rep φ v d→wpAny (model G.prog G.w) A (getAttr v x true) (EP φ s e) E s
noncomputable def MtOk (G : Gd) (l : Nat) (d : D) (x : Str) (f : Value) (fs : List D) : Prop:=∀ v φ s A E pl,Gnd G φ s→Room A l→Rep φ v d→wpAny (model G.prog G.w) A (getMethod v x pl) (fun r s'=>r.1 = f∧∃ φ',Step φ s φ' s'∧RepL φ' r.2 fs) E s
theorem rep_handed {v : Value} {d : D} (r : Rep φ v d) (h : ∀ w,d≠.val w) : handedIn v = true:=by
 cases r <;> first | rfl | exact (h _ rfl).elim
theorem getL_rep {name : Str} : ∀ {es : List DictEntry} {fs : List (Str×D)},RepF φ es fs→(∃ v d,getL name es = some (some v)∧fs.lookup name = some d∧Rep φ v d)∨(getL name es = some none∧fs.lookup name = none)
 | _,_,.nil=>.inr ⟨rfl,rfl⟩
 | _,_,.cons (x:=y) (t:=t) (v:=v) (es:=es) (d:=d) (fs:=fs) r rs=>by
  have ih:=getL_rep (name:=name) rs
  have e1 : (Value.str y t).isStr name = (y == name):=rfl
  by_cases k : y = name
  ·subst k
   refine .inl ⟨v,d,?_,by rw [List.lookup_cons]; simp,r⟩
   unfold getL
   rw [List.find?_cons,e1]
   simp
  ·have kb : (y == name) = false:=beq_eq_false_iff_ne.mpr k
   have kb' : (name == y) = false:=beq_eq_false_iff_ne.mpr fun z=>k z.symm
   have e2 : ∀ hh,getL name (⟨hh,.str y t,v⟩ :: es) = getL name es:=fun hh=>by
    unfold getL
    rw [List.find?_cons,List.any_cons]
    dsimp only
    rw [e1,kb]
    rfl
   rw [List.lookup_cons,kb',e2]
   exact ih
theorem inst_at {x dx C : Addr} {es : List DictEntry} {n : Nat} (e1 : s.heap.get? x = some (instObj C dx)) (e2 : s.heap.get? dx = some (dictOf es n)) : InstAt s.heap x (instObj C dx) C (some (dictOf es n)):=⟨e1,rfl,rfl,e2⟩
noncomputable def attrIn (K : Frag) (C : Addr) (name : Str) : Bool:=plainGet K C name && hasDictIn K C && (match findIn K (.ref C) name with | some attr=>noGet K attr | none=>false)
set_option tactic.hygienic true in
theorem att_own (B : Bs G K mg mb) {C : Addr} {name : Str} {fs : List (Str×D)} {d : D} (h : attrIn K C name = true) (hl : fs.lookup name = some d) (hd : ∀ w,d≠.val w) : AttOk G l (.inst C fs) name d:=fun v φ s A E g R r=>by
 cases r with | inst e1 e2 rf =>
 unfold attrIn at h
 refine e0a2 (Bool.and_eq_true_iff.mp h) fun h h3=>?_
 refine e0a2 (Bool.and_eq_true_iff.mp h) fun h1 h2=>?_
 split at h3
 ·rename_i attr ha
  rcases getL_rep (name:=name) rf with ⟨v,d',q1,q2,q3⟩ | ⟨q1,q2⟩
  ·rw [hl] at q2; have qq:=Option.some.inj (q2); subst qq
   exact get_value (B.In g) (inst_at (g.fin _ _ e1) (g.fin _ _ e2)) (plainGet_of h1).1 (findObj_own h2 ha h3 q1) (rep_handed q3 hd) (EP.tk g.fin q3)
  ·rw [hl] at q2; exact no_some q2
 ·exact no_ft h3
noncomputable def methIn (K : Frag) (C : Addr) (name : Str) (f : Addr) : Bool:=plainGet K C name && (findIn K (.ref C) name == some (some (.ref f))) && isFn K (.ref f)
theorem mt_inst (B : Bs G K mg mb) {C : Addr} {name : Str} {f : Addr} {fs : List (Str×D)} (h : methIn K C name f = true) (hl : fs.lookup name = none) : MtOk G l (.inst C fs) name (.ref f) [.inst C fs]:=fun v φ s A E pl g R r=>by
 unfold methIn at h
 refine e0a2 (Bool.and_eq_true_iff.mp h) fun h h3=>?_
 refine e0a2 (Bool.and_eq_true_iff.mp h) fun h1 h2=>?_
 have r0:=r
 cases r with | inst e1 e2 rf =>
 rcases getL_rep (name:=name) rf with ⟨v,d',q1,q2,q3⟩ | ⟨q1,q2⟩
 ·rw [hl] at q2; exact no_none q2
 ·refine method_fn (B.In g) (inst_at (g.fin _ _ e1) (g.fin _ _ e2)) (plainGet_of h1).1 (plainGet_of h1).2 (beq_iff_eq.mp h2) (beq_iff_eq.mp h3) ?_ ⟨rfl,φ,.refl g.fin,.cons r0 .nil⟩
  show (lookIn name (dictOf _ _)).map _ = _
  rw [lookIn_dict,q1]; rfl
theorem att_cls (B : Bs G K mg mb) {C : Addr} {name : Str} {a : Value} {d : D} (hr : readsIn K C (.type "type") = true) (e : findCls K (.ref C) (.type "type") name = some (.val a)) (hh : handedIn a = true) (hd : ∀ φ,Rep φ a d) : AttOk G l (.val (.ref C)) name d:=fun v φ s A E g R r=>by
 have er:=r.iVal
 clear r
 subst er
 exact cls_value (B.In g) hr e hh (EP.tk g.fin (hd φ))
theorem mt_str {name : Str} {id : String} {x : List Nat} (slot : PySem.Slot "str" name id) (ty : typeOf (.builtin id) = pure (.type "method_descriptor")) : MtOk G l (.str x) name (.builtin id) [.str x]:=fun v φ s A E pl g R r=>by
 have r0:=r
 refine e1a1 r.iStr fun t er=>?_
 clear r
 subst er
 exact getMethod_builtin (typeIs_str _ _ _) F.plainAttrs_str slot ty (fun a e=>(nomatch e)) ⟨rfl,φ,.refl g.fin,.cons r0 .nil⟩
theorem mt_bytes {name : Str} {id : String} {x : List UInt8} (slot : PySem.Slot "bytes" name id) (ty : typeOf (.builtin id) = pure (.type "method_descriptor")) : MtOk G l (.bytes x) name (.builtin id) [.bytes x]:=fun v φ s A E pl g R r=>by
 have r0:=r
 refine e1a1 r.iBytes fun t er=>?_
 clear r
 subst er
 exact getMethod_builtin (typeIs_bytes _ _ _) FB.plainAttrs_bytes slot ty (fun a e=>(nomatch e)) ⟨rfl,φ,.refl g.fin,.cons r0 .nil⟩
theorem mt_list {name : Str} {id : String} {x : List D} (slot : PySem.Slot "list" name id) (ty : typeOf (.builtin id) = pure (.type "method_descriptor")) : MtOk G l (.list x) name (.builtin id) [.list x]:=fun v φ s A E pl g R r=>by
 have r0:=r
 refine e3a3 r.iList fun a vs n er e r1=>?_
 clear r r1
 subst er
 exact getMethod_builtin (lsO_isList (g.fin _ _ e)).typeIs F.plainAttrs_list slot ty (fun a h=>by cases h; exact ⟨_,g.fin _ _ e,rfl⟩) ⟨rfl,φ,.refl g.fin,.cons r0 .nil⟩
theorem fr_any (B : Bs G K mg mb) (g : Gnd G φ s) : Fr { objs:=#[] } mainGlobals s.heap mg:=⟨B.g.keeps g.keep,fun b o e=>by simp [Heap.get?] at e,Nat.zero_le _⟩
theorem mk1 : typeOf (.type "bytes") = pure (.type "type"):=by first | rfl | kernel_rfl
theorem mk2 : Manifest.isStub "bytes" = false:=by decide +kernel
set_option maxHeartbeats 1000000 in
theorem mk3 : findCls [] (.type "bytes") (.type "type") (ofString "maketrans") = some (.val (.builtin "bytes.maketrans")):=by kernel_rfl
theorem mk4 : handedIn (.builtin "bytes.maketrans") = true:=by decide +kernel
theorem mt_maketrans (B : Bs G K mg mb) : MtOk G l (.val (.type "bytes")) (ofString "maketrans") (.builtin "bytes.maketrans") []:=fun v φ s A E pl g R r=>by
 have er:=r.iVal
 clear r
 subst er
 have X0 : Frag.In [] ({ objs:=#[] } : Heap):=fun _a _a e=>by cases e
 refine method_type (K:=[]) (T:="bytes") (name:=ofString "maketrans") (v:=.builtin "bytes.maketrans") (fr_any B g) X0 mk1 mk2 mk3 mk4 ?_
 exact ⟨rfl,φ,.toks g.fin _,.nil⟩
end
section
variable {G : Gd} {K : Frag} {mg mb : Str→Option Value} {φ : Fz} {s : Shared} {A : Around} {E : Value→Shared→Prop} {l : Nat} {P : Pg}
theorem Room.under_cls (R : Room A (l + 1)) (C : Addr) (vs : List Value) (kw : List (Str×Value)) : Room (A.under (.builtin "type.__call__" ⟨.ref C :: vs,kw⟩)) l:=by
 have hu : (Code.builtin "type.__call__" ⟨.ref C :: vs,kw⟩).cUnits≤8:=by
  have : (Code.builtin "type.__call__" ⟨.ref C :: vs,kw⟩).cUnits = 1∨(Code.builtin "type.__call__" ⟨.ref C :: vs,kw⟩).cUnits = 0∨(Code.builtin "type.__call__" ⟨.ref C :: vs,kw⟩).cUnits = 2:=by first | exact .inl rfl | exact .inr (.inl rfl) | exact .inr (.inr rfl)
  lia
 refine ⟨R.handled,?_,?_⟩
 ·rw [depth_under_kw]; have:=R.depth; lia
 ·show A.units + (Code.builtin "type.__call__" ⟨.ref C :: vs,kw⟩).cUnits + _ + _ < _
  have:=R.units; lia
theorem repL_lookup {binds : List (Str×Value)} {bd : List (Str×D)} : RepK φ binds bd→∀ x,(∃ v d,binds.lookup x = some v∧bd.lookup x = some d∧Rep φ v d)∨(binds.lookup x = none∧bd.lookup x = none):=by
 induction binds generalizing bd with
 | nil=>intro h x; obtain ⟨h1,h2⟩:=h; induction bd using List.casesOn with
  | nil=>exact .inr ⟨rfl,rfl⟩
  | cons p bd=>cases h2
 | cons p binds ih =>
  intro h x
  obtain ⟨y,v⟩:=p
  refine e0a2 (h) fun h1 h2=>?_
  cases bd with
  | nil=>cases h2
  | cons q bd =>
   obtain ⟨z,d⟩:=q
   cases h2 with | cons r₁ rs =>
   have hyz : y = z:=(List.cons.inj h1).1
   subst hyz
   have ih':=ih ⟨(List.cons.inj h1).2,rs⟩ x
   rw [List.lookup_cons,List.lookup_cons]
   cases hxy : x == y with
   | true=>exact .inl ⟨v,d,rfl,rfl,r₁⟩
   | false=>exact ih'
noncomputable def bindsI (y C : Addr) (self : Str) (bd : List (Str×D)) : Str→LV:=fun x=>if x = self then .oi y C [] else bindsD bd x
set_option tactic.hygienic true in
theorem cls_ok (B : Bs G K mg mb) (PO : POk G l P) {C a : Addr} {fd : FuncData} {body : List Stmt} {ds : List D} {bd : List (Str×D)} {self : Str} {fs : List (Str×D)} {n : Nat}
  (hm : makesIn K C = true) (hi : findIn K (.ref C) "__init__" = some (some (.ref a))) (hf : isFn K (.ref a) = true) (hkeep : KeepOk G (.ref C)) (D₀ : DefAt G a fd body)
  (hb : ∀ φ x vs (s : Shared),RepL φ vs ds→Gnd G φ s→∃ binds,BindsTo s fd ⟨.ref x :: vs,[]⟩ ((self,.ref x) :: binds)∧RepK φ binds bd)
  (hself : ∀ p∈bd,p.1≠self) (hn : ∃ k,(self,k)∈fd.scope.names∧(k = .local∨k = .cell)) (hn' : ∀ x∈bd,∃ k,(x.1,k)∈fd.scope.names∧(k = .local∨k = .cell))
  (hx : ∀ y,∃ ρ',exN P n fd.scope (rho0 (bindsI y C self bd) fd.scope.names) body = some (.next ρ')∧ρ'.lookup self = some (.oi y C fs)) : CallOk G (l + 2) (.ref C) ds [] (.inst C fs):=by
 refine ⟨hkeep,fun vs kvs φ s A E g R r rk=>?_⟩
 have qq:=repK_nil rk; subst qq
 obtain ⟨hh,gg,dd,tk,os⟩:=s
 refine wpAny_call (make_core (makes_of (B.In g) hm) (looks_findIn (B.In g) hi) (fun self=>bind_fn (B.In g) self (beq_iff_eq.mp hf)) (.inl rfl) ?_)
 -- the new object
 have y1 : Step φ ⟨hh,gg,dd,tk,os⟩ φ ⟨hh.push emptyDict,gg,dd,tk,os⟩:=.push g.fin _ _
 have y2 : Step φ ⟨hh.push emptyDict,gg,dd,tk,os⟩ φ ⟨(hh.push emptyDict).push (instObj C hh.objs.size),gg,dd,tk,os⟩:=.push y1.fin _ _
 have y:=y1.trans y2
 have g':=g.step y
 have hsz : (hh.push emptyDict).objs.size = hh.objs.size + 1:=Heap.size_push ..
 have o1 : ((hh.push emptyDict).push (instObj C hh.objs.size)).get? (hh.objs.size + 1) = some (instObj C hh.objs.size):=by rw [← hsz]; exact Heap.get?_push_size _ rfl
 have o2 : ((hh.push emptyDict).push (instObj C hh.objs.size)).get? hh.objs.size = some emptyDict:=Heap.get?_push_of_some _ (Heap.get?_push_size _ rfl)
 have n1 : hh.get? (hh.objs.size + 1) = none:=none_ge (Nat.le_succ _)
 have n2 : hh.get? hh.objs.size = none:=get_size_none _
 refine e1a2 (hb φ (hh.objs.size + 1) vs ⟨(hh.push emptyDict).push (instObj C hh.objs.size),gg,dd,tk,os⟩ r g') fun binds hbind rb=>?_
 refine e1a2 (D₀.obj) fun o ho hd=>?_
 have rb' : RepK φ binds.reverse bd.reverse:=⟨by rw [List.map_reverse,List.map_reverse,rb.1],by rw [List.map_reverse,List.map_reverse]; exact rb.2.reverse⟩
 have noself : binds.reverse.lookup self = none:=by
  rcases repL_lookup rb' self with ⟨v,d,_,h2,_⟩ | ⟨h1,_⟩
  ·exfalso
   have : ∀ (l : List (Str×D)) (d : D),l.lookup self = some d→∃ p∈l,p.1 = self:=by
    intro l
    induction l with
    | nil=>intro d h; cases h
    | cons p l ih =>
     obtain ⟨z,e⟩:=p
     intro d h
     rw [List.lookup_cons] at h
     split at h
     ·rename_i q; exact ⟨_,List.mem_cons_self,(beq_iff_eq.mp q).symm⟩
     ·obtain ⟨p,hp,e⟩:=ih d h; exact ⟨p,List.mem_cons_of_mem _ hp,e⟩
   obtain ⟨p,hp,e⟩:=this _ _ h2
   exact hself p (List.mem_reverse.mp hp) e
  ·exact h1
 let b : Str→CV:=fun x=>if x = self then .oi (hh.objs.size + 1) hh.objs.size C [] else match binds.reverse.lookup x,bd.reverse.lookup x with
  | some v,some d=>.fz v d
  | _,_=>.un
 have bs : b self = .oi (hh.objs.size + 1) hh.objs.size C []:=if_pos rfl
 have bo : ∀ x,x≠self→b x = (match binds.reverse.lookup x,bd.reverse.lookup x with | some v,some d=>.fz v d | _,_=>.un):=fun x hx=>if_neg hx
 have hbv : ∀ x,(b x).val? = ((self,Value.ref (hh.objs.size + 1)) :: binds).reverse.lookup x:=fun x=>by
  rw [List.reverse_cons,List.lookup_append]
  by_cases hx : x = self
  ·subst hx
   rw [bs,noself]
   simp [CV.val?]
  ·rw [bo x hx]
   have hbq : (x == self) = false:=beq_eq_false_iff_ne.mpr hx
   rcases repL_lookup rb' x with ⟨v,d,h1,h2,_⟩ | ⟨h1,h2⟩ <;> rw [h1,h2] <;> simp [CV.val?,List.lookup_cons,hbq]
 have hba : (fun x=>(b x).ab) = bindsI (hh.objs.size + 1) C self bd:=by
  funext x
  unfold bindsI
  by_cases hx : x = self
  ·subst hx; rw [bs,if_pos rfl]; rfl
  ·rw [bo x hx,if_neg hx]
   unfold bindsD
   rcases repL_lookup rb' x with ⟨v,d,h1,h2,_⟩ | ⟨h1,h2⟩ <;> rw [h1,h2] <;> rfl
 have hno : ∀ x,x≠self→(b x).priv = []:=fun x hx=>by
  rw [bo x hx]; split <;> rfl
 have ps : (b self).priv = [hh.objs.size + 1,hh.objs.size]:=by rw [bs]; rfl
 have Gv : Given G φ ⟨(hh.push emptyDict).push (instObj C hh.objs.size),gg,dd,tk,os⟩ b:=by
  refine ⟨fun x=>?_,fun x=>?_,fun x y hxy a ha=>?_,fun x a ha=>?_⟩
  ·by_cases hx : x = self
   ·subst hx
    rw [bs]
    exact ⟨o1,[],0,o2,.nil,fun e he=>(no_mem he)⟩
   ·rw [bo x hx]
    rcases repL_lookup rb' x with ⟨v,d,h1,h2,h3⟩ | ⟨h1,h2⟩
    ·rw [h1,h2]; exact h3
    ·rw [h1,h2]; trivial
  ·by_cases hx : x = self
   ·subst hx; rw [ps]; simp
   ·rw [hno x hx]; exact List.nodup_nil
  ·by_cases hx : x = self
   ·subst hx
    rw [hno y fun z=>hxy z.symm]; exact fun z=>(no_mem z)
   ·rw [hno x hx] at ha; cases ha
  ·by_cases hx : x = self
   ·subst hx
    rw [ps] at ha
    rcases (by simpa using ha : a = hh.objs.size + 1∨a = hh.objs.size) with rfl | rfl
    ·refine ⟨?_,none_of_ext g.keep n1,_,o1⟩
     generalize q : φ (hh.objs.size + 1) = r_; induction r_ using Option.casesOn with
     | none=>rfl
     | some o=>have:=g.fin _ _ q; rw [n1] at this; exact no_none this
    ·refine ⟨?_,none_of_ext g.keep n2,_,o2⟩
     generalize q : φ hh.objs.size = r_; induction r_ using Option.casesOn with
     | none=>rfl
     | some o=>have:=g.fin _ _ q; rw [n2] at this; exact no_none this
   ·rw [hno x hx] at ha; cases ha
 have hkind : ∀ x∈(self,Value.ref (hh.objs.size + 1)) :: binds,∃ k,(x.1,k)∈fd.scope.names∧(k = .local∨k = .cell):=fun x hx=>by
  rcases List.mem_cons.mp hx with z | z
  ·subst z; exact hn
  ·have hm : x.1∈bd.map (·.1):=rb.1 ▸ List.mem_map.mpr ⟨x,z,rfl⟩
   obtain ⟨y,hy,e⟩:=List.mem_map.mp hm
   rw [← e]; exact hn' y hy
 obtain ⟨ρ',hx,hl⟩:=hx (hh.objs.size + 1)
 refine code_body (args:=⟨.ref (hh.objs.size + 1) :: vs,[]⟩) D₀.ok (g'.keep _ _ ho) hd (B.lim.keeps g'.keep) (D₀.code.keeps g'.keep) hbind hkind g' Gv hbv (R.under_cls C vs []) (hba ▸ exN_ok PO fd.scope n _ _ _ hx) fun f s₁ s' x q=>?_
 induction f using PySem.Flow.casesOn <;> first | exact q.elim | skip
 obtain ⟨c',φ',ab',S',rel,pv⟩:=q
 refine ⟨rfl,?_⟩
 -- the object is frozen
 rw [← ab'] at hl
 obtain ⟨e,he,rfl,hab⟩:=abs_lookup hl
 refine e1a1 (ab_oi hab) fun dy hcv=>?_
 obtain ⟨m,_,hv'⟩:=S'.vars
 have hg:=(hv' e he).2
 rw [hcv] at hg
 obtain ⟨p1,es,n',p2,rf,_⟩:=hg
 have hp : e.cv.priv = [hh.objs.size + 1,dy]:=by rw [hcv]; rfl
 have mp : ∀ b∈e.cv.priv,b∈privs (callEnvC fd ((hh.push emptyDict).push (instObj C hh.objs.size)).objs.size a) c':=fun b hb=>List.mem_cons_of_mem _ (List.mem_flatMap.mpr ⟨e,he,List.mem_append_right _ hb⟩)
 have fy : φ' (hh.objs.size + 1) = none:=S'.pfz _ (mp _ (by rw [hp]; simp))
 have fdy : φ' dy = none:=S'.pfz dy (mp dy (by rw [hp]; simp))
 have hne : dy≠hh.objs.size + 1:=fun z=>by rw [z,p1] at p2; cases p2
 have f1 : (φ'.put (hh.objs.size + 1) (instObj C dy)) dy = none:=by rw [Fz.put_ne _ _ hne]; exact fdy
 have up1 : ∀ a o,φ' a = some o→((φ'.put (hh.objs.size + 1) (instObj C dy)).put dy (dictOf es n')) a = some o:=fun a o q=>Fz.put_up f1 a o (Fz.put_up fy a o q)
 have low : ∀ c∈privs (callEnvC fd ((hh.push emptyDict).push (instObj C hh.objs.size)).objs.size a) (fnCE b (((hh.push emptyDict).push (instObj C hh.objs.size)).objs.size + 1) fd.scope.names),hh.get? c = none:=fun c hc=>by
  have hlt : ∀ y,∀ c∈(b y).priv,c < ((hh.push emptyDict).push (instObj C hh.objs.size)).objs.size:=fun y c hc=>let ⟨o,ho⟩:=(Gv.off y c hc).2.2; Heap.lt_size ho
  obtain ⟨q1,q2⟩:=fnCE_privs hlt Gv.nd Gv.apart fd.scope.names (((hh.push emptyDict).push (instObj C hh.objs.size)).objs.size + 1) (Nat.le_succ _) D₀.ok.nd
  have big : ∀ c,((hh.push emptyDict).push (instObj C hh.objs.size)).objs.size≤c→hh.get? c = none:=fun c hc=>none_ge (by rw [Heap.size_push,Heap.size_push] at hc; lia)
  rcases List.mem_cons.mp hc with z | z
  ·rw [z]; exact big _ (Nat.le_refl _)
  ·rcases q1 c z with w | ⟨y,_,w⟩
   ·exact big c (Nat.le_of_succ_le w)
   ·by_cases hy : y = e.x
    ·subst hy
     rw [ps] at w
     rcases (by simpa using w : c = hh.objs.size + 1∨c = hh.objs.size) with z | z
     ·rw [z]; exact n1
     ·rw [z]; exact n2
    ·rw [hno y hy] at w; cases w
 have lowd : hh.get? dy = none:=by
  rcases pv dy (mp dy (by rw [hp]; simp)) with z | z
  ·exact low dy z
  ·exact none_of_ext (fun b o e=>x.toInCall.keep b o (y.ext b o e)) z
 refine ⟨(φ'.put (hh.objs.size + 1) (instObj C dy)).put dy (dictOf es n'),?_,.inst (Fz.put_up f1 _ _ (Fz.put_self ..)) (Fz.put_self ..) (rf.mono up1)⟩
 obtain ⟨h1,t1,e1⟩:=x.toInCall.same
 obtain ⟨h2,t2,e2⟩:=rel.eq
 refine ⟨⟨h2,t2,by rw [e2,e1]⟩,fun c o q=>rel.keep c o (fun z=>by rw [low c z] at q; exact no_none q) (x.toInCall.keep c o (y.ext c o q)),fun a o q=>up1 a o (rel.up a o q),fun c o q=>?_,fun c o q=>?_⟩
 ·by_cases z : c = dy
  ·subst z; exact .inr lowd
  ·rw [Fz.put_ne _ _ z] at q
   by_cases w : c = hh.objs.size + 1
   ·subst w; exact .inr n1
   ·rw [Fz.put_ne _ _ w] at q
    rcases rel.new c o q with v | v | v
    ·exact .inl v
    ·exact .inr (low c v)
    ·exact .inr (none_of_ext (fun b o e=>x.toInCall.keep b o (y.ext b o e)) v)
 ·by_cases z : c = dy
  ·subst z; rw [Fz.put_self] at q; have qq:=Option.some.inj (q); subst qq; exact p2
  ·rw [Fz.put_ne _ _ z] at q
   by_cases w : c = hh.objs.size + 1
   ·subst w; rw [Fz.put_self] at q; have qq:=Option.some.inj (q); subst qq; exact p1
   ·rw [Fz.put_ne _ _ w] at q; exact S'.g.fin c o q
end
section
variable {G : Gd} {K : Frag} {mg mb : Str→Option Value}
noncomputable def setIn (K : Frag) (C : Addr) (a : Str) : Bool:=(findIn K (.ref C) "__setattr__" == some (some (.builtin "object.__setattr__"))) && plainOver K C && (takerIn K C a == some none) && hasDictIn K C
theorem st_ok (B : Bs G K mg mb) {C : Addr} {a : Str} (h : setIn K C a = true) : StOk G C a:=by
 unfold setIn at h
 refine e0a2 (Bool.and_eq_true_iff.mp h) fun h hh=>?_
 refine e0a2 (Bool.and_eq_true_iff.mp h) fun h ht=>?_
 refine e0a2 (Bool.and_eq_true_iff.mp h) fun hs hp=>?_
 have hs:=beq_iff_eq.mp hs
 have ht:=beq_iff_eq.mp ht
 intro s x dx es n v A E Q keep e1 e2 hk hz hq
 have X : K.In s.heap:=B.X.keeps keep
 have I:=inst_at e1 e2
 refine set_plain X I hs ?_
 refine osa_open (s:={ s with toks:=s.toks + 1 }) X I hp ht fun b=>?_
 refine e1a2 (any_some hh) fun cd hc hd'=>?_
 have hupd : (s.heap.update dx (Obj.putName a (PyData.keyHash G.w.params a) (.str a (s.toks + 1)) v)).get? dx = some (dictOf (putL a (PyData.keyHash G.w.params a) (.str a (s.toks + 1)) v es) (putN a es n)):=by
  rw [← putName_dict]
  exact Heap.get?_update_self _ e2 (by rw [putName_dict]; rfl)
 have fin:=hq _ (s.toks + 1 + 1) (s.toks + 1) _ hupd (Heap.SameBut.update ..)
 have hlen : (putL a (PyData.keyHash G.w.params a) (.str a (s.toks + 1)) v es).length≤es.length + 1:=by
  have : ∀ es : List DictEntry,(putL a (PyData.keyHash G.w.params a) (.str a (s.toks + 1)) v es).length≤es.length + 1:=by
   intro es
   induction es with
   | nil=>simp [putL]
   | cons e es ih=>unfold putL; split <;> simp <;> omega
  exact this es
 have D:=e2
 have D':=hupd
 refine wpAny_bind (wpAny_pure (wpAny_bind (wpAny_bind (wpAny_loadPart e1 (wpAny_bind (Looks.here (s:={ s with toks:=s.toks + 1 }) (looks_clsIn X hc) ?_))))))
 rw [hd']
 refine wpAny_pure (a:=some dx) (wpAny_bind (wpAny_pure (wpAny_bind ?_)))
 unfold nsSet
 refine wpAny_bind (wpAny_bind (wpAny_askSetting (wpAny_pure (wpAny_bind (wpAny_mkText (wpAny_bind (wpAny_loadPart D ?_)))))))
 dsimp only
 have c : (!es.toArray.any (·.key.isStr a) && es.toArray.any (·.refKey)) = false:=by
  have : es.toArray.any (·.refKey) = false:=by
   rw [List.any_toArray,List.any_eq_false]
   intro e he
   refine e2a2 (hk e he) fun y t hy _a=>?_
   obtain ⟨h,k,v⟩:=e
   dsimp only at hy
   subst hy
   exact Bool.false_ne_true
  rw [this,Bool.and_false]
 rw [aRefKeyMayBeTheName_at,c]
 refine wpAny_updatePart D ?_
 refine wpAny_bind (wpAny_lookBehind D' (pastItsLine_dict (by rw [List.size_toArray,sizeLine_eq]; omega)) ?_)
 exact wpAny_pure fin
end
section
variable {G : Gd} {φ : Fz} {s : Shared} {A : Around} {E : Value→Shared→Prop} {l : Nat}
theorem b_sum {ds : List D} {is : List Int} (h : ints? ds = some is) : CallOk G l (.builtin "sum") [.list ds] [] (.int is.sum):=call1 (keep_builtin _) fun v φ s A E g R r=>by
 refine e3a3 r.iList fun a vs n er e r0=>?_
 clear r
 subst er
 revert r0; intro r
 have hi:=ints_are r h
 refine e1a1 (hi.allInts.items) fun xs e'=>?_
 have hns : is = xs.toList.map (·.1):=by rw [← hi.numsOf,← nums_intItems,← e']
 have hl:=lsO_isList (g.fin _ _ e)
 rw [e'] at hl
 refine sum_intListG R.handled hl fun h' tk t' keep=>?_
 rw [preSum_eq,List.take_of_length_le (by simp),← hns]
 exact ⟨φ,.heap g.fin keep,.int _ t'⟩
noncomputable def lstripD (c x : List Nat) : List Nat:=x.dropWhile fun k=>c.contains k
theorem drop_takeWhile {α : Type} (p : α→Bool) : ∀ x : List α,x.drop (x.takeWhile p).length = x.dropWhile p
 | []=>rfl
 | a :: x=>by
  by_cases h : p a = true
  ·rw [List.takeWhile_cons_of_pos h,List.dropWhile_cons_of_pos h,List.length_cons,List.drop_succ_cons,drop_takeWhile p x]
  ·rw [List.takeWhile_cons_of_neg h,List.dropWhile_cons_of_neg h]; rfl
theorem b_lstrip {x c : List Nat} (hz : x.length≤lim) : CallOk G l (.builtin "str.lstrip") [.str x,.str c] [] (.str (lstripD c x)):=call2 (keep_builtin _) fun v w φ s A E g R r r'=>by
 refine e1a1 r.iStr fun t er=>?_
 clear r
 subst er
 refine e1a1 r'.iStr fun u er2=>?_
 clear r'
 subst er2
 unfold lim at hz
 refine SC.lstripChars (hsz:=by rw [str_len,sizeLine_eq]; lia) fun t' k=>?_
 have : Txt.lstripChars ⟨x.toArray⟩ ⟨c.toArray⟩ = ⟨(lstripD c x).toArray⟩:=by
  unfold Txt.lstripChars
  rw [PyProof.Rows.stripBy_eq]
  unfold PySem.stripLo PySem.stripHi Builtin.Str.strSub lstripD
  rw [if_pos rfl,if_neg (by simp)]
  have : (fun k=>c.contains k) = (⟨c.toArray⟩ : Str).cps.contains:=by funext k; simp
  rw [← drop_takeWhile,this]
  apply congrArg Str.mk
  apply Array.ext'
  rw [str_len]
  simp [List.extract_eq_take_drop]
  exact List.take_of_length_le (by rw [List.length_drop]; lia)
 rw [this]
 exact EP.tk g.fin (.str _ _)
noncomputable def findI (x : List Nat) (c : Nat) : Int:=if c∈x then ((x.idxOf c : Nat) : Int) else -1
theorem find_one (x : List Nat) (c : Nat) : Txt.find ⟨x.toArray⟩ ⟨[c].toArray⟩ = findI x c:=by
 rw [PyProof.Rows.find_is_find3]
 have gd : ∀ v,(x.toArray).getD v 0 = x[v]?.getD 0:=fun v=>by simp [Array.getD_eq_getD_getElem?]
 have f0 : fromIndex (⟨x.toArray⟩ : Str).length 0 = 0:=by unfold fromIndex; simp
 unfold findI
 rcases StrLaws.find3_spec ⟨x.toArray⟩ c 0 with ⟨h1,h2⟩ | ⟨k,h1,_,h3,h4,h5⟩
 ·refine h1.trans (if_neg fun hm=>?_).symm
  have hk:=List.idxOf_lt_length_of_mem hm
  refine h2 (x.idxOf c) (by rw [f0]; exact Nat.zero_le _) (by rw [str_len]; exact hk) ?_
  rw [gd,List.getElem?_eq_getElem hk]; exact List.getElem_idxOf hk
 ·rw [str_len] at h3
  rw [gd,List.getElem?_eq_getElem h3] at h4
  have h4 : x[k] = c:=h4
  have hm : c∈x:=h4 ▸ List.getElem_mem h3
  have hk:=List.idxOf_lt_length_of_mem hm
  rw [if_pos hm]
  refine h1.trans (congrArg (fun n : Nat=>(n : Int)) ?_)
  refine Nat.le_antisymm (Nat.not_lt.mp fun z=>?_) (Nat.not_lt.mp fun z=>?_)
  ·refine h5 (x.idxOf c) (by rw [f0]; exact Nat.zero_le _) z ?_
   rw [gd,List.getElem?_eq_getElem hk]; exact List.getElem_idxOf hk
  ·have:=List.not_of_lt_findIdx (p:=(· == c)) (xs:=x) z
   simp [h4] at this
theorem b_find {x : List Nat} {c : Nat} : CallOk G l (.builtin "str.find") [.str x,.str [c]] [] (.int (findI x c)):=call2 (keep_builtin _) fun v w φ s A E g R r r'=>by
 refine e1a1 r.iStr fun t er=>?_
 clear r
 subst er
 refine e1a1 r'.iStr fun u er2=>?_
 clear r'
 subst er2
 refine SC.find ?_
 rw [find_one]
 exact EP.tk g.fin (.int _ _)
end
noncomputable def a1 : List D→Option D
 | [a]=>some a
 | _=>none
noncomputable def a2 : List D→Option (D×D)
 | [a,b]=>some (a,b)
 | _=>none
theorem a1_inv {ds : List D} {d : D} (h : a1 ds = some d) : ds = [d]:=by
 match ds,h with
 | [],h=>exact no_none h
 | [_],h=>rw [some_inv h]
 | _ :: _ :: _,h=>exact no_none h
theorem a2_inv {ds : List D} {d : D×D} (h : a2 ds = some d) : ds = [d.1,d.2]:=by
 match ds,h with
 | [],h=>exact no_none h
 | [_],h=>exact no_none h
 | [_,_],h=>rw [some_inv h]
 | _ :: _ :: _ :: _,h=>exact no_none h
noncomputable def lenO : D→Option Nat
 | .list x=>some x.length
 | .str x=>some x.length
 | .tup x=>some x.length
 | .bytes x=>some x.length
 | _=>none
noncomputable def lenD (ds : List D) : Option D:=o1 (fun d=>o1 (fun n=>if n≤lim then some (.int n) else none) (lenO d)) (a1 ds)
noncomputable def maxD : List D→Option D
 | [d]=>o1 (fun x=>o1 (fun is=>if 0 < is.length then some (.int (maxI is)) else none) (ints? x)) (lstD d)
 | [d,e]=>o2 (fun a b=>some (.int (if b > a then b else a))) (intD d) (intD e)
 | _=>none
noncomputable def sumD (ds : List D) : Option D:=o1 (fun d=>o1 (fun x=>o1 (fun is=>some (.int is.sum)) (ints? x)) (lstD d)) (a1 ds)
noncomputable def chrD (ds : List D) : Option D:=o1 (fun d=>o1 (fun i=>if 0≤i∧i < 1000 then some (.str [i.toNat]) else none) (intD d)) (a1 ds)
noncomputable def isiD (ds : List D) : Option D:=o1 (fun p=>o2 (fun _a v=>o1 (fun n=>if n = "str" then some (.bool true) else none) (typN v)) (strD p.1) (valD p.2)) (a2 ds)
noncomputable def joinD (ds : List D) : Option D:=o1 (fun p=>o2 (fun e x=>o1 (fun xs=>if e = []∧xs.flatten.length≤lim then some (.str xs.flatten) else none) (strs? x)) (strD p.1) (lstD p.2)) (a2 ds)
noncomputable def splitD (ds : List D) : Option D:=o1 (fun p=>o2 (fun x y=>o1 (fun c=>if x.length≤100000 then some (.list ((splitAt c x).map .str)) else none) (oneC y)) (strD p.1) (strD p.2)) (a2 ds)
noncomputable def encodeD (ds : List D) : Option D:=o1 (fun p=>o2 (fun x y=>if y = wAscii∧(∀ c∈x,c < 128)∧x.length≤lim then some (.bytes (x.map (·.toUInt8))) else none) (strD p.1) (strD p.2)) (a2 ds)
noncomputable def lstripF (ds : List D) : Option D:=o1 (fun p=>o2 (fun x c=>if x.length≤lim then some (.str (lstripD c x)) else none) (strD p.1) (strD p.2)) (a2 ds)
noncomputable def findD (ds : List D) : Option D:=o1 (fun p=>o2 (fun x y=>o1 (fun c=>some (.int (findI x c))) (oneC y)) (strD p.1) (strD p.2)) (a2 ds)
noncomputable def maketransD (ds : List D) : Option D:=o1 (fun p=>o2 (fun a b=>if a.length = b.length then some (.bytes (mkTab a b)) else none) (bytD p.1) (bytD p.2)) (a2 ds)
noncomputable def translateD (ds : List D) : Option D:=o1 (fun p=>o2 (fun x t=>if t.length = 256∧x.length≤lim then some (.bytes (trans x t)) else none) (bytD p.1) (bytD p.2)) (a2 ds)
noncomputable def typO : D→Option String
 | .str _=>some "str"
 | .bytes _=>some "bytes"
 | .bool _=>some "bool"
 | _=>none
noncomputable def typeD (ds : List D) : Option D:=o1 (fun d=>o1 (fun n=>some (.val (.type n))) (typO d)) (a1 ds)
noncomputable def rangeD : List D→Option D
 | [d]=>o1 (fun n=>some (.rng 0 n 1)) (intD d)
 | [d,e]=>o2 (fun a b=>some (.rng a b 1)) (intD d) (intD e)
 | [d,e,f]=>o2 (fun a b=>o1 (fun c=>if c = -1 then some (.rng a b (-1)) else none) (intD f)) (intD d) (intD e)
 | _=>none
noncomputable def bytesD (ds : List D) : Option D:=o1 (fun d=>o1 (fun x=>o1 (fun is=>if (∀ n∈is,0≤n∧n < 256)∧x.length≤lim then some (.bytes (is.map fun n=>n.toNat.toUInt8)) else none) (ints? x)) (lstD d)) (a1 ds)
noncomputable def tupleD (ds : List D) : Option D:=o1 (fun d=>o1 (fun x=>if x.length≤lim then some (.tup x) else none) (lstD d)) (a1 ds)
noncomputable def biT : List (String×(List D→Option D)) :=
 [("len",lenD),("max",maxD),("sum",sumD),("chr",chrD),("isinstance",isiD),
  ("str.join",joinD),("str.split",splitD),("str.encode",encodeD),
  ("str.find",findD),
  ("str.lstrip",lstripF),("bytes.maketrans",maketransD),("bytes.translate",translateD)]
noncomputable def tyT : List (String×(List D→Option D)):=[("type",typeD),("range",rangeD),("bytes",bytesD),("tuple",tupleD)]
noncomputable def inT (T : List (String×(List D→Option D))) (id : String) (ds : List D) : Option D:=match T.lookup id with
 | some f=>f ds
 | none=>none
noncomputable def bi (id : String) (ds : List D) : Option D:=inT biT id ds
noncomputable def ty (id : String) (ds : List D) : Option D:=inT tyT id ds
theorem inT_ok {R : String→List D→D→Prop} {ds : List D} {d : D} {T : List (String×(List D→Option D))} {id : String} (k : ∀ p∈T,p.2 ds = some d→R p.1 ds d) (h : inT T id ds = some d) : R id ds d:=by
 unfold inT at h
 cases hl : T.lookup id with
 | none=>rw [hl] at h; exact no_none h
 | some f =>
  rw [hl] at h
  have : ∀ {T : List (String×(List D→Option D))},T.lookup id = some f→(id,f)∈T:=fun {T} e=>by
   induction T with
   | nil=>cases e
   | cons p T ih =>
    rw [List.lookup_cons] at e
    cases q : id == p.1 with
    | true=>rw [q] at e; rw [eq_of_beq q,← some_inv e.symm]; exact List.mem_cons_self
    | false=>rw [q] at e; exact List.mem_cons_of_mem _ (ih e)
  exact k _ (this hl) h
noncomputable def fnB (f : Value) (ds : List D) (ks : List (Str×D)) : Option D:=match f,ks with
 | .builtin id,[]=>bi id ds
 | .type id,[]=>ty id ds
 | _,_=>none
section
variable {G : Gd} {l : Nat}
theorem c_len {ds : List D} {d : D} (h : lenD ds = some d) : CallOk G l (.builtin "len") ds [] d:=by
 refine o1_e h fun e he h=>?_
 rw [a1_inv he]
 induction e using Mine.D.casesOn <;> first | exact no_none h | skip
 all_goals
  refine o1_e h fun n hn h=>?_
  refine oif_e h fun q h=>?_
  have qq:=some_inv hn; subst qq
  refine some_e h ?_
 ·exact b_len_str q
 ·exact b_len_bytes q
 ·exact b_len_list q
 ·exact b_len_tup q
theorem c_max {ds : List D} {d : D} (h : maxD ds = some d) : CallOk G l (.builtin "max") ds [] d:=by
 match ds,h with
 | [],h=>exact no_none h
 | _ :: _ :: _ :: _,h=>exact no_none h
 | [_],h =>
  refine o1_e h fun x hx h=>?_
  refine o1_e h fun is hi h=>?_
  refine oif_e h fun q h=>?_
  rw [lstD_inv hx,some_inv h]
  exact b_maxL hi q
 | [_,_],h =>
  refine o2_e h fun a b ha hb h=>?_
  rw [intD_inv ha,intD_inv hb,some_inv h]
  exact b_max2
theorem c_sum {ds : List D} {d : D} (h : sumD ds = some d) : CallOk G l (.builtin "sum") ds [] d:=by
 refine o1_e h fun e he h=>?_
 refine o1_e h fun x hx h=>?_
 refine o1_e h fun is hi h=>?_
 rw [a1_inv he,lstD_inv hx,some_inv h]
 exact b_sum hi
theorem c_chr {ds : List D} {d : D} (h : chrD ds = some d) : CallOk G l (.builtin "chr") ds [] d:=by
 refine o1_e h fun e he h=>?_
 refine o1_e h fun x hx h=>?_
 refine oif_e h fun q h=>?_
 rw [a1_inv he,intD_inv hx,some_inv h]
 exact b_chr q
theorem c_isi {ds : List D} {d : D} (h : isiD ds = some d) : CallOk G l (.builtin "isinstance") ds [] d:=by
 refine o1_e h fun e he h=>?_
 refine o2_e h fun x v hx hv h=>?_
 refine o1_e h fun n hn h=>?_
 refine oif_e h fun q h=>?_
 rw [a2_inv he,strD_inv hx,valD_inv hv,typN_inv hn,q,some_inv h]
 exact b_isi_str
theorem c_join {ds : List D} {d : D} (h : joinD ds = some d) : CallOk G l (.builtin "str.join") ds [] d:=by
 refine o1_e h fun e he h=>?_
 refine o2_e h fun x y hx hy h=>?_
 refine o1_e h fun xs hi h=>?_
 refine oif_e h fun q h=>?_
 rw [a2_inv he,strD_inv hx,lstD_inv hy,some_inv h,q.1]
 exact b_join hi q.2
theorem c_split {ds : List D} {d : D} (h : splitD ds = some d) : CallOk G l (.builtin "str.split") ds [] d:=by
 refine o1_e h fun e he h=>?_
 refine o2_e h fun x y hx hy h=>?_
 refine o1_e h fun c hc h=>?_
 refine oif_e h fun q h=>?_
 rw [a2_inv he,strD_inv hx,strD_inv hy,oneC_inv hc,some_inv h]
 exact b_split q
theorem c_enc {ds : List D} {d : D} (h : encodeD ds = some d) : CallOk G l (.builtin "str.encode") ds [] d:=by
 refine o1_e h fun e he h=>?_
 refine o2_e h fun x y hx hy h=>?_
 refine oif_e h fun q h=>?_
 rw [a2_inv he,strD_inv hx,strD_inv hy,q.1,some_inv h]
 exact b_encode q.2.1 q.2.2
theorem c_lst {ds : List D} {d : D} (h : lstripF ds = some d) : CallOk G l (.builtin "str.lstrip") ds [] d:=by
 refine o1_e h fun e he h=>?_
 refine o2_e h fun x y hx hy h=>?_
 refine oif_e h fun q h=>?_
 rw [a2_inv he,strD_inv hx,strD_inv hy,some_inv h]
 exact b_lstrip q
theorem c_fnd {ds : List D} {d : D} (h : findD ds = some d) : CallOk G l (.builtin "str.find") ds [] d:=by
 refine o1_e h fun e he h=>?_
 refine o2_e h fun x y hx hy h=>?_
 refine o1_e h fun c hc h=>?_
 rw [a2_inv he,strD_inv hx,strD_inv hy,oneC_inv hc,some_inv h]
 exact b_find
theorem c_mkt {ds : List D} {d : D} (h : maketransD ds = some d) : CallOk G l (.builtin "bytes.maketrans") ds [] d:=by
 refine o1_e h fun e he h=>?_
 refine o2_e h fun x y hx hy h=>?_
 refine oif_e h fun q h=>?_
 rw [a2_inv he,bytD_inv hx,bytD_inv hy,some_inv h]
 exact b_maketrans q
theorem c_tra {ds : List D} {d : D} (h : translateD ds = some d) : CallOk G l (.builtin "bytes.translate") ds [] d:=by
 refine o1_e h fun e he h=>?_
 refine o2_e h fun x y hx hy h=>?_
 refine oif_e h fun q h=>?_
 rw [a2_inv he,bytD_inv hx,bytD_inv hy,some_inv h]
 exact b_translate q.1 q.2
theorem bi_ok {id : String} {ds : List D} {d : D} (h : bi id ds = some d) : CallOk G l (.builtin id) ds [] d:=by
 refine inT_ok (R:=fun id ds d=>CallOk G l (.builtin id) ds [] d) (T:=biT) (fun p hp=>?_) h
 clear h
 have go:=fun {p q : String×(List D→Option D)} {T : List (String×(List D→Option D))} (hp : p∈q :: T) (h : q.2 ds = some d→CallOk G l (.builtin q.1) ds [] d) (k : p∈T→p.2 ds = some d→CallOk G l (.builtin p.1) ds [] d)=>(List.mem_cons.mp hp).elim (fun e=>e ▸ h) k
 exact go hp c_len fun hp=>go hp c_max fun hp=>go hp c_sum fun hp=>go hp c_chr fun hp=>go hp c_isi fun hp =>
  go hp c_join fun hp=>go hp c_split fun hp=>go hp c_enc fun hp =>
  go hp c_fnd fun hp =>
  go hp c_lst fun hp=>go hp c_mkt fun hp=>go hp c_tra fun hp=>no_mem hp
theorem t_type {ds : List D} {d : D} (h : typeD ds = some d) : CallOk G l (.type "type") ds [] d:=by
 refine o1_e h fun e he h=>?_
 refine o1_e h fun n hn h=>?_
 rw [a1_inv he,some_inv h]
 induction e using Mine.D.casesOn <;> first | exact no_none hn | (have qq:=some_inv hn; subst qq)
 ·exact b_type_bool
 ·exact b_type_str
 ·exact b_type_bytes
theorem t_range {ds : List D} {d : D} (h : rangeD ds = some d) : CallOk G l (.type "range") ds [] d:=by
 match ds,h with
 | [],h=>exact no_none h
 | _ :: _ :: _ :: _ :: _,h=>exact no_none h
 | [_,_,_],h =>
  refine o2_e h fun a b ha hb h=>?_
  refine o1_e h fun c hc h=>?_
  refine oif_e h fun q h=>?_
  subst q
  rw [intD_inv ha,intD_inv hb,intD_inv hc,some_inv h]
  exact b_range3
 | [_],h =>
  refine o1_e h fun x hx h=>?_
  rw [intD_inv hx,some_inv h]
  exact b_range1
 | [_,_],h =>
  refine o2_e h fun a b ha hb h=>?_
  rw [intD_inv ha,intD_inv hb,some_inv h]
  exact b_range2
theorem t_bytes {ds : List D} {d : D} (h : bytesD ds = some d) : CallOk G l (.type "bytes") ds [] d:=by
 refine o1_e h fun e he h=>?_
 refine o1_e h fun x hx h=>?_
 refine o1_e h fun is hi h=>?_
 refine oif_e h fun q h=>?_
 rw [a1_inv he,lstD_inv hx,some_inv h]
 exact b_bytes hi q.1 q.2
theorem t_tuple {ds : List D} {d : D} (h : tupleD ds = some d) : CallOk G l (.type "tuple") ds [] d:=by
 refine o1_e h fun e he h=>?_
 refine o1_e h fun x hx h=>?_
 refine oif_e h fun q h=>?_
 rw [a1_inv he,lstD_inv hx,some_inv h]
 exact b_tuple q
theorem ty_ok {id : String} {ds : List D} {d : D} (h : ty id ds = some d) : CallOk G l (.type id) ds [] d:=by
 refine inT_ok (R:=fun id ds d=>CallOk G l (.type id) ds [] d) (T:=tyT) (fun p hp=>?_) h
 clear h
 have go:=fun {p q : String×(List D→Option D)} {T : List (String×(List D→Option D))} (hp : p∈q :: T) (h : q.2 ds = some d→CallOk G l (.type q.1) ds [] d) (k : p∈T→p.2 ds = some d→CallOk G l (.type p.1) ds [] d)=>(List.mem_cons.mp hp).elim (fun e=>e ▸ h) k
 exact go hp t_type fun hp=>go hp t_range fun hp=>go hp t_bytes fun hp=>go hp t_tuple fun hp=>no_mem hp
theorem fnB_ok {f : Value} {ds : List D} {ks : List (Str×D)} {d : D} (h : fnB f ds ks = some d) : CallOk G l f ds ks d:=by
 unfold fnB at h
 split at h
 ·exact bi_ok h
 ·exact ty_ok h
 ·exact no_none h
theorem CallOk.mono {l k : Nat} {f : Value} {ds : List D} {ks : List (Str×D)} {d : D} (h : CallOk G l f ds ks d) (q : l≤k) : CallOk G k f ds ks d :=
 ⟨h.keep,fun vs kvs φ s A E g R r rk=>h.run vs kvs φ s A E g (R.le q) r rk⟩
end
noncomputable def bodyOf (fd : FuncData) : List Stmt:=match fd.body with
 | .stmts b=>b
 | _=>[]
structure Df where
 fd : FuncData
 bind : List D→List (Str×D)→Option (List (Str×D))
structure Cf where
 fd : FuncData
 self : Str
 bind : List D→Option (List (Str×D))
structure Tab where
 gl : Str→Option D
 mt : D→Str→Option (Value×List D)
 att : D→Str→Option D
 st : Addr→Str→Bool
 df : Addr→Option Df
 cf : Addr→Option Cf
set_option tactic.hygienic true in
noncomputable abbrev outK : SR→Option D
 | .ret d=>some d
 | .next _=>some .none
 | _=>none
noncomputable def outD : Option SR→Option D:=o1 outK
set_option tactic.hygienic true in
theorem outD_inv {z : Option SR} {d : D} (h : outD z = some d) : (∃ ρ,z = some (.next ρ)∧d = .none)∨z = some (.ret d):=by
 refine o1_e h fun r e h=>?_
 induction r using Mine.SR.casesOn <;> first | exact no_none h | exact .inl ⟨_,e,some_inv h⟩ | exact .inr (by rw [e,some_inv h])
noncomputable def depN : Nat:=12
noncomputable def runD (P : Pg) (fd : FuncData) (bd : List (Str×D)) : Option D:=outD (exN P depN fd.scope (rho0 (bindsD bd) fd.scope.names) (bodyOf fd))
set_option tactic.hygienic true in
noncomputable def Lays (P : Pg) (C : Addr) (c : Cf) (bd : List (Str×D)) (fs : List (Str×D)) : Prop :=
 ∀ y,∃ ρ',exN P depN c.fd.scope (rho0 (bindsI y C c.self bd) c.fd.scope.names) (bodyOf c.fd) = some (.next ρ')∧ρ'.lookup c.self = some (.oi y C fs)
open Classical in
noncomputable def runC (P : Pg) (C : Addr) (c : Cf) (bd : List (Str×D)) : Option D:=if h : ∃ fs,Lays P C c bd fs then some (.inst C h.choose) else none
theorem Lays.one {P : Pg} {C : Addr} {c : Cf} {bd : List (Str×D)} {fs fs' : List (Str×D)} (h : Lays P C c bd fs) (h' : Lays P C c bd fs') : fs = fs':=by
 refine e1a2 (h 0) fun ρ e1 e2=>?_
 refine e1a2 (h' 0) fun ρ' e1' e2'=>?_
 rw [e1] at e1'; cases e1'
 rw [e2] at e2'; cases e2'; rfl
theorem runC_eq {P : Pg} {C : Addr} {c : Cf} {bd : List (Str×D)} {fs : List (Str×D)} (h : Lays P C c bd fs) : runC P C c bd = some (.inst C fs):=by
 unfold runC
 rw [dif_pos ⟨fs,h⟩]
 have:=(Classical.choose_spec (⟨fs,h⟩ : ∃ fs,Lays P C c bd fs)).one h
 exact congrArg (fun z=>some (D.inst C z)) this
noncomputable def fnR (T : Tab) (P : Pg) (a : Addr) (ds : List D) (ks : List (Str×D)) : Option D:=match T.df a with
 | some x=>o1 (runD P x.fd) (x.bind ds ks)
 | none=>o1 (fun c=>if isNil ks = true then o1 (runC P a c) (c.bind ds) else none) (T.cf a)
noncomputable def refA : Value→Option Addr
 | .ref a=>some a
 | _=>none
theorem refA_inv {v : Value} {a : Addr} (h : refA v = some a) : v = .ref a:=by
 induction v using PySem.Value.casesOn <;> first | exact no_none h | rw [some_inv h]
noncomputable def fnU (T : Tab) (P : Pg) (f : Value) (ds : List D) (ks : List (Str×D)) : Option D:=match refA f with
 | some a=>fnR T P a ds ks
 | none=>fnB f ds ks
noncomputable def PN (T : Tab) : Nat→Pg
 | 0=>⟨T.gl,fnB,T.mt,T.att,T.st⟩
 | n + 1=>⟨T.gl,fnU T (PN T n),T.mt,T.att,T.st⟩
structure DfOk (G : Gd) (a : Addr) (x : Df) : Prop where
 at' : DefAt G a x.fd (bodyOf x.fd)
 bd : ∀ ds ks bd,x.bind ds ks = some bd→(∀ φ vs kvs (s : Shared),RepL φ vs ds→RepK φ kvs ks→Gnd G φ s→∃ binds,BindsTo s x.fd ⟨vs,kvs⟩ binds∧RepK φ binds bd)∧(∀ y∈bd,∃ k,(y.1,k)∈x.fd.scope.names∧(k = .local∨k = .cell))
structure CfOk (G : Gd) (K : Frag) (C : Addr) (c : Cf) (a : Addr) : Prop where
 hm : makesIn K C = true
 hi : findIn K (.ref C) "__init__" = some (some (.ref a))
 hf : isFn K (.ref a) = true
 hk : KeepOk G (.ref C)
 at' : DefAt G a c.fd (bodyOf c.fd)
 hn : ∃ k,(c.self,k)∈c.fd.scope.names∧(k = .local∨k = .cell)
 bd : ∀ ds bd,c.bind ds = some bd→(∀ φ x vs (s : Shared),RepL φ vs ds→Gnd G φ s→∃ binds,BindsTo s c.fd ⟨.ref x :: vs,[]⟩ ((c.self,.ref x) :: binds)∧RepK φ binds bd) ∧
  (∀ p∈bd,p.1≠c.self)∧(∀ x∈bd,∃ k,(x.1,k)∈c.fd.scope.names∧(k = .local∨k = .cell))
structure TabOk (G : Gd) (K : Frag) (T : Tab) : Prop where
 gl : ∀ x d,T.gl x = some d→GlOk G x d
 mt : ∀ l d x f fs,T.mt d x = some (f,fs)→MtOk G l d x f fs
 att : ∀ l d x e,T.att d x = some e→AttOk G l d x e
 st : ∀ C a,T.st C a = true→StOk G C a
 df : ∀ a x,T.df a = some x→DfOk G a x
 cf : ∀ C c,T.cf C = some c→∃ a,CfOk G K C c a
theorem PN_ok {G : Gd} {K : Frag} {mg mb : Str→Option Value} {T : Tab} (B : Bs G K mg mb) (O : TabOk G K T) (n : Nat) : POk G (2 * n) (PN T n):=by
 induction n with
 | zero=>exact ⟨O.gl,fun f ds ks d h=>fnB_ok h,O.mt _,O.att _,O.st⟩
 | succ n ih =>
  refine ⟨O.gl,fun f ds ks d h=>?_,O.mt _,O.att _,O.st⟩
  replace h : fnU T (PN T n) f ds ks = some d:=h
  unfold fnU at h
  generalize hf : refA f = r_; induction r_ using Option.casesOn with
  | none=>rw [hf] at h; exact fnB_ok h
  | some a =>
   rw [hf] at h
   rw [refA_inv hf]
   replace h : fnR T (PN T n) a ds ks = some d:=h
   unfold fnR at h
   generalize hx : T.df a = r_; induction r_ using Option.casesOn with
   | some x =>
    rw [hx] at h
    refine o1_e h fun bd hb h=>?_
    have q:=O.df a x hx
    refine e0a2 (q.bd _ _ _ hb) fun h1 h2=>?_
    refine CallOk.mono (l:=2 * n + 1) (def_ok (n:=depN) ih B.lim q.at' h1 h2 ?_) (by omega)
    exact (outD_inv h).imp (fun z=>z) fun z=>z
   | none =>
    rw [hx] at h
    refine o1_e h fun c hc h=>?_
    refine oif_e h fun hk g=>?_
    refine o1_e g fun bd hb g2=>?_
    have qq:=isNil_inv hk; subst qq
    refine e1a1 (O.cf a c hc) fun a' q=>?_
    refine e0a3 (q.bd _ _ hb) fun h1 h2 h3=>?_
    unfold runC at g2
    by_cases hl : ∃ fs,Lays (PN T n) a c bd fs
    ·rw [dif_pos hl] at g2
     refine some_e g2 ?_
     exact cls_ok (n:=depN) B ih q.hm q.hi q.hf q.hk q.at' h1 h2 q.hn h3 (Classical.choose_spec hl)
    ·rw [dif_neg hl] at g2; exact no_none g2
noncomputable def pr0 : Params:={ strHash:=fun _a=>0,shareClass:=id,mergeTok:=id,idOf:=fun _a=>0,idOfShared:=fun _a _a=>0,followText:=fun _a=>true,idOfImm:=fun _a=>0 }
noncomputable def fdAt (K : Frag) (a : Addr) : FuncData:=match K.lookup a with
 | some ⟨_,_,.func fd,_⟩=>fd
 | _=>default
noncomputable def zipN : List Str→List D→Option (List (Str×D))
 | [],[]=>some []
 | x :: xs,d :: ds=>o1 (fun r=>some ((x,d) :: r)) (zipN xs ds)
 | [],_ :: _=>none
 | _ :: _,[]=>none
noncomputable def bnP (xs : List Str) (ds : List D) (ks : List (Str×D)) : Option (List (Str×D)):=if isNil ks = true then zipN xs ds else none
noncomputable def k1 : List (Str×D)→Option (Str×D)
 | [p]=>some p
 | _=>none
theorem k1_inv {ks : List (Str×D)} {p : Str×D} (h : k1 ks = some p) : ks = [p]:=by
 match ks,h with
 | [],h=>exact no_none h
 | [_],h=>rw [some_inv h]
 | _ :: _ :: _,h=>exact no_none h
noncomputable def bnK (x y : Str) (ds : List D) (ks : List (Str×D)) : Option (List (Str×D)):=o2 (fun a p=>if p.1 = y then some [(x,a),(y,p.2)] else none) (a1 ds) (k1 ks)
noncomputable def bnD (x y : Str) (ds : List D) (ks : List (Str×D)) : Option (List (Str×D)):=match ds with
 | [a]=>if isNil ks = true then some [(x,a),(y,.none)] else none
 | ds=>bnP [x,y] ds ks
noncomputable def bnF (x y z : Str) (ds : List D) (ks : List (Str×D)) : Option (List (Str×D)):=o1 (fun p=>if isNil ks = true then some [(x,p.1),(y,p.2),(z,.bool false)] else none) (a2 ds)
section
variable {G : Gd} {K : Frag} {mg mb : Str→Option Value}
theorem keepOk_fn (B : Bs G K mg mb) {a : Addr} {oc : Value} {od : Option Addr} {fd : FuncData} {sl : Array (Option Value)} (h : K.lookup a = some ⟨oc,od,.func fd,sl⟩) : KeepOk G (.ref a) :=
 ⟨.frame,.inr rfl,fun M=>(Looks.ld (part:=none) (B.X _ _ h)).andThen .now⟩
theorem keepOk_cls (B : Bs G K mg mb) {a : Addr} {oc : Value} {od : Option Addr} {cd : ClassData} {sl : Array (Option Value)} (h : K.lookup a = some ⟨oc,od,.cls cd,sl⟩) (e : specialIn K (.ref a) "__call__" = some (some (.builtin "type.__call__"))) : KeepOk G (.ref a) :=
 ⟨.machine,.inl rfl,fun M=>(Looks.ld (part:=none) (B.X _ _ h)).andThen ((looks_specialIn B.X e).andThen .now)⟩
theorem defAt_K (B : Bs G K mg mb) {a : Addr} {oc : Value} {od : Option Addr} {fd : FuncData} {sl : Array (Option Value)} (h : K.lookup a = some ⟨oc,od,.func fd,sl⟩) (F : FdOk fd (bodyOf fd)) (hc : codeIn K fd.code fd.qualname = true) : DefAt G a fd (bodyOf fd) :=
 ⟨F,⟨_,B.X _ _ h,rfl⟩,codeRec_of B.X hc,keepOk_fn B h⟩
theorem bind_K (B : Bs G K mg mb) {φ : Fz} {s : Shared} (g : Gnd G φ s) {fd : FuncData} {args : Args} {binds : List (Str×Value)} (e : ∀ S,peek K S (bindArgs fd args) = some binds) : BindsTo s fd args binds:=kp_binds (B.In g) e
noncomputable def nmsOk (names : List (Str×NameKind)) (xs : List Str) : Bool:=xs.all fun x=>names.any fun p=>p.1 == x && (p.2 == .local || p.2 == .cell)
theorem nmsOk_of {names : List (Str×NameKind)} {xs : List Str} (h : nmsOk names xs = true) {bd : List (Str×D)} (e : bd.map (·.1) = xs) : ∀ y∈bd,∃ k,(y.1,k)∈names∧(k = .local∨k = .cell):=fun y hy=>by
 have:=List.all_eq_true.mp h y.1 (e ▸ List.mem_map.mpr ⟨y,hy,rfl⟩)
 refine e1a2 (List.any_eq_true.mp this) fun p hp q=>?_
 refine e0a2 (Bool.and_eq_true_iff.mp q) fun q1 q2=>?_
 have q1:=beq_iff_eq.mp q1
 refine ⟨p.2,by rw [← q1]; exact hp,?_⟩
 rcases Bool.or_eq_true_iff.mp q2 with z | z
 ·exact .inl (by simpa using z)
 ·exact .inr (by simpa using z)
theorem repK_one {φ : Fz} {x : Str} {v : Value} {d : D} (h : Rep φ v d) : RepK φ [(x,v)] [(x,d)]:=⟨rfl,.cons h .nil⟩
theorem repK_cons {φ : Fz} {x : Str} {v : Value} {d : D} {vs : List (Str×Value)} {ds : List (Str×D)} (h : Rep φ v d) (r : RepK φ vs ds) : RepK φ ((x,v) :: vs) ((x,d) :: ds):=⟨by rw [List.map_cons,List.map_cons,r.1],.cons h r.2⟩
theorem repK_nil' {φ : Fz} : RepK φ [] []:=⟨rfl,.nil⟩
section
variable {fd : FuncData} {a : Addr}
theorem zipN_ok {φ : Fz} {xs : List Str} {vs : List Value} {ds : List D} {bd : List (Str×D)} (h : zipN xs ds = some bd) (r : RepL φ vs ds) : vs.length = xs.length∧RepK φ (xs.zip vs) bd:=by
 induction xs generalizing vs ds bd with
 | nil=>induction ds using List.casesOn with
  | nil=>refine some_e h ?_; rw [r.iNil]; exact ⟨rfl,repK_nil'⟩
  | cons d ds=>exact no_none h
 | cons x xs ih=>induction ds using List.casesOn with
  | nil=>exact no_none h
  | cons d ds =>
   refine o1_e h fun bd' h1 h=>?_
   refine r.sCons fun v ws r1 rs=>?_
   refine e0a2 (ih h1 rs) fun e1 e3=>?_
   refine some_e h ?_
   exact ⟨congrArg Nat.succ e1,repK_cons r1 e3⟩
theorem dfG (B : Bs G K mg mb) {xs : List Str} {bind : List D→List (Str×D)→Option (List (Str×D))} (D₀ : DefAt G a fd (bodyOf fd)) (hn : nmsOk fd.scope.names xs = true)
  (h : ∀ ds ks bd,bind ds ks = some bd→bd.map (·.1) = xs∧∀ φ vs kvs,RepL φ vs ds→RepK φ kvs ks→∃ binds,(∀ S,peek K S (bindArgs fd ⟨vs,kvs⟩) = some binds)∧RepK φ binds bd) : DfOk G a ⟨fd,bind⟩ :=
 ⟨D₀,fun ds ks bd e=>⟨fun φ vs kvs s r rk g=>((h ds ks bd e).2 φ vs kvs r rk).elim fun binds q=>⟨binds,bind_K B g q.1,q.2⟩,nmsOk_of hn (h ds ks bd e).1⟩⟩
theorem repK_iNil {φ : Fz} {kvs : List (Str×Value)} (h : RepK φ kvs []) : kvs = []:=List.map_eq_nil_iff.mp h.1
theorem zipN_names {xs : List Str} {ds : List D} {bd : List (Str×D)} (h : zipN xs ds = some bd) : bd.map (·.1) = xs:=by
 induction xs generalizing ds bd with
 | nil=>induction ds using List.casesOn with
  | nil=>refine some_e h ?_; rfl
  | cons d ds=>exact no_none h
 | cons x xs ih=>induction ds using List.casesOn with
  | nil=>exact no_none h
  | cons d ds =>
   refine o1_e h fun bd' h1 h=>?_
   refine some_e h ?_
   exact congrArg (x :: ·) (ih h1)
theorem bnP_ok {xs : List Str} (e : ∀ vs : List Value,vs.length = xs.length→∀ S,peek K S (bindArgs fd ⟨vs,[]⟩) = some (xs.zip vs)) {ds : List D} {ks : List (Str×D)} {bd : List (Str×D)} (h : bnP xs ds ks = some bd) :
  bd.map (·.1) = xs∧∀ φ vs kvs,RepL φ vs ds→RepK φ kvs ks→∃ binds,(∀ S,peek K S (bindArgs fd ⟨vs,kvs⟩) = some binds)∧RepK φ binds bd:=by
 refine oif_e h fun hk h=>?_
 have qq:=isNil_inv hk; subst qq
 refine ⟨zipN_names h,fun φ vs kvs r rk=>?_⟩
 refine e0a2 (zipN_ok h r) fun e1 e3=>?_
 have qq:=repK_iNil rk; subst qq
 exact ⟨_,e vs e1,e3⟩
theorem dfP (B : Bs G K mg mb) {xs : List Str} (D₀ : DefAt G a fd (bodyOf fd)) (hn : nmsOk fd.scope.names xs = true) (e : ∀ vs : List Value,vs.length = xs.length→∀ S,peek K S (bindArgs fd ⟨vs,[]⟩) = some (xs.zip vs)) : DfOk G a ⟨fd,bnP xs⟩ :=
 dfG B D₀ hn fun ds ks bd h=>bnP_ok e h
theorem of0 {α : Type} {P : List α→Prop} (h : P []) : ∀ vs,vs.length = 0→P vs:=fun vs e=>List.length_eq_zero_iff.mp e ▸ h
theorem ofS {n : Nat} {α : Type} {P : List α→Prop} (h : ∀ v vs,vs.length = n→P (v :: vs)) : ∀ vs,vs.length = n + 1→P vs:=fun vs=>by
 induction vs using List.casesOn with
 | nil=>exact fun e=>(Nat.zero_ne_add_one n e).elim
 | cons v vs=>exact fun e=>h v vs (Nat.succ.inj e)
theorem of1 {α : Type} {P : List α→Prop} (h : ∀ v,P [v]) : ∀ vs,vs.length = 1→P vs:=ofS fun v=>of0 (P:=fun vs=>P (v :: vs)) (h v)
theorem of2 {α : Type} {P : List α→Prop} (h : ∀ v w,P [v,w]) : ∀ vs,vs.length = 2→P vs:=ofS fun v=>of1 (P:=fun vs=>P (v :: vs)) (h v)
theorem of3 {α : Type} {P : List α→Prop} (h : ∀ v w u,P [v,w,u]) : ∀ vs,vs.length = 3→P vs:=ofS fun v=>of2 (P:=fun vs=>P (v :: vs)) (h v)
theorem RepL.i1 {φ : Fz} {vs : List Value} {d : D} (h : RepL φ vs [d]) : ∃ v,vs = [v]∧Rep φ v d:=by
 refine h.sCons fun v ws r rs=>?_
 rw [rs.iNil]
 exact ⟨v,rfl,r⟩
theorem RepL.i2 {φ : Fz} {vs : List Value} {d e : D} (h : RepL φ vs [d,e]) : ∃ v w,vs = [v,w]∧Rep φ v d∧Rep φ w e:=by
 refine h.sCons fun v ws r rs=>?_
 refine e1a2 (rs.i1) fun w rr1 r2=>?_
 subst rr1
 exact ⟨v,w,rfl,r,r2⟩
theorem dfK (B : Bs G K mg mb) {x y : Str} (D₀ : DefAt G a fd (bodyOf fd)) (hn : nmsOk fd.scope.names [x,y] = true) (e : ∀ v w S,peek K S (bindArgs fd ⟨[v],[(y,w)]⟩) = some [(x,v),(y,w)]) : DfOk G a ⟨fd,bnK x y⟩ :=
 dfG B D₀ hn fun ds ks bd h=>by
  obtain ⟨d,⟨y',d'⟩,hd,hk,h⟩:=o2_inv h
  refine oif_e h fun q h=>?_
  rw [a1_inv hd,k1_inv hk,some_inv h]
  refine ⟨rfl,fun φ vs kvs r rk=>?_⟩
  refine e1a2 (r.i1) fun v rr1 r1=>?_
  subst rr1
  refine e0a2 (rk) fun k1 k2=>?_
  induction kvs using List.casesOn with
  | nil=>cases k1
  | cons p kvs =>
   obtain ⟨n,w⟩:=p
   refine e0a2 (List.cons.inj k1) fun e1 e2=>?_
   have qq:=List.map_eq_nil_iff.mp e2; subst qq
   refine e1a2 (k2.i1) fun w' e3 r2=>?_
   have qq:=(List.cons.inj e3).1; subst qq
   have hq : n = y:=e1.trans q
   rw [hq]
   exact ⟨_,e v w,repK_cons r1 (repK_one r2)⟩
theorem dfD (B : Bs G K mg mb) {x y : Str} (D₀ : DefAt G a fd (bodyOf fd)) (hn : nmsOk fd.scope.names [x,y] = true) (e : ∀ v w S,peek K S (bindArgs fd ⟨[v,w],[]⟩) = some [(x,v),(y,w)]) (e1 : ∀ v S,peek K S (bindArgs fd ⟨[v],[]⟩) = some [(x,v),(y,.none)]) : DfOk G a ⟨fd,bnD x y⟩ :=
 dfG B D₀ hn fun ds ks bd h=>by
  match ds,h with
  | [d],h =>
   refine oif_e h fun hk h=>?_
   have qq:=isNil_inv hk; subst qq
   refine some_e h ?_
   refine ⟨rfl,fun φ vs kvs r rk=>?_⟩
   refine e1a2 (r.i1) fun v rr1 r1=>?_
   subst rr1
   have qq:=repK_iNil rk; subst qq
   exact ⟨_,e1 v,repK_cons r1 (repK_one .none)⟩
  | [],h=>exact bnP_ok (xs:=[x,y]) (of2 e) h
  | _ :: _ :: _,h=>exact bnP_ok (xs:=[x,y]) (of2 e) h
theorem dfF (B : Bs G K mg mb) {x y z : Str} (D₀ : DefAt G a fd (bodyOf fd)) (hn : nmsOk fd.scope.names [x,y,z] = true) (e : ∀ v w S,peek K S (bindArgs fd ⟨[v,w],[]⟩) = some [(x,v),(y,w),(z,.bool false)]) : DfOk G a ⟨fd,bnF x y z⟩ :=
 dfG B D₀ hn fun ds ks bd h=>by
  obtain ⟨⟨d,d'⟩,hd,h⟩:=o1_inv h
  refine oif_e h fun hk h=>?_
  have qq:=isNil_inv hk; subst qq
  rw [a2_inv hd,some_inv h]
  refine ⟨rfl,fun φ vs kvs r rk=>?_⟩
  refine e2a3 (r.i2) fun v w rr2 r1 r2=>?_
  subst rr2
  have qq:=repK_iNil rk; subst qq
  exact ⟨_,e v w,repK_cons r1 (repK_cons r2 (repK_one (.bool _)))⟩
end
noncomputable def bnC (x : Str) (ds : List D) : Option (List (Str×D)):=o1 (fun a=>some [(x,a)]) (a1 ds)
theorem cfC (B : Bs G K mg mb) {C a : Addr} {self x : Str} {fd : FuncData} (hm : makesIn K C = true) (hi : findIn K (.ref C) "__init__" = some (some (.ref a))) (hf : isFn K (.ref a) = true) (hk : KeepOk G (.ref C)) (D₀ : DefAt G a fd (bodyOf fd))
  (hn : nmsOk fd.scope.names [self] = true) (hn' : nmsOk fd.scope.names [x] = true) (hne : x≠self) (e : ∀ v w S,peek K S (bindArgs fd ⟨[v,w],[]⟩) = some [(self,v),(x,w)]) : CfOk G K C ⟨fd,self,bnC x⟩ a:=by
 refine ⟨hm,hi,hf,hk,D₀,nmsOk_of (bd:=[(self,.none)]) hn rfl _ List.mem_cons_self,fun ds bd h=>?_⟩
 refine o1_e h fun d hd h=>?_
 rw [a1_inv hd,some_inv h]
 refine ⟨fun φ y vs s r g=>?_,fun p hp=>?_,nmsOk_of hn' rfl⟩
 ·refine e1a2 (r.i1) fun v rr1 r1=>?_
  subst rr1
  exact ⟨_,bind_K B g (e _ _),repK_one r1⟩
 ·rw [List.mem_singleton.mp hp]; exact hne
end
structure TD where
 C : Addr
 gl : List (Str×D)
 ms : List (Str×Addr)
 ats : List Str
 cats : List (Str×List Nat)
 sts : List Str
 dfs : List (Addr×Df)
 cf : Cf
noncomputable def strM : List (Str×String):=[("join", "str.join"),("split", "str.split"),("encode", "str.encode"),("isascii", "str.isascii"),("lstrip", "str.lstrip"),("find", "str.find")]
noncomputable def mtT (t : TD) (d : D) (x : Str) : Option (Value×List D):=match d with
 | .inst C fs=>if C = t.C∧fs.lookup x = none then o1 (fun f=>some (.ref f,[d])) (t.ms.lookup x) else none
 | .str _=>o1 (fun id=>some (.builtin id,[d])) (strM.lookup x)
 | .bytes _=>if x = ("translate" : Str) then some (.builtin "bytes.translate",[d]) else none
 | .list _=>if x = ("index" : Str) then some (.builtin "list.index",[d]) else none
 | .val v=>o1 (fun n=>if n = "bytes"∧x = ("maketrans" : Str) then some (.builtin "bytes.maketrans",[]) else none) (typN v)
 | _=>none
noncomputable def noVal : D→Bool
 | .val _=>false
 | _=>true
noncomputable def refN : Value→Option Addr
 | .ref a=>some a
 | _=>none
theorem refN_inv {v : Value} {a : Addr} (h : refN v = some a) : v = .ref a:=by
 induction v using PySem.Value.casesOn <;> first | exact no_none h | rw [some_inv h]
noncomputable def attT (t : TD) (d : D) (x : Str) : Option D:=match d with
 | .inst C fs=>if C = t.C∧x∈t.ats then o1 (fun e=>if noVal e = true then some e else none) (fs.lookup x) else none
 | .val v=>o1 (fun C=>if C = t.C then o1 (fun s=>some (.str s)) (t.cats.lookup x) else none) (refN v)
 | _=>none
noncomputable def TD.tab (t : TD) : Tab where
 gl x:=t.gl.lookup x
 mt:=mtT t
 att:=attT t
 st C a:=C == t.C && t.sts.contains a
 df a:=t.dfs.lookup a
 cf C:=if C = t.C then some t.cf else none
set_option tactic.hygienic true in
theorem mem_lookup {α β : Type} [BEq α] [LawfulBEq α] {x : α} {v : β} : ∀ {l : List (α×β)},l.lookup x = some v→(x,v)∈l
 | [],h=>by cases h
 | (y,w) :: l,h=>by
  rw [List.lookup_cons] at h
  split at h
  ·rename_i e; have qq:=Option.some.inj (h); subst qq; rw [beq_iff_eq.mp e]; exact List.mem_cons_self
  ·exact List.mem_cons_of_mem _ (mem_lookup h)
theorem noVal_of {d : D} (h : noVal d = true) : ∀ w,d≠.val w:=fun w e=>by subst e; exact no_ft h
section
variable {G : Gd} {K : Frag} {mg mb : Str→Option Value}
theorem strM_ok {l : Nat} {x : Str} {id : String} {s : List Nat} (h : (x,id)∈strM) : MtOk G l (.str s) x (.builtin id) [.str s]:=by
 simp only [strM,List.mem_cons,List.not_mem_nil,or_false,Prod.mk.injEq] at h
 rcases h with ⟨rfl,rfl⟩ | ⟨rfl,rfl⟩ | ⟨rfl,rfl⟩ | ⟨rfl,rfl⟩ | ⟨rfl,rfl⟩ | ⟨rfl,rfl⟩
 ·exact mt_str F.slot_str_join F.type_str_join
 ·exact mt_str F.slot_str_split F.type_str_split
 ·exact mt_str F.slot_str_encode F.type_str_encode
 ·exact mt_str F.slot_str_isascii F.type_str_isascii
 ·exact mt_str F.slot_str_lstrip F.type_str_lstrip
 ·exact mt_str F.slot_str_find F.type_str_find
@[elab_as_elim] theorem some2_e {α β : Type} {P : α→β→Prop} {a c : α} {b d : β} (h : some (a,b) = some (c,d)) (k : P a b) : P c d:=(Prod.mk.inj (Option.some.inj h)).1 ▸ (Prod.mk.inj (Option.some.inj h)).2 ▸ k
set_option tactic.hygienic true in
theorem TD.ok (B : Bs G K mg mb) (t : TD) (hg : ∀ p∈t.gl,GlOk G p.1 p.2) (hm : ∀ p∈t.ms,methIn K t.C p.1 p.2 = true) (ha : ∀ x∈t.ats,attrIn K t.C x = true)
  (hc : ∀ p∈t.cats,readsIn K t.C (.type "type") = true∧∃ u,findCls K (.ref t.C) (.type "type") p.1 = some (.val (.str ⟨p.2.toArray⟩ u))) (hs : ∀ a∈t.sts,setIn K t.C a = true)
  (hd : ∀ p∈t.dfs,DfOk G p.1 p.2) (hcf : ∃ a,CfOk G K t.C t.cf a) : TabOk G K t.tab where
 gl x d h:=hg _ (mem_lookup h)
 mt l d x f fs h:=by
  replace h : mtT t d x = some (f,fs):=h
  induction d using Mine.D.casesOn <;> first | exact no_none h | skip
  case inst C gs =>
   refine oif_e h fun q h=>?_
   refine o1_e h fun a e h=>?_
   refine some2_e h ?_
   have q1:=q.1
   subst q1
   exact mt_inst B (hm _ (mem_lookup e)) q.2
  case str s =>
   refine o1_e h fun id e h=>?_
   exact some2_e h (strM_ok (mem_lookup e))
  case bytes s =>
   refine oif_e h fun q h=>?_
   subst q
   exact some2_e h (mt_bytes slot_bytes_translate type_bytes_translate)
  case list s =>
   refine oif_e h fun q h=>?_
   subst q
   exact some2_e h (mt_list F.slot_list_index F.type_list_index)
  case val v =>
   refine o1_e h fun n hn h=>?_
   refine oif_e h fun q h=>?_
   have e:=typN_inv hn
   rw [q.1] at e
   rw [e,q.2]
   exact some2_e h (mt_maketrans B)
 att l d x e h:=by
  replace h : attT t d x = some e:=h
  induction d using Mine.D.casesOn <;> first | exact no_none h | skip
  case inst C gs =>
   refine oif_e h fun q h=>?_
   refine o1_e h fun e' he h=>?_
   refine oif_e h fun nv h=>?_
   refine some_e h ?_
   have q1:=q.1
   subst q1
   exact att_own B (ha _ q.2) he (noVal_of nv)
  case val v =>
   refine o1_e h fun C hC h=>?_
   refine oif_e h fun q h=>?_
   refine o1_e h fun s hs' h=>?_
   refine some_e h ?_
   rw [refN_inv hC,q]
   refine e0a2 (hc _ (mem_lookup hs')) fun h1 h2=>?_
   refine e1a1 h2 fun u h2=>?_
   exact att_cls B h1 h2 rfl fun φ=>.str s u
 st C a h:=by
  replace h : (C == t.C && t.sts.contains a) = true:=h
  refine and_e h fun h1 h2=>?_
  rw [beq_iff_eq.mp h1]
  exact st_ok B (hs _ (by simpa using h2))
 df a x h:=hd _ (mem_lookup h)
 cf C c h:=by
  replace h : (if C = t.C then some t.cf else none) = some c:=h
  refine oif_e h fun q h2=>?_
  subst q
  exact some_e h2 hcf
end
noncomputable def fdB (fd : FuncData) : Bool:=(match fd.body with | .stmts _=>true | _=>false) && fd.globals == mainGlobals && fd.builtins == builtinsNs && fd.closure.isEmpty && !fd.scope.isCoroutine && !fd.scope.isGenerator && fd.scope.kind == .function && nodupB (fd.scope.names.map (·.1)) && fd.scope.names.all (fun p=>p.2 != .free)
theorem fdOk_of {fd : FuncData} (h : fdB fd = true) : FdOk fd (bodyOf fd):=by
 refine and_e h fun h h9=>?_
 refine and_e h fun h h8=>?_
 refine and_e h fun h h7=>?_
 refine and_e h fun h h6=>?_
 refine and_e h fun h h5=>?_
 refine and_e h fun h h4=>?_
 refine and_e h fun h h3=>?_
 refine and_e h fun h1 h2=>?_
 refine ⟨?_,beq_iff_eq.mp h2,beq_iff_eq.mp h3,List.isEmpty_iff.mp h4,not_inv h5,not_inv h6,beq_iff_eq.mp h7,nodup_of_B h8,fun x hx=>?_⟩
 ·unfold bodyOf
  generalize fd.body = b at h1 ⊢
  induction b using PySem.FuncBody.casesOn
  ·rfl
  ·exact no_ft h1
 ·have:=List.all_eq_true.mp h9 _ hx
  simp at this
theorem ints_rep {φ : Fz} {vs : List Value} {ns : List Int} (h : IntsAre vs ns) : RepL φ vs (ns.map D.int):=by
 induction h with
 | nil=>exact .nil
 | cons i t _ ih=>exact .cons (.int i t) ih
theorem fn_df {t : TD} {n : Nat} {a : Addr} {ds : List D} {ks : List (Str×D)} {x : Df} {bd : List (Str×D)} (h : t.dfs.lookup a = some x) (hb : x.bind ds ks = some bd) : (PN t.tab (n + 1)).fn (.ref a) ds ks = runD (PN t.tab n) x.fd bd:=by
 show fnR t.tab (PN t.tab n) a ds ks = _
 have h' : t.tab.df a = some x:=h
 unfold fnR
 rw [h']
 show o1 _ (x.bind ds ks) = _
 rw [hb]
theorem fn_cf {t : TD} {n : Nat} {ds : List D} {bd : List (Str×D)} {fs : List (Str×D)} (h0 : t.dfs.lookup t.C = none) (hb : t.cf.bind ds = some bd) (h : Lays (PN t.tab n) t.C t.cf bd fs) : (PN t.tab (n + 1)).fn (.ref t.C) ds [] = some (.inst t.C fs):=by
 show fnR t.tab (PN t.tab n) t.C ds [] = _
 have h' : t.tab.df t.C = none:=h0
 have h'' : t.tab.cf t.C = some t.cf:=if_pos rfl
 unfold fnR
 rw [h']
 show o1 _ (t.tab.cf t.C) = _
 rw [h'']
 show o1 (runC _ _ _) (t.cf.bind ds) = _
 rw [hb]
 exact runC_eq h
theorem wo {t : TD} {n : Nat} {id : String} {ds : List D} : (PN t.tab n).fn (.builtin id) ds [] = bi id ds:=by induction n using Nat.casesAuxOn <;> rfl
theorem wp {t : TD} {n : Nat} {id : String} {ds : List D} : (PN t.tab n).fn (.type id) ds [] = ty id ds:=by induction n using Nat.casesAuxOn <;> rfl
theorem pn_gl {t : TD} {n : Nat} {x : Str} : (PN t.tab n).gl x = t.gl.lookup x:=by induction n using Nat.casesAuxOn <;> rfl
theorem vh {t : TD} {n : Nat} {d : D} {x : Str} : (PN t.tab n).mt d x = mtT t d x:=by induction n using Nat.casesAuxOn <;> rfl
theorem vi {t : TD} {n : Nat} {d : D} {x : Str} : (PN t.tab n).att d x = attT t d x:=by induction n using Nat.casesAuxOn <;> rfl
theorem pn_st {t : TD} {n : Nat} {C : Addr} {x : Str} : (PN t.tab n).st C x = (C == t.C && t.sts.contains x):=by induction n using Nat.casesAuxOn <;> rfl
theorem run_ex {P : Pg} {fd : FuncData} {bd : List (Str×D)} {r : Option D} (h : ∀ sc b,fd.scope = sc→bodyOf fd = b→outD (exN P 12 sc (rho0 (bindsD bd) sc.names) b) = r) : runD P fd bd = r:=h _ _ rfl rfl
noncomputable def updR (ρ : Rho) : List (Str×LV)→Rho
 | []=>ρ
 | (x,v) :: r=>updR (setR ρ x v) r
section
variable {P : Pg} {n : Nat} {sc : Scope} {ρ : Rho} {tgt : Expr} {b r : List Stmt} {x : Option SR}
theorem forX_U {α σ J : Type} (f : α→D) (st : σ→α→σ) (U : σ→J→List (Str×LV)) (Inv : Nat→σ→Prop) (all : List α) : ∀ (xs : List α) (k : Nat) (s₀ : σ) (j₀ : J),all.drop k = xs→Inv k s₀ →
  (∀ k s j a,all[k]? = some a→Inv k s→Inv (k + 1) (st s a)∧∃ ρ₁,bindT sc (updR ρ (U s j)) tgt (f a) = some ρ₁∧∃ j',exN P n sc ρ₁ b = some (.next (updR ρ (U (st s a) j')))∨exN P n sc ρ₁ b = some (.cont (updR ρ (U (st s a) j')))) →
  ∃ j,forX P n sc tgt b (updR ρ (U s₀ j₀)) (xs.map f) = some (.next (updR ρ (U (xs.foldl st s₀) j)))∧Inv (k + xs.length) (xs.foldl st s₀)
 | [],k,s₀,j₀,_,i,_=>⟨j₀,rfl,i⟩
 | a :: xs,k,s₀,j₀,hd,i,h=>by
  have ha : all[k]? = some a:=by
   have:=congrArg (fun l=>l[0]?) hd
   simpa using this
  have hd' : all.drop (k + 1) = xs:=by
   rw [← List.drop_drop,hd]; rfl
  obtain ⟨i',ρ₁,h1,j',h2⟩:=h k s₀ j₀ a ha i
  refine e1a2 (forX_U f st U Inv all xs (k + 1) (st s₀ a) j' hd' i' h) fun j e i''=>?_
  refine ⟨j,?_,?_⟩
  ·rw [List.map_cons,List.foldl_cons]
   rcases h2 with h2 | h2
   ·rw [for_next h1 h2]; exact e
   ·rw [for_cont h1 h2]; exact e
  ·rw [List.length_cons,List.foldl_cons,show k + (xs.length + 1) = k + 1 + xs.length by omega]; exact i''
theorem nx_forU {α σ J : Type} (f : α→D) (xs : List α) (st : σ→α→σ) (U : σ→J→List (Str×LV)) (Inv : Nat→σ→Prop) (s₀ : σ) (j₀ : J) (h0 : updR ρ (U s₀ j₀) = ρ) (hI : Inv 0 s₀)
  (hs : ∀ k s j a,xs[k]? = some a→Inv k s→Inv (k + 1) (st s a)∧∃ ρ₁,bindT sc (updR ρ (U s j)) tgt (f a) = some ρ₁∧∃ j',exN P n sc ρ₁ b = some (.next (updR ρ (U (st s a) j')))∨exN P n sc ρ₁ b = some (.cont (updR ρ (U (st s a) j'))))
  (k : ∀ j,Inv xs.length (xs.foldl st s₀)→exN P (n + 1) sc (updR ρ (U (xs.foldl st s₀) j)) r = x) : nxS P n sc r (forX P n sc tgt b ρ (xs.map f)) = x:=by
 refine e1a2 (forX_U f st U Inv xs xs 0 s₀ j₀ rfl hI hs) fun j e i=>?_
 rw [h0] at e
 rw [e]
 exact k j (by simpa using i)
theorem forX_S {α J : Type} (f : α→D) (p : α→Bool) (U : J→List (Str×LV)) (d : D) : ∀ (xs : List α) (j₀ : J),
  (∀ j a,a∈xs→∃ ρ₁,bindT sc (updR ρ (U j)) tgt (f a) = some ρ₁∧(p a = true→exN P n sc ρ₁ b = some (.ret d))∧(p a = false→∃ j',exN P n sc ρ₁ b = some (.next (updR ρ (U j'))))) →
  ((xs.any p = true→forX P n sc tgt b (updR ρ (U j₀)) (xs.map f) = some (.ret d))∧(xs.any p = false→∃ j,forX P n sc tgt b (updR ρ (U j₀)) (xs.map f) = some (.next (updR ρ (U j)))))
 | [],j₀,_=>⟨fun h=>by simp at h,fun _a=>⟨j₀,rfl⟩⟩
 | a :: xs,j₀,h=>by
  refine e1a3 (h j₀ a List.mem_cons_self) fun ρ₁ h1 h2 h3=>?_
  rw [List.map_cons,List.any_cons]
  generalize hp : p a = r_; induction r_ using Bool.casesOn with
  | true=>exact ⟨fun _a=>for_ret h1 (h2 hp),fun k=>by simp at k⟩
  | false =>
   refine e1a1 (h3 hp) fun j' e=>?_
   have ih:=forX_S f p U d xs j' fun j c hc=>h j c (List.mem_cons_of_mem _ hc)
   rw [Bool.false_or,for_next h1 e]
   exact ih
theorem nx_forS {α J : Type} (f : α→D) (xs : List α) (p : α→Bool) (U : J→List (Str×LV)) (d : D) (j₀ : J) (h0 : updR ρ (U j₀) = ρ)
  (hs : ∀ j a,a∈xs→∃ ρ₁,bindT sc (updR ρ (U j)) tgt (f a) = some ρ₁∧(p a = true→exN P n sc ρ₁ b = some (.ret d))∧(p a = false→∃ j',exN P n sc ρ₁ b = some (.next (updR ρ (U j')))))
  {y : SR} (k : xs.any p = false→∀ j,exN P (n + 1) sc (updR ρ (U j)) r = some y) (hd : xs.any p = true→y = .ret d) : nxS P n sc r (forX P n sc tgt b ρ (xs.map f)) = some y:=by
 refine e0a2 (forX_S (ρ:=ρ) f p U d xs j₀ hs) fun h1 h2=>?_
 rw [h0] at h1 h2
 generalize hp : xs.any p = r_; induction r_ using Bool.casesOn with
 | true=>rw [h1 hp,hd hp]; rfl
 | false=>obtain ⟨j,e⟩:=h2 hp; rw [e]; exact k hp j
end
section
variable {V : EvF} {scope : Scope} {ρ₀ : Rho} {target elt : Expr}
theorem cGo_filter {α : Type} (f g : α→D) (p : α→Bool) {ifs : List Expr} : ∀ (xs : List α),(∀ a,a∈xs→∃ ρ₁,bindT scope ρ₀ target (f a) = some ρ₁∧ifsD V scope ρ₁ ifs = some (p a)∧(p a = true→V.e scope ρ₁ elt = some (g a))) →
  cGo V scope ρ₀ target ifs elt (xs.map f) = some (.list ((xs.filter p).map g)):=by
 intro xs h
 have : compGo V scope ρ₀ target ifs elt (xs.map f) = some ((xs.filter p).map g):=by
  induction xs with
  | nil=>rfl
  | cons a xs ih =>
   refine e1a3 (h a List.mem_cons_self) fun ρ₁ h1 h2 h3=>?_
   have ih:=ih fun c hc=>h c (List.mem_cons_of_mem _ hc)
   show o1 _ (bindT scope ρ₀ target (f a)) = _
   rw [h1]
   show o1 _ (ifsD V scope ρ₁ ifs) = _
   rw [h2]
   generalize hp : p a = r_; induction r_ using Bool.casesOn with
   | true =>
    show oCons (V.e scope ρ₁ elt) (compGo V scope ρ₀ target ifs elt (xs.map f)) = _
    rw [h3 hp,ih,List.filter_cons_of_pos hp]; rfl
   | false=>rw [List.filter_cons_of_neg (by rw [hp]; decide)]; exact ih
 unfold cGo; rw [this]; rfl
theorem cGo_map {α : Type} (f g : α→D) (xs : List α) (h : ∀ a,a∈xs→∃ ρ₁,bindT scope ρ₀ target (f a) = some ρ₁∧V.e scope ρ₁ elt = some (g a)) : cGo V scope ρ₀ target [] elt (xs.map f) = some (.list (xs.map g)):=by
 have:=cGo_filter (V:=V) (scope:=scope) (ρ₀:=ρ₀) (target:=target) (elt:=elt) (ifs:=[]) f g (fun _a=>true) xs fun a ha=>(h a ha).imp fun _a q=>⟨q.1,rfl,fun _a=>q.2⟩
 rw [List.filter_eq_self.mpr fun _a _a=>rfl] at this
 exact this
end
noncomputable def T3 (p : Int×Int×Int) : D:=.tup [.int p.1,.int p.2.1,.int p.2.2]
theorem eqLD_any {α : Type} [DecidableEq α] {f : α→D} {n : Nat} (hf : ∀ a b,eqD n (f a) (f b) = some (decide (a = b))) : ∀ (xs ys : List α),eqLD (eqD n) (xs.map f) (ys.map f) = some (decide (xs = ys))
 | [],[]=>rfl
 | [],_ :: _=>by simp [eqLD]
 | _ :: _,[]=>by simp [eqLD]
 | x :: xs,y :: ys=>by
  show o2 _ (eqD n (f x) (f y)) (eqLD (eqD n) (xs.map f) (ys.map f)) = _
  rw [hf,eqLD_any hf xs ys]
  exact congrArg some (by rw [Bool.eq_iff_iff]; simp)
noncomputable def oWh2 (P : Pg) (n : Nat) (sc : Scope) (t : Expr) (b : List Stmt) (k : Nat) : Option SR→Option SR:=o1 (forK fun ρ=>whX P n sc t b k ρ)
set_option tactic.hygienic true in
noncomputable def oWh (P : Pg) (n : Nat) (sc : Scope) (t : Expr) (b : List Stmt) (k : Nat) (ρ : Rho) : Option Bool→Option SR:=o1 fun z=>match z with
 | false=>some (.next ρ)
 | true=>oWh2 P n sc t b k (exN P n sc ρ b)
section
variable {P : Pg} {n : Nat} {sc : Scope} {ρ : Rho} {t : Expr} {b : List Stmt} {k : Nat}
theorem xM : whX P n sc t b (k + 1) ρ = oWh P n sc t b k ρ (evT (evN P fuelN) sc ρ t):=id rfl
theorem xN : oWh P n sc t b k ρ (some true) = oWh2 P n sc t b k (exN P n sc ρ b):=id rfl
set_option tactic.hygienic true in
theorem xO : oWh P n sc t b k ρ (some false) = some (.next ρ):=id rfl
set_option tactic.hygienic true in
theorem xP : oWh2 P n sc t b k (some (.next ρ)) = whX P n sc t b k ρ:=id rfl
end
theorem nat_cast_nn (a : Nat) : (0 : Int)≤(a : Int):=Int.natCast_nonneg a
theorem ug {a b : Int} : binF .Add (.int a) (.int b) = some (.int (a + b)):=rfl
theorem uo {a b : Int} : binF .Sub (.int a) (.int b) = some (.int (a - b)):=rfl
theorem uk {a b : Int} : binF .Mult (.int a) (.int b) = if -big < a∧a < big∧-big < b∧b < big then some (.int (a * b)) else none:=rfl
theorem ui {a b : Int} : binF .FloorDiv (.int a) (.int b) = if 0 < b∧b < big then some (.int (a / b)) else none:=rfl
theorem uj {a b : Int} : binF .Mod (.int a) (.int b) = if 0 < b then some (.int (a % b)) else none:=rfl
theorem um {a b : Int} : binF .Pow (.int a) (.int b) = if 0≤b∧b≤100∧2≤a∧a < 1000 then some (.int (a ^ b.toNat)) else none:=rfl
theorem uh {a b : Int} : binF .BitAnd (.int a) (.int b) = if 0≤a∧0≤b then some (.int ((a.toNat &&& b.toNat : Nat) : Int)) else none:=rfl
theorem ul {a b : Int} : binF .BitOr (.int a) (.int b) = if 0≤a∧0≤b then some (.int ((a.toNat ||| b.toNat : Nat) : Int)) else none:=rfl
theorem bz_shl {a b : Int} : binF .LShift (.int a) (.int b) = if 0≤b∧b≤100∧-big < a∧a < big then some (.int (a * 2 ^ b.toNat)) else none:=rfl
theorem bz_shr {a b : Int} : binF .RShift (.int a) (.int b) = if 0≤b then some (.int (a / 2 ^ b.toNat)) else none:=rfl
theorem xn {a b : Nat} : binF .Add (.int (a : Int)) (.int (b : Int)) = some (.int ((a + b : Nat) : Int)):=rfl
theorem xo {a b : Nat} : binF .BitOr (.int (a : Int)) (.int (b : Int)) = some (.int ((a ||| b : Nat) : Int)):=by
 rw [ul,if_pos ⟨nat_cast_nn a,nat_cast_nn b⟩]; rfl
theorem xq {a b : Nat} : binF .BitAnd (.int (a : Int)) (.int (b : Int)) = some (.int ((a &&& b : Nat) : Int)):=by
 rw [uh,if_pos ⟨nat_cast_nn a,nat_cast_nn b⟩]; rfl
theorem n_shl {a k : Nat} (h : a < 1000000) (hk : k≤100) : binF .LShift (.int (a : Int)) (.int (k : Int)) = some (.int ((a * 2 ^ k : Nat) : Int)):=by
 rw [bz_shl,if_pos (by unfold big; omega),Int.toNat_natCast,Int.natCast_mul,Int.natCast_pow]; rfl
theorem n_shr {a k : Nat} : binF .RShift (.int (a : Int)) (.int (k : Int)) = some (.int ((a / 2 ^ k : Nat) : Int)):=by
 rw [bz_shr,if_pos (nat_cast_nn k),Int.toNat_natCast,Int.natCast_ediv,Int.natCast_pow]; rfl
theorem n_div {a k : Nat} (h : 0 < k) (hk : k < 1000000) : binF .FloorDiv (.int (a : Int)) (.int (k : Int)) = some (.int ((a / k : Nat) : Int)):=by
 rw [ui,if_pos (by unfold big; omega)]; rfl
theorem n_mod {a k : Nat} (h : 0 < k) : binF .Mod (.int (a : Int)) (.int (k : Int)) = some (.int ((a % k : Nat) : Int)):=by
 rw [uj,if_pos (by omega)]; rfl
theorem n_mul {a k : Nat} (h : (a : Int) < big) (hk : (k : Int) < big) : binF .Mult (.int (a : Int)) (.int (k : Int)) = some (.int ((a * k : Nat) : Int)):=by
 rw [uk,if_pos (by unfold big at *; omega)]; rfl
theorem xr {a : Nat} (h : a < 1000000) : binF .LShift (.int (a : Int)) (.int 2) = some (.int ((a * 4 : Nat) : Int)):=n_shl (k:=2) h (by decide)
theorem xt {a : Nat} (h : a < 1000000) : binF .LShift (.int (a : Int)) (.int 4) = some (.int ((a * 16 : Nat) : Int)):=n_shl (k:=4) h (by decide)
theorem xu {a : Nat} (h : a < 1000000) : binF .LShift (.int (a : Int)) (.int 6) = some (.int ((a * 64 : Nat) : Int)):=n_shl (k:=6) h (by decide)
theorem xv {a : Nat} (h : a < 1000000) : binF .LShift (.int (a : Int)) (.int 8) = some (.int ((a * 256 : Nat) : Int)):=n_shl (k:=8) h (by decide)
theorem xw {a : Nat} : binF .RShift (.int (a : Int)) (.int 0) = some (.int ((a / 1 : Nat) : Int)):=n_shr (k:=0)
theorem xz {a : Nat} : binF .RShift (.int (a : Int)) (.int 2) = some (.int ((a / 4 : Nat) : Int)):=n_shr (k:=2)
theorem xA {a : Nat} : binF .RShift (.int (a : Int)) (.int 4) = some (.int ((a / 16 : Nat) : Int)):=n_shr (k:=4)
theorem xB {a : Nat} : binF .RShift (.int (a : Int)) (.int 6) = some (.int ((a / 64 : Nat) : Int)):=n_shr (k:=6)
theorem xC {a : Nat} : binF .BitAnd (.int (a : Int)) (.int 15) = some (.int ((a % 16 : Nat) : Int)):=by
 have:=xq (a:=a) (b:=15)
 rw [show (15 : Nat) = 2 ^ 4 - 1 from rfl,Nat.and_two_pow_sub_one_eq_mod] at this
 exact this
theorem xD {a : Nat} : binF .BitAnd (.int (a : Int)) (.int 3) = some (.int ((a % 4 : Nat) : Int)):=by
 have:=xq (a:=a) (b:=3)
 rw [show (3 : Nat) = 2 ^ 2 - 1 from rfl,Nat.and_two_pow_sub_one_eq_mod] at this
 exact this
theorem xE {a : Nat} : binF .BitAnd (.int (a : Int)) (.int 63) = some (.int ((a % 64 : Nat) : Int)):=by
 have:=xq (a:=a) (b:=63)
 rw [show (63 : Nat) = 2 ^ 6 - 1 from rfl,Nat.and_two_pow_sub_one_eq_mod] at this
 exact this
theorem xF {a : Nat} : binF .BitAnd (.int (a : Int)) (.int 65535) = some (.int ((a % 65536 : Nat) : Int)):=by
 have:=xq (a:=a) (b:=65535)
 rw [show (65535 : Nat) = 2 ^ 16 - 1 from rfl,Nat.and_two_pow_sub_one_eq_mod] at this
 exact this
theorem xG {a : Nat} : binF .Add (.int (a : Int)) (.int 1) = some (.int ((a + 1 : Nat) : Int)):=rfl
theorem xH : ((0 : Nat) : Int) = 0:=rfl
theorem xI : ((1 : Nat) : Int) = 1:=rfl
theorem xJ : ((2 : Nat) : Int) = 2:=rfl
theorem xK : ((3 : Nat) : Int) = 3:=rfl
theorem xL : ((4 : Nat) : Int) = 4:=rfl
theorem xV {a b : List D} : binF .Add (.list a) (.list b) = if a.length + b.length≤lim then some (.list (a ++ b)) else none:=by
 show (match (if _ then some _ else none) with | some l=>some (D.list l) | none=>binD _ _ _) = _
 by_cases h : a.length + b.length≤lim
 ·rw [if_pos h,if_pos h]
 ·rw [if_neg h,if_neg h]; rfl
theorem bl_mul {a : List D} {n : Int} : binF .Mult (.list a) (.int n) = if a.length * n.toNat≤lim∧n≤1000000∧-1000000≤n then some (.list (reps n.toNat a)) else none:=by
 show (match (if _ then some _ else none) with | some l=>some (D.list l) | none=>binD _ _ _) = _
 by_cases h : a.length * n.toNat≤lim∧n≤1000000∧-1000000≤n
 ·rw [if_pos h,if_pos h]
 ·rw [if_neg h,if_neg h]; rfl
theorem xW {a b : List Nat} : binF .Add (.str a) (.str b) = if a.length + b.length≤lim then some (.str (a ++ b)) else none:=rfl
theorem bs_mul {a : List Nat} {n : Int} : binF .Mult (.str a) (.int n) = if a.length * n.toNat≤lim∧n≤1000000∧-1000000≤n then some (.str (reps n.toNat a)) else none:=rfl
theorem ye {V : EvF} {sc : Scope} {ρ : Rho} : allT V sc ρ .And [] = some true:=rfl
theorem yf {V : EvF} {sc : Scope} {ρ : Rho} : allT V sc ρ .Or [] = some false:=rfl
theorem yg {x : Bool} : oAll .And (some x) (some true) = some x:=by induction x using Bool.casesOn <;> rfl
theorem yi {x : Bool} : oAll .And (some x) (some false) = some false:=by induction x using Bool.casesOn <;> rfl
theorem yj {x : Bool} : oAll .Or (some x) (some true) = some true:=by induction x using Bool.casesOn <;> rfl
theorem yh {x : Bool} : oAll .Or (some x) (some false) = some x:=by induction x using Bool.casesOn <;> rfl
theorem ints_nat : ∀ l : List Nat,ints? (l.map fun k : Nat=>D.int (k : Int)) = some (l.map fun k : Nat=>(k : Int))
 | []=>rfl
 | a :: l=>congrArg (o1 fun m=>some ((a : Int) :: m)) (ints_nat l)
theorem oApp_a {x : Str} {l : List D} {d : D} {ρ₁ : Rho} (h : l.length≤lim) : oApp x (ofString "append") (some (.ow l)) (some (d,ρ₁)) = some (.next (setR ρ₁ x (.ow (l ++ [d])))):=by
 show o1 _ (if l.length≤lim then some [d] else none) = _
 rw [if_pos h]
noncomputable def LJ : Option D→LV
 | none=>.un
 | some d=>.fz d
theorem jl : LJ none = .un:=rfl
theorem jm {d : D} : LJ (some d) = .fz d:=rfl
theorem jk {N : List Str} {x : Str} {j : Option D} {r : Rho} : frzM N ((x,LJ j) :: r) = (x,LJ j) :: frzM N r:=by induction j using Option.casesOn <;> rfl
theorem bytesD_ok {l : List D} {is : List Int} (h : ints? l = some is) (h2 : ∀ n∈is,0≤n∧n < 256) (h3 : l.length≤lim) : bytesD [.list l] = some (.bytes (is.map fun n=>n.toNat.toUInt8)):=by
 show o1 _ (ints? l) = _
 rw [h]; exact if_pos ⟨h2,h3⟩
theorem bytesD_nat {l : List Nat} (h2 : ∀ n∈l,n < 256) (h3 : l.length≤lim) : bytesD [.list (l.map fun k : Nat=>D.int (k : Int))] = some (.bytes (l.map fun n=>n.toUInt8)):=by
 rw [bytesD_ok (ints_nat l) (fun x hx=>by obtain ⟨k,hk,rfl⟩:=List.mem_map.mp hx; have:=h2 k hk; omega) (by rw [List.length_map]; exact h3),List.map_map]
 rfl
section
variable {P : Pg} {n : Nat} {sc : Scope} {ρ : Rho} {b o r : List Stmt}
theorem zx : oIfS (exN P n sc) ρ b o (some true) = exN P n sc ρ b:=id rfl
theorem zy : oIfS (exN P n sc) ρ b o (some false) = exN P n sc ρ o:=id rfl
theorem uv {t : Bool} : oIfS (exN P n sc) ρ b o (some t) = if t = true then exN P n sc ρ b else exN P n sc ρ o:=by induction t using Bool.casesOn <;> rfl
theorem us {c : Prop} [Decidable c] {x y : Option SR} : nxS P n sc r (if c then x else y) = if c then nxS P n sc r x else nxS P n sc r y:=by split <;> rfl
theorem uu {x y : Bool} : oAnd (some x) (some y) = some (x && y):=by induction x using Bool.casesOn <;> rfl
theorem zs {x : Option Bool} : oAll .And (some false) x = some false:=rfl
theorem zt {x : Option Bool} : oAll .Or (some true) x = some true:=rfl
theorem zu {x : Option Bool} : oAll .Or (some false) x = x:=rfl
theorem ut {x y : Bool} : oAll .And (some x) (some y) = some (x && y):=by induction x using Bool.casesOn <;> rfl
theorem zo {x y : Option D} : oIf (some true) x y = x:=rfl
theorem zp {x y : Option D} : oIf (some false) x y = y:=rfl
theorem zv {x : Bool} : oNot (some x) = some (!x):=rfl
theorem ur {c : Prop} [Decidable c] {x y : D} : (if c then some (SR.ret x) else some (SR.ret y)) = some (SR.ret (if c then x else y)):=by split <;> rfl
theorem outD_of {d : D} {z : Option SR} (h : z = some (.ret d)) : outD z = some d:=by rw [h]; rfl
theorem xj {d : D} : outD (some (.ret d)) = some d:=id rfl
theorem wZ {a b : String} : isD (.val (.type a)) (.val (.type b)) = some (decide (a = b)):=by show some (a == b) = _; by_cases h : a = b <;> simp [h]
theorem w7 {b : Bool} : isD (.bool b) .none = some false:=rfl
theorem w8 {b : List UInt8} : isD (.bytes b) .none = some false:=rfl
theorem w9 {b : List Nat} : isD (.str b) .none = some false:=rfl
theorem uq {c : Prop} [Decidable c] {x y : Int} : (if c then D.int x else D.int y) = D.int (if c then x else y):=by split <;> rfl
end
theorem wq {ds : List D} : bi "len" ds = lenD ds:=rfl
theorem wt {ds : List D} : bi "max" ds = maxD ds:=rfl
theorem wu {ds : List D} : bi "chr" ds = chrD ds:=rfl
theorem wv {ds : List D} : bi "isinstance" ds = isiD ds:=rfl
theorem wO {x : List D} : lenD [.list x] = if x.length≤lim then some (.int x.length) else none:=rfl
theorem wP {x : List Nat} : lenD [.str x] = if x.length≤lim then some (.int x.length) else none:=rfl
theorem wQ {x : List D} : lenD [.tup x] = if x.length≤lim then some (.int x.length) else none:=rfl
theorem wR {x : List UInt8} : lenD [.bytes x] = if x.length≤lim then some (.int x.length) else none:=rfl
theorem wT {x : List UInt8} : typeD [.bytes x] = some (.val (.type "bytes")):=rfl
theorem wU {x : Bool} : typeD [.bool x] = some (.val (.type "bool")):=rfl
theorem wV {n : Int} : rangeD [.int n] = some (.rng 0 n 1):=rfl
theorem wW {a b : Int} : rangeD [.int a,.int b] = some (.rng a b 1):=rfl
theorem wX {x : List D} : tupleD [.list x] = if x.length≤lim then some (.tup x) else none:=rfl
theorem wY {x : List Nat} {n : String} : isiD [.str x,.val (.type n)] = if n = "str" then some (.bool true) else none:=rfl
theorem ww {ds : List D} : bi "str.join" ds = joinD ds:=rfl
theorem wx {ds : List D} : bi "str.split" ds = splitD ds:=rfl
theorem wy {ds : List D} : bi "str.encode" ds = encodeD ds:=rfl
theorem wA {ds : List D} : bi "str.find" ds = findD ds:=rfl
theorem wz {ds : List D} : bi "str.lstrip" ds = lstripF ds:=rfl
theorem wB {ds : List D} : bi "bytes.maketrans" ds = maketransD ds:=rfl
theorem wC {ds : List D} : bi "bytes.translate" ds = translateD ds:=rfl
theorem wD {ds : List D} : ty "type" ds = typeD ds:=rfl
theorem wE {ds : List D} : ty "range" ds = rangeD ds:=rfl
theorem wF {ds : List D} : ty "bytes" ds = bytesD ds:=rfl
theorem wG {ds : List D} : ty "tuple" ds = tupleD ds:=rfl
theorem wH {t : TD} {s : List Nat} : mtT t (.str s) ("join" : Str) = some (.builtin "str.join",[.str s]):=rfl
theorem wI {t : TD} {s : List Nat} : mtT t (.str s) ("split" : Str) = some (.builtin "str.split",[.str s]):=rfl
theorem wJ {t : TD} {s : List Nat} : mtT t (.str s) ("encode" : Str) = some (.builtin "str.encode",[.str s]):=rfl
theorem wK {t : TD} {s : List Nat} : mtT t (.str s) ("lstrip" : Str) = some (.builtin "str.lstrip",[.str s]):=rfl
theorem wL {t : TD} {s : List Nat} : mtT t (.str s) ("find" : Str) = some (.builtin "str.find",[.str s]):=rfl
theorem wM {t : TD} {s : List UInt8} : mtT t (.bytes s) ("translate" : Str) = some (.builtin "bytes.translate",[.bytes s]):=rfl
theorem wN {t : TD} : mtT t (.val (.type "bytes")) ("maketrans" : Str) = some (.builtin "bytes.maketrans",[]):=rfl
theorem yu {P : Pg} {sc : Scope} {x : Str} {d : D} : oLk P sc x (some (.fz d)) = some d:=id rfl
theorem oLk_n {P : Pg} {sc : Scope} {x : Str} : oLk P sc x none = if sc.names.lookup x = some .globalImplicit then P.gl x else none:=id rfl
theorem yw {op : Operator} {a b : D} : oBin op (some a) (some b) = binF op a b:=id rfl
theorem yx {op : UnaryOp} {a : D} : oUn op (some a) = unD op a:=id rfl
theorem yy {op : CmpOp} {a b : D} : oCmp op (some a) (some b) = cmpD op a b:=id rfl
theorem yz {b : Bool} : oB (some b) = some (.bool b):=id rfl
theorem yA {o1 o2 : CmpOp} {a b c : D} : oCmp2 o1 o2 (some a) (some b) (some c) = oAnd (cmpD o1 a b) (cmpD o2 b c):=id rfl
theorem yB {d : D} {ds : List D} : oCons (some d) (some ds) = some (d :: ds):=id rfl
theorem yC {x : Str} {d : D} {ds : List (Str×D)} : oKw x (some d) (some ds) = some ((x,d) :: ds):=id rfl
theorem yD {l : List D} : oList (some l) = some (.list l):=id rfl
theorem yE {l : List D} : oTup (some l) = some (.tup l):=id rfl
theorem yF {P : Pg} {x : Str} {d : D} : oAtt P x (some d) = P.att d x:=id rfl
theorem yG {i : Int} : oPart (some (.int i)) = some (some i):=id rfl
theorem yH {a : D} {l h k : Option Int} : oCut (some a) (some l) (some h) (some k) = cutD a l h k:=id rfl
theorem yI {a : D} {k : Int} : oIdx (some a) (some (.int k)) = idxD a k:=id rfl
theorem yJ {P : Pg} {f : Value} {ds : List D} {ks : List (Str×D)} : oFn P (some (.val f)) (some ds) (some ks) = P.fn f ds ks:=id rfl
theorem yK {d : D} : oTruth (some d) = truthD d:=id rfl
theorem yL {V : EvF} {scope : Scope} {target elt : Expr} {ifs : List Expr} {items : List D} {ρ₀ : Rho} : oComp V scope target ifs elt (some items) (some ρ₀) = cGo V scope ρ₀ target ifs elt items:=id rfl
theorem yM {d : D} : oItems (some d) = itD d:=id rfl
set_option tactic.hygienic true in
theorem yN {ρ : Rho} : oNext (some ρ) = some (.next ρ):=id rfl
theorem yW {sc : Scope} {x : Str} {fr : Bool} {d : D} {ρ₁ : Rho} : oAsg sc x fr (some (d,ρ₁)) = oNext (asgN sc ρ₁ x (lvOf fr d)):=id rfl
theorem oRow_t {sc : Scope} {ts : List Expr} {ds : List D} {ρ₁ : Rho} : oRow sc ts (some (.tup ds,ρ₁)) = if ds.length≤lim then oNext (bindNs sc ρ₁ ts ds) else none:=id rfl
theorem oRow_l {sc : Scope} {ts : List Expr} {ds : List D} {ρ₁ : Rho} : oRow sc ts (some (.list ds,ρ₁)) = if ds.length≤lim then oNext (bindNs sc ρ₁ ts ds) else none:=id rfl
theorem za {V : EvF} {sc : Scope} {x : Str} {i : Expr} {d : D} {ρ₁ : Rho} : oSub V sc x i (some (d,ρ₁)) = oSub1 x (notSlice i) d (ρ₁.lookup x) (evO V sc ρ₁ i):=id rfl
theorem oSub1_s {x : Str} {ok : Bool} {d : D} {l : List D} {k : Int} {ρ₂ : Rho} : oSub1 x ok d (some (.ow l)) (some (.int k,ρ₂)) = if (flat d && inB k l.length && ok && decide (l.length≤lim)) = true then some (.next (setR ρ₂ x (.ow (l.set (ix k l.length) d)))) else none:=id rfl
theorem oAug_i {sc : Scope} {x : Str} {v : Expr} {a b : Int} {ρ₁ : Rho} : oAug sc x v (some (.fz (.int a))) (some (.int b,ρ₁)) = if nmOk x = true then oNext (asgN sc ρ₁ x (.fz (.int (a + b)))) else none:=id rfl
theorem zd {P : Pg} {n : Nat} {sc : Scope} {tgt : Expr} {b : List Stmt} {ρ : Rho} {items : List D} : oForI P n sc tgt b ρ (some items) = forX P n sc tgt b ρ items:=id rfl
theorem zf {P : Pg} {n : Nat} {sc : Scope} {tgt : Expr} {b : List Stmt} {d : D} {ρ₁ : Rho} : oFor (exN P n sc) sc tgt b (some (d,ρ₁)) = oForI P n sc tgt b ρ₁ (itD d):=id rfl
theorem zg {d : D} {ρ : Rho} : oRet (some (d,ρ)) = some (.ret d):=id rfl
set_option tactic.hygienic true in
theorem zh {ρ : Rho} : oAssert ρ (some true) = some (.next ρ):=id rfl
theorem zi {op : BoolOp} {v : D} {r : Option D} : oBool op (some v) r = o1 (fun b=>match op,b with
 | .And,false=>some v
 | .Or,true=>some v
 | .And,true=>r
 | .Or,false=>r) (truthD v):=rfl
theorem zj {P : Pg} {x : Str} {d : D} {ds : List D} {ks : List (Str×D)} : oMt P x (some d) (some ds) (some ks) = oM2 P ds ks (P.mt d x):=id rfl
theorem zk {P : Pg} {f : Value} {fs ds : List D} {ks : List (Str×D)} : oM2 P ds ks (some (f,fs)) = P.fn f (fs ++ ds) ks:=id rfl
theorem zm {P : Pg} {x a : Str} {ok : Bool} {d : D} {ρ₁ : Rho} : oAttr P x a ok (some (d,ρ₁)) = oAt2 P x a ok d ρ₁ (ρ₁.lookup x):=id rfl
theorem oAt2_s {P : Pg} {x a : Str} {ok : Bool} {d : D} {ρ₁ : Rho} {y C : Addr} {fs : List (Str×D)} : oAt2 P x a ok d ρ₁ (some (.oi y C fs)) = if (P.st C a && decide (fs.length < 100) && ok) = true then some (.next (setR ρ₁ x (.oi y C (setF fs a d)))) else none:=id rfl
theorem qX {P : Pg} {n : Nat} {sc : Scope} {ρ : Rho} {v : Expr} {p : Pos} {x : Str} {q : Pos} : (evN P (n + 1)).e sc ρ (.Subscript v (.Name x q) p) = oIdx ((evN P n).e sc ρ v) ((evN P n).e sc ρ (.Name x q)):=id rfl
theorem q8 {x : Str} {q : Pos} : notSlice (.Name x q) = true:=rfl
theorem qY {P : Pg} {n : Nat} {sc : Scope} {ρ : Rho} {v : Expr} {p : Pos} {c : Const} {k : Nat} {q : Pos} : (evN P (n + 1)).e sc ρ (.Subscript v (.Constant c k q) p) = oIdx ((evN P n).e sc ρ v) ((evN P n).e sc ρ (.Constant c k q)):=id rfl
theorem qZ {P : Pg} {n : Nat} {sc : Scope} {ρ : Rho} {v : Expr} {p : Pos} {l r : Expr} {op : Operator} {q : Pos} : (evN P (n + 1)).e sc ρ (.Subscript v (.BinOp l op r q) p) = oIdx ((evN P n).e sc ρ v) ((evN P n).e sc ρ (.BinOp l op r q)):=id rfl
theorem xX {a b : D} : cmpD .Eq a b = eqD 8 a b:=id rfl
theorem xY {a b : D} : cmpD .NotEq a b = oNot (eqD 8 a b):=id rfl
theorem xZ {a b : Int} : cmpD .Lt (.int a) (.int b) = some (decide (a < b)):=id rfl
theorem x5 {a b : Int} : cmpD .LtE (.int a) (.int b) = some (decide (a≤b)):=id rfl
theorem x6 {a b : Int} : cmpD .Gt (.int a) (.int b) = some (decide (b < a)):=id rfl
theorem x7 {a b : Int} : cmpD .GtE (.int a) (.int b) = some (decide (b≤a)):=id rfl
theorem x8 {a b : D} : cmpD .Is a b = isD a b:=id rfl
theorem x9 {a b : D} : cmpD .IsNot a b = oNot (isD a b):=id rfl
theorem wa {a b : D} : cmpD .In a b = inD a b:=id rfl
theorem wb {a b : Int} : eqD 8 (.int a) (.int b) = some (decide (a = b)):=id rfl
theorem wc {a b : List Nat} : eqD 8 (.str a) (.str b) = some (decide (a = b)):=id rfl
section
variable {V : EvF} {sc : Scope} {ρ : Rho} {target : Expr}
theorem zJ {x : Str} {p : Pos} : compI V sc ρ target (.Name x p) = oItems (V.e sc ρ (.Name x p)):=id rfl
theorem zK {v i : Expr} {p : Pos} : compI V sc ρ target (.Subscript v i p) = oItems (V.e sc ρ (.Subscript v i p)):=id rfl
theorem zL {es : List Expr} {p : Pos} : compI V sc ρ target (.List es p) = oItems (V.e sc ρ (.List es p)):=id rfl
theorem zM {o : Expr} {a : Str} {q : Pos} {as : List Expr} {ks : List Keyword} {p : Pos} : compI V sc ρ target (.Call (.Attribute o a q) as ks p) = oItems (V.e sc ρ (.Call (.Attribute o a q) as ks p)):=id rfl
theorem zN {z : Str} {q p : Pos} {a : Expr} : compI V sc ρ target (.Call (.Name z q) [a] [] p) = oItems (V.e sc ρ (.Call (.Name z q) [a] [] p)):=id rfl
theorem zO {z : String} {q p : Pos} {a b : Expr} (h : ¬ z = "zip") : compI V sc ρ target (.Call (.Name (ofString z) q) [a,b] [] p) = oItems (V.e sc ρ (.Call (.Name (ofString z) q) [a,b] [] p)):=id rfl
end
noncomputable def TurnOk {J : Type} (ρ : Rho) (W : J→List (Str×LV)) (z : Option SR) : Prop:=∃ j,z = some (.next (updR ρ (W j)))∨z = some (.cont (updR ρ (W j)))
theorem nx_forU_p {P : Pg} {n : Nat} {sc : Scope} {ρ : Rho} {tgt : Expr} {b r : List Stmt} {Qr : Option SR→Prop} {α σ J : Type} (f : α→D) (xs : List α) (st : σ→α→σ) (U : σ→J→List (Str×LV)) (Inv : Nat→σ→Prop) (s₀ : σ) (j₀ : J) (h0 : updR ρ (U s₀ j₀) = ρ) (hI : Inv 0 s₀)
  (hs : ∀ k s j a,xs[k]? = some a→Inv k s→Inv (k + 1) (st s a)∧∃ ρ₁,bindT sc (updR ρ (U s j)) tgt (f a) = some ρ₁∧∃ j',exN P n sc ρ₁ b = some (.next (updR ρ (U (st s a) j')))∨exN P n sc ρ₁ b = some (.cont (updR ρ (U (st s a) j'))))
  (k : ∀ j,Inv xs.length (xs.foldl st s₀)→Qr (exN P (n + 1) sc (updR ρ (U (xs.foldl st s₀) j)) r)) : Qr (nxS P n sc r (forX P n sc tgt b ρ (xs.map f))):=by
 refine e1a2 (forX_U f st U Inv xs xs 0 s₀ j₀ rfl hI hs) fun j e i=>?_
 rw [h0] at e
 rw [e]
 exact k j (by simpa using i)
noncomputable def oAtI : Option D→Option D
 | some e=>if noVal e = true then some e else none
 | none=>none
theorem vz {x : List Nat} : oAtI (some (.str x)) = some (.str x):=id rfl
theorem att_in {t : TD} {fs : List (Str×D)} {x : Str} (h : x∈t.ats) : attT t (.inst t.C fs) x = oAtI (fs.lookup x):=by
 unfold attT oAtI; dsimp only; rw [if_pos ⟨rfl,h⟩] <;> (generalize fs.lookup x = r_; induction r_ using Option.casesOn <;> rfl)
set_option tactic.hygienic true in
noncomputable def NextOk (q : Rho→Prop) (z : Option SR) : Prop:=∃ ρ',z = some (.next ρ')∧q ρ'
theorem lays_nx {P : Pg} {C : Addr} {c : Cf} {bd fs : List (Str×D)} (h : ∀ sc b y,c.fd.scope = sc→bodyOf c.fd = b→NextOk (fun ρ'=>ρ'.lookup c.self = some (.oi y C fs)) (exN P 12 sc (rho0 (bindsI y C c.self bd) sc.names) b)) : Lays P C c bd fs:=fun y=>h _ _ y rfl rfl
set_option tactic.hygienic true in
theorem nextOk_of {q : Rho→Prop} {ρ : Rho} {z : Option SR} (h : z = some (.next ρ)) (k : q ρ) : NextOk q z:=⟨ρ,h,k⟩
theorem nx_forB_p {P : Pg} {n : Nat} {sc : Scope} {ρ : Rho} {tgt : Expr} {b r : List Stmt} {Qr : Option SR→Prop} {α σ J : Type} (f : α→D) (xs : List α) (p : α→Bool) (st : σ→α→σ) (U : σ→J→List (Str×LV)) (Inv : Nat→σ→Prop) (s₀ : σ) (j₀ : J) (h0 : updR ρ (U s₀ j₀) = ρ) (hI : Inv 0 s₀)
  (hs : ∀ k s j a,xs[k]? = some a→Inv k s→(p a = true→Inv (k + 1) (st s a))∧∃ ρ₁,bindT sc (updR ρ (U s j)) tgt (f a) = some ρ₁∧(p a = true→∃ j',exN P n sc ρ₁ b = some (.next (updR ρ (U (st s a) j'))))∧(p a = false→∃ j',exN P n sc ρ₁ b = some (.brk (updR ρ (U s j')))))
  (k : ∀ j,Inv (xs.takeWhile p).length ((xs.takeWhile p).foldl st s₀)→Qr (exN P (n + 1) sc (updR ρ (U ((xs.takeWhile p).foldl st s₀) j)) r)) : Qr (nxS P n sc r (forX P n sc tgt b ρ (xs.map f))):=by
 have go : ∀ (ys : List α) (k : Nat) (s : σ) (j : J),xs.drop k = ys→Inv k s→∃ j₁,forX P n sc tgt b (updR ρ (U s j)) (ys.map f) = some (.next (updR ρ (U ((ys.takeWhile p).foldl st s) j₁)))∧Inv (k + (ys.takeWhile p).length) ((ys.takeWhile p).foldl st s):=by
  intro ys
  induction ys with
  | nil=>intro k s j _ i; exact ⟨j,rfl,i⟩
  | cons a ys ih =>
   intro k s j hd i
   have ha : xs[k]? = some a:=by
    have:=congrArg (fun l=>l[0]?) hd
    simpa using this
   have hd' : xs.drop (k + 1) = ys:=by rw [← List.drop_drop,hd]; rfl
   obtain ⟨i',ρ₁,h1,h2,h3⟩:=hs k s j a ha i
   rw [List.map_cons]
   generalize hp : p a = r_; induction r_ using Bool.casesOn with
   | true =>
    refine e1a1 (h2 hp) fun j' e'=>?_
    refine e1a2 (ih (k + 1) (st s a) j' hd' (i' hp)) fun j'' e i''=>?_
    refine ⟨j'',?_,?_⟩
    ·rw [List.takeWhile_cons_of_pos hp,List.foldl_cons,for_next h1 e']; exact e
    ·rw [List.takeWhile_cons_of_pos hp,List.foldl_cons,List.length_cons,show k + ((ys.takeWhile p).length + 1) = k + 1 + (ys.takeWhile p).length by omega]; exact i''
   | false =>
    refine e1a1 (h3 hp) fun j' e'=>?_
    refine ⟨j',?_,?_⟩
    ·rw [List.takeWhile_cons_of_neg (by simp [hp]),for_brk h1 e']; rfl
    ·rw [List.takeWhile_cons_of_neg (by simp [hp])]; exact i
 refine e1a2 (go xs 0 s₀ j₀ rfl hI) fun j e i=>?_
 rw [h0] at e
 rw [e]
 exact k j (by simpa using i)
noncomputable abbrev EnP (α : Type):=List (String×α)
noncomputable abbrev enS {α : Type} (p : EnP α) : List (Str×α):=p.map fun q=>(ofString q.1,q.2)
noncomputable abbrev noN {α : Type} (p : EnP α) (a : String) : Bool:=(p.map (·.1)).contains a
theorem lk_far {α : Type} {a : String} {r : List (Str×α)} (p : EnP α) (h : noN p a = false) : List.lookup (ofString a) (enS p ++ r) = List.lookup (ofString a) r:=by
 induction p with
 | nil=>rfl
 | cons q p ih =>
  have h : (a == q.1 || noN p a) = false:=h
  obtain ⟨h1,h2⟩:=Bool.or_eq_false_iff.mp h
  show List.lookup (ofString a) ((ofString q.1,q.2) :: (enS p ++ r)) = _
  rw [lk_cons,if_neg (beq_eq_false_iff_ne.mp h1),ih h2]
theorem lk_here {α : Type} {a : String} {v : α} {r : List (Str×α)} : List.lookup (ofString a) ((ofString a,v) :: r) = some v:=by rw [lk_cons,if_pos rfl]
theorem lk_at {α : Type} {a : String} {v : α} {r : List (Str×α)} (p : EnP α) (h : noN p a = false) : List.lookup (ofString a) (enS p ++ (ofString a,v) :: r) = some v:=(lk_far p h).trans lk_here
theorem lk_not {α : Type} {a : String} (p : EnP α) (h : noN p a = false) : List.lookup (ofString a) (enS p) = none:=by
 have:=lk_far (r:=[]) p h
 rw [List.append_nil] at this
 exact this
theorem sr_far {a : String} {v : LV} {r : Rho} (p : EnP LV) (h : noN p a = false) : setR (enS p ++ r) (ofString a) v = enS p ++ setR r (ofString a) v:=by
 induction p with
 | nil=>rfl
 | cons q p ih =>
  have h : (a == q.1 || noN p a) = false:=h
  obtain ⟨h1,h2⟩:=Bool.or_eq_false_iff.mp h
  show setR ((ofString q.1,q.2) :: (enS p ++ r)) _ _ = _
  rw [setR_cons,if_neg (fun z=>beq_eq_false_iff_ne.mp h1 z.symm),ih h2]
  rfl
theorem sr_here {a : String} {u v : LV} {r : Rho} : setR ((ofString a,u) :: r) (ofString a) v = (ofString a,v) :: setR r (ofString a) v:=by rw [setR_cons,if_pos rfl]
theorem sr_at {a : String} {u v : LV} {r : Rho} (p : EnP LV) (h : noN p a = false) : setR (enS p ++ (ofString a,u) :: r) (ofString a) v = enS p ++ (ofString a,v) :: setR r (ofString a) v:=by rw [sr_far p h,sr_here]
theorem sr_not {a : String} {v : LV} (p : EnP LV) (h : noN p a = false) : setR (enS p) (ofString a) v = enS p:=by
 have:=sr_far (r:=[]) (v:=v) p h
 rw [List.append_nil] at this
 rw [this]; exact List.append_nil _
noncomputable def nmk (a : String) (l : List String) : Bool:=!(a == "__debug__") && !(a == "__classdict__") && !(l.contains a)
theorem nmk_is {a : String} {l : List String} (h : nmk a l = true) : nmOk (ofString a) = true∧l.contains a = false:=by
 unfold nmk at h
 rw [yr]
 obtain ⟨h1,h2⟩:=Bool.and_eq_true_iff.mp h
 exact ⟨h1,by simpa using h2⟩
section
variable {P : Pg} {n : Nat} {sc : Scope} {ρ : Rho}
theorem nm_at {a : String} {q : Pos} {d : D} {r : Rho} (p : EnP LV) (h : nmk a (p.map (·.1)) = true) : (evN P (n + 1)).e sc (enS p ++ (ofString a,.fz d) :: r) (.Name (ofString a) q) = some d:=by
 obtain ⟨h1,h2⟩:=nmk_is h
 rw [ev_name,if_pos h1,lk_at p h2]; rfl
noncomputable def ask (sc : Scope) (a : String) (l : List String) : Bool:=storable sc (ofString a) && !(l.contains a)
theorem as_at {a : String} {u v : LV} {r : Rho} (p : EnP LV) (h : ask sc a (p.map (·.1)) = true) : asgN sc (enS p ++ (ofString a,u) :: r) (ofString a) v = some (enS p ++ (ofString a,v) :: setR r (ofString a) v):=by
 obtain ⟨h1,h2⟩:=Bool.and_eq_true_iff.mp h
 have h2 : noN p a = false:=by simpa using h2
 unfold asgN hasR
 rw [h1,lk_at p h2,sr_at p h2]; rfl
theorem j3 {α : Type} {a : String} {v : α} {r : List (Str×α)} (h : [].contains a = false) : List.lookup (ofString a) ((ofString a,v) :: r) = some v:=lk_at [] h
theorem kI {a : String} {u v : LV} {r : Rho} (h : [].contains a = false) : setR ((ofString a,u) :: r) (ofString a) v = (ofString a,v) :: setR r (ofString a) v:=sr_at [] h
theorem jH {a : String} {q : Pos} {d : D} {r : Rho} (h : nmk a [] = true) : (evN P (n + 1)).e sc ((ofString a,.fz d) :: r) (.Name (ofString a) q) = some d:=nm_at [] h
theorem ql {a : String} {u v : LV} {r : Rho} (h : ask sc a [] = true) : asgN sc ((ofString a,u) :: r) (ofString a) v = some ((ofString a,v) :: setR r (ofString a) v):=as_at [] h
theorem j4 {α : Type} {a b0 : String} {v0 : α} {v : α} {r : List (Str×α)} (h : [b0].contains a = false) : List.lookup (ofString a) ((ofString b0,v0) :: (ofString a,v) :: r) = some v:=lk_at [(b0,v0)] h
theorem kv {α : Type} {a b0 : String} {v0 : α} (h : [b0].contains a = false) : List.lookup (ofString a) ([(ofString b0,v0)] : List (Str×α)) = none:=lk_not [(b0,v0)] h
theorem kJ {a b0 : String} {v0 : LV} {u v : LV} {r : Rho} (h : [b0].contains a = false) : setR ((ofString b0,v0) :: (ofString a,u) :: r) (ofString a) v = (ofString b0,v0) :: (ofString a,v) :: setR r (ofString a) v:=sr_at [(b0,v0)] h
theorem kR {a b0 : String} {v0 : LV} {v : LV} (h : [b0].contains a = false) : setR [(ofString b0,v0)] (ofString a) v = [(ofString b0,v0)]:=sr_not [(b0,v0)] h
theorem jI {a b0 : String} {v0 : LV} {q : Pos} {d : D} {r : Rho} (h : nmk a [b0] = true) : (evN P (n + 1)).e sc ((ofString b0,v0) :: (ofString a,.fz d) :: r) (.Name (ofString a) q) = some d:=nm_at [(b0,v0)] h
theorem qm {a b0 : String} {v0 : LV} {u v : LV} {r : Rho} (h : ask sc a [b0] = true) : asgN sc ((ofString b0,v0) :: (ofString a,u) :: r) (ofString a) v = some ((ofString b0,v0) :: (ofString a,v) :: setR r (ofString a) v):=as_at [(b0,v0)] h
theorem j5 {α : Type} {a b0 b1 : String} {v0 v1 : α} {v : α} {r : List (Str×α)} (h : [b0,b1].contains a = false) : List.lookup (ofString a) ((ofString b0,v0) :: (ofString b1,v1) :: (ofString a,v) :: r) = some v:=lk_at [(b0,v0),(b1,v1)] h
theorem kx {α : Type} {a b0 b1 : String} {v0 v1 : α} (h : [b0,b1].contains a = false) : List.lookup (ofString a) ([(ofString b0,v0),(ofString b1,v1)] : List (Str×α)) = none:=lk_not [(b0,v0),(b1,v1)] h
theorem kK {a b0 b1 : String} {v0 v1 : LV} {u v : LV} {r : Rho} (h : [b0,b1].contains a = false) : setR ((ofString b0,v0) :: (ofString b1,v1) :: (ofString a,u) :: r) (ofString a) v = (ofString b0,v0) :: (ofString b1,v1) :: (ofString a,v) :: setR r (ofString a) v:=sr_at [(b0,v0),(b1,v1)] h
theorem kT {a b0 b1 : String} {v0 v1 : LV} {v : LV} (h : [b0,b1].contains a = false) : setR [(ofString b0,v0),(ofString b1,v1)] (ofString a) v = [(ofString b0,v0),(ofString b1,v1)]:=sr_not [(b0,v0),(b1,v1)] h
theorem jJ {a b0 b1 : String} {v0 v1 : LV} {q : Pos} {d : D} {r : Rho} (h : nmk a [b0,b1] = true) : (evN P (n + 1)).e sc ((ofString b0,v0) :: (ofString b1,v1) :: (ofString a,.fz d) :: r) (.Name (ofString a) q) = some d:=nm_at [(b0,v0),(b1,v1)] h
theorem qn {a b0 b1 : String} {v0 v1 : LV} {u v : LV} {r : Rho} (h : ask sc a [b0,b1] = true) : asgN sc ((ofString b0,v0) :: (ofString b1,v1) :: (ofString a,u) :: r) (ofString a) v = some ((ofString b0,v0) :: (ofString b1,v1) :: (ofString a,v) :: setR r (ofString a) v):=as_at [(b0,v0),(b1,v1)] h
theorem j6 {α : Type} {a b0 b1 b2 : String} {v0 v1 v2 : α} {v : α} {r : List (Str×α)} (h : [b0,b1,b2].contains a = false) : List.lookup (ofString a) ((ofString b0,v0) :: (ofString b1,v1) :: (ofString b2,v2) :: (ofString a,v) :: r) = some v:=lk_at [(b0,v0),(b1,v1),(b2,v2)] h
theorem ky {α : Type} {a b0 b1 b2 : String} {v0 v1 v2 : α} (h : [b0,b1,b2].contains a = false) : List.lookup (ofString a) ([(ofString b0,v0),(ofString b1,v1),(ofString b2,v2)] : List (Str×α)) = none:=lk_not [(b0,v0),(b1,v1),(b2,v2)] h
theorem kL {a b0 b1 b2 : String} {v0 v1 v2 : LV} {u v : LV} {r : Rho} (h : [b0,b1,b2].contains a = false) : setR ((ofString b0,v0) :: (ofString b1,v1) :: (ofString b2,v2) :: (ofString a,u) :: r) (ofString a) v = (ofString b0,v0) :: (ofString b1,v1) :: (ofString b2,v2) :: (ofString a,v) :: setR r (ofString a) v:=sr_at [(b0,v0),(b1,v1),(b2,v2)] h
theorem kU {a b0 b1 b2 : String} {v0 v1 v2 : LV} {v : LV} (h : [b0,b1,b2].contains a = false) : setR [(ofString b0,v0),(ofString b1,v1),(ofString b2,v2)] (ofString a) v = [(ofString b0,v0),(ofString b1,v1),(ofString b2,v2)]:=sr_not [(b0,v0),(b1,v1),(b2,v2)] h
theorem jK {a b0 b1 b2 : String} {v0 v1 v2 : LV} {q : Pos} {d : D} {r : Rho} (h : nmk a [b0,b1,b2] = true) : (evN P (n + 1)).e sc ((ofString b0,v0) :: (ofString b1,v1) :: (ofString b2,v2) :: (ofString a,.fz d) :: r) (.Name (ofString a) q) = some d:=nm_at [(b0,v0),(b1,v1),(b2,v2)] h
theorem qo {a b0 b1 b2 : String} {v0 v1 v2 : LV} {u v : LV} {r : Rho} (h : ask sc a [b0,b1,b2] = true) : asgN sc ((ofString b0,v0) :: (ofString b1,v1) :: (ofString b2,v2) :: (ofString a,u) :: r) (ofString a) v = some ((ofString b0,v0) :: (ofString b1,v1) :: (ofString b2,v2) :: (ofString a,v) :: setR r (ofString a) v):=as_at [(b0,v0),(b1,v1),(b2,v2)] h
theorem j7 {α : Type} {a b0 b1 b2 b3 : String} {v0 v1 v2 v3 : α} {v : α} {r : List (Str×α)} (h : [b0,b1,b2,b3].contains a = false) : List.lookup (ofString a) ((ofString b0,v0) :: (ofString b1,v1) :: (ofString b2,v2) :: (ofString b3,v3) :: (ofString a,v) :: r) = some v:=lk_at [(b0,v0),(b1,v1),(b2,v2),(b3,v3)] h
theorem kz {α : Type} {a b0 b1 b2 b3 : String} {v0 v1 v2 v3 : α} (h : [b0,b1,b2,b3].contains a = false) : List.lookup (ofString a) ([(ofString b0,v0),(ofString b1,v1),(ofString b2,v2),(ofString b3,v3)] : List (Str×α)) = none:=lk_not [(b0,v0),(b1,v1),(b2,v2),(b3,v3)] h
theorem kM {a b0 b1 b2 b3 : String} {v0 v1 v2 v3 : LV} {u v : LV} {r : Rho} (h : [b0,b1,b2,b3].contains a = false) : setR ((ofString b0,v0) :: (ofString b1,v1) :: (ofString b2,v2) :: (ofString b3,v3) :: (ofString a,u) :: r) (ofString a) v = (ofString b0,v0) :: (ofString b1,v1) :: (ofString b2,v2) :: (ofString b3,v3) :: (ofString a,v) :: setR r (ofString a) v:=sr_at [(b0,v0),(b1,v1),(b2,v2),(b3,v3)] h
theorem kW {a b0 b1 b2 b3 : String} {v0 v1 v2 v3 : LV} {v : LV} (h : [b0,b1,b2,b3].contains a = false) : setR [(ofString b0,v0),(ofString b1,v1),(ofString b2,v2),(ofString b3,v3)] (ofString a) v = [(ofString b0,v0),(ofString b1,v1),(ofString b2,v2),(ofString b3,v3)]:=sr_not [(b0,v0),(b1,v1),(b2,v2),(b3,v3)] h
theorem jL {a b0 b1 b2 b3 : String} {v0 v1 v2 v3 : LV} {q : Pos} {d : D} {r : Rho} (h : nmk a [b0,b1,b2,b3] = true) : (evN P (n + 1)).e sc ((ofString b0,v0) :: (ofString b1,v1) :: (ofString b2,v2) :: (ofString b3,v3) :: (ofString a,.fz d) :: r) (.Name (ofString a) q) = some d:=nm_at [(b0,v0),(b1,v1),(b2,v2),(b3,v3)] h
theorem qp {a b0 b1 b2 b3 : String} {v0 v1 v2 v3 : LV} {u v : LV} {r : Rho} (h : ask sc a [b0,b1,b2,b3] = true) : asgN sc ((ofString b0,v0) :: (ofString b1,v1) :: (ofString b2,v2) :: (ofString b3,v3) :: (ofString a,u) :: r) (ofString a) v = some ((ofString b0,v0) :: (ofString b1,v1) :: (ofString b2,v2) :: (ofString b3,v3) :: (ofString a,v) :: setR r (ofString a) v):=as_at [(b0,v0),(b1,v1),(b2,v2),(b3,v3)] h
theorem j8 {α : Type} {a b0 b1 b2 b3 b4 : String} {v0 v1 v2 v3 v4 : α} {v : α} {r : List (Str×α)} (h : [b0,b1,b2,b3,b4].contains a = false) : List.lookup (ofString a) ((ofString b0,v0) :: (ofString b1,v1) :: (ofString b2,v2) :: (ofString b3,v3) :: (ofString b4,v4) :: (ofString a,v) :: r) = some v:=lk_at [(b0,v0),(b1,v1),(b2,v2),(b3,v3),(b4,v4)] h
theorem kA {α : Type} {a b0 b1 b2 b3 b4 : String} {v0 v1 v2 v3 v4 : α} (h : [b0,b1,b2,b3,b4].contains a = false) : List.lookup (ofString a) ([(ofString b0,v0),(ofString b1,v1),(ofString b2,v2),(ofString b3,v3),(ofString b4,v4)] : List (Str×α)) = none:=lk_not [(b0,v0),(b1,v1),(b2,v2),(b3,v3),(b4,v4)] h
theorem kN {a b0 b1 b2 b3 b4 : String} {v0 v1 v2 v3 v4 : LV} {u v : LV} {r : Rho} (h : [b0,b1,b2,b3,b4].contains a = false) : setR ((ofString b0,v0) :: (ofString b1,v1) :: (ofString b2,v2) :: (ofString b3,v3) :: (ofString b4,v4) :: (ofString a,u) :: r) (ofString a) v = (ofString b0,v0) :: (ofString b1,v1) :: (ofString b2,v2) :: (ofString b3,v3) :: (ofString b4,v4) :: (ofString a,v) :: setR r (ofString a) v:=sr_at [(b0,v0),(b1,v1),(b2,v2),(b3,v3),(b4,v4)] h
theorem kZ {a b0 b1 b2 b3 b4 : String} {v0 v1 v2 v3 v4 : LV} {v : LV} (h : [b0,b1,b2,b3,b4].contains a = false) : setR [(ofString b0,v0),(ofString b1,v1),(ofString b2,v2),(ofString b3,v3),(ofString b4,v4)] (ofString a) v = [(ofString b0,v0),(ofString b1,v1),(ofString b2,v2),(ofString b3,v3),(ofString b4,v4)]:=sr_not [(b0,v0),(b1,v1),(b2,v2),(b3,v3),(b4,v4)] h
theorem jM {a b0 b1 b2 b3 b4 : String} {v0 v1 v2 v3 v4 : LV} {q : Pos} {d : D} {r : Rho} (h : nmk a [b0,b1,b2,b3,b4] = true) : (evN P (n + 1)).e sc ((ofString b0,v0) :: (ofString b1,v1) :: (ofString b2,v2) :: (ofString b3,v3) :: (ofString b4,v4) :: (ofString a,.fz d) :: r) (.Name (ofString a) q) = some d:=nm_at [(b0,v0),(b1,v1),(b2,v2),(b3,v3),(b4,v4)] h
theorem qr {a b0 b1 b2 b3 b4 : String} {v0 v1 v2 v3 v4 : LV} {u v : LV} {r : Rho} (h : ask sc a [b0,b1,b2,b3,b4] = true) : asgN sc ((ofString b0,v0) :: (ofString b1,v1) :: (ofString b2,v2) :: (ofString b3,v3) :: (ofString b4,v4) :: (ofString a,u) :: r) (ofString a) v = some ((ofString b0,v0) :: (ofString b1,v1) :: (ofString b2,v2) :: (ofString b3,v3) :: (ofString b4,v4) :: (ofString a,v) :: setR r (ofString a) v):=as_at [(b0,v0),(b1,v1),(b2,v2),(b3,v3),(b4,v4)] h
theorem j9 {α : Type} {a b0 b1 b2 b3 b4 b5 : String} {v0 v1 v2 v3 v4 v5 : α} {v : α} {r : List (Str×α)} (h : [b0,b1,b2,b3,b4,b5].contains a = false) : List.lookup (ofString a) ((ofString b0,v0) :: (ofString b1,v1) :: (ofString b2,v2) :: (ofString b3,v3) :: (ofString b4,v4) :: (ofString b5,v5) :: (ofString a,v) :: r) = some v:=lk_at [(b0,v0),(b1,v1),(b2,v2),(b3,v3),(b4,v4),(b5,v5)] h
theorem kC {α : Type} {a b0 b1 b2 b3 b4 b5 : String} {v0 v1 v2 v3 v4 v5 : α} (h : [b0,b1,b2,b3,b4,b5].contains a = false) : List.lookup (ofString a) ([(ofString b0,v0),(ofString b1,v1),(ofString b2,v2),(ofString b3,v3),(ofString b4,v4),(ofString b5,v5)] : List (Str×α)) = none:=lk_not [(b0,v0),(b1,v1),(b2,v2),(b3,v3),(b4,v4),(b5,v5)] h
theorem kO {a b0 b1 b2 b3 b4 b5 : String} {v0 v1 v2 v3 v4 v5 : LV} {u v : LV} {r : Rho} (h : [b0,b1,b2,b3,b4,b5].contains a = false) : setR ((ofString b0,v0) :: (ofString b1,v1) :: (ofString b2,v2) :: (ofString b3,v3) :: (ofString b4,v4) :: (ofString b5,v5) :: (ofString a,u) :: r) (ofString a) v = (ofString b0,v0) :: (ofString b1,v1) :: (ofString b2,v2) :: (ofString b3,v3) :: (ofString b4,v4) :: (ofString b5,v5) :: (ofString a,v) :: setR r (ofString a) v:=sr_at [(b0,v0),(b1,v1),(b2,v2),(b3,v3),(b4,v4),(b5,v5)] h
theorem k7 {a b0 b1 b2 b3 b4 b5 : String} {v0 v1 v2 v3 v4 v5 : LV} {v : LV} (h : [b0,b1,b2,b3,b4,b5].contains a = false) : setR [(ofString b0,v0),(ofString b1,v1),(ofString b2,v2),(ofString b3,v3),(ofString b4,v4),(ofString b5,v5)] (ofString a) v = [(ofString b0,v0),(ofString b1,v1),(ofString b2,v2),(ofString b3,v3),(ofString b4,v4),(ofString b5,v5)]:=sr_not [(b0,v0),(b1,v1),(b2,v2),(b3,v3),(b4,v4),(b5,v5)] h
theorem jN {a b0 b1 b2 b3 b4 b5 : String} {v0 v1 v2 v3 v4 v5 : LV} {q : Pos} {d : D} {r : Rho} (h : nmk a [b0,b1,b2,b3,b4,b5] = true) : (evN P (n + 1)).e sc ((ofString b0,v0) :: (ofString b1,v1) :: (ofString b2,v2) :: (ofString b3,v3) :: (ofString b4,v4) :: (ofString b5,v5) :: (ofString a,.fz d) :: r) (.Name (ofString a) q) = some d:=nm_at [(b0,v0),(b1,v1),(b2,v2),(b3,v3),(b4,v4),(b5,v5)] h
theorem qs {a b0 b1 b2 b3 b4 b5 : String} {v0 v1 v2 v3 v4 v5 : LV} {u v : LV} {r : Rho} (h : ask sc a [b0,b1,b2,b3,b4,b5] = true) : asgN sc ((ofString b0,v0) :: (ofString b1,v1) :: (ofString b2,v2) :: (ofString b3,v3) :: (ofString b4,v4) :: (ofString b5,v5) :: (ofString a,u) :: r) (ofString a) v = some ((ofString b0,v0) :: (ofString b1,v1) :: (ofString b2,v2) :: (ofString b3,v3) :: (ofString b4,v4) :: (ofString b5,v5) :: (ofString a,v) :: setR r (ofString a) v):=as_at [(b0,v0),(b1,v1),(b2,v2),(b3,v3),(b4,v4),(b5,v5)] h
theorem ka {α : Type} {a b0 b1 b2 b3 b4 b5 b6 : String} {v0 v1 v2 v3 v4 v5 v6 : α} {v : α} {r : List (Str×α)} (h : [b0,b1,b2,b3,b4,b5,b6].contains a = false) : List.lookup (ofString a) ((ofString b0,v0) :: (ofString b1,v1) :: (ofString b2,v2) :: (ofString b3,v3) :: (ofString b4,v4) :: (ofString b5,v5) :: (ofString b6,v6) :: (ofString a,v) :: r) = some v:=lk_at [(b0,v0),(b1,v1),(b2,v2),(b3,v3),(b4,v4),(b5,v5),(b6,v6)] h
theorem kD {α : Type} {a b0 b1 b2 b3 b4 b5 b6 : String} {v0 v1 v2 v3 v4 v5 v6 : α} (h : [b0,b1,b2,b3,b4,b5,b6].contains a = false) : List.lookup (ofString a) ([(ofString b0,v0),(ofString b1,v1),(ofString b2,v2),(ofString b3,v3),(ofString b4,v4),(ofString b5,v5),(ofString b6,v6)] : List (Str×α)) = none:=lk_not [(b0,v0),(b1,v1),(b2,v2),(b3,v3),(b4,v4),(b5,v5),(b6,v6)] h
theorem kP {a b0 b1 b2 b3 b4 b5 b6 : String} {v0 v1 v2 v3 v4 v5 v6 : LV} {u v : LV} {r : Rho} (h : [b0,b1,b2,b3,b4,b5,b6].contains a = false) : setR ((ofString b0,v0) :: (ofString b1,v1) :: (ofString b2,v2) :: (ofString b3,v3) :: (ofString b4,v4) :: (ofString b5,v5) :: (ofString b6,v6) :: (ofString a,u) :: r) (ofString a) v = (ofString b0,v0) :: (ofString b1,v1) :: (ofString b2,v2) :: (ofString b3,v3) :: (ofString b4,v4) :: (ofString b5,v5) :: (ofString b6,v6) :: (ofString a,v) :: setR r (ofString a) v:=sr_at [(b0,v0),(b1,v1),(b2,v2),(b3,v3),(b4,v4),(b5,v5),(b6,v6)] h
theorem k9 {a b0 b1 b2 b3 b4 b5 b6 : String} {v0 v1 v2 v3 v4 v5 v6 : LV} {v : LV} (h : [b0,b1,b2,b3,b4,b5,b6].contains a = false) : setR [(ofString b0,v0),(ofString b1,v1),(ofString b2,v2),(ofString b3,v3),(ofString b4,v4),(ofString b5,v5),(ofString b6,v6)] (ofString a) v = [(ofString b0,v0),(ofString b1,v1),(ofString b2,v2),(ofString b3,v3),(ofString b4,v4),(ofString b5,v5),(ofString b6,v6)]:=sr_not [(b0,v0),(b1,v1),(b2,v2),(b3,v3),(b4,v4),(b5,v5),(b6,v6)] h
theorem jO {a b0 b1 b2 b3 b4 b5 b6 : String} {v0 v1 v2 v3 v4 v5 v6 : LV} {q : Pos} {d : D} {r : Rho} (h : nmk a [b0,b1,b2,b3,b4,b5,b6] = true) : (evN P (n + 1)).e sc ((ofString b0,v0) :: (ofString b1,v1) :: (ofString b2,v2) :: (ofString b3,v3) :: (ofString b4,v4) :: (ofString b5,v5) :: (ofString b6,v6) :: (ofString a,.fz d) :: r) (.Name (ofString a) q) = some d:=nm_at [(b0,v0),(b1,v1),(b2,v2),(b3,v3),(b4,v4),(b5,v5),(b6,v6)] h
theorem qt {a b0 b1 b2 b3 b4 b5 b6 : String} {v0 v1 v2 v3 v4 v5 v6 : LV} {u v : LV} {r : Rho} (h : ask sc a [b0,b1,b2,b3,b4,b5,b6] = true) : asgN sc ((ofString b0,v0) :: (ofString b1,v1) :: (ofString b2,v2) :: (ofString b3,v3) :: (ofString b4,v4) :: (ofString b5,v5) :: (ofString b6,v6) :: (ofString a,u) :: r) (ofString a) v = some ((ofString b0,v0) :: (ofString b1,v1) :: (ofString b2,v2) :: (ofString b3,v3) :: (ofString b4,v4) :: (ofString b5,v5) :: (ofString b6,v6) :: (ofString a,v) :: setR r (ofString a) v):=as_at [(b0,v0),(b1,v1),(b2,v2),(b3,v3),(b4,v4),(b5,v5),(b6,v6)] h
theorem kc {α : Type} {a b0 b1 b2 b3 b4 b5 b6 b7 : String} {v0 v1 v2 v3 v4 v5 v6 v7 : α} {v : α} {r : List (Str×α)} (h : [b0,b1,b2,b3,b4,b5,b6,b7].contains a = false) : List.lookup (ofString a) ((ofString b0,v0) :: (ofString b1,v1) :: (ofString b2,v2) :: (ofString b3,v3) :: (ofString b4,v4) :: (ofString b5,v5) :: (ofString b6,v6) :: (ofString b7,v7) :: (ofString a,v) :: r) = some v:=lk_at [(b0,v0),(b1,v1),(b2,v2),(b3,v3),(b4,v4),(b5,v5),(b6,v6),(b7,v7)] h
theorem kE {α : Type} {a b0 b1 b2 b3 b4 b5 b6 b7 : String} {v0 v1 v2 v3 v4 v5 v6 v7 : α} (h : [b0,b1,b2,b3,b4,b5,b6,b7].contains a = false) : List.lookup (ofString a) ([(ofString b0,v0),(ofString b1,v1),(ofString b2,v2),(ofString b3,v3),(ofString b4,v4),(ofString b5,v5),(ofString b6,v6),(ofString b7,v7)] : List (Str×α)) = none:=lk_not [(b0,v0),(b1,v1),(b2,v2),(b3,v3),(b4,v4),(b5,v5),(b6,v6),(b7,v7)] h
theorem kQ {a b0 b1 b2 b3 b4 b5 b6 b7 : String} {v0 v1 v2 v3 v4 v5 v6 v7 : LV} {u v : LV} {r : Rho} (h : [b0,b1,b2,b3,b4,b5,b6,b7].contains a = false) : setR ((ofString b0,v0) :: (ofString b1,v1) :: (ofString b2,v2) :: (ofString b3,v3) :: (ofString b4,v4) :: (ofString b5,v5) :: (ofString b6,v6) :: (ofString b7,v7) :: (ofString a,u) :: r) (ofString a) v = (ofString b0,v0) :: (ofString b1,v1) :: (ofString b2,v2) :: (ofString b3,v3) :: (ofString b4,v4) :: (ofString b5,v5) :: (ofString b6,v6) :: (ofString b7,v7) :: (ofString a,v) :: setR r (ofString a) v:=sr_at [(b0,v0),(b1,v1),(b2,v2),(b3,v3),(b4,v4),(b5,v5),(b6,v6),(b7,v7)] h
theorem qa {a b0 b1 b2 b3 b4 b5 b6 b7 : String} {v0 v1 v2 v3 v4 v5 v6 v7 : LV} {v : LV} (h : [b0,b1,b2,b3,b4,b5,b6,b7].contains a = false) : setR [(ofString b0,v0),(ofString b1,v1),(ofString b2,v2),(ofString b3,v3),(ofString b4,v4),(ofString b5,v5),(ofString b6,v6),(ofString b7,v7)] (ofString a) v = [(ofString b0,v0),(ofString b1,v1),(ofString b2,v2),(ofString b3,v3),(ofString b4,v4),(ofString b5,v5),(ofString b6,v6),(ofString b7,v7)]:=sr_not [(b0,v0),(b1,v1),(b2,v2),(b3,v3),(b4,v4),(b5,v5),(b6,v6),(b7,v7)] h
theorem jP {a b0 b1 b2 b3 b4 b5 b6 b7 : String} {v0 v1 v2 v3 v4 v5 v6 v7 : LV} {q : Pos} {d : D} {r : Rho} (h : nmk a [b0,b1,b2,b3,b4,b5,b6,b7] = true) : (evN P (n + 1)).e sc ((ofString b0,v0) :: (ofString b1,v1) :: (ofString b2,v2) :: (ofString b3,v3) :: (ofString b4,v4) :: (ofString b5,v5) :: (ofString b6,v6) :: (ofString b7,v7) :: (ofString a,.fz d) :: r) (.Name (ofString a) q) = some d:=nm_at [(b0,v0),(b1,v1),(b2,v2),(b3,v3),(b4,v4),(b5,v5),(b6,v6),(b7,v7)] h
theorem qu {a b0 b1 b2 b3 b4 b5 b6 b7 : String} {v0 v1 v2 v3 v4 v5 v6 v7 : LV} {u v : LV} {r : Rho} (h : ask sc a [b0,b1,b2,b3,b4,b5,b6,b7] = true) : asgN sc ((ofString b0,v0) :: (ofString b1,v1) :: (ofString b2,v2) :: (ofString b3,v3) :: (ofString b4,v4) :: (ofString b5,v5) :: (ofString b6,v6) :: (ofString b7,v7) :: (ofString a,u) :: r) (ofString a) v = some ((ofString b0,v0) :: (ofString b1,v1) :: (ofString b2,v2) :: (ofString b3,v3) :: (ofString b4,v4) :: (ofString b5,v5) :: (ofString b6,v6) :: (ofString b7,v7) :: (ofString a,v) :: setR r (ofString a) v):=as_at [(b0,v0),(b1,v1),(b2,v2),(b3,v3),(b4,v4),(b5,v5),(b6,v6),(b7,v7)] h
theorem kd {α : Type} {a b0 b1 b2 b3 b4 b5 b6 b7 b8 : String} {v0 v1 v2 v3 v4 v5 v6 v7 v8 : α} {v : α} {r : List (Str×α)} (h : [b0,b1,b2,b3,b4,b5,b6,b7,b8].contains a = false) : List.lookup (ofString a) ((ofString b0,v0) :: (ofString b1,v1) :: (ofString b2,v2) :: (ofString b3,v3) :: (ofString b4,v4) :: (ofString b5,v5) :: (ofString b6,v6) :: (ofString b7,v7) :: (ofString b8,v8) :: (ofString a,v) :: r) = some v:=lk_at [(b0,v0),(b1,v1),(b2,v2),(b3,v3),(b4,v4),(b5,v5),(b6,v6),(b7,v7),(b8,v8)] h
theorem kF {α : Type} {a b0 b1 b2 b3 b4 b5 b6 b7 b8 : String} {v0 v1 v2 v3 v4 v5 v6 v7 v8 : α} (h : [b0,b1,b2,b3,b4,b5,b6,b7,b8].contains a = false) : List.lookup (ofString a) ([(ofString b0,v0),(ofString b1,v1),(ofString b2,v2),(ofString b3,v3),(ofString b4,v4),(ofString b5,v5),(ofString b6,v6),(ofString b7,v7),(ofString b8,v8)] : List (Str×α)) = none:=lk_not [(b0,v0),(b1,v1),(b2,v2),(b3,v3),(b4,v4),(b5,v5),(b6,v6),(b7,v7),(b8,v8)] h
theorem qb {a b0 b1 b2 b3 b4 b5 b6 b7 b8 : String} {v0 v1 v2 v3 v4 v5 v6 v7 v8 : LV} {v : LV} (h : [b0,b1,b2,b3,b4,b5,b6,b7,b8].contains a = false) : setR [(ofString b0,v0),(ofString b1,v1),(ofString b2,v2),(ofString b3,v3),(ofString b4,v4),(ofString b5,v5),(ofString b6,v6),(ofString b7,v7),(ofString b8,v8)] (ofString a) v = [(ofString b0,v0),(ofString b1,v1),(ofString b2,v2),(ofString b3,v3),(ofString b4,v4),(ofString b5,v5),(ofString b6,v6),(ofString b7,v7),(ofString b8,v8)]:=sr_not [(b0,v0),(b1,v1),(b2,v2),(b3,v3),(b4,v4),(b5,v5),(b6,v6),(b7,v7),(b8,v8)] h
theorem jQ {a b0 b1 b2 b3 b4 b5 b6 b7 b8 : String} {v0 v1 v2 v3 v4 v5 v6 v7 v8 : LV} {q : Pos} {d : D} {r : Rho} (h : nmk a [b0,b1,b2,b3,b4,b5,b6,b7,b8] = true) : (evN P (n + 1)).e sc ((ofString b0,v0) :: (ofString b1,v1) :: (ofString b2,v2) :: (ofString b3,v3) :: (ofString b4,v4) :: (ofString b5,v5) :: (ofString b6,v6) :: (ofString b7,v7) :: (ofString b8,v8) :: (ofString a,.fz d) :: r) (.Name (ofString a) q) = some d:=nm_at [(b0,v0),(b1,v1),(b2,v2),(b3,v3),(b4,v4),(b5,v5),(b6,v6),(b7,v7),(b8,v8)] h
theorem qv {a b0 b1 b2 b3 b4 b5 b6 b7 b8 : String} {v0 v1 v2 v3 v4 v5 v6 v7 v8 : LV} {u v : LV} {r : Rho} (h : ask sc a [b0,b1,b2,b3,b4,b5,b6,b7,b8] = true) : asgN sc ((ofString b0,v0) :: (ofString b1,v1) :: (ofString b2,v2) :: (ofString b3,v3) :: (ofString b4,v4) :: (ofString b5,v5) :: (ofString b6,v6) :: (ofString b7,v7) :: (ofString b8,v8) :: (ofString a,u) :: r) (ofString a) v = some ((ofString b0,v0) :: (ofString b1,v1) :: (ofString b2,v2) :: (ofString b3,v3) :: (ofString b4,v4) :: (ofString b5,v5) :: (ofString b6,v6) :: (ofString b7,v7) :: (ofString b8,v8) :: (ofString a,v) :: setR r (ofString a) v):=as_at [(b0,v0),(b1,v1),(b2,v2),(b3,v3),(b4,v4),(b5,v5),(b6,v6),(b7,v7),(b8,v8)] h
theorem ke {α : Type} {a b0 b1 b2 b3 b4 b5 b6 b7 b8 b9 : String} {v0 v1 v2 v3 v4 v5 v6 v7 v8 v9 : α} {v : α} {r : List (Str×α)} (h : [b0,b1,b2,b3,b4,b5,b6,b7,b8,b9].contains a = false) : List.lookup (ofString a) ((ofString b0,v0) :: (ofString b1,v1) :: (ofString b2,v2) :: (ofString b3,v3) :: (ofString b4,v4) :: (ofString b5,v5) :: (ofString b6,v6) :: (ofString b7,v7) :: (ofString b8,v8) :: (ofString b9,v9) :: (ofString a,v) :: r) = some v:=lk_at [(b0,v0),(b1,v1),(b2,v2),(b3,v3),(b4,v4),(b5,v5),(b6,v6),(b7,v7),(b8,v8),(b9,v9)] h
theorem qc {a b0 b1 b2 b3 b4 b5 b6 b7 b8 b9 : String} {v0 v1 v2 v3 v4 v5 v6 v7 v8 v9 : LV} {v : LV} (h : [b0,b1,b2,b3,b4,b5,b6,b7,b8,b9].contains a = false) : setR [(ofString b0,v0),(ofString b1,v1),(ofString b2,v2),(ofString b3,v3),(ofString b4,v4),(ofString b5,v5),(ofString b6,v6),(ofString b7,v7),(ofString b8,v8),(ofString b9,v9)] (ofString a) v = [(ofString b0,v0),(ofString b1,v1),(ofString b2,v2),(ofString b3,v3),(ofString b4,v4),(ofString b5,v5),(ofString b6,v6),(ofString b7,v7),(ofString b8,v8),(ofString b9,v9)]:=sr_not [(b0,v0),(b1,v1),(b2,v2),(b3,v3),(b4,v4),(b5,v5),(b6,v6),(b7,v7),(b8,v8),(b9,v9)] h
theorem jR {a b0 b1 b2 b3 b4 b5 b6 b7 b8 b9 : String} {v0 v1 v2 v3 v4 v5 v6 v7 v8 v9 : LV} {q : Pos} {d : D} {r : Rho} (h : nmk a [b0,b1,b2,b3,b4,b5,b6,b7,b8,b9] = true) : (evN P (n + 1)).e sc ((ofString b0,v0) :: (ofString b1,v1) :: (ofString b2,v2) :: (ofString b3,v3) :: (ofString b4,v4) :: (ofString b5,v5) :: (ofString b6,v6) :: (ofString b7,v7) :: (ofString b8,v8) :: (ofString b9,v9) :: (ofString a,.fz d) :: r) (.Name (ofString a) q) = some d:=nm_at [(b0,v0),(b1,v1),(b2,v2),(b3,v3),(b4,v4),(b5,v5),(b6,v6),(b7,v7),(b8,v8),(b9,v9)] h
theorem qw {a b0 b1 b2 b3 b4 b5 b6 b7 b8 b9 : String} {v0 v1 v2 v3 v4 v5 v6 v7 v8 v9 : LV} {u v : LV} {r : Rho} (h : ask sc a [b0,b1,b2,b3,b4,b5,b6,b7,b8,b9] = true) : asgN sc ((ofString b0,v0) :: (ofString b1,v1) :: (ofString b2,v2) :: (ofString b3,v3) :: (ofString b4,v4) :: (ofString b5,v5) :: (ofString b6,v6) :: (ofString b7,v7) :: (ofString b8,v8) :: (ofString b9,v9) :: (ofString a,u) :: r) (ofString a) v = some ((ofString b0,v0) :: (ofString b1,v1) :: (ofString b2,v2) :: (ofString b3,v3) :: (ofString b4,v4) :: (ofString b5,v5) :: (ofString b6,v6) :: (ofString b7,v7) :: (ofString b8,v8) :: (ofString b9,v9) :: (ofString a,v) :: setR r (ofString a) v):=as_at [(b0,v0),(b1,v1),(b2,v2),(b3,v3),(b4,v4),(b5,v5),(b6,v6),(b7,v7),(b8,v8),(b9,v9)] h
theorem kf {α : Type} {a b0 b1 b2 b3 b4 b5 b6 b7 b8 b9 b10 : String} {v0 v1 v2 v3 v4 v5 v6 v7 v8 v9 v10 : α} {v : α} {r : List (Str×α)} (h : [b0,b1,b2,b3,b4,b5,b6,b7,b8,b9,b10].contains a = false) : List.lookup (ofString a) ((ofString b0,v0) :: (ofString b1,v1) :: (ofString b2,v2) :: (ofString b3,v3) :: (ofString b4,v4) :: (ofString b5,v5) :: (ofString b6,v6) :: (ofString b7,v7) :: (ofString b8,v8) :: (ofString b9,v9) :: (ofString b10,v10) :: (ofString a,v) :: r) = some v:=lk_at [(b0,v0),(b1,v1),(b2,v2),(b3,v3),(b4,v4),(b5,v5),(b6,v6),(b7,v7),(b8,v8),(b9,v9),(b10,v10)] h
theorem qd {a b0 b1 b2 b3 b4 b5 b6 b7 b8 b9 b10 : String} {v0 v1 v2 v3 v4 v5 v6 v7 v8 v9 v10 : LV} {v : LV} (h : [b0,b1,b2,b3,b4,b5,b6,b7,b8,b9,b10].contains a = false) : setR [(ofString b0,v0),(ofString b1,v1),(ofString b2,v2),(ofString b3,v3),(ofString b4,v4),(ofString b5,v5),(ofString b6,v6),(ofString b7,v7),(ofString b8,v8),(ofString b9,v9),(ofString b10,v10)] (ofString a) v = [(ofString b0,v0),(ofString b1,v1),(ofString b2,v2),(ofString b3,v3),(ofString b4,v4),(ofString b5,v5),(ofString b6,v6),(ofString b7,v7),(ofString b8,v8),(ofString b9,v9),(ofString b10,v10)]:=sr_not [(b0,v0),(b1,v1),(b2,v2),(b3,v3),(b4,v4),(b5,v5),(b6,v6),(b7,v7),(b8,v8),(b9,v9),(b10,v10)] h
theorem jS {a b0 b1 b2 b3 b4 b5 b6 b7 b8 b9 b10 : String} {v0 v1 v2 v3 v4 v5 v6 v7 v8 v9 v10 : LV} {q : Pos} {d : D} {r : Rho} (h : nmk a [b0,b1,b2,b3,b4,b5,b6,b7,b8,b9,b10] = true) : (evN P (n + 1)).e sc ((ofString b0,v0) :: (ofString b1,v1) :: (ofString b2,v2) :: (ofString b3,v3) :: (ofString b4,v4) :: (ofString b5,v5) :: (ofString b6,v6) :: (ofString b7,v7) :: (ofString b8,v8) :: (ofString b9,v9) :: (ofString b10,v10) :: (ofString a,.fz d) :: r) (.Name (ofString a) q) = some d:=nm_at [(b0,v0),(b1,v1),(b2,v2),(b3,v3),(b4,v4),(b5,v5),(b6,v6),(b7,v7),(b8,v8),(b9,v9),(b10,v10)] h
theorem qx {a b0 b1 b2 b3 b4 b5 b6 b7 b8 b9 b10 : String} {v0 v1 v2 v3 v4 v5 v6 v7 v8 v9 v10 : LV} {u v : LV} {r : Rho} (h : ask sc a [b0,b1,b2,b3,b4,b5,b6,b7,b8,b9,b10] = true) : asgN sc ((ofString b0,v0) :: (ofString b1,v1) :: (ofString b2,v2) :: (ofString b3,v3) :: (ofString b4,v4) :: (ofString b5,v5) :: (ofString b6,v6) :: (ofString b7,v7) :: (ofString b8,v8) :: (ofString b9,v9) :: (ofString b10,v10) :: (ofString a,u) :: r) (ofString a) v = some ((ofString b0,v0) :: (ofString b1,v1) :: (ofString b2,v2) :: (ofString b3,v3) :: (ofString b4,v4) :: (ofString b5,v5) :: (ofString b6,v6) :: (ofString b7,v7) :: (ofString b8,v8) :: (ofString b9,v9) :: (ofString b10,v10) :: (ofString a,v) :: setR r (ofString a) v):=as_at [(b0,v0),(b1,v1),(b2,v2),(b3,v3),(b4,v4),(b5,v5),(b6,v6),(b7,v7),(b8,v8),(b9,v9),(b10,v10)] h
theorem kg {α : Type} {a b0 b1 b2 b3 b4 b5 b6 b7 b8 b9 b10 b11 : String} {v0 v1 v2 v3 v4 v5 v6 v7 v8 v9 v10 v11 : α} {v : α} {r : List (Str×α)} (h : [b0,b1,b2,b3,b4,b5,b6,b7,b8,b9,b10,b11].contains a = false) : List.lookup (ofString a) ((ofString b0,v0) :: (ofString b1,v1) :: (ofString b2,v2) :: (ofString b3,v3) :: (ofString b4,v4) :: (ofString b5,v5) :: (ofString b6,v6) :: (ofString b7,v7) :: (ofString b8,v8) :: (ofString b9,v9) :: (ofString b10,v10) :: (ofString b11,v11) :: (ofString a,v) :: r) = some v:=lk_at [(b0,v0),(b1,v1),(b2,v2),(b3,v3),(b4,v4),(b5,v5),(b6,v6),(b7,v7),(b8,v8),(b9,v9),(b10,v10),(b11,v11)] h
theorem qe {a b0 b1 b2 b3 b4 b5 b6 b7 b8 b9 b10 b11 : String} {v0 v1 v2 v3 v4 v5 v6 v7 v8 v9 v10 v11 : LV} {v : LV} (h : [b0,b1,b2,b3,b4,b5,b6,b7,b8,b9,b10,b11].contains a = false) : setR [(ofString b0,v0),(ofString b1,v1),(ofString b2,v2),(ofString b3,v3),(ofString b4,v4),(ofString b5,v5),(ofString b6,v6),(ofString b7,v7),(ofString b8,v8),(ofString b9,v9),(ofString b10,v10),(ofString b11,v11)] (ofString a) v = [(ofString b0,v0),(ofString b1,v1),(ofString b2,v2),(ofString b3,v3),(ofString b4,v4),(ofString b5,v5),(ofString b6,v6),(ofString b7,v7),(ofString b8,v8),(ofString b9,v9),(ofString b10,v10),(ofString b11,v11)]:=sr_not [(b0,v0),(b1,v1),(b2,v2),(b3,v3),(b4,v4),(b5,v5),(b6,v6),(b7,v7),(b8,v8),(b9,v9),(b10,v10),(b11,v11)] h
theorem jT {a b0 b1 b2 b3 b4 b5 b6 b7 b8 b9 b10 b11 : String} {v0 v1 v2 v3 v4 v5 v6 v7 v8 v9 v10 v11 : LV} {q : Pos} {d : D} {r : Rho} (h : nmk a [b0,b1,b2,b3,b4,b5,b6,b7,b8,b9,b10,b11] = true) : (evN P (n + 1)).e sc ((ofString b0,v0) :: (ofString b1,v1) :: (ofString b2,v2) :: (ofString b3,v3) :: (ofString b4,v4) :: (ofString b5,v5) :: (ofString b6,v6) :: (ofString b7,v7) :: (ofString b8,v8) :: (ofString b9,v9) :: (ofString b10,v10) :: (ofString b11,v11) :: (ofString a,.fz d) :: r) (.Name (ofString a) q) = some d:=nm_at [(b0,v0),(b1,v1),(b2,v2),(b3,v3),(b4,v4),(b5,v5),(b6,v6),(b7,v7),(b8,v8),(b9,v9),(b10,v10),(b11,v11)] h
theorem qy {a b0 b1 b2 b3 b4 b5 b6 b7 b8 b9 b10 b11 : String} {v0 v1 v2 v3 v4 v5 v6 v7 v8 v9 v10 v11 : LV} {u v : LV} {r : Rho} (h : ask sc a [b0,b1,b2,b3,b4,b5,b6,b7,b8,b9,b10,b11] = true) : asgN sc ((ofString b0,v0) :: (ofString b1,v1) :: (ofString b2,v2) :: (ofString b3,v3) :: (ofString b4,v4) :: (ofString b5,v5) :: (ofString b6,v6) :: (ofString b7,v7) :: (ofString b8,v8) :: (ofString b9,v9) :: (ofString b10,v10) :: (ofString b11,v11) :: (ofString a,u) :: r) (ofString a) v = some ((ofString b0,v0) :: (ofString b1,v1) :: (ofString b2,v2) :: (ofString b3,v3) :: (ofString b4,v4) :: (ofString b5,v5) :: (ofString b6,v6) :: (ofString b7,v7) :: (ofString b8,v8) :: (ofString b9,v9) :: (ofString b10,v10) :: (ofString b11,v11) :: (ofString a,v) :: setR r (ofString a) v):=as_at [(b0,v0),(b1,v1),(b2,v2),(b3,v3),(b4,v4),(b5,v5),(b6,v6),(b7,v7),(b8,v8),(b9,v9),(b10,v10),(b11,v11)] h
theorem kh {α : Type} {a b0 b1 b2 b3 b4 b5 b6 b7 b8 b9 b10 b11 b12 : String} {v0 v1 v2 v3 v4 v5 v6 v7 v8 v9 v10 v11 v12 : α} {v : α} {r : List (Str×α)} (h : [b0,b1,b2,b3,b4,b5,b6,b7,b8,b9,b10,b11,b12].contains a = false) : List.lookup (ofString a) ((ofString b0,v0) :: (ofString b1,v1) :: (ofString b2,v2) :: (ofString b3,v3) :: (ofString b4,v4) :: (ofString b5,v5) :: (ofString b6,v6) :: (ofString b7,v7) :: (ofString b8,v8) :: (ofString b9,v9) :: (ofString b10,v10) :: (ofString b11,v11) :: (ofString b12,v12) :: (ofString a,v) :: r) = some v:=lk_at [(b0,v0),(b1,v1),(b2,v2),(b3,v3),(b4,v4),(b5,v5),(b6,v6),(b7,v7),(b8,v8),(b9,v9),(b10,v10),(b11,v11),(b12,v12)] h
theorem qf {a b0 b1 b2 b3 b4 b5 b6 b7 b8 b9 b10 b11 b12 : String} {v0 v1 v2 v3 v4 v5 v6 v7 v8 v9 v10 v11 v12 : LV} {v : LV} (h : [b0,b1,b2,b3,b4,b5,b6,b7,b8,b9,b10,b11,b12].contains a = false) : setR [(ofString b0,v0),(ofString b1,v1),(ofString b2,v2),(ofString b3,v3),(ofString b4,v4),(ofString b5,v5),(ofString b6,v6),(ofString b7,v7),(ofString b8,v8),(ofString b9,v9),(ofString b10,v10),(ofString b11,v11),(ofString b12,v12)] (ofString a) v = [(ofString b0,v0),(ofString b1,v1),(ofString b2,v2),(ofString b3,v3),(ofString b4,v4),(ofString b5,v5),(ofString b6,v6),(ofString b7,v7),(ofString b8,v8),(ofString b9,v9),(ofString b10,v10),(ofString b11,v11),(ofString b12,v12)]:=sr_not [(b0,v0),(b1,v1),(b2,v2),(b3,v3),(b4,v4),(b5,v5),(b6,v6),(b7,v7),(b8,v8),(b9,v9),(b10,v10),(b11,v11),(b12,v12)] h
theorem jU {a b0 b1 b2 b3 b4 b5 b6 b7 b8 b9 b10 b11 b12 : String} {v0 v1 v2 v3 v4 v5 v6 v7 v8 v9 v10 v11 v12 : LV} {q : Pos} {d : D} {r : Rho} (h : nmk a [b0,b1,b2,b3,b4,b5,b6,b7,b8,b9,b10,b11,b12] = true) : (evN P (n + 1)).e sc ((ofString b0,v0) :: (ofString b1,v1) :: (ofString b2,v2) :: (ofString b3,v3) :: (ofString b4,v4) :: (ofString b5,v5) :: (ofString b6,v6) :: (ofString b7,v7) :: (ofString b8,v8) :: (ofString b9,v9) :: (ofString b10,v10) :: (ofString b11,v11) :: (ofString b12,v12) :: (ofString a,.fz d) :: r) (.Name (ofString a) q) = some d:=nm_at [(b0,v0),(b1,v1),(b2,v2),(b3,v3),(b4,v4),(b5,v5),(b6,v6),(b7,v7),(b8,v8),(b9,v9),(b10,v10),(b11,v11),(b12,v12)] h
theorem qz {a b0 b1 b2 b3 b4 b5 b6 b7 b8 b9 b10 b11 b12 : String} {v0 v1 v2 v3 v4 v5 v6 v7 v8 v9 v10 v11 v12 : LV} {u v : LV} {r : Rho} (h : ask sc a [b0,b1,b2,b3,b4,b5,b6,b7,b8,b9,b10,b11,b12] = true) : asgN sc ((ofString b0,v0) :: (ofString b1,v1) :: (ofString b2,v2) :: (ofString b3,v3) :: (ofString b4,v4) :: (ofString b5,v5) :: (ofString b6,v6) :: (ofString b7,v7) :: (ofString b8,v8) :: (ofString b9,v9) :: (ofString b10,v10) :: (ofString b11,v11) :: (ofString b12,v12) :: (ofString a,u) :: r) (ofString a) v = some ((ofString b0,v0) :: (ofString b1,v1) :: (ofString b2,v2) :: (ofString b3,v3) :: (ofString b4,v4) :: (ofString b5,v5) :: (ofString b6,v6) :: (ofString b7,v7) :: (ofString b8,v8) :: (ofString b9,v9) :: (ofString b10,v10) :: (ofString b11,v11) :: (ofString b12,v12) :: (ofString a,v) :: setR r (ofString a) v):=as_at [(b0,v0),(b1,v1),(b2,v2),(b3,v3),(b4,v4),(b5,v5),(b6,v6),(b7,v7),(b8,v8),(b9,v9),(b10,v10),(b11,v11),(b12,v12)] h
theorem ki {α : Type} {a b0 b1 b2 b3 b4 b5 b6 b7 b8 b9 b10 b11 b12 b13 : String} {v0 v1 v2 v3 v4 v5 v6 v7 v8 v9 v10 v11 v12 v13 : α} {v : α} {r : List (Str×α)} (h : [b0,b1,b2,b3,b4,b5,b6,b7,b8,b9,b10,b11,b12,b13].contains a = false) : List.lookup (ofString a) ((ofString b0,v0) :: (ofString b1,v1) :: (ofString b2,v2) :: (ofString b3,v3) :: (ofString b4,v4) :: (ofString b5,v5) :: (ofString b6,v6) :: (ofString b7,v7) :: (ofString b8,v8) :: (ofString b9,v9) :: (ofString b10,v10) :: (ofString b11,v11) :: (ofString b12,v12) :: (ofString b13,v13) :: (ofString a,v) :: r) = some v:=lk_at [(b0,v0),(b1,v1),(b2,v2),(b3,v3),(b4,v4),(b5,v5),(b6,v6),(b7,v7),(b8,v8),(b9,v9),(b10,v10),(b11,v11),(b12,v12),(b13,v13)] h
theorem qg {a b0 b1 b2 b3 b4 b5 b6 b7 b8 b9 b10 b11 b12 b13 : String} {v0 v1 v2 v3 v4 v5 v6 v7 v8 v9 v10 v11 v12 v13 : LV} {v : LV} (h : [b0,b1,b2,b3,b4,b5,b6,b7,b8,b9,b10,b11,b12,b13].contains a = false) : setR [(ofString b0,v0),(ofString b1,v1),(ofString b2,v2),(ofString b3,v3),(ofString b4,v4),(ofString b5,v5),(ofString b6,v6),(ofString b7,v7),(ofString b8,v8),(ofString b9,v9),(ofString b10,v10),(ofString b11,v11),(ofString b12,v12),(ofString b13,v13)] (ofString a) v = [(ofString b0,v0),(ofString b1,v1),(ofString b2,v2),(ofString b3,v3),(ofString b4,v4),(ofString b5,v5),(ofString b6,v6),(ofString b7,v7),(ofString b8,v8),(ofString b9,v9),(ofString b10,v10),(ofString b11,v11),(ofString b12,v12),(ofString b13,v13)]:=sr_not [(b0,v0),(b1,v1),(b2,v2),(b3,v3),(b4,v4),(b5,v5),(b6,v6),(b7,v7),(b8,v8),(b9,v9),(b10,v10),(b11,v11),(b12,v12),(b13,v13)] h
theorem jV {a b0 b1 b2 b3 b4 b5 b6 b7 b8 b9 b10 b11 b12 b13 : String} {v0 v1 v2 v3 v4 v5 v6 v7 v8 v9 v10 v11 v12 v13 : LV} {q : Pos} {d : D} {r : Rho} (h : nmk a [b0,b1,b2,b3,b4,b5,b6,b7,b8,b9,b10,b11,b12,b13] = true) : (evN P (n + 1)).e sc ((ofString b0,v0) :: (ofString b1,v1) :: (ofString b2,v2) :: (ofString b3,v3) :: (ofString b4,v4) :: (ofString b5,v5) :: (ofString b6,v6) :: (ofString b7,v7) :: (ofString b8,v8) :: (ofString b9,v9) :: (ofString b10,v10) :: (ofString b11,v11) :: (ofString b12,v12) :: (ofString b13,v13) :: (ofString a,.fz d) :: r) (.Name (ofString a) q) = some d:=nm_at [(b0,v0),(b1,v1),(b2,v2),(b3,v3),(b4,v4),(b5,v5),(b6,v6),(b7,v7),(b8,v8),(b9,v9),(b10,v10),(b11,v11),(b12,v12),(b13,v13)] h
theorem qA {a b0 b1 b2 b3 b4 b5 b6 b7 b8 b9 b10 b11 b12 b13 : String} {v0 v1 v2 v3 v4 v5 v6 v7 v8 v9 v10 v11 v12 v13 : LV} {u v : LV} {r : Rho} (h : ask sc a [b0,b1,b2,b3,b4,b5,b6,b7,b8,b9,b10,b11,b12,b13] = true) : asgN sc ((ofString b0,v0) :: (ofString b1,v1) :: (ofString b2,v2) :: (ofString b3,v3) :: (ofString b4,v4) :: (ofString b5,v5) :: (ofString b6,v6) :: (ofString b7,v7) :: (ofString b8,v8) :: (ofString b9,v9) :: (ofString b10,v10) :: (ofString b11,v11) :: (ofString b12,v12) :: (ofString b13,v13) :: (ofString a,u) :: r) (ofString a) v = some ((ofString b0,v0) :: (ofString b1,v1) :: (ofString b2,v2) :: (ofString b3,v3) :: (ofString b4,v4) :: (ofString b5,v5) :: (ofString b6,v6) :: (ofString b7,v7) :: (ofString b8,v8) :: (ofString b9,v9) :: (ofString b10,v10) :: (ofString b11,v11) :: (ofString b12,v12) :: (ofString b13,v13) :: (ofString a,v) :: setR r (ofString a) v):=as_at [(b0,v0),(b1,v1),(b2,v2),(b3,v3),(b4,v4),(b5,v5),(b6,v6),(b7,v7),(b8,v8),(b9,v9),(b10,v10),(b11,v11),(b12,v12),(b13,v13)] h
theorem kj {α : Type} {a b0 b1 b2 b3 b4 b5 b6 b7 b8 b9 b10 b11 b12 b13 b14 : String} {v0 v1 v2 v3 v4 v5 v6 v7 v8 v9 v10 v11 v12 v13 v14 : α} {v : α} {r : List (Str×α)} (h : [b0,b1,b2,b3,b4,b5,b6,b7,b8,b9,b10,b11,b12,b13,b14].contains a = false) : List.lookup (ofString a) ((ofString b0,v0) :: (ofString b1,v1) :: (ofString b2,v2) :: (ofString b3,v3) :: (ofString b4,v4) :: (ofString b5,v5) :: (ofString b6,v6) :: (ofString b7,v7) :: (ofString b8,v8) :: (ofString b9,v9) :: (ofString b10,v10) :: (ofString b11,v11) :: (ofString b12,v12) :: (ofString b13,v13) :: (ofString b14,v14) :: (ofString a,v) :: r) = some v:=lk_at [(b0,v0),(b1,v1),(b2,v2),(b3,v3),(b4,v4),(b5,v5),(b6,v6),(b7,v7),(b8,v8),(b9,v9),(b10,v10),(b11,v11),(b12,v12),(b13,v13),(b14,v14)] h
theorem qh {a b0 b1 b2 b3 b4 b5 b6 b7 b8 b9 b10 b11 b12 b13 b14 : String} {v0 v1 v2 v3 v4 v5 v6 v7 v8 v9 v10 v11 v12 v13 v14 : LV} {v : LV} (h : [b0,b1,b2,b3,b4,b5,b6,b7,b8,b9,b10,b11,b12,b13,b14].contains a = false) : setR [(ofString b0,v0),(ofString b1,v1),(ofString b2,v2),(ofString b3,v3),(ofString b4,v4),(ofString b5,v5),(ofString b6,v6),(ofString b7,v7),(ofString b8,v8),(ofString b9,v9),(ofString b10,v10),(ofString b11,v11),(ofString b12,v12),(ofString b13,v13),(ofString b14,v14)] (ofString a) v = [(ofString b0,v0),(ofString b1,v1),(ofString b2,v2),(ofString b3,v3),(ofString b4,v4),(ofString b5,v5),(ofString b6,v6),(ofString b7,v7),(ofString b8,v8),(ofString b9,v9),(ofString b10,v10),(ofString b11,v11),(ofString b12,v12),(ofString b13,v13),(ofString b14,v14)]:=sr_not [(b0,v0),(b1,v1),(b2,v2),(b3,v3),(b4,v4),(b5,v5),(b6,v6),(b7,v7),(b8,v8),(b9,v9),(b10,v10),(b11,v11),(b12,v12),(b13,v13),(b14,v14)] h
theorem jW {a b0 b1 b2 b3 b4 b5 b6 b7 b8 b9 b10 b11 b12 b13 b14 : String} {v0 v1 v2 v3 v4 v5 v6 v7 v8 v9 v10 v11 v12 v13 v14 : LV} {q : Pos} {d : D} {r : Rho} (h : nmk a [b0,b1,b2,b3,b4,b5,b6,b7,b8,b9,b10,b11,b12,b13,b14] = true) : (evN P (n + 1)).e sc ((ofString b0,v0) :: (ofString b1,v1) :: (ofString b2,v2) :: (ofString b3,v3) :: (ofString b4,v4) :: (ofString b5,v5) :: (ofString b6,v6) :: (ofString b7,v7) :: (ofString b8,v8) :: (ofString b9,v9) :: (ofString b10,v10) :: (ofString b11,v11) :: (ofString b12,v12) :: (ofString b13,v13) :: (ofString b14,v14) :: (ofString a,.fz d) :: r) (.Name (ofString a) q) = some d:=nm_at [(b0,v0),(b1,v1),(b2,v2),(b3,v3),(b4,v4),(b5,v5),(b6,v6),(b7,v7),(b8,v8),(b9,v9),(b10,v10),(b11,v11),(b12,v12),(b13,v13),(b14,v14)] h
theorem qB {a b0 b1 b2 b3 b4 b5 b6 b7 b8 b9 b10 b11 b12 b13 b14 : String} {v0 v1 v2 v3 v4 v5 v6 v7 v8 v9 v10 v11 v12 v13 v14 : LV} {u v : LV} {r : Rho} (h : ask sc a [b0,b1,b2,b3,b4,b5,b6,b7,b8,b9,b10,b11,b12,b13,b14] = true) : asgN sc ((ofString b0,v0) :: (ofString b1,v1) :: (ofString b2,v2) :: (ofString b3,v3) :: (ofString b4,v4) :: (ofString b5,v5) :: (ofString b6,v6) :: (ofString b7,v7) :: (ofString b8,v8) :: (ofString b9,v9) :: (ofString b10,v10) :: (ofString b11,v11) :: (ofString b12,v12) :: (ofString b13,v13) :: (ofString b14,v14) :: (ofString a,u) :: r) (ofString a) v = some ((ofString b0,v0) :: (ofString b1,v1) :: (ofString b2,v2) :: (ofString b3,v3) :: (ofString b4,v4) :: (ofString b5,v5) :: (ofString b6,v6) :: (ofString b7,v7) :: (ofString b8,v8) :: (ofString b9,v9) :: (ofString b10,v10) :: (ofString b11,v11) :: (ofString b12,v12) :: (ofString b13,v13) :: (ofString b14,v14) :: (ofString a,v) :: setR r (ofString a) v):=as_at [(b0,v0),(b1,v1),(b2,v2),(b3,v3),(b4,v4),(b5,v5),(b6,v6),(b7,v7),(b8,v8),(b9,v9),(b10,v10),(b11,v11),(b12,v12),(b13,v13),(b14,v14)] h
theorem qi {a b0 b1 b2 b3 b4 b5 b6 b7 b8 b9 b10 b11 b12 b13 b14 b15 : String} {v0 v1 v2 v3 v4 v5 v6 v7 v8 v9 v10 v11 v12 v13 v14 v15 : LV} {v : LV} (h : [b0,b1,b2,b3,b4,b5,b6,b7,b8,b9,b10,b11,b12,b13,b14,b15].contains a = false) : setR [(ofString b0,v0),(ofString b1,v1),(ofString b2,v2),(ofString b3,v3),(ofString b4,v4),(ofString b5,v5),(ofString b6,v6),(ofString b7,v7),(ofString b8,v8),(ofString b9,v9),(ofString b10,v10),(ofString b11,v11),(ofString b12,v12),(ofString b13,v13),(ofString b14,v14),(ofString b15,v15)] (ofString a) v = [(ofString b0,v0),(ofString b1,v1),(ofString b2,v2),(ofString b3,v3),(ofString b4,v4),(ofString b5,v5),(ofString b6,v6),(ofString b7,v7),(ofString b8,v8),(ofString b9,v9),(ofString b10,v10),(ofString b11,v11),(ofString b12,v12),(ofString b13,v13),(ofString b14,v14),(ofString b15,v15)]:=sr_not [(b0,v0),(b1,v1),(b2,v2),(b3,v3),(b4,v4),(b5,v5),(b6,v6),(b7,v7),(b8,v8),(b9,v9),(b10,v10),(b11,v11),(b12,v12),(b13,v13),(b14,v14),(b15,v15)] h
theorem jX {a b0 b1 b2 b3 b4 b5 b6 b7 b8 b9 b10 b11 b12 b13 b14 b15 : String} {v0 v1 v2 v3 v4 v5 v6 v7 v8 v9 v10 v11 v12 v13 v14 v15 : LV} {q : Pos} {d : D} {r : Rho} (h : nmk a [b0,b1,b2,b3,b4,b5,b6,b7,b8,b9,b10,b11,b12,b13,b14,b15] = true) : (evN P (n + 1)).e sc ((ofString b0,v0) :: (ofString b1,v1) :: (ofString b2,v2) :: (ofString b3,v3) :: (ofString b4,v4) :: (ofString b5,v5) :: (ofString b6,v6) :: (ofString b7,v7) :: (ofString b8,v8) :: (ofString b9,v9) :: (ofString b10,v10) :: (ofString b11,v11) :: (ofString b12,v12) :: (ofString b13,v13) :: (ofString b14,v14) :: (ofString b15,v15) :: (ofString a,.fz d) :: r) (.Name (ofString a) q) = some d:=nm_at [(b0,v0),(b1,v1),(b2,v2),(b3,v3),(b4,v4),(b5,v5),(b6,v6),(b7,v7),(b8,v8),(b9,v9),(b10,v10),(b11,v11),(b12,v12),(b13,v13),(b14,v14),(b15,v15)] h
theorem qC {a b0 b1 b2 b3 b4 b5 b6 b7 b8 b9 b10 b11 b12 b13 b14 b15 : String} {v0 v1 v2 v3 v4 v5 v6 v7 v8 v9 v10 v11 v12 v13 v14 v15 : LV} {u v : LV} {r : Rho} (h : ask sc a [b0,b1,b2,b3,b4,b5,b6,b7,b8,b9,b10,b11,b12,b13,b14,b15] = true) : asgN sc ((ofString b0,v0) :: (ofString b1,v1) :: (ofString b2,v2) :: (ofString b3,v3) :: (ofString b4,v4) :: (ofString b5,v5) :: (ofString b6,v6) :: (ofString b7,v7) :: (ofString b8,v8) :: (ofString b9,v9) :: (ofString b10,v10) :: (ofString b11,v11) :: (ofString b12,v12) :: (ofString b13,v13) :: (ofString b14,v14) :: (ofString b15,v15) :: (ofString a,u) :: r) (ofString a) v = some ((ofString b0,v0) :: (ofString b1,v1) :: (ofString b2,v2) :: (ofString b3,v3) :: (ofString b4,v4) :: (ofString b5,v5) :: (ofString b6,v6) :: (ofString b7,v7) :: (ofString b8,v8) :: (ofString b9,v9) :: (ofString b10,v10) :: (ofString b11,v11) :: (ofString b12,v12) :: (ofString b13,v13) :: (ofString b14,v14) :: (ofString b15,v15) :: (ofString a,v) :: setR r (ofString a) v):=as_at [(b0,v0),(b1,v1),(b2,v2),(b3,v3),(b4,v4),(b5,v5),(b6,v6),(b7,v7),(b8,v8),(b9,v9),(b10,v10),(b11,v11),(b12,v12),(b13,v13),(b14,v14),(b15,v15)] h
theorem qj {a b0 b1 b2 b3 b4 b5 b6 b7 b8 b9 b10 b11 b12 b13 b14 b15 b16 : String} {v0 v1 v2 v3 v4 v5 v6 v7 v8 v9 v10 v11 v12 v13 v14 v15 v16 : LV} {v : LV} (h : [b0,b1,b2,b3,b4,b5,b6,b7,b8,b9,b10,b11,b12,b13,b14,b15,b16].contains a = false) : setR [(ofString b0,v0),(ofString b1,v1),(ofString b2,v2),(ofString b3,v3),(ofString b4,v4),(ofString b5,v5),(ofString b6,v6),(ofString b7,v7),(ofString b8,v8),(ofString b9,v9),(ofString b10,v10),(ofString b11,v11),(ofString b12,v12),(ofString b13,v13),(ofString b14,v14),(ofString b15,v15),(ofString b16,v16)] (ofString a) v = [(ofString b0,v0),(ofString b1,v1),(ofString b2,v2),(ofString b3,v3),(ofString b4,v4),(ofString b5,v5),(ofString b6,v6),(ofString b7,v7),(ofString b8,v8),(ofString b9,v9),(ofString b10,v10),(ofString b11,v11),(ofString b12,v12),(ofString b13,v13),(ofString b14,v14),(ofString b15,v15),(ofString b16,v16)]:=sr_not [(b0,v0),(b1,v1),(b2,v2),(b3,v3),(b4,v4),(b5,v5),(b6,v6),(b7,v7),(b8,v8),(b9,v9),(b10,v10),(b11,v11),(b12,v12),(b13,v13),(b14,v14),(b15,v15),(b16,v16)] h
theorem jY {a b0 b1 b2 b3 b4 b5 b6 b7 b8 b9 b10 b11 b12 b13 b14 b15 b16 : String} {v0 v1 v2 v3 v4 v5 v6 v7 v8 v9 v10 v11 v12 v13 v14 v15 v16 : LV} {q : Pos} {d : D} {r : Rho} (h : nmk a [b0,b1,b2,b3,b4,b5,b6,b7,b8,b9,b10,b11,b12,b13,b14,b15,b16] = true) : (evN P (n + 1)).e sc ((ofString b0,v0) :: (ofString b1,v1) :: (ofString b2,v2) :: (ofString b3,v3) :: (ofString b4,v4) :: (ofString b5,v5) :: (ofString b6,v6) :: (ofString b7,v7) :: (ofString b8,v8) :: (ofString b9,v9) :: (ofString b10,v10) :: (ofString b11,v11) :: (ofString b12,v12) :: (ofString b13,v13) :: (ofString b14,v14) :: (ofString b15,v15) :: (ofString b16,v16) :: (ofString a,.fz d) :: r) (.Name (ofString a) q) = some d:=nm_at [(b0,v0),(b1,v1),(b2,v2),(b3,v3),(b4,v4),(b5,v5),(b6,v6),(b7,v7),(b8,v8),(b9,v9),(b10,v10),(b11,v11),(b12,v12),(b13,v13),(b14,v14),(b15,v15),(b16,v16)] h
theorem qD {a b0 b1 b2 b3 b4 b5 b6 b7 b8 b9 b10 b11 b12 b13 b14 b15 b16 : String} {v0 v1 v2 v3 v4 v5 v6 v7 v8 v9 v10 v11 v12 v13 v14 v15 v16 : LV} {u v : LV} {r : Rho} (h : ask sc a [b0,b1,b2,b3,b4,b5,b6,b7,b8,b9,b10,b11,b12,b13,b14,b15,b16] = true) : asgN sc ((ofString b0,v0) :: (ofString b1,v1) :: (ofString b2,v2) :: (ofString b3,v3) :: (ofString b4,v4) :: (ofString b5,v5) :: (ofString b6,v6) :: (ofString b7,v7) :: (ofString b8,v8) :: (ofString b9,v9) :: (ofString b10,v10) :: (ofString b11,v11) :: (ofString b12,v12) :: (ofString b13,v13) :: (ofString b14,v14) :: (ofString b15,v15) :: (ofString b16,v16) :: (ofString a,u) :: r) (ofString a) v = some ((ofString b0,v0) :: (ofString b1,v1) :: (ofString b2,v2) :: (ofString b3,v3) :: (ofString b4,v4) :: (ofString b5,v5) :: (ofString b6,v6) :: (ofString b7,v7) :: (ofString b8,v8) :: (ofString b9,v9) :: (ofString b10,v10) :: (ofString b11,v11) :: (ofString b12,v12) :: (ofString b13,v13) :: (ofString b14,v14) :: (ofString b15,v15) :: (ofString b16,v16) :: (ofString a,v) :: setR r (ofString a) v):=as_at [(b0,v0),(b1,v1),(b2,v2),(b3,v3),(b4,v4),(b5,v5),(b6,v6),(b7,v7),(b8,v8),(b9,v9),(b10,v10),(b11,v11),(b12,v12),(b13,v13),(b14,v14),(b15,v15),(b16,v16)] h
theorem qk {a b0 b1 b2 b3 b4 b5 b6 b7 b8 b9 b10 b11 b12 b13 b14 b15 b16 b17 : String} {v0 v1 v2 v3 v4 v5 v6 v7 v8 v9 v10 v11 v12 v13 v14 v15 v16 v17 : LV} {v : LV} (h : [b0,b1,b2,b3,b4,b5,b6,b7,b8,b9,b10,b11,b12,b13,b14,b15,b16,b17].contains a = false) : setR [(ofString b0,v0),(ofString b1,v1),(ofString b2,v2),(ofString b3,v3),(ofString b4,v4),(ofString b5,v5),(ofString b6,v6),(ofString b7,v7),(ofString b8,v8),(ofString b9,v9),(ofString b10,v10),(ofString b11,v11),(ofString b12,v12),(ofString b13,v13),(ofString b14,v14),(ofString b15,v15),(ofString b16,v16),(ofString b17,v17)] (ofString a) v = [(ofString b0,v0),(ofString b1,v1),(ofString b2,v2),(ofString b3,v3),(ofString b4,v4),(ofString b5,v5),(ofString b6,v6),(ofString b7,v7),(ofString b8,v8),(ofString b9,v9),(ofString b10,v10),(ofString b11,v11),(ofString b12,v12),(ofString b13,v13),(ofString b14,v14),(ofString b15,v15),(ofString b16,v16),(ofString b17,v17)]:=sr_not [(b0,v0),(b1,v1),(b2,v2),(b3,v3),(b4,v4),(b5,v5),(b6,v6),(b7,v7),(b8,v8),(b9,v9),(b10,v10),(b11,v11),(b12,v12),(b13,v13),(b14,v14),(b15,v15),(b16,v16),(b17,v17)] h
theorem jZ {a b0 b1 b2 b3 b4 b5 b6 b7 b8 b9 b10 b11 b12 b13 b14 b15 b16 b17 : String} {v0 v1 v2 v3 v4 v5 v6 v7 v8 v9 v10 v11 v12 v13 v14 v15 v16 v17 : LV} {q : Pos} {d : D} {r : Rho} (h : nmk a [b0,b1,b2,b3,b4,b5,b6,b7,b8,b9,b10,b11,b12,b13,b14,b15,b16,b17] = true) : (evN P (n + 1)).e sc ((ofString b0,v0) :: (ofString b1,v1) :: (ofString b2,v2) :: (ofString b3,v3) :: (ofString b4,v4) :: (ofString b5,v5) :: (ofString b6,v6) :: (ofString b7,v7) :: (ofString b8,v8) :: (ofString b9,v9) :: (ofString b10,v10) :: (ofString b11,v11) :: (ofString b12,v12) :: (ofString b13,v13) :: (ofString b14,v14) :: (ofString b15,v15) :: (ofString b16,v16) :: (ofString b17,v17) :: (ofString a,.fz d) :: r) (.Name (ofString a) q) = some d:=nm_at [(b0,v0),(b1,v1),(b2,v2),(b3,v3),(b4,v4),(b5,v5),(b6,v6),(b7,v7),(b8,v8),(b9,v9),(b10,v10),(b11,v11),(b12,v12),(b13,v13),(b14,v14),(b15,v15),(b16,v16),(b17,v17)] h
theorem qE {a b0 b1 b2 b3 b4 b5 b6 b7 b8 b9 b10 b11 b12 b13 b14 b15 b16 b17 : String} {v0 v1 v2 v3 v4 v5 v6 v7 v8 v9 v10 v11 v12 v13 v14 v15 v16 v17 : LV} {u v : LV} {r : Rho} (h : ask sc a [b0,b1,b2,b3,b4,b5,b6,b7,b8,b9,b10,b11,b12,b13,b14,b15,b16,b17] = true) : asgN sc ((ofString b0,v0) :: (ofString b1,v1) :: (ofString b2,v2) :: (ofString b3,v3) :: (ofString b4,v4) :: (ofString b5,v5) :: (ofString b6,v6) :: (ofString b7,v7) :: (ofString b8,v8) :: (ofString b9,v9) :: (ofString b10,v10) :: (ofString b11,v11) :: (ofString b12,v12) :: (ofString b13,v13) :: (ofString b14,v14) :: (ofString b15,v15) :: (ofString b16,v16) :: (ofString b17,v17) :: (ofString a,u) :: r) (ofString a) v = some ((ofString b0,v0) :: (ofString b1,v1) :: (ofString b2,v2) :: (ofString b3,v3) :: (ofString b4,v4) :: (ofString b5,v5) :: (ofString b6,v6) :: (ofString b7,v7) :: (ofString b8,v8) :: (ofString b9,v9) :: (ofString b10,v10) :: (ofString b11,v11) :: (ofString b12,v12) :: (ofString b13,v13) :: (ofString b14,v14) :: (ofString b15,v15) :: (ofString b16,v16) :: (ofString b17,v17) :: (ofString a,v) :: setR r (ofString a) v):=as_at [(b0,v0),(b1,v1),(b2,v2),(b3,v3),(b4,v4),(b5,v5),(b6,v6),(b7,v7),(b8,v8),(b9,v9),(b10,v10),(b11,v11),(b12,v12),(b13,v13),(b14,v14),(b15,v15),(b16,v16),(b17,v17)] h
theorem j0 {a b0 b1 b2 b3 b4 b5 b6 b7 b8 b9 b10 b11 b12 b13 b14 b15 b16 b17 b18 : String} {v0 v1 v2 v3 v4 v5 v6 v7 v8 v9 v10 v11 v12 v13 v14 v15 v16 v17 v18 : LV} {q : Pos} {d : D} {r : Rho} (h : nmk a [b0,b1,b2,b3,b4,b5,b6,b7,b8,b9,b10,b11,b12,b13,b14,b15,b16,b17,b18] = true) : (evN P (n + 1)).e sc ((ofString b0,v0) :: (ofString b1,v1) :: (ofString b2,v2) :: (ofString b3,v3) :: (ofString b4,v4) :: (ofString b5,v5) :: (ofString b6,v6) :: (ofString b7,v7) :: (ofString b8,v8) :: (ofString b9,v9) :: (ofString b10,v10) :: (ofString b11,v11) :: (ofString b12,v12) :: (ofString b13,v13) :: (ofString b14,v14) :: (ofString b15,v15) :: (ofString b16,v16) :: (ofString b17,v17) :: (ofString b18,v18) :: (ofString a,.fz d) :: r) (.Name (ofString a) q) = some d:=nm_at [(b0,v0),(b1,v1),(b2,v2),(b3,v3),(b4,v4),(b5,v5),(b6,v6),(b7,v7),(b8,v8),(b9,v9),(b10,v10),(b11,v11),(b12,v12),(b13,v13),(b14,v14),(b15,v15),(b16,v16),(b17,v17),(b18,v18)] h
theorem qF {a b0 b1 b2 b3 b4 b5 b6 b7 b8 b9 b10 b11 b12 b13 b14 b15 b16 b17 b18 : String} {v0 v1 v2 v3 v4 v5 v6 v7 v8 v9 v10 v11 v12 v13 v14 v15 v16 v17 v18 : LV} {u v : LV} {r : Rho} (h : ask sc a [b0,b1,b2,b3,b4,b5,b6,b7,b8,b9,b10,b11,b12,b13,b14,b15,b16,b17,b18] = true) : asgN sc ((ofString b0,v0) :: (ofString b1,v1) :: (ofString b2,v2) :: (ofString b3,v3) :: (ofString b4,v4) :: (ofString b5,v5) :: (ofString b6,v6) :: (ofString b7,v7) :: (ofString b8,v8) :: (ofString b9,v9) :: (ofString b10,v10) :: (ofString b11,v11) :: (ofString b12,v12) :: (ofString b13,v13) :: (ofString b14,v14) :: (ofString b15,v15) :: (ofString b16,v16) :: (ofString b17,v17) :: (ofString b18,v18) :: (ofString a,u) :: r) (ofString a) v = some ((ofString b0,v0) :: (ofString b1,v1) :: (ofString b2,v2) :: (ofString b3,v3) :: (ofString b4,v4) :: (ofString b5,v5) :: (ofString b6,v6) :: (ofString b7,v7) :: (ofString b8,v8) :: (ofString b9,v9) :: (ofString b10,v10) :: (ofString b11,v11) :: (ofString b12,v12) :: (ofString b13,v13) :: (ofString b14,v14) :: (ofString b15,v15) :: (ofString b16,v16) :: (ofString b17,v17) :: (ofString b18,v18) :: (ofString a,v) :: setR r (ofString a) v):=as_at [(b0,v0),(b1,v1),(b2,v2),(b3,v3),(b4,v4),(b5,v5),(b6,v6),(b7,v7),(b8,v8),(b9,v9),(b10,v10),(b11,v11),(b12,v12),(b13,v13),(b14,v14),(b15,v15),(b16,v16),(b17,v17),(b18,v18)] h
theorem kl {α : Type} {a b0 b1 b2 b3 b4 b5 b6 b7 b8 b9 b10 b11 b12 b13 b14 b15 b16 b17 b18 b19 : String} {v0 v1 v2 v3 v4 v5 v6 v7 v8 v9 v10 v11 v12 v13 v14 v15 v16 v17 v18 v19 : α} {v : α} {r : List (Str×α)} (h : [b0,b1,b2,b3,b4,b5,b6,b7,b8,b9,b10,b11,b12,b13,b14,b15,b16,b17,b18,b19].contains a = false) : List.lookup (ofString a) ((ofString b0,v0) :: (ofString b1,v1) :: (ofString b2,v2) :: (ofString b3,v3) :: (ofString b4,v4) :: (ofString b5,v5) :: (ofString b6,v6) :: (ofString b7,v7) :: (ofString b8,v8) :: (ofString b9,v9) :: (ofString b10,v10) :: (ofString b11,v11) :: (ofString b12,v12) :: (ofString b13,v13) :: (ofString b14,v14) :: (ofString b15,v15) :: (ofString b16,v16) :: (ofString b17,v17) :: (ofString b18,v18) :: (ofString b19,v19) :: (ofString a,v) :: r) = some v:=lk_at [(b0,v0),(b1,v1),(b2,v2),(b3,v3),(b4,v4),(b5,v5),(b6,v6),(b7,v7),(b8,v8),(b9,v9),(b10,v10),(b11,v11),(b12,v12),(b13,v13),(b14,v14),(b15,v15),(b16,v16),(b17,v17),(b18,v18),(b19,v19)] h
theorem kH {α : Type} {a b0 b1 b2 b3 b4 b5 b6 b7 b8 b9 b10 b11 b12 b13 b14 b15 b16 b17 b18 b19 : String} {v0 v1 v2 v3 v4 v5 v6 v7 v8 v9 v10 v11 v12 v13 v14 v15 v16 v17 v18 v19 : α} (h : [b0,b1,b2,b3,b4,b5,b6,b7,b8,b9,b10,b11,b12,b13,b14,b15,b16,b17,b18,b19].contains a = false) : List.lookup (ofString a) ([(ofString b0,v0),(ofString b1,v1),(ofString b2,v2),(ofString b3,v3),(ofString b4,v4),(ofString b5,v5),(ofString b6,v6),(ofString b7,v7),(ofString b8,v8),(ofString b9,v9),(ofString b10,v10),(ofString b11,v11),(ofString b12,v12),(ofString b13,v13),(ofString b14,v14),(ofString b15,v15),(ofString b16,v16),(ofString b17,v17),(ofString b18,v18),(ofString b19,v19)] : List (Str×α)) = none:=lk_not [(b0,v0),(b1,v1),(b2,v2),(b3,v3),(b4,v4),(b5,v5),(b6,v6),(b7,v7),(b8,v8),(b9,v9),(b10,v10),(b11,v11),(b12,v12),(b13,v13),(b14,v14),(b15,v15),(b16,v16),(b17,v17),(b18,v18),(b19,v19)] h
theorem km {α : Type} {a b0 b1 b2 b3 b4 b5 b6 b7 b8 b9 b10 b11 b12 b13 b14 b15 b16 b17 b18 b19 b20 : String} {v0 v1 v2 v3 v4 v5 v6 v7 v8 v9 v10 v11 v12 v13 v14 v15 v16 v17 v18 v19 v20 : α} {v : α} {r : List (Str×α)} (h : [b0,b1,b2,b3,b4,b5,b6,b7,b8,b9,b10,b11,b12,b13,b14,b15,b16,b17,b18,b19,b20].contains a = false) : List.lookup (ofString a) ((ofString b0,v0) :: (ofString b1,v1) :: (ofString b2,v2) :: (ofString b3,v3) :: (ofString b4,v4) :: (ofString b5,v5) :: (ofString b6,v6) :: (ofString b7,v7) :: (ofString b8,v8) :: (ofString b9,v9) :: (ofString b10,v10) :: (ofString b11,v11) :: (ofString b12,v12) :: (ofString b13,v13) :: (ofString b14,v14) :: (ofString b15,v15) :: (ofString b16,v16) :: (ofString b17,v17) :: (ofString b18,v18) :: (ofString b19,v19) :: (ofString b20,v20) :: (ofString a,v) :: r) = some v:=lk_at [(b0,v0),(b1,v1),(b2,v2),(b3,v3),(b4,v4),(b5,v5),(b6,v6),(b7,v7),(b8,v8),(b9,v9),(b10,v10),(b11,v11),(b12,v12),(b13,v13),(b14,v14),(b15,v15),(b16,v16),(b17,v17),(b18,v18),(b19,v19),(b20,v20)] h
theorem ko {α : Type} {a b0 b1 b2 b3 b4 b5 b6 b7 b8 b9 b10 b11 b12 b13 b14 b15 b16 b17 b18 b19 b20 b21 : String} {v0 v1 v2 v3 v4 v5 v6 v7 v8 v9 v10 v11 v12 v13 v14 v15 v16 v17 v18 v19 v20 v21 : α} {v : α} {r : List (Str×α)} (h : [b0,b1,b2,b3,b4,b5,b6,b7,b8,b9,b10,b11,b12,b13,b14,b15,b16,b17,b18,b19,b20,b21].contains a = false) : List.lookup (ofString a) ((ofString b0,v0) :: (ofString b1,v1) :: (ofString b2,v2) :: (ofString b3,v3) :: (ofString b4,v4) :: (ofString b5,v5) :: (ofString b6,v6) :: (ofString b7,v7) :: (ofString b8,v8) :: (ofString b9,v9) :: (ofString b10,v10) :: (ofString b11,v11) :: (ofString b12,v12) :: (ofString b13,v13) :: (ofString b14,v14) :: (ofString b15,v15) :: (ofString b16,v16) :: (ofString b17,v17) :: (ofString b18,v18) :: (ofString b19,v19) :: (ofString b20,v20) :: (ofString b21,v21) :: (ofString a,v) :: r) = some v:=lk_at [(b0,v0),(b1,v1),(b2,v2),(b3,v3),(b4,v4),(b5,v5),(b6,v6),(b7,v7),(b8,v8),(b9,v9),(b10,v10),(b11,v11),(b12,v12),(b13,v13),(b14,v14),(b15,v15),(b16,v16),(b17,v17),(b18,v18),(b19,v19),(b20,v20),(b21,v21)] h
theorem kq {α : Type} {a b0 b1 b2 b3 b4 b5 b6 b7 b8 b9 b10 b11 b12 b13 b14 b15 b16 b17 b18 b19 b20 b21 b22 : String} {v0 v1 v2 v3 v4 v5 v6 v7 v8 v9 v10 v11 v12 v13 v14 v15 v16 v17 v18 v19 v20 v21 v22 : α} {v : α} {r : List (Str×α)} (h : [b0,b1,b2,b3,b4,b5,b6,b7,b8,b9,b10,b11,b12,b13,b14,b15,b16,b17,b18,b19,b20,b21,b22].contains a = false) : List.lookup (ofString a) ((ofString b0,v0) :: (ofString b1,v1) :: (ofString b2,v2) :: (ofString b3,v3) :: (ofString b4,v4) :: (ofString b5,v5) :: (ofString b6,v6) :: (ofString b7,v7) :: (ofString b8,v8) :: (ofString b9,v9) :: (ofString b10,v10) :: (ofString b11,v11) :: (ofString b12,v12) :: (ofString b13,v13) :: (ofString b14,v14) :: (ofString b15,v15) :: (ofString b16,v16) :: (ofString b17,v17) :: (ofString b18,v18) :: (ofString b19,v19) :: (ofString b20,v20) :: (ofString b21,v21) :: (ofString b22,v22) :: (ofString a,v) :: r) = some v:=lk_at [(b0,v0),(b1,v1),(b2,v2),(b3,v3),(b4,v4),(b5,v5),(b6,v6),(b7,v7),(b8,v8),(b9,v9),(b10,v10),(b11,v11),(b12,v12),(b13,v13),(b14,v14),(b15,v15),(b16,v16),(b17,v17),(b18,v18),(b19,v19),(b20,v20),(b21,v21),(b22,v22)] h
theorem kt {α : Type} {a b0 b1 b2 b3 b4 b5 b6 b7 b8 b9 b10 b11 b12 b13 b14 b15 b16 b17 b18 b19 b20 b21 b22 b23 : String} {v0 v1 v2 v3 v4 v5 v6 v7 v8 v9 v10 v11 v12 v13 v14 v15 v16 v17 v18 v19 v20 v21 v22 v23 : α} {v : α} {r : List (Str×α)} (h : [b0,b1,b2,b3,b4,b5,b6,b7,b8,b9,b10,b11,b12,b13,b14,b15,b16,b17,b18,b19,b20,b21,b22,b23].contains a = false) : List.lookup (ofString a) ((ofString b0,v0) :: (ofString b1,v1) :: (ofString b2,v2) :: (ofString b3,v3) :: (ofString b4,v4) :: (ofString b5,v5) :: (ofString b6,v6) :: (ofString b7,v7) :: (ofString b8,v8) :: (ofString b9,v9) :: (ofString b10,v10) :: (ofString b11,v11) :: (ofString b12,v12) :: (ofString b13,v13) :: (ofString b14,v14) :: (ofString b15,v15) :: (ofString b16,v16) :: (ofString b17,v17) :: (ofString b18,v18) :: (ofString b19,v19) :: (ofString b20,v20) :: (ofString b21,v21) :: (ofString b22,v22) :: (ofString b23,v23) :: (ofString a,v) :: r) = some v:=lk_at [(b0,v0),(b1,v1),(b2,v2),(b3,v3),(b4,v4),(b5,v5),(b6,v6),(b7,v7),(b8,v8),(b9,v9),(b10,v10),(b11,v11),(b12,v12),(b13,v13),(b14,v14),(b15,v15),(b16,v16),(b17,v17),(b18,v18),(b19,v19),(b20,v20),(b21,v21),(b22,v22),(b23,v23)] h
theorem ku {α : Type} {a b0 b1 b2 b3 b4 b5 b6 b7 b8 b9 b10 b11 b12 b13 b14 b15 b16 b17 b18 b19 b20 b21 b22 b23 b24 : String} {v0 v1 v2 v3 v4 v5 v6 v7 v8 v9 v10 v11 v12 v13 v14 v15 v16 v17 v18 v19 v20 v21 v22 v23 v24 : α} {v : α} {r : List (Str×α)} (h : [b0,b1,b2,b3,b4,b5,b6,b7,b8,b9,b10,b11,b12,b13,b14,b15,b16,b17,b18,b19,b20,b21,b22,b23,b24].contains a = false) : List.lookup (ofString a) ((ofString b0,v0) :: (ofString b1,v1) :: (ofString b2,v2) :: (ofString b3,v3) :: (ofString b4,v4) :: (ofString b5,v5) :: (ofString b6,v6) :: (ofString b7,v7) :: (ofString b8,v8) :: (ofString b9,v9) :: (ofString b10,v10) :: (ofString b11,v11) :: (ofString b12,v12) :: (ofString b13,v13) :: (ofString b14,v14) :: (ofString b15,v15) :: (ofString b16,v16) :: (ofString b17,v17) :: (ofString b18,v18) :: (ofString b19,v19) :: (ofString b20,v20) :: (ofString b21,v21) :: (ofString b22,v22) :: (ofString b23,v23) :: (ofString b24,v24) :: (ofString a,v) :: r) = some v:=lk_at [(b0,v0),(b1,v1),(b2,v2),(b3,v3),(b4,v4),(b5,v5),(b6,v6),(b7,v7),(b8,v8),(b9,v9),(b10,v10),(b11,v11),(b12,v12),(b13,v13),(b14,v14),(b15,v15),(b16,v16),(b17,v17),(b18,v18),(b19,v19),(b20,v20),(b21,v21),(b22,v22),(b23,v23),(b24,v24)] h
theorem zz {a b c} : isFresh (.BoolOp a b c) = false:=rfl
theorem zA {a b c d} : isFresh (.BinOp a b c d) = true:=rfl
theorem zB {a b c d} : isFresh (.IfExp a b c d) = false:=rfl
theorem zC {a b c d} : isFresh (.ListComp a b c d) = true:=rfl
theorem zD {a b c d} : isFresh (.Compare a b c d) = false:=rfl
theorem xg {a b c d} : notComp (.Compare a b c d) = true:=rfl
theorem zE {a b c d} : isFresh (.Call a b c d) = false:=rfl
theorem zF {a b c} : isFresh (.Constant a b c) = false:=rfl
theorem zG {a b} : isFresh (.Name a b) = false:=rfl
theorem xh {a b} : notComp (.Name a b) = true:=rfl
theorem zH {a b} : isFresh (.List a b) = true:=rfl
theorem xi {a b c} : notComp (.Tuple a b c) = true:=rfl
theorem zI {a b c d e f} : isFresh (.Subscript a (.Slice b c d e) f) = true:=rfl
theorem zV {sc : Scope} {ρ : Rho} {x p d} : bindT sc ρ (.Name x p) d = asgN sc ρ x (.fz d):=id rfl
theorem zW {sc : Scope} {ρ : Rho} {ts k p ds} : bindT sc ρ (.Tuple ts k p) (.tup ds) = bindNs sc ρ ts ds:=id rfl
noncomputable def oBs (sc : Scope) (ts : List Expr) (ds : List D) : Option Rho→Option Rho:=o1 fun ρ=>bindNs sc ρ ts ds
theorem zX {sc : Scope} {ρ : Rho} {ts : List Expr} {ds : List D} : oBs sc ts ds (some ρ) = bindNs sc ρ ts ds:=id rfl
theorem zY {sc : Scope} {ρ : Rho} : bindNs sc ρ [] [] = some ρ:=rfl
theorem zZ {sc : Scope} {ρ : Rho} {x p ts d ds} : bindNs sc ρ (.Name x p :: ts) (d :: ds) = oBs sc ts ds (asgN sc ρ x (.fz d)):=id rfl
noncomputable def oAs (sc : Scope) (d : D) (ts : List Expr) : Option Rho→Option Rho:=o1 fun ρ=>asgNs sc d ρ ts
theorem z0 {sc : Scope} {ρ : Rho} {ts : List Expr} {d : D} : oAs sc d ts (some ρ) = asgNs sc d ρ ts:=id rfl
theorem z9 {sc : Scope} {ρ : Rho} {d : D} : asgNs sc d ρ [] = some ρ:=rfl
theorem xa {sc : Scope} {ρ : Rho} {x p ts} {d : D} : asgNs sc d ρ (.Name x p :: ts) = oAs sc d ts (asgN sc ρ x (.fz d)):=id rfl
theorem xc {d} : LV.fzOnly (.fz d) = .fz d:=rfl
theorem wi {d : D} : lvOf false d = .fz d:=by cases d <;> rfl
theorem wj {l} : lvOf true (.list l) = .ow l:=rfl
theorem wk {i} : lvOf true (.int i) = .fz (.int i):=rfl
theorem wm {i} : lvOf true (.str i) = .fz (.str i):=rfl
theorem we {b} : truthD (.bool b) = some b:=rfl
theorem wf {i} : truthD (.int i) = some (decide (i≠0)):=rfl
theorem xQ : constD .none = some .none:=rfl
theorem xR {b} : constD (.bool b) = some (.bool b):=rfl
theorem xS {b} : constD (.int b) = some (.int b):=rfl
theorem xT {b} : constD (.str b) = some (.str b.cps.toList):=rfl
theorem xU {b} : constD (.bytes b) = some (.bytes b):=rfl
theorem wg {b} : unD .Not (.bool b) = some (.bool (!b)):=rfl
theorem wn {i} : flat (.int i) = true:=rfl
theorem xk {ρ : Rho} : updR ρ [] = ρ:=rfl
theorem xm {ρ : Rho} {x v r} : updR ρ ((x,v) :: r) = updR (setR ρ x v) r:=rfl
theorem vd {l : List D} : itD (.list l) = if l.length≤lim then some l else none:=rfl
theorem ve {l : List Nat} : itD (.str l) = if l.length≤lim then some (l.map fun c=>.str [c]) else none:=rfl
theorem vf {l : List UInt8} : itD (.bytes l) = if l.length≤lim then some (l.map fun b=>.int (b.toNat : Int)) else none:=rfl
theorem vg {a b c : Int} : itD (.rng a b c) = if -1000000≤a∧a≤1000000∧-1000000≤b∧b≤1000000∧(c = 1∨c = -1) then some ((rngL a b c).map .int) else none:=rfl
theorem xd {a : Str} {d : D} : setF [] a d = [(a,d)]:=rfl
theorem xe {a b : String} {d e : D} {r : List (Str×D)} (h : (b == a) = false) : setF ((ofString b,e) :: r) (ofString a) d = (ofString b,e) :: setF r (ofString a) d:=if_neg fun z=>by rw [ofString_inj] at z; rw [z] at h; simp at h
noncomputable def lenOk (es : List Expr) : Bool:=decide (es.length≤lim)
noncomputable def okMt (o : Expr) (ap p : Pos) (args : List Expr) (kws : List Keyword) : Bool:=attrBaseOk o && ap.endLine == p.line && decide (args.length + kws.length < 20)
noncomputable def okLC (iter : Expr) (scope : Scope) : Bool:=okE iter && scope.kind == .function && nodupB (scope.names.map (·.1)) && (0 : Int) == 0
noncomputable def okRw (ts : List Expr) (v : Expr) : Bool:=distinctNames ts [] && notConsts v && (ts.length == 2 || ts.length == 3)
noncomputable def okSb (x : Str) (i v : Expr) : Bool:=notComp v && !((nmE fuelN i).contains x) && nmOk x
noncomputable def okAp (x : Str) (e : Expr) (ap cp : Pos) : Bool:=!((nmE fuelN e).contains x) && ap.endLine == cp.line && okE e && nmOk x
theorem zT {x : Str} {v : LV} {r : Rho} : oFr x (some v) (some r) = some ((x,v.fzOnly) :: r):=rfl
theorem zU {x : Str} {r : Rho} : oUr x (some r) = some ((x,.un) :: r):=rfl
theorem zP {ρ : Rho} {sc : Scope} : compRho sc ρ [] = some []:=rfl
theorem zQ {ρ : Rho} {sc : Scope} {x r} : compRho sc ρ ((x,.globalImplicit) :: r) = compRho sc ρ r:=rfl
theorem zR {ρ : Rho} {sc : Scope} {x r} : compRho sc ρ ((x,.local) :: r) = oUr x (compRho sc ρ r):=id rfl
theorem zS {ρ : Rho} {sc : Scope} {x r} (h : okFr sc x = true) : compRho sc ρ ((x,.free) :: r) = oFr x (ρ.lookup x) (compRho sc ρ r):=if_pos h
theorem qG {x : Str} {p} (h : nmOk x = true) : (evN P (n + 1)).e sc ρ (.Name x p) = oLk P sc x (ρ.lookup x):=ev_name.trans (if_pos h)
theorem yv {x : Str} (h : sc.names.lookup x = some .globalImplicit) : oLk P sc x none = P.gl x:=oLk_n.trans (if_pos h)
theorem qL {l op r p} (h : okE r = true) : (evN P (n + 1)).e sc ρ (.Compare l [op] [r] p) = oB (oCmp op ((evN P n).e sc ρ l) ((evN P n).e sc ρ r)):=ev_cmp.trans (if_pos h)
theorem qN {es : List Expr} {p} (h : lenOk es = true) : (evN P (n + 1)).e sc ρ (.List es p) = oList (evs ((evN P n).e sc ρ) es):=ev_list.trans (if_pos (of_decide_eq_true h))
theorem qO {es : List Expr} {k p} (h : lenOk es = true) : (evN P (n + 1)).e sc ρ (.Tuple es k p) = oTup (evs ((evN P n).e sc ρ) es):=ev_tup.trans (if_pos (of_decide_eq_true h))
theorem qQ {f : Expr→Option D} {e r} (h : okE e = true) : evs f (e :: r) = oCons (f e) (evs f r):=evs_cons.trans (if_pos h)
theorem qT {o x p} (h : attrBaseOk o = true) : (evN P (n + 1)).e sc ρ (.Attribute o x p) = oAtt P x ((evN P n).e sc ρ o):=ev_att.trans (if_pos h)
theorem q9 {o x ap args kws p} (h : okMt o ap p args kws = true) : (evN P (n + 1)).e sc ρ (.Call (.Attribute o x ap) args kws p) = oMt P x ((evN P n).e sc ρ o) (evs ((evN P n).e sc ρ) args) (evk ((evN P n).e sc ρ) kws):=ev_mt.trans (if_pos h)
theorem yb {elt target iter ifs scope p} (h : okLC iter scope = true) : (evN P (n + 1)).e sc ρ (.ListComp elt [⟨target,iter,ifs,0⟩] scope p) = oComp (evN P n) scope target ifs elt (compI (evN P n) sc ρ target iter) (compRho sc ρ scope.names):=ev_comp.trans (if_pos h)
theorem yl {l op r p} (h : okE r = true) : (evN P (n + 1)).t sc ρ (.Compare l [op] [r] p) = oCmp op ((evN P n).e sc ρ l) ((evN P n).e sc ρ r):=et_cmp.trans (if_pos h)
theorem ym {l o1 o2 r1 r2 p} (h : okE r2 = true) : (evN P (n + 1)).t sc ρ (.Compare l [o1,o2] [r1,r2] p) = oCmp2 o1 o2 ((evN P n).e sc ρ l) ((evN P n).e sc ρ r1) ((evN P n).e sc ρ r2):=et_cmp2.trans (if_pos h)
theorem jq {x p v q} (h : okV v = true) : S1 P n sc ρ (.Assign [.Name x p] v q) = oAsg sc x (isFresh v) (evO (evN P fuelN) sc ρ v):=s_name.trans (if_pos h)
theorem jr {ts k tp v q} (h : okRw ts v = true) : S1 P n sc ρ (.Assign [.Tuple ts k tp] v q) = oRow sc ts (evO (evN P fuelN) sc ρ v):=s_row.trans (if_pos h)
theorem ju {x p a q v s} (h : nmOk x = true) : S1 P n sc ρ (.Assign [.Attribute (.Name x p) a q] v s) = oAttr P x a (notComp v) (evO (evN P fuelN) sc ρ v):=s_attr.trans (if_pos h)
theorem jv {x p i q v s} (h : okSb x i v = true) : S1 P n sc ρ (.Assign [.Subscript (.Name x p) i q] v s) = oSub (evN P fuelN) sc x i (evO (evN P fuelN) sc ρ v):=s_sub.trans (if_pos h)
theorem jx {x p m ap e cp s} (h : okAp x e ap cp = true) : S1 P n sc ρ (.Expr (.Call (.Attribute (.Name x p) m ap) [e] [] cp) s) = oApp x m (ρ.lookup x) (evO (evN P fuelN) sc ρ e):=s_app.trans (if_pos h)
theorem jz {tgt it b p} (h : okE it = true) : S1 P n sc ρ (.For tgt it b [] p) = oFor (exN P n sc) sc tgt b (evO (evN P fuelN) sc ρ it):=s_for.trans (if_pos h)
theorem yX {ts : List Expr} {ds : List D} {ρ₁ : Rho} (h : ds.length≤lim) : oRow sc ts (some (.tup ds,ρ₁)) = oNext (bindNs sc ρ₁ ts ds):=oRow_t.trans (if_pos h)
theorem yY {ts : List Expr} {ds : List D} {ρ₁ : Rho} (h : ds.length≤lim) : oRow sc ts (some (.list ds,ρ₁)) = oNext (bindNs sc ρ₁ ts ds):=oRow_l.trans (if_pos h)
theorem yO {z : Bool} {N : List Str} : oO ρ N (some (.bool z)) = some (.bool z,ρ):=id rfl
theorem yP {z : Int} {N : List Str} : oO ρ N (some (.int z)) = some (.int z,ρ):=id rfl
theorem yZ {z : Int} {ts : List Expr} {ρ₁ : Rho} : oNames sc ts (some (.int z,ρ₁)) = oNext (asgNs sc (.int z) ρ₁ ts):=id rfl
theorem yQ {z : List Nat} {N : List Str} : oO ρ N (some (.str z)) = some (.str z,ρ):=id rfl
theorem yR {z : List UInt8} {N : List Str} : oO ρ N (some (.bytes z)) = some (.bytes z,ρ):=id rfl
theorem yS {z : Value} {N : List Str} : oO ρ N (some (.val z)) = some (.val z,ρ):=id rfl
theorem yT {z : List D} {N : List Str} : oO ρ N (some (.list z)) = some (.list z,frzM N ρ):=id rfl
theorem yU {z : List D} {N : List Str} : oO ρ N (some (.tup z)) = some (.tup z,frzM N ρ):=id rfl
theorem yV {y z u : Int} {N : List Str} : oO ρ N (some (.rng y z u)) = some (.rng y z u,frzM N ρ):=id rfl
theorem zc {x : Str} {v : Expr} {a b : Int} {ρ₁ : Rho} (h : nmOk x = true) : oAug sc x v (some (.fz (.int a))) (some (.int b,ρ₁)) = oNext (asgN sc ρ₁ x (.fz (.int (a + b)))):=oAug_i.trans (if_pos h)
theorem zb {x : Str} {ok : Bool} {d : D} {l : List D} {k : Int} {ρ₂ : Rho} (h : (flat d && inB k l.length && ok && decide (l.length≤lim)) = true) : oSub1 x ok d (some (.ow l)) (some (.int k,ρ₂)) = some (.next (setR ρ₂ x (.ow (l.set (ix k l.length) d)))):=oSub1_s.trans (if_pos h)
theorem zw {x : Str} {l : List D} {d : D} {ρ₁ : Rho} (h : l.length≤lim) : oApp x (ofString "append") (some (.ow l)) (some (d,ρ₁)) = some (.next (setR ρ₁ x (.ow (l ++ [d])))):=oApp_a h
theorem zn {x a : Str} {ok : Bool} {d : D} {ρ₁ : Rho} {y C : Addr} {fs : List (Str×D)} (h : (P.st C a && decide (fs.length < 100) && ok) = true) : oAt2 P x a ok d ρ₁ (some (.oi y C fs)) = some (.next (setR ρ₁ x (.oi y C (setF fs a d)))):=oAt2_s.trans (if_pos h)
end
end Mine
namespace Mine
open PySem PySem.W PySem.Calls PyProof.Rows
noncomputable abbrev R0:=PySem.Challenge.rw_pa0015_03.row
noncomputable abbrev pg0 : Program:=R0.toRowW.prog
noncomputable def q0 : Program:=view pg0 [0,2,3,5,6,7,8,9,10,17,19,20,21,22,23,24,25,26,27,28]
noncomputable def ls0 : List Str:=["Whitespace", "bytes_types", "a2b_base64", "b2a_base64", "b64encode", "b64decode"]
noncomputable def st (i : Nat) : Stmt:=pg0.main.body[i]?.getD (.Pass default)
noncomputable def mt (i j : Nat) : Stmt:=match st i with
 | .ClassDef _ _ _ b _ _ _ _ _ _ _=>b[j]?.getD (.Pass default)
 | _=>.Pass default
noncomputable abbrev ta {α : Type} (l : List α) : Array α:=l.toArray
noncomputable def mkF (s : Stmt) (q : Str) (df kw dc md cd ct : Value) : Obj:=match s with
 | .FunctionDef n as b _ _ _ sc _ _ _=>⟨.type "function",none,.func ⟨n,q,as,.stmts b,sc,3,[],df,kw,dc,md,none,cd,ct,0⟩,#[]⟩
 | _=>default
noncomputable def KK (P : Params) : Frag:=[
 (2,Obj.mk Value.none none (Data.dict (ta List.nil)) (ta List.nil)),
 (3,Obj.mk (Value.type "dict") none (Data.dict (ta (List.cons (DictEntry.mk (PyData.keyHash P (ofString "__name__")) (Value.str (ofString "__name__") 165) (Value.str (ofString "law_pa0015_03") 415)) (List.cons (DictEntry.mk (PyData.keyHash P (ofString "__doc__")) (Value.str (ofString "__doc__") 166) Value.none) (List.cons (DictEntry.mk (PyData.keyHash P (ofString "__package__")) (Value.str (ofString "__package__") 167) Value.none) (List.cons (DictEntry.mk (PyData.keyHash P (ofString "__loader__")) (Value.str (ofString "__loader__") 168) (Value.builtin "__main__.__loader__#opaque")) (List.cons (DictEntry.mk (PyData.keyHash P (ofString "__spec__")) (Value.str (ofString "__spec__") 169) Value.none) (List.cons (DictEntry.mk (PyData.keyHash P (ofString "__annotations__")) (Value.str (ofString "__annotations__") 170) (Value.ref 6)) (List.cons (DictEntry.mk (PyData.keyHash P (ofString "__builtins__")) (Value.str (ofString "__builtins__") 171) (Value.ref 4)) (List.cons (DictEntry.mk (PyData.keyHash P (ofString "__file__")) (Value.str (ofString "__file__") 173) (Value.str (ofString "/claim/cut.py") 172)) (List.cons (DictEntry.mk (PyData.keyHash P (ofString "__cached__")) (Value.str (ofString "__cached__") 174) Value.none) (List.cons (DictEntry.mk (PyData.keyHash P (ofString "_wall")) (Value.str (ofString "_wall") 193) (Value.ref 21)) (List.cons (DictEntry.mk (PyData.keyHash P (ofString "bytes_types")) (Value.str (ofString "bytes_types") 196) (Value.ref 22)) (List.cons (DictEntry.mk (PyData.keyHash P (ofString "_bytes_from_decode_data")) (Value.str (ofString "_bytes_from_decode_data") 203) (Value.ref 29)) (List.cons (DictEntry.mk (PyData.keyHash P (ofString "Error")) (Value.str (ofString "Error") 223) (Value.ref 39)) (List.cons (DictEntry.mk (PyData.keyHash P (ofString "_ascii_buffer")) (Value.str (ofString "_ascii_buffer") 231) (Value.ref 49)) (List.cons (DictEntry.mk (PyData.keyHash P (ofString "_buffer")) (Value.str (ofString "_buffer") 239) (Value.ref 56)) (List.cons (DictEntry.mk (PyData.keyHash P (ofString "_truth")) (Value.str (ofString "_truth") 247) (Value.ref 63)) (List.cons (DictEntry.mk (PyData.keyHash P (ofString "_B64")) (Value.str (ofString "_B64") 249) (Value.bytes (ta (List.cons 65 (List.cons 66 (List.cons 67 (List.cons 68 (List.cons 69 (List.cons 70 (List.cons 71 (List.cons 72 (List.cons 73 (List.cons 74 (List.cons 75 (List.cons 76 (List.cons 77 (List.cons 78 (List.cons 79 (List.cons 80 (List.cons 81 (List.cons 82 (List.cons 83 (List.cons 84 (List.cons 85 (List.cons 86 (List.cons 87 (List.cons 88 (List.cons 89 (List.cons 90 (List.cons 97 (List.cons 98 (List.cons 99 (List.cons 100 (List.cons 101 (List.cons 102 (List.cons 103 (List.cons 104 (List.cons 105 (List.cons 106 (List.cons 107 (List.cons 108 (List.cons 109 (List.cons 110 (List.cons 111 (List.cons 112 (List.cons 113 (List.cons 114 (List.cons 115 (List.cons 116 (List.cons 117 (List.cons 118 (List.cons 119 (List.cons 120 (List.cons 121 (List.cons 122 (List.cons 48 (List.cons 49 (List.cons 50 (List.cons 51 (List.cons 52 (List.cons 53 (List.cons 54 (List.cons 55 (List.cons 56 (List.cons 57 (List.cons 43 (List.cons 47 List.nil))))))))))))))))))))))))))))))))))))))))))))))))))))))))))))))))) 248)) (List.cons (DictEntry.mk (PyData.keyHash P (ofString "_b64_value")) (Value.str (ofString "_b64_value") 256) (Value.ref 70)) (List.cons (DictEntry.mk (PyData.keyHash P (ofString "a2b_base64")) (Value.str (ofString "a2b_base64") 272) (Value.ref 78)) (List.cons (DictEntry.mk (PyData.keyHash P (ofString "b2a_base64")) (Value.str (ofString "b2a_base64") 286) (Value.ref 86)) (List.cons (DictEntry.mk (PyData.keyHash P (ofString "b64encode")) (Value.str (ofString "b64encode") 297) (Value.ref 94)) (List.cons (DictEntry.mk (PyData.keyHash P (ofString "b64decode")) (Value.str (ofString "b64decode") 306) (Value.ref 102)) (List.cons (DictEntry.mk (PyData.keyHash P (ofString "Whitespace")) (Value.str (ofString "Whitespace") 414) (Value.ref 164)) (List.cons (DictEntry.mk (PyData.keyHash P (ofString "_law_signs")) (Value.str (ofString "_law_signs") 423) (Value.ref 175)) (List.cons (DictEntry.mk (PyData.keyHash P (ofString "_law_sign")) (Value.str (ofString "_law_sign") 432) (Value.ref 182)) (List.cons (DictEntry.mk (PyData.keyHash P (ofString "_law_figures")) (Value.str (ofString "_law_figures") 442) (Value.ref 189)) (List.cons (DictEntry.mk (PyData.keyHash P (ofString "_law_octets")) (Value.str (ofString "_law_octets") 453) (Value.ref 196)) (List.cons (DictEntry.mk (PyData.keyHash P (ofString "_law_read")) (Value.str (ofString "_law_read") 461) (Value.ref 203)) (List.cons (DictEntry.mk (PyData.keyHash P (ofString "_law_due")) (Value.str (ofString "_law_due") 471) (Value.ref 210)) (List.cons (DictEntry.mk (PyData.keyHash P (ofString "_law_shown")) (Value.str (ofString "_law_shown") 477) (Value.ref 215)) (List.cons (DictEntry.mk (PyData.keyHash P (ofString "_law_line")) (Value.str (ofString "_law_line") 483) (Value.ref 220)) (List.cons (DictEntry.mk (PyData.keyHash P (ofString "_law_table")) (Value.str (ofString "_law_table") 489) (Value.ref 225)) (List.cons (DictEntry.mk (PyData.keyHash P (ofString "law")) (Value.str (ofString "law") 495) (Value.ref 230)) List.nil)))))))))))))))))))))))))))))))))) 33) (ta List.nil)),
 (20,Obj.mk (Value.type "code") none (Data.fields (ta (List.cons (Value.str (ofString "_wall") 187) (List.cons (Value.str (ofString "_wall") 188) (List.cons (Value.str (ofString "/claim/cut.py") 189) (List.cons (Value.int 1 0) (List.cons (Value.int 1 0) (List.cons (Value.int 0 0) (List.cons (Value.int 0 0) (List.cons (Value.int 3 0) (List.cons (Value.ref 15) (List.cons (Value.bool true) (List.cons (Value.int 181 0) (List.cons (Value.ref 16) (List.cons Value.none (List.cons (Value.ref 17) (List.cons (Value.ref 18) (List.cons (Value.ref 19) (List.cons (Value.int 191 0) (List.cons (Value.int 1 0) (List.cons (Value.str (ofString "/claim/cut.py") 192) List.nil))))))))))))))))))))) (ta List.nil)),
 (21,mkF (st 0) "_wall" (Value.none) (Value.none) (Value.none) (Value.str (ofString "__main__") 164) (Value.ref 20) (Value.none)),
 (22,Obj.mk (Value.type "tuple") none (Data.seq (ta (List.cons (Value.type "bytes") (List.cons (Value.type "bytearray") List.nil)))) (ta List.nil)),
 (28,Obj.mk (Value.type "code") none (Data.fields (ta (List.cons (Value.str (ofString "_bytes_from_decode_data") 197) (List.cons (Value.str (ofString "_bytes_from_decode_data") 198) (List.cons (Value.str (ofString "/claim/cut.py") 199) (List.cons (Value.int 6 0) (List.cons (Value.int 1 0) (List.cons (Value.int 0 0) (List.cons (Value.int 0 0) (List.cons (Value.int 3 0) (List.cons (Value.ref 23) (List.cons (Value.bool true) (List.cons (Value.int 181 0) (List.cons (Value.ref 24) (List.cons Value.none (List.cons (Value.ref 25) (List.cons (Value.ref 26) (List.cons (Value.ref 27) (List.cons (Value.int 201 0) (List.cons (Value.int 6 0) (List.cons (Value.str (ofString "/claim/cut.py") 202) List.nil))))))))))))))))))))) (ta List.nil)),
 (29,mkF (st 3) "_bytes_from_decode_data" (Value.none) (Value.none) (Value.none) (Value.str (ofString "cpy313.base64") 194) (Value.ref 28) (Value.none)),
 (38,Obj.mk (Value.type "dict") none (Data.dict (ta (List.cons (DictEntry.mk (PyData.keyHash P (ofString "__module__")) (Value.str (ofString "__module__") 213) (Value.str (ofString "binascii") 204)) (List.cons (DictEntry.mk (PyData.keyHash P (ofString "__firstlineno__")) (Value.str (ofString "__firstlineno__") 217) (Value.int 19 216)) (List.cons (DictEntry.mk (PyData.keyHash P (ofString "__static_attributes__")) (Value.str (ofString "__static_attributes__") 218) (Value.ref 37)) (List.cons (DictEntry.mk (PyData.keyHash P (ofString "__weakref__")) (Value.str (ofString "__weakref__") 220) (Value.ref 40)) (List.cons (DictEntry.mk (PyData.keyHash P (ofString "__doc__")) (Value.str (ofString "__doc__") 221) Value.none) List.nil)))))) 3) (ta List.nil)),
 (39,Obj.mk (Value.type "type") none (Data.cls (ClassData.mk (ofString "Error") (List.cons (Value.type "ValueError") List.nil) (List.cons (Value.ref 39) (List.cons (Value.type "ValueError") (List.cons (Value.type "Exception") (List.cons (Value.type "BaseException") (List.cons (Value.type "object") List.nil))))) 38 (ofString "Error") true List.nil List.nil false none false)) (ta (List.cons (some (Value.ref 30)) (List.cons none (List.cons (some (Value.str (ofString "Error") 206)) (List.cons (some (Value.str (ofString "Error") 214)) (List.cons (some (Value.builtin "ValueError.__new__")) (List.cons (some (Value.bool true)) List.nil)))))))),
 (40,Obj.mk (Value.type "getset_descriptor") none (Data.fields (ta (List.cons (Value.str (ofString "__weakref__") 219) (List.cons (Value.ref 39) (List.cons (Value.builtin "ExceptionGroup.__weakref__") (List.cons Value.none List.nil)))))) (ta List.nil)),
 (48,Obj.mk (Value.type "code") none (Data.fields (ta (List.cons (Value.str (ofString "_ascii_buffer") 224) (List.cons (Value.str (ofString "_ascii_buffer") 225) (List.cons (Value.str (ofString "/claim/cut.py") 226) (List.cons (Value.int 21 0) (List.cons (Value.int 1 0) (List.cons (Value.int 0 0) (List.cons (Value.int 0 0) (List.cons (Value.int 3 0) (List.cons (Value.ref 43) (List.cons (Value.bool true) (List.cons (Value.int 181 0) (List.cons (Value.ref 44) (List.cons Value.none (List.cons (Value.ref 45) (List.cons (Value.ref 46) (List.cons (Value.ref 47) (List.cons (Value.int 229 0) (List.cons (Value.int 21 0) (List.cons (Value.str (ofString "/claim/cut.py") 230) List.nil))))))))))))))))))))) (ta List.nil)),
 (49,mkF (st 6) "_ascii_buffer" (Value.none) (Value.none) (Value.none) (Value.str (ofString "binascii") 204) (Value.ref 48) (Value.none)),
 (55,Obj.mk (Value.type "code") none (Data.fields (ta (List.cons (Value.str (ofString "_buffer") 232) (List.cons (Value.str (ofString "_buffer") 233) (List.cons (Value.str (ofString "/claim/cut.py") 234) (List.cons (Value.int 32 0) (List.cons (Value.int 1 0) (List.cons (Value.int 0 0) (List.cons (Value.int 0 0) (List.cons (Value.int 3 0) (List.cons (Value.ref 50) (List.cons (Value.bool true) (List.cons (Value.int 181 0) (List.cons (Value.ref 51) (List.cons Value.none (List.cons (Value.ref 52) (List.cons (Value.ref 53) (List.cons (Value.ref 54) (List.cons (Value.int 237 0) (List.cons (Value.int 32 0) (List.cons (Value.str (ofString "/claim/cut.py") 238) List.nil))))))))))))))))))))) (ta List.nil)),
 (56,mkF (st 7) "_buffer" (Value.none) (Value.none) (Value.none) (Value.str (ofString "binascii") 204) (Value.ref 55) (Value.none)),
 (62,Obj.mk (Value.type "code") none (Data.fields (ta (List.cons (Value.str (ofString "_truth") 240) (List.cons (Value.str (ofString "_truth") 241) (List.cons (Value.str (ofString "/claim/cut.py") 242) (List.cons (Value.int 39 0) (List.cons (Value.int 1 0) (List.cons (Value.int 0 0) (List.cons (Value.int 0 0) (List.cons (Value.int 3 0) (List.cons (Value.ref 57) (List.cons (Value.bool true) (List.cons (Value.int 181 0) (List.cons (Value.ref 58) (List.cons Value.none (List.cons (Value.ref 59) (List.cons (Value.ref 60) (List.cons (Value.ref 61) (List.cons (Value.int 245 0) (List.cons (Value.int 39 0) (List.cons (Value.str (ofString "/claim/cut.py") 246) List.nil))))))))))))))))))))) (ta List.nil)),
 (63,mkF (st 8) "_truth" (Value.none) (Value.none) (Value.none) (Value.str (ofString "binascii") 204) (Value.ref 62) (Value.none)),
 (69,Obj.mk (Value.type "code") none (Data.fields (ta (List.cons (Value.str (ofString "_b64_value") 250) (List.cons (Value.str (ofString "_b64_value") 251) (List.cons (Value.str (ofString "/claim/cut.py") 252) (List.cons (Value.int 45 0) (List.cons (Value.int 1 0) (List.cons (Value.int 0 0) (List.cons (Value.int 0 0) (List.cons (Value.int 3 0) (List.cons (Value.ref 64) (List.cons (Value.bool true) (List.cons (Value.int 181 0) (List.cons (Value.ref 65) (List.cons Value.none (List.cons (Value.ref 66) (List.cons (Value.ref 67) (List.cons (Value.ref 68) (List.cons (Value.int 254 0) (List.cons (Value.int 45 0) (List.cons (Value.str (ofString "/claim/cut.py") 255) List.nil))))))))))))))))))))) (ta List.nil)),
 (70,mkF (st 10) "_b64_value" (Value.none) (Value.none) (Value.none) (Value.str (ofString "binascii") 204) (Value.ref 69) (Value.none)),
 (71,Obj.mk (Value.type "dict") none (Data.dict (ta (List.cons (DictEntry.mk (PyData.keyHash P (ofString "strict_mode")) (Value.str (ofString "strict_mode") 257) (Value.bool false)) List.nil)) 1) (ta List.nil)),
 (77,Obj.mk (Value.type "code") none (Data.fields (ta (List.cons (Value.str (ofString "a2b_base64") 258) (List.cons (Value.str (ofString "a2b_base64") 259) (List.cons (Value.str (ofString "/claim/cut.py") 260) (List.cons (Value.int 57 0) (List.cons (Value.int 1 0) (List.cons (Value.int 1 0) (List.cons (Value.int 1 0) (List.cons (Value.int 3 0) (List.cons (Value.ref 72) (List.cons (Value.bool true) (List.cons (Value.int 181 0) (List.cons (Value.ref 73) (List.cons Value.none (List.cons (Value.ref 74) (List.cons (Value.ref 75) (List.cons (Value.ref 76) (List.cons (Value.int 270 0) (List.cons (Value.int 57 0) (List.cons (Value.str (ofString "/claim/cut.py") 271) List.nil))))))))))))))))))))) (ta List.nil)),
 (78,mkF (st 11) "a2b_base64" (Value.none) (Value.ref 71) (Value.none) (Value.str (ofString "binascii") 204) (Value.ref 77) (Value.none)),
 (79,Obj.mk (Value.type "dict") none (Data.dict (ta (List.cons (DictEntry.mk (PyData.keyHash P (ofString "newline")) (Value.str (ofString "newline") 273) (Value.bool true)) List.nil)) 1) (ta List.nil)),
 (85,Obj.mk (Value.type "code") none (Data.fields (ta (List.cons (Value.str (ofString "b2a_base64") 274) (List.cons (Value.str (ofString "b2a_base64") 275) (List.cons (Value.str (ofString "/claim/cut.py") 276) (List.cons (Value.int 111 0) (List.cons (Value.int 1 0) (List.cons (Value.int 1 0) (List.cons (Value.int 1 0) (List.cons (Value.int 3 0) (List.cons (Value.ref 80) (List.cons (Value.bool true) (List.cons (Value.int 181 0) (List.cons (Value.ref 81) (List.cons Value.none (List.cons (Value.ref 82) (List.cons (Value.ref 83) (List.cons (Value.ref 84) (List.cons (Value.int 284 0) (List.cons (Value.int 111 0) (List.cons (Value.str (ofString "/claim/cut.py") 285) List.nil))))))))))))))))))))) (ta List.nil)),
 (86,mkF (st 12) "b2a_base64" (Value.none) (Value.ref 79) (Value.none) (Value.str (ofString "binascii") 204) (Value.ref 85) (Value.none)),
 (87,Obj.mk (Value.type "tuple") none (Data.seq (ta (List.cons Value.none List.nil))) (ta List.nil)),
 (93,Obj.mk (Value.type "code") none (Data.fields (ta (List.cons (Value.str (ofString "b64encode") 289) (List.cons (Value.str (ofString "b64encode") 290) (List.cons (Value.str (ofString "/claim/cut.py") 291) (List.cons (Value.int 134 0) (List.cons (Value.int 2 0) (List.cons (Value.int 0 0) (List.cons (Value.int 0 0) (List.cons (Value.int 3 0) (List.cons (Value.ref 88) (List.cons (Value.bool true) (List.cons (Value.int 181 0) (List.cons (Value.ref 89) (List.cons Value.none (List.cons (Value.ref 90) (List.cons (Value.ref 91) (List.cons (Value.ref 92) (List.cons (Value.int 295 0) (List.cons (Value.int 134 0) (List.cons (Value.str (ofString "/claim/cut.py") 296) List.nil))))))))))))))))))))) (ta List.nil)),
 (94,mkF (st 14) "b64encode" (Value.ref 87) (Value.none) (Value.none) (Value.str (ofString "cpy313.base64") 287) (Value.ref 93) (Value.none)),
 (95,Obj.mk (Value.type "tuple") none (Data.seq (ta (List.cons Value.none (List.cons (Value.bool false) List.nil)))) (ta List.nil)),
 (101,Obj.mk (Value.type "code") none (Data.fields (ta (List.cons (Value.str (ofString "b64decode") 298) (List.cons (Value.str (ofString "b64decode") 299) (List.cons (Value.str (ofString "/claim/cut.py") 300) (List.cons (Value.int 140 0) (List.cons (Value.int 3 0) (List.cons (Value.int 0 0) (List.cons (Value.int 0 0) (List.cons (Value.int 3 0) (List.cons (Value.ref 96) (List.cons (Value.bool true) (List.cons (Value.int 181 0) (List.cons (Value.ref 97) (List.cons Value.none (List.cons (Value.ref 98) (List.cons (Value.ref 99) (List.cons (Value.ref 100) (List.cons (Value.int 304 0) (List.cons (Value.int 140 0) (List.cons (Value.str (ofString "/claim/cut.py") 305) List.nil))))))))))))))))))))) (ta List.nil)),
 (102,mkF (st 15) "b64decode" (Value.ref 95) (Value.none) (Value.none) (Value.str (ofString "cpy313.base64") 287) (Value.ref 101) (Value.none)),
 (118,Obj.mk (Value.type "code") none (Data.fields (ta (List.cons (Value.str (ofString "__init__") 326) (List.cons (Value.str (ofString "Whitespace.__init__") 327) (List.cons (Value.str (ofString "/claim/cut.py") 328) (List.cons (Value.int 151 0) (List.cons (Value.int 2 0) (List.cons (Value.int 0 0) (List.cons (Value.int 0 0) (List.cons (Value.int 3 0) (List.cons (Value.ref 113) (List.cons (Value.bool true) (List.cons (Value.int 181 0) (List.cons (Value.ref 114) (List.cons Value.none (List.cons (Value.ref 115) (List.cons (Value.ref 116) (List.cons (Value.ref 117) (List.cons (Value.int 338 0) (List.cons (Value.int 151 0) (List.cons (Value.str (ofString "/claim/cut.py") 339) List.nil))))))))))))))))))))) (ta List.nil)),
 (119,mkF (mt 17 1) "Whitespace.__init__" (Value.none) (Value.none) (Value.none) (Value.str (ofString "cpy313.tabnanny") 307) (Value.ref 118) (Value.none)),
 (125,Obj.mk (Value.type "code") none (Data.fields (ta (List.cons (Value.str (ofString "longest_run_of_spaces") 341) (List.cons (Value.str (ofString "Whitespace.longest_run_of_spaces") 342) (List.cons (Value.str (ofString "/claim/cut.py") 343) (List.cons (Value.int 174 0) (List.cons (Value.int 1 0) (List.cons (Value.int 0 0) (List.cons (Value.int 0 0) (List.cons (Value.int 3 0) (List.cons (Value.ref 120) (List.cons (Value.bool true) (List.cons (Value.int 181 0) (List.cons (Value.ref 121) (List.cons Value.none (List.cons (Value.ref 122) (List.cons (Value.ref 123) (List.cons (Value.ref 124) (List.cons (Value.int 347 0) (List.cons (Value.int 174 0) (List.cons (Value.str (ofString "/claim/cut.py") 348) List.nil))))))))))))))))))))) (ta List.nil)),
 (126,mkF (mt 17 2) "Whitespace.longest_run_of_spaces" (Value.none) (Value.none) (Value.none) (Value.str (ofString "cpy313.tabnanny") 307) (Value.ref 125) (Value.none)),
 (132,Obj.mk (Value.type "code") none (Data.fields (ta (List.cons (Value.str (ofString "indent_level") 350) (List.cons (Value.str (ofString "Whitespace.indent_level") 351) (List.cons (Value.str (ofString "/claim/cut.py") 352) (List.cons (Value.int 178 0) (List.cons (Value.int 2 0) (List.cons (Value.int 0 0) (List.cons (Value.int 0 0) (List.cons (Value.int 3 0) (List.cons (Value.ref 127) (List.cons (Value.bool true) (List.cons (Value.int 181 0) (List.cons (Value.ref 128) (List.cons Value.none (List.cons (Value.ref 129) (List.cons (Value.ref 130) (List.cons (Value.ref 131) (List.cons (Value.int 359 0) (List.cons (Value.int 178 0) (List.cons (Value.str (ofString "/claim/cut.py") 360) List.nil))))))))))))))))))))) (ta List.nil)),
 (133,mkF (mt 17 3) "Whitespace.indent_level" (Value.none) (Value.none) (Value.none) (Value.str (ofString "cpy313.tabnanny") 307) (Value.ref 132) (Value.none)),
 (139,Obj.mk (Value.type "code") none (Data.fields (ta (List.cons (Value.str (ofString "equal") 362) (List.cons (Value.str (ofString "Whitespace.equal") 363) (List.cons (Value.str (ofString "/claim/cut.py") 364) (List.cons (Value.int 185 0) (List.cons (Value.int 2 0) (List.cons (Value.int 0 0) (List.cons (Value.int 0 0) (List.cons (Value.int 3 0) (List.cons (Value.ref 134) (List.cons (Value.bool true) (List.cons (Value.int 181 0) (List.cons (Value.ref 135) (List.cons Value.none (List.cons (Value.ref 136) (List.cons (Value.ref 137) (List.cons (Value.ref 138) (List.cons (Value.int 367 0) (List.cons (Value.int 185 0) (List.cons (Value.str (ofString "/claim/cut.py") 368) List.nil))))))))))))))))))))) (ta List.nil)),
 (140,mkF (mt 17 4) "Whitespace.equal" (Value.none) (Value.none) (Value.none) (Value.str (ofString "cpy313.tabnanny") 307) (Value.ref 139) (Value.none)),
 (146,Obj.mk (Value.type "code") none (Data.fields (ta (List.cons (Value.str (ofString "not_equal_witness") 370) (List.cons (Value.str (ofString "Whitespace.not_equal_witness") 371) (List.cons (Value.str (ofString "/claim/cut.py") 372) (List.cons (Value.int 188 0) (List.cons (Value.int 2 0) (List.cons (Value.int 0 0) (List.cons (Value.int 0 0) (List.cons (Value.int 3 0) (List.cons (Value.ref 141) (List.cons (Value.bool true) (List.cons (Value.int 181 0) (List.cons (Value.ref 142) (List.cons Value.none (List.cons (Value.ref 143) (List.cons (Value.ref 144) (List.cons (Value.ref 145) (List.cons (Value.int 378 0) (List.cons (Value.int 188 0) (List.cons (Value.str (ofString "/claim/cut.py") 379) List.nil))))))))))))))))))))) (ta List.nil)),
 (147,mkF (mt 17 5) "Whitespace.not_equal_witness" (Value.none) (Value.none) (Value.none) (Value.str (ofString "cpy313.tabnanny") 307) (Value.ref 146) (Value.none)),
 (153,Obj.mk (Value.type "code") none (Data.fields (ta (List.cons (Value.str (ofString "less") 381) (List.cons (Value.str (ofString "Whitespace.less") 382) (List.cons (Value.str (ofString "/claim/cut.py") 383) (List.cons (Value.int 196 0) (List.cons (Value.int 2 0) (List.cons (Value.int 0 0) (List.cons (Value.int 0 0) (List.cons (Value.int 3 0) (List.cons (Value.ref 148) (List.cons (Value.bool true) (List.cons (Value.int 181 0) (List.cons (Value.ref 149) (List.cons Value.none (List.cons (Value.ref 150) (List.cons (Value.ref 151) (List.cons (Value.ref 152) (List.cons (Value.int 388 0) (List.cons (Value.int 196 0) (List.cons (Value.str (ofString "/claim/cut.py") 389) List.nil))))))))))))))))))))) (ta List.nil)),
 (154,mkF (mt 17 6) "Whitespace.less" (Value.none) (Value.none) (Value.none) (Value.str (ofString "cpy313.tabnanny") 307) (Value.ref 153) (Value.none)),
 (160,Obj.mk (Value.type "code") none (Data.fields (ta (List.cons (Value.str (ofString "not_less_witness") 391) (List.cons (Value.str (ofString "Whitespace.not_less_witness") 392) (List.cons (Value.str (ofString "/claim/cut.py") 393) (List.cons (Value.int 207 0) (List.cons (Value.int 2 0) (List.cons (Value.int 0 0) (List.cons (Value.int 0 0) (List.cons (Value.int 3 0) (List.cons (Value.ref 155) (List.cons (Value.bool true) (List.cons (Value.int 181 0) (List.cons (Value.ref 156) (List.cons Value.none (List.cons (Value.ref 157) (List.cons (Value.ref 158) (List.cons (Value.ref 159) (List.cons (Value.int 399 0) (List.cons (Value.int 207 0) (List.cons (Value.str (ofString "/claim/cut.py") 400) List.nil))))))))))))))))))))) (ta List.nil)),
 (161,mkF (mt 17 7) "Whitespace.not_less_witness" (Value.none) (Value.none) (Value.none) (Value.str (ofString "cpy313.tabnanny") 307) (Value.ref 160) (Value.none)),
 (163,Obj.mk (Value.type "dict") none (Data.dict (ta (List.cons (DictEntry.mk (PyData.keyHash P (ofString "__module__")) (Value.str (ofString "__module__") 316) (Value.str (ofString "cpy313.tabnanny") 307)) (List.cons (DictEntry.mk (PyData.keyHash P (ofString "__firstlineno__")) (Value.str (ofString "__firstlineno__") 320) (Value.int 148 319)) (List.cons (DictEntry.mk (PyData.keyHash P (ofString "S")) (Value.str (ofString "S") 324) (Value.str (ofString " ") 322)) (List.cons (DictEntry.mk (PyData.keyHash P (ofString "T")) (Value.str (ofString "T") 325) (Value.str (ofString "\t") 323)) (List.cons (DictEntry.mk (PyData.keyHash P (ofString "__init__")) (Value.str (ofString "__init__") 340) (Value.ref 119)) (List.cons (DictEntry.mk (PyData.keyHash P (ofString "longest_run_of_spaces")) (Value.str (ofString "longest_run_of_spaces") 349) (Value.ref 126)) (List.cons (DictEntry.mk (PyData.keyHash P (ofString "indent_level")) (Value.str (ofString "indent_level") 361) (Value.ref 133)) (List.cons (DictEntry.mk (PyData.keyHash P (ofString "equal")) (Value.str (ofString "equal") 369) (Value.ref 140)) (List.cons (DictEntry.mk (PyData.keyHash P (ofString "not_equal_witness")) (Value.str (ofString "not_equal_witness") 380) (Value.ref 147)) (List.cons (DictEntry.mk (PyData.keyHash P (ofString "less")) (Value.str (ofString "less") 390) (Value.ref 154)) (List.cons (DictEntry.mk (PyData.keyHash P (ofString "not_less_witness")) (Value.str (ofString "not_less_witness") 401) (Value.ref 161)) (List.cons (DictEntry.mk (PyData.keyHash P (ofString "__static_attributes__")) (Value.str (ofString "__static_attributes__") 407) (Value.ref 162)) (List.cons (DictEntry.mk (PyData.keyHash P (ofString "__dict__")) (Value.str (ofString "__dict__") 409) (Value.ref 165)) (List.cons (DictEntry.mk (PyData.keyHash P (ofString "__weakref__")) (Value.str (ofString "__weakref__") 411) (Value.ref 166)) (List.cons (DictEntry.mk (PyData.keyHash P (ofString "__doc__")) (Value.str (ofString "__doc__") 412) Value.none) List.nil)))))))))))))))) 4) (ta List.nil)),
 (164,Obj.mk (Value.type "type") none (Data.cls (ClassData.mk (ofString "Whitespace") (List.cons (Value.type "object") List.nil) (List.cons (Value.ref 164) (List.cons (Value.type "object") List.nil)) 163 (ofString "Whitespace") true List.nil List.nil false none false)) (ta (List.cons none (List.cons none (List.cons (some (Value.str (ofString "Whitespace") 309)) (List.cons (some (Value.str (ofString "Whitespace") 317)) (List.cons (some (Value.builtin "object.__new__")) (List.cons (some (Value.bool true)) List.nil)))))))),
 (165,Obj.mk (Value.type "getset_descriptor") none (Data.fields (ta (List.cons (Value.str (ofString "__dict__") 408) (List.cons (Value.ref 164) (List.cons (Value.builtin "function.__dict__") (List.cons (Value.builtin "function.__dict__#set") List.nil)))))) (ta List.nil)),
 (166,Obj.mk (Value.type "getset_descriptor") none (Data.fields (ta (List.cons (Value.str (ofString "__weakref__") 410) (List.cons (Value.ref 164) (List.cons (Value.builtin "ExceptionGroup.__weakref__") (List.cons Value.none List.nil)))))) (ta List.nil)),
 (174,Obj.mk (Value.type "code") none (Data.fields (ta (List.cons (Value.str (ofString "_law_signs") 417) (List.cons (Value.str (ofString "_law_signs") 418) (List.cons (Value.str (ofString "/claim/cut.py") 419) (List.cons (Value.int 215 0) (List.cons (Value.int 1 0) (List.cons (Value.int 0 0) (List.cons (Value.int 0 0) (List.cons (Value.int 3 0) (List.cons (Value.ref 169) (List.cons (Value.bool true) (List.cons (Value.int 181 0) (List.cons (Value.ref 170) (List.cons Value.none (List.cons (Value.ref 171) (List.cons (Value.ref 172) (List.cons (Value.ref 173) (List.cons (Value.int 421 0) (List.cons (Value.int 215 0) (List.cons (Value.str (ofString "/claim/cut.py") 422) List.nil))))))))))))))))))))) (ta List.nil)),
 (175,mkF (st 19) "_law_signs" (Value.none) (Value.none) (Value.none) (Value.str (ofString "law_pa0015_03") 415) (Value.ref 174) (Value.none)),
 (181,Obj.mk (Value.type "code") none (Data.fields (ta (List.cons (Value.str (ofString "_law_sign") 424) (List.cons (Value.str (ofString "_law_sign") 425) (List.cons (Value.str (ofString "/claim/cut.py") 426) (List.cons (Value.int 217 0) (List.cons (Value.int 1 0) (List.cons (Value.int 0 0) (List.cons (Value.int 0 0) (List.cons (Value.int 3 0) (List.cons (Value.ref 176) (List.cons (Value.bool true) (List.cons (Value.int 181 0) (List.cons (Value.ref 177) (List.cons Value.none (List.cons (Value.ref 178) (List.cons (Value.ref 179) (List.cons (Value.ref 180) (List.cons (Value.int 430 0) (List.cons (Value.int 217 0) (List.cons (Value.str (ofString "/claim/cut.py") 431) List.nil))))))))))))))))))))) (ta List.nil)),
 (182,mkF (st 20) "_law_sign" (Value.none) (Value.none) (Value.none) (Value.str (ofString "law_pa0015_03") 415) (Value.ref 181) (Value.none)),
 (188,Obj.mk (Value.type "code") none (Data.fields (ta (List.cons (Value.str (ofString "_law_figures") 433) (List.cons (Value.str (ofString "_law_figures") 434) (List.cons (Value.str (ofString "/claim/cut.py") 435) (List.cons (Value.int 227 0) (List.cons (Value.int 1 0) (List.cons (Value.int 0 0) (List.cons (Value.int 0 0) (List.cons (Value.int 3 0) (List.cons (Value.ref 183) (List.cons (Value.bool true) (List.cons (Value.int 181 0) (List.cons (Value.ref 184) (List.cons Value.none (List.cons (Value.ref 185) (List.cons (Value.ref 186) (List.cons (Value.ref 187) (List.cons (Value.int 440 0) (List.cons (Value.int 227 0) (List.cons (Value.str (ofString "/claim/cut.py") 441) List.nil))))))))))))))))))))) (ta List.nil)),
 (189,mkF (st 21) "_law_figures" (Value.none) (Value.none) (Value.none) (Value.str (ofString "law_pa0015_03") 415) (Value.ref 188) (Value.none)),
 (195,Obj.mk (Value.type "code") none (Data.fields (ta (List.cons (Value.str (ofString "_law_octets") 443) (List.cons (Value.str (ofString "_law_octets") 444) (List.cons (Value.str (ofString "/claim/cut.py") 445) (List.cons (Value.int 234 0) (List.cons (Value.int 1 0) (List.cons (Value.int 0 0) (List.cons (Value.int 0 0) (List.cons (Value.int 3 0) (List.cons (Value.ref 190) (List.cons (Value.bool true) (List.cons (Value.int 181 0) (List.cons (Value.ref 191) (List.cons Value.none (List.cons (Value.ref 192) (List.cons (Value.ref 193) (List.cons (Value.ref 194) (List.cons (Value.int 451 0) (List.cons (Value.int 234 0) (List.cons (Value.str (ofString "/claim/cut.py") 452) List.nil))))))))))))))))))))) (ta List.nil)),
 (196,mkF (st 22) "_law_octets" (Value.none) (Value.none) (Value.none) (Value.str (ofString "law_pa0015_03") 415) (Value.ref 195) (Value.none)),
 (202,Obj.mk (Value.type "code") none (Data.fields (ta (List.cons (Value.str (ofString "_law_read") 454) (List.cons (Value.str (ofString "_law_read") 455) (List.cons (Value.str (ofString "/claim/cut.py") 456) (List.cons (Value.int 244 0) (List.cons (Value.int 1 0) (List.cons (Value.int 0 0) (List.cons (Value.int 0 0) (List.cons (Value.int 3 0) (List.cons (Value.ref 197) (List.cons (Value.bool true) (List.cons (Value.int 181 0) (List.cons (Value.ref 198) (List.cons Value.none (List.cons (Value.ref 199) (List.cons (Value.ref 200) (List.cons (Value.ref 201) (List.cons (Value.int 459 0) (List.cons (Value.int 244 0) (List.cons (Value.str (ofString "/claim/cut.py") 460) List.nil))))))))))))))))))))) (ta List.nil)),
 (203,mkF (st 23) "_law_read" (Value.none) (Value.none) (Value.none) (Value.str (ofString "law_pa0015_03") 415) (Value.ref 202) (Value.none)),
 (209,Obj.mk (Value.type "code") none (Data.fields (ta (List.cons (Value.str (ofString "_law_due") 462) (List.cons (Value.str (ofString "_law_due") 463) (List.cons (Value.str (ofString "/claim/cut.py") 464) (List.cons (Value.int 249 0) (List.cons (Value.int 3 0) (List.cons (Value.int 0 0) (List.cons (Value.int 0 0) (List.cons (Value.int 3 0) (List.cons (Value.ref 204) (List.cons (Value.bool true) (List.cons (Value.int 181 0) (List.cons (Value.ref 205) (List.cons Value.none (List.cons (Value.ref 206) (List.cons (Value.ref 207) (List.cons (Value.ref 208) (List.cons (Value.int 469 0) (List.cons (Value.int 249 0) (List.cons (Value.str (ofString "/claim/cut.py") 470) List.nil))))))))))))))))))))) (ta List.nil)),
 (210,mkF (st 24) "_law_due" (Value.none) (Value.none) (Value.none) (Value.str (ofString "law_pa0015_03") 415) (Value.ref 209) (Value.none)),
 (214,Obj.mk (Value.type "code") none (Data.fields (ta (List.cons (Value.str (ofString "_law_shown") 472) (List.cons (Value.str (ofString "_law_shown") 473) (List.cons (Value.str (ofString "/claim/cut.py") 474) (List.cons (Value.int 258 0) (List.cons (Value.int 1 0) (List.cons (Value.int 0 0) (List.cons (Value.int 0 0) (List.cons (Value.int 3 0) (List.cons (Value.ref 211) (List.cons (Value.bool true) (List.cons (Value.int 181 0) (List.cons (Value.ref 212) (List.cons Value.none (List.cons Value.none (List.cons Value.none (List.cons (Value.ref 213) (List.cons (Value.int 475 0) (List.cons (Value.int 258 0) (List.cons (Value.str (ofString "/claim/cut.py") 476) List.nil))))))))))))))))))))) (ta List.nil)),
 (215,mkF (st 25) "_law_shown" (Value.none) (Value.none) (Value.none) (Value.str (ofString "law_pa0015_03") 415) (Value.ref 214) (Value.none)),
 (219,Obj.mk (Value.type "code") none (Data.fields (ta (List.cons (Value.str (ofString "_law_line") 478) (List.cons (Value.str (ofString "_law_line") 479) (List.cons (Value.str (ofString "/claim/cut.py") 480) (List.cons (Value.int 261 0) (List.cons (Value.int 2 0) (List.cons (Value.int 0 0) (List.cons (Value.int 0 0) (List.cons (Value.int 3 0) (List.cons (Value.ref 216) (List.cons (Value.bool true) (List.cons (Value.int 181 0) (List.cons (Value.ref 217) (List.cons Value.none (List.cons Value.none (List.cons Value.none (List.cons (Value.ref 218) (List.cons (Value.int 481 0) (List.cons (Value.int 261 0) (List.cons (Value.str (ofString "/claim/cut.py") 482) List.nil))))))))))))))))))))) (ta List.nil)),
 (220,mkF (st 26) "_law_line" (Value.none) (Value.none) (Value.none) (Value.str (ofString "law_pa0015_03") 415) (Value.ref 219) (Value.none)),
 (224,Obj.mk (Value.type "code") none (Data.fields (ta (List.cons (Value.str (ofString "_law_table") 484) (List.cons (Value.str (ofString "_law_table") 485) (List.cons (Value.str (ofString "/claim/cut.py") 486) (List.cons (Value.int 264 0) (List.cons (Value.int 2 0) (List.cons (Value.int 0 0) (List.cons (Value.int 0 0) (List.cons (Value.int 3 0) (List.cons (Value.ref 221) (List.cons (Value.bool true) (List.cons (Value.int 181 0) (List.cons (Value.ref 222) (List.cons Value.none (List.cons Value.none (List.cons Value.none (List.cons (Value.ref 223) (List.cons (Value.int 487 0) (List.cons (Value.int 264 0) (List.cons (Value.str (ofString "/claim/cut.py") 488) List.nil))))))))))))))))))))) (ta List.nil)),
 (225,mkF (st 27) "_law_table" (Value.none) (Value.none) (Value.none) (Value.str (ofString "law_pa0015_03") 415) (Value.ref 224) (Value.none)),
 (229,Obj.mk (Value.type "code") none (Data.fields (ta (List.cons (Value.str (ofString "law") 490) (List.cons (Value.str (ofString "law") 491) (List.cons (Value.str (ofString "/claim/cut.py") 492) (List.cons (Value.int 275 0) (List.cons (Value.int 1 0) (List.cons (Value.int 0 0) (List.cons (Value.int 0 0) (List.cons (Value.int 3 0) (List.cons (Value.ref 226) (List.cons (Value.bool true) (List.cons (Value.int 181 0) (List.cons (Value.ref 227) (List.cons Value.none (List.cons Value.none (List.cons Value.none (List.cons (Value.ref 228) (List.cons (Value.int 493 0) (List.cons (Value.int 275 0) (List.cons (Value.str (ofString "/claim/cut.py") 494) List.nil))))))))))))))))))))) (ta List.nil)),
 (230,mkF (st 28) "law" (Value.none) (Value.none) (Value.none) (Value.str (ofString "law_pa0015_03") 415) (Value.ref 229) (Value.none))]
noncomputable def as0 : List Addr:=[2,3,20,21,22,28,29,38,39,40,48,49,55,56,62,63,69,70,71,77,78,79,85,86,87,93,94,95,101,102,118,119,125,126,132,133,139,140,146,147,153,154,160,161,163,164,165,166,174,175,181,182,188,189,195,196,202,203,209,210,214,215,219,220,224,225,229,230]
noncomputable abbrev HK : Hook:=kHook KK as0 (fun _a=>by kernel_rfl)
theorem hl0 : LeftO pg0 q0 ls0 (fun s=>xlAt q0 [] s && recOk (RowW.records R0.toRowW) s) HK.obs HK.val (2*1381+100):=LeftO.of_split "special-get-raises" (fun w=>by kernel_rfl)
noncomputable def F (a : Addr) : FuncData:=fdAt (KK pr0) a
noncomputable def dfsL : List (Addr×Df) :=
 [(126,⟨F 126,bnP [("self" : Str)]⟩),
  (133,⟨F 133,bnP [("self" : Str),("tabsize" : Str)]⟩),
  (140,⟨F 140,bnP [("self" : Str),("other" : Str)]⟩),
  (147,⟨F 147,bnP [("self" : Str),("other" : Str)]⟩),
  (154,⟨F 154,bnP [("self" : Str),("other" : Str)]⟩),
  (161,⟨F 161,bnP [("self" : Str),("other" : Str)]⟩),
  (29,⟨F 29,bnP [("s" : Str)]⟩),
  (49,⟨F 49,bnP [("data" : Str)]⟩),
  (56,⟨F 56,bnP [("data" : Str)]⟩),
  (63,⟨F 63,bnP [("x" : Str)]⟩),
  (70,⟨F 70,bnP [("c" : Str)]⟩),
  (78,⟨F 78,bnK ("data" : Str) ("strict_mode" : Str)⟩),
  (86,⟨F 86,bnK ("data" : Str) ("newline" : Str)⟩),
  (94,⟨F 94,bnD ("s" : Str) ("altchars" : Str)⟩),
  (102,⟨F 102,bnF ("s" : Str) ("altchars" : Str) ("validate" : Str)⟩),
  (175,⟨F 175,bnP [("pair" : Str)]⟩),
  (182,⟨F 182,bnP [("x" : Str)]⟩),
  (189,⟨F 189,bnP [("line" : Str)]⟩),
  (196,⟨F 196,bnP [("figures" : Str)]⟩),
  (203,⟨F 203,bnP [("text" : Str)]⟩),
  (210,⟨F 210,bnP [("line" : Str),("figures" : Str),("marks" : Str)]⟩),
  (215,⟨F 215,bnP [("figures" : Str)]⟩),
  (220,⟨F 220,bnP [("figures" : Str),("pair" : Str)]⟩),
  (225,⟨F 225,bnP [("lead" : Str),("far" : Str)]⟩),
  (230,⟨F 230,bnP [("script" : Str)]⟩)]
noncomputable def B64L : List UInt8:=[65,66,67,68,69,70,71,72,73,74,75,76,77,78,79,80,81,82,83,84,85,86,87,88,89,90,97,98,99,100,101,102,103,104,105,106,107,108,109,110,111,112,113,114,115,116,117,118,119,120,121,122,48,49,50,51,52,53,54,55,56,57,43,47]
noncomputable def glL : List (Str×D) :=
 [(("Whitespace" : Str),.val (.ref 164)),
  (("_bytes_from_decode_data" : Str),.val (.ref 29)),
  (("_ascii_buffer" : Str),.val (.ref 49)),
  (("_buffer" : Str),.val (.ref 56)),
  (("_truth" : Str),.val (.ref 63)),
  (("_b64_value" : Str),.val (.ref 70)),
  (("a2b_base64" : Str),.val (.ref 78)),
  (("b2a_base64" : Str),.val (.ref 86)),
  (("b64encode" : Str),.val (.ref 94)),
  (("b64decode" : Str),.val (.ref 102)),
  (("Error" : Str),.val (.ref 39)),
  (("_law_signs" : Str),.val (.ref 175)),
  (("_law_sign" : Str),.val (.ref 182)),
  (("_law_figures" : Str),.val (.ref 189)),
  (("_law_octets" : Str),.val (.ref 196)),
  (("_law_read" : Str),.val (.ref 203)),
  (("_law_due" : Str),.val (.ref 210)),
  (("_law_shown" : Str),.val (.ref 215)),
  (("_law_line" : Str),.val (.ref 220)),
  (("_law_table" : Str),.val (.ref 225)),
  (("law" : Str),.val (.ref 230)),
  (("len" : Str),.val (.builtin "len")),
  (("max" : Str),.val (.builtin "max")),
  (("sum" : Str),.val (.builtin "sum")),
  (("chr" : Str),.val (.builtin "chr")),
  (("isinstance" : Str),.val (.builtin "isinstance")),
  (("range" : Str),.val (.type "range")),
  (("tuple" : Str),.val (.type "tuple")),
  (("type" : Str),.val (.type "type")),
  (("bytes" : Str),.val (.type "bytes")),
  (("bool" : Str),.val (.type "bool")),
  (("str" : Str),.val (.type "str")),
  (("bytearray" : Str),.val (.type "bytearray")),
  (("int" : Str),.val (.type "int")),
  (("zip" : Str),.val (.type "zip")),
  (("ValueError" : Str),.val (.type "ValueError")),
  (("UnicodeEncodeError" : Str),.val (.type "UnicodeEncodeError")),
  (("_B64" : Str),.bytes B64L)]
noncomputable def msL : List (Str×Addr):=[(("longest_run_of_spaces" : Str),126),(("indent_level" : Str),133),(("equal" : Str),140),(("not_equal_witness" : Str),147),(("less" : Str),154),(("not_less_witness" : Str),161)]
noncomputable def TT : TD where
 C:=164
 gl:=glL
 ms:=msL
 ats:=["raw", "n", "nt", "norm", "is_simple"]
 cats:=[("S",[32]),("T",[9])]
 sts:=["raw", "n", "nt", "norm", "is_simple"]
 dfs:=dfsL
 cf:=⟨F 119, "self",bnC "ws"⟩
noncomputable abbrev PT (n : Nat) : Pg:=PN TT.tab n
theorem vA (n : Nat) : (PN TT.tab n).gl ("Whitespace" : Str) = some (.val (.ref 164)):=by rw [pn_gl]; rfl
theorem vB (n : Nat) : (PN TT.tab n).gl ("_bytes_from_decode_data" : Str) = some (.val (.ref 29)):=by rw [pn_gl]; rfl
theorem vC (n : Nat) : (PN TT.tab n).gl ("_ascii_buffer" : Str) = some (.val (.ref 49)):=by rw [pn_gl]; rfl
theorem vD (n : Nat) : (PN TT.tab n).gl ("_buffer" : Str) = some (.val (.ref 56)):=by rw [pn_gl]; rfl
theorem vE (n : Nat) : (PN TT.tab n).gl ("_truth" : Str) = some (.val (.ref 63)):=by rw [pn_gl]; rfl
theorem vF (n : Nat) : (PN TT.tab n).gl ("_b64_value" : Str) = some (.val (.ref 70)):=by rw [pn_gl]; rfl
theorem vG (n : Nat) : (PN TT.tab n).gl ("a2b_base64" : Str) = some (.val (.ref 78)):=by rw [pn_gl]; rfl
theorem vH (n : Nat) : (PN TT.tab n).gl ("b2a_base64" : Str) = some (.val (.ref 86)):=by rw [pn_gl]; rfl
theorem vI (n : Nat) : (PN TT.tab n).gl ("b64encode" : Str) = some (.val (.ref 94)):=by rw [pn_gl]; rfl
theorem vJ (n : Nat) : (PN TT.tab n).gl ("b64decode" : Str) = some (.val (.ref 102)):=by rw [pn_gl]; rfl
theorem gl_Error (n : Nat) : (PN TT.tab n).gl ("Error" : Str) = some (.val (.ref 39)):=by rw [pn_gl]; rfl
theorem vK (n : Nat) : (PN TT.tab n).gl ("_law_signs" : Str) = some (.val (.ref 175)):=by rw [pn_gl]; rfl
theorem vL (n : Nat) : (PN TT.tab n).gl ("_law_sign" : Str) = some (.val (.ref 182)):=by rw [pn_gl]; rfl
theorem vM (n : Nat) : (PN TT.tab n).gl ("_law_figures" : Str) = some (.val (.ref 189)):=by rw [pn_gl]; rfl
theorem vN (n : Nat) : (PN TT.tab n).gl ("_law_octets" : Str) = some (.val (.ref 196)):=by rw [pn_gl]; rfl
theorem vO (n : Nat) : (PN TT.tab n).gl ("_law_read" : Str) = some (.val (.ref 203)):=by rw [pn_gl]; rfl
theorem vP (n : Nat) : (PN TT.tab n).gl ("_law_due" : Str) = some (.val (.ref 210)):=by rw [pn_gl]; rfl
theorem vQ (n : Nat) : (PN TT.tab n).gl ("_law_shown" : Str) = some (.val (.ref 215)):=by rw [pn_gl]; rfl
theorem vR (n : Nat) : (PN TT.tab n).gl ("_law_line" : Str) = some (.val (.ref 220)):=by rw [pn_gl]; rfl
theorem vS (n : Nat) : (PN TT.tab n).gl ("_law_table" : Str) = some (.val (.ref 225)):=by rw [pn_gl]; rfl
theorem vT (n : Nat) : (PN TT.tab n).gl ("len" : Str) = some (.val (.builtin "len")):=by rw [pn_gl]; rfl
theorem vU (n : Nat) : (PN TT.tab n).gl ("max" : Str) = some (.val (.builtin "max")):=by rw [pn_gl]; rfl
theorem vV (n : Nat) : (PN TT.tab n).gl ("chr" : Str) = some (.val (.builtin "chr")):=by rw [pn_gl]; rfl
theorem vW (n : Nat) : (PN TT.tab n).gl ("isinstance" : Str) = some (.val (.builtin "isinstance")):=by rw [pn_gl]; rfl
theorem vX (n : Nat) : (PN TT.tab n).gl ("range" : Str) = some (.val (.type "range")):=by rw [pn_gl]; rfl
theorem vY (n : Nat) : (PN TT.tab n).gl ("tuple" : Str) = some (.val (.type "tuple")):=by rw [pn_gl]; rfl
theorem vZ (n : Nat) : (PN TT.tab n).gl ("type" : Str) = some (.val (.type "type")):=by rw [pn_gl]; rfl
theorem ua (n : Nat) : (PN TT.tab n).gl ("bytes" : Str) = some (.val (.type "bytes")):=by rw [pn_gl]; rfl
theorem ub (n : Nat) : (PN TT.tab n).gl ("bool" : Str) = some (.val (.type "bool")):=by rw [pn_gl]; rfl
theorem uc (n : Nat) : (PN TT.tab n).gl ("str" : Str) = some (.val (.type "str")):=by rw [pn_gl]; rfl
theorem ud (n : Nat) : (PN TT.tab n).gl ("bytearray" : Str) = some (.val (.type "bytearray")):=by rw [pn_gl]; rfl
theorem ue (n : Nat) : (PN TT.tab n).gl ("int" : Str) = some (.val (.type "int")):=by rw [pn_gl]; rfl
theorem gl_ValueError (n : Nat) : (PN TT.tab n).gl ("ValueError" : Str) = some (.val (.type "ValueError")):=by rw [pn_gl]; rfl
theorem gl_UnicodeEncodeError (n : Nat) : (PN TT.tab n).gl ("UnicodeEncodeError" : Str) = some (.val (.type "UnicodeEncodeError")):=by rw [pn_gl]; rfl
theorem uf (n : Nat) : (PN TT.tab n).gl ("_B64" : Str) = some (.bytes B64L):=by rw [pn_gl]; rfl
theorem df_29 : TT.dfs.lookup 29 = some ⟨F 29,bnP [("s" : Str)]⟩:=rfl
theorem df_78 : TT.dfs.lookup 78 = some ⟨F 78,bnK ("data" : Str) ("strict_mode" : Str)⟩:=rfl
theorem df_102 : TT.dfs.lookup 102 = some ⟨F 102,bnF ("s" : Str) ("altchars" : Str) ("validate" : Str)⟩:=rfl
theorem df_203 : TT.dfs.lookup 203 = some ⟨F 203,bnP [("text" : Str)]⟩:=rfl
theorem df_230 : TT.dfs.lookup 230 = some ⟨F 230,bnP [("script" : Str)]⟩:=rfl
theorem vr : attT TT (.val (.ref 164)) (ofString "S") = some (.str [32]):=rfl
theorem vv : attT TT (.val (.ref 164)) (ofString "T") = some (.str [9]):=rfl
theorem vx : TT.C = 164:=rfl
theorem vw : TT.cf.self = ofString "self":=rfl
theorem vj (n : Nat) : (PN TT.tab n).st 164 (ofString "raw") = true:=by rw [pn_st]; rfl
theorem vy (fs : List (Str×D)) : attT TT (.inst 164 fs) (ofString "raw") = oAtI (fs.lookup (ofString "raw")):=att_in (t:=TT) (by simp [TT])
theorem vm (n : Nat) : (PN TT.tab n).st 164 (ofString "n") = true:=by rw [pn_st]; rfl
theorem vn (n : Nat) : (PN TT.tab n).st 164 (ofString "nt") = true:=by rw [pn_st]; rfl
theorem vo (n : Nat) : (PN TT.tab n).st 164 (ofString "norm") = true:=by rw [pn_st]; rfl
theorem vq (n : Nat) : (PN TT.tab n).st 164 (ofString "is_simple") = true:=by rw [pn_st]; rfl
section
variable {G : Gd} {pr : Params} {mg mb : Str→Option Value}
theorem fd126 : fdB (F 126) = true:=by kernel_rfl
theorem dat126 (B : Bs G (KK pr) mg mb) : DefAt G 126 (F 126) (bodyOf (F 126)):=defAt_K B (oc:=.type "function") (od:=none) (sl:=#[]) (by kernel_rfl) (fdOk_of fd126) (by kernel_rfl)
theorem fd133 : fdB (F 133) = true:=by kernel_rfl
theorem dat133 (B : Bs G (KK pr) mg mb) : DefAt G 133 (F 133) (bodyOf (F 133)):=defAt_K B (oc:=.type "function") (od:=none) (sl:=#[]) (by kernel_rfl) (fdOk_of fd133) (by kernel_rfl)
theorem fd140 : fdB (F 140) = true:=by kernel_rfl
theorem dat140 (B : Bs G (KK pr) mg mb) : DefAt G 140 (F 140) (bodyOf (F 140)):=defAt_K B (oc:=.type "function") (od:=none) (sl:=#[]) (by kernel_rfl) (fdOk_of fd140) (by kernel_rfl)
theorem fd147 : fdB (F 147) = true:=by kernel_rfl
theorem dat147 (B : Bs G (KK pr) mg mb) : DefAt G 147 (F 147) (bodyOf (F 147)):=defAt_K B (oc:=.type "function") (od:=none) (sl:=#[]) (by kernel_rfl) (fdOk_of fd147) (by kernel_rfl)
theorem fd154 : fdB (F 154) = true:=by kernel_rfl
theorem dat154 (B : Bs G (KK pr) mg mb) : DefAt G 154 (F 154) (bodyOf (F 154)):=defAt_K B (oc:=.type "function") (od:=none) (sl:=#[]) (by kernel_rfl) (fdOk_of fd154) (by kernel_rfl)
theorem fd161 : fdB (F 161) = true:=by kernel_rfl
theorem dat161 (B : Bs G (KK pr) mg mb) : DefAt G 161 (F 161) (bodyOf (F 161)):=defAt_K B (oc:=.type "function") (od:=none) (sl:=#[]) (by kernel_rfl) (fdOk_of fd161) (by kernel_rfl)
theorem fd29 : fdB (F 29) = true:=by kernel_rfl
theorem dat29 (B : Bs G (KK pr) mg mb) : DefAt G 29 (F 29) (bodyOf (F 29)):=defAt_K B (oc:=.type "function") (od:=none) (sl:=#[]) (by kernel_rfl) (fdOk_of fd29) (by kernel_rfl)
theorem fd49 : fdB (F 49) = true:=by kernel_rfl
theorem dat49 (B : Bs G (KK pr) mg mb) : DefAt G 49 (F 49) (bodyOf (F 49)):=defAt_K B (oc:=.type "function") (od:=none) (sl:=#[]) (by kernel_rfl) (fdOk_of fd49) (by kernel_rfl)
theorem fd56 : fdB (F 56) = true:=by kernel_rfl
theorem dat56 (B : Bs G (KK pr) mg mb) : DefAt G 56 (F 56) (bodyOf (F 56)):=defAt_K B (oc:=.type "function") (od:=none) (sl:=#[]) (by kernel_rfl) (fdOk_of fd56) (by kernel_rfl)
theorem fd63 : fdB (F 63) = true:=by kernel_rfl
theorem dat63 (B : Bs G (KK pr) mg mb) : DefAt G 63 (F 63) (bodyOf (F 63)):=defAt_K B (oc:=.type "function") (od:=none) (sl:=#[]) (by kernel_rfl) (fdOk_of fd63) (by kernel_rfl)
theorem fd70 : fdB (F 70) = true:=by kernel_rfl
theorem dat70 (B : Bs G (KK pr) mg mb) : DefAt G 70 (F 70) (bodyOf (F 70)):=defAt_K B (oc:=.type "function") (od:=none) (sl:=#[]) (by kernel_rfl) (fdOk_of fd70) (by kernel_rfl)
theorem fd78 : fdB (F 78) = true:=by kernel_rfl
theorem dat78 (B : Bs G (KK pr) mg mb) : DefAt G 78 (F 78) (bodyOf (F 78)):=defAt_K B (oc:=.type "function") (od:=none) (sl:=#[]) (by kernel_rfl) (fdOk_of fd78) (by kernel_rfl)
theorem fd86 : fdB (F 86) = true:=by kernel_rfl
theorem dat86 (B : Bs G (KK pr) mg mb) : DefAt G 86 (F 86) (bodyOf (F 86)):=defAt_K B (oc:=.type "function") (od:=none) (sl:=#[]) (by kernel_rfl) (fdOk_of fd86) (by kernel_rfl)
theorem fd94 : fdB (F 94) = true:=by kernel_rfl
theorem dat94 (B : Bs G (KK pr) mg mb) : DefAt G 94 (F 94) (bodyOf (F 94)):=defAt_K B (oc:=.type "function") (od:=none) (sl:=#[]) (by kernel_rfl) (fdOk_of fd94) (by kernel_rfl)
theorem fd102 : fdB (F 102) = true:=by kernel_rfl
theorem dat102 (B : Bs G (KK pr) mg mb) : DefAt G 102 (F 102) (bodyOf (F 102)):=defAt_K B (oc:=.type "function") (od:=none) (sl:=#[]) (by kernel_rfl) (fdOk_of fd102) (by kernel_rfl)
theorem fd175 : fdB (F 175) = true:=by kernel_rfl
theorem dat175 (B : Bs G (KK pr) mg mb) : DefAt G 175 (F 175) (bodyOf (F 175)):=defAt_K B (oc:=.type "function") (od:=none) (sl:=#[]) (by kernel_rfl) (fdOk_of fd175) (by kernel_rfl)
theorem fd182 : fdB (F 182) = true:=by kernel_rfl
theorem dat182 (B : Bs G (KK pr) mg mb) : DefAt G 182 (F 182) (bodyOf (F 182)):=defAt_K B (oc:=.type "function") (od:=none) (sl:=#[]) (by kernel_rfl) (fdOk_of fd182) (by kernel_rfl)
theorem fd189 : fdB (F 189) = true:=by kernel_rfl
theorem dat189 (B : Bs G (KK pr) mg mb) : DefAt G 189 (F 189) (bodyOf (F 189)):=defAt_K B (oc:=.type "function") (od:=none) (sl:=#[]) (by kernel_rfl) (fdOk_of fd189) (by kernel_rfl)
theorem fd196 : fdB (F 196) = true:=by kernel_rfl
theorem dat196 (B : Bs G (KK pr) mg mb) : DefAt G 196 (F 196) (bodyOf (F 196)):=defAt_K B (oc:=.type "function") (od:=none) (sl:=#[]) (by kernel_rfl) (fdOk_of fd196) (by kernel_rfl)
theorem fd203 : fdB (F 203) = true:=by kernel_rfl
theorem dat203 (B : Bs G (KK pr) mg mb) : DefAt G 203 (F 203) (bodyOf (F 203)):=defAt_K B (oc:=.type "function") (od:=none) (sl:=#[]) (by kernel_rfl) (fdOk_of fd203) (by kernel_rfl)
theorem fd210 : fdB (F 210) = true:=by kernel_rfl
theorem dat210 (B : Bs G (KK pr) mg mb) : DefAt G 210 (F 210) (bodyOf (F 210)):=defAt_K B (oc:=.type "function") (od:=none) (sl:=#[]) (by kernel_rfl) (fdOk_of fd210) (by kernel_rfl)
theorem fd215 : fdB (F 215) = true:=by kernel_rfl
theorem dat215 (B : Bs G (KK pr) mg mb) : DefAt G 215 (F 215) (bodyOf (F 215)):=defAt_K B (oc:=.type "function") (od:=none) (sl:=#[]) (by kernel_rfl) (fdOk_of fd215) (by kernel_rfl)
theorem fd220 : fdB (F 220) = true:=by kernel_rfl
theorem dat220 (B : Bs G (KK pr) mg mb) : DefAt G 220 (F 220) (bodyOf (F 220)):=defAt_K B (oc:=.type "function") (od:=none) (sl:=#[]) (by kernel_rfl) (fdOk_of fd220) (by kernel_rfl)
theorem fd225 : fdB (F 225) = true:=by kernel_rfl
theorem dat225 (B : Bs G (KK pr) mg mb) : DefAt G 225 (F 225) (bodyOf (F 225)):=defAt_K B (oc:=.type "function") (od:=none) (sl:=#[]) (by kernel_rfl) (fdOk_of fd225) (by kernel_rfl)
theorem fd230 : fdB (F 230) = true:=by kernel_rfl
theorem dat230 (B : Bs G (KK pr) mg mb) : DefAt G 230 (F 230) (bodyOf (F 230)):=defAt_K B (oc:=.type "function") (od:=none) (sl:=#[]) (by kernel_rfl) (fdOk_of fd230) (by kernel_rfl)
theorem fd119 : fdB (F 119) = true:=by kernel_rfl
theorem dat119 (B : Bs G (KK pr) mg mb) : DefAt G 119 (F 119) (bodyOf (F 119)):=defAt_K B (oc:=.type "function") (od:=none) (sl:=#[]) (by kernel_rfl) (fdOk_of fd119) (by kernel_rfl)
theorem dfo126 (B : Bs G (KK pr) mg mb) : DfOk G 126 ⟨F 126,bnP [("self" : Str)]⟩:=dfP B (dat126 B) (by kernel_rfl) (of1 fun v S=>by kernel_rfl)
theorem dfo133 (B : Bs G (KK pr) mg mb) : DfOk G 133 ⟨F 133,bnP [("self" : Str),("tabsize" : Str)]⟩:=dfP B (dat133 B) (by kernel_rfl) (of2 fun v w S=>by kernel_rfl)
theorem dfo140 (B : Bs G (KK pr) mg mb) : DfOk G 140 ⟨F 140,bnP [("self" : Str),("other" : Str)]⟩:=dfP B (dat140 B) (by kernel_rfl) (of2 fun v w S=>by kernel_rfl)
theorem dfo147 (B : Bs G (KK pr) mg mb) : DfOk G 147 ⟨F 147,bnP [("self" : Str),("other" : Str)]⟩:=dfP B (dat147 B) (by kernel_rfl) (of2 fun v w S=>by kernel_rfl)
theorem dfo154 (B : Bs G (KK pr) mg mb) : DfOk G 154 ⟨F 154,bnP [("self" : Str),("other" : Str)]⟩:=dfP B (dat154 B) (by kernel_rfl) (of2 fun v w S=>by kernel_rfl)
theorem dfo161 (B : Bs G (KK pr) mg mb) : DfOk G 161 ⟨F 161,bnP [("self" : Str),("other" : Str)]⟩:=dfP B (dat161 B) (by kernel_rfl) (of2 fun v w S=>by kernel_rfl)
theorem dfo29 (B : Bs G (KK pr) mg mb) : DfOk G 29 ⟨F 29,bnP [("s" : Str)]⟩:=dfP B (dat29 B) (by kernel_rfl) (of1 fun v S=>by kernel_rfl)
theorem dfo49 (B : Bs G (KK pr) mg mb) : DfOk G 49 ⟨F 49,bnP [("data" : Str)]⟩:=dfP B (dat49 B) (by kernel_rfl) (of1 fun v S=>by kernel_rfl)
theorem dfo56 (B : Bs G (KK pr) mg mb) : DfOk G 56 ⟨F 56,bnP [("data" : Str)]⟩:=dfP B (dat56 B) (by kernel_rfl) (of1 fun v S=>by kernel_rfl)
theorem dfo63 (B : Bs G (KK pr) mg mb) : DfOk G 63 ⟨F 63,bnP [("x" : Str)]⟩:=dfP B (dat63 B) (by kernel_rfl) (of1 fun v S=>by kernel_rfl)
theorem dfo70 (B : Bs G (KK pr) mg mb) : DfOk G 70 ⟨F 70,bnP [("c" : Str)]⟩:=dfP B (dat70 B) (by kernel_rfl) (of1 fun v S=>by kernel_rfl)
theorem dfo78 (B : Bs G (KK pr) mg mb) : DfOk G 78 ⟨F 78,bnK ("data" : Str) ("strict_mode" : Str)⟩:=dfK B (dat78 B) (by kernel_rfl) (fun v w S=>by kernel_rfl)
theorem dfo86 (B : Bs G (KK pr) mg mb) : DfOk G 86 ⟨F 86,bnK ("data" : Str) ("newline" : Str)⟩:=dfK B (dat86 B) (by kernel_rfl) (fun v w S=>by kernel_rfl)
theorem dfo94 (B : Bs G (KK pr) mg mb) : DfOk G 94 ⟨F 94,bnD ("s" : Str) ("altchars" : Str)⟩:=dfD B (dat94 B) (by kernel_rfl) (fun v w S=>by kernel_rfl) (fun v S=>by kernel_rfl)
theorem dfo102 (B : Bs G (KK pr) mg mb) : DfOk G 102 ⟨F 102,bnF ("s" : Str) ("altchars" : Str) ("validate" : Str)⟩:=dfF B (dat102 B) (by kernel_rfl) (fun v w S=>by kernel_rfl)
theorem dfo175 (B : Bs G (KK pr) mg mb) : DfOk G 175 ⟨F 175,bnP [("pair" : Str)]⟩:=dfP B (dat175 B) (by kernel_rfl) (of1 fun v S=>by kernel_rfl)
theorem dfo182 (B : Bs G (KK pr) mg mb) : DfOk G 182 ⟨F 182,bnP [("x" : Str)]⟩:=dfP B (dat182 B) (by kernel_rfl) (of1 fun v S=>by kernel_rfl)
theorem dfo189 (B : Bs G (KK pr) mg mb) : DfOk G 189 ⟨F 189,bnP [("line" : Str)]⟩:=dfP B (dat189 B) (by kernel_rfl) (of1 fun v S=>by kernel_rfl)
theorem dfo196 (B : Bs G (KK pr) mg mb) : DfOk G 196 ⟨F 196,bnP [("figures" : Str)]⟩:=dfP B (dat196 B) (by kernel_rfl) (of1 fun v S=>by kernel_rfl)
theorem dfo203 (B : Bs G (KK pr) mg mb) : DfOk G 203 ⟨F 203,bnP [("text" : Str)]⟩:=dfP B (dat203 B) (by kernel_rfl) (of1 fun v S=>by kernel_rfl)
theorem dfo210 (B : Bs G (KK pr) mg mb) : DfOk G 210 ⟨F 210,bnP [("line" : Str),("figures" : Str),("marks" : Str)]⟩:=dfP B (dat210 B) (by kernel_rfl) (of3 fun v w u S=>by kernel_rfl)
theorem dfo215 (B : Bs G (KK pr) mg mb) : DfOk G 215 ⟨F 215,bnP [("figures" : Str)]⟩:=dfP B (dat215 B) (by kernel_rfl) (of1 fun v S=>by kernel_rfl)
theorem dfo220 (B : Bs G (KK pr) mg mb) : DfOk G 220 ⟨F 220,bnP [("figures" : Str),("pair" : Str)]⟩:=dfP B (dat220 B) (by kernel_rfl) (of2 fun v w S=>by kernel_rfl)
theorem dfo225 (B : Bs G (KK pr) mg mb) : DfOk G 225 ⟨F 225,bnP [("lead" : Str),("far" : Str)]⟩:=dfP B (dat225 B) (by kernel_rfl) (of2 fun v w S=>by kernel_rfl)
theorem dfo230 (B : Bs G (KK pr) mg mb) : DfOk G 230 ⟨F 230,bnP [("script" : Str)]⟩:=dfP B (dat230 B) (by kernel_rfl) (of1 fun v S=>by kernel_rfl)
theorem cfo (B : Bs G (KK pr) mg mb) : CfOk G (KK pr) 164 ⟨F 119, "self",bnC "ws"⟩ 119:=cfC B (by kernel_rfl) (by kernel_rfl) (by kernel_rfl) (keepOk_cls B (oc:=_) (od:=_) (cd:=_) (sl:=_) rfl (by kernel_rfl)) (dat119 B) (by kernel_rfl) (by kernel_rfl) (by decide) (fun v w S=>by kernel_rfl)
theorem all_c {α : Type} {P : α→Prop} {a : α} {l : List α} (h : P a) (k : ∀ p∈l,P p) : ∀ p∈a :: l,P p:=List.forall_mem_cons.mpr ⟨h,k⟩
theorem all_n {α : Type} {P : α→Prop} : ∀ p∈([] : List α),P p:=fun _a h=>nomatch h
theorem tab_ok (B : Bs G (KK pr) mg mb) : TabOk G (KK pr) TT.tab:=by
 refine TD.ok B TT ?_ ?_ ?_ ?_ ?_ ?_ ⟨119,cfo B⟩
 ·refine all_c (gl_K B (by kernel_rfl) fun φ _a=>.val _) ?_
  refine all_c (gl_K B (by kernel_rfl) fun φ _a=>.val _) ?_
  refine all_c (gl_K B (by kernel_rfl) fun φ _a=>.val _) ?_
  refine all_c (gl_K B (by kernel_rfl) fun φ _a=>.val _) ?_
  refine all_c (gl_K B (by kernel_rfl) fun φ _a=>.val _) ?_
  refine all_c (gl_K B (by kernel_rfl) fun φ _a=>.val _) ?_
  refine all_c (gl_K B (by kernel_rfl) fun φ _a=>.val _) ?_
  refine all_c (gl_K B (by kernel_rfl) fun φ _a=>.val _) ?_
  refine all_c (gl_K B (by kernel_rfl) fun φ _a=>.val _) ?_
  refine all_c (gl_K B (by kernel_rfl) fun φ _a=>.val _) ?_
  refine all_c (gl_K B (by kernel_rfl) fun φ _a=>.val _) ?_
  refine all_c (gl_K B (by kernel_rfl) fun φ _a=>.val _) ?_
  refine all_c (gl_K B (by kernel_rfl) fun φ _a=>.val _) ?_
  refine all_c (gl_K B (by kernel_rfl) fun φ _a=>.val _) ?_
  refine all_c (gl_K B (by kernel_rfl) fun φ _a=>.val _) ?_
  refine all_c (gl_K B (by kernel_rfl) fun φ _a=>.val _) ?_
  refine all_c (gl_K B (by kernel_rfl) fun φ _a=>.val _) ?_
  refine all_c (gl_K B (by kernel_rfl) fun φ _a=>.val _) ?_
  refine all_c (gl_K B (by kernel_rfl) fun φ _a=>.val _) ?_
  refine all_c (gl_K B (by kernel_rfl) fun φ _a=>.val _) ?_
  refine all_c (gl_K B (by kernel_rfl) fun φ _a=>.val _) ?_
  refine all_c (gl_B B (by kernel_rfl) (by kernel_rfl) (by decide)) ?_
  refine all_c (gl_B B (by kernel_rfl) (by kernel_rfl) (by decide)) ?_
  refine all_c (gl_B B (by kernel_rfl) (by kernel_rfl) (by decide)) ?_
  refine all_c (gl_B B (by kernel_rfl) (by kernel_rfl) (by decide)) ?_
  refine all_c (gl_B B (by kernel_rfl) (by kernel_rfl) (by decide)) ?_
  refine all_c (gl_B B (by kernel_rfl) (by kernel_rfl) (by decide)) ?_
  refine all_c (gl_B B (by kernel_rfl) (by kernel_rfl) (by decide)) ?_
  refine all_c (gl_B B (by kernel_rfl) (by kernel_rfl) (by decide)) ?_
  refine all_c (gl_B B (by kernel_rfl) (by kernel_rfl) (by decide)) ?_
  refine all_c (gl_B B (by kernel_rfl) (by kernel_rfl) (by decide)) ?_
  refine all_c (gl_B B (by kernel_rfl) (by kernel_rfl) (by decide)) ?_
  refine all_c (gl_B B (by kernel_rfl) (by kernel_rfl) (by decide)) ?_
  refine all_c (gl_B B (by kernel_rfl) (by kernel_rfl) (by decide)) ?_
  refine all_c (gl_B B (by kernel_rfl) (by kernel_rfl) (by decide)) ?_
  refine all_c (gl_B B (by kernel_rfl) (by kernel_rfl) (by decide)) ?_
  refine all_c (gl_B B (by kernel_rfl) (by kernel_rfl) (by decide)) ?_
  refine all_c (gl_K B (v:=.bytes B64L.toArray 248) (by kernel_rfl) fun φ _a=>.bytes _ _) ?_
  exact all_n
 ·refine all_c (by kernel_rfl) ?_
  refine all_c (by kernel_rfl) ?_
  refine all_c (by kernel_rfl) ?_
  refine all_c (by kernel_rfl) ?_
  refine all_c (by kernel_rfl) ?_
  refine all_c (by kernel_rfl) ?_
  exact all_n
 ·refine all_c (by kernel_rfl) ?_
  refine all_c (by kernel_rfl) ?_
  refine all_c (by kernel_rfl) ?_
  refine all_c (by kernel_rfl) ?_
  refine all_c (by kernel_rfl) ?_
  exact all_n
 ·refine all_c (⟨by kernel_rfl,322,by kernel_rfl⟩) ?_
  refine all_c (⟨by kernel_rfl,323,by kernel_rfl⟩) ?_
  exact all_n
 ·refine all_c (by kernel_rfl) ?_
  refine all_c (by kernel_rfl) ?_
  refine all_c (by kernel_rfl) ?_
  refine all_c (by kernel_rfl) ?_
  refine all_c (by kernel_rfl) ?_
  exact all_n
 ·refine all_c (dfo126 B) ?_
  refine all_c (dfo133 B) ?_
  refine all_c (dfo140 B) ?_
  refine all_c (dfo147 B) ?_
  refine all_c (dfo154 B) ?_
  refine all_c (dfo161 B) ?_
  refine all_c (dfo29 B) ?_
  refine all_c (dfo49 B) ?_
  refine all_c (dfo56 B) ?_
  refine all_c (dfo63 B) ?_
  refine all_c (dfo70 B) ?_
  refine all_c (dfo78 B) ?_
  refine all_c (dfo86 B) ?_
  refine all_c (dfo94 B) ?_
  refine all_c (dfo102 B) ?_
  refine all_c (dfo175 B) ?_
  refine all_c (dfo182 B) ?_
  refine all_c (dfo189 B) ?_
  refine all_c (dfo196 B) ?_
  refine all_c (dfo203 B) ?_
  refine all_c (dfo210 B) ?_
  refine all_c (dfo215 B) ?_
  refine all_c (dfo220 B) ?_
  refine all_c (dfo225 B) ?_
  refine all_c (dfo230 B) ?_
  exact all_n
end
theorem zl {a b : Nat} (h : a < b) : (a : Int) < (b : Int):=Int.ofNat_lt.mpr h
theorem zln {a b : Nat} (h : ¬ a < b) : ¬ (a : Int) < (b : Int):=fun z=>h (Int.ofNat_lt.mp z)
theorem zle {a b : Nat} (h : a≤b) : (a : Int)≤(b : Int):=Int.ofNat_le.mpr h
theorem zlen {a b : Nat} (h : ¬ a≤b) : ¬ (a : Int)≤(b : Int):=fun z=>h (Int.ofNat_le.mp z)
theorem ze {a b : Nat} (h : a = b) : (a : Int) = (b : Int):=congrArg _ h
theorem zne {a b : Nat} (h : ¬ a = b) : ¬ (a : Int) = (b : Int):=fun z=>h (Int.ofNat.inj z)
theorem zq {c : Nat} (a : Nat) : (c : Int) = (a : Int) ↔ c = a:=Int.ofNat_inj
theorem zr {c : Nat} (a b : Nat) : ((a : Int)≤c∧(c : Int)≤b) ↔ (a≤c∧c≤b):=⟨fun h=>⟨Int.ofNat_le.mp h.1,Int.ofNat_le.mp h.2⟩,fun h=>⟨zle h.1,zle h.2⟩⟩
theorem zlo (n : Nat) : (-1000000 : Int)≤(n : Int):=Int.le_trans (by decide) (Int.natCast_nonneg n)
theorem zmin (a b : Nat) : -(a : Int)≤(b : Int):=Int.le_trans (Int.neg_nonpos_of_nonneg (Int.natCast_nonneg a)) (Int.natCast_nonneg b)
theorem zif {p q : Prop} [Decidable p] [Decidable q] {x y : Int} {u v : Nat} (h : p ↔ q) (hx : q→x = u) (hy : ¬ q→y = v) : (if p then x else y) = ((if q then u else v : Nat) : Int):=by
 by_cases k : q
 ·rw [if_pos (h.mpr k),if_pos k]; exact hx k
 ·rw [if_neg fun z=>k (h.mp z),if_neg k]; exact hy k
theorem lt4 {k : Nat} (h : k < 4) : k = 0∨k = 1∨k = 2∨k = 3:=by lia
theorem inB_nat {b n : Nat} (h : b < n) (hl : n≤lim) : inB (b : Int) n = true:=decide_eq_true ⟨zmin n b,zl h,hl⟩
theorem ix_nat {b n : Nat} : ix (b : Int) n = b:=by unfold ix; rw [if_neg (Int.not_lt.mpr (Int.natCast_nonneg b)),Int.toNat_natCast]
theorem sa (k m : Nat) : k + (m + 1) = k + 1 + m:=(Nat.succ_add_eq_add_succ k m).symm
noncomputable def b64v (c : Int) : Int:=if 65≤c∧c≤90 then c - 65 else if 97≤c∧c≤122 then c - 71 else if 48≤c∧c≤57 then c + 4 else if c = 43 then 62 else if c = 47 then 63 else 64
theorem c_b64v (n : Nat) (c : Int) : (PT (n + 1)).fn (.ref 70) [.int c] [] = some (.int (b64v c)):=by
 (refine (fn_df rfl rfl).trans ?_; refine run_ex fun sc b g1 g2=>?_; (conv at g1=>(lhs; whnf)); (conv at g2=>(lhs; whnf)); subst g1 g2)
 (simp +decide only [ja,jb,jc,jd,jg,jh,ji,jj,jy,jB,jG,↓jH,j3,qH,yl,ym,fuelN,yw,yy,yA,yP,zg,xj,ug,uo,xS,xX,x5,wb,rho0,bindsD,List.reverse_cons,List.reverse_nil,List.nil_append,Nat.reduceAdd,Bool.and_eq_true,decide_eq_true_eq,uq,ur,us,uu,uv, *])
 unfold b64v
 rfl
theorem c_buffer (n : Nat) (b : List UInt8) : (PT (n + 1)).fn (.ref 56) [.bytes b] [] = some (.bytes b):=by
 (refine (fn_df rfl rfl).trans ?_; refine run_ex fun sc b g1 g2=>?_; (conv at g1=>(lhs; whnf)); (conv at g2=>(lhs; whnf)); subst g1 g2)
 (simp +decide only [jb,jc,jd,jg,jh,ji,jj,jn,jq,jy,jB,↓jH,↓jI,j3,j5,j6,kv,kx,qm,qG,qP,qQ,qR,ya,yl,fuelN,yr,yt,yu,yv,yy,yB,yJ,yN,yR,yS,yW,zg,zx,zE,xj,x8,wi,rho0,bindsD,List.reverse_cons,List.reverse_nil,List.nil_append,decide_eq_true,wp,wD,wT,wZ,Nat.reduceAdd,vZ,ua, *])
theorem c_ascii (n : Nat) (b : List UInt8) : (PT (n + 1)).fn (.ref 49) [.bytes b] [] = some (.bytes b):=by
 (refine (fn_df rfl rfl).trans ?_; refine run_ex fun sc b g1 g2=>?_; (conv at g1=>(lhs; whnf)); (conv at g2=>(lhs; whnf)); subst g1 g2)
 (simp +decide only [ja,jb,jc,jd,jg,jh,ji,jj,jn,jq,jy,jB,↓jH,↓jI,j3,j5,j6,j8,kv,kx,qm,qG,qP,qQ,qR,ya,yl,fuelN,yr,yt,yu,yv,yy,yB,yJ,yN,yR,yS,yW,zg,zx,zy,zE,xj,x8,wi,rho0,bindsD,List.reverse_cons,List.reverse_nil,List.nil_append,decide_false,decide_eq_true,wp,wD,wT,wZ,Nat.reduceAdd,vZ,ua,uc, *])
theorem c_truth (n : Nat) (b : Bool) : (PT (n + 1)).fn (.ref 63) [.bool b] [] = some (.bool b):=by
 (refine (fn_df rfl rfl).trans ?_; refine run_ex fun sc b g1 g2=>?_; (conv at g1=>(lhs; whnf)); (conv at g2=>(lhs; whnf)); subst g1 g2)
 induction b using Bool.casesOn <;> (simp +decide only [jb,jc,jd,jg,jh,ji,jj,jn,jq,jy,jB,jG,↓jH,↓jI,j3,j5,j6,j7,j8,j9,ka,kc,kd,ke,kf,kg,kh,ki,kj,kv,kx,qm,qG,qM,qP,qQ,qR,ya,yd,yf,yh,yj,yk,yl,yn,fuelN,yr,yt,yv,yy,yB,yJ,yK,yN,yO,yS,yW,zg,zo,zp,zt,zu,zx,zE,xj,xQ,xR,x8,we,wi,rho0,bindsD,List.reverse_cons,List.reverse_nil,List.nil_append,decide_false,decide_eq_true,wp,wD,wU,wZ,w7,Nat.reduceAdd,vX,vY,vZ,ua,ub,uc,ud,ue, *])
noncomputable def b64n (c : Nat) : Nat:=if 65≤c∧c≤90 then c - 65 else if 97≤c∧c≤122 then c - 71 else if 48≤c∧c≤57 then c + 4 else if c = 43 then 62 else if c = 47 then 63 else 64
theorem c_b64n (n : Nat) (c : Nat) : (PT (n + 1)).fn (.ref 70) [.int (c : Int)] [] = some (.int ((b64n c : Nat) : Int)):=by
 rw [c_b64v]
 refine congrArg (fun z=>some (D.int z)) ?_
 unfold b64v b64n
 exact zif (zr 65 90) (fun h=>(Int.ofNat_sub h.1).symm) fun _a=>zif (zr 97 122) (fun h=>(Int.ofNat_sub (Nat.le_trans (by decide) h.1)).symm) fun _a=>zif (zr 48 57) (fun _a=>rfl) fun _a=>zif (zq 43) (fun _a=>rfl) fun _a=>zif (zq 47) (fun _a=>rfl) fun _a=>rfl
structure A2 where
 out : List Nat
 q : Nat
 lc : Nat
 pads : Nat
 i : Nat
noncomputable def a2st (s : A2) (c : UInt8) : A2 :=
 if c.toNat = 61 then { s with pads:=s.pads + 1,i:=s.i + 1 }
 else if 64≤b64n c.toNat then { s with i:=s.i + 1 }
 else if s.q = 0 then ⟨s.out,1,b64n c.toNat,0,s.i + 1⟩
 else if s.q = 1 then ⟨s.out ++ [s.lc * 4 ||| b64n c.toNat / 16],2,b64n c.toNat % 16,0,s.i + 1⟩
 else if s.q = 2 then ⟨s.out ++ [s.lc * 16 ||| b64n c.toNat / 4],3,b64n c.toNat % 4,0,s.i + 1⟩
 else ⟨s.out ++ [s.lc * 64 ||| b64n c.toNat],0,0,0,s.i + 1⟩
noncomputable def A2I (k : Nat) (s : A2) : Prop:=s.q≤3∧s.lc < 64∧(s.q = 2→s.lc < 16)∧(s.q = 3→s.lc < 4)∧s.i = k∧s.out.length≤k∧∀ x∈s.out,x < 256
theorem a2I_step {k : Nat} {s : A2} {c : UInt8} (h : A2I k s) : A2I (k + 1) (a2st s c):=by
 refine e0a7 (h) fun h1 h2 h3 h4 h5 h6 h7=>?_
 have i:=congrArg Nat.succ h5
 unfold a2st
 by_cases z1 : c.toNat = 61
 ·rw [if_pos z1]; exact ⟨h1,h2,h3,h4,i,Nat.le_succ_of_le h6,h7⟩
 rw [if_neg z1]
 by_cases hv : 64≤b64n c.toNat
 ·rw [if_pos hv]; exact ⟨h1,h2,h3,h4,i,Nat.le_succ_of_le h6,h7⟩
 rw [if_neg hv]
 have hv:=Nat.not_le.mp hv
 have app : ∀ {m a b},m < a→a * b = 2 ^ 8→0 < b→∀ {y},y < 2 ^ 8→∀ x∈s.out ++ [m * b ||| y],x < 256:=fun {m a b} hm he hb {y} hy x hx=>by
  rcases List.mem_append.mp hx with z | z
  ·exact h7 x z
  ·rw [List.mem_singleton.mp z]
   exact Nat.or_lt_two_pow (n:=8) (he ▸ Nat.mul_lt_mul_of_pos_right hm hb) hy
 have len : ∀ y,(s.out ++ [y]).length≤k + 1:=fun y=>by rw [List.length_append]; exact Nat.succ_le_succ h6
 have no : ∀ {a b : Nat} {p : Prop},(a == b) = false→a = b→p:=fun {a b p} e z=>absurd (beq_iff_eq.mpr z) (by rw [e]; exact Bool.false_ne_true)
 have md : ∀ x {m : Nat},0 < m→m≤64→x % m < 64:=fun x {m} h0 h=>Nat.lt_of_lt_of_le (Nat.mod_lt _ h0) h
 have dv : ∀ m,b64n c.toNat / m < 2 ^ 8:=fun m=>Nat.lt_of_le_of_lt (Nat.div_le_self _ _) (Nat.lt_trans hv (by decide))
 by_cases q0 : s.q = 0
 ·rw [if_pos q0]; exact ⟨(by decide : 1≤3),hv,no rfl,no rfl,i,Nat.le_succ_of_le h6,h7⟩
 rw [if_neg q0]
 by_cases q1 : s.q = 1
 ·rw [if_pos q1]; exact ⟨(by decide : 2≤3),md _ (by decide) (by decide),fun _a=>Nat.mod_lt _ (by decide),no rfl,i,len _,app h2 rfl (by decide) (dv _)⟩
 rw [if_neg q1]
 by_cases q2 : s.q = 2
 ·rw [if_pos q2]; exact ⟨Nat.le_refl _,md _ (by decide) (by decide),no rfl,fun _a=>Nat.mod_lt _ (by decide),i,len _,app (h3 q2) rfl (by decide) (dv _)⟩
 rw [if_neg q2]
 have q3 : s.q = 3:=((lt4 (Nat.lt_succ_of_le h1)).resolve_left q0 |>.resolve_left q1).resolve_left q2
 exact ⟨(by decide : 0≤3),(by decide : 0 < 64),no rfl,no rfl,i,len _,app (h4 q3) rfl (by decide) (Nat.lt_trans hv (by decide))⟩
noncomputable def a2b (b : List UInt8) : A2:=b.foldl a2st ⟨[],0,0,0,0⟩
noncomputable def nI (k : Nat) : D:=.int (k : Int)
noncomputable def a2U (s : A2) (j : Option D) : List (Str×LV):=[("out",.ow (s.out.map fun k : Nat=>D.int (k : Int))),("quad_pos",.fz (.int (s.q : Int))),("leftchar",.fz (.int (s.lc : Int))),("pads",.fz (.int (s.pads : Int))),("i",.fz (.int (s.i : Int))),("this_ch",LJ j)]
noncomputable def a2R (b : List UInt8) (s : A2) (j : Option D) : Rho:=[("data",.fz (.bytes b)),("strict_mode",.fz (.bool false)),("ascii_data",.fz (.bytes b)),("out",.ow (s.out.map fun k : Nat=>D.int (k : Int))),("quad_pos",.fz (.int (s.q : Int))),("leftchar",.fz (.int (s.lc : Int))),("pads",.fz (.int (s.pads : Int))),("i",.fz (.int (s.i : Int))),("this_ch",LJ j)]
set_option tactic.hygienic true in
theorem exN_app {P : Pg} {n : Nat} {sc : Scope} {rest : List Stmt} {ρ' : Rho} : ∀ {pre : List Stmt} {ρ : Rho},exN P (n + 1) sc ρ pre = some (.next ρ')→exN P (n + 1) sc ρ (pre ++ rest) = exN P (n + 1) sc ρ' rest
 | [],ρ,h=>by have e:=some_inv h; cases e; rfl
 | st :: pre,ρ,h=>by
  refine o1_e h fun r h1 h2=>?_
  show o1 _ (step1 P (evN P fuelN) (exN P n sc) sc ρ st) = _
  rw [h1]
  induction r using Mine.SR.casesOn
  ·exact exN_app (n:=n) h2
  all_goals (have e:=some_inv h2; cases e)
theorem take_app {α : Type} (k : Nat) (b : List α) : b = b.take k ++ b.drop k:=(List.take_append_drop k b).symm
theorem a2b_run (n : Nat) (b : List UInt8) (hl : b.length≤lim) : ∀ sc bd',(F 78).scope = sc→bodyOf (F 78) = bd'→∃ j,A2I b.length (a2b b)∧exN (PT (n + 1)) 12 sc (rho0 (bindsD [("data",.bytes b),("strict_mode",.bool false)]) sc.names) (bd'.take 8) = some (.next (a2R b (a2b b) j)):=by
 intro sc bd' g1 g2
 (conv at g1=>(lhs; whnf)); (conv at g2=>(lhs; whnf)); subst g1 g2
 unfold a2b
 have e1:=c_truth n
 have e2:=c_ascii n
 have e3:=c_b64n n
 simp only [List.take_succ_cons,List.take_zero]
 suffices h : ∀ Q : Option SR→Prop,(∀ j,A2I b.length (List.foldl a2st ⟨[],0,0,0,0⟩ b)→Q (some (.next (a2R b (List.foldl a2st ⟨[],0,0,0,0⟩ b) j))))→Q _ from h (fun z=>∃ j,_∧z = some (.next (a2R b (List.foldl a2st ⟨[],0,0,0,0⟩ b) j))) fun j hI=>⟨j,hI,rfl⟩
 intro Q hQ
 (simp +decide only [jb,jc,jg,ji,jj,jn,jo,jq,jz,jG,↓jH,↓jI,j3,j4,j5,kd,ke,kx,kF,kR,kT,kU,kW,kZ,k7,k9,qm,qn,qo,qp,qr,qs,qt,qG,qN,qP,qQ,qR,ya,fuelN,yr,yu,yv,yB,yD,yJ,yN,yO,yP,yR,yT,yW,zd,zf,zE,zF,zH,xS,wi,wj,rho0,bindsD,List.reverse_cons,List.reverse_nil,List.nil_append,List.cons_append,↓reduceIte,vf,Nat.reduceAdd,vC,vE, *])
 refine nx_forU_p (Qr:=Q) (fun c : UInt8=>D.int (c.toNat : Int)) b a2st a2U A2I ⟨[],0,0,0,0⟩ none ?_ ?_ ?_ ?_
 ·unfold a2U; (simp +decide only [jl,kL,kM,kN,kO,kP,kQ,kR,kT,kU,kW,kZ,yt,xk,xm,xH,List.map_nil, *])
 ·exact ⟨by decide,by decide,by decide,by decide,rfl,Nat.le_refl _,fun x hx=>(nomatch hx)⟩
 ·intro k s j c hc hI
  refine ⟨a2I_step hI,?_⟩
  refine e0a7 (hI) fun i1 i2 i3 i4 i5 i6 i7=>?_
  have hk : k < b.length:=(List.getElem?_eq_some_iff.mp hc).1
  have hol : s.out.length≤lim:=Nat.le_trans i6 (Nat.le_trans (Nat.le_of_lt hk) hl)
  unfold a2U a2st
  by_cases c1 : c.toNat = 61
  ·have c1' : (c.toNat : Int) = 61:=ze c1
   refine ⟨_,by (simp +decide only [kL,kM,kN,kO,kP,kQ,kR,kT,kU,kW,kZ,qu,yt,zV,xk,xm, *]) <;> rfl,.some (.int 61),.inr ?_⟩
   (simp +decide only [jb,jc,jg,jh,ji,jj,jm,jo,jq,jy,jG,↓jL,↓jN,↓jP,kL,kM,kN,kO,kP,kQ,kR,kT,kU,kW,kZ,qs,qH,yd,ye,yg,yk,yl,fuelN,yt,yw,yy,yN,yP,yW,zx,zA,xk,xm,xn,xG,xS,xX,x5,x7,wb,wk,decide_eq_true,↓reduceIte,Nat.reduceAdd, *])
   by_cases d1 : (2 : Int)≤(s.q : Int)
   ·by_cases d2 : ((s.q + (s.pads + 1) : Nat) : Int)≤4
    ·(simp +decide only [jb,jc,jf,jg,ji,jj,jo,jq,jD,jG,↓jO,kR,qt,qH,yg,fuelN,yw,yN,yP,yW,zx,zA,xG,xS,wk,decide_eq_true,↓reduceIte,Nat.reduceAdd, *]) <;> rfl
    ·(simp +decide only [ja,jb,jc,jf,jg,jh,ji,jj,jo,jq,jy,jD,jG,↓jI,↓jO,kR,qt,qH,yc,yi,yn,fuelN,yw,yK,yN,yP,yW,zv,zx,zy,zA,xG,xS,we,wk,Bool.not_false,decide_false,decide_eq_true,↓reduceIte,Nat.reduceAdd, *]) <;> rfl
   ·(simp +decide only [ja,jb,jc,jf,jg,jh,ji,jj,jo,jq,jy,jD,jG,↓jI,↓jO,kR,qt,qH,yc,yn,fuelN,yw,yK,yN,yP,yW,zs,zv,zx,zy,zA,xG,xS,we,wk,Bool.not_false,decide_false,↓reduceIte,Nat.reduceAdd, *]) <;> rfl
  ·have c1' : ¬ (c.toNat : Int) = 61:=zne c1
   by_cases c2 : 64≤b64n c.toNat
   ·have c2' : (64 : Int)≤(b64n c.toNat : Int):=zle c2
    refine ⟨_,by (simp +decide only [kL,kM,kN,kO,kP,kQ,kR,kT,kU,kW,kZ,qu,yt,zV,xk,xm, *]) <;> rfl,.some (.int (b64n c.toNat : Int)),.inr ?_⟩
    (simp +decide only [ja,jb,jc,jf,jg,jh,ji,jj,jm,jo,jq,jy,jD,jG,↓jI,↓jO,↓jP,kg,kF,kL,kM,kN,kO,kP,kQ,kR,kT,kU,kW,kZ,qt,qu,qG,qH,qP,qQ,qR,ya,yl,yn,fuelN,yr,yt,yv,yw,yy,yB,yJ,yK,yN,yP,yW,zx,zy,zA,zE,xk,xm,xG,xS,xX,x7,wb,we,wi,wk,decide_false,decide_eq_true,↓reduceIte,Nat.reduceAdd,vF, *]) <;> rfl
   ·have c2' : ¬ (64 : Int)≤(b64n c.toNat : Int):=zlen c2
    refine ⟨_,by (simp +decide only [kL,kM,kN,kO,kP,kQ,kR,kT,kU,kW,kZ,qu,yt,zV,xk,xm, *]) <;> rfl,.some (.int (b64n c.toNat : Int)),.inl ?_⟩
    have c3 : b64n c.toNat < 1000000:=Nat.lt_of_lt_of_le (Nat.not_le.mp c2) (by decide)
    have c4 : s.lc < 1000000:=Nat.lt_of_lt_of_le i2 (by decide)
    (simp +decide only [ja,jb,jc,jg,jh,ji,jj,jm,jo,jq,jy,jG,↓jI,↓jL,↓jN,↓jP,kg,kF,kL,kM,kN,kO,kP,kQ,kR,kT,kU,kW,kZ,qs,qu,qG,qP,qQ,qR,ya,yd,ye,yg,yi,yk,yl,yn,fuelN,yr,yt,yv,yy,yB,yJ,yK,yN,yP,yW,zy,zE,zF,xk,xm,xS,xX,x7,wb,we,wf,wi,decide_false,↓reduceIte,Nat.reduceAdd,vF, *])
    obtain q | q | q | q:=lt4 (Nat.lt_succ_of_le i1)
    all_goals ((simp +decide only [ja,jb,jc,jg,jh,ji,jj,jo,jq,jx,jy,jG,↓jL,↓jM,↓jO,↓jP,j6,kc,kL,kR,kU,kW,kZ,qp,qr,qt,qG,qH,List.length_map,yl,fuelN,yr,yu,yw,yy,yN,yP,yW,zw,zx,zy,zA,zF,zG,xo,xr,xt,xu,xz,xA,xC,xD,xG,xH,xI,xJ,xK,List.map_append,List.map_cons,List.map_nil,xS,xX,wb,wi,wk,reduceCtorEq,decide_false,decide_eq_true,↓reduceIte,Nat.reduceAdd, *]) <;> rfl)
 ·intro j hI
  have hQ:=hQ j hI
  clear hI
  generalize List.foldl a2st ⟨[],0,0,0,0⟩ b = s at *
  unfold a2U
  unfold a2R at hQ
  (simp +decide only [ja,kL,kM,kN,kO,kP,kQ,kR,kT,kU,kW,kZ,yt,xk,xm,Nat.reduceAdd, *])
theorem c_a2b (n : Nat) (b : List UInt8) (hl : b.length≤lim) (h1 : (a2b b).q≠1) (h2 : (a2b b).q≠0→4≤(a2b b).q + (a2b b).pads) :
  (PT (n + 2)).fn (.ref 78) [.bytes b] [("strict_mode",.bool false)] = some (.bytes ((a2b b).out.map fun k=>k.toUInt8)):=by
 refine (fn_df rfl rfl).trans ?_
 refine run_ex fun sc bd' g1 g2=>?_
 obtain ⟨j,hI,hR⟩:=a2b_run n b hl sc bd' g1 g2
 rw [take_app 8 bd',exN_app hR]
 (conv at g1=>(lhs; whnf)); (conv at g2=>(lhs; whnf)); subst g1 g2
 clear hR
 refine e0a7 (hI) fun i1 i2 i3 i4 i5 i6 i7=>?_
 generalize a2b b = s at *
 have h1' : ¬ (s.q : Int) = 1:=zne h1
 have i8:=bytesD_nat i7 (Nat.le_trans i6 hl)
 unfold a2R
 simp only [List.drop_succ_cons,List.drop_zero]
 by_cases q0 : (s.q : Int) = 0
 ·(simp +decide only [ja,jb,jc,jd,jg,jh,ji,jj,jk,jo,jy,jB,jG,↓jK,↓jL,↓jN,ki,kF,qG,qH,qP,qQ,qR,ya,yd,ye,yk,yl,fuelN,yr,yv,yw,yy,yB,yJ,yR,zg,zs,zv,zy,xj,xS,xX,xY,wb,Bool.not_true,decide_false,decide_eq_true,↓reduceIte,wp,wF,Nat.reduceAdd,ua, *])
 ·have h2':=h2 fun z=>q0 (ze z)
  have q1 : ¬ ((s.q + s.pads : Nat) : Int) < 4:=zln (Nat.not_lt.mpr h2')
  (simp +decide only [ja,jb,jc,jd,jg,jh,ji,jj,jk,jo,jy,jB,jG,↓jK,↓jL,↓jN,ki,kF,qG,qH,qP,qQ,qR,ya,yd,ye,yg,yi,yk,yl,fuelN,yr,yv,yw,yy,yB,yJ,yR,zg,zv,zy,xj,xn,xS,xX,xY,xZ,wb,Bool.not_false,decide_false,↓reduceIte,wp,wF,Nat.reduceAdd,ua, *])
noncomputable def sg (k : Nat) : Nat:=(B64L[k]?.getD 0).toNat
theorem sg_lt (k : Nat) : sg k < 256:=by unfold sg; exact UInt8.toNat_lt _
theorem b64_len : B64L.length = 64:=by decide
theorem idx_b64 {x : Nat} (h : x < 64) : idxD (.bytes B64L) (x : Int) = some (.int ((sg x : Nat) : Int)):=by
 unfold idxD
 dsimp only
 have hb : inB (x : Int) B64L.length = true∧0≤(x : Int):=⟨by rw [b64_len]; exact inB_nat h (by decide),Int.natCast_nonneg _⟩
 rw [if_pos hb,Int.toNat_natCast,List.getElem?_eq_getElem (by rw [b64_len]; exact h)]
 unfold sg
 rw [List.getElem?_eq_getElem (by rw [b64_len]; exact h)]
 rfl
theorem l_add_0 : binF .Add (.int 0) (.int 8) = some (.int 8):=id rfl
theorem l_add_2 : binF .Add (.int 2) (.int 8) = some (.int 10):=id rfl
theorem l_add_4 : binF .Add (.int 4) (.int 8) = some (.int 12):=id rfl
structure B2 where
 out : List Nat
 lb : Nat
 lc : Nat
noncomputable def b2st (s : B2) (b : UInt8) : B2 :=
 if s.lb = 0 then ⟨s.out ++ [sg ((s.lc * 256 ||| b.toNat) % 65536 / 4 % 64)],2,(s.lc * 256 ||| b.toNat) % 65536⟩
 else if s.lb = 2 then ⟨s.out ++ [sg ((s.lc * 256 ||| b.toNat) % 65536 / 16 % 64)],4,(s.lc * 256 ||| b.toNat) % 65536⟩
 else ⟨s.out ++ [sg ((s.lc * 256 ||| b.toNat) % 65536 / 64 % 64)] ++ [sg ((s.lc * 256 ||| b.toNat) % 65536 / 1 % 64)],0,(s.lc * 256 ||| b.toNat) % 65536⟩
noncomputable def B2I (k : Nat) (s : B2) : Prop:=(s.lb = 0∨s.lb = 2∨s.lb = 4)∧s.lc < 65536∧s.out.length≤2 * k∧∀ x∈s.out,x < 256
theorem b2I_step {k : Nat} {s : B2} {c : UInt8} (h : B2I k s) : B2I (k + 1) (b2st s c):=by
 refine e0a4 (h) fun h1 h2 h3 h4=>?_
 have app : ∀ (l : List Nat) y,(∀ x∈l,x < 256)→∀ x∈l ++ [sg y],x < 256:=fun l y hl x hx=>by
  rcases List.mem_append.mp hx with z | z
  ·exact hl x z
  ·rw [List.mem_singleton.mp z]; exact sg_lt _
 unfold b2st
 split
 ·exact ⟨.inr (.inl rfl),Nat.mod_lt _ (by decide),by rw [List.length_append]; exact Nat.le_succ_of_le (Nat.succ_le_succ h3),app _ _ h4⟩
 split
 ·exact ⟨.inr (.inr rfl),Nat.mod_lt _ (by decide),by rw [List.length_append]; exact Nat.le_succ_of_le (Nat.succ_le_succ h3),app _ _ h4⟩
 ·exact ⟨.inl rfl,Nat.mod_lt _ (by decide),by rw [List.length_append,List.length_append]; exact Nat.succ_le_succ (Nat.succ_le_succ h3),app _ _ (app _ _ h4)⟩
noncomputable def b2fin (s : B2) : List Nat:=if s.lb = 2 then s.out ++ [sg (s.lc % 4 * 16)] ++ [61] ++ [61] else if s.lb = 4 then s.out ++ [sg (s.lc % 16 * 4)] ++ [61] else s.out
noncomputable def b2a (b : List UInt8) : List Nat:=b2fin (b.foldl b2st ⟨[],0,0⟩)
noncomputable def b2U (s : B2) (j : Option D) : List (Str×LV):=[("out",.ow (s.out.map fun k : Nat=>D.int (k : Int))),("leftbits",.fz (.int (s.lb : Int))),("leftchar",.fz (.int (s.lc : Int))),("b",LJ j)]
theorem c_b2a (n : Nat) (b : List UInt8) (hl : b.length≤100000) :
  (PT (n + 2)).fn (.ref 86) [.bytes b] [("newline",.bool false)] = some (.bytes ((b2a b).map fun k=>k.toUInt8)):=by
 (refine (fn_df rfl rfl).trans ?_; refine run_ex fun sc b g1 g2=>?_; (conv at g1=>(lhs; whnf)); (conv at g2=>(lhs; whnf)); subst g1 g2)
 unfold b2a at *
 have hl' : b.length≤lim:=Nat.le_trans hl (by decide)
 have e1:=c_truth n
 have e2:=c_buffer n
 (simp +decide only [jb,jc,jg,ji,jj,jn,jo,jq,jz,jG,↓jH,↓jI,j3,j4,j5,ka,kc,kx,kD,kR,kT,kU,kW,kZ,qm,qn,qo,qp,qr,qG,qN,qP,qQ,qR,ya,fuelN,yr,yu,yv,yB,yD,yJ,yN,yO,yP,yR,yT,yW,zd,zf,zE,zF,zH,xS,wi,wj,rho0,bindsD,List.reverse_cons,List.reverse_nil,List.nil_append,List.cons_append,↓reduceIte,vf,Nat.reduceAdd,vD,vE, *])
 refine outD_of (nx_forU (fun c : UInt8=>D.int (c.toNat : Int)) b b2st b2U B2I ⟨[],0,0⟩ none ?_ ?_ ?_ ?_)
 ·unfold b2U; (simp +decide only [jl,kL,kM,kN,kO,kR,kT,kU,yt,xk,xm,xH,List.map_nil, *])
 ·exact ⟨.inl rfl,by decide,Nat.le_refl _,fun x hx=>(nomatch hx)⟩
 ·intro k s j c hc hI
  refine ⟨b2I_step hI,?_⟩
  refine e0a4 (hI) fun i1 i2 i3 i4=>?_
  have hk : k < b.length:=(List.getElem?_eq_some_iff.mp hc).1
  have kk : s.out.length≤200000:=Nat.le_trans i3 (Nat.mul_le_mul_left 2 (Nat.le_trans (Nat.le_of_lt hk) hl))
  have hol : s.out.length≤lim:=Nat.le_trans kk (by decide)
  have hol2 : s.out.length + 1≤lim:=Nat.le_trans (Nat.succ_le_succ kk) (by decide)
  have c4 : s.lc < 1000000:=Nat.lt_trans i2 (by decide)
  clear kk
  have x1:=idx_b64 (x:=(s.lc * 256 ||| c.toNat) % 65536 / 4 % 64) (Nat.mod_lt _ (by decide))
  have x2:=idx_b64 (x:=(s.lc * 256 ||| c.toNat) % 65536 / 16 % 64) (Nat.mod_lt _ (by decide))
  have x3:=idx_b64 (x:=(s.lc * 256 ||| c.toNat) % 65536 / 64 % 64) (Nat.mod_lt _ (by decide))
  have x4:=idx_b64 (x:=(s.lc * 256 ||| c.toNat) % 65536 / 1 % 64) (Nat.mod_lt _ (by decide))
  have y0:=l_add_0
  have y1:=l_add_2
  have y2:=l_add_4
  have y3:=@uo
  unfold b2U b2st
  refine ⟨_,by (simp +decide only [kL,kM,kN,kO,kR,kT,kU,qs,yt,zV,xk,xm, *]) <;> rfl,some (.int (c.toNat : Int)),.inl ?_⟩
  obtain q | q | q:=i1
  all_goals ((simp +decide only [ja,jb,jc,jg,jh,ji,jj,jm,jo,jq,jx,jA,jG,↓jL,↓jM,↓jN,j6,kd,kD,kL,kM,kN,kO,kR,kT,kU,qp,qr,qG,qH,qZ,List.length_map,yl,fuelN,yr,yt,yv,yw,yy,yI,yN,yP,yW,zw,zA,xk,xm,xo,xv,xw,xz,xA,xB,xE,xF,xH,xJ,xL,xM,xN,xO,xP,List.map_append,List.map_cons,List.map_nil,xS,x7,wk,reduceCtorEq,decide_false,decide_eq_true,↓reduceIte,List.length_cons,List.length_nil,List.length_append,Int.reduceSub,Nat.reduceAdd,uf, *]) <;> rfl)
 ·intro j hI
  refine e0a4 (hI) fun i1 i2 i3 i4=>?_
  generalize List.foldl b2st ⟨[],0,0⟩ b = s at *
  have kk : s.out.length≤200000:=Nat.le_trans i3 (Nat.mul_le_mul_left 2 hl)
  have l3 : s.out.length + 1 + 1 + 1≤lim:=Nat.le_trans (Nat.add_le_add_right kk 3) (by decide)
  have l2:=Nat.le_of_succ_le l3
  have l1:=Nat.le_of_succ_le l2
  have l0:=Nat.le_of_succ_le l1
  have m4 : s.lc % 4 < 4:=Nat.mod_lt _ (by decide)
  have m16 : s.lc % 16 < 16:=Nat.mod_lt _ (by decide)
  have x1:=idx_b64 (x:=s.lc % 4 * 16) (Nat.mul_lt_mul_of_pos_right m4 (by decide))
  have x2:=idx_b64 (x:=s.lc % 16 * 4) (Nat.mul_lt_mul_of_pos_right m16 (by decide))
  have z1 : s.lc % 4 < 1000000:=Nat.lt_trans m4 (by decide)
  have z2 : s.lc % 16 < 1000000:=Nat.lt_trans m16 (by decide)
  have app : ∀ (l : List Nat) y,y < 256→(∀ x∈l,x < 256)→∀ x∈l ++ [y],x < 256:=fun l y hy hl x hx=>by
   rcases List.mem_append.mp hx with z | z
   ·exact hl x z
   ·rw [List.mem_singleton.mp z]; exact hy
  have i8:=bytesD_nat i4 l0
  have i9:=bytesD_nat (app _ 61 (by decide) (app _ 61 (by decide) (app _ (sg (s.lc % 4 * 16)) (sg_lt _) i4))) (by rw [List.length_append,List.length_append,List.length_append]; exact l3)
  have i10:=bytesD_nat (app _ 61 (by decide) (app _ (sg (s.lc % 16 * 4)) (sg_lt _) i4)) (by rw [List.length_append,List.length_append]; exact l2)
  have c61 : ((61 : Nat) : Int) = 61:=rfl
  simp only [List.map_append,List.map_cons,List.map_nil,c61] at i9 i10
  clear c61 l3 m4 m16 kk
  unfold b2U b2fin
  obtain q | q | q:=i1
  ·(simp +decide only [ja,jb,jc,jd,jg,jh,ji,jj,jk,jo,jy,jB,jG,↓jI,↓jK,↓jL,ke,kD,kL,kM,kN,kO,kR,kT,kU,qG,qP,qQ,qR,ya,yl,yn,fuelN,yr,yt,yv,yy,yB,yJ,yK,yR,zg,zy,xk,xm,xH,xS,xX,wb,we,reduceCtorEq,decide_false,↓reduceIte,wp,wF,Nat.reduceAdd,ua, *])
  ·(simp +decide only [ja,jb,jc,jd,jg,jh,ji,jj,jk,jo,jx,jy,jB,jG,↓jI,↓jK,↓jL,↓jM,j6,kd,ke,kD,kL,kM,kN,kO,kR,kT,kU,qG,qH,qP,qQ,qR,qZ,ya,List.length_map,yl,yn,fuelN,yr,yt,yv,yw,yy,yB,yI,yJ,yK,yP,yR,zg,zw,zx,zy,xk,xm,xt,xD,xJ,List.map_append,List.map_cons,List.map_nil,xS,xX,wb,we,decide_eq_true,↓reduceIte,wp,wF,List.length_cons,List.length_nil,List.length_append,Nat.reduceAdd,ua,uf, *])
  ·(simp +decide only [ja,jb,jc,jd,jg,jh,ji,jj,jk,jo,jx,jy,jB,jG,↓jI,↓jK,↓jL,↓jM,j6,kd,ke,kD,kL,kM,kN,kO,kR,kT,kU,qG,qH,qP,qQ,qR,qZ,ya,List.length_map,yl,yn,fuelN,yr,yt,yv,yw,yy,yB,yI,yJ,yK,yP,yR,zg,zw,zx,zy,xk,xm,xr,xC,xL,List.map_append,List.map_cons,List.map_nil,xS,xX,wb,we,decide_false,decide_eq_true,↓reduceIte,wp,wF,List.length_cons,List.length_nil,List.length_append,Nat.reduceAdd,ua,uf, *])
theorem w_ascii : (ofString "ascii").cps.toList = wAscii:=by decide +kernel
theorem mkTab_len (a b : List UInt8) : (mkTab a b).length = 256:=by unfold mkTab; rw [Array.length_toList]; exact tabA_size a b
theorem encodeD_ok {x : List Nat} (h : ∀ c∈x,c < 128) (hl : x.length≤lim) : encodeD [.str x,.str wAscii] = some (.bytes (x.map (·.toUInt8))):=by
 exact if_pos ⟨rfl,h,hl⟩
theorem maketransD_ok {a b : List UInt8} (h : a.length = b.length) : maketransD [.bytes a,.bytes b] = some (.bytes (mkTab a b)):=by
 exact if_pos h
theorem translateD_ok {x a b : List UInt8} (h : x.length≤lim) : translateD [.bytes x,.bytes (mkTab a b)] = some (.bytes (trans x (mkTab a b))):=by
 exact if_pos ⟨mkTab_len a b,h⟩
theorem trans_len (x t : List UInt8) : (trans x t).length = x.length:=by unfold trans; rw [List.length_map]
theorem c_bytesFrom (n : Nat) (x : List Nat) (h : ∀ c∈x,c < 128) (hl : x.length≤lim) : (PT (n + 1)).fn (.ref 29) [.str x] [] = some (.bytes (x.map (·.toUInt8))):=by
 (refine (fn_df rfl rfl).trans ?_; refine run_ex fun sc b g1 g2=>?_; (conv at g1=>(lhs; whnf)); (conv at g2=>(lhs; whnf)); subst g1 g2)
 have e1:=encodeD_ok h hl
 have e2:=w_ascii
 clear h
 (simp +decide only [jb,jd,jg,jh,ji,jj,jy,jB,jF,jG,↓jH,j3,j4,j5,kv,qG,qP,qQ,qR,q9,ya,yo,fuelN,yr,yv,yB,yJ,yK,yR,zg,zj,zk,zx,xj,xT,we,rho0,bindsD,List.reverse_cons,List.reverse_nil,List.nil_append,List.cons_append,↓reduceIte,wo,wv,wy,wJ,wY,vh,vW,uc, *])
noncomputable def encB (b p : List UInt8) : List UInt8:=trans ((b2a b).map fun k=>k.toUInt8) (mkTab [43,47] p)
noncomputable def decS (x p : List Nat) : A2:=a2b (trans (x.map (·.toUInt8)) (mkTab (p.map (·.toUInt8)) [43,47]))
noncomputable def decB (x p : List Nat) : List UInt8:=(decS x p).out.map fun k=>k.toUInt8
theorem b2a_len (b : List UInt8) : (b2a b).length≤2 * b.length + 3:=by
 have : ∀ (b : List UInt8) (k : Nat) (s : B2),B2I k s→B2I (k + b.length) (b.foldl b2st s):=by
  intro b
  induction b with
  | nil=>intro k s h; exact h
  | cons c b ih=>intro k s h; rw [List.foldl_cons,List.length_cons,sa]; exact ih _ _ (b2I_step h)
 have h:=(this b 0 ⟨[],0,0⟩ ⟨.inl rfl,by decide,Nat.le_refl _,fun x hx=>(nomatch hx)⟩).2.2.1
 rw [Nat.zero_add] at h
 unfold b2a b2fin
 generalize List.foldl b2st ⟨[],0,0⟩ b = s at h ⊢
 by_cases q : s.lb = 2
 ·rw [if_pos q,List.length_append,List.length_append,List.length_append]; exact Nat.add_le_add_right h 3
 rw [if_neg q]
 by_cases q : s.lb = 4
 ·rw [if_pos q,List.length_append,List.length_append]; exact Nat.le_succ_of_le (Nat.add_le_add_right h 2)
 ·rw [if_neg q]; exact Nat.le_trans h (Nat.le_add_right _ 3)
theorem c_encode (n : Nat) (b : List UInt8) (p q : UInt8) (hl : b.length≤100000) : (PT (n + 3)).fn (.ref 94) [.bytes b,.bytes [p,q]] [] = some (.bytes (encB b [p,q])):=by
 (refine (fn_df rfl rfl).trans ?_; refine run_ex fun sc b g1 g2=>?_; (conv at g1=>(lhs; whnf)); (conv at g2=>(lhs; whnf)); subst g1 g2)
 have e1:=c_b2a n b hl
 have hz : ((b2a b).map fun k=>k.toUInt8).length≤lim:=by rw [List.length_map]; exact Nat.le_trans (b2a_len b) (Nat.le_trans (Nat.add_le_add_right (Nat.mul_le_mul_left 2 hl) 3) (by decide))
 have e2:=translateD_ok (a:=[43,47]) (b:=[p,q]) hz
 have e3 : maketransD [.bytes [43,47],.bytes [p,q]] = some (.bytes (mkTab [43,47] [p,q])):=maketransD_ok rfl
 have e4 : (2 : Nat)≤lim:=by decide
 unfold encB
 clear hz
 (simp +decide only [jb,jc,jd,jg,jh,ji,jj,jn,jq,jy,jB,jE,jG,↓jH,↓jI,↓jJ,j3,j4,j6,j7,j9,kx,ky,qn,qG,qP,qQ,qR,qS,q9,ya,yl,fuelN,yr,yt,yv,yy,yB,yC,yJ,yN,yR,yW,zg,zh,zj,zk,zv,zx,zE,xj,xJ,xQ,xR,xS,xU,xX,x9,wb,wi,Bool.not_false,rho0,bindsD,List.reverse_cons,List.reverse_nil,List.nil_append,List.cons_append,decide_eq_true,↓reduceIte,wo,wq,wB,wC,wM,wN,wR,w8,vh,List.length_cons,List.length_nil,Nat.reduceAdd,vH,vT,ua, *])
theorem c_decode (n : Nat) (x : List Nat) (p q : Nat) (h : ∀ c∈x,c < 128) (hp : p < 128) (hq : q < 128) (hl : x.length≤lim) (h1 : (decS x [p,q]).q≠1) (h2 : (decS x [p,q]).q≠0→4≤(decS x [p,q]).q + (decS x [p,q]).pads) :
  (PT (n + 3)).fn (.ref 102) [.str x,.str [p,q]] [] = some (.bytes (decB x [p,q])):=by
 (refine (fn_df rfl rfl).trans ?_; refine run_ex fun sc b g1 g2=>?_; (conv at g1=>(lhs; whnf)); (conv at g2=>(lhs; whnf)); subst g1 g2)
 have e1:=c_bytesFrom (n + 1) x h hl
 have e2:=c_bytesFrom (n + 1) [p,q] (fun c hc=>(List.mem_cons.mp hc).elim (fun z=>z ▸ hp) fun z=>List.mem_singleton.mp z ▸ hq) (by show 2≤lim; decide)
 have hz : (x.map (·.toUInt8)).length≤lim:=by rw [List.length_map]; exact hl
 have e3:=translateD_ok (a:=[p.toUInt8,q.toUInt8]) (b:=[43,47]) hz
 have e4 : maketransD [.bytes [p.toUInt8,q.toUInt8],.bytes [43,47]] = some (.bytes (mkTab [p.toUInt8,q.toUInt8] [43,47])):=maketransD_ok rfl
 have e5 : (2 : Nat)≤lim:=by decide
 have e6:=c_a2b n _ (by rw [trans_len]; exact hz) h1 h2
 unfold decB decS
 clear h h1 h2 hz hp hq
 simp only [List.map_cons,List.map_nil] at e2 e6
 (simp +decide only [ja,jb,jc,jd,jg,jh,ji,jj,jq,jy,jB,jE,jG,↓jH,↓jI,↓jJ,j3,j4,j5,j6,j7,j9,ka,ky,kR,kT,ql,qm,qG,qP,qQ,qR,qS,q9,ya,yl,fuelN,yr,yv,yy,yB,yC,yJ,yN,yR,yW,zg,zh,zj,zk,zv,zx,zE,xj,xJ,List.map_cons,List.map_nil,xQ,xS,xU,xX,x9,wb,wi,Bool.not_false,rho0,bindsD,List.reverse_cons,List.reverse_nil,List.nil_append,List.cons_append,decide_eq_true,↓reduceIte,wo,wq,wB,wC,wM,wN,wR,w9,vh,List.length_cons,List.length_nil,Nat.reduceAdd,vB,vG,vT,ua, *])
structure Ws where
 count : List Nat
 b : Nat
 n : Nat
 nt : Nat
noncomputable def grow (count : List Nat) (b : Nat) : List Nat:=if count.length≤b then count ++ List.replicate (b - count.length + 1) 0 else count
noncomputable def bump (count : List Nat) (b : Nat) : List Nat:=(grow count b).set b ((grow count b)[b]?.getD 0 + 1)
noncomputable def wsSt (s : Ws) (c : Nat) : Ws:=if c = 32 then ⟨s.count,s.b + 1,s.n + 1,s.nt⟩ else ⟨bump s.count s.b,0,s.n + 1,s.nt + 1⟩
noncomputable def isW (c : Nat) : Bool:=c == 32 || c == 9
noncomputable def wsOf (x : List Nat) : Ws:=(x.takeWhile isW).foldl wsSt ⟨[],0,0,0⟩
noncomputable def natsD (l : List Nat) : List D:=l.map fun k : Nat=>D.int (k : Int)
noncomputable def wsF (x : List Nat) (w : Ws) : List (Str×D):=[("raw",.str x),("n",.int (w.n : Int)),("nt",.int (w.nt : Int)),("norm",.tup [.tup (natsD w.count),.int (w.b : Int)]),("is_simple",.bool (decide ((w.count.length : Int)≤1)))]
noncomputable def wsD (x : List Nat) : D:=.inst 164 (wsF x (wsOf x))
theorem natsD_len (l : List Nat) : (natsD l).length = l.length:=List.length_map ..
theorem natsD_app (a b : List Nat) : natsD a ++ natsD b = natsD (a ++ b):=by unfold natsD; rw [List.map_append]
theorem idx_nats {l : List Nat} {b : Nat} (h : b < l.length) (hl : l.length≤lim) : idxD (.list (natsD l)) (b : Int) = some (.int ((l[b]?.getD 0 : Nat) : Int)):=by
 unfold idxD
 dsimp only
 rw [if_pos (show inB (b : Int) (natsD l).length = true by rw [natsD_len]; exact inB_nat h hl),ix_nat]
 unfold natsD
 rw [List.getElem?_map,List.getElem?_eq_getElem h]
 rfl
theorem idxT_nats {l : List Nat} {b : Nat} (h : b < l.length) (hl : l.length≤lim) : idxD (.tup (natsD l)) (b : Int) = some (.int ((l[b]?.getD 0 : Nat) : Int)):=by
 unfold idxD
 dsimp only
 rw [if_pos (show inB (b : Int) (natsD l).length = true by rw [natsD_len]; exact inB_nat h hl),ix_nat]
 unfold natsD
 rw [List.getElem?_map,List.getElem?_eq_getElem h]
 rfl
theorem set_nats (l : List Nat) (b v : Nat) : (natsD l).set b (.int (v : Int)) = natsD (l.set b v):=by unfold natsD; rw [List.map_set]
theorem reps_nats (k : Nat) : reps k [D.int 0] = natsD (List.replicate k 0):=by
 unfold reps natsD
 induction k with
 | zero=>rfl
 | succ k ih=>rw [List.replicate_succ,List.flatten_cons,ih]; rfl
theorem grow_len {l : List Nat} {b : Nat} : b < (grow l b).length∧(grow l b).length = max l.length (b + 1):=by
 unfold grow
 by_cases h : l.length≤b
 ·rw [if_pos h,List.length_append,List.length_replicate,show l.length + (b - l.length + 1) = b + 1 from congrArg Nat.succ (Nat.add_sub_of_le h)]
  exact ⟨Nat.lt_succ_self b,(Nat.max_eq_right (Nat.le_succ_of_le h)).symm⟩
 ·rw [if_neg h]; exact ⟨Nat.not_le.mp h,(Nat.max_eq_left (Nat.not_le.mp h)).symm⟩
noncomputable def wsU (s : Ws) (j : Option D) : List (Str×LV):=[("count",.ow (natsD s.count)),("b",.fz (.int (s.b : Int))),("n",.fz (.int (s.n : Int))),("nt",.fz (.int (s.nt : Int))),("ch",LJ j)]
noncomputable def WsJ (k : Nat) (s : Ws) : Prop:=s.b≤k∧s.count.length≤k∧s.n = k∧s.nt≤k
theorem wsJ_step {k c : Nat} {s : Ws} (h : WsJ k s) : WsJ (k + 1) (wsSt s c):=by
 refine e0a4 (h) fun h1 h2 h3 h4=>?_
 unfold wsSt
 by_cases q : c = 32
 ·rw [if_pos q]; exact ⟨Nat.succ_le_succ h1,Nat.le_succ_of_le h2,congrArg Nat.succ h3,Nat.le_succ_of_le h4⟩
 ·rw [if_neg q]
  refine ⟨Nat.zero_le _,?_,congrArg Nat.succ h3,Nat.succ_le_succ h4⟩
  show (bump s.count s.b).length≤_
  unfold bump
  rw [List.length_set,grow_len.2]; exact Nat.max_le.mpr ⟨Nat.le_succ_of_le h2,Nat.succ_le_succ h1⟩
theorem l_mul0 {m : Nat} (h : m≤lim) : binF .Mult (.list [.int 0]) (.int (m : Int)) = some (.list (natsD (List.replicate m 0))):=by
 rw [bl_mul,Int.toNat_natCast,if_pos ⟨(Nat.one_mul m).symm ▸ h,zle h,zlo m⟩,← reps_nats]
theorem c_ws (n : Nat) (x : List Nat) (hl : x.length≤100000) : (PT (n + 1)).fn (.ref 164) [.str x] [] = some (wsD x):=by
 refine fn_cf rfl rfl (lays_nx fun sc b y g1 g2=>?_)
 (conv at g1=>(lhs; whnf)); (conv at g2=>(lhs; whnf)); subst g1 g2
 have hl' : x.length≤lim:=Nat.le_trans hl (by decide)
 (simp +decide only [jb,jc,jg,ji,jj,jn,jo,jp,jq,jr,jt,ju,jz,jG,↓jH,j3,j4,kd,kv,kF,kI,kR,kT,kU,kW,kZ,k7,qa,qn,qo,qp,qr,qs,qt,qG,qN,qO,qP,qQ,qT,fuelN,yr,yu,yv,yB,yD,yE,yF,yN,yP,yQ,yT,yU,yW,yX,yZ,zd,zf,zm,zn,zH,zX,zY,zZ,z0,z9,xa,xd,xh,xS,wj,Bool.and_self,rho0,bindsD,bindsI,List.reverse_cons,List.reverse_nil,List.nil_append,decide_eq_true,↓reduceIte,ve,vi,vj,vr,vv,vw,vx,vy,vz,List.length_cons,List.length_nil,Nat.reduceAdd,vA, *])
 refine nx_forB_p (fun c : Nat=>D.str [c]) x isW wsSt wsU WsJ ⟨[],0,0,0⟩ none ?_ ?_ ?_ ?_
 ·unfold wsU natsD; (simp +decide only [jl,kM,kN,kO,kP,kQ,kR,kT,kU,kW,yt,xk,xm,xH,List.map_nil, *])
 ·exact ⟨Nat.le_refl _,Nat.le_refl _,rfl,Nat.le_refl _⟩
 ·intro k s j c hc hI
  refine ⟨fun _a=>wsJ_step hI,?_⟩
  refine e0a4 (hI) fun i1 i2 i3 i4=>?_
  have hk : k < x.length:=(List.getElem?_eq_some_iff.mp hc).1
  have hk':=Nat.le_trans hk hl'
  have r1 : s.count.length≤lim:=Nat.le_trans i2 (Nat.le_of_succ_le hk')
  have rb : s.b + 1≤lim:=Nat.le_trans (Nat.succ_le_succ i1) hk'
  clear hk'
  unfold wsU
  refine ⟨_,by (simp +decide only [kM,kN,kO,kP,kQ,kR,kT,kU,kW,qu,yt,zV,xk,xm, *]) <;> rfl,fun hp=>⟨some (.str [c]),?_⟩,fun hp=>⟨some (.str [c]),?_⟩⟩
  ·by_cases c1 : c = 32
   ·subst c1
    unfold wsSt
    (simp +decide only [ja,jb,jc,jg,jh,ji,jj,jm,jo,jp,jq,jy,jG,↓jJ,↓jM,↓jN,↓jP,kM,kN,kO,kP,kQ,kR,kT,kU,kW,qr,qs,qH,yl,fuelN,yt,yw,yy,yN,yP,yW,zx,zA,xk,xm,xG,xS,xX,wc,wk,decide_eq_true,↓reduceIte,Nat.reduceAdd, *])
   ·have c2 : c = 9:=by unfold isW at hp; simp at hp; lia
    subst c2
    have c3 : ¬ ([9] : List Nat) = [32]:=by decide
    have y1 : binF .Sub (.int (s.b : Int)) (.int (s.count.length : Int)) = some (.int ((s.b : Int) - (s.count.length : Int))):=uo
    have y2 : binF .Add (.int ((s.b : Int) - (s.count.length : Int))) (.int 1) = some (.int ((s.b : Int) - (s.count.length : Int) + 1)):=ug
    have g1:=natsD_len
    have g2:=natsD_app
    have gl:=grow_len (l:=s.count) (b:=s.b)
    have r2 : (grow s.count s.b).length≤lim:=by rw [gl.2]; exact Nat.max_le.mpr ⟨r1,rb⟩
    have y5:=idx_nats gl.1 r2
    have y6:=inB_nat gl.1 r2
    have y7:=@ix_nat
    have y8:=set_nats
    unfold wsSt bump
    by_cases q : s.count.length≤s.b
    ·have q' : (s.count.length : Int)≤(s.b : Int):=zle q
     have y3 : binF .Mult (.list [.int 0]) (.int ((s.b : Int) - (s.count.length : Int) + 1)) = some (.list (natsD (List.replicate (s.b - s.count.length + 1) 0))):=by
      rw [← Int.ofNat_sub q]
      exact l_mul0 (Nat.le_trans (Nat.succ_le_succ (Nat.sub_le _ _)) rb)
     have y4 : s.count.length + (s.b - s.count.length + 1)≤lim:=by rw [show s.count.length + (s.b - s.count.length + 1) = s.b + 1 from congrArg Nat.succ (Nat.add_sub_of_le q)]; exact rb
     have y9 : grow s.count s.b = s.count ++ List.replicate (s.b - s.count.length + 1) 0:=if_pos q
     have z : ∀ k : Nat,(List.replicate k (0 : Nat)).length = k:=fun k=>List.length_replicate
     clear hc i1 i2 i4 hk gl q rb
     rw [y9] at y5 y6 r2 ⊢
     rw [List.length_append,z] at y6 r2
     (simp +decide only [ja,jb,jc,jg,jh,ji,jj,jm,jo,jp,jq,jv,jy,jG,↓jJ,↓jK,↓jL,↓jM,↓jN,↓jO,↓jP,j7,j8,ke,kF,kM,kN,kO,kP,kQ,kR,kT,kU,kW,qp,qr,qs,qt,qG,qH,qN,qP,qQ,qR,qX,q8,ya,yl,fuelN,yr,yt,yu,yv,yw,yy,yB,yD,yI,yJ,yN,yP,yT,yW,za,zb,zx,zy,zA,zF,xk,xm,xG,xH,xS,xV,xX,x7,wc,wi,wj,wk,wn,Bool.and_self,decide_false,decide_eq_true,↓reduceIte,wo,wq,wO,List.length_append,Nat.reduceAdd,vT, *])
    ·have q' : ¬ (s.count.length : Int)≤(s.b : Int):=zlen q
     have y9 : grow s.count s.b = s.count:=if_neg q
     clear hc i1 i2 i4 hk gl q rb
     rw [y9] at y5 y6 r2 ⊢
     (simp +decide only [ja,jb,jc,jg,jh,ji,jj,jm,jo,jp,jq,jv,jy,jG,↓jJ,↓jK,↓jL,↓jM,↓jN,↓jO,↓jP,j7,j8,ke,kF,kM,kN,kO,kP,kQ,kR,kT,kU,kW,qr,qs,qt,qG,qH,qP,qQ,qR,qX,q8,ya,yl,fuelN,yr,yt,yu,yv,yw,yy,yB,yI,yJ,yN,yP,yW,za,zb,zx,zy,zA,zF,xk,xm,xG,xH,xS,xX,x7,wc,wi,wk,wn,Bool.and_self,decide_false,decide_eq_true,↓reduceIte,wo,wq,wO,Nat.reduceAdd,vT, *])
  ·have c1 : ¬ ([c] : List Nat) = [32]:=fun z=>by
    have : c = 32:=by simpa using z
    subst this; exact absurd hp (by decide)
   have c2 : ¬ ([c] : List Nat) = [9]:=fun z=>by
    have : c = 9:=by simpa using z
    subst this; exact absurd hp (by decide)
   (simp +decide only [jb,je,jh,ji,jj,jm,jo,jp,jy,jC,↓jJ,↓jK,↓jP,kM,kN,kO,kP,kQ,kR,kT,kU,kW,yl,fuelN,yt,yy,zy,xk,xm,xX,wc,decide_false,↓reduceIte, *])
 ·intro j hI
  have e : List.foldl wsSt ⟨[],0,0,0⟩ (List.takeWhile isW x) = wsOf x:=rfl
  rw [e] at hI ⊢
  clear e
  generalize wsOf x = w at *
  refine e0a4 (hI) fun i1 i2 i3 i4=>?_
  have : (List.takeWhile isW x).length≤x.length:=(List.takeWhile_sublist _).length_le
  have g1:=natsD_len
  have r1 : w.count.length≤lim:=Nat.le_trans i2 (Nat.le_trans this hl')
  unfold wsU wsF
  refine nextOk_of (by (simp +decide only [ja,jb,jc,jg,ji,jj,jk,jo,jp,ju,jG,↓jL,↓jM,j3,j9,ka,ke,kf,kF,kI,kM,kN,kO,kP,kQ,kR,kT,kU,kW,qa,qG,qL,qO,qP,qQ,qR,ya,fuelN,yr,yt,yu,yv,yy,yz,yB,yE,yJ,yO,yP,yU,zm,zn,xd,xe,xg,xh,xi,xk,xm,xS,x5,Bool.and_self,decide_eq_true,↓reduceIte,wo,wp,wq,wG,wO,wX,vm,vn,vo,vq,List.length_cons,List.length_nil,Nat.reduceAdd,vT,vY, *]) <;> rfl) ?_
  clear i1 i2 i4 this
  (simp +decide only [j3, *])
theorem mtm_longest_run_of_spaces (x : List Nat) : mtT TT (wsD x) (ofString "longest_run_of_spaces") = some (.ref 126,[wsD x]):=rfl
theorem mtm_indent_level (x : List Nat) : mtT TT (wsD x) (ofString "indent_level") = some (.ref 133,[wsD x]):=rfl
theorem mtm_equal (x : List Nat) : mtT TT (wsD x) (ofString "equal") = some (.ref 140,[wsD x]):=rfl
theorem mtm_new (x : List Nat) : mtT TT (wsD x) (ofString "not_equal_witness") = some (.ref 147,[wsD x]):=rfl
theorem mtm_less (x : List Nat) : mtT TT (wsD x) (ofString "less") = some (.ref 154,[wsD x]):=rfl
theorem mtm_nlw (x : List Nat) : mtT TT (wsD x) (ofString "not_less_witness") = some (.ref 161,[wsD x]):=rfl
theorem atw_norm (x : List Nat) : attT TT (wsD x) (ofString "norm") = some (.tup [.tup (natsD (wsOf x).count),.int ((wsOf x).b : Int)]):=rfl
theorem atw_n (x : List Nat) : attT TT (wsD x) (ofString "n") = some (.int ((wsOf x).n : Int)):=rfl
theorem atw_nt (x : List Nat) : attT TT (wsD x) (ofString "nt") = some (.int ((wsOf x).nt : Int)):=rfl
theorem atw_is_simple (x : List Nat) : attT TT (wsD x) (ofString "is_simple") = some (.bool (decide (((wsOf x).count.length : Int)≤1))):=rfl
theorem wsJ_fold : ∀ (l : List Nat) (k : Nat) (s : Ws),WsJ k s→WsJ (k + l.length) (l.foldl wsSt s)
 | [],k,s,h=>h
 | c :: l,k,s,h=>by rw [List.foldl_cons,List.length_cons,sa]; exact wsJ_fold l _ _ (wsJ_step h)
theorem wsJ_of (x : List Nat) : WsJ (x.takeWhile isW).length (wsOf x):=by
 have:=wsJ_fold (x.takeWhile isW) 0 ⟨[],0,0,0⟩ ⟨Nat.le_refl _,Nat.le_refl _,rfl,Nat.le_refl _⟩
 rwa [Nat.zero_add] at this
theorem tw_len (x : List Nat) : (x.takeWhile isW).length≤x.length:=(List.takeWhile_sublist _).length_le
theorem ws_bounds {x : List Nat} (hl : x.length≤100000) : (wsOf x).b≤100000∧(wsOf x).count.length≤100000∧(wsOf x).n≤100000∧(wsOf x).nt≤100000:=by
 have k:=Nat.le_trans (tw_len x) hl
 exact e0a4 (wsJ_of x) fun h1 h2 h3 h4=>⟨Nat.le_trans h1 k,Nat.le_trans h2 k,Nat.le_trans (Nat.le_of_eq h3) k,Nat.le_trans h4 k⟩
noncomputable def longN (w : Ws) : Nat:=max (w.count.length - 1) w.b
theorem max_if (a b : Nat) : (if (b : Int) > (a : Int) then (b : Int) else (a : Int)) = ((max a b : Nat) : Int):=by
 by_cases h : a < b
 ·rw [if_pos (zl h)]; exact ze (Nat.max_eq_right (Nat.le_of_lt h)).symm
 ·rw [if_neg (zln h)]; exact ze (Nat.max_eq_left (Nat.not_lt.mp h)).symm
theorem max_long (c b : Nat) : (if (b : Int) > (c : Int) - 1 then (b : Int) else (c : Int) - 1) = ((max (c - 1) b : Nat) : Int):=by
 induction c using Nat.casesOn with
 | zero=>rw [if_pos (show (b : Int) > ((0 : Nat) : Int) - 1 from Int.lt_of_lt_of_le (by decide) (Int.natCast_nonneg b))]; exact ze (Nat.max_eq_right (Nat.zero_le b)).symm
 | succ m=>rw [show ((m + 1 : Nat) : Int) - 1 = (m : Int) from Int.add_sub_cancel m 1]; exact max_if m b
theorem c_longest (n : Nat) (x : List Nat) (hl : x.length≤100000) : (PT (n + 1)).fn (.ref 126) [wsD x] [] = some (.int ((longN (wsOf x) : Nat) : Int)):=by
 (refine (fn_df rfl rfl).trans ?_; refine run_ex fun sc b g1 g2=>?_; (conv at g1=>(lhs; whnf)); (conv at g2=>(lhs; whnf)); subst g1 g2)
 refine e0a4 (ws_bounds hl) fun h1 h2 h3 h4=>?_
 have e1:=atw_norm x
 have g1:=natsD_len
 have h5 : (wsOf x).count.length≤lim:=Nat.le_trans h2 (by decide)
 have h6 : (2 : Nat)≤lim:=by decide
 have e2 : maxD [.int (((wsOf x).count.length : Int) - 1),.int ((wsOf x).b : Int)] = some (.int ((longN (wsOf x) : Nat) : Int)):=by
  exact congrArg (fun z=>some (D.int z)) (max_long (wsOf x).count.length (wsOf x).b)
 clear h1 h2 h3 h4
 (simp +decide only [jb,jc,jd,jg,ji,jj,jn,jr,jB,jG,↓jH,↓jI,↓jJ,j3,j6,j7,kv,ky,kR,qm,qn,qG,qH,qP,qQ,qR,qT,ya,fuelN,yr,yt,yv,yw,yB,yF,yJ,yN,yP,yU,yX,zg,zX,zY,zZ,xj,uo,xS,rho0,bindsD,List.reverse_cons,List.reverse_nil,List.nil_append,↓reduceIte,wo,wq,wt,wQ,vi,List.length_cons,List.length_nil,Nat.reduceAdd,vT,vU, *])
theorem c_equal (n : Nat) (x y : List Nat) : (PT (n + 1)).fn (.ref 140) [wsD x,wsD y] [] = some (.bool (decide ((wsOf x).count = (wsOf y).count) && decide ((wsOf x).b = (wsOf y).b))):=by
 (refine (fn_df rfl rfl).trans ?_; refine run_ex fun sc b g1 g2=>?_; (conv at g1=>(lhs; whnf)); (conv at g2=>(lhs; whnf)); subst g1 g2)
 have e1:=atw_norm x
 have e2:=atw_norm y
 have e3 : eqD 8 (.tup [.tup (natsD (wsOf x).count),.int ((wsOf x).b : Int)]) (.tup [.tup (natsD (wsOf y).count),.int ((wsOf y).b : Int)]) = some (decide ((wsOf x).count = (wsOf y).count) && decide ((wsOf x).b = (wsOf y).b)):=by
  show eqLD (eqD 7) [.tup (natsD (wsOf x).count),.int ((wsOf x).b : Int)] [.tup (natsD (wsOf y).count),.int ((wsOf y).b : Int)] = _
  have e4 : eqD 7 (.tup (natsD (wsOf x).count)) (.tup (natsD (wsOf y).count)) = some (decide ((wsOf x).count = (wsOf y).count)):=by
   show eqLD (eqD 6) _ _ = _
   unfold natsD
   refine eqLD_any (f:=fun k : Nat=>D.int (k : Int)) (fun a b=>?_) _ _
   rw [eqD_int]; exact congrArg some (decide_eq_decide.mpr Int.ofNat_inj)
  show o2 _ (eqD 7 (.tup (natsD (wsOf x).count)) (.tup (natsD (wsOf y).count))) (some (decide (((wsOf x).b : Int) = ((wsOf y).b : Int)) && true)) = _
  rw [e4]
  show some (_ && _) = _
  congr 2
  rw [Bool.and_true]; exact decide_eq_decide.mpr Int.ofNat_inj
 (simp +decide only [jb,jd,jg,ji,jj,jB,↓jH,↓jI,j3,j4,qL,qT,fuelN,yy,yz,yF,yO,zg,xj,xX,rho0,bindsD,List.reverse_cons,List.reverse_nil,List.nil_append,List.cons_append,vi, *])
noncomputable def ilI (count : List Nat) (ts : Nat) : Nat:=((List.range (count.length - ts)).map fun i=>(ts + i) / ts * (count[ts + i]?.getD 0)).sum
noncomputable def levI (w : Ws) (ts : Nat) : Nat:=w.b + ts * (ilI w.count ts + w.nt)
theorem count_le : ∀ (l : List Nat) (k : Nat) (s : Ws),(∀ v∈s.count,v≤k)→∀ v∈(l.foldl wsSt s).count,v≤k + l.length
 | [],k,s,h=>h
 | c :: l,k,s,h=>by
  rw [List.foldl_cons,List.length_cons,sa]
  refine count_le l _ _ fun v hv=>?_
  unfold wsSt at hv
  split at hv
  ·exact Nat.le_succ_of_le (h v hv)
  ·have hv : v∈bump s.count s.b:=hv
   unfold bump at hv
   have gr : ∀ v∈grow s.count s.b,v≤k:=fun v hv=>by
    unfold grow at hv
    split at hv
    ·rcases List.mem_append.mp hv with z | z
     ·exact h v z
     ·rw [(List.mem_replicate.mp z).2]; exact Nat.zero_le _
    ·exact h v hv
   rcases List.mem_or_eq_of_mem_set hv with z | z
   ·exact Nat.le_succ_of_le (gr v z)
   ·rw [z]
    have gl:=grow_len (l:=s.count) (b:=s.b)
    rw [List.getElem?_eq_getElem gl.1]
    have:=gr _ (List.getElem_mem gl.1)
    show _ + 1≤_
    exact Nat.succ_le_succ this
theorem count_bound {x : List Nat} (hl : x.length≤100000) {i : Nat} : ((wsOf x).count[i]?.getD 0)≤100000:=by
 have h:=count_le (x.takeWhile isW) 0 ⟨[],0,0,0⟩ fun v hv=>(nomatch hv)
 have:=tw_len x
 generalize q : (wsOf x).count[i]? = r_; induction r_ using Option.casesOn with
 | none=>exact Nat.zero_le _
 | some v =>
  rw [Nat.zero_add] at h
  exact Nat.le_trans (h v (List.mem_of_getElem? q)) (Nat.le_trans this hl)
theorem rng_nat (a b : Nat) : (rngL (a : Int) (b : Int) 1).map D.int = (List.range (b - a)).map fun i : Nat=>D.int ((a + i : Nat) : Int):=by
 unfold rngL
 rw [if_pos rfl,List.map_map,Int.toNat_sub]
 rfl
theorem foldl_sum (f : Nat→Nat) : ∀ (l : List Nat) (s : Nat),l.foldl (fun s i=>s + f i) s = s + (l.map f).sum
 | [],s=>by simp
 | a :: l,s=>by rw [List.foldl_cons,foldl_sum f l,List.map_cons,List.sum_cons,Nat.add_assoc]
noncomputable def ilU (s : Nat) (j : Option D) : List (Str×LV):=[("il",.fz (.int (s : Int))),("i",LJ j)]
theorem big_val : big = 1267650600228229401496703205376:=rfl
theorem lt_big {a : Nat} (h : a≤1000000000000000000000) : (a : Int) < big:=Int.lt_of_le_of_lt (zle h) (by decide +kernel)
theorem c_indent (n : Nat) (x : List Nat) (ts : Nat) (hl : x.length≤100000) (h1 : 1≤ts) (h2 : ts≤200000) : (PT (n + 1)).fn (.ref 133) [wsD x,.int (ts : Int)] [] = some (.int ((levI (wsOf x) ts : Nat) : Int)):=by
 (refine (fn_df rfl rfl).trans ?_; refine run_ex fun sc b g1 g2=>?_; (conv at g1=>(lhs; whnf)); (conv at g2=>(lhs; whnf)); subst g1 g2)
 refine e0a4 (ws_bounds hl) fun b1 b2 b3 b4=>?_
 have e1:=atw_norm x
 have e2:=atw_nt x
 have g1:=natsD_len
 have h5 : (wsOf x).count.length≤lim:=Nat.le_trans b2 (by decide)
 have h6 : (2 : Nat)≤lim:=by decide
 have h7 : (-1000000 : Int)≤(ts : Int)∧(ts : Int)≤1000000∧(-1000000 : Int)≤((wsOf x).count.length : Int)∧((wsOf x).count.length : Int)≤1000000:=⟨zlo ts,zle (Nat.le_trans h2 (by decide)),zlo _,zle h5⟩
 have h8:=rng_nat ts (wsOf x).count.length
 (simp +decide only [jb,jc,jg,ji,jj,jn,jq,jr,jz,jG,↓jH,↓jI,↓jJ,j3,j4,j9,ka,kx,kC,kR,kT,kU,qn,qo,qp,qG,qP,qQ,qR,qT,ya,fuelN,yr,yv,yB,yF,yJ,yN,yP,yU,yV,yW,yX,zd,zf,zF,zX,zY,zZ,xS,wi,rho0,bindsD,List.reverse_cons,List.reverse_nil,List.nil_append,List.cons_append,↓reduceIte,wo,wp,wq,wE,wQ,wW,vg,vi,List.length_cons,List.length_nil,Int.reduceNeg,Nat.reduceAdd,and_self,vT,vX, *])
 refine outD_of (nx_forU (fun i : Nat=>D.int ((ts + i : Nat) : Int)) (List.range ((wsOf x).count.length - ts)) (fun s i=>s + (ts + i) / ts * ((wsOf x).count[ts + i]?.getD 0)) ilU (fun k s=>s≤k * (200000 * 100000)) 0 none ?_ (Nat.zero_le _) ?_ ?_)
 ·unfold ilU; (simp +decide only [jl,kM,kN,kR,yt,xk,xm,xH, *])
 ·intro k s j i hi hs
  have hi' : i < (wsOf x).count.length - ts:=by
   have:=List.mem_of_getElem? hi
   simpa using this
  have hti : ts + i < (wsOf x).count.length:=Nat.add_lt_of_lt_sub' hi'
  have q1 : (ts + i) / ts≤200000:=Nat.le_trans (Nat.div_le_self _ _) (Nat.le_trans (Nat.le_of_lt hti) (Nat.le_trans b2 (by decide)))
  have q2:=count_bound hl (i:=ts + i)
  refine ⟨?_,?_⟩
  ·have:=Nat.mul_le_mul q1 q2
   show s + _≤_
   rw [Nat.add_mul,Nat.one_mul]; exact Nat.add_le_add hs this
  ·have y1:=n_div (a:=ts + i) (k:=ts) h1 (Nat.lt_of_le_of_lt h2 (by decide))
   have y2:=idxT_nats (l:=(wsOf x).count) (b:=ts + i) hti h5
   have y3:=n_mul (a:=(ts + i) / ts) (k:=(wsOf x).count[ts + i]?.getD 0) (lt_big (Nat.le_trans q1 (by decide))) (lt_big (Nat.le_trans q2 (by decide)))
   clear hti q1 q2 hi hi' hs h1 h2 b1 b2 b3 b4 h7
   unfold ilU
   refine ⟨_,by (simp +decide only [kM,kN,kR,qr,yt,zV,xk,xm, *]) <;> rfl,some (.int ((ts + i : Nat) : Int)),.inl ?_⟩
   (simp +decide only [ja,jb,jc,jg,ji,jj,jm,jq,↓jI,↓jJ,↓jL,↓jM,kM,kN,kR,qp,qH,qX,fuelN,yt,yw,yI,yN,yP,yW,zA,xk,xm,xn,wk,Nat.reduceAdd, *])
 ·intro j hs
  have e : List.foldl (fun s i=>s + (ts + i) / ts * ((wsOf x).count[ts + i]?.getD 0)) 0 (List.range ((wsOf x).count.length - ts)) = ilI (wsOf x).count ts:=by
   rw [foldl_sum,Nat.zero_add]; rfl
  rw [e] at hs ⊢
  rw [List.length_range] at hs
  have y3:=n_mul (a:=ts) (k:=ilI (wsOf x).count ts + (wsOf x).nt) (lt_big (Nat.le_trans h2 (by decide))) (lt_big (Nat.le_trans (Nat.add_le_add (Nat.le_trans hs (Nat.mul_le_mul_right _ (Nat.le_trans (Nat.sub_le _ _) b2))) b4) (by decide)))
  clear hs h1 h2 b1 b2 b3 b4 h7 e h8
  unfold ilU levI
  (simp +decide only [jb,jd,jg,ji,jj,jk,jB,↓jH,↓jI,↓jK,↓jL,kM,kN,kR,qH,qT,fuelN,yt,yw,yF,yP,zg,xk,xm,xn,vi,Nat.reduceAdd, *])
noncomputable def T3n (p : Nat×Nat×Nat) : D:=.tup [.int (p.1 : Int),.int (p.2.1 : Int),.int (p.2.2 : Int)]
noncomputable def topN (x y : List Nat) : Nat:=max (longN (wsOf x)) (longN (wsOf y)) + 1
noncomputable def witN (p : Nat→Nat→Bool) (x y : List Nat) : List (Nat×Nat×Nat):=((List.range (topN x y)).filter fun i=>p (levI (wsOf x) (i + 1)) (levI (wsOf y) (i + 1))).map fun i=>(i + 1,levI (wsOf x) (i + 1),levI (wsOf y) (i + 1))
theorem foldl_filter {α β : Type} (p : α→Bool) (g : α→β) : ∀ (l : List α) (s : List β),l.foldl (fun s i=>if p i = true then s ++ [g i] else s) s = s ++ (l.filter p).map g
 | [],s=>by simp
 | a :: l,s=>by
  rw [List.foldl_cons,foldl_filter p g l]
  by_cases h : p a = true
  ·rw [if_pos h,List.filter_cons_of_pos h,List.map_cons,List.append_assoc]; rfl
  ·rw [if_neg h,List.filter_cons_of_neg h]
theorem rng_1 (b : Nat) : (rngL 1 (b : Int) 1).map D.int = (List.range (b - 1)).map fun i : Nat=>D.int ((i + 1 : Nat) : Int):=by
 have:=rng_nat 1 b
 rw [show ((1 : Nat) : Int) = 1 from rfl] at this
 rw [this]
 refine List.map_congr_left fun i _a=>?_
 rw [Nat.add_comm]
theorem rng_2 (b : Nat) : (rngL 2 (b : Int) 1).map D.int = (List.range (b - 2)).map fun i : Nat=>D.int ((i + 2 : Nat) : Int):=by
 have:=rng_nat 2 b
 rw [show ((2 : Nat) : Int) = 2 from rfl] at this
 rw [this]
 refine List.map_congr_left fun i _a=>?_
 rw [Nat.add_comm]
theorem long_le {x : List Nat} (hl : x.length≤100000) : longN (wsOf x)≤100000:=by
 refine e0a4 (ws_bounds hl) fun h1 h2 h3 h4=>?_
 exact Nat.max_le.mpr ⟨Nat.le_trans (Nat.sub_le _ _) h2,h1⟩
theorem max2_nat (a b : Nat) : maxD [.int (a : Int),.int (b : Int)] = some (.int ((max a b : Nat) : Int)):=by
 exact congrArg (fun z=>some (D.int z)) (max_if a b)
theorem top_le {x y : List Nat} (hx : x.length≤100000) (hy : y.length≤100000) : topN x y + 1≤200000:=Nat.le_trans (Nat.succ_le_succ (Nat.succ_le_succ (Nat.max_le.mpr ⟨long_le hx,long_le hy⟩))) (by decide)
noncomputable def witU (s : List (Nat×Nat×Nat)) (j : Option D) : List (Str×LV):=[("a",.ow (s.map T3n)),("ts",LJ j)]
theorem c_new (n : Nat) (x y : List Nat) (hx : x.length≤100000) (hy : y.length≤100000) : (PT (n + 2)).fn (.ref 147) [wsD x,wsD y] [] = some (.list ((witN (fun a b=>decide (a≠b)) x y).map T3n)):=by
 (refine (fn_df rfl rfl).trans ?_; refine run_ex fun sc b g1 g2=>?_; (conv at g1=>(lhs; whnf)); (conv at g2=>(lhs; whnf)); subst g1 g2)
 have m1:=mtm_longest_run_of_spaces
 have m2:=mtm_indent_level
 have e1:=c_longest n x hx
 have e2:=c_longest n y hy
 have e3:=max2_nat
 have h9 : max (longN (wsOf x)) (longN (wsOf y)) + 1 = topN x y:=rfl
 have h7 : topN x y + 1≤200000:=top_le hx hy
 have h7a : (-1000000 : Int)≤((topN x y + 1 : Nat) : Int):=zlo _
 have h7b : ((topN x y + 1 : Nat) : Int)≤1000000:=zle (Nat.le_trans h7 (by decide))
 have h8:=rng_1 (topN x y + 1)
 rw [show topN x y + 1 - 1 = topN x y from rfl] at h8
 (simp +decide only [jb,jc,jg,ji,jj,jn,jo,jq,jz,jG,↓jH,↓jI,↓jJ,j3,j4,j8,j9,kx,kA,kR,kT,qn,qo,qG,qH,qN,qP,qQ,qR,q9,ya,fuelN,yr,yv,yw,yB,yD,yJ,yN,yP,yT,yV,yW,zd,zf,zj,zk,zA,zH,xG,xS,wj,wk,rho0,bindsD,List.reverse_cons,List.reverse_nil,List.nil_append,List.cons_append,↓reduceIte,wo,wp,wt,wE,wW,vg,vh,Int.reduceNeg,Nat.reduceAdd,and_self,vU,vX, *])
 refine outD_of (nx_forU (fun i : Nat=>D.int ((i + 1 : Nat) : Int)) (List.range (topN x y)) (fun s i=>if (fun i=>decide (levI (wsOf x) (i + 1)≠levI (wsOf y) (i + 1))) i = true then s ++ [(fun i=>(i + 1,levI (wsOf x) (i + 1),levI (wsOf y) (i + 1))) i] else s) witU (fun k s=>s.length≤k) [] none ?_ (Nat.le_refl _) ?_ ?_)
 ·unfold witU; (simp +decide only [jl,kL,kM,kR,yt,xk,xm,List.map_nil, *])
 ·intro k s j i hi hs
  have hi' : i < topN x y:=by
   have:=List.mem_of_getElem? hi
   simpa using this
  have hk : k < topN x y:=by
   have:=(List.getElem?_eq_some_iff.mp hi).1
   simpa using this
  have h7':=Nat.le_of_succ_le h7
  have hl : s.length≤lim:=Nat.le_trans hs (Nat.le_trans (Nat.le_of_lt hk) (Nat.le_trans h7' (by decide)))
  have y1:=c_indent n x (i + 1) hx (Nat.le_add_left 1 i) (Nat.le_trans hi' h7')
  have y2:=c_indent n y (i + 1) hy (Nat.le_add_left 1 i) (Nat.le_trans hi' h7')
  have h3 : (3 : Nat)≤lim:=by decide
  refine ⟨?_,_,by unfold witU; (simp +decide only [kL,kM,kR,qp,yt,zV,xk,xm, *]) <;> rfl,some (.int ((i + 1 : Nat) : Int)),.inl ?_⟩
  ·dsimp only
   split
   ·rw [List.length_append]; exact Nat.succ_le_succ hs
   ·exact Nat.le_succ_of_le hs
  ·clear hi hi' hk hs h7' h7 h7a h7b h8 h9 e1 e2 e3
   unfold witU T3n
   by_cases q : levI (wsOf x) (i + 1)≠levI (wsOf y) (i + 1)
   ·have q' : ¬ (((levI (wsOf x) (i + 1) : Nat) : Int) = ((levI (wsOf y) (i + 1) : Nat) : Int)):=zne q
    have q2 : decide (levI (wsOf x) (i + 1)≠levI (wsOf y) (i + 1)) = true:=decide_eq_true q
    clear q
    (simp +decide only [ja,jb,jc,jg,jh,ji,jj,jm,jo,jx,jy,↓jH,↓jI,↓jL,j6,kL,kM,kR,qO,qP,qQ,qR,q9,List.length_map,yl,fuelN,yt,yy,yB,yE,yU,zj,zk,zv,zw,zx,xk,xm,List.map_append,List.map_cons,List.map_nil,xY,wb,Bool.not_false,List.nil_append,List.cons_append,decide_false,↓reduceIte,vh,Nat.reduceAdd, *])
   ·have q' : ((((levI (wsOf x) (i + 1) : Nat) : Int) = ((levI (wsOf y) (i + 1) : Nat) : Int))):=ze (Decidable.not_not.mp q)
    have q2 : decide (levI (wsOf x) (i + 1)≠levI (wsOf y) (i + 1)) = false:=decide_eq_false q
    clear q
    (simp +decide only [ja,jb,jc,jh,ji,jj,jm,jo,jy,↓jH,↓jI,↓jL,kL,kM,kR,qP,qQ,qR,q9,yl,fuelN,yt,yy,yB,zj,zk,zv,zy,xk,xm,xY,wb,Bool.not_true,reduceCtorEq,List.nil_append,List.cons_append,decide_eq_true,↓reduceIte,vh,Nat.reduceAdd, *])
 ·intro j hs
  rw [foldl_filter (fun i=>decide (levI (wsOf x) (i + 1)≠levI (wsOf y) (i + 1))) (fun i=>(i + 1,levI (wsOf x) (i + 1),levI (wsOf y) (i + 1)))]
  clear hs h7 h7a h7b h8 h9 e1 e2 e3
  unfold witU witN
  (simp +decide only [jb,jd,jg,ji,jj,jk,jo,jB,j6,kL,kM,kR,qG,fuelN,yr,yt,yu,yT,zg,xk,xm,List.nil_append,↓reduceIte,Nat.reduceAdd, *])
theorem c_nlw (n : Nat) (x y : List Nat) (hx : x.length≤100000) (hy : y.length≤100000) : (PT (n + 2)).fn (.ref 161) [wsD x,wsD y] [] = some (.list ((witN (fun a b=>decide (b≤a)) x y).map T3n)):=by
 (refine (fn_df rfl rfl).trans ?_; refine run_ex fun sc b g1 g2=>?_; (conv at g1=>(lhs; whnf)); (conv at g2=>(lhs; whnf)); subst g1 g2)
 have m1:=mtm_longest_run_of_spaces
 have m2:=mtm_indent_level
 have e1:=c_longest n x hx
 have e2:=c_longest n y hy
 have e3:=max2_nat
 have h9 : max (longN (wsOf x)) (longN (wsOf y)) + 1 = topN x y:=rfl
 have h7 : topN x y + 1≤200000:=top_le hx hy
 have h7a : (-1000000 : Int)≤((topN x y + 1 : Nat) : Int):=zlo _
 have h7b : ((topN x y + 1 : Nat) : Int)≤1000000:=zle (Nat.le_trans h7 (by decide))
 have h8:=rng_1 (topN x y + 1)
 rw [show topN x y + 1 - 1 = topN x y from rfl] at h8
 (simp +decide only [jb,jc,jg,ji,jj,jn,jo,jq,jz,jG,↓jH,↓jI,↓jJ,j3,j4,j8,j9,kx,kA,kR,kT,qn,qo,qG,qH,qN,qP,qQ,qR,q9,ya,fuelN,yr,yv,yw,yB,yD,yJ,yN,yP,yT,yV,yW,zd,zf,zj,zk,zA,zH,xG,xS,wj,wk,rho0,bindsD,List.reverse_cons,List.reverse_nil,List.nil_append,List.cons_append,↓reduceIte,wo,wp,wt,wE,wW,vg,vh,Int.reduceNeg,Nat.reduceAdd,and_self,vU,vX, *])
 refine outD_of (nx_forU (fun i : Nat=>D.int ((i + 1 : Nat) : Int)) (List.range (topN x y)) (fun s i=>if (fun i=>decide (levI (wsOf y) (i + 1)≤levI (wsOf x) (i + 1))) i = true then s ++ [(fun i=>(i + 1,levI (wsOf x) (i + 1),levI (wsOf y) (i + 1))) i] else s) witU (fun k s=>s.length≤k) [] none ?_ (Nat.le_refl _) ?_ ?_)
 ·unfold witU; (simp +decide only [jl,kL,kM,kR,yt,xk,xm,List.map_nil, *])
 ·intro k s j i hi hs
  have hi' : i < topN x y:=by
   have:=List.mem_of_getElem? hi
   simpa using this
  have hk : k < topN x y:=by
   have:=(List.getElem?_eq_some_iff.mp hi).1
   simpa using this
  have h7':=Nat.le_of_succ_le h7
  have hl : s.length≤lim:=Nat.le_trans hs (Nat.le_trans (Nat.le_of_lt hk) (Nat.le_trans h7' (by decide)))
  have y1:=c_indent n x (i + 1) hx (Nat.le_add_left 1 i) (Nat.le_trans hi' h7')
  have y2:=c_indent n y (i + 1) hy (Nat.le_add_left 1 i) (Nat.le_trans hi' h7')
  have h3 : (3 : Nat)≤lim:=by decide
  refine ⟨?_,_,by unfold witU; (simp +decide only [kL,kM,kR,qp,yt,zV,xk,xm, *]) <;> rfl,some (.int ((i + 1 : Nat) : Int)),.inl ?_⟩
  ·dsimp only
   split
   ·rw [List.length_append]; exact Nat.succ_le_succ hs
   ·exact Nat.le_succ_of_le hs
  ·clear hi hi' hk hs h7' h7 h7a h7b h8 h9 e1 e2 e3
   unfold witU T3n
   by_cases q : levI (wsOf y) (i + 1)≤levI (wsOf x) (i + 1)
   ·have q' : ((levI (wsOf y) (i + 1) : Nat) : Int)≤((levI (wsOf x) (i + 1) : Nat) : Int):=zle q
    have q2 : decide (levI (wsOf y) (i + 1)≤levI (wsOf x) (i + 1)) = true:=decide_eq_true q
    clear q
    (simp +decide only [ja,jb,jc,jg,jh,ji,jj,jm,jo,jx,jy,↓jH,↓jI,↓jL,j6,kL,kM,kR,qO,qP,qQ,qR,q9,List.length_map,yl,fuelN,yt,yy,yB,yE,yU,zj,zk,zw,zx,xk,xm,List.map_append,List.map_cons,List.map_nil,x7,List.nil_append,List.cons_append,decide_eq_true,↓reduceIte,vh,Nat.reduceAdd, *])
   ·have q' : ¬ (((levI (wsOf y) (i + 1) : Nat) : Int)≤((levI (wsOf x) (i + 1) : Nat) : Int)):=zlen q
    have q2 : decide (levI (wsOf y) (i + 1)≤levI (wsOf x) (i + 1)) = false:=decide_eq_false q
    clear q
    (simp +decide only [ja,jb,jc,jh,ji,jj,jm,jo,jy,↓jH,↓jI,↓jL,kL,kM,kR,qP,qQ,qR,q9,yl,fuelN,yt,yy,yB,zj,zk,zy,xk,xm,x7,reduceCtorEq,List.nil_append,List.cons_append,decide_false,↓reduceIte,vh,Nat.reduceAdd, *])
 ·intro j hs
  rw [foldl_filter (fun i=>decide (levI (wsOf y) (i + 1)≤levI (wsOf x) (i + 1))) (fun i=>(i + 1,levI (wsOf x) (i + 1),levI (wsOf y) (i + 1)))]
  clear hs h7 h7a h7b h8 h9 e1 e2 e3
  unfold witU witN
  (simp +decide only [jb,jd,jg,ji,jj,jk,jo,jB,j6,kL,kM,kR,qG,fuelN,yr,yt,yu,yT,zg,xk,xm,List.nil_append,↓reduceIte,Nat.reduceAdd, *])
noncomputable def lessB (x y : List Nat) : Bool :=
 if (wsOf y).n≤(wsOf x).n then false
 else if (wsOf x).count.length≤1∧(wsOf y).count.length≤1 then decide ((wsOf x).nt≤(wsOf y).nt)
 else !((List.range (topN x y - 1)).any fun i=>decide (levI (wsOf y) (i + 2)≤levI (wsOf x) (i + 2)))
noncomputable def tsU (j : Option D) : List (Str×LV):=[("ts",LJ j)]
theorem c_less (n : Nat) (x y : List Nat) (hx : x.length≤100000) (hy : y.length≤100000) : (PT (n + 2)).fn (.ref 154) [wsD x,wsD y] [] = some (.bool (lessB x y)):=by
 (refine (fn_df rfl rfl).trans ?_; refine run_ex fun sc b g1 g2=>?_; (conv at g1=>(lhs; whnf)); (conv at g2=>(lhs; whnf)); subst g1 g2)
 have m1:=mtm_longest_run_of_spaces
 have m2:=mtm_indent_level
 have a1:=atw_n
 have a2:=atw_nt
 have a3:=atw_is_simple
 unfold lessB
 by_cases q1 : (wsOf y).n≤(wsOf x).n
 ·have q1' : ((wsOf y).n : Int)≤((wsOf x).n : Int):=zle q1
  rw [if_pos q1]
  clear q1
  (simp +decide only [jb,jd,jg,jh,ji,jj,jn,jy,jB,jG,↓jH,↓jI,j3,j4,kx,qT,yl,fuelN,yy,yF,yO,zg,zx,xj,xR,x7,rho0,bindsD,List.reverse_cons,List.reverse_nil,List.nil_append,List.cons_append,decide_eq_true,vi, *])
 have q1' : ¬ ((wsOf y).n : Int)≤((wsOf x).n : Int):=zlen q1
 rw [if_neg q1]
 clear q1
 by_cases q2 : (wsOf x).count.length≤1∧(wsOf y).count.length≤1
 ·have q3 : ((wsOf x).count.length : Int)≤1:=zle q2.1
  have q4 : ((wsOf y).count.length : Int)≤1:=zle q2.2
  have q5 : decide ((wsOf x).nt≤(wsOf y).nt) = decide (((wsOf x).nt : Int)≤((wsOf y).nt : Int)):=by
   exact decide_eq_decide.mpr Int.ofNat_le.symm
  rw [if_pos q2,q5]
  clear q2 q5
  (simp +decide only [ja,jb,jc,jd,jg,jh,ji,jj,jn,jy,jB,↓jH,↓jI,j3,j4,kx,qL,qT,yd,ye,yg,yk,yl,yq,fuelN,yy,yz,yF,yK,yO,zg,zx,zy,xj,x5,x7,we,rho0,bindsD,List.reverse_cons,List.reverse_nil,List.nil_append,List.cons_append,decide_false,decide_eq_true,vi,Nat.reduceAdd, *])
 rw [if_neg q2]
 have q3 : (decide (((wsOf x).count.length : Int)≤1) && decide (((wsOf y).count.length : Int)≤1)) = false:=by
  rw [Bool.and_eq_false_iff,decide_eq_false_iff_not,decide_eq_false_iff_not]; exact (Decidable.not_and_iff_not_or_not.mp q2).imp zlen zlen
 have q4 : oAll .And (some (decide (((wsOf x).count.length : Int)≤1))) (some (decide (((wsOf y).count.length : Int)≤1))) = some false:=by rw [ut,q3]
 have e1:=c_longest n x hx
 have e2:=c_longest n y hy
 have e3:=max2_nat
 have h9 : max (longN (wsOf x)) (longN (wsOf y)) + 1 = topN x y:=rfl
 have h7 : topN x y + 1≤200000:=top_le hx hy
 have h7a : (-1000000 : Int)≤((topN x y + 1 : Nat) : Int):=zlo _
 have h7b : ((topN x y + 1 : Nat) : Int)≤1000000:=zle (Nat.le_trans h7 (by decide))
 have h8:=rng_2 (topN x y + 1)
 rw [show topN x y + 1 - 2 = topN x y - 1 from Nat.add_sub_add_right (topN x y) 1 1] at h8
 clear q2 q3
 (simp +decide only [ja,jb,jc,jg,jh,ji,jj,jn,jq,jy,jz,jG,↓jH,↓jI,↓jJ,j3,j4,j7,j8,kx,kz,kR,qn,qG,qH,qP,qQ,qR,qT,q9,ya,yd,ye,yg,yk,yl,yq,fuelN,yr,yv,yw,yy,yB,yF,yJ,yK,yN,yP,yV,yW,zd,zf,zj,zk,zy,zA,xG,xS,x7,we,wk,rho0,bindsD,List.reverse_cons,List.reverse_nil,List.nil_append,List.cons_append,decide_false,↓reduceIte,wo,wp,wt,wE,wW,vg,vh,vi,Int.reduceNeg,Nat.reduceAdd,and_self,vU,vX, *])
 refine outD_of (nx_forS (fun i : Nat=>D.int ((i + 2 : Nat) : Int)) (List.range (topN x y - 1)) (fun i=>decide (levI (wsOf y) (i + 2)≤levI (wsOf x) (i + 2))) tsU (.bool false) none ?_ ?_ ?_ ?_)
 ·unfold tsU; (simp +decide only [jl,kL,yt,xk,xm, *])
 ·intro j i hi
  have hi' : i < topN x y - 1:=by simpa using hi
  have h7':=Nat.le_trans (Nat.succ_le_succ hi') (Nat.le_trans (Nat.succ_le_succ (Nat.sub_le _ _)) h7)
  have y1:=c_indent n x (i + 2) hx (Nat.le_add_left 1 _) h7'
  have y2:=c_indent n y (i + 2) hy (Nat.le_add_left 1 _) h7'
  clear h7'
  refine ⟨_,by unfold tsU; (simp +decide only [kL,qo,yt,zV,xk,xm, *]) <;> rfl,fun hp=>?_,fun hp=>⟨some (.int ((i + 2 : Nat) : Int)),?_⟩⟩
  ·have q' : ((levI (wsOf y) (i + 2) : Nat) : Int)≤((levI (wsOf x) (i + 2) : Nat) : Int):=zle (of_decide_eq_true hp)
   clear hi hi' hp h7 h7a h7b h8 h9 e1 e2 e3
   (simp +decide only [jb,jd,jg,jh,ji,jj,jy,jB,jG,↓jH,↓jI,↓jK,qP,qQ,qR,q9,yl,fuelN,yy,yB,yO,zg,zj,zk,zx,xR,x7,List.nil_append,List.cons_append,decide_eq_true,vh, *])
  ·have q' : ¬ ((levI (wsOf y) (i + 2) : Nat) : Int)≤((levI (wsOf x) (i + 2) : Nat) : Int):=zlen (of_decide_eq_false hp)
   clear hi hi' hp h7 h7a h7b h8 h9 e1 e2 e3
   unfold tsU
   (simp +decide only [ja,jb,jc,jh,ji,jj,jm,jy,↓jH,↓jI,↓jK,kL,qP,qQ,qR,q9,yl,fuelN,yt,yy,yB,zj,zk,zy,xk,xm,x7,List.nil_append,List.cons_append,decide_false,vh,Nat.reduceAdd, *])
 ·intro hp j
  rw [hp]
  clear hp h7 h7a h7b h8 h9 e1 e2 e3
  unfold tsU
  (simp +decide only [jb,jd,jg,ji,jj,jk,jB,jG,kL,fuelN,yt,yO,zg,xk,xm,xR,Bool.not_false,Nat.reduceAdd, *])
 ·intro hp
  rw [hp]; rfl
noncomputable def wPad : List Nat:=(ofString "Incorrect padding").cps.toList
noncomputable def wAsc : List Nat:=(ofString "string argument should contain only ASCII characters").cps.toList
theorem w_st : (ofString " \t").cps.toList = [32,9]:=by decide +kernel
noncomputable abbrev frs (l : List Env) : List Addr:=l.filterMap (·.frame)
theorem frs_mem {env : Env} {r : List Env} {b : Addr} (h : b∈frs (env :: r)) : env.frame = some b∨b∈frs r:=by
 obtain ⟨e,he,hf⟩:=List.mem_filterMap.mp h
 rcases List.mem_cons.mp he with z | z
 ·exact .inl (z ▸ hf)
 ·exact .inr (List.mem_filterMap.mpr ⟨e,z,hf⟩)
theorem frs_tl {env : Env} {r : List Env} {b : Addr} (h : b∈frs r) : b∈frs (env :: r):=by
 obtain ⟨e,he,hf⟩:=List.mem_filterMap.mp h
 exact List.mem_filterMap.mpr ⟨e,List.mem_cons_of_mem _ he,hf⟩
theorem frs_hd {env : Env} {r : List Env} {b : Addr} (h : env.frame = some b) : b∈frs (env :: r):=List.mem_filterMap.mpr ⟨env,List.mem_cons_self,h⟩
theorem frames_on {base h h' : Heap} : ∀ {l : List Env},h.FunFrames base l→(∀ b∈frs l,∀ o,h.get? b = some o→∃ o',h'.get? b = some o'∧o'.data = o.data)→h'.FunFrames base l
 | [],_,_=>trivial
 | env :: r,⟨h1,⟨L,o,hf,hn,ho,hd⟩,h3⟩,k=>by
  obtain ⟨o',ho',e⟩:=k L (frs_hd hf) o ho
  exact ⟨h1,⟨L,o',hf,hn,ho',fun vs=>e ▸ hd vs⟩,frames_on h3 fun b hb o ho=>k b (frs_tl hb) o ho⟩
section
variable {G : Gd} {l : Nat} {V V' : EvF} {P : Pg} {sc : Scope} {ρ : Rho} {hb : Heap} {env : Env} {c : List CE} {φ : Fz} {s : Shared} {A : Around} {E : Value→Shared→Prop} {outer : List Env} {cls : Value} {msg : List Nat}
structure Frms (G : Gd) (φ : Fz) (s : Shared) (A : Around) (outer : List Env) : Prop where
 st : A.frames = some outer
 fun_ : s.heap.FunFrames G.h outer
 fz : ∀ b∈frs outer,φ b = none
structure Fr1 (G : Gd) (env : Env) (c : List CE) (φ : Fz) (s : Shared) (A : Around) (outer : List Env) : Prop where
 st : A.frames = some (env :: outer)
 lo : env.frame = some env.locals
 fun_ : s.heap.FunFrames G.h outer
 fz : ∀ b∈frs outer,φ b = none
 np : ∀ b∈frs outer,b ∉ privs env c
theorem Fr1.live (F : Fr1 G env c φ s A outer) {b : Addr} (h : b∈frs outer) : ∃ o,s.heap.get? b = some o:=let ⟨o,ho,_⟩:=(F.fun_.mem h).2; ⟨o,ho⟩
theorem Fr1.own (F : Fr1 G env c φ s A outer) (S : St G hb sc env c φ s) : s.heap.FunFrames G.h (env :: outer):=by
 refine ⟨by rw [S.kind]; decide,?_,F.fun_⟩
 refine e1a2 S.vars fun m hn _a=>?_
 obtain ⟨o,es,n,ho,hd,_⟩:=hn
 refine ⟨env.locals,o,F.lo,?_,ho,fun vs q=>by rw [hd] at q; cases q⟩
 generalize q : G.h.get? env.locals = r_; induction r_ using Option.casesOn with
 | none=>rfl
 | some o=>have:=S.g.gnd _ _ q; rw [S.pfz _ List.mem_cons_self] at this; exact no_none this
theorem Fr1.frms (F : Fr1 G env c φ s A outer) (S : St G hb sc env c φ s) : Frms G φ s A (env :: outer):=⟨F.st,F.own S,fun b h=>(frs_mem h).elim (fun z=>by rw [F.lo] at z; rw [← Option.some.inj z]; exact S.pfz _ List.mem_cons_self) (F.fz b)⟩
theorem Fr1.after {c₁ : List CE} {φ₁ : Fz} {s₁ : Shared} (F : Fr1 G env c φ s A outer) (x : SRel env c φ s φ₁ s₁) (p : PV env c s c₁) : Fr1 G env c₁ φ₁ s₁ A outer:=by
 refine ⟨F.st,F.lo,frames_on F.fun_ fun b hb o ho=>⟨o,x.keep b o (F.np b hb) ho,rfl⟩,fun b hb=>?_,fun b hb q=>?_⟩
 ·generalize q : φ₁ b = r_; induction r_ using Option.casesOn with
  | none=>rfl
  | some o =>
   refine e1a1 (F.live hb) fun o' ho'=>?_
   rcases x.new b o q with z | z | z
   ·rw [F.fz b hb] at z; exact no_none z
   ·exact (F.np b hb z).elim
   ·rw [ho'] at z; exact no_some z
 ·refine e1a1 (F.live hb) fun o' ho'=>?_
  rcases p b q with z | z
  ·exact F.np b hb z
  ·rw [ho'] at z; exact no_some z
structure Fly (outer : List Env) (cls : Value) (msg : List Nat) (s : Shared) (v : Value) (s' : Shared) : Prop where
 eq : ∃ h' tk,s' = { s with heap:=h',toks:=tk }
 slots : s.heap.UpToSlots s'.heap
 at_ : ∃ e t tk B,v = .ref e∧(∀ b o,b ∉ frs outer→s.heap.get? b = some o→B.get? b = some o)∧Heap.FlyingW B outer e cls (.ref t) s'.heap∧s'.heap.TupAt t [.str ⟨msg.toArray⟩ tk]∧B.get? t = none
structure RaiseOk (G : Gd) (l : Nat) (f : Value) (ds : List D) (ks : List (Str×D)) (cls : Value) (msg : List Nat) : Prop where
 keep : KeepOk G f
 run : ∀ vs kvs φ s A E outer,Gnd G φ s→Room A l→RepL φ vs ds→RepK φ kvs ks→Frms G φ s A outer→(∀ v s',Fly outer cls msg s v s'→E v s')→wpAny (model G.prog G.w) A (call f vs kvs) (fun _a _a=>False) E s
structure Exc (G : Gd) (env : Env) (outer : List Env) (c : List CE) (cls : Value) (msg : List Nat) (s : Shared) (v : Value) (s' : Shared) : Prop where
 eq : ∃ h' tk,s' = { s with heap:=h',toks:=tk }
 at_ : ∃ e,v = .ref e∧((∃ h tk,(∀ b o,b ∉ privs env c→s.heap.get? b = some o→h.get? b = some o)∧h.FunFrames G.h (env :: outer)∧Heap.MadeExcOf h s'.heap e cls [.str ⟨msg.toArray⟩ tk]) ∨
  (∃ t tk B,(∀ b o,b ∉ privs env c→b ∉ frs outer→s.heap.get? b = some o→B.get? b = some o)∧(∀ b o,b ∉ privs env c→s.heap.get? b = some o→(∀ vs,o.data≠.fields vs)→∃ sl,s'.heap.get? b = some { o with slots:=sl }) ∧
   (Heap.FlyingW B (env :: outer) e cls (.ref t) s'.heap∨Heap.HeldW B (env :: outer) e cls (.ref t) env.locals s'.heap)∧s'.heap.TupAt t [.str ⟨msg.toArray⟩ tk]∧B.get? t = none))
theorem Exc.after {c₁ : List CE} {φ₁ : Fz} {s₁ s' : Shared} {v : Value} (x : SRel env c φ s φ₁ s₁) (p : PV env c s c₁) (y : Exc G env outer c₁ cls msg s₁ v s') : Exc G env outer c cls msg s v s':=by
 have k : ∀ b o,b ∉ privs env c→s.heap.get? b = some o→b ∉ privs env c₁:=fun b o n e q=>by
  rcases p b q with z | z
  ·exact n z
  ·rw [e] at z; exact no_some z
 refine e2a1 x.eq fun h1 t1 e1=>?_
 refine e2a1 y.eq fun h2 t2 e2=>?_
 refine ⟨⟨h2,t2,by rw [e2,e1]⟩,?_⟩
 refine e1a2 y.at_ fun e ev y=>⟨e,ev,?_⟩
 rcases y with ⟨h,tk,y1,y2⟩ | ⟨t,tk,B,y1,y2,y3⟩
 ·exact .inl ⟨h,tk,fun b o n q=>y1 b o (k b o n q) (x.keep b o n q),y2⟩
 ·exact .inr ⟨t,tk,B,fun b o n f q=>y1 b o (k b o n q) f (x.keep b o n q),fun b o n q=>y2 b o (k b o n q) (x.keep b o n q),y3⟩
theorem Fly.exc {s' : Shared} {v : Value} {φ₁ : Fz} {s₁ : Shared} (F : Fr1 G env c φ s A outer) (x : Step φ s φ₁ s₁) (y : Fly (env :: outer) cls msg s₁ v s') : Exc G env outer c cls msg s v s':=by
 refine e2a1 x.eq fun h1 t1 e1=>?_
 refine e2a1 y.eq fun h2 t2 e2=>?_
 refine ⟨⟨h2,t2,by rw [e2,e1]⟩,?_⟩
 obtain ⟨e,t,tk,B,ev,y1,y2,y3,y4⟩:=y.at_
 refine ⟨e,ev,.inr ⟨t,tk,B,fun b o n f q=>y1 b o (fun z=>(frs_mem z).elim (fun w=>n ?_) f) (x.ext b o q),fun b o n q d=>y.slots b o (x.ext b o q) d,.inl y2,y3,y4⟩⟩
 rw [F.lo] at w
 rw [← Option.some.inj w]; exact List.mem_cons_self
noncomputable def ERai (G : Gd) (l : Nat) (sc : Scope) (ρ : Rho) (e : Expr) (cls : Value) (msg : List Nat) : Prop :=
 ∀ env c φ s A E outer,Room A l→St G G.h sc env c φ s→abs c = ρ→Fr1 G env c φ s A outer→(∀ v s',Exc G env outer c cls msg s v s'→E v s')→wpAny (model G.prog G.w) A (eval e env) (fun _a _a=>False) E s
noncomputable def SRai (G : Gd) (l : Nat) (sc : Scope) (ρ : Rho) (st : Stmt) (cls : Value) (msg : List Nat) : Prop :=
 ∀ env c φ s A E outer,Room A l→St G G.h sc env c φ s→abs c = ρ→Fr1 G env c φ s A outer→(∀ v s',Exc G env outer c cls msg s v s'→E v s')→wpAny (model G.prog G.w) A (exec st env) (fun _a _a=>False) E s
noncomputable def XRai (G : Gd) (l : Nat) (sc : Scope) (ρ : Rho) (b : List Stmt) (cls : Value) (msg : List Nat) : Prop :=
 ∀ env c φ s A E outer,Room A l→St G G.h sc env c φ s→abs c = ρ→Fr1 G env c φ s A outer→(∀ v s',Exc G env outer c cls msg s v s'→E v s')→wpAny (model G.prog G.w) A (execs b env) (fun _a _a=>False) E s
theorem SRai.cons {st : Stmt} {r : List Stmt} (h : SRai G l sc ρ st cls msg) : XRai G l sc ρ (st :: r) cls msg:=fun env c φ s A E outer R S hc F k =>
 wpAny_execs_cons (wpAny_mono (h env c φ s A E outer R S hc F k) (fun _a _a q=>q.elim) fun _a _a e=>e)
set_option tactic.hygienic true in
theorem XRai.seq (PO : POk G l P) (O : VOk G l V) (O' : VOk G l V') (hV : V.e = stepE P V') {X : Rho→List Stmt→Option SR} (HX : XOk G l sc X) {ρ' : Rho} {rest : List Stmt} (k : XRai G l sc ρ' rest cls msg) :
  ∀ {pre : List Stmt} {ρ : Rho},stepS P V X sc ρ pre = some (.next ρ')→XRai G l sc ρ (pre ++ rest) cls msg
 | [],ρ,h=>by have e:=some_inv h; cases e; exact k
 | st :: pre,ρ,h=>by
  intro env c φ s A E outer R S hab F q
  refine o1_e h fun r₁ h1 h=>?_
  refine wpAny_execs_cons (wpAny_mono (step1_ok PO O O' hV HX h1 G.h env c φ s A E R S hab) (fun f s₁ z=>?_) fun _a _a e=>e)
  induction r₁ using Mine.SR.casesOn <;> induction f using PySem.Flow.casesOn <;> first | exact z.elim | skip
  ·refine e2a4 z fun c₁ φ₁ ab₁ S₁ x₁ p₁=>?_
   exact wpAny_mono (XRai.seq PO O O' hV HX k h env c₁ φ₁ s₁ A E outer R S₁ ab₁ (F.after x₁ p₁) fun v s' y=>q v s' (y.after x₁ p₁)) (fun _a _a q=>q.elim) fun _a _a e=>e
  all_goals (have e:=some_inv h; cases e)
set_option tactic.hygienic true in
theorem XRai.run (PO : POk G l P) {n : Nat} {ρ' : Rho} {pre rest : List Stmt} (h : exN P (n + 1) sc ρ pre = some (.next ρ')) (k : XRai G l sc ρ' rest cls msg) : XRai G l sc ρ (pre ++ rest) cls msg :=
 XRai.seq PO (evN_ok PO fuelN) (evN_ok PO 29) rfl (exN_ok PO sc n) k h
theorem SRai.if_ (O : VOk G l V) {t : Expr} {b o : List Stmt} {pos : Pos} (ht : evT V sc ρ t = some true) (h : XRai G l sc ρ b cls msg) : SRai G l sc ρ (.If t b o pos) cls msg:=by
 intro env c φ s A E outer R S hc F k
 subst hc
 refine wpAny_If (evT_ok O R S ht fun s' S' x=>?_)
 rw [if_pos rfl]
 exact wpAny_mono (h env c φ s' A E outer R S' rfl (F.after x.srel PV.refl) fun v s₂ y=>k v s₂ (y.after x.srel PV.refl)) (fun _a _a q=>q.elim) fun _a _a e=>e
theorem SRai.ret {v : Expr} {pos : Pos} (h : ERai G l sc ρ v cls msg) : SRai G l sc ρ (.Return (some v) pos) cls msg:=by
 intro env c φ s A E outer R S hc F k
 rw [exec_Return_some]
 exact wpAny_bind (wpAny_standAt (wpAny_bind (wpAny_mono (h env c φ s A E outer R S hc F k) (fun _a _a q=>q.elim) fun _a _a e=>e)))
theorem SRai.asg {v : Expr} {x : Str} {p pos : Pos} (hv : notComp v = true) (h : ERai G l sc ρ v cls msg) : SRai G l sc ρ (.Assign [.Name x p] v pos) cls msg:=by
 intro env c φ s A E outer R S hc F k
 exact wpAny_Assign_Name (wpAny_mono (h env c φ s A E outer R S hc F k) (fun _a _a q=>q.elim) fun _a _a e=>e) (swaps_no hv)
theorem call_fly (O : VOk G l V) {f : Value} {z : Str} {p pos : Pos} {args : List Expr} {kws : List Keyword} {ds : List D} {ks : List (Str×D)} (RK : RaiseOk G l f ds ks cls msg) (hf : V.e sc ρ (.Name z p) = some (.val f)) (h1 : evs (V.e sc ρ) args = some ds) (h2 : evk (V.e sc ρ) kws = some ks)
  (R : Room A l) (S : St G hb sc env c φ s) (hc : abs c = ρ) (F : Fr1 G env c φ s A outer) (k : ∀ φ₁ s₁ v s',Step φ s φ₁ s₁→Fly (env :: outer) cls msg s₁ v s'→E v s') : wpAny (model G.prog G.w) A (eval (.Call (.Name z p) args kws pos) env) (fun _a _a=>False) E s:=by
 refine wpAny_Call_Name_kw (O.then hf R S hc fun w φ₀ s₀ x₀ S₀ r₀=>?_)
 rw [r₀.iVal]
 obtain ⟨⟨kp,hk,L⟩,run⟩:=RK
 have k0:=evk_ok (pos:=pos) (A:=A) (E:=E) O R hc h2 S₀
 refine callWith_go (noStar pos h1) k0.2.1 (wpAny_mono (evs_ok O R hc h1 S₀) (fun vs s₁ q=>?_) fun _a _a e=>e)
 refine e1a2 (q) fun φ₁ x₁ r₁=>?_
 have S₁:=S₀.step x₁
 have k1:=evk_ok (pos:=pos) (A:=A) (E:=E) O R hc h2 S₁
 refine wpAny_mono k1.1 (fun kvs s₂ q=>?_) fun _a _a e=>e
 refine e1a2 (q) fun φ₂ x₂ r₂=>?_
 have S₂:=S₁.step x₂
 have xx:=(x₀.trans x₁).trans x₂
 refine ⟨⟨kp,hk,(L _).keeps S₂.g.keep⟩,?_⟩
 rw [k1.2.2]
 exact wpAny_mono (run _ _ φ₂ s₂ A E (env :: outer) S₂.g R (r₁.mono x₂.up) (repK_zip r₂) ((F.after xx.srel PV.refl).frms S₂) fun v s' y=>k φ₂ s₂ v s' xx y) (fun _a _a q=>q.elim) fun _a _a e=>e
theorem ERai.call (O : VOk G l V) {f : Value} {z : Str} {p pos : Pos} {args : List Expr} {kws : List Keyword} {ds : List D} {ks : List (Str×D)} (RK : RaiseOk G l f ds ks cls msg) (hf : V.e sc ρ (.Name z p) = some (.val f)) (h1 : evs (V.e sc ρ) args = some ds) (h2 : evk (V.e sc ρ) kws = some ks) :
  ERai G l sc ρ (.Call (.Name z p) args kws pos) cls msg:=fun env c φ s A E outer R S hc F k=>call_fly O RK hf h1 h2 R S hc F fun φ₂ s₂ v s' xx y=>k v s' (y.exc F xx)
end
section
variable {G : Gd} {l : Nat} {V : EvF} {P : Pg} {sc : Scope} {ρ : Rho} {hb : Heap} {env : Env} {c : List CE} {φ : Fz} {s : Shared} {A : Around} {E : Value→Shared→Prop} {outer : List Env} {cls : Value} {msg : List Nat}
theorem Inn.fr {fd : FuncData} {a : Addr} {bd : List (Str×D)} {c : List CE} {s₁ : Shared} (I : Inn G fd a bd φ s c s₁) (F : Frms G φ s A outer) : Fr1 G (callEnvC fd s.heap.objs.size a) c φ s₁ (A.deeper (callEnvC fd s.heap.objs.size a)) outer:=by
 have live : ∀ b∈frs outer,∃ o,s.heap.get? b = some o:=fun b h=>let ⟨o,ho,_⟩:=(F.fun_.mem h).2; ⟨o,ho⟩
 refine ⟨Around.frames_deeper F.st,rfl,frames_on F.fun_ fun b _a o ho=>⟨o,I.keep b o ho,rfl⟩,F.fz,fun b hb q=>?_⟩
 refine e1a1 (live b hb) fun o ho=>?_
 rw [I.low b q] at ho; exact no_none ho
theorem leave_held {M : Model} {base : Heap} {L e : Addr} {a0 : Value} {Q : Unit→Shared→Prop} (hf : env.frame = some L) (hh : Heap.HeldW base (env :: outer) e cls a0 L s.heap) (k : ∀ h',Heap.FlyingW base outer e cls a0 h'→s.heap.UpToSlots h'→Q () { s with heap:=h' }) :
  wpAny M A (leaving env (.ref e)) Q E s:=by
 unfold leaving
 refine wpAny_bind (wpAny_noteFrame_againW hf hh.2.2.2 ?_)
 exact wpAny_landsW hh fun h' x1 x2=>k h' ⟨x1.1,x1.2.1,x1.2.2.1.2.2,x1.2.2.2⟩ x2
theorem Inn.leave {fd : FuncData} {a : Addr} {bd : List (Str×D)} {c : List CE} {s₁ s' : Shared} {v : Value} (I : Inn G fd a bd φ s c s₁) (F : Frms G φ s A outer) (x : Exc G (callEnvC fd s.heap.objs.size a) outer c cls msg s₁ v s')
  {Q : Unit→Shared→Prop} (k : ∀ s'',Fly outer cls msg s v s''→Q () s'') : wpAny (model G.prog G.w) (A.deeper (callEnvC fd s.heap.objs.size a)) (leaving (callEnvC fd s.heap.objs.size a) v) Q E s':=by
 have F1:=I.fr F
 have np : ∀ b o,s.heap.get? b = some o→b ∉ privs (callEnvC fd s.heap.objs.size a) c:=fun b o e q=>by rw [I.low b q] at e; exact no_none e
 have nf : ∀ b o,s.heap.get? b = some o→b ∉ frs outer→b ∉ frs (callEnvC fd s.heap.objs.size a :: outer):=fun b o e n q=>(frs_mem q).elim (fun w=>np b o e (by
  rw [F1.lo] at w; rw [← Option.some.inj w]; exact List.mem_cons_self)) n
 refine e2a1 I.same fun h1 t1 e1=>?_
 refine e2a1 x.eq fun h2 t2 e2=>?_
 obtain ⟨e,ev,y⟩:=x.at_
 subst ev
 rcases y with ⟨h,tk,y1,y2,y3⟩ | ⟨t,tk,B,y1,y2,y3,y4,y5⟩
 ·refine wpAny_leaves_madeW F1.st F1.lo (fun b o q=>of_hideAll (frs (callEnvC fd s.heap.objs.size a :: outer)) q) (funFrames_hide y2 fun env he a hf=>List.mem_filterMap.mpr ⟨env,he,hf⟩) y3 fun h' t x1 x2 x3 x4=>k _ ⟨⟨h',t2,by rw [e2,e1]⟩,?_,e,t,tk,_,rfl,fun b o n q=>hideAll_get _ (y1 b o (np b o q) (I.keep b o q)) (nf b o q n),x1,x2,x3⟩
  exact (Heap.UpToSlots.of_keeps fun b o q=>y3.keeps b o (y1 b o (np b o q) (I.keep b o q))).trans x4
 ·have go : ∀ h',Heap.FlyingW B outer e cls (.ref t) h'→s'.heap.UpToSlots h'→Q () { s' with heap:=h' }:=fun h' x1 x2=>k _ ⟨⟨h',t2,by rw [e2,e1]⟩,Heap.UpToSlots.trans (h₂:=s'.heap) (fun b o q d=>y2 b o (np b o q) (I.keep b o q) d) x2,e,t,tk,B,rfl,fun b o n q=>y1 b o (np b o q) n (I.keep b o q),x1,y4.of_slots x2,y5⟩
  rcases y3 with y3 | y3
  ·exact wpAny_leaves_onW F1.st F1.lo y3 go
  ·exact leave_held F1.lo y3 go
theorem def_rai (hlim : G.h.NoLimit) {a : Addr} {fd : FuncData} {body : List Stmt} {ds : List D} {ks : List (Str×D)} {bd : List (Str×D)} (D₀ : DefAt G a fd body)
  (hb : ∀ φ vs kvs (s : Shared),RepL φ vs ds→RepK φ kvs ks→Gnd G φ s→∃ binds,BindsTo s fd ⟨vs,kvs⟩ binds∧RepK φ binds bd)
  (hn : ∀ x∈bd,∃ k,(x.1,k)∈fd.scope.names∧(k = .local∨k = .cell))
  (hx : XRai G l fd.scope (rho0 (bindsD bd) fd.scope.names) body cls msg) : RaiseOk G (l + 1) (.ref a) ds ks cls msg:=by
 refine ⟨D₀.keep,fun vs kvs φ s A E outer g R r rk F k=>wpAny_call (def_enter hlim D₀ hb hn g R r rk fun c s₁ I=>?_)⟩
 exact wpAny_mono (hx _ c φ s₁ _ _ outer (R.deeper _) I.st I.ab (I.fr F) fun v s' x=>I.leave F x fun s'' y=>k v s'' y) (fun _a _a q=>q.elim) fun _a _a e=>e
theorem str_of {fr : Bool} {v : Value} {φ₁ : Fz} {s' : Shared} (h : VOf fr (.str msg) φ₁ v s s') : ∃ tk,v = .str ⟨msg.toArray⟩ tk:=by
 induction fr using Bool.casesOn <;> exact Rep.iStr h
theorem SRai.own (O : VOk G l V) {nm q : Str} {C N : Addr} {bs bm : List Value} {hdct : Bool} {sn : List Str} {sub : List Value} {ab : Bool} {col : Option Bool} {dd : Option Addr} {k0 k1 k2 k3 k5 : Option Value} {B newId initId : String} {mN : Str→Option Value}
  (FB : ExcBaseFacts B newId initId bm) (hC : G.h.get? C = some (excClassObj nm q C N bs bm hdct sn sub ab col dd k0 k1 k2 k3 k5 newId)) (hN : G.h.Ns N mN) (hni : mN "__init__" = none)
  {x : Str} {np cpos pos : Pos} {e₀ : Expr} (hf : V.e sc ρ (.Name x np) = some (.val (.ref C))) (ok : okE e₀ = true) (he : ∃ ρ₁,evO V sc ρ e₀ = some (.str msg,ρ₁)) :
  SRai G l sc ρ (.Raise (some (.Call (.Name x np) [e₀] [] cpos)) none pos) (.ref C) msg:=by
 intro env c φ s A E outer R S hc F k
 subst hc
 obtain ⟨ρ₁,he⟩:=he
 have h3 : backTo cpos (starEach [e₀] env) = (false,eval e₀ env) :: []:=by rw [starEach_ok ok]; rfl
 refine wpAny_Raise_call_sub (nm:=nm) (q:=q) (C:=C) (N:=N) (bs:=bs) (hdct:=hdct) (sn:=sn) (sub:=sub) (ab:=ab) (col:=col) (dd:=dd) (k0:=k0) (k1:=k1) (k2:=k2) (k3:=k3) (k5:=k5) FB R.handled (by rw [h3]; rfl) hni (O.then hf R S rfl fun w φ₀ s₀ x₀ S₀ r₀=>⟨r₀.iVal,?_⟩)
 rw [h3]
 refine Calls.evalArgs_plain (Calls.spliced_cons (evO_ok O R S₀ he fun v s₁ c₁ φ₁ X=>Calls.spliced_nil ?_))
 refine e1a1 (str_of X.val) fun tk ev=>?_
 subst ev
 have rl:=x₀.srel.trans PV.refl X.rel
 have pv : PV env c s c₁:=fun a ha=>.inl (X.pv a ha)
 refine ⟨rfl,(by show 1≤sizeLine; rw [sizeLine_eq]; decide),X.st.g.keep _ _ hC,hN.keeps X.st.g.keep,fun h' e hm=>k _ _ ?_⟩
 refine e2a1 rl.eq fun h1 t1 e1=>?_
 refine ⟨⟨h',t1,by rw [e1]⟩,e,rfl,.inl ⟨s₁.heap,tk,fun b o n q=>rl.keep b o n q,(F.after rl pv).own X.st,hm⟩⟩
end
section
variable {G : Gd} {l : Nat} {P : Pg} {sc : Scope} {ρ : Rho} {cls : Value} {msg : List Nat}
set_option tactic.hygienic true in
theorem XRai.at (PO : POk G l P) {b : List Stmt} {ρ' : Rho} (k : Nat) (h : exN P 12 sc ρ (b.take k) = some (.next ρ')) (q : XRai G l sc ρ' (b.drop k) cls msg) : XRai G l sc ρ b cls msg:=by
 have:=XRai.run PO (n:=11) h q
 rwa [List.take_append_drop] at this
theorem RaiseOk.le {l' : Nat} {f : Value} {ds : List D} {ks : List (Str×D)} (h : RaiseOk G l f ds ks cls msg) (k : l≤l') : RaiseOk G l' f ds ks cls msg:=⟨h.keep,fun vs kvs φ s A E outer g R=>h.run vs kvs φ s A E outer g (R.le k)⟩
end
section
variable {G : Gd} {pr : Params} {mg mb : Str→Option Value} {cls : Value} {msg : List Nat}
theorem df_rai (B : Bs G (KK pr) mg mb) {n : Nat} {a : Addr} {x : Df} {bd : List (Str×D)} {ds : List D} {ks : List (Str×D)} (hx : TT.dfs.lookup a = some x) (hb : x.bind ds ks = some bd)
  (h : ∀ sc b,x.fd.scope = sc→bodyOf x.fd = b→XRai G (2 * n) sc (rho0 (bindsD bd) sc.names) b cls msg) : RaiseOk G (2 * n + 1) (.ref a) ds ks cls msg:=by
 have q:=(tab_ok B).df a x hx
 exact e0a2 (q.bd _ _ _ hb) fun h1 h2=>def_rai B.lim q.at' h1 h2 (h _ _ rfl rfl)
theorem err_at (B : Bs G (KK pr) mg mb) : G.h.get? 39 = some (excClassObj "Error" "Error" 39 38 [.type "ValueError"] [.type "ValueError",.type "Exception",.type "BaseException",.type "object"] true [] [] false none none (some (.ref 30)) none (some (.str "Error" 206)) (some (.str "Error" 214)) (some (.bool true)) "ValueError.__new__") :=
 B.X _ _ (by kernel_rfl)
theorem err_ns (B : Bs G (KK pr) mg mb) : G.h.Ns 38 (G.h.nsMap 38):=.of_isNs (isNs_of_in B.X (by kernel_rfl))
theorem err_init (B : Bs G (KK pr) mg mb) : G.h.nsMap 38 "__init__" = none:=nsMap_none_of_in B.X (by kernel_rfl) (by kernel_rfl)
theorem err_str (B : Bs G (KK pr) mg mb) : G.h.nsMap 38 "__str__" = none:=nsMap_none_of_in B.X (by kernel_rfl) (by kernel_rfl)
theorem ten10 : (100000 : Int) < 10 ^ 10:=by decide +kernel
theorem bs_fmt {a : List Nat} {n : Int} : binF .Mod (.str a) (.int n) = if a = wFmt∧0≤n∧n < 10 ^ 10 then some (.str (fmtN n)) else none:=rfl
theorem r_a2b1 (B : Bs G (KK pr) mg mb) (n : Nat) (b : List UInt8) (hl : b.length≤1000) (h1 : (a2b b).q = 1) :
  RaiseOk G (2 * (n + 1) + 1) (.ref 78) [.bytes b] [("strict_mode",.bool false)] (.ref 39) (fmtN (((a2b b).out.length / 3 * 4 + 1 : Nat) : Int)):=by
 refine df_rai B df_78 rfl fun sc bd g1 g2=>?_
 obtain ⟨j,hI,hR⟩:=a2b_run n b (by unfold lim; lia) sc bd g1 g2
 refine XRai.at (PN_ok B (tab_ok B) (n + 1)) 8 hR ?_
 (conv at g1=>(lhs; whnf)); (conv at g2=>(lhs; whnf)); subst g1 g2
 clear hR
 refine e0a7 (hI) fun i1 i2 i3 i4 i5 i6 i7=>?_
 generalize a2b b = s at *
 have h1' : (s.q : Int) = 1:=by lia
 have w5 : (ofString "Invalid base64-encoded string: number of data characters (%d) cannot be 1 more than a multiple of 4").cps.toList = wFmt:=rfl
 have r1 : s.out.length≤lim:=by unfold lim; lia
 have y1 : binF .FloorDiv (.int (s.out.length : Int)) (.int 3) = some (.int ((s.out.length / 3 : Nat) : Int)):=n_div (by decide) (by decide)
 have y2 : binF .Mult (.int ((s.out.length / 3 : Nat) : Int)) (.int 4) = some (.int ((s.out.length / 3 * 4 : Nat) : Int)):=n_mul (k:=4) (by rw [big_val]; lia) (by rw [big_val]; decide)
 have y3 : binF .Mod (.str wFmt) (.int ((s.out.length / 3 * 4 + 1 : Nat) : Int)) = some (.str (fmtN ((s.out.length / 3 * 4 + 1 : Nat) : Int))):=by
  rw [bs_fmt]; exact if_pos ⟨rfl,Int.natCast_nonneg _,Int.lt_trans (b:=100000) (by lia) ten10⟩
 unfold a2R
 simp only [List.drop_succ_cons,List.drop_zero]
 have O:=evN_ok (PN_ok B (tab_ok B) (n + 1)) fuelN
 clear hI i1 i2 i3 i4 i5 i6 i7
 exact SRai.cons (SRai.if_ O (by clear y1 y2 y3; (simp +decide only [jh,ji,jj,jk,jo,jG,↓jL,yl,fuelN,yy,xI,xS,xX,wb,decide_eq_true,↓reduceIte, *])) (SRai.cons (SRai.own O PySem.F.excBase_ValueError (err_at B) (err_ns B) (err_init B) (by clear y1 y2 y3; (simp +decide only [kf,kF,qG,fuelN,yr,yv,xI, *]); exact gl_Error (n + 1)) rfl ⟨_,by (simp +decide only [jg,ji,jj,jk,jo,jG,↓jK,kh,kF,qG,qH,qP,qQ,qR,ya,List.length_map,fuelN,yr,yv,yw,yB,yJ,yQ,xG,xI,xS,xT,↓reduceIte,wo,wq,wO,vT, *]) <;> rfl⟩)))
end
section
variable {G : Gd} {pr : Params} {mg mb : Str→Option Value} {cls : Value} {msg : List Nat}
theorem r_a2b2 (B : Bs G (KK pr) mg mb) (n : Nat) (b : List UInt8) (hl : b.length≤1000) (h1 : (a2b b).q≠1) (h0 : (a2b b).q≠0) (h2 : (a2b b).q + (a2b b).pads < 4) :
  RaiseOk G (2 * (n + 1) + 1) (.ref 78) [.bytes b] [("strict_mode",.bool false)] (.ref 39) wPad:=by
 refine df_rai B df_78 rfl fun sc bd g1 g2=>?_
 obtain ⟨j,hI,hR⟩:=a2b_run n b (by unfold lim; lia) sc bd g1 g2
 refine XRai.at (PN_ok B (tab_ok B) (n + 1)) 8 hR ?_
 (conv at g1=>(lhs; whnf)); (conv at g2=>(lhs; whnf)); subst g1 g2
 clear hR
 generalize a2b b = s at *
 have q1 : ¬ (s.q : Int) = 1:=by lia
 have q0 : ¬ (s.q : Int) = 0:=by lia
 have q2 : ((s.q + s.pads : Nat) : Int) < 4:=by lia
 have w5 : (ofString "Incorrect padding").cps.toList = wPad:=rfl
 clear hI h1 h0 h2 hl
 unfold a2R
 simp only [List.drop_succ_cons,List.drop_zero]
 have O:=evN_ok (PN_ok B (tab_ok B) (n + 1)) fuelN
 refine XRai.at (PN_ok B (tab_ok B) (n + 1)) 1 (by simp only [List.take_succ_cons,List.take_zero]; (simp +decide only [ja,jb,jc,jh,ji,jj,jk,jo,jy,jG,↓jL,yl,fuelN,yy,zy,xS,xX,wb,decide_false,↓reduceIte,Nat.reduceAdd, *]) <;> rfl) ?_
 simp only [List.drop_succ_cons,List.drop_zero]
 exact SRai.cons (SRai.if_ O (by (simp +decide only [jh,ji,jj,jk,jo,jG,↓jL,↓jN,qH,yd,ye,yg,yk,yl,fuelN,yw,yy,zv,xn,xS,xY,xZ,wb,Bool.not_false,decide_false,decide_eq_true,↓reduceIte, *])) (SRai.cons (SRai.own O PySem.F.excBase_ValueError (err_at B) (err_ns B) (err_init B) (by (simp +decide only [kf,kF,qG,fuelN,yr,yv, *]); exact gl_Error (n + 1)) rfl ⟨_,by (simp +decide only [jg,ji,jj,jk,jo,jG,fuelN,yQ,xT,↓reduceIte, *]) <;> rfl⟩)))
theorem r_dec (B : Bs G (KK pr) mg mb) (n : Nat) (x : List Nat) (p q : Nat) (h : ∀ c∈x,c < 128) (hp : p < 128) (hq : q < 128) (hl : x.length≤lim)
  (RK : RaiseOk G (2 * (n + 2)) (.ref 78) [.bytes (trans (x.map (·.toUInt8)) (mkTab ([p,q].map (·.toUInt8)) [43,47]))] [("strict_mode",.bool false)] cls msg) : RaiseOk G (2 * (n + 2) + 1) (.ref 102) [.str x,.str [p,q]] [] cls msg:=by
 refine df_rai B df_102 rfl fun sc bd g1 g2=>?_
 (conv at g1=>(lhs; whnf)); (conv at g2=>(lhs; whnf)); subst g1 g2
 have e1:=c_bytesFrom (n + 1) x h hl
 have e2:=c_bytesFrom (n + 1) [p,q] (fun c hc=>(List.mem_cons.mp hc).elim (fun z=>z ▸ hp) fun z=>List.mem_singleton.mp z ▸ hq) (by show 2≤lim; decide)
 have hz : (x.map (·.toUInt8)).length≤lim:=by rw [List.length_map]; exact hl
 have e3:=translateD_ok (a:=[p.toUInt8,q.toUInt8]) (b:=[43,47]) hz
 have e4 : maketransD [.bytes [p.toUInt8,q.toUInt8],.bytes [43,47]] = some (.bytes (mkTab [p.toUInt8,q.toUInt8] [43,47])):=maketransD_ok rfl
 have e5 : (2 : Nat)≤lim:=by decide
 clear h hz hp hq hl
 simp only [List.map_cons,List.map_nil] at e2 RK
 refine XRai.at (PN_ok B (tab_ok B) (n + 2)) 2 (by simp only [List.take_succ_cons,List.take_zero]; (simp +decide only [ja,jb,jc,jg,jh,ji,jj,jq,jy,jE,jG,↓jH,↓jI,j3,j4,j5,j6,j7,j9,ky,kR,kT,ql,qm,qG,qP,qQ,qR,q9,ya,yl,fuelN,yr,yv,yy,yB,yJ,yN,yR,yW,zh,zj,zk,zv,zx,zE,xJ,xQ,xS,xU,xX,x9,wb,wi,Bool.not_false,rho0,bindsD,List.reverse_cons,List.reverse_nil,List.nil_append,List.cons_append,decide_eq_true,↓reduceIte,wo,wq,wB,wC,wM,wN,wR,w9,vh,List.length_cons,List.length_nil,Nat.reduceAdd,vB,vT,ua, *]) <;> rfl) ?_
 simp only [List.drop_succ_cons,List.drop_zero]
 clear e1 e2 e3 e4 e5
 have O:=evN_ok (PN_ok B (tab_ok B) (n + 2)) fuelN
 exact SRai.cons (SRai.ret (ERai.call O RK (by clear RK; (simp +decide only [ka,ky,qG,fuelN,yr,yv,vG, *])) (by clear RK; (simp +decide only [↓jH,qP,qQ,fuelN,yB, *])) (by clear RK; (simp +decide only [↓jJ,qR,qS,fuelN,yC, *]))))
theorem r_decN (B : Bs G (KK pr) mg mb) (n : Nat) (x : List Nat) (p q : Nat) (RK : RaiseOk G (2 * (n + 2)) (.ref 29) [.str x] [] cls msg) : RaiseOk G (2 * (n + 2) + 1) (.ref 102) [.str x,.str [p,q]] [] cls msg:=by
 refine df_rai B df_102 rfl fun sc bd g1 g2=>?_
 (conv at g1=>(lhs; whnf)); (conv at g2=>(lhs; whnf)); subst g1 g2
 have O:=evN_ok (PN_ok B (tab_ok B) (n + 2)) fuelN
 exact SRai.cons (SRai.asg rfl (ERai.call O RK (by clear RK; (simp +decide only [j3,j4,j5,j6,ky,qG,fuelN,yr,yv,rho0,bindsD,List.reverse_cons,List.reverse_nil,List.nil_append,List.cons_append,vB, *])) (by clear RK; (simp +decide only [↓jH,j3,j4,j5,qP,qQ,fuelN,yB,rho0,bindsD,List.reverse_cons,List.reverse_nil,List.nil_append,List.cons_append, *])) (by clear RK; (simp +decide only [j3,j4,j5,qR,fuelN,rho0,bindsD,List.reverse_cons,List.reverse_nil,List.nil_append,List.cons_append, *]))))
end
section
open Builtin.UnicodeEncodeError
theorem ueeN : ExcNewFacts "UnicodeEncodeError" "UnicodeEncodeError.__new__" where
 ends:=by decide +kernel
 owner:=by decide +kernel
 entry:=entryFor_alias (id':="BaseException.__new__") (by rw [fastTable_eq_tree]; kernel_rfl) (by first | rfl | decide +kernel) (by decide +kernel) (by rw [fastTable_eq_tree]; kernel_rfl)
 sub:=by rw [isSubtype_type]; kernel_rfl
 notAttr:=by rw [isSubtype_type]; kernel_rfl
 notName:=by rw [isSubtype_type]; kernel_rfl
 made:=by kernel_rfl
theorem uee_notType : (Value.type "UnicodeEncodeError" == Value.type "type") = false:=by decide +kernel
theorem uee_canMake : ((Manifest.find? "UnicodeEncodeError").bind fun x=>List.findSome? (fun t=>(Manifest.find? t).bind fun b =>
  if b.noNew = true then some true else if (b.attrs.any fun x=>x.fst == "__new__") = true then some false else none) x.mro).getD false = false:=by kernel_rfl
theorem uee_noVector (args : Args) : checkTypeCall "UnicodeEncodeError" args = pure ():=by kernel_rfl
theorem uee_mro : ∃ m,mroOf (.type "UnicodeEncodeError") = pure m∧m.isEmpty = false:=⟨[.type "UnicodeEncodeError",.type "UnicodeError",.type "ValueError",.type "Exception",.type "BaseException",.type "object"],by rw [mroOf_type]; kernel_rfl,rfl⟩
theorem uee_madeBy : Bind.madeBy (.type "UnicodeEncodeError") = pure (some "UnicodeEncodeError.__new__"):=by kernel_rfl
theorem uee_newOk (rest : List Value) : checkBuiltinCall "UnicodeEncodeError.__new__" ⟨.type "UnicodeEncodeError" :: rest,[]⟩ = pure ():=by kernel_rfl
theorem uee_init : PySem.Slot "UnicodeEncodeError" "__init__" "UnicodeEncodeError.__init__":=.of (owner:="UnicodeEncodeError") (n:="__init__") (by rw [typeLookup_type,builtinLookup_eq_fast]; kernel_rfl) (by decide +kernel) (by decide +kernel) (by decide +kernel)
  (by first | exact .inl (by decide +kernel) | exact .inr (by decide +kernel)) (by rw [isSubtype_type]; kernel_rfl)
theorem uee_entry : entryFor table "UnicodeEncodeError.__init__" = some Builtin.«UnicodeEncodeError.__init__»:=entryFor_of_tree (by kernel_rfl)
theorem uee_split : splitId "UnicodeEncodeError.__init__" = some ("UnicodeEncodeError", "__init__"):=by kernel_rfl
theorem uee_kind : builtinKind "UnicodeEncodeError.__init__" = some .slot:=by kernel_rfl
theorem uee_row : Manifest.signature? "UnicodeEncodeError.__init__" = some ⟨.hand, "wrapper __init__", "",.self,[]⟩:=by kernel_rfl
section
variable {prog : Program} {w : World} {A : Around} {E : Value→Shared→Prop} {hp : Heap} {g : Array GenState} {d : Drawn} {tk : Nat} {os : OsState}
theorem uee_check {M : Model} {self : Value} {rest : List Value} {Q : Unit→Shared→Prop} (hT : Shared.TypeIs ⟨hp,g,d,tk,os⟩ self "UnicodeEncodeError") (h : Q () ⟨hp,g,d,tk,os⟩) :
  wpAny M A (checkBuiltinCall "UnicodeEncodeError.__init__" ⟨self :: rest,[]⟩) Q E ⟨hp,g,d,tk,os⟩:=by
 have hsub:=ueeN.sub
 simp only [checkBuiltinCall,uee_kind,uee_split,uee_row]
 wp_walk
 exact h
noncomputable def UAt (e : Addr) (h₀ h : Heap) (l : List Value) : Prop:=h.get? e = some ⟨.type "UnicodeEncodeError",none,.fields l.toArray,#[]⟩∧∀ b o,b≠e→h₀.get? b = some o→h.get? b = some o
section
variable {M : Model} {s : Shared} {e : Addr} {h₀ : Heap} {l : List Value}
theorem u_set {i : Nat} {x : Value} {Q : Unit→Shared→Prop} (U : UAt e h₀ s.heap l) (hi : i < l.length) (h : ∀ h',UAt e h₀ h' (l.set i x)→Q () { s with heap:=h' }) : wpAny M A (setField (.ref e) i x) Q E s :=
 wpAny_setField U.1 rfl hi (h _ ⟨(Heap.get?_update_self _ U.1 rfl).trans (by show some (Obj.mk _ _ (.fields (l.toArray.setIfInBounds i x)) _) = _; rw [List.setIfInBounds_toArray]),fun b o n q=>(Heap.get?_update_other _ _ n.symm).trans (U.2 b o n q)⟩)
theorem u_mem0 {Q : Members→Shared→Prop} (U : UAt e h₀ s.heap l) (hl : l.drop 6 = []) (h : Q {} s) : wpAny M A (members (.ref e)) Q E s:=by
 unfold members
 refine wpAny_bind (wpAny_fieldsOf U.1 rfl ?_)
 have : (l.toArray.extract 6).toList = []:=by rw [← hl]; simp [List.take_of_length_le]
 rw [this]
 exact wpAny_pure h
theorem u_mem5 {a b c : Value} {i j : Int} {t u : Tok} {Q : Members→Shared→Prop} (U : UAt e h₀ s.heap l) (hl : l.drop 6 = [a,b,.int i t,.int j u,c]) (h : Q ⟨a,b,i,j,c⟩ s) : wpAny M A (members (.ref e)) Q E s:=by
 unfold members
 refine wpAny_bind (wpAny_fieldsOf U.1 rfl ?_)
 have : (l.toArray.extract 6).toList = [a,b,.int i t,.int j u,c]:=by rw [← hl]; simp [List.take_of_length_le]
 rw [this]
 exact wpAny_pure h
theorem u_setm {m : Members} {Q : Unit→Shared→Prop} (U : UAt e h₀ s.heap l) (h : ∀ h',UAt e h₀ h' (l.take 6 ++ [m.encoding,m.object,rawInt m.start,rawInt m.stop,m.reason])→Q () { s with heap:=h' }) : wpAny M A (setMembers (.ref e) m) Q E s:=by
 refine wpAny_updateFields U.1 rfl (h _ ⟨(Heap.get?_update_self _ U.1 rfl).trans ?_,fun b o n q=>(Heap.get?_update_other _ _ n.symm).trans (U.2 b o n q)⟩) ?_
 ·show some (Obj.mk _ _ (.fields (l.toArray.extract 0 6 ++ #[m.encoding,m.object,rawInt m.start,rawInt m.stop,m.reason])) _) = _
  congr 4
  simp
 ·rw [sizeLine_eq]; simp; lia
theorem u_str {c : Str} {t : Tok} {id : String} {i : Nat} {Q : Unit→Shared→Prop} (h : Q () s) : wpAny M A (strArgument id i (.str c t)) Q E s:=by
 unfold strArgument
 refine wpAny_bind (wpAny_of_eq (a:=some c) rfl ?_)
 exact wpAny_pure h
theorem u_size {i : Int} {t : Tok} {id : String} {Q : Int→Shared→Prop} (hi : 0≤i∧i < 2 ^ 62) (h : Q i s) : wpAny M A (sizeArgument id (.int i t)) Q E s:=by
 unfold sizeArgument
 refine wpAny_bind (wpAny_of_eq (a:=i) rfl ?_)
 rw [if_neg (by simp; omega)]
 exact wpAny_pure h
end
theorem uee_run {c x r : Str} {t1 t2 t3 t4 t5 : Tok} {i j : Int} {e t : Addr} {s : Shared} {Q : Fin→Shared→Prop} (hi : 0≤i∧i < 2 ^ 62) (hj : 0≤j∧j < 2 ^ 62)
  (he : s.heap.get? e = some { cls:=.type "UnicodeEncodeError",data:=.fields #[.ref t,.none,.none,.none,.bool false,.none] })
  (h : ∀ h' t' vs,UAt e s.heap h' (.ref t' :: .none :: .none :: vs)→Q (.done (.ret .none)) { s with heap:=h' }) :
  wpAny (model prog w) A (Builtin.«UnicodeEncodeError.__init__» ⟨[.ref e,.str c t1,.str x t2,.int i t3,.int j t4,.str r t5],[]⟩) Q E s:=by
 unfold Builtin.«UnicodeEncodeError.__init__» beginInit
 have U0 : UAt e s.heap (s.heap.push { cls:=.type "tuple",data:=.seq #[.str c t1,.str x t2,.int i t3,.int j t4,.str r t5] }) [.ref t,.none,.none,.none,.bool false,.none]:=⟨Heap.get?_push_of_some _ he,fun b o _a q=>Heap.get?_push_of_some _ q⟩
 refine wpAny_bind (wpAny_bind (wpAny_field he rfl (x:=.ref t) rfl ?_))
 refine wpAny_bind (wpAny_newObj_type ?_ (by show 5≤sizeLine; rw [sizeLine_eq]; decide))
 generalize s.heap.push { cls:=.type "tuple",data:=.seq #[.str c t1,.str x t2,.int i t3,.int j t4,.str r t5] } = h0 at U0
 generalize s.heap.objs.size = t'
 refine wpAny_bind (u_set (s:={ s with heap:=h0 }) U0 (by show 0 < 6; decide) fun h1 U1=>?_)
 replace U1 : UAt e s.heap h1 [.ref t',.none,.none,.none,.bool false,.none]:=U1
 refine wpAny_bind (wpAny_letGo ?_)
 rw [if_pos (by decide)]
 refine wpAny_bind (u_mem0 (s:={ s with heap:=h1 }) U1 rfl ?_)
 refine wpAny_bind (u_setm (s:={ s with heap:=h1 }) U1 fun h2 U2=>?_)
 replace U2 : UAt e s.heap h2 [.ref t',.none,.none,.none,.bool false,.none,unset,unset,rawInt 0,rawInt 0,unset]:=U2
 refine wpAny_bind (wpAny_letGo ?_)
 refine wpAny_bind (u_mem5 (s:={ s with heap:=h2 }) U2 rfl ?_)
 refine wpAny_bind (u_setm (s:={ s with heap:=h2 }) U2 fun h3 U3=>?_)
 replace U3 : UAt e s.heap h3 [.ref t',.none,.none,.none,.bool false,.none,unset,unset,rawInt 0,rawInt 0,unset]:=U3
 refine wpAny_bind (wpAny_letGo ?_)
 refine wpAny_bind (u_mem5 (s:={ s with heap:=h3 }) U3 rfl ?_)
 refine wpAny_bind (u_setm (s:={ s with heap:=h3 }) U3 fun h4 U4=>?_)
 replace U4 : UAt e s.heap h4 [.ref t',.none,.none,.none,.bool false,.none,unset,unset,rawInt 0,rawInt 0,unset]:=U4
 refine wpAny_bind (wpAny_letGo ?_)
 rw [if_neg (by show ¬ (5 != 5) = true; decide)]
 refine wpAny_pure ?_
 refine wpAny_bind (u_str ?_)
 refine wpAny_bind (u_str ?_)
 unfold initRange
 refine wpAny_bind (wpAny_bind (u_size hi ?_))
 refine wpAny_bind (u_mem5 (s:={ s with heap:=h4 }) U4 rfl ?_)
 refine wpAny_bind (u_setm (s:={ s with heap:=h4 }) U4 fun h5 U5=>?_)
 replace U5 : UAt e s.heap h5 [.ref t',.none,.none,.none,.bool false,.none,unset,unset,rawInt i,rawInt 0,unset]:=U5
 refine wpAny_bind (u_size hj ?_)
 refine wpAny_bind (u_mem5 (s:={ s with heap:=h5 }) U5 rfl ?_)
 refine u_setm (s:={ s with heap:=h5 }) U5 fun h6 U6=>?_
 replace U6 : UAt e s.heap h6 [.ref t',.none,.none,.none,.bool false,.none,unset,unset,rawInt i,rawInt j,unset]:=U6
 refine wpAny_bind (u_str ?_)
 refine wpAny_bind (u_mem5 (s:={ s with heap:=h6 }) U6 rfl ?_)
 refine wpAny_bind (u_setm (s:={ s with heap:=h6 }) U6 fun h7 U7=>?_)
 exact wpAny_pure (h h7 t' _ U7)
theorem uee_new {rest : List Value} {R : Result→Shared→Prop} {s : Shared} (hr : rest.length≤sizeLine)
  (h : R (.ok (.ret (.ref (s.heap.objs.size + 1)))) { s with heap:=(s.heap.push { cls:=.type "tuple",data:=.seq rest.toArray }).push { cls:=.type "UnicodeEncodeError",data:=.fields #[.ref s.heap.objs.size,.none,.none,.none,.bool false,.none] } }) :
  codeAny (model prog w) A (.builtin "UnicodeEncodeError.__new__" ⟨.type "UnicodeEncodeError" :: rest,[]⟩) R s:=by
 obtain ⟨hp,g,d,tk,os⟩:=s
 exact codeAny_exc_new ueeN h hr
theorem uee_type_call {c x r : Str} {t1 t2 t3 t4 t5 : Tok} {i j : Int} {s : Shared} {Q : Fin→Shared→Prop} (hi : 0≤i∧i < 2 ^ 62) (hj : 0≤j∧j < 2 ^ 62)
  (h : ∀ h' e t' vs,(∀ b o,s.heap.get? b = some o→h'.get? b = some o)→s.heap.get? e = none→h'.get? e = some ⟨.type "UnicodeEncodeError",none,.fields (.ref t' :: .none :: .none :: vs).toArray,#[]⟩→Q (.done (.ret (.ref e))) { s with heap:=h' }) :
  wpAny (model prog w) A (Builtin.«type.__call__» ⟨[.type "UnicodeEncodeError",.str c t1,.str x t2,.int i t3,.int j t4,.str r t5],[]⟩) Q E s:=by
 obtain ⟨hp,g,d,tk,os⟩:=s
 have hnt:=uee_notType
 have hcan:=uee_canMake
 have hchk:=uee_noVector ⟨[.str c t1,.str x t2,.int i t3,.int j t4,.str r t5],[]⟩
 obtain ⟨m,hmro,hne⟩:=uee_mro
 have hmade:=uee_madeBy
 wp_walk
 refine codeAny_call_builtin_code (Code.quiet_builtin _ (by decide +kernel)) (wpAny_of_eq (uee_newOk _) ?_)
 refine uee_new (by show 5≤sizeLine; rw [sizeLine_eq]; decide) ?_
 show wpAny _ _ _ _ _ _
 have hget : ((hp.push { cls:=.type "tuple",data:=.seq #[.str c t1,.str x t2,.int i t3,.int j t4,.str r t5] }).push
   { cls:=.type "UnicodeEncodeError",data:=.fields #[.ref hp.objs.size,.none,.none,.none,.bool false,.none] }).get? (hp.objs.size + 1) = some
   { cls:=.type "UnicodeEncodeError",data:=.fields #[.ref hp.objs.size,.none,.none,.none,.bool false,.none] }:=by heap_get
 refine wpAny_bind (wpAny_isInstance ⟨_,hget,rfl⟩ ueeN.sub ?_)
 wp_step
 refine wpAny_bind (wpAny_holding (wpAny_callSpecial?_slot ⟨_,hget,rfl⟩ uee_init (wpAny_call (codeAny_call_builtin uee_init.plain uee_entry (uee_check ⟨_,hget,rfl⟩ ?_)))))
 refine uee_run hi hj hget fun h' t' vs U=>?_
 wp_walk
 exact h h' (hp.objs.size + 1) t' vs (fun b o hb=>U.2 b o (Nat.ne_of_lt (Nat.lt_succ_of_lt (Heap.lt_size hb))) (Heap.get?_push_of_some _ (Heap.get?_push_of_some _ hb))) (Heap.get?_none_of_le (Nat.le_succ _)) U.1
theorem uee_call {c x r : Str} {t1 t2 t3 t4 t5 : Tok} {i j : Int} {s : Shared} {Q : Value→Shared→Prop} (hi : 0≤i∧i < 2 ^ 62) (hj : 0≤j∧j < 2 ^ 62)
  (h : ∀ h' e t' vs,(∀ b o,s.heap.get? b = some o→h'.get? b = some o)→s.heap.get? e = none→h'.get? e = some ⟨.type "UnicodeEncodeError",none,.fields (.ref t' :: .none :: .none :: vs).toArray,#[]⟩→Q (.ref e) { s with heap:=h' }) :
  wpAny (model prog w) A (call (.type "UnicodeEncodeError") [.str c t1,.str x t2,.int i t3,.int j t4,.str r t5]) Q E s:=by
 refine wpAny_call (codeAny_of_tree ?_)
 show wpAny _ _ (again (.builtin "type.__call__" ⟨[.type "UnicodeEncodeError",.str c t1,.str x t2,.int i t3,.int j t4,.str r t5],[]⟩)) _ _ _
 exact wpAny_pure ⟨Code.quiet_builtin _ (by decide +kernel),codeAny_builtin entry_typeCall (uee_type_call hi hj fun h' e t' vs k n g=>h h' e t' vs k n g)⟩
end
end
section
open Builtin._codecs
variable {prog : Program} {w : World} {A : Around} {E : Value→Shared→Prop} {s : Shared}
structure UMade (s : Shared) (v : Value) (s' : Shared) : Prop where
 eq : ∃ h' tk,s' = { s with heap:=h',toks:=tk }
 keep : ∀ b o,s.heap.get? b = some o→s'.heap.get? b = some o
 at_ : ∃ e t vs,v = .ref e∧s.heap.get? e = none∧s'.heap.get? e = some ⟨.type "UnicodeEncodeError",none,.fields (.ref t :: .none :: .none :: vs).toArray,#[]⟩
theorem fault {α : Type} {Q : α→Shared→Prop} {x : Str} {t : Tok} {i j : Nat} {reason : String} (hi : i≤1000000) (hj : j≤1000000) (hr : (ofString reason).length≤sizeLine) (hh : A.handled = none) (hE : ∀ v s',UMade s v s'→E v s') : wpAny (model prog w) A (raiseEncodeFault {} "ascii" (.str x t) i j reason : Sem α) Q E s:=by
 unfold raiseEncodeFault
 refine wpAny_bind ?_
 show wpAny _ A (do call (.type "UnicodeEncodeError") [← mkStr "ascii",← (pure (.str x t) : Sem Value),← mkInt i,← mkInt j,← mkStr reason]) _ _ _
 have i1 : ∀ k : Nat,k≤1000000→0≤(k : Int)∧(k : Int) < 2 ^ 62:=fun k h=>⟨Int.natCast_nonneg k,by omega⟩
 refine wpAny_bind (wpAny_mkStr ?_ (by decide +kernel))
 refine wpAny_bind (wpAny_pure ?_)
 refine wpAny_bind (wpAny_mkInt ?_)
 refine wpAny_bind (wpAny_mkInt ?_)
 refine wpAny_bind (wpAny_mkStr ?_ hr)
 exact uee_call (i1 i hi) (i1 j hj) fun h' e t' vs k n g=>wpAny_raiseNew_none hh (hE _ _ ⟨⟨h',_,rfl⟩,k,e,t',vs,rfl,n,g⟩)
theorem enc_bad {id : String} {t : Tok} {x : Str} (hb0 : ∃ c∈x.cps,¬ c < 128) (hz : x.length≤1000000) (hh : A.handled = none) (hE : ∀ v s',UMade s v s'→E v s') : wpAny (model prog w) A (encodeNarrow id asciiCodec none (.str x t) x) (fun _a _a=>False) E s:=by
 unfold encodeNarrow
 dsimp only
 rw [Std.Legacy.Range.forIn_eq_forIn_range']
 have raise : ∀ {β : Type} {Q : β→Shared→Prop} {i : Nat},i < x.cps.size→wpAny (model prog w) A (raiseEncodeFault {} "ascii" (.str x t) i (i + (((x.cps.extract i x.cps.size).findIdx? fun y=>!asciiCodec.bad y).getD (x.cps.size - i))) "ordinal not in range(128)" : Sem β) Q E s:=fun {β} {Q} {i} hi=>by
  have hz : x.cps.size≤1000000:=hz
  refine fault (by lia) ?_ (by decide +kernel) hh hE
  have : ((x.cps.extract i x.cps.size).findIdx? fun y=>!asciiCodec.bad y).getD (x.cps.size - i)≤x.cps.size - i:=by
   generalize q : (x.cps.extract i x.cps.size).findIdx? (fun y=>!asciiCodec.bad y) = r
   cases r with
   | none=>exact Nat.le_refl _
   | some k =>
    have:=(Array.findIdx?_eq_some_iff_findIdx_eq.mp q).1
    simp at this
    show k≤_
    lia
  lia
 refine wpAny_bind (wpAny_mono (wpAny_forIn_list _ (fun rest (b : Nat×Array UInt8×Faults) s'=>s' = s∧b.2.2 = {}∧((b.1 = 0∧b.2.1 = #[]∧rest.length = x.cps.size)∨(∃ h : b.1 < x.cps.size,¬ x.cps[b.1] < 128∧b.2.1.size≤1000000∧0 < rest.length))) (fun b s'=>False) ?_ ?_ _ _ ?_) (fun b s' hb=>hb.elim) fun _a _a e=>e)
 ·rintro c rest ⟨i,out,st⟩ s' ⟨rfl,hf,hb⟩
  dsimp only at hf hb
  subst hf
  have hsz : out.size≤1000000:=by
   rcases hb with ⟨_,rfl,_⟩ | ⟨_,_,h,_⟩
   ·decide
   ·exact h
  dsimp only
  rw [if_neg (by rw [sizeLine_eq]; lia)]
  have hi : i < x.cps.size:=by
   rcases hb with ⟨rfl,_,h⟩ | ⟨h,_⟩
   ·rw [← h]; simp
   ·exact h
  rw [Array.getElem?_eq_getElem hi]
  dsimp only
  by_cases hc : x.cps[i] < 128
  ·obtain ⟨rfl,rfl,hl⟩ : i = 0∧out = #[]∧(c :: rest).length = x.cps.size:=hb.resolve_right fun ⟨_,z,_⟩=>z hc
   have hgood : asciiCodec.bad x.cps[0] = false:=decide_eq_false (by lia)
   rw [hgood,if_pos (by decide)]
   have ex : x.cps.extract 0 = x.cps:=by simp
   rw [ex]
   obtain ⟨d,hd,hd'⟩:=hb0
   obtain ⟨j,hj,hjd⟩:=Array.getElem_of_mem hd
   generalize hf : x.cps.findIdx? asciiCodec.bad = r
   cases r with
   | none =>
    have:=Array.findIdx?_eq_none_iff.mp hf d hd
    exact absurd (show d < 128 from Nat.not_le.mp (of_decide_eq_false this)) hd'
   | some k =>
    obtain ⟨hk,hkb,_⟩:=Array.findIdx?_eq_some_iff_getElem.mp hf
    have hkb : ¬ x.cps[k] < 128:=Nat.not_lt.mpr (of_decide_eq_true hkb)
    have hk0 : 0 < k:=by
     rcases Nat.eq_zero_or_pos k with z | z
     ·subst z; exact absurd hc hkb
     ·exact z
    refine wpAny_pure ⟨rfl,rfl,.inr ⟨?_,?_,?_,?_⟩⟩
    ·show 0 + k < _; lia
    ·show ¬ x.cps[0 + k] < 128
     simpa using hkb
    ·have hf : ∀ (r : List Nat) (acc : Array UInt8),(r.foldl (fun acc y=>acc ++ (asciiCodec.bytesOf y).toArray) acc).size = acc.size + r.length:=by
      intro r
      induction r with
      | nil=>intro acc; rfl
      | cons y r ih=>intro acc; rw [List.foldl_cons,ih,Array.size_append,List.length_cons]; show acc.size + 1 + _ = _; lia
     dsimp only
     rw [← Array.foldl_toList,hf]
     have : (x.cps.extract 0 k).toList.length≤k:=by simp; lia
     have hz : x.cps.size≤1000000:=hz
     simp only [Option.getD_some]
     show 0 + _≤_
     lia
    ·rw [List.length_cons] at hl; lia
  ·have hbad : asciiCodec.bad x.cps[i] = true:=decide_eq_true (by lia)
   rw [hbad,if_neg (by decide)]
   refine wpAny_bind (wpAny_rule ?_)
   have hn : ((none : Option Str).getD (ofString "strict")).toString = "strict":=by decide +kernel
   rw [hn]
   show wpAny _ _ (ite _ _ _) _ _ _
   rw [if_pos (by decide +kernel)]
   exact wpAny_bind (raise hi)
 ·rintro ⟨i,out,st⟩ s' ⟨rfl,hf,hb⟩
  rcases hb with ⟨_,_,h⟩ | ⟨_,_,_,h⟩
  ·obtain ⟨d,hd,_⟩:=hb0
   have : x.cps = #[]:=Array.eq_empty_of_size_eq_zero h.symm
   rw [this] at hd; simp at hd
  ·exact absurd h (by simp)
 ·refine ⟨rfl,rfl,.inl ⟨rfl,rfl,?_⟩⟩
  simp [Std.Legacy.Range.size]
  rfl
end
section
variable {G : Gd} {l : Nat} {P : Pg} {sc : Scope} {ρ : Rho} {env : Env} {c : List CE} {φ : Fz} {s : Shared} {A : Around} {E : Value→Shared→Prop} {outer : List Env} {M : Model}
theorem St.slide (S : St G G.h sc env c φ s) (F : Fr1 G env c φ s A outer) {h' : Heap} {tk : Nat} (keep : ∀ b o,b ∉ frs (env :: outer)→s.heap.get? b = some o→h'.get? b = some o) (sl : s.heap.UpToSlots h') : St G G.h sc env c φ { s with heap:=h',toks:=tk }:=by
 have own:=F.own S
 have nf : ∀ b o,φ b = some o→b ∉ frs (env :: outer):=fun b o e q=>by
  rw [(F.frms S).fz b q] at e; exact no_none e
 have np : ∀ b∈c.flatMap CE.priv,b ∉ frs (env :: outer):=fun b hb q=>by
  rcases frs_mem q with w | w
  ·rw [F.lo] at w
   have w:=Option.some.inj w
   have:=S.pnd
   rw [privs,List.nodup_cons] at this
   exact this.1 (w ▸ hb)
  ·exact F.np b w (List.mem_cons_of_mem _ hb)
 refine e1a2 S.vars fun m hn hv=>?_
 refine ⟨⟨S.g.gnd,fun a o e=>keep a o (nf a o e) (S.g.fin a o e)⟩,fun b o e=>keep b o (nf b o (S.g.gnd b o e)) (S.base b o e),S.kind,S.glo,S.bui,S.gk,S.lk,S.nd,S.pnd,S.pfz,S.pbs,m,sl.ns hn,fun e he=>?_⟩
 exact ⟨(hv e he).1.mono fun a ha o q=>keep a o (np a (List.mem_flatMap.mpr ⟨e,he,List.mem_append_left _ ha⟩)) q,(hv e he).2.mono (fun _a _a q=>q) fun a ha o q=>keep a o (np a (List.mem_flatMap.mpr ⟨e,he,List.mem_append_right _ ha⟩)) q⟩
theorem note1 {base : Heap} {L e : Addr} {cls t : Value} {vs : List Value} {Q : Unit→Shared→Prop} (hfr : A.frames = some (env :: outer)) (hl : s.heap.FunFrames base (env :: outer)) (hf : env.frame = some L)
  (he : s.heap.get? e = some ⟨cls,none,.fields (t :: .none :: vs).toArray,#[]⟩)
  (k : ∀ h' T ts,(∀ b o,b≠e→b ∉ frs (env :: outer)→s.heap.get? b = some o→h'.get? b = some o)→s.heap.UpToSlots h'→h'.get? e = some ⟨cls,none,.fields (t :: .ref T :: vs).toArray,#[]⟩→h'.get? T = some ⟨.type "traceback",none,.fields ts,#[]⟩→3 < ts.size→s.heap.get? T = none→T≠e→Q () { s with heap:=h' }) :
  wpAny M A (noteFrame (.ref e) env) Q E s:=by
 have hene : e ∉ frs (env :: outer):=fun hm=>by
  obtain ⟨_,o,ho,hnf⟩:=hl.mem hm
  rw [he] at ho; injection ho with ho; subst ho; exact hnf _ rfl
 unfold noteFrame
 simp only [hf]
 refine wpAny_bind (wpAny_field he rfl (x:=.none) rfl ?_)
 rw [if_neg (by decide)]
 refine wpAny_bind (wpAny_frameOf_fun hfr hl hf fun h₁ hs₁=>?_)
 refine wpAny_bind (wpAny_entryPlaceOf fun pl hpl=>?_)
 unfold EntryCells.newEntry newFields
 refine wpAny_bind (wpAny_newObj_type ?_ (hpl.sizeOk5 _ _ _ _ _))
 have he₁:=(hs₁.2.1 e hene).trans he
 have hTe : h₁.objs.size≠e:=Nat.ne_of_gt (Heap.lt_size he₁)
 have hTn : ∀ o,s.heap.get? h₁.objs.size≠some o:=fun o q=>by
  have:=Heap.lt_size q
  rw [hs₁.1] at this
  exact Nat.lt_irrefl _ this
 refine wpAny_setField (Heap.get?_push_of_some _ he₁) rfl (by simp) (k _ h₁.objs.size ([Value.none,.ref L,.none,rawInt L,.none] ++ (if pl.isEmpty then List.replicate 6 Value.none else pl)).toArray (fun b o n f q=>?_) (fun b o q hd=>?_) ?_ ?_ ?_ ?_ hTe)
 ·exact (Heap.get?_update_other _ _ n.symm).trans (Heap.get?_push_of_some _ ((hs₁.2.1 b f).trans q))
 ·obtain ⟨sl,hs⟩:=hs₁.2.2 b o q
  refine ⟨sl,(Heap.get?_update_other _ _ fun z=>?_).trans (Heap.get?_push_of_some _ hs)⟩
  rw [← z,he] at q
  injection q with q
  subst q
  exact hd _ rfl
 ·exact (Heap.get?_update_self _ (Heap.get?_push_of_some _ he₁) rfl).trans rfl
 ·exact (Heap.get?_update_other _ _ hTe.symm).trans (Heap.get?_push_size h₁ rfl)
 ·simp only [List.size_toArray,List.length_append,List.length_cons,List.length_nil]; omega
 ·generalize q : s.heap.get? h₁.objs.size = r_; induction r_ using Option.casesOn with
  | none=>rfl
  | some o=>exact (hTn o q).elim
theorem flight1 {e T : Addr} {cls t : Value} {vs : List Value} {ts : Array Value} {Q : Unit→Shared→Prop} (he : s.heap.get? e = some ⟨cls,none,.fields (t :: .ref T :: vs).toArray,#[]⟩) (hT : s.heap.get? T = some ⟨.type "traceback",none,.fields ts,#[]⟩) (hz : 3 < ts.size)
  (k : ∀ h' ts',(∀ b o,b≠T→s.heap.get? b = some o→h'.get? b = some o)→s.heap.UpToSlots h'→h'.get? T = some ⟨.type "traceback",none,.fields ts',#[]⟩→3 < ts'.size→Q () { s with heap:=h' }) : wpAny M A (setFlight (.ref e) none) Q E s:=by
 refine wpAny_setFlight_none he rfl (tb:=T) rfl hT rfl hz (k _ (ts.setIfInBounds 3 .none) (fun b o n q=>(Heap.get?_update_other _ _ n.symm).trans q) (fun b o q hd=>⟨o.slots,(Heap.get?_update_other _ _ fun z=>?_).trans q⟩) (Heap.get?_update_self _ hT rfl) (by rw [Array.size_setIfInBounds]; exact hz))
 rw [← z,hT] at q
 injection q with q
 subst q
 exact hd _ rfl
end
section
variable {G : Gd} {l : Nat} {P : Pg} {sc : Scope} {ρ : Rho} {env : Env} {c : List CE} {φ : Fz} {s : Shared} {A : Around} {E : Value→Shared→Prop} {outer : List Env} {M : Model}
theorem entry_unchain : entryFor table "proto.unchain" = some Builtin.«proto.unchain»:=entryFor_of_tree (by kernel_rfl)
theorem raiseNew2 {prog : Program} {wd : World} {α : Type} {e1 e2 : Addr} {cls1 t1 T1 cls t : Value} {vs1 vs : List Value} {Q : α→Shared→Prop} (hh : A.handled = some (.ref e1)) (ne : e1≠e2) (h1 : s.heap.get? e1 = some ⟨cls1,none,.fields (t1 :: T1 :: .none :: vs1).toArray,#[]⟩)
  (h2 : s.heap.get? e2 = some ⟨cls,none,.fields (t :: .none :: .none :: vs).toArray,#[]⟩)
  (k : ∀ h',(∀ b o,b≠e2→s.heap.get? b = some o→h'.get? b = some o)→h'.get? e2 = some ⟨cls,none,.fields (t :: .none :: .ref e1 :: vs).toArray,#[]⟩→E (.ref e2) { s with heap:=h' }) : wpAny (model prog wd) A (raiseNew (.ref e2) : Sem α) Q E s:=by
 unfold raiseNew
 refine wpAny_bind (wpAny_handled ?_)
 rw [hh]
 dsimp only
 rw [if_pos (show (Value.ref e1 != Value.ref e2) = true by simpa using ne)]
 refine wpAny_bind (wpAny_holding (wpAny_runValue (codeAny_builtin entry_unchain ?_)))
 unfold Builtin.«proto.unchain»
 refine wpAny_bind (wpAny_field h1 rfl (x:=.none) rfl ?_)
 rw [if_pos (by decide)]
 refine wpAny_pure ?_
 unfold updateField
 refine wpAny_bind (wpAny_bind (wpAny_load h2 ?_))
 dsimp only
 rw [if_pos (by show 2 < (t :: Value.none :: Value.none :: vs).length; simp)]
 exact wpAny_update h2 (wpAny_throw (k _ (fun b o n q=>(Heap.get?_update_other _ _ n.symm).trans q) ((Heap.get?_update_self _ h2 rfl).trans rfl)))
theorem raise2 (PO : POk G l P) (S : St G G.h sc env c φ s) {e1 : Addr} {cls1 t1 T1 : Value} {vs1 : List Value} (hh : A.handled = some (.ref e1)) (h1 : s.heap.get? e1 = some ⟨cls1,none,.fields (t1 :: T1 :: .none :: vs1).toArray,#[]⟩)
  {Y w : Str} {yp cpos rpos kp : Pos} {kk : Nat} (hY : P.gl Y = some (.val (.type "ValueError"))) (nY : nmOk Y = true) (kY : sc.names.lookup Y = some .globalImplicit)
  (k : ∀ h' tk e2 t2 tk2,(∀ b o,s.heap.get? b = some o→h'.get? b = some o)→s.heap.get? e2 = none→h'.get? e2 = some ⟨.type "ValueError",none,.fields [.ref t2,.none,.ref e1,.none,.bool false,.none].toArray,#[]⟩→s.heap.get? t2 = none→t2≠e2 →
   h'.get? t2 = some ⟨.type "tuple",none,.seq [.str ⟨w.cps.toList.toArray⟩ tk2].toArray 0,#[]⟩→E (.ref e2) { s with heap:=h',toks:=tk }) :
  wpAny (model G.prog G.w) A (exec (.Raise (some (.Call (.Name Y yp) [.Constant (.str w) kk kp] [] cpos)) none rpos) env) (fun _a _a=>False) E s:=by
 rw [arm_exec_Raise]
 refine wpAny_bind (wpAny_standAt ?_)
 show wpAny _ _ (raiseStmt env (some (do let v ← eval (.Call (.Name Y yp) [.Constant (.str w) kk kp] [] cpos) env; standAt rpos; pure v)) none) _ _ _
 unfold raiseStmt
 refine wpAny_bind (wpAny_bind (wpAny_Call_ofName (wpAny_Name (wpAny_mono (PO.gl Y _ hY env φ s A E S.kind S.glo S.bui (S.gk Y kY) S.g) (fun v s₁ q=>?_) fun _a _a e=>e) (nmOk_parts nY).1)))
 refine e1a2 q fun φ₁ x₁ r₁=>?_
 rw [r₁.iVal]
 have h3 : backTo cpos (starEach [.Constant (.str w) kk kp] env) = (false,eval (.Constant (.str w) kk kp) env) :: []:=rfl
 rw [h3]
 refine callWith_excType rfl (Calls.evalArgs_plain (Calls.spliced_cons (wpAny_mono (const_ok (k:=.str w) (d:=.str w.cps.toList) rfl x₁.fin) (fun v s₂ q=>Calls.spliced_nil ?_) fun _a _a e=>e)))
 refine e1a2 q fun φ₂ x₂ r₂=>?_
 refine e1a1 r₂.iStr fun tk2 ev=>?_
 subst ev
 have x:=x₁.trans x₂
 refine e2a1 x.eq fun hp tk eq=>?_
 have kk : ∀ b o,s.heap.get? b = some o→hp.get? b = some o:=fun b o q=>by have:=x.ext b o q; rw [eq] at this; exact this
 subst eq
 clear x x₁ x₂
 obtain ⟨h0,g,d,tk0,os⟩:=s
 refine wpAny_call_exc PySem.F.excCall_ValueError (fun h' e2 hm=>?_) (by show 1≤sizeLine; rw [sizeLine_eq]; decide)
 obtain ⟨t2,ht,htn,htt⟩:=hm.there
 have hsub:=PySem.F.excRaise_ValueError.isExc
 have hmeta:=PySem.F.excRaise_ValueError.plainMeta
 repeat (first | refine wpAny_loadPart ht ?_ | wp_step)
 have ne : e1≠e2:=fun z=>by
  have:=hm.new
  rw [← z] at this
  have h1':=kk e1 _ h1
  rw [this] at h1'; exact no_none h1'
 have nt : t2≠e2:=fun z=>by
  rw [z,ht] at htt
  injection htt with htt
  injection htt with h1 h2 h3
  exact nomatch h3
 have n0 : ∀ {b : Addr},hp.get? b = none→h0.get? b = none:=fun {b} q=>none_of_ext kk q
 refine raiseNew2 hh ne (hm.keeps _ _ (kk _ _ h1)) ht fun h'' q1 q2=>k h'' tk e2 t2 tk2 (fun b o q=>q1 b o (fun z=>?_) (hm.keeps b o (kk b o q))) (n0 hm.new) q2 (n0 htn) nt (q1 t2 _ nt htt)
 have:=hm.new
 rw [← z,kk b o q] at this; exact no_some this
end
section
variable {G : Gd} {l : Nat} {P : Pg} {sc : Scope} {ρ : Rho} {env : Env} {c : List CE} {φ : Fz} {s : Shared} {A : Around} {E : Value→Shared→Prop} {outer : List Env}
theorem frames_up {base h h' : Heap} {fr : List Env} (x : h.FunFrames base fr) (sl : h.UpToSlots h') : h'.FunFrames base fr:=x.of_keeps fun b o e d=>let ⟨_,q⟩:=sl b o e d; ⟨_,q,rfl⟩
theorem frames_base {base B h : Heap} : ∀ {fr : List Env},h.FunFrames base fr→(∀ b∈frs fr,B.get? b = none)→h.FunFrames B fr
 | [],_,_=>trivial
 | env :: r,⟨h1,⟨L,o,hf,hn,ho,hd⟩,h3⟩,k=>⟨h1,⟨L,o,hf,k L (frs_hd hf),ho,hd⟩,frames_base h3 fun b hb=>k b (frs_tl hb)⟩
structure Kp (fr : List Env) (h₀ h : Heap) : Prop where
 keep : ∀ b o,b ∉ frs fr→h₀.get? b = some o→h.get? b = some o
 slots : h₀.UpToSlots h
theorem Kp.ext {fr : List Env} {h₀ h h' : Heap} (x : Kp fr h₀ h) (k : ∀ b o,h.get? b = some o→h'.get? b = some o) : Kp fr h₀ h':=⟨fun b o n q=>k b o (x.keep b o n q),x.slots.trans (.of_keeps k)⟩
theorem Kp.but {fr : List Env} {h₀ h h' : Heap} (x : Kp fr h₀ h) {e : Addr} (n : h₀.get? e = none) (k : ∀ b o,b≠e→b ∉ frs fr→h.get? b = some o→h'.get? b = some o) (sl : h.UpToSlots h') : Kp fr h₀ h' :=
 ⟨fun b o f q=>k b o (fun z=>by rw [z,n] at q; exact no_none q) f (x.keep b o f q),x.slots.trans sl⟩
theorem uee_exc : isSubtype (.type "UnicodeEncodeError") (.type "BaseException") = pure true:=by rw [isSubtype_type]; kernel_rfl
theorem uee_ntup : isSubtype (.type ((Manifest.find? "UnicodeEncodeError").elim "type" fun x=>x.metatype)) (.type "tuple") = pure false:=by rw [isSubtype_type]; kernel_rfl
theorem try_raise (PO : POk G l P) {e : Expr} {X Y w : Str} {np yp cpos rp rpos hp pos kp : Pos} {kk : Nat}
  (he : ∀ env c φ s A E,Room A l→St G G.h sc env c φ s→abs c = ρ→(∀ φ₁ s₁ v s',Step φ s φ₁ s₁→UMade s₁ v s'→E v s')→wpAny (model G.prog G.w) A (eval e env) (fun _a _a=>False) E s)
  (hX : P.gl X = some (.val (.type "UnicodeEncodeError"))) (nX : nmOk X = true) (kX : sc.names.lookup X = some .globalImplicit) (hY : P.gl Y = some (.val (.type "ValueError"))) (nY : nmOk Y = true) (kY : sc.names.lookup Y = some .globalImplicit) :
  SRai G l sc ρ (.Try [.Return (some e) rp] [.ExceptHandler (some (.Name X np)) none [.Raise (some (.Call (.Name Y yp) [.Constant (.str w) kk kp] [] cpos)) none rpos] hp] [] [] pos) (.type "ValueError") w.cps.toList:=by
 intro env c φ s A E outer R S hc F k
 refine wpAny_Try_except (wpAny_execs_cons ?_)
 rw [exec_Return_some]
 refine wpAny_bind (wpAny_standAt (wpAny_bind (wpAny_mono (he env c φ s A _ R S hc fun φ₁ s₁ v s' x U=>?_) (fun _a _a q=>q.elim) fun _a _a e=>e)))
 obtain ⟨⟨h',tk',eq⟩,keep,e1,t1,vs1,ev,en,he1⟩:=U
 subst ev eq
 have S₁:=S.step x
 have F₁:=F.after x.srel PV.refl
 have own:=F₁.own S₁
 have K1 : Kp (env :: outer) s₁.heap h':=⟨fun b o _a q=>keep b o q,.of_keeps keep⟩
 refine note1 (s:={ s₁ with heap:=h',toks:=tk' }) F₁.st (frames_up own K1.slots) F₁.lo he1 fun h2 T ts q1 q2 q3 q4 q5 q6 q7=>?_
 have K2:=K1.but en q1 q2
 have Tn : s₁.heap.get? T = none:=none_of_ext keep q6
 refine flight1 (s:={ s₁ with heap:=h2,toks:=tk' }) q3 q4 q5 fun h3 ts3 p1 p2 p3 p4=>?_
 have K3:=K2.but Tn (fun b o n _a q=>p1 b o n q) p2
 have g3:=p1 e1 _ q7.symm q3
 have S3:=S₁.slide F₁ (tk:=tk') K3.keep K3.slots
 refine wpAny_handleBy_cons (codeAny_handlers_test ?_) (by intro q; cases q)
 refine wpAny_Name (wpAny_mono (PO.gl X _ hX env φ₁ _ (A.mark (some (.ref e1))) _ S3.kind S3.glo S3.bui (S3.gk X kX) S3.g) (fun v s4 q=>?_) fun _a _a e=>e) (nmOk_parts nX).1
 refine e1a2 q fun φ₄ x₄ r₄=>?_
 rw [r₄.iVal]
 refine e2a1 x₄.eq fun h4 tk4 eq=>?_
 have k4:=x₄.ext
 subst eq
 have K4:=K3.ext k4
 refine wpAny_excMatches_type (X:="UnicodeEncodeError") (b:=true) ⟨_,k4 _ _ g3,rfl⟩ uee_exc uee_ntup ueeN.sub ?_
 refine codeAny_handlers_suite ?_
 refine flight1 (s:={ s₁ with heap:=h4,toks:=tk4 }) (k4 _ _ g3) (k4 _ _ p3) p4 fun h5 ts5 p5 p6 p7 p8=>?_
 have K5:=K4.but Tn (fun b o n _a q=>p5 b o n q) p6
 have g5:=p5 e1 _ q7.symm (k4 _ _ g3)
 have S5:=S₁.slide F₁ (tk:=tk4) K5.keep K5.slots
 refine wpAny_execs_cons (wpAny_mono (raise2 PO S5 rfl g5 hY nY kY fun h6 tk6 e2 t2 tk2 k1 k2 k3 k4' k5 k6=>?_) (fun _a _a q=>q.elim) fun _a _a e=>e)
 have K6:=K5.ext k1
 have gone : ∀ {h : Heap} {b : Addr},Kp (env :: outer) s₁.heap h→h.get? b = none→s₁.heap.get? b = none:=fun {h} {b} K q=>by
  generalize z : s₁.heap.get? b = r_; induction r_ using Option.casesOn with
  | none=>rfl
  | some o =>
   by_cases n : b∈frs (env :: outer)
   ·obtain ⟨_,o',ho',hd⟩:=own.mem n
    obtain ⟨_,z⟩:=K.slots b o' ho' hd
    rw [z] at q; exact no_some q
   ·rw [K.keep b o n z] at q; exact no_some q
 have live : ∀ {b : Addr},s₁.heap.get? b = none→b ∉ frs (env :: outer):=fun {b} q n=>by
  obtain ⟨_,o',ho',hd⟩:=own.mem n
  rw [q] at ho'; exact no_none ho'
 have n2:=gone K5 k2
 have nt:=gone K5 k4'
 show wpAny _ _ (noteFrame (.ref e2) env) _ _ _
 refine note1 (s:={ s₁ with heap:=h6,toks:=tk6 }) F₁.st (frames_up own K6.slots) F₁.lo k3 fun h7 T2 ts7 r1 r2 r3 r4 r5 r6 r7=>?_
 have K7:=K6.but n2 r1 r2
 have nT:=gone K6 r6
 show cameBackBy (model G.prog G.w) A env E (.ref e2) _
 unfold cameBackBy
 refine wpAny_bind (wpAny_field r3 rfl (x:=.ref T2) rfl ?_)
 rw [if_neg (show ¬ ((Value.ref T2 == Value.none) = true) from by simp),F₁.lo]
 unfold setFlight
 refine wpAny_bind (wpAny_field r3 rfl (x:=.ref T2) rfl ?_)
 rw [if_pos (show (Value.ref T2 != Value.none) = true from by simp)]
 refine wpAny_setField r4 rfl r5 ?_
 have u1 : ∀ b o,b≠T2→h7.get? b = some o→(h7.update T2 (Obj.mapFields (·.setIfInBounds 3 ((some env.locals).elim .none fun f=>rawInt f)))).get? b = some o:=fun b o n q=>(Heap.get?_update_other _ _ n.symm).trans q
 have u2:=(Heap.get?_update_self (Obj.mapFields (·.setIfInBounds 3 ((some env.locals).elim .none fun f=>rawInt f))) r4 rfl)
 have u3 : h7.UpToSlots (h7.update T2 (Obj.mapFields (·.setIfInBounds 3 ((some env.locals).elim .none fun f=>rawInt f)))):=fun b o q hd=>⟨o.slots,u1 b o (fun z=>by
  rw [z,r4] at q
  injection q with q
  subst q
  exact hd _ rfl) q⟩
 generalize h7.update T2 (Obj.mapFields (·.setIfInBounds 3 ((some env.locals).elim .none fun f=>rawInt f))) = h8 at u1 u2 u3
 have K8:=K7.but nT (fun b o n _a q=>u1 b o n q) u3
 refine k _ _ ⟨?_,e2,rfl,.inr ⟨t2,tk2,hideAll s₁.heap (frs (env :: outer)),fun b o n f q=>?_,fun b o n q hd=>K8.slots b o (x.ext b o q) hd,.inr ⟨fun b o q=>?_,?_,frames_base (frames_up own K8.slots) fun b hb=>hideAll_none _ hb,_,_,T2,_,_,u1 e2 _ r7.symm r3,⟨rfl,rfl⟩,rfl,rfl,?_,r7,u2,rfl,?_⟩,?_,?_⟩⟩
 ·refine e2a1 x.eq fun a1 a2 a3=>?_
  exact ⟨h8,tk6,by rw [a3]⟩
 ·refine hideAll_get _ (x.ext b o q) fun z=>(frs_mem z).elim (fun w=>n ?_) f
  rw [F₁.lo] at w
  rw [← Option.some.inj w]; exact List.mem_cons_self
 ·refine K8.keep b o (fun z=>?_) (of_hideAll _ q)
  rw [hideAll_none _ z] at q; exact no_none q
 ·generalize z : (hideAll s₁.heap (frs (env :: outer))).get? e2 = r_; induction r_ using Option.casesOn with
  | none=>rfl
  | some o=>have:=of_hideAll _ z; rw [n2] at this; exact no_none this
 ·generalize z : (hideAll s₁.heap (frs (env :: outer))).get? T2 = r_; induction r_ using Option.casesOn with
  | none=>rfl
  | some o=>have:=of_hideAll _ z; rw [nT] at this; exact no_none this
 ·show (ts7.setIfInBounds 3 (rawInt env.locals))[3]? = _
  rw [Array.getElem?_setIfInBounds_self_of_lt r5]
 ·have tT : t2≠T2:=fun z=>by
   rw [z] at k6
   have:=r6
   rw [k6] at this; exact no_some this
  exact ⟨_,0,u1 t2 _ tT (r1 t2 _ k5 (live nt) k6),rfl,rfl⟩
 ·generalize z : (hideAll s₁.heap (frs (env :: outer))).get? t2 = r_; induction r_ using Option.casesOn with
  | none=>rfl
  | some o=>have:=of_hideAll _ z; rw [nt] at this; exact no_none this
end
section
variable {G : Gd} {l : Nat} {V : EvF} {P : Pg} {sc : Scope} {ρ : Rho} {hb : Heap} {env : Env} {c : List CE} {φ : Fz} {s : Shared} {A : Around} {E : Value→Shared→Prop}
theorem mcall_U (PO : POk G l P) (O : VOk G l V) (R : Room A l) (hc : abs c = ρ) {o : Expr} {n : Str} {apos pos : Pos} {args : List Expr} {kws : List Keyword} {d₀ : D} {ds fs : List D} {ks : List (Str×D)} {f : Value}
  (hg : (attrBaseOk o && apos.endLine == pos.line && decide (args.length + kws.length < 20)) = true) (hd : V.e sc ρ o = some d₀) (hds : evs (V.e sc ρ) args = some ds) (hks : evk (V.e sc ρ) kws = some ks) (hm : P.mt d₀ n = some (f,fs)) (hK : KeepOk G f)
  (run : ∀ vs kvs φ' s',Step φ s φ' s'→RepL φ' vs (fs ++ ds)→RepK φ' kvs ks→wpAny (model G.prog G.w) A (call f vs kvs) (fun _a _a=>False) E s') (S : St G hb sc env c φ s) :
  wpAny (model G.prog G.w) A (eval (.Call (.Attribute o n apos) args kws pos) env) (fun _a _a=>False) E s:=by
 refine and_e hg fun hg hn=>?_
 refine and_e hg fun hab hline=>?_
 have hn:=of_decide_eq_true hn
 have hform : methodCallForm (args.length + kws.length) (backTo pos (starEach args env)) (backToKw pos (keywordEach kws env)) = true:=by
  unfold methodCallForm
  have h1 : (backTo pos (starEach args env)).all (!·.1) = true:=by
   rw [← List.not_any_eq_all_not,noStar (env:=env) pos hds]; rfl
  rw [h1,(evk_ok (pos:=pos) (A:=A) (E:=E) O R hc hks S).2.1]
  simp only [Bool.true_and,decide_eq_true_eq]
  split <;> lia
 rw [arm_eval_Call,attrBase_ok hab]
 refine wpAny_bind (O.then hd R S hc fun v φ₁ s₁ y₁ S₁ r₁=>wpAny_bind (wpAny_standAt ?_))
 unfold methodCall
 rw [hform]
 refine wpAny_bind (wpAny_holding ?_)
 unfold calleeOf
 rw [if_pos rfl]
 refine wpAny_mono (PO.mt _ _ _ _ hm v φ₁ s₁ A E _ S₁.g R r₁) (fun r s₂ q=>?_) fun _a _a e=>e
 obtain ⟨f',first⟩:=r
 obtain ⟨rfl,φ₂,y₂,rf⟩:=q
 have hp : methodCallPos true o env apos pos = pure pos:=by
  unfold methodCallPos; rw [hline]; rfl
 refine wpAny_bind (wpAny_of_eq hp ?_)
 obtain ⟨kp,hk,L⟩:=hK
 have S₂:=S₁.step y₂
 have k0:=evk_ok (pos:=pos) (A:=A) (E:=E) O R hc hks S₂
 refine callWith_go (noStar pos hds) k0.2.1 (wpAny_mono (evs_ok O R hc hds S₂) (fun vs s₃ q=>?_) fun _a _a e=>e)
 refine e1a2 (q) fun φ₃ x₃ r₃=>?_
 have S₃:=S₂.step x₃
 have k1:=evk_ok (pos:=pos) (A:=A) (E:=E) O R hc hks S₃
 refine wpAny_mono k1.1 (fun kvs s₄ q=>?_) fun _a _a e=>e
 refine e1a2 (q) fun φ₄ x₄ r₄=>?_
 have S₄:=S₃.step x₄
 refine ⟨⟨kp,hk,(L _).keeps S₄.g.keep⟩,?_⟩
 rw [k1.2.2]
 exact run _ _ φ₄ s₄ (((y₁.trans y₂).trans x₃).trans x₄) ((rf.mono fun a o e=>x₄.up a o (x₃.up a o e)).append (r₃.mono x₄.up)) (repK_zip r₄)
theorem encode_bad {prog : Program} {w : World} {x : List Nat} {t u : Tok} (hb0 : ∃ c∈x,¬ c < 128) (hz : x.length≤lim) (hh : A.handled = none) (hE : ∀ v s',UMade s v s'→E v s') :
  wpAny (model prog w) A (call (.builtin "str.encode") [.str ⟨x.toArray⟩ t,.str ⟨wAscii.toArray⟩ u]) (fun _a _a=>False) E s:=by
 rw [wAscii_eq]
 refine wpAny_call_entry F.slot_str_encode (typeIs_str _ _ _) F.entry_str_encode ?_ (F.args_str_encode_2 _ _)
 rw [encode_tree2,encodeRoad_ascii]
 unfold lim at hz
 refine wpAny_bind (wpAny_bind (wpAny_mono (enc_bad (by simpa using hb0) (by rw [str_len]; exact hz) hh fun v s' U=>?_) (fun _a _a q=>q.elim) fun _a _a e=>e))
 exact hE v s' U
end
section
variable {G : Gd} {pr : Params} {mg mb : Str→Option Value}
theorem r_bytes (B : Bs G (KK pr) mg mb) (n : Nat) (x : List Nat) (hx : ∃ c∈x,¬ c < 128) (hz : x.length≤lim) : RaiseOk G (2 * n + 1) (.ref 29) [.str x] [] (.type "ValueError") wAsc:=by
 refine df_rai B df_29 rfl fun sc bd g1 g2=>?_
 (conv at g1=>(lhs; whnf)); (conv at g2=>(lhs; whnf)); subst g1 g2
 have PO:=PN_ok B (tab_ok B) n
 have O:=evN_ok PO fuelN
 have e2:=w_ascii
 refine SRai.cons (SRai.if_ O (by (simp +decide only [jh,ji,jj,↓jH,j3,j4,j5,kv,qG,qP,qQ,qR,ya,yo,fuelN,yr,yv,yB,yJ,yK,we,rho0,bindsD,List.reverse_cons,List.reverse_nil,List.nil_append,↓reduceIte,wo,wv,wY,vW,uc, *])) (SRai.cons (try_raise PO (fun env c φ s A E R S hc k=>?_) (gl_UnicodeEncodeError n) (by decide +kernel) rfl (gl_ValueError n) (by decide +kernel) rfl)))
 refine mcall_U PO O R hc (d₀:=.str x) (ds:=[.str wAscii]) (fs:=[.str x]) (ks:=[]) (f:=.builtin "str.encode") rfl (by (simp +decide only [j3,qG,fuelN,yr,yu,rho0,bindsD,List.reverse_cons,List.reverse_nil,List.nil_append, *])) (by (simp +decide only [jG,j3,qP,qQ,fuelN,yB,xT,rho0,bindsD,List.reverse_cons,List.reverse_nil,List.nil_append, *])) rfl (by rw [vh]; exact wJ) (keep_builtin _) (fun vs kvs φ' s' y r rk=>?_) S
 refine r.sCons fun v1 vs r1 r=>?_
 refine r.sCons fun v2 vs r2 r=>?_
 refine r.sNil ?_
 refine r1.sStr fun t1=>?_
 refine r2.sStr fun t2=>?_
 have hk : kvs = []:=List.map_eq_nil_iff.mp rk.1
 subst hk
 exact encode_bad hx hz R.handled fun v s'' U=>k φ' s' v s'' y U
end
section
open Builtin Builtin.Str Builtin.BaseException Builtin.Exceptions
variable {prog : Program} {w : World} {A : Around} {E : Value→Shared→Prop} {s : Shared} {e t0 : Addr} {o : Obj} {vs : Array Value}
 {nm q : Str} {C N : Addr} {bs bm : List Value} {hdct : Bool} {sn : List Str} {sub : List Value} {ab : Bool} {col : Option Bool} {dd : Option Addr} {k0 k1 k2 k3 k5 : Option Value} {newId : String} {mN : Str→Option Value}
structure OwnX (C N : Addr) (bm : List Value) (h : Heap) (e : Addr) (m : Str) (tk : Tok) : Prop where
 cls : ∃ nm q bs hdct sn sub ab col dd k0 k1 k2 k3 k5 newId,h.get? C = some (excClassObj nm q C N bs bm hdct sn sub ab col dd k0 k1 k2 k3 k5 newId)
 ns : ∃ mN,h.Ns N mN∧mN "__str__" = none
 base : bm.contains (.type "BaseException") = true
 mro : mroOf (.type "ValueError") = pure bm
 obj : ∃ o vs t0,h.get? e = some o∧o.cls = .ref C∧o.data = .fields vs∧vs[0]? = some (.ref t0)∧h.TupAt t0 [.str m tk]
theorem bexcArgs_own {M : Model} {items : List Value} {Q : Value×List Value→Shared→Prop} (ho : s.heap.get? e = some o) (hd : o.data = .fields vs) (h0 : vs[0]? = some (.ref t0)) (ht : s.heap.TupAt t0 items) (hq : Q (.ref t0,items) s) :
  wpAny M A (bexcArgs (.ref e)) Q E s:=by
 obtain ⟨ot,k,hto,_,htd⟩:=ht
 unfold bexcArgs
 refine wpAny_bind (wpAny_field ho hd h0 (wpAny_bind (wpAny_seqItems hto htd ?_)))
 have : items.toArray.toList = items:=by simp
 show wpAny M A (pure (Value.ref t0,items.toArray.toList)) Q E s
 rw [this]; exact wpAny_pure hq
theorem check_str_own {M : Model} {hp : Heap} {g : Array GenState} {d : Drawn} {tk0 : Nat} {os : OsState} {Q : Unit→Shared→Prop} (hC : hp.get? C = some (excClassObj nm q C N bs bm hdct sn sub ab col dd k0 k1 k2 k3 k5 newId)) (ho : hp.get? e = some o) (hc : o.cls = .ref C) (hcB : (Value.ref C :: bm).contains (.type "BaseException") = true) (hq : Q () ⟨hp,g,d,tk0,os⟩) :
  wpAny M A (checkBuiltinCall "BaseException.__str__" ⟨[.ref e],[]⟩) Q E ⟨hp,g,d,tk0,os⟩:=by
 have hk : builtinKind "BaseException.__str__" = some .slot:=by decide +kernel
 have hsplit : splitId "BaseException.__str__" = some ("BaseException", "__str__"):=by decide +kernel
 have ha:=F.args_bexc_str (.ref e)
 simp only [checkBuiltinCall,hk,hsplit]
 refine wpAny_bind ?_
 ·unfold isInstance
  repeat (first | (with_reducible refine wpAny_loadPart_at ho ?_; rw [hc]) | (with_reducible refine wpAny_isSubtype_exc hC ?_; rw [hcB]) | wp_step)
  exact hq
theorem strOf_own {m : Str} {tk : Tok} {Q : Value→Shared→Prop} (X : OwnX C N bm s.heap e m tk) (hu : A.units < cLine) (hq : Q (.str m tk) s) : wpAny (model prog w) A (Builtin.Str.strOf (.ref e)) Q E s:=by
 obtain ⟨nm,q,bs,hdct,sn,sub,ab,col,dd,k0,k1,k2,k3,k5,newId,hC⟩:=X.cls
 obtain ⟨mN,hN,hn⟩:=X.ns
 obtain ⟨o,vs,t0,ho,hc,hd,h0,ht⟩:=X.obj
 obtain ⟨hp,g,d,tk0,os⟩:=s
 have FX:=F.excStr_ValueError.str
 have hcB : (Value.ref C :: bm).contains (.type "BaseException") = true:=by rw [List.contains_cons,X.base,Bool.or_true]
 unfold Builtin.Str.strOf
 rw [if_neg (show ¬ isExactStr (.ref e) = true from Bool.false_ne_true)]
 refine wpAny_bind (wpAny_cRoomFor hu ?_)
 refine wpAny_bind ?_
 simp only [callSpecial?,specialOf,typeOf]
 refine wpAny_bind (wpAny_bind (wpAny_bind (wpAny_loadPart_at ho (wpAny_pure ?_))))
 rw [hc]
 refine wpAny_typeLookup_exc hC hN X.mro FX.lookup ?_
 rw [hn]
 dsimp only
 refine wpAny_holding ?_
 rw [FX.bind]
 refine wpAny_bind (wpAny_pure (wpAny_bind (wpAny_call (codeAny_call_builtin FX.plain F.entry_bexc_str ?_))))
 refine check_str_own hC ho hc hcB ?_
 show wpAny _ _ (Builtin.«BaseException.__str__» ⟨[.ref e],[]⟩) _ _ _
 unfold Builtin.«BaseException.__str__»
 repeat (first | with_reducible refine bexcArgs_own ho hd h0 ht ?_ | wp_step)
 exact hq
theorem str_of_own {m : Str} {tk : Tok} {Q : Value→Shared→Prop} (X : OwnX C N bm s.heap e m tk) (hu : A.units + 2 < cLine) (h : Q (.str m tk) s) : wpAny (model prog w) A (call (.type "str") [.ref e]) Q E s :=
 callType_new F.called_str (by decide) (F.typeCall_str_1 _) (F.newCall_str_1 _) (fun obj=>F.args_object_init_2 obj _) F.entry_str_new
  (meets_str_new (S:=fun A' R s'=>A'.units + 1 < cLine∧OwnX C N bm s'.heap e m tk∧R (.ok (.ret (.str m tk))) s')
   fun _a _a A' _a _a hq=>strOf_own (A:=A'.in1) hq.2.1 hq.1 hq.2.2)
  ⟨(show A.units + 1 + 1 < cLine from hu),X,typeIs_str _ _ _,h⟩
end
section
variable {G : Gd} {l : Nat} {V : EvF} {P : Pg} {sc : Scope} {ρ : Rho} {env : Env} {c : List CE} {φ : Fz} {s : Shared} {A : Around} {E : Value→Shared→Prop} {outer : List Env} {cls : Value} {msg : List Nat}
structure Slide (outer : List Env) (φ : Fz) (s : Shared) (φ' : Fz) (s' : Shared) : Prop where
 eq : ∃ h' tk,s' = { s with heap:=h',toks:=tk }
 kp : Kp outer s.heap s'.heap
 up : ∀ a o,φ a = some o→φ' a = some o
 new : ∀ a o,φ' a = some o→φ a = some o∨s.heap.get? a = none
 fin : ∀ a o,φ' a = some o→s'.heap.get? a = some o
structure ClsOk (G : Gd) (cls : Value) : Prop where
 mt : ∀ (s : Shared) (e : Addr) (o : Obj) (A : Around) (E : Value→Shared→Prop) (Q : Bool→Shared→Prop),(∀ b o,G.h.get? b = some o→s.heap.get? b = some o)→s.heap.get? e = some o→o.cls = cls→Q true s→wpAny (model G.prog G.w) A (excMatches (.ref e) (.type "ValueError")) Q E s
 st : ∀ (s : Shared) (e t : Addr) (o : Obj) (vs : Array Value) (m : Str) (tk : Tok) (A : Around) (E : Value→Shared→Prop) (Q : Value→Shared→Prop),(∀ b o,G.h.get? b = some o→s.heap.get? b = some o)→s.heap.get? e = some o→o.cls = cls→o.data = .fields vs→vs[0]? = some (.ref t)→s.heap.TupAt t [.str m tk]→A.units + 2 < cLine→Q (.str m tk) s →
  wpAny (model G.prog G.w) A (call (.type "str") [.ref e]) Q E s
theorem ve_ntup : isSubtype (.type ((Manifest.find? "ValueError").elim "type" fun x=>x.metatype)) (.type "tuple") = pure false:=by rw [isSubtype_type]; kernel_rfl
theorem clsOk_ve : ClsOk G (.type "ValueError") :=
 ⟨fun s e o A E Q _a ho hc hq=>wpAny_excMatches_type (X:="ValueError") (b:=true) ⟨o,ho,hc⟩ PySem.F.excRaise_ValueError.isExc ve_ntup PySem.F.excCall_ValueError.sub hq,
  fun s e t o vs m tk A E Q _a ho hc hd h0 ht hu hq=>P.str_of_exc_one PySem.F.excStr_ValueError hu ⟨o,vs,ho,hc,hd,h0⟩ ht hq⟩
theorem clsOk_err {pr : Params} {mg mb : Str→Option Value} (B : Bs G (KK pr) mg mb) : ClsOk G (.ref 39) :=
 ⟨fun s e o A E Q g ho hc hq=>by
  obtain ⟨h0,gg,d,tk,os⟩:=s
  exact wpAny_excMatches_sub_type (g _ _ (err_at B)) ho hc PySem.F.excRaise_ValueError.isExc ve_ntup hq,
  fun s e t o vs m tk A E Q g ho hc hd h0 ht hu hq=>str_of_own (C:=39) (N:=38) (bm:=[.type "ValueError",.type "Exception",.type "BaseException",.type "object"])
   ⟨⟨_,_,_,_,_,_,_,_,_,_,_,_,_,_,_,g _ _ (err_at B)⟩,⟨_,(err_ns B).keeps g,err_str B⟩,rfl,PySem.F.excBase_ValueError.mroIs,o,vs,t,ho,hc,hd,h0,ht⟩ hu hq⟩
end
section
variable {G : Gd} {l : Nat} {V : EvF} {P : Pg} {sc : Scope} {ρ : Rho} {env : Env} {c : List CE} {φ : Fz} {s : Shared} {A : Around} {E : Value→Shared→Prop} {outer : List Env} {cls : Value} {msg : List Nat}
theorem fly_ext {B h h' : Heap} {fr : List Env} {e : Addr} {a0 : Value} (x : Heap.FlyingW B fr e cls a0 h) (k : ∀ b o,h.get? b = some o→h'.get? b = some o) : Heap.FlyingW B fr e cls a0 h':=by
 obtain ⟨f1,f2,f3,oe,vs,T,oT,ts,a1,a2,a3,a4,a5,a6,a7,a8⟩:=x
 exact ⟨fun b o q=>k b o (f1 b o q),f2,f3.of_keeps fun b o q _a=>⟨o,k b o q,rfl⟩,oe,vs,T,oT,ts,k _ _ a1,a2,a3,a4,a5,a6,k _ _ a7,a8⟩
theorem no_dict {h : Heap} {L a : Addr} {m : Str→Option Value} {o : Obj} (hn : h.Ns L m) (ho : h.get? a = some o) (hd : ∀ es n,o.data≠.dict es n) : a≠L:=fun z=>by
 obtain ⟨o',es,ep,ho',hd',_⟩:=hn
 rw [z,ho'] at ho
 exact hd es ep (Option.some.inj ho ▸ hd')
theorem try_as (PO : POk G l P) (CK : ClsOk G cls) {ce c1 : Expr} {Vn Sn n : Str} {tk1 tk2 kb : Nat} {tp rp np bp sp np2 cp tp2 rp2 hp pos : Pos} {Q : Flow→Shared→Prop} (R : Room A l) (S : St G G.h sc env c φ s) (F : Fr1 G env c φ s A outer) (ok : okE ce = true)
  (hce : ∀ E : Value→Shared→Prop,(∀ φ₁ s₁ v s',Step φ s φ₁ s₁→Fly (env :: outer) cls msg s₁ v s'→E v s')→wpAny (model G.prog G.w) A (eval ce env) (fun _a _a=>False) E s)
  (hV : P.gl Vn = some (.val (.type "ValueError"))) (nV : nmOk Vn = true) (kV : sc.names.lookup Vn = some .globalImplicit) (hS : P.gl Sn = some (.val (.type "str"))) (nS : nmOk Sn = true) (kS : sc.names.lookup Sn = some .globalImplicit)
  (kn : env.kindOf n = some .local) (nn : nmOk n = true)
  (k : ∀ w s' φ',(∃ h' tk,s' = { s with heap:=h',toks:=tk })→(∀ b o,b ∉ frs (env :: outer)→s.heap.get? b = some o→s'.heap.get? b = some o)→(∀ b o,b≠env.locals→s.heap.get? b = some o→(∀ vs,o.data≠.fields vs)→∃ sl,s'.heap.get? b = some { o with slots:=sl }) →
   (∀ a o,φ a = some o→φ' a = some o)→(∀ a o,φ' a = some o→φ a = some o∨s.heap.get? a = none)→(∀ a o,φ' a = some o→s'.heap.get? a = some o)→Rep φ' w (.tup [.bytes [],.str msg])→Q (.ret w) s') :
  wpAny (model G.prog G.w) A (exec (.Try [.Return (some (.Tuple [ce,c1] tk1 tp)) rp] [.ExceptHandler (some (.Name Vn np)) (some n) [.Return (some (.Tuple [.Constant (.bytes []) kb bp,.Call (.Name Sn sp) [.Name n np2] [] cp] tk2 tp2)) rp2] hp] [] [] pos) env) Q E s:=by
 refine wpAny_Try_except (wpAny_execs_cons ?_)
 rw [exec_Return_some]
 refine wpAny_bind (wpAny_standAt (wpAny_bind (PyProof.Rows.Tuple_ ?_)))
 have h3 : backTo tp (starEach [ce,c1] env) = (false,eval ce env) :: backTo tp (starEach [c1] env):=by rw [starEach_ok ok]; rfl
 rw [h3]
 refine Calls.spliced_cons (wpAny_mono (hce _ fun φ₁ s₁ v s' x Fl=>?_) (fun _a _a q=>q.elim) fun _a _a e=>e)
 obtain ⟨⟨h',tk',eq⟩,sl,e,t,tk,B,ev,kB,fl,tpl,nt⟩:=Fl
 subst ev eq
 have S₁:=S.step x
 have F₁:=F.after x.srel PV.refl
 refine wpAny_looks_onW (s:={ s₁ with heap:=h',toks:=tk' }) F₁.st F₁.lo fl fun h4 hheld sm4=>?_
 refine wpAny_landsW (s:={ s₁ with heap:=h4,toks:=tk' }) hheld fun h5 fl5 sm5=>?_
 have K5 : Kp (env :: outer) s₁.heap h5:=⟨fun b o n q=>fl5.1 b o (kB b o n q),(sl.trans sm4).trans sm5⟩
 have S5:=S₁.slide F₁ (tk:=tk') K5.keep K5.slots
 have tp5 : h5.TupAt t [.str ⟨msg.toArray⟩ tk]:=(tpl.of_slots sm4).of_slots sm5
 refine wpAny_handleBy_cons (codeAny_handlers_test ?_) (by intro q; cases q)
 refine wpAny_Name (wpAny_mono (PO.gl Vn _ hV env φ₁ _ (A.mark (some (.ref e))) _ S5.kind S5.glo S5.bui (S5.gk Vn kV) S5.g) (fun v s6 q=>?_) fun _a _a e=>e) (nmOk_parts nV).1
 refine e1a2 q fun φ₆ x₆ r₆=>?_
 rw [r₆.iVal]
 refine e2a1 x₆.eq fun h6 tk6 eq=>?_
 have k6:=x₆.ext
 subst eq
 clear q x₆ r₆
 obtain ⟨oe,vs,hoe,hoec,hoed,h0⟩:=fl5.first
 refine CK.mt _ e oe _ _ _ (fun b o q=>k6 b o (S5.g.keep b o q)) (k6 _ _ hoe) hoec ?_
 refine codeAny_handlers_suite_as ?_
 refine lands_againW (s:={ s₁ with heap:=h6,toks:=tk6 }) (fly_ext fl5 k6) fun h7 fl7 sm7=>?_
 have K7 : Kp (env :: outer) s₁.heap h7:=⟨fun b o n q=>fl7.1 b o (kB b o n q),(K5.ext k6).slots.trans sm7⟩
 have S7:=S₁.slide F₁ (tk:=tk6) K7.keep K7.slots
 obtain ⟨oe7,vs7,hoe7,hoec7,hoed7,h07⟩:=fl7.first
 have tp7 : h7.TupAt t [.str ⟨msg.toArray⟩ tk]:=(tp5.keeps k6).of_slots sm7
 refine e1a2 S7.vars fun m hn _a=>?_
 have ne : e≠env.locals:=no_dict hn hoe7 fun es n q=>by rw [hoed7] at q; cases q
 have ntl : t≠env.locals:=by
  obtain ⟨ot,n',ho,_,hd⟩:=tp7
  exact no_dict hn ho fun es n q=>by rw [hd] at q; cases q
 have hpf : (env.scope.kind == .class || (env.scope.kind == .module && env.locals != env.globals)) = false:=by rw [S.kind]; rfl
 refine wpAny_storeName_local kn hn (fun h8 ns8 sb8=>?_) hpf
 have k8 : ∀ b o,b≠env.locals→h7.get? b = some o→h8.get? b = some o:=fun b o n q=>(sb8.2 b n).trans q
 have fin8 : ∀ a o,φ₁ a = some o→h8.get? a = some o:=fun a o q=>k8 a o (fun z=>by rw [z,S₁.pfz _ List.mem_cons_self] at q; exact no_none q) (S7.g.fin a o q)
 have hole : ∀ {a : Addr},h8.get? a = none→s₁.heap.get? a = none:=fun {a} z=>by
  generalize y : s₁.heap.get? a = r_; induction r_ using Option.casesOn with
  | none=>rfl
  | some o =>
   by_cases hL : a = env.locals
   ·obtain ⟨oL,_,_,hL',_⟩:=ns8
    rw [hL,hL'] at z; exact no_some z
   ·by_cases hf : a∈frs (env :: outer)
    ·obtain ⟨_,o',ho',hd⟩:=(F₁.own S₁).mem hf
     obtain ⟨_,w⟩:=K7.slots a o' ho' hd
     rw [k8 _ _ hL w] at z; exact no_some z
    ·rw [k8 _ _ hL (K7.keep a o hf y)] at z; exact no_some z
 refine wpAny_execs_cons ?_
 rw [exec_Return_some]
 refine wpAny_bind (wpAny_standAt (wpAny_bind (PyProof.Rows.Tuple_ ?_)))
 have h3' : backTo tp2 (starEach [.Constant (.bytes []) kb bp,.Call (.Name Sn sp) [.Name n np2] [] cp] env) = (false,eval (.Constant (.bytes []) kb bp) env) :: (false,eval (.Call (.Name Sn sp) [.Name n np2] [] cp) env) :: []:=rfl
 rw [h3']
 refine Calls.spliced_cons (wpAny_mono (const_ok (φ:=φ₁) (k:=.bytes []) (d:=.bytes []) rfl fin8) (fun v1 s9 q=>?_) fun _a _a e=>e)
 refine e1a2 q fun φ₉ x₉ r₉=>?_
 have g9 : Gnd G φ₉ s9:=⟨fun b o z=>x₉.up b o (S₁.g.gnd b o z),x₉.fin⟩
 refine Calls.spliced_cons (wpAny_Call_ofName (wpAny_Name (wpAny_mono (PO.gl Sn _ hS env φ₉ s9 (A.mark (some (.ref e))) _ S.kind S.glo S.bui (S.gk Sn kS) g9) (fun v2 s10 q=>?_) fun _a _a e=>e) (nmOk_parts nS).1))
 refine e1a2 q fun φ₁₀ x₁₀ r₁₀=>?_
 rw [r₁₀.iVal]
 have xx:=x₉.trans x₁₀
 have h3'' : backTo cp (starEach [.Name n np2] env) = (false,eval (.Name n np2) env) :: []:=rfl
 rw [h3'']
 refine callWith_excType rfl (Calls.evalArgs_plain (Calls.spliced_cons (wpAny_Name (wpAny_loadName_local S.kind kn (ns8.keeps xx.ext) (if_pos rfl) (Calls.spliced_nil ?_)) (nmOk_parts nn).1)))
 refine CK.st s10 e t oe7 vs7 ⟨msg.toArray⟩ tk _ _ _ (fun b o z=>xx.ext b o (fin8 b o (S₁.g.gnd b o z))) (xx.ext _ _ (k8 _ _ ne hoe7)) hoec7 hoed7 h07 ?_ ?_ ?_
 ·obtain ⟨ot,n',ho,hc,hd⟩:=tp7
  exact ⟨ot,n',xx.ext _ _ (k8 _ _ ntl ho),hc,hd⟩
 ·have:=R.units
  show A.units + 2 < cLine
  lia
 refine Calls.spliced_nil (wpAny_mono (newTuple_ok (φ:=φ₁₀) (ds:=[.bytes [],.str msg]) xx.fin (.cons (r₉.mono x₁₀.up) (.cons (.str _ _) .nil)) (by show 2≤lim; decide)) (fun w s11 q=>wpAny_pure ?_) fun _a _a e=>e)
 refine e1a2 q fun φ₁₁ x₁₁ r₁₁=>?_
 have xy:=xx.trans x₁₁
 show wpAny _ A (do bindName env n .none; unbindBehindTheSuite env n hp) _ _ _
 refine wpAny_nameGoes kn (ns8.keeps xy.ext) hpf fun h12 m12 ns12 sb12=>?_
 have k12 : ∀ b o,b≠env.locals→h7.get? b = some o→h12.get? b = some o:=fun b o z q=>(sb12.2 b z).trans (xy.ext b o (k8 b o z q))
 refine e2a1 xy.eq fun a1 a2 a3=>?_
 refine e2a1 x.eq fun a4 a5 a6=>?_
 have nl : ∀ b o,b ∉ frs (env :: outer)→s₁.heap.get? b = some o→b≠env.locals:=fun b o z q y=>z (y ▸ frs_hd F₁.lo)
 refine k w _ φ₁₁ ⟨h12,s11.toks + 1,by rw [a3,a6]⟩ (fun b o z q=>k12 b o (nl b o z (x.ext b o q)) (K7.keep b o z (x.ext b o q))) (fun b o z q hd=>?_) (fun a o q=>xy.up a o (x.up a o q)) (fun a o q=>?_) (fun a o q=>?_) r₁₁
 ·obtain ⟨sl,y⟩:=K7.slots b o (x.ext b o q) hd
  exact ⟨sl,k12 b _ z y⟩
 ·rcases xy.new a o q with z | z
  ·exact x.new a o z
  ·refine .inr (none_of_ext x.ext (hole z))
 ·refine (sb12.2 a fun z=>?_).trans (xy.fin a o q)
  rcases xy.new a o q with y | y
  ·rw [z,S₁.pfz _ List.mem_cons_self] at y; exact no_none y
  ·rw [z] at y
   obtain ⟨oL,_,_,hL,_⟩:=ns8
   rw [hL] at y; exact no_some y
end
section
variable {G : Gd} {pr : Params} {mg mb : Str→Option Value} {φ : Fz} {s : Shared} {A : Around} {E : Value→Shared→Prop} {outer : List Env} {cls : Value} {msg : List Nat}
theorem read_exc (B : Bs G (KK pr) mg mb) (n : Nat) (x : List Nat) (CK : ClsOk G cls) (RK : RaiseOk G (2 * n) (.ref 102) [.str x,.str [32,9]] [] cls msg) {v : Value} {Q : Value→Shared→Prop} (g : Gnd G φ s) (R : Room A (2 * n + 1)) (r : Rep φ v (.str x)) (Fr : Frms G φ s A outer)
  (k : ∀ w s' φ',Slide outer φ s φ' s'→Rep φ' w (.tup [.bytes [],.str msg])→Q w s') : wpAny (model G.prog G.w) A (call (.ref 203) [v] []) Q E s:=by
 have q:=(tab_ok B).df 203 _ df_203
 refine e0a2 (q.bd [.str x] [] _ rfl) fun h1 h2=>?_
 refine wpAny_call (def_enter B.lim q.at' h1 h2 g R (.one r) ⟨rfl,.nil⟩ fun c s₁ I=>?_)
 have I : Inn G (F 203) 203 _ φ s c s₁:=I
 show wpAny (model G.prog G.w) (A.deeper (callEnvC (F 203) s.heap.objs.size 203)) (execs (bodyOf (F 203)) (callEnvC (F 203) s.heap.objs.size 203)) _ _ s₁
 have F1:=I.fr Fr
 have kn : (callEnvC (F 203) s.heap.objs.size 203).kindOf "error" = some .local:=by kernel_rfl
 have PO:=PN_ok B (tab_ok B) n
 have O:=evN_ok PO fuelN
 have w1:=w_st
 have St:=I.st
 have ab:=I.ab
 revert St ab
 generalize g1 : (F 203).scope = sc
 generalize g2 : bodyOf (F 203) = bd
 (conv at g1=>(lhs; whnf)); (conv at g2=>(lhs; whnf)); subst g1 g2
 intro St ab
 refine wpAny_execs_cons ?_
 refine try_as PO CK (R.deeper _) St F1 rfl (fun E k=>call_fly O RK (by (simp +decide only [j3,j5,kv,kx,qG,fuelN,yr,yv,rho0,bindsD,List.reverse_cons,List.reverse_nil,List.nil_append,vJ, *])) (by (simp +decide only [jG,↓jH,j3,kv,qP,qQ,fuelN,yB,xT,rho0,bindsD,List.reverse_cons,List.reverse_nil,List.nil_append, *])) (by (simp +decide only [j3,kv,qR,fuelN,rho0,bindsD,List.reverse_cons,List.reverse_nil,List.nil_append, *])) (R.deeper _) St ab F1 k) (gl_ValueError n) (by decide +kernel) rfl (uc n) (by decide +kernel) rfl kn (by decide +kernel) fun w s' φ' z1 z2 z3 z4 z5 z6 rw'=>?_
 have low : ∀ b o,s.heap.get? b = some o→b≠(callEnvC (F 203) s.heap.objs.size 203).locals:=fun b o e z=>by
  rw [z,I.low _ List.mem_cons_self] at e; exact no_none e
 refine k w s' φ' ⟨?_,⟨fun b o f e=>z2 b o (fun z=>(frs_mem z).elim (fun y=>?_) f) (I.keep b o e),fun b o e hd=>z3 b o (low b o e) (I.keep b o e) hd⟩,z4,fun a o e=>(z5 a o e).imp id fun y=>none_of_ext I.keep y,z6⟩ rw'
 ·refine e2a1 z1 fun a1 a2 a3=>?_
  refine e2a1 I.same fun a4 a5 a6=>?_
  exact ⟨a1,a2,by rw [a3,a6]⟩
 ·rw [F1.lo] at y
  exact low b o e (Option.some.inj y).symm
end
section
variable {G : Gd} {l : Nat} {V V' : EvF} {P : Pg} {sc : Scope} {ρ : Rho} {env : Env} {c : List CE} {φ : Fz} {s : Shared} {A : Around} {E : Value→Shared→Prop} {outer : List Env}
theorem St.slideF (S : St G G.h sc env c φ s) (F : Fr1 G env c φ s A outer) {φ' : Fz} {s' : Shared} (x : Slide (env :: outer) φ s φ' s') : St G G.h sc env c φ' s':=by
 refine e2a1 x.eq fun h' tk eq=>?_
 have kp:=x.kp
 have fin:=x.fin
 subst eq
 have S₁:=S.slide F (tk:=tk) kp.keep kp.slots
 refine e1a2 S₁.vars fun m hn hv=>?_
 refine ⟨⟨fun b o e=>x.up b o (S.g.gnd b o e),fin⟩,S₁.base,S.kind,S.glo,S.bui,S.gk,S.lk,S.nd,S.pnd,fun a ha=>?_,S.pbs,m,hn,fun e he=>⟨(hv e he).1,(hv e he).2.mono x.up fun _a _a _a q=>q⟩⟩
 generalize q : φ' a = r_; induction r_ using Option.casesOn with
 | none=>rfl
 | some o =>
  rcases x.new a o q with z | z
  ·rw [S.pfz a ha] at z; exact no_none z
  ·refine e1a1 (S.privLive a ha) fun o' ho'=>?_
   rw [ho'] at z; exact no_some z
theorem Slide.srel {φ' : Fz} {s' : Shared} (F : Fr1 G env c φ s A []) (x : Slide [env] φ s φ' s') : SRel env c φ s φ' s' :=
 ⟨x.eq,x.up,fun a o e=>(x.new a o e).imp id .inr,fun b o n e=>x.kp.keep b o (fun z=>(frs_mem z).elim (fun w=>n (by rw [F.lo] at w; rw [← Option.some.inj w]; exact List.mem_cons_self)) fun w=>no_mem w) e⟩
theorem call_slide (O : VOk G l V) {f : Value} {z : Str} {p pos : Pos} {args : List Expr} {ds : List D} {d : D} {Q : Value→Shared→Prop} (hK : KeepOk G f) (hf : V.e sc ρ (.Name z p) = some (.val f)) (h1 : evs (V.e sc ρ) args = some ds)
  (run : ∀ vs φ₂ s₂ (Q : Value→Shared→Prop),Gnd G φ₂ s₂→RepL φ₂ vs ds→Frms G φ₂ s₂ A [env]→(∀ w s' φ',Slide [env] φ₂ s₂ φ' s'→Rep φ' w d→Q w s')→wpAny (model G.prog G.w) A (call f vs []) Q E s₂)
  (R : Room A l) (S : St G G.h sc env c φ s) (hc : abs c = ρ) (F : Fr1 G env c φ s A []) (k : ∀ w s' φ',St G G.h sc env c φ' s'→SRel env c φ s φ' s'→Rep φ' w d→Q w s') : wpAny (model G.prog G.w) A (eval (.Call (.Name z p) args [] pos) env) Q E s:=by
 refine wpAny_Call_Name_kw (O.then hf R S hc fun w φ₀ s₀ x₀ S₀ r₀=>?_)
 rw [r₀.iVal]
 obtain ⟨kp,hk,L⟩:=hK
 refine callWith_go (noStar pos h1) rfl (wpAny_mono (evs_ok O R hc h1 S₀) (fun vs s₁ q=>?_) fun _a _a e=>e)
 refine e1a2 (q) fun φ₁ x₁ r₁=>?_
 have S₁:=S₀.step x₁
 have xx:=x₀.trans x₁
 have F₁:=F.after xx.srel PV.refl
 refine wpAny_evalAll_nil ⟨⟨kp,hk,(L _).keeps S₁.g.keep⟩,?_⟩
 exact run _ φ₁ s₁ _ S₁.g r₁ (F₁.frms S₁) fun w s' φ' x r=>k w s' φ' (S₁.slideF F₁ x) (xx.srel.trans PV.refl (x.srel F₁)) r
set_option tactic.hygienic true in
theorem if_ne (O : VOk G l V) {cr cd : Expr} {p pos : Pos} {b : List Stmt} {d1 d2 : D} (ok : okE cd = true)
  (hr : ∀ (Q : Value→Shared→Prop) (E : Value→Shared→Prop),(∀ w s' φ',St G G.h sc env c φ' s'→SRel env c φ s φ' s'→Rep φ' w d1→Q w s')→wpAny (model G.prog G.w) A (eval cr env) Q E s)
  (hd : V.e sc ρ cd = some d2) (hne : cmpD .NotEq d1 d2 = some false) (R : Room A l) (S : St G G.h sc env c φ s) (hc : abs c = ρ) :
  wpAny (model G.prog G.w) A (execs [.If (.Compare cr [.NotEq] [cd] p) b [] pos] env) (SPost G G.h sc env c φ s (.next ρ)) E s:=by
 have hu : A.units + 8 < cLine:=by have:=R.units; lia
 refine wpAny_execs_cons (wpAny_If (wpAny_isTrue_Compare1 (hr _ _ fun w s₁ φ₁ S₁ x₁ r₁=>O.then hd R S₁ hc fun vb φ₂ s₂ y₂ S₂ r₂=>?_) (behind_ok ok)))
 refine cmp_ok S₂.g.fin hu (r₁.mono y₂.up) r₂ hne (wpAny_truthy_bool ?_)
 rw [if_neg Bool.false_ne_true]
 refine wpAny_execs_nil ?_
 exact wpAny_execs_nil ⟨c,φ₂,hc,S₂,x₁.trans PV.refl y₂.srel,PV.refl⟩
set_option tactic.hygienic true in
theorem seq_run (PO : POk G l P) (O : VOk G l V) (O' : VOk G l V') (hV : V.e = stepE P V') {X : Rho→List Stmt→Option SR} (HX : XOk G l sc X) {ρ' : Rho} {rest : List Stmt} {Q : Flow→Shared→Prop} (R : Room A l) :
  ∀ {pre : List Stmt} {ρ : Rho} {c : List CE} {φ : Fz} {s : Shared},stepS P V X sc ρ pre = some (.next ρ')→St G G.h sc env c φ s→abs c = ρ→(∀ c₁ φ₁ s₁,St G G.h sc env c₁ φ₁ s₁→abs c₁ = ρ'→SRel env c φ s φ₁ s₁→PV env c s c₁→wpAny (model G.prog G.w) A (execs rest env) Q E s₁) →
   wpAny (model G.prog G.w) A (execs (pre ++ rest) env) Q E s
 | [],ρ,c,φ,s,h,S,hc,k=>by have e:=some_inv h; cases e; exact k c φ s S hc .refl .refl
 | st :: pre,ρ,c,φ,s,h,S,hc,k=>by
  refine o1_e h fun r₁ h1 h=>?_
  refine wpAny_execs_cons (wpAny_mono (step1_ok PO O O' hV HX h1 G.h env c φ s A E R S hc) (fun f s₁ z=>?_) fun _a _a e=>e)
  induction r₁ using Mine.SR.casesOn <;> induction f using PySem.Flow.casesOn <;> first | exact z.elim | skip
  ·refine e2a4 z fun c₁ φ₁ ab₁ S₁ x₁ p₁=>?_
   exact seq_run PO O O' hV HX R h S₁ ab₁ fun c₂ φ₂ s₂ S₂ a₂ x₂ p₂=>k c₂ φ₂ s₂ S₂ a₂ (x₁.trans p₁ x₂) (p₁.trans x₁ p₂)
  all_goals (have e:=some_inv h; cases e)
end
noncomputable def numN (F : List Nat) : Nat:=F.foldl (fun s f=>64 * s + f) 0
noncomputable def octF (m N : Nat) : List Nat×Nat:=(List.range m).foldl (fun (s : List Nat×Nat) (_ : Nat)=>(s.1 ++ [s.2 % 256],s.2 / 256)) ([],N)
noncomputable def padN (k : Nat) : Nat:=(4 - k % 4) % 4
theorem pad_of {n r : Nat} (h : n % 4 = r) : padN n = (4 - r) % 4:=h ▸ rfl
theorem pad_le (n : Nat) : padN n≤3:=Nat.le_of_lt_succ (Nat.mod_lt _ (by decide))
theorem pad_nz {r : Nat} (h : r≠0) : (4 - r) % 4 = 4 - r:=Nat.mod_eq_of_lt (Nat.sub_lt (by decide) (Nat.pos_of_ne_zero h))
theorem mod4_add {n : Nat} (h : n % 4 = 0) (k : Nat) : (n + k) % 4 = k % 4:=by rw [Nat.add_mod,h,Nat.zero_add,Nat.mod_mod]
theorem n_padm (k : Nat) : binF .Mod (.int (-(k : Int))) (.int 4) = some (.int ((padN k : Nat) : Int)):=by
 have : -(k : Int) % 4 = ((padN k : Nat) : Int):=by unfold padN; lia
 rw [uj,if_pos (by decide),this]
theorem n_pow4 {k : Nat} (hk : k≤16) : binF .Pow (.int 4) (.int (k : Int)) = some (.int ((4 ^ k : Nat) : Int)):=by
 rw [um,if_pos ⟨Int.natCast_nonneg k,zle (Nat.le_trans hk (by decide)),by decide,by decide⟩,Int.toNat_natCast,Int.natCast_pow]; rfl
theorem pow4_b {k : Nat} (h : k≤3) : 0 < 4 ^ k∧4 ^ k≤64:=⟨Nat.pow_pos (by decide),Nat.pow_le_pow_right (n:=4) (by decide) h⟩
theorem sub_pred (n : Nat) : n - (n - 1)≤1:=by
 induction n using Nat.casesOn with
 | zero=>exact Nat.zero_le _
 | succ m=>rw [Nat.succ_sub_one,Nat.succ_sub (Nat.le_refl m),Nat.sub_self]; exact Nat.le_refl _
theorem cut_rev {l : List D} (h : l.length≤lim) : cutD (.list l) none none (some (-1)) = some (.list l.reverse):=by
 have e : cutL (.list l) none none (some (-1)) = some l.reverse:=if_pos ⟨h,rfl,rfl,rfl⟩
 unfold cutD; rw [e]
theorem clip_c (n k : Nat) : (max 0 (min (k : Int) (n : Int))).toNat = min k n:=by
 rcases Nat.le_total k n with h | h
 ·rw [Int.min_eq_left (Int.ofNat_le.mpr h),Int.max_eq_right (Int.natCast_nonneg _),Int.toNat_natCast,Nat.min_eq_left h]
 ·rw [Int.min_eq_right (Int.ofNat_le.mpr h),Int.max_eq_right (Int.natCast_nonneg _),Int.toNat_natCast,Nat.min_eq_right h]
theorem clip_nat (n k : Nat) : clipAt n (k : Int) = min k n:=by
 unfold clipAt
 rw [if_neg (Int.not_lt.mpr (Int.natCast_nonneg k)),clip_c]
theorem clip_end (n : Nat) : clipAt n (-1) = n - 1:=by
 unfold clipAt
 rw [if_pos (by decide)]
 induction n using Nat.casesOn with
 | zero=>rfl
 | succ m =>
  rw [show -1 + ((m + 1 : Nat) : Int) = (m : Int) from (Int.sub_eq_iff_eq_add'.mp (show ((m + 1 : Nat) : Int) - 1 = m from Int.add_sub_cancel m 1)).symm ▸ Int.neg_add_cancel_left 1 m]
  exact (clip_c (m + 1) m).trans (Nat.min_eq_left (Nat.le_succ m))
theorem cut_take {α : Type} (l : List α) (k : Nat) : cut none (some (k : Int)) l = l.take k:=by
 show (l.drop 0).take (clipAt l.length k - 0) = _
 rw [clip_nat,Nat.sub_zero,List.drop_zero]
 rcases Nat.le_total k l.length with h | h
 ·rw [Nat.min_eq_left h]
 ·rw [Nat.min_eq_right h,List.take_of_length_le (Nat.le_refl _),List.take_of_length_le h]
theorem cut_to {l : List D} (h : l.length≤lim) (k : Nat) : cutD (.list l) none (some (k : Int)) none = some (.list (l.take k)):=by
 have e : cutL (.list l) none (some (k : Int)) none = some (cut none (some (k : Int)) l):=if_pos h
 unfold cutD; rw [e,cut_take]
theorem cut_toS {l : List Nat} (h : l.length≤lim) (k : Nat) : cutD (.str l) none (some (k : Int)) none = some (.str (l.take k)):=by
 have e : cutS (.str l) none (some (k : Int)) none = some (.str (cut none (some (k : Int)) l)):=if_pos ⟨rfl,h⟩
 rw [cut_take] at e; exact e
theorem rng_0 (b : Nat) : (rngL 0 (b : Int) 1).map D.int = (List.range b).map fun i : Nat=>D.int (i : Int):=by
 have:=rng_nat 0 b
 rw [show ((0 : Nat) : Int) = 0 from rfl] at this
 rw [this]
 refine List.map_congr_left fun i _a=>?_
 rw [Nat.zero_add]
noncomputable def numU (s : Nat) (j : Option D) : List (Str×LV):=[("number",.fz (.int (s : Int))),("figure",LJ j)]
noncomputable def octU (s : List Nat×Nat) (j : Option D) : List (Str×LV):=[("octets",.ow (natsD s.1)),("number",.fz (.int (s.2 : Int))),("place",LJ j)]
theorem w_eq : (ofString "=").cps.toList = [61]:=by decide +kernel
theorem w_nil : (ofString "").cps.toList = []:=by decide +kernel
theorem strs_map {α : Type} (g : α→List Nat) : ∀ l : List α,strs? (l.map fun a=>D.str (g a)) = some (l.map g)
 | []=>rfl
 | a :: l=>by show o2 (fun a l=>some (a :: l)) (some (g a)) (strs? (l.map fun a=>D.str (g a))) = _; rw [strs_map g l]; rfl
theorem flatten_one (g : Nat→Nat) : ∀ l : List Nat,(l.map fun k=>[g k]).flatten = l.map g
 | []=>rfl
 | a :: l=>by rw [List.map_cons,List.flatten_cons,flatten_one g l]; rfl
theorem joinD_ok {l : List D} {xs : List (List Nat)} (h : strs? l = some xs) (hl : xs.flatten.length≤lim) : joinD [.str [],.list l] = some (.str xs.flatten):=by
 show o1 _ (strs? l) = _
 rw [h]; exact if_pos ⟨rfl,hl⟩
theorem cGo_nats {V : EvF} {scope : Scope} {ρ₀ : Rho} {target elt : Expr} (g : Nat→D) (xs : List Nat) (h : ∀ a,a∈xs→∃ ρ₁,bindT scope ρ₀ target (.int (a : Int)) = some ρ₁∧V.e scope ρ₁ elt = some (g a)) : cGo V scope ρ₀ target [] elt (natsD xs) = some (.list (xs.map g)) :=
 cGo_map (fun k : Nat=>D.int (k : Int)) g xs h
theorem repsC (k c : Nat) : reps k [c] = List.replicate k c:=by
 unfold reps
 induction k with
 | zero=>rfl
 | succ k ih=>rw [List.replicate_succ,List.flatten_cons,ih]; rfl
theorem s_mul {c k : Nat} (h : k≤1000) : binF .Mult (.str [c]) (.int (k : Int)) = some (.str (List.replicate k c)):=by
 rw [bs_mul,if_pos ⟨by rw [Int.toNat_natCast]; exact (Nat.one_mul k).symm ▸ Nat.le_trans h (by decide),zle (Nat.le_trans h (by decide)),zlo k⟩,Int.toNat_natCast,repsC]
noncomputable def colSt (size : Nat) (c s : Nat) : Nat:=if s = 32 then c + 1 else c + (size - c % size)
noncomputable def colN (size : Nat) (lead : List Nat) : Nat:=lead.foldl (colSt size) 0
theorem w_sp : (ofString " ").cps.toList = [32]:=by decide +kernel
theorem w_tb : (ofString "\t").cps.toList = [9]:=by decide +kernel
theorem foldl_map {α β : Type} (g : α→β) : ∀ (l : List α) (s : List β),l.foldl (fun s i=>s ++ [g i]) s = s ++ l.map g
 | [],s=>by simp
 | a :: l,s=>by rw [List.foldl_cons,foldl_map g l,List.map_cons,List.append_assoc]; rfl
noncomputable def strsD (l : List (List Nat)) : List D:=l.map D.str
theorem eqD_ints (xs ys : List Int) : eqD 8 (.list (xs.map D.int)) (.list (ys.map D.int)) = some (decide (xs = ys)):=eqD_list (fun a b=>eqD_int 6 a b) xs ys
section
variable {V : EvF} {scope : Scope} {ρ₀ : Rho} {target elt : Expr}
theorem cGo_g {α : Type} {items : List D} (f g : α→D) (xs : List α) (hi : items = xs.map f) (out : List D) (ho : xs.map g = out) (h : ∀ a,a∈xs→∃ ρ₁,bindT scope ρ₀ target (f a) = some ρ₁∧V.e scope ρ₁ elt = some (g a)) : cGo V scope ρ₀ target [] elt items = some (.list out):=by
 rw [hi,← ho]; exact cGo_map f g xs h
end
theorem itD_bytes {x : List UInt8} (h : x.length≤lim) : itD (.bytes x) = some (x.map fun b=>D.int (b.toNat : Int)):=if_pos h
theorem flatten_oneU {α : Type} (g : α→Nat) : ∀ l : List α,(l.map fun k=>[g k]).flatten = l.map g
 | []=>rfl
 | a :: l=>by rw [List.map_cons,List.flatten_cons,flatten_oneU g l]; rfl
set_option tactic.hygienic true in
theorem split_len (c : Nat) : ∀ x : List Nat,∀ r∈splitAt c x,r.length≤x.length
 | [],r,h=>by rw [splitAt,List.mem_singleton] at h; rw [h]; exact Nat.le_refl _
 | y :: x,r,h=>by
  rw [splitAt] at h
  split at h
  ·rcases List.mem_cons.mp h with z | z
   ·rw [z]; exact Nat.zero_le _
   ·exact Nat.le_succ_of_le (split_len c x r z)
  ·split at h
   ·rename_i p ps e
    rcases List.mem_cons.mp h with z | z
    ·have:=split_len c x p (by rw [e]; exact List.mem_cons_self)
     rw [z]; exact Nat.succ_le_succ this
    ·exact Nat.le_succ_of_le (split_len c x r (by rw [e]; exact List.mem_cons_of_mem _ z))
   ·rw [List.mem_singleton.mp h]; simp
set_option tactic.hygienic true in
theorem split_cnt (c : Nat) : ∀ x : List Nat,(splitAt c x).length≤x.length + 1
 | []=>Nat.le_refl _
 | y :: x=>by
  have:=split_cnt c x
  rw [splitAt]
  split
  ·exact Nat.succ_le_succ this
  ·split
   ·rename_i p ps e
    rw [e,List.length_cons] at this
    exact Nat.le_succ_of_le this
   ·rw [List.length_cons,List.length_cons]; simp
theorem maxI_nat : ∀ (l : List Nat),l≠[]→maxI (l.map fun k : Nat=>(k : Int)) = ((l.foldr max 0 : Nat) : Int)
 | [a],_=>by simp [maxI]
 | a :: b :: l,_=>by
  have ih:=maxI_nat (b :: l) (List.cons_ne_nil _ _)
  have e : maxI ((a :: b :: l).map fun k : Nat=>(k : Int)) = if maxI ((b :: l).map fun k : Nat=>(k : Int)) > (a : Int) then maxI ((b :: l).map fun k : Nat=>(k : Int)) else (a : Int):=rfl
  rw [e,ih,show (a :: b :: l).foldr max 0 = max a ((b :: l).foldr max 0) from rfl]
  exact max_if a _
noncomputable def maxR (l : List Nat) : Nat:=l.foldr max 0
theorem maxD_nats {l : List Nat} (h : l≠[]) : maxD [.list (natsD l)] = some (.int ((maxR l : Nat) : Int)):=by
 show o1 _ (ints? (natsD l)) = _
 rw [show ints? (natsD l) = some (l.map fun k : Nat=>(k : Int)) from ints_nat l]
 show (if _ then _ else none) = _
 rw [if_pos (by rw [List.length_map]; exact List.length_pos_iff.mpr h),maxI_nat l h]
 rfl
noncomputable def twN (x : List Nat) : List Nat:=x.takeWhile isW
noncomputable def lgN (lead : List Nat) : Nat:=maxR ((splitAt 9 lead).map List.length)
theorem idx_map {α : Type} (f : α→D) {xs : List α} {k : Nat} (d : α) (h : k < xs.length) (hl : xs.length≤lim) : idxD (.list (xs.map f)) (k : Int) = some (f (xs[k]?.getD d)):=by
 unfold idxD
 dsimp only
 rw [List.length_map,if_pos (inB_nat h hl),ix_nat,List.getElem?_map,List.getElem?_eq_getElem h]
 rfl
theorem maxR_le {l : List Nat} {k : Nat} (h : ∀ x∈l,x≤k) : maxR l≤k:=by
 unfold maxR
 induction l with
 | nil=>exact Nat.zero_le _
 | cons a l ih =>
  rw [List.foldr_cons]
  exact Nat.max_le.mpr ⟨h a List.mem_cons_self,ih fun x hx=>h x (List.mem_cons_of_mem _ hx)⟩
theorem chr_ok (c : UInt8) : chrD [.int (c.toNat : Int)] = some (.str [c.toNat]):=by
 show (if _ then _ else none) = _; rw [if_pos ⟨Int.natCast_nonneg _,zl (Nat.lt_trans (UInt8.toNat_lt c) (by decide))⟩,Int.toNat_natCast]
theorem n_sub {a b : Nat} (h : b≤a) : binF .Sub (.int (a : Int)) (.int (b : Int)) = some (.int ((a - b : Nat) : Int)):=by
 rw [uo,← Int.ofNat_sub h]
noncomputable def S62 : List Nat:=[65,66,67,68,69,70,71,72,73,74,75,76,77,78,79,80,81,82,83,84,85,86,87,88,89,90,97,98,99,100,101,102,103,104,105,106,107,108,109,110,111,112,113,114,115,116,117,118,119,120,121,122,48,49,50,51,52,53,54,55,56,57]
theorem w_62 : (ofString "ABCDEFGHIJKLMNOPQRSTUVWXYZabcdefghijklmnopqrstuvwxyz0123456789").cps.toList = S62:=by decide +kernel
theorem len_62 : S62.length = 62:=rfl
theorem c_signs (n : Nat) (p : List Nat) (h : p.length≤100) : (PT (n + 1)).fn (.ref 175) [.str p] [] = some (.str (S62 ++ p)):=by
 (refine (fn_df rfl rfl).trans ?_; refine run_ex fun sc b g1 g2=>?_; (conv at g1=>(lhs; whnf)); (conv at g2=>(lhs; whnf)); subst g1 g2)
 have w:=w_62
 have e1 : binF .Add (.str S62) (.str p) = some (.str (S62 ++ p)):=by rw [xW,if_pos (show S62.length + p.length≤lim from Nat.le_trans (Nat.add_le_add_left h 62) (by decide))]
 (simp +decide only [jb,jd,jg,ji,jj,jB,jG,↓jH,j3,qH,fuelN,yw,yQ,zg,xj,xT,rho0,bindsD,List.reverse_cons,List.reverse_nil,List.nil_append, *])
noncomputable def cd3 (x : Int) : Nat:=(x % 992).toNat
noncomputable def ST8 : List Nat:=[33,10,45,95,13,126,11,160]
theorem w_st8 : (ofString "!\n-_\r~\x0b\xa0").cps.toList = ST8:=by decide +kernel
theorem w_plus : (ofString "+").cps.toList = [43]:=by decide +kernel
theorem w_slash : (ofString "/").cps.toList = [47]:=by decide +kernel
noncomputable def sgn3 (c : Nat) : Nat:=if c % 16 < 10 then (if c % 16 < 5 then 32 else 9) else if c % 16 < 12 then (if c % 16 = 10 then 43 else 47) else if c % 16 < 15 then S62[c / 16]?.getD 0 else ST8[c / 16 % 8]?.getD 0
theorem idx_str {S : List Nat} {k : Nat} (h : k < S.length) (hl : S.length≤lim) : idxD (.str S) (k : Int) = some (.str [S[k]?.getD 0]):=by
 unfold idxD
 dsimp only
 rw [if_pos (show inB (k : Int) S.length = true from inB_nat h hl),ix_nat,List.getElem?_eq_getElem h]
 rfl
theorem cd3_lt (x : Int) : cd3 x < 992:=(Int.toNat_lt (Int.emod_nonneg _ (by decide))).mpr (Int.emod_lt_of_pos _ (by decide))
theorem c_sign (n : Nat) (x : Int) : (PT (n + 2)).fn (.ref 182) [.int x] [] = some (.str [sgn3 (cd3 x)]):=by
 (refine (fn_df rfl rfl).trans ?_; refine run_ex fun sc b g1 g2=>?_; (conv at g1=>(lhs; whnf)); (conv at g2=>(lhs; whnf)); subst g1 g2)
 have w1:=w_sp
 have w2:=w_tb
 have w3:=w_plus
 have w4:=w_slash
 have w5:=w_nil
 have w6:=w_st8
 have e5 : (PT (n + 1)).fn (.ref 175) [.str []] [] = some (.str S62):=by have:=c_signs n [] (Nat.zero_le _); rwa [List.append_nil] at this
 have hx:=cd3_lt x
 have y0 : binF .Mod (.int x) (.int 992) = some (.int ((cd3 x : Nat) : Int)):=by
  have h0 : 0≤x % 992:=Int.emod_nonneg _ (by decide)
  rw [uj,if_pos (by decide)]
  exact congrArg (fun z=>some (D.int z)) (Int.toNat_of_nonneg h0).symm
 generalize cd3 x = c at *
 have y1 : binF .Mod (.int ((c : Nat) : Int)) (.int 16) = some (.int ((c % 16 : Nat) : Int)):=n_mod (by decide)
 have y2 : binF .FloorDiv (.int ((c : Nat) : Int)) (.int 16) = some (.int ((c / 16 : Nat) : Int)):=n_div (by decide) (by decide)
 have y3 : binF .Mod (.int ((c / 16 : Nat) : Int)) (.int 8) = some (.int ((c / 16 % 8 : Nat) : Int)):=n_mod (by decide)
 have y4:=idx_str (S:=S62) (k:=c / 16) (Nat.div_lt_of_lt_mul hx) (by rw [len_62]; decide)
 have y5:=idx_str (S:=ST8) (k:=c / 16 % 8) (Nat.mod_lt _ (by decide)) (by decide)
 unfold sgn3
 have k16 : c % 16 < 16:=Nat.mod_lt _ (by decide)
 generalize c % 16 = k at *
 by_cases h1 : k < 10
 ·rw [if_pos h1]
  have h1' : (k : Int) < 10:=zl h1
  by_cases h2 : k < 5
  ·rw [if_pos h2]
   have h2' : (k : Int) < 5:=zl h2
   clear hx h1 h2 k16 y4 y5
   (simp +decide only [jb,jc,jd,jg,jh,ji,jj,jn,jq,jy,jB,jG,↓jH,↓jI,↓jJ,j3,kv,kR,qm,qn,qH,qM,yl,fuelN,yt,yw,yy,yN,yP,yQ,yW,zg,zo,zx,zA,xj,xS,xT,xZ,wk,rho0,bindsD,List.reverse_cons,List.reverse_nil,List.nil_append,decide_eq_true,Nat.reduceAdd, *])
  ·rw [if_neg h2]
   have h2' : ¬ (k : Int) < 5:=zln h2
   clear hx h1 h2 k16 y4 y5
   (simp +decide only [jb,jc,jd,jg,jh,ji,jj,jn,jq,jy,jB,jG,↓jH,↓jI,↓jJ,j3,kv,kR,qm,qn,qH,qM,yl,fuelN,yt,yw,yy,yN,yP,yQ,yW,zg,zp,zx,zA,xj,xS,xT,xZ,wk,rho0,bindsD,List.reverse_cons,List.reverse_nil,List.nil_append,decide_false,decide_eq_true,Nat.reduceAdd, *])
 ·rw [if_neg h1]
  have h1' : ¬ (k : Int) < 10:=zln h1
  by_cases h2 : k < 12
  ·rw [if_pos h2]
   have h2' : (k : Int) < 12:=zl h2
   by_cases h3 : k = 10
   ·rw [if_pos h3]
    have h3' : (k : Int) = 10:=ze h3
    clear hx h1 h2 h3 k16 y4 y5
    (simp +decide only [ja,jb,jc,jd,jg,jh,ji,jj,jn,jq,jy,jB,jG,↓jH,↓jI,↓jJ,j3,kv,kR,qm,qn,qH,qM,yl,fuelN,yt,yw,yy,yN,yP,yQ,yW,zg,zo,zx,zy,zA,xj,xS,xT,xX,xZ,wb,wk,rho0,bindsD,List.reverse_cons,List.reverse_nil,List.nil_append,decide_false,decide_eq_true,Nat.reduceAdd, *])
   ·rw [if_neg h3]
    have h3' : ¬ (k : Int) = 10:=zne h3
    clear hx h1 h2 h3 k16 y4 y5
    (simp +decide only [ja,jb,jc,jd,jg,jh,ji,jj,jn,jq,jy,jB,jG,↓jH,↓jI,↓jJ,j3,kv,kR,qm,qn,qH,qM,yl,fuelN,yt,yw,yy,yN,yP,yQ,yW,zg,zp,zx,zy,zA,xj,xS,xT,xX,xZ,wb,wk,rho0,bindsD,List.reverse_cons,List.reverse_nil,List.nil_append,decide_false,decide_eq_true,Nat.reduceAdd, *])
  ·rw [if_neg h2]
   have h2' : ¬ (k : Int) < 12:=zln h2
   by_cases h3 : k < 15
   ·rw [if_pos h3]
    have h3' : (k : Int) < 15:=zl h3
    clear hx h1 h2 h3 k16
    (simp +decide only [ja,jb,jc,jd,jg,jh,ji,jj,jn,jq,jy,jB,jG,↓jH,↓jI,↓jJ,j3,j6,kv,ky,kR,qm,qn,qG,qH,qP,qQ,qR,qZ,ya,yl,fuelN,yr,yt,yv,yw,yy,yB,yI,yJ,yN,yP,yQ,yW,zg,zx,zy,zA,xj,xS,xT,xZ,wk,rho0,bindsD,List.reverse_cons,List.reverse_nil,List.nil_append,decide_false,decide_eq_true,Nat.reduceAdd,vK, *])
   ·rw [if_neg h3]
    have h3' : ¬ (k : Int) < 15:=zln h3
    clear hx h1 h2 h3 k16
    (simp +decide only [ja,jb,jc,jd,jg,jh,ji,jj,jn,jq,jy,jB,jG,↓jH,↓jI,↓jJ,j3,kv,kR,qm,qn,qH,qZ,yl,fuelN,yt,yw,yy,yI,yN,yP,yQ,yW,zg,zy,zA,xj,xS,xT,xZ,wk,rho0,bindsD,List.reverse_cons,List.reverse_nil,List.nil_append,decide_false,Nat.reduceAdd, *])
noncomputable def plc (c : Nat) : Int:=findI (S62 ++ [32,9,43,47]) c
noncomputable def figOf (c : Nat) : Option Nat:=if 0≤plc c then some (if (plc c).toNat < 64 then (plc c).toNat else (plc c).toNat - 2) else none
noncomputable def figSt (s : List Nat) (c : Nat) : List Nat:=s ++ (figOf c).toList
noncomputable def figsN (line : List Nat) : List Nat:=line.foldl figSt []
noncomputable def figU (s : List Nat) (j : Option D×Option D) : List (Str×LV):=[("figures",.ow (natsD s)),("sign",LJ j.1),("place",LJ j.2)]
theorem w_4 : (ofString " \t+/").cps.toList = [32,9,43,47]:=by decide +kernel
theorem find_ok (x : List Nat) (c : Nat) : findD [.str x,.str [c]] = some (.int (findI x c)):=rfl
theorem c_figs (n : Nat) (line : List Nat) (hl : line.length≤40) : (PT (n + 2)).fn (.ref 189) [.str line] [] = some (.list (natsD (figsN line))):=by
 (refine (fn_df rfl rfl).trans ?_; refine run_ex fun sc b g1 g2=>?_; (conv at g1=>(lhs; whnf)); (conv at g2=>(lhs; whnf)); subst g1 g2)
 have w:=w_4
 have e1:=c_signs n [32,9,43,47] (by decide)
 have e2 : ∀ c,findD [.str (S62 ++ [32,9,43,47]),.str [c]] = some (.int (plc c)):=fun c=>find_ok _ c
 have r1 : line.length≤lim:=Nat.le_trans hl (by decide)
 (simp +decide only [jb,jc,jg,ji,jj,jn,jo,jq,jz,j3,kv,kT,qm,qG,qN,qP,fuelN,yr,yu,yD,yN,yQ,yT,yW,zd,zf,zH,wj,rho0,bindsD,List.reverse_cons,List.reverse_nil,List.nil_append,↓reduceIte,ve,Nat.reduceAdd, *])
 refine outD_of (nx_forU (fun c : Nat=>D.str [c]) line figSt figU (fun k s=>s.length≤k) [] (none,none) ?_ (Nat.le_refl _) ?_ ?_)
 ·unfold figU natsD; (simp +decide only [jl,kJ,kK,kL,kR,kT,yt,xk,xm,List.map_nil, *])
 ·intro k s j c hc hI
  have hk : k < line.length:=(List.getElem?_eq_some_iff.mp hc).1
  have r2 : (natsD s).length≤lim:=by rw [natsD_len]; exact Nat.le_trans hI (Nat.le_trans (Nat.le_of_lt hk) r1)
  have e3:=e2 c
  clear e2
  unfold figSt figOf
  generalize plc c = p at *
  by_cases h0 : 0≤p
  ·obtain ⟨q,rfl⟩ : ∃ q : Nat,p = (q : Int):=⟨p.toNat,(Int.toNat_of_nonneg h0).symm⟩
   rw [if_pos h0,Int.toNat_natCast]
   refine ⟨by rw [List.length_append]; exact Nat.succ_le_succ hI,_,by unfold figU; (simp +decide only [kJ,kK,kL,kR,kT,qn,yt,zV,xk,xm, *]) <;> rfl,(some (.str [c]),some (.int (q : Int))),.inl ?_⟩
   by_cases h1 : q < 64
   ·rw [if_pos h1]
    have h1' : (q : Int) < 64:=zl h1
    have z : natsD s ++ [D.int (q : Int)] = natsD (s ++ [q]):=by rw [← natsD_app]; rfl
    clear h1 hc hk hl hI
    unfold figU
    (simp +decide only [ja,jb,jc,jg,jh,ji,jj,jk,jm,jo,jq,jx,jy,jG,↓jJ,↓jK,j4,j7,kz,kJ,kK,kL,kR,kT,qo,qG,qH,qM,qP,qQ,qR,q9,ya,yl,fuelN,yr,yt,yv,yw,yy,yB,yJ,yN,yP,yW,zj,zk,zo,zw,zx,zE,xk,xm,xS,xT,xZ,x7,wi,List.nil_append,List.cons_append,decide_eq_true,↓reduceIte,wo,wA,wL,vh,Nat.reduceAdd,vK, *])
    rfl
   ·rw [if_neg h1]
    have h1' : ¬ (q : Int) < 64:=zln h1
    have h2 : binF .Sub (.int (q : Int)) (.int 2) = some (.int ((q - 2 : Nat) : Int)):=n_sub (b:=2) (Nat.le_trans (by decide) (Nat.not_lt.mp h1))
    have z : natsD s ++ [D.int ((q - 2 : Nat) : Int)] = natsD (s ++ [q - 2]):=by rw [← natsD_app]; rfl
    clear h1 hc hk hl hI
    unfold figU
    (simp +decide only [ja,jb,jc,jg,jh,ji,jj,jk,jm,jo,jq,jx,jy,jG,↓jJ,↓jK,j4,j7,kz,kJ,kK,kL,kR,kT,qo,qG,qH,qM,qP,qQ,qR,q9,ya,yl,fuelN,yr,yt,yv,yw,yy,yB,yJ,yN,yP,yW,zj,zk,zp,zw,zx,zE,xk,xm,xS,xT,xZ,x7,wi,List.nil_append,List.cons_append,decide_false,decide_eq_true,↓reduceIte,wo,wA,wL,vh,Nat.reduceAdd,vK, *])
    rfl
  ·rw [if_neg h0]
   refine ⟨by show (s ++ []).length≤_; rw [List.append_nil]; exact Nat.le_succ_of_le hI,_,by unfold figU; (simp +decide only [kJ,kK,kL,kR,kT,qn,yt,zV,xk,xm, *]) <;> rfl,(some (.str [c]),some (.int p)),.inl ?_⟩
   have z : s ++ (none : Option Nat).toList = s:=List.append_nil s
   rw [z]
   clear z hc hk hl hI
   unfold figU
   (simp +decide only [ja,jb,jc,jg,jh,ji,jj,jk,jm,jo,jq,jy,jG,↓jJ,↓jK,j7,kz,kJ,kK,kL,kR,kT,qo,qG,qP,qQ,qR,q9,ya,yl,fuelN,yr,yt,yv,yy,yB,yJ,yN,yP,yW,zj,zk,zy,zE,xk,xm,xS,xT,x7,wi,List.nil_append,List.cons_append,decide_false,↓reduceIte,wo,wA,wL,vh,Nat.reduceAdd,vK, *])
 ·intro j hI
  have e : List.foldl figSt [] line = figsN line:=rfl
  rw [e]
  clear e hI e2
  unfold figU
  (simp +decide only [jb,jd,jg,ji,jj,jk,jo,jB,j4,kJ,kK,kL,kR,kT,qG,fuelN,yr,yt,yu,yT,zg,xk,xm,↓reduceIte,Nat.reduceAdd, *])
noncomputable def oct3N (F : List Nat) : List Nat:=(octF (F.length * 3 / 4) (numN F / 4 ^ padN F.length)).1.reverse
noncomputable def oct3 (F : List Nat) : List UInt8:=(oct3N F).map fun k=>k.toUInt8
theorem c_oct3 (n : Nat) (F : List Nat) (hl : F.length≤16) (hf : ∀ f∈F,f < 64) : (PT (n + 1)).fn (.ref 196) [.list (natsD F)] [] = some (.bytes (oct3 F)):=by
 (refine (fn_df rfl rfl).trans ?_; refine run_ex fun sc b g1 g2=>?_; (conv at g1=>(lhs; whnf)); (conv at g2=>(lhs; whnf)); subst g1 g2)
 have g1:=natsD_len
 have r1 : F.length≤lim:=Nat.le_trans hl (by decide)
 (simp +decide only [jb,jc,jg,ji,jj,jn,jq,jz,jG,j3,kv,kU,qm,qG,fuelN,yr,yu,yN,yP,yT,yW,zd,zf,zF,xS,wi,rho0,bindsD,List.reverse_cons,List.reverse_nil,List.nil_append,↓reduceIte,vd,Nat.reduceAdd, *])
 refine outD_of (nx_forU (fun k : Nat=>D.int (k : Int)) F (fun s f=>64 * s + f) numU (fun k s=>s < 64 ^ k) 0 none ?_ (by decide) ?_ ?_)
 ·unfold numU; (simp +decide only [jl,kJ,kK,kT,kU,xk,xm,xH, *])
 ·intro k s j f hf' hI
  have hk : k < F.length:=(List.getElem?_eq_some_iff.mp hf').1
  have f64:=hf f (List.mem_of_getElem? hf')
  have p1 : 64 ^ k≤64 ^ 16:=Nat.pow_le_pow_right (by decide) (Nat.le_trans (Nat.le_of_lt hk) hl)
  refine ⟨Nat.lt_of_lt_of_le (Nat.add_lt_add_left f64 (64 * s)) (by rw [Nat.pow_succ,Nat.mul_comm (64 ^ k)]; exact Nat.mul_le_mul_left 64 hI),?_⟩
  have y1 : binF .Mult (.int 64) (.int (s : Int)) = some (.int ((64 * s : Nat) : Int)):=n_mul (a:=64) (lt_big (by decide)) (Int.lt_trans (zl (Nat.lt_of_lt_of_le hI p1)) (by decide +kernel))
  clear hk f64 p1 hI hf'
  unfold numU
  refine ⟨_,by (simp +decide only [kJ,kK,kT,kU,qn,zV,xk,xm, *]) <;> rfl,some (.int (f : Int)),.inl ?_⟩
  (simp +decide only [ja,jb,jc,jg,ji,jj,jm,jn,jq,jG,↓jI,↓jJ,kJ,kK,kT,kU,qm,qH,fuelN,yw,yN,yP,yW,zA,xk,xm,xn,xS,wk,Nat.reduceAdd, *])
 ·intro j hI
  have e : List.foldl (fun s f=>64 * s + f) 0 F = numN F:=rfl
  rw [e]
  clear e hI
  unfold oct3 oct3N
  generalize numN F = N
  have p2 : unD .USub (.int (F.length : Int)) = some (.int (-(F.length : Int))):=id rfl
  have p3:=n_padm F.length
  have e3:=pad_le F.length
  generalize padN F.length = sp at *
  have z6:=n_pow4 (Nat.le_trans e3 (by decide))
  have hp:=pow4_b e3
  have z7 : binF .FloorDiv (.int (N : Int)) (.int ((4 ^ sp : Nat) : Int)) = some (.int ((N / 4 ^ sp : Nat) : Int)):=n_div hp.1 (Nat.lt_of_le_of_lt hp.2 (by decide))
  have y2 : binF .Mult (.int (F.length : Int)) (.int 3) = some (.int ((F.length * 3 : Nat) : Int)):=n_mul (k:=3) (lt_big (Nat.le_trans hl (by decide))) (lt_big (by decide))
  have y1 : binF .FloorDiv (.int ((F.length * 3 : Nat) : Int)) (.int 4) = some (.int ((F.length * 3 / 4 : Nat) : Int)):=n_div (by decide) (by decide)
  have hm9 : F.length * 3 / 4≤12:=Nat.div_le_of_le_mul (Nat.mul_le_mul_right 3 hl)
  have h7 : (-1000000 : Int)≤((F.length * 3 / 4 : Nat) : Int)∧((F.length * 3 / 4 : Nat) : Int)≤1000000:=⟨zlo _,zle (Nat.le_trans hm9 (by decide))⟩
  have h8:=rng_0 (F.length * 3 / 4)
  unfold numU
  generalize hm : F.length * 3 / 4 = m at *
  generalize N / 4 ^ sp = M at *
  clear hp e3
  (simp +decide only [jb,jc,jg,ji,jj,jk,jn,jo,jq,jz,jG,↓jH,↓jI,j8,j9,kA,kJ,kK,kR,kT,kU,qm,qo,qG,qH,qI,qN,qP,qQ,qR,ya,fuelN,yr,yv,yw,yx,yB,yD,yJ,yN,yP,yT,yV,yW,zd,zf,zA,zH,xk,xm,xS,wj,wk,↓reduceIte,wo,wp,wq,wE,wO,wV,vg,Int.reduceNeg,Nat.reduceAdd,and_self,vT,vX, *])
  refine nx_forU (fun i : Nat=>D.int (i : Int)) (List.range m) (fun (s : List Nat×Nat) (_ : Nat)=>(s.1 ++ [s.2 % 256],s.2 / 256)) octU (fun k s=>s.1.length = k∧∀ x∈s.1,x < 256) ([],M) none ?_ ⟨rfl,fun x hx=>(nomatch hx)⟩ ?_ ?_
  ·unfold octU natsD; (simp +decide only [jl,kJ,kL,kM,kR,kU,yt,xk,xm,List.map_nil, *])
  ·intro k s j' i hi hI
   have hk : k < m:=by
    have:=(List.getElem?_eq_some_iff.mp hi).1
    simpa using this
   obtain ⟨hI1,hI2⟩:=hI
   refine ⟨⟨by rw [List.length_append,hI1]; rfl,fun x hx=>?_⟩,?_⟩
   ·rcases List.mem_append.mp hx with z | z
    ·exact hI2 x z
    ·rw [List.mem_singleton.mp z]; exact Nat.mod_lt _ (by decide)
   ·have z1 : binF .Mod (.int (s.2 : Int)) (.int 256) = some (.int ((s.2 % 256 : Nat) : Int)):=n_mod (by decide)
    have z2 : binF .FloorDiv (.int (s.2 : Int)) (.int 256) = some (.int ((s.2 / 256 : Nat) : Int)):=n_div (by decide) (by decide)
    have r2 : s.1.length≤lim:=Nat.le_trans (Nat.le_of_eq hI1) (Nat.le_trans (Nat.le_of_lt hk) (Nat.le_trans hm9 (by decide)))
    have z3 : natsD s.1 ++ [D.int ((s.2 % 256 : Nat) : Int)] = natsD (s.1 ++ [s.2 % 256]):=by rw [← natsD_app]; rfl
    clear hI1 hI2 hk hi h7 h8 hm9 hm hl hf y1 y2 z6 z7 p2 p3
    unfold octU
    refine ⟨_,by (simp +decide only [kJ,kL,kM,kR,kU,qp,yt,zV,xk,xm, *]) <;> rfl,some (.int (i : Int)),.inl ?_⟩
    (simp +decide only [ja,jb,jc,jg,ji,jj,jk,jm,jo,jq,jx,jG,↓jI,j6,kJ,kL,kM,kR,kU,qm,qH,fuelN,yt,yw,yN,yP,yW,zw,zA,xk,xm,xS,wk,↓reduceIte,Nat.reduceAdd, *])
  ·intro j' hI
   have e : List.foldl (fun (s : List Nat×Nat) (_ : Nat)=>(s.1 ++ [s.2 % 256],s.2 / 256)) ([],M) (List.range m) = octF m M:=rfl
   rw [e,List.length_range] at hI
   rw [e]
   clear e
   generalize octF m M = s at *
   obtain ⟨hI1,hI2⟩:=hI
   have r2 : s.1.length≤lim:=Nat.le_trans (Nat.le_of_eq hI1) (Nat.le_trans hm9 (by decide))
   have z2 : cutD (.list (natsD s.1)) none none (some (-1)) = some (.list (natsD s.1.reverse)):=by
    rw [cut_rev (by rw [natsD_len]; exact r2)]; unfold natsD; rw [List.map_reverse]
   have z4 : bytesD [.list (natsD s.1.reverse)] = some (.bytes (s.1.reverse.map fun k=>k.toUInt8)) :=
    bytesD_nat (fun x hx=>hI2 x (List.mem_reverse.mp hx)) (by rw [List.length_reverse]; exact r2)
   have z5 : unD .USub (.int 1) = some (.int (-1)):=id rfl
   clear hI2 h7 h8 hm9 hm hl hf y1 y2 z6 z7 p2 p3
   unfold octU
   (simp +decide only [jb,jd,jg,ji,jj,jk,jo,jB,jG,↓jK,ka,kA,kJ,kL,kM,kR,kU,qG,qI,qP,qQ,qR,qU,qV,qW,ya,fuelN,yr,yt,yv,yx,yB,yG,yH,yJ,yR,zg,xk,xm,xS,↓reduceIte,wp,wF,Int.reduceNeg,Nat.reduceAdd,ua, *])
noncomputable def dueN (line F : List Nat) (m : Nat) : List UInt8×List Nat :=
 if 160∈line then ([],wAsc) else if F.length % 4 = 1 then ([],fmtN (F.length : Int)) else if m < padN F.length then ([],wPad) else (oct3 F,[])
theorem w_a0 : (ofString "\xa0").cps.toList = [160]:=by decide +kernel
theorem tenE : (100000 : Int) < 10 ^ 10:=by decide +kernel
theorem fmt_n {a : List Nat} {n : Int} : binF .Mod (.str a) (.int n) = if a = wFmt∧0≤n∧n < 10 ^ 10 then some (.str (fmtN n)) else none:=rfl
theorem un_neg (k : Nat) : unD .USub (.int (k : Int)) = some (.int (-(k : Int))):=id rfl
theorem c_due (n : Nat) (line F : List Nat) (m : Nat) (hl : line.length≤40) (hF : F.length≤16) (hf : ∀ f∈F,f < 64) :
  (PT (n + 2)).fn (.ref 210) [.str line,.list (natsD F),.int (m : Int)] [] = some (.tup [.bytes (dueN line F m).1,.str (dueN line F m).2]):=by
 (refine (fn_df rfl rfl).trans ?_; refine run_ex fun sc b g1 g2=>?_; (conv at g1=>(lhs; whnf)); (conv at g2=>(lhs; whnf)); subst g1 g2)
 have e1:=c_oct3 n F hF hf
 have w1:=w_a0
 have w2 : (ofString "Invalid base64-encoded string: number of data characters (%d) cannot be 1 more than a multiple of 4").cps.toList = wFmt:=rfl
 have w3 : (ofString "Incorrect padding").cps.toList = wPad:=rfl
 have w4 : (ofString "string argument should contain only ASCII characters").cps.toList = wAsc:=rfl
 have w5:=w_nil
 have g1:=natsD_len F
 have r1 : F.length≤lim:=Nat.le_trans hF (by decide)
 have i1 : inD (.str [160]) (.str line) = some (decide (160∈line)):=rfl
 have y1 : binF .Mod (.int (F.length : Int)) (.int 4) = some (.int ((F.length % 4 : Nat) : Int)):=n_mod (by decide)
 have y2 : binF .Mod (.str wFmt) (.int (F.length : Int)) = some (.str (fmtN (F.length : Int))):=by
  rw [fmt_n]; exact if_pos ⟨rfl,Int.natCast_nonneg _,Int.lt_trans (b:=100000) (zl (Nat.lt_of_le_of_lt hF (by decide))) tenE⟩
 have y3:=n_padm F.length
 have y4:=un_neg F.length
 unfold dueN
 clear hf hl hF
 generalize wFmt = WF at *
 generalize wPad = WP at *
 generalize wAsc = WA at *
 generalize fmtN (F.length : Int) = FM at *
 by_cases c0 : 160∈line
 ·rw [decide_eq_true c0] at i1
  rw [if_pos c0]
  clear c0 e1 y1 y2 y3 y4
  (simp +decide only [jb,jd,jg,jh,ji,jj,jn,jy,jB,jG,↓jH,j3,j4,j5,ky,qO,qP,qQ,yl,fuelN,yy,yB,yE,yU,zg,zx,xj,xT,xU,wa,rho0,bindsD,List.reverse_cons,List.reverse_nil,List.nil_append,List.cons_append, *])
 ·rw [decide_eq_false c0] at i1
  rw [if_neg c0]
  clear c0
  by_cases c1 : F.length % 4 = 1
  ·rw [if_pos c1]
   have c1' : ((F.length % 4 : Nat) : Int) = 1:=ze c1
   clear c1 e1 y3 y4
   (simp +decide only [ja,jb,jc,jd,jg,jh,ji,jj,jn,jq,jy,jB,jG,↓jH,↓jI,↓jK,j3,j4,j5,j7,ky,kz,qo,qG,qH,qO,qP,qQ,qR,ya,yl,fuelN,yr,yt,yv,yw,yy,yB,yE,yJ,yN,yQ,yU,yW,zg,zx,zy,zF,xj,xS,xT,xU,xX,wa,wb,wi,rho0,bindsD,List.reverse_cons,List.reverse_nil,List.nil_append,List.cons_append,decide_eq_true,↓reduceIte,wo,wq,wO,Nat.reduceAdd,vT, *])
  ·rw [if_neg c1]
   have c1' : ¬ ((F.length % 4 : Nat) : Int) = 1:=zne c1
   clear c1 y2
   by_cases c2 : m < padN F.length
   ·rw [if_pos c2]
    have c2' : (m : Int) < ((padN F.length : Nat) : Int):=zl c2
    clear c2 e1
    (simp +decide only [ja,jb,jc,jd,jg,jh,ji,jj,jn,jy,jB,jG,↓jH,↓jI,↓jJ,j3,j4,j5,j7,ky,kz,qG,qH,qI,qO,qP,qQ,qR,ya,yl,fuelN,yr,yv,yw,yx,yy,yB,yE,yJ,yU,zg,zx,zy,xj,xS,xT,xU,xX,xZ,wa,wb,rho0,bindsD,List.reverse_cons,List.reverse_nil,List.nil_append,List.cons_append,decide_false,decide_eq_true,↓reduceIte,wo,wq,wO,Nat.reduceAdd,vT, *])
   ·rw [if_neg c2]
    have c2' : ¬ (m : Int) < ((padN F.length : Nat) : Int):=zln c2
    clear c2
    (simp +decide only [ja,jb,jc,jd,jg,jh,ji,jj,jn,jy,jB,jG,↓jH,↓jI,↓jJ,j3,j4,j5,j7,j8,ky,kz,qG,qH,qI,qO,qP,qQ,qR,ya,yl,fuelN,yr,yv,yw,yx,yy,yB,yE,yJ,yU,zg,zy,xj,xS,xT,xX,xZ,wa,wb,rho0,bindsD,List.reverse_cons,List.reverse_nil,List.nil_append,List.cons_append,decide_false,↓reduceIte,wo,wq,wO,Nat.reduceAdd,vN,vT, *])
noncomputable def sp3 (F : List Nat) : Nat:=4 ^ padN F.length
noncomputable def shown3 (F : List Nat) : List Nat:=F.take (F.length - 1) ++ (F.drop (F.length - 1)).map fun f=>f / sp3 F * sp3 F
theorem cut_but {l : List D} (hl : l.length≤lim) : cutD (.list l) none (some (-1)) none = some (.list (l.take (l.length - 1))):=by
 have e : cutL (.list l) none (some (-1)) none = some ((l.drop 0).take (clipAt l.length (-1) - 0)):=if_pos hl
 rw [clip_end] at e
 unfold cutD; rw [e]; rfl
theorem cut_end {l : List D} (hl : l.length≤lim) : cutD (.list l) (some (-1)) none none = some (.list (l.drop (l.length - 1))):=by
 have e : cutL (.list l) (some (-1)) none none = some ((l.drop (clipAt l.length (-1))).take (l.length - clipAt l.length (-1))):=if_pos hl
 rw [clip_end,List.take_of_length_le (by rw [List.length_drop]; exact Nat.le_refl _)] at e
 unfold cutD; rw [e]
theorem sp3_b (F : List Nat) : 0 < sp3 F∧sp3 F≤64:=pow4_b (pad_le _)
theorem shown3_lt {F : List Nat} (hf : ∀ f∈F,f < 64) : ∀ f∈shown3 F,f < 64:=fun f h=>by
 rcases List.mem_append.mp h with z | z
 ·exact hf f (List.mem_of_mem_take z)
 ·obtain ⟨g,hg,rfl⟩:=List.mem_map.mp z
  exact Nat.lt_of_le_of_lt (Nat.div_mul_le_self _ _) (hf g (List.mem_of_mem_drop hg))
theorem shown3_len (F : List Nat) : (shown3 F).length = F.length:=by
 unfold shown3
 rw [List.length_append,List.length_map,← List.length_append,List.take_append_drop]
theorem c_shown (n : Nat) (F : List Nat) (hF : F.length≤16) (hf : ∀ f∈F,f < 64) : (PT (n + 1)).fn (.ref 215) [.list (natsD F)] [] = some (.list (natsD (shown3 F))):=by
 (refine (fn_df rfl rfl).trans ?_; refine run_ex fun sc b g1 g2=>?_; (conv at g1=>(lhs; whnf)); (conv at g2=>(lhs; whnf)); subst g1 g2)
 have g1:=natsD_len
 have r1 : F.length≤lim:=Nat.le_trans hF (by decide)
 have y3:=n_padm F.length
 have y4:=un_neg F.length
 have y5:=n_pow4 (k:=padN F.length) (Nat.le_trans (pad_le _) (by decide))
 have y6 : cutD (.list (natsD F)) none (some (-1)) none = some (.list (natsD (F.take (F.length - 1)))):=by
  rw [cut_but (by rw [g1]; exact r1),g1]; unfold natsD; rw [List.map_take]
 have y7 : cutD (.list (natsD F)) (some (-1)) none none = some (.list (natsD (F.drop (F.length - 1)))):=by
  rw [cut_end (by rw [g1]; exact r1),g1]; unfold natsD; rw [List.map_drop]
 have y8 : unD .USub (.int 1) = some (.int (-1)):=id rfl
 have hp:=sp3_b F
 have z : natsD (F.take (F.length - 1)) ++ (F.drop (F.length - 1)).map (fun f=>D.int ((f / sp3 F * sp3 F : Nat) : Int)) = natsD (shown3 F):=by
  unfold shown3; rw [← natsD_app]; unfold natsD; rw [List.map_map]; rfl
 have z2 : (F.take (F.length - 1)).length + (F.drop (F.length - 1)).length≤lim:=by rw [← List.length_append,List.take_append_drop]; exact r1
 have z3 : (F.drop (F.length - 1)).length≤lim:=by rw [List.length_drop]; exact Nat.le_trans (sub_pred _) (by decide)
 unfold sp3 at *
 generalize hs : 4 ^ padN F.length = sp at *
 have hd : ∀ f∈F.drop (F.length - 1),f < 64:=fun f h=>hf f (List.mem_of_mem_drop h)
 generalize hA : F.take (F.length - 1) = TA at *
 generalize hB : F.drop (F.length - 1) = TB at *
 clear hF hf hA hB hs
 (simp +decide only [jb,jc,jg,ji,jj,jn,jq,jB,jG,↓jH,j3,j4,j5,kv,kx,qm,qG,qH,qI,qP,qQ,qR,qU,qV,qW,ya,yb,fuelN,yr,yt,yv,yw,yx,yB,yG,yH,yJ,yL,yM,yN,yP,yW,zA,zK,zP,zR,zS,zT,zU,xc,xS,wk,rho0,bindsD,List.reverse_cons,List.reverse_nil,List.nil_append,↓reduceIte,wo,wq,wO,vd,Int.reduceNeg,Nat.reduceAdd,vT, *])
 rw [cGo_nats (fun f=>.int ((f / sp * sp : Nat) : Int)) TB]
 ·(simp +decide only [jd,ji,jj,List.length_map,yw,yT,zg,xj,xV,↓reduceIte, *])
 ·intro a ha
  have a64:=hd a ha
  have z7 : binF .FloorDiv (.int (a : Int)) (.int (sp : Int)) = some (.int ((a / sp : Nat) : Int)):=n_div hp.1 (Nat.lt_of_le_of_lt hp.2 (by decide))
  have z8 : binF .Mult (.int ((a / sp : Nat) : Int)) (.int (sp : Int)) = some (.int ((a / sp * sp : Nat) : Int)) :=
   n_mul (lt_big (Nat.le_trans (Nat.div_le_self a sp) (Nat.le_trans (Nat.le_of_lt a64) (by decide)))) (lt_big (Nat.le_trans hp.2 (by decide)))
  clear z z2 hd hp ha a64 y3 y4 y5 y6 y7
  exact ⟨_,by (simp +decide only [kR,qm,zV, *]) <;> rfl,by (simp +decide only [↓jI,↓jJ,qH,yw, *])⟩
noncomputable def sg3 (p : List Nat) (k : Nat) : Nat:=(S62 ++ p)[k]?.getD 0
noncomputable def line3 (F p : List Nat) : List Nat:=(shown3 F).map (sg3 p) ++ List.replicate (padN F.length) 61
theorem c_line3 (n : Nat) (F : List Nat) (p q : Nat) (hF : F.length≤16) (hf : ∀ f∈F,f < 64) : (PT (n + 2)).fn (.ref 220) [.list (natsD F),.str [p,q]] [] = some (.str (line3 F [p,q])):=by
 (refine (fn_df rfl rfl).trans ?_; refine run_ex fun sc b g1 g2=>?_; (conv at g1=>(lhs; whnf)); (conv at g2=>(lhs; whnf)); subst g1 g2)
 have e1:=c_shown n F hF hf
 have e2:=c_signs n [p,q] (by show 2≤100; decide)
 have g1:=natsD_len
 have r1 : F.length≤lim:=Nat.le_trans hF (by decide)
 have w2:=w_eq
 have w3:=w_nil
 have y3:=n_padm F.length
 have y4:=un_neg F.length
 have hS:=shown3_lt hf
 have hL:=shown3_len F
 have p3:=pad_le F.length
 have z12:=s_mul (c:=61) (k:=padN F.length) (Nat.le_trans p3 (by decide))
 have z13 : joinD [.str [],.list ((shown3 F).map fun k=>D.str [sg3 [p,q] k])] = some (.str ((shown3 F).map (sg3 [p,q]))):=by
  have:=joinD_ok (strs_map (fun k=>[sg3 [p,q] k]) (shown3 F)) (by rw [flatten_one,List.length_map,hL]; exact r1)
  rwa [flatten_one] at this
 have z14 : (List.replicate (padN F.length) 61).length = padN F.length:=List.length_replicate
 have r4 : (shown3 F).length + padN F.length≤lim:=by rw [hL]; exact Nat.le_trans (Nat.add_le_add hF p3) (by decide)
 have r5 : (shown3 F).length≤lim:=Nat.le_trans (Nat.le_add_right _ _) r4
 unfold line3
 generalize shown3 F = S at *
 generalize padN F.length = sp at *
 clear hL p3 hf hF
 (simp +decide only [jb,jg,ji,jj,jn,jq,↓jH,j3,j4,j6,kx,ky,qG,qP,qQ,qR,ya,yb,fuelN,yr,yv,yB,yJ,yL,yM,zC,zN,zP,zQ,zR,zS,zT,zU,xc,rho0,bindsD,List.reverse_cons,List.reverse_nil,List.nil_append,List.cons_append,↓reduceIte,vd,vQ, *])
 rw [cGo_nats (fun k=>D.str [sg3 [p,q] k]) S]
 ·(simp +decide only [jb,jc,jd,jg,ji,jj,jn,jo,jB,jG,↓jH,↓jJ,j7,ky,qn,qG,qH,qI,qP,qQ,qR,q9,ya,List.length_map,fuelN,yr,yt,yv,yw,yx,yB,yJ,yN,yQ,yT,yW,zg,zj,zk,xj,xS,xT,xW,wj,List.nil_append,List.cons_append,↓reduceIte,wo,wq,ww,wH,wO,vh,Nat.reduceAdd,vT, *])
 ·intro a ha
  have y:=idx_str (S:=S62 ++ [p,q]) (k:=a) (by rw [List.length_append,len_62]; exact hS a ha) (by rw [List.length_append,len_62]; show 62 + 2≤lim; decide)
  rw [show ((S62 ++ [p,q])[a]?.getD 0) = sg3 [p,q] a from rfl] at y
  clear hS ha z13 z14 z12 r4
  exact ⟨_,by (simp +decide only [kR,qm,zV, *]) <;> rfl,by (simp +decide only [↓jI,↓jJ,j5,ky,qG,qP,qQ,qR,qX,ya,yr,yv,yB,yI,yJ,vK, *])⟩
noncomputable def tab3 (lead far : List Nat) : List (Nat×Nat×Nat):=(List.range (lgN (lead ++ 9 :: far) + 1)).map fun i=>(i + 1,colN (i + 1) lead,colN (i + 1) far)
structure TJ where
 size : Option D
 cols : Option D
 text : Option D
 column : Option D
 sign : Option D
noncomputable def tabU (s : List (Nat×Nat×Nat)) (j : TJ) : List (Str×LV):=[("table",.ow (s.map T3n)),("size",LJ j.size),("columns",LJ j.cols),("text",LJ j.text),("column",LJ j.column),("sign",LJ j.sign)]
noncomputable def txtU (s : List Nat) (j : Option D×Option D×Option D) : List (Str×LV):=[("columns",.ow (natsD s)),("text",LJ j.1),("column",LJ j.2.1),("sign",LJ j.2.2)]
noncomputable def colU (s : Nat) (j : Option D) : List (Str×LV):=[("column",.fz (.int (s : Int))),("sign",LJ j)]
theorem split1 {x : List Nat} {c : Nat} (h : x.length≤100000) : splitD [.str x,.str [c]] = some (.list (strsD (splitAt c x))):=by
 exact if_pos h
theorem c_table (n : Nat) (lead far : List Nat) (h1 : lead.length≤100) (h2 : far.length≤100) : (PT (n + 1)).fn (.ref 225) [.str lead,.str far] [] = some (.list ((tab3 lead far).map T3n)):=by
 (refine (fn_df rfl rfl).trans ?_; refine run_ex fun sc b g1 g2=>?_; (conv at g1=>(lhs; whnf)); (conv at g2=>(lhs; whnf)); subst g1 g2)
 have w1:=w_sp
 have w2:=w_tb
 have g1:=natsD_len
 have r1 : lead.length≤lim:=Nat.le_trans h1 (by decide)
 have r2 : far.length≤lim:=Nat.le_trans h2 (by decide)
 have e1 : binF .Add (.str lead) (.str [9]) = some (.str (lead ++ [9])):=by rw [xW,if_pos (show lead.length + [9].length≤lim from Nat.le_trans (Nat.succ_le_succ h1) (by decide))]
 have e2 : binF .Add (.str (lead ++ [9])) (.str far) = some (.str (lead ++ 9 :: far)):=by
  rw [xW,if_pos (by rw [List.length_append]; exact Nat.le_trans (Nat.add_le_add (Nat.succ_le_succ h1) h2) (by decide)),List.append_assoc]; rfl
 have xl : (lead ++ 9 :: far).length≤201:=by rw [List.length_append,List.length_cons]; exact Nat.add_le_add h1 (Nat.succ_le_succ h2)
 have s1:=split1 (x:=lead ++ 9 :: far) (c:=9) (Nat.le_trans xl (by decide))
 have pc:=split_cnt 9 (lead ++ 9 :: far)
 have sl : (strsD (splitAt 9 (lead ++ 9 :: far))).length = (splitAt 9 (lead ++ 9 :: far)).length:=List.length_map ..
 have sl2 : (splitAt 9 (lead ++ 9 :: far)).length≤lim:=Nat.le_trans pc (Nat.le_trans (Nat.succ_le_succ xl) (by decide))
 have m1 : maxD [.list (natsD ((splitAt 9 (lead ++ 9 :: far)).map List.length))] = some (.int ((lgN (lead ++ 9 :: far) : Nat) : Int)):=maxD_nats fun z=>by
  have:=congrArg List.length z
  rw [List.length_map] at this
  generalize lead ++ 9 :: far = x at this
  induction x using List.casesOn with
  | nil=>exact absurd this (by decide)
  | cons y x =>
   rw [splitAt] at this
   split at this
   ·exact absurd this (Nat.succ_ne_zero _)
   ·split at this
    ·exact absurd this (Nat.succ_ne_zero _)
    ·exact absurd this (Nat.succ_ne_zero _)
 have ml : lgN (lead ++ 9 :: far)≤201:=maxR_le fun y hy=>by
  obtain ⟨p,hp,rfl⟩:=List.mem_map.mp hy
  exact Nat.le_trans (split_len 9 _ p hp) xl
 have pm : ∀ p∈splitAt 9 (lead ++ 9 :: far),p.length≤lim:=fun p hp=>by
  exact Nat.le_trans (split_len 9 _ p hp) (Nat.le_trans xl (by decide))
 unfold tab3
 generalize hL : lgN (lead ++ 9 :: far) = L at *
 generalize splitAt 9 (lead ++ 9 :: far) = parts at *
 generalize lead ++ 9 :: far = X at *
 have h8:=rng_1 (L + 2)
 rw [show L + 2 - 1 = L + 1 from rfl] at h8
 have h7a : (-1000000 : Int)≤((L + 2 : Nat) : Int):=zlo _
 have h7b : ((L + 2 : Nat) : Int)≤1000000:=zle (Nat.le_trans (Nat.add_le_add_right ml 2) (by decide))
 have e3 : binF .Add (.int (L : Int)) (.int 2) = some (.int ((L + 2 : Nat) : Int)):=rfl
 clear pc hL h1 h2 xl
 (simp +decide only [jb,jc,jg,ji,jj,jn,jo,jq,jz,jG,↓jH,↓jI,j3,j4,kc,kd,kx,kE,kZ,qn,qG,qH,qN,qP,qQ,qR,q9,ya,yb,fuelN,yr,yv,yw,yB,yD,yL,yM,yN,yT,yW,zj,zk,zH,zM,zP,zQ,zR,zU,xS,xT,wj,rho0,bindsD,List.reverse_cons,List.reverse_nil,List.nil_append,List.cons_append,↓reduceIte,wo,wx,wI,vd,vh,Nat.reduceAdd,vU,vX, *])
 rw [cGo_g (items:=strsD parts) D.str (fun p=>.int (p.length : Int)) parts rfl (natsD (parts.map List.length)) (by unfold natsD; rw [List.map_map]; rfl)]
 rotate_left
 ·intro a ha
  have al:=pm a ha
  clear ha pm e1 e2 s1 m1
  exact ⟨_,by (simp +decide only [qm,yt,zV, *]) <;> rfl,by (simp +decide only [↓jI,j5,kx,qG,qP,qQ,qR,ya,yr,yv,yB,yJ,↓reduceIte,wo,wq,wP,vT, *])⟩
 clear pm e1 e2 s1
 (simp +decide only [ji,jj,jn,jo,yw,yB,yJ,yV,zd,zf,↓reduceIte,wo,wp,wt,wE,wW,vg,Int.reduceNeg,and_self, *])
 refine outD_of (nx_forU (fun i : Nat=>D.int ((i + 1 : Nat) : Int)) (List.range (L + 1)) (fun s i=>s ++ [(fun i=>(i + 1,colN (i + 1) lead,colN (i + 1) far)) i]) tabU (fun k s=>s.length = k) [] ⟨none,none,none,none,none⟩ ?_ rfl ?_ ?_)
 ·unfold tabU; (simp +decide only [jl,kK,kL,kM,kN,kO,kP,kR,kT,kU,kW,kZ,yt,xk,xm,List.map_nil, *])
 ·intro i s j a ha hI
  have hk : i < L + 1:=by
   have:=(List.getElem?_eq_some_iff.mp ha).1
   simpa using this
  have p1 : 0 < a + 1:=Nat.succ_pos a
  have r3 : s.length≤lim:=Nat.le_trans (Nat.le_of_eq hI) (Nat.le_trans (Nat.le_of_lt hk) (Nat.le_trans (Nat.succ_le_succ ml) (by decide)))
  have fin : s.map T3n ++ [D.tup [.int ((a + 1 : Nat) : Int),.int ((colN (a + 1) lead : Nat) : Int),.int ((colN (a + 1) far : Nat) : Int)]] = (s ++ [(a + 1,colN (a + 1) lead,colN (a + 1) far)]).map T3n:=by rw [List.map_append]; rfl
  refine ⟨by rw [List.length_append,hI]; rfl,_,by unfold tabU; (simp +decide only [kK,kL,kM,kN,kO,kP,kR,kT,kU,kW,kZ,qo,yt,zV,xk,xm, *]) <;> rfl,?_⟩
  clear hk ha hI h7a h7b h8 m1 sl sl2 ml e3
  show TurnOk _ (tabU (s ++ [(a + 1,colN (a + 1) lead,colN (a + 1) far)])) (exN _ _ _ _ _)
  (simp +decide only [jb,jc,jg,ji,jj,jk,jo,jq,jz,↓jH,↓jI,kU,qp,qN,qP,qQ,fuelN,yB,yD,yN,yT,yW,zd,zf,zH,wj,↓reduceIte,vd,List.length_cons,List.length_nil,Nat.reduceAdd, *])
  refine nx_forU_p (Qr:=TurnOk _ _) D.str [lead,far] (fun s x=>s ++ [(fun x=>colN (a + 1) x) x]) txtU (fun k s=>s.length = k) [] (j.text,j.column,j.sign) ?_ rfl ?_ ?_
  ·unfold txtU natsD; (simp +decide only [kM,kN,kO,kP,kR,kT,kU,yt,xk,xm,List.map_nil, *])
  ·intro m cs j' x hx hm
   have m2 : m < 2:=(List.getElem?_eq_some_iff.mp hx).1
   have r4 : cs.length≤lim:=Nat.le_trans (Nat.le_of_eq hm) (Nat.le_trans (Nat.le_of_lt m2) (by decide))
   have r5 : x.length≤lim:=by
    rcases List.mem_cons.mp (List.mem_of_getElem? hx) with z | z
    ·rw [z]; exact r1
    ·rw [List.mem_singleton.mp z]; exact r2
   have fin2 : natsD cs ++ [D.int ((colN (a + 1) x : Nat) : Int)] = natsD (cs ++ [colN (a + 1) x]):=by rw [← natsD_app]; rfl
   refine ⟨by rw [List.length_append,hm]; rfl,_,by unfold txtU; (simp +decide only [kM,kN,kO,kP,kR,kT,kU,qr,yt,zV,xk,xm, *]) <;> rfl,?_⟩
   clear hx hm m2 fin r3
   show TurnOk _ (txtU (cs ++ [colN (a + 1) x])) (exN _ _ _ _ _)
   (simp +decide only [jb,jc,jg,ji,jj,jk,jo,jq,jz,jG,j8,kR,qs,qG,fuelN,yr,yu,yN,yP,yQ,yW,zd,zf,zF,xS,wi,↓reduceIte,ve,Nat.reduceAdd, *])
   refine nx_forU_p (Qr:=TurnOk _ _) (fun c : Nat=>D.str [c]) x (colSt (a + 1)) colU (fun _a _a=>True) 0 j'.2.2 ?_ trivial ?_ ?_
   ·unfold colU; (simp +decide only [kO,kP,kR,yt,xk,xm,xH, *])
   ·intro k c j' q hq _
    refine ⟨trivial,_,by unfold colU; (simp +decide only [kO,kP,kR,qt,yt,zV,xk,xm, *]) <;> rfl,some (.str [q]),.inl ?_⟩
    have z1 : ∀ a b : Nat,(a : Int) + (b : Int) = ((a + b : Nat) : Int):=fun a b=>rfl
    have z2 : ∀ a : Nat,(a : Int) + 1 = ((a + 1 : Nat) : Int):=fun a=>rfl
    have z3 : binF .Mod (.int (c : Int)) (.int ((a + 1 : Nat) : Int)) = some (.int ((c % (a + 1) : Nat) : Int)):=n_mod p1
    have z4 : binF .Sub (.int ((a + 1 : Nat) : Int)) (.int ((c % (a + 1) : Nat) : Int)) = some (.int ((a + 1 - c % (a + 1) : Nat) : Int)):=by
     exact n_sub (Nat.le_of_lt (Nat.mod_lt c p1))
    unfold colU colSt
    by_cases c1 : q = 32
    ·subst c1
     clear hq fin2
     (simp +decide only [ja,jb,jc,jg,ji,jj,jm,jo,jw,jG,↓jK,↓jN,↓jO,j9,kO,kP,kR,qs,qH,qM,yl,fuelN,yr,yt,yw,yy,yN,yP,zc,zo,xk,xm,xS,xT,xX,wc,decide_eq_true,↓reduceIte,Nat.reduceAdd, *])
    ·have c2 : ¬ ([q] : List Nat) = [32]:=fun z=>c1 (by simpa using z)
     clear hq fin2
     (simp +decide only [ja,jb,jc,jg,ji,jj,jm,jo,jw,jG,↓jK,↓jN,↓jO,j9,kO,kP,kR,qs,qH,qM,yl,fuelN,yr,yt,yw,yy,yN,yP,zc,zp,xk,xm,xS,xT,xX,wc,decide_false,↓reduceIte,Nat.reduceAdd, *])
   ·intro j'' _
    have e : List.foldl (colSt (a + 1)) 0 x = colN (a + 1) x:=rfl
    rw [e]
    clear e
    refine ⟨(some (.str x),some (.int ((colN (a + 1) x : Nat) : Int)),j''),.inl ?_⟩
    unfold colU txtU
    (simp +decide only [ja,jb,jc,jg,ji,jj,jk,jm,jo,jx,j7,j9,kM,kN,kO,kP,kR,kT,kU,qG,fuelN,yr,yt,yu,yP,zw,xk,xm,↓reduceIte,Nat.reduceAdd, *])
  ·intro j' _
   have i0 : ∀ a b : D,idxD (.list [a,b]) 0 = some a:=fun a b=>rfl
   have i1 : ∀ a b : D,idxD (.list [a,b]) 1 = some b:=fun a b=>rfl
   have e : List.foldl (fun s x=>s ++ [(fun x=>colN (a + 1) x) x]) [] [lead,far] = [colN (a + 1) lead,colN (a + 1) far]:=rfl
   rw [e]
   clear e
   refine ⟨⟨some (.int ((a + 1 : Nat) : Int)),some (.list (natsD [colN (a + 1) lead,colN (a + 1) far])),j'.1,j'.2.1,j'.2.2⟩,.inl ?_⟩
   unfold txtU tabU natsD
   (simp +decide only [ja,jb,jc,jg,ji,jj,jk,jm,jo,jx,jG,↓jK,↓jL,j5,kK,kL,kM,kN,kO,kP,kR,kT,kU,kW,kZ,qO,qP,qQ,qY,List.length_map,fuelN,yt,yB,yE,yI,yU,zw,xk,xm,List.map_append,List.map_cons,List.map_nil,xS,↓reduceIte,Nat.reduceAdd, *])
 ·intro j hI
  rw [foldl_map (fun i=>(i + 1,colN (i + 1) lead,colN (i + 1) far))]
  clear hI h7a h7b h8
  unfold tabU
  (simp +decide only [jb,jd,jg,ji,jj,jk,jo,jB,j5,kK,kL,kM,kN,kO,kP,kR,kT,kU,kW,kZ,qG,fuelN,yr,yt,yu,yT,zg,xk,xm,List.nil_append,↓reduceIte,Nat.reduceAdd, *])
theorem c_read (n : Nat) (x : List Nat) (h : ∀ c∈x,c < 128) (hl : x.length≤100) (h1 : (decS x [32,9]).q≠1) (h2 : (decS x [32,9]).q≠0→4≤(decS x [32,9]).q + (decS x [32,9]).pads) :
  (PT (n + 4)).fn (.ref 203) [.str x] [] = some (.tup [.bytes (decB x [32,9]),.str []]):=by
 (refine (fn_df rfl rfl).trans ?_; refine run_ex fun sc b g1 g2=>?_; (conv at g1=>(lhs; whnf)); (conv at g2=>(lhs; whnf)); subst g1 g2)
 have e1:=c_decode n x 32 9 h (by decide) (by decide) (Nat.le_trans hl (by decide)) h1 h2
 have w1:=w_st
 have w2:=w_nil
 clear h h1 h2
 (simp +decide only [jb,jd,jg,ji,jj,jn,jB,jF,jG,↓jH,j3,j5,kv,kx,qG,qO,qP,qQ,qR,ya,fuelN,yr,yv,yB,yE,yJ,yU,zg,xj,xT,rho0,bindsD,List.reverse_cons,List.reverse_nil,List.nil_append,vJ, *])
noncomputable def dflt3 : List Int:=[0,5,1,10,15,6,412]
noncomputable def nums3 (ns : List Int) : List Int:=if ns = [] then dflt3 else ns.take 12
noncomputable def lwR (ns nums : List Int) (line fg : List Nat) (m : Option D) : Rho:=[("script",.fz (.list (ns.map D.int))),("numbers",.fz (.list (nums.map D.int))),("line",.fz (.str line)),("figures",.fz (.list (natsD fg))),("marks",LJ m),("filler",.un),("whole",.un),("row",.un),("again",.un),("turned",.un),("lead",.un),("far",.un),("white",.un),("deeper",.un),("flatter",.un),("table",.un),("back",.un),("one",.un),("other",.un),("third",.un)]
theorem law_pre (n : Nat) (ns nums : List Int) (line fg : List Nat) (hn : ns.length≤63) (e1 : nums3 ns = nums) (e2 : nums.map (fun x=>sgn3 (cd3 x)) = line) (e3 : figsN line = fg) (h12 : nums.length≤12) : ∀ sc bd',(F 230).scope = sc→bodyOf (F 230) = bd' →
  exN (PT (n + 8)) 12 sc (rho0 (bindsD [("script",.list (ns.map D.int))]) sc.names) (bd'.take 3) = some (.next (lwR ns nums line fg none)):=by
 intro sc bd' g1 g2
 (conv at g1=>(lhs; whnf)); (conv at g2=>(lhs; whnf)); subst g1 g2
 have g0 : ∀ xs : List Int,eqD 8 (.list (xs.map D.int)) (.list []) = some (decide (xs = [])):=fun xs=>eqD_ints xs []
 have g1 : cutD (.list (ns.map D.int)) none (some 12) none = some (.list ((ns.take 12).map D.int)):=by
  have:=cut_to (l:=ns.map D.int) (by rw [List.length_map]; exact Nat.le_trans hn (by decide)) 12
  rw [List.map_take]; exact this
 have hI : oIf (some (!decide (ns = []))) (some (.list (List.map D.int (List.take 12 ns)))) (some (.list [.int 0,.int 5,.int 1,.int 10,.int 15,.int 6,.int 412])) = some (.list (nums.map D.int)):=by
  rw [← e1]
  unfold nums3
  by_cases q : ns = []
  ·rw [decide_eq_true q,if_pos q]; rfl
  ·rw [decide_eq_false q,if_neg q]; rfl
 have hnl : nums.length≤lim:=Nat.le_trans h12 (by decide)
 have ll : line.length = nums.length:=by rw [← e2,List.length_map]
 have f1:=c_figs (n + 6) line (by rw [ll]; exact Nat.le_trans h12 (by decide))
 rw [e3] at f1
 have w0:=w_nil
 have j1 : joinD [.str [],.list (nums.map fun x=>D.str [sgn3 (cd3 x)])] = some (.str line):=by
  rw [joinD_ok (strs_map (fun x=>[sgn3 (cd3 x)]) nums) (by rw [flatten_oneU,List.length_map]; exact hnl),flatten_oneU,e2]
 clear e1 e2 e3 h12 hn
 simp only [List.take_succ_cons,List.take_zero]
 (simp +decide only [jb,jc,jg,ji,jj,jn,jq,jG,↓jH,↓jI,j3,kv,qk,qm,qM,qN,qP,qQ,qR,qU,qV,qW,q9,yb,List.length_map,yl,fuelN,yy,yB,yD,yG,yH,yL,yM,yN,yT,yW,zv,zB,zE,zJ,zP,zQ,zR,zU,xS,xT,xY,wi,rho0,bindsD,List.reverse_cons,List.reverse_nil,List.nil_append,↓reduceIte,vd,Nat.reduceAdd, *])
 rw [cGo_g (items:=nums.map D.int) D.int (fun x=>D.str [sgn3 (cd3 x)]) nums rfl _ rfl]
 rotate_left
 ·intro a ha
  have e1:=c_sign (n + 6) a
  clear ha g0 g1 hI j1 f1
  exact ⟨_,by (simp +decide only [qm,yt,zV, *]) <;> rfl,by (simp +decide only [↓jI,j5,kx,qG,qP,qQ,qR,ya,yr,yv,yB,yJ,vL, *])⟩
 unfold lwR
 (simp +decide only [ja,jb,jc,jg,ji,jj,jl,jn,jq,↓jJ,kl,kH,qi,qj,qn,qo,qG,qP,qQ,qR,ya,fuelN,yr,yv,yB,yJ,yN,yQ,yT,yW,zj,zk,zE,wi,List.nil_append,List.cons_append,wo,ww,wH,vh,Nat.reduceAdd,vM, *])
noncomputable def eqB (x y : List Nat) : Bool:=decide ((wsOf x).count = (wsOf y).count) && decide ((wsOf x).b = (wsOf y).b)
noncomputable def swapT (t : Nat×Nat×Nat) : Nat×Nat×Nat:=(t.1,t.2.2,t.2.1)
structure RestD (line fg fil W : List Nat) (row : List UInt8) (again turned lead far : List Nat) (dp fl : Bool) : Prop where
 no : 160 ∉ line
 l12 : line.length≤12
 f12 : fg.length≤12
 fi : fil = if fg.length % 4 = 1 then [65] else []
 w : figsN (line ++ fil) = W
 w16 : W.length≤16
 w64 : ∀ f∈W,f < 64
 as : ∀ c∈line ++ fil ++ List.replicate (padN W.length) 61,c < 128
 q1 : (decS (line ++ fil ++ List.replicate (padN W.length) 61) [32,9]).q≠1
 q2 : (decS (line ++ fil ++ List.replicate (padN W.length) 61) [32,9]).q≠0→4≤(decS (line ++ fil ++ List.replicate (padN W.length) 61) [32,9]).q + (decS (line ++ fil ++ List.replicate (padN W.length) 61) [32,9]).pads
 rw_ : decB (line ++ fil ++ List.replicate (padN W.length) 61) [32,9] = row
 rl : row.length≤100
 ro : oct3 W = row
 ag : (encB row [32,9]).map (fun c=>c.toNat) = again
 tu : (encB row [9,32]).map (fun c=>c.toNat) = turned
 a3 : line3 W [32,9] = again
 t3 : line3 W [9,32] = turned
 al : again.length≤100
 tl : turned.length≤100
 le : twN line = lead
 fa : twN again = far
 dp' : dp = decide ((((shown3 W).map fun f=>decide (61 < f)).drop lead.length).take 1 = [true])
 fl' : fl = (!decide (lead = []) && !decide (61 < (shown3 W)[lead.length - 1]?.getD 0))
 lw : lead.length≤W.length
 l1 : lessB line again = dp
 l2 : lessB again line = fl
 eq : eqB line again = !(dp || fl)
 w1 : witN (fun a b=>decide (b≤a)) line again = if dp = true then [] else tab3 lead far
 w2 : witN (fun a b=>decide (b≤a)) again line = if fl = true then [] else (tab3 lead far).map swapT
 w3 : witN (fun a b=>decide (a≠b)) line again = if (dp || fl) = true then tab3 lead far else []
 x1 : lessB turned again = false
 x2 : lessB again turned = false
 x3 : eqB turned again = decide (far = [])
theorem eqD_bss {a : List UInt8} {b c : List Nat} : eqD 8 (.list [.bytes a,.str b,.str c]) (.list [.bytes a,.str b,.str c]) = some true:=by
 show some (decide (a = a) && (decide (b = b) && (decide (c = c) && true))) = _
 rw [decide_eq_true rfl,decide_eq_true rfl,decide_eq_true rfl]; rfl
theorem eqD_T3n (n : Nat) (p q : Nat×Nat×Nat) : eqD (n + 2) (T3n p) (T3n q) = some (decide (p = q)):=by
 show some (decide ((p.1 : Int) = (q.1 : Int)) && (decide ((p.2.1 : Int) = (q.2.1 : Int)) && (decide ((p.2.2 : Int) = (q.2.2 : Int)) && true))) = _
 refine congrArg some ?_
 rw [Bool.and_true,← Bool.decide_and,← Bool.decide_and]
 exact decide_eq_decide.mpr ⟨fun h=>Prod.ext (Int.ofNat.inj h.1) (Prod.ext (Int.ofNat.inj h.2.1) (Int.ofNat.inj h.2.2)),fun h=>⟨congrArg (fun t=>(t.1 : Int)) h,congrArg (fun t=>(t.2.1 : Int)) h,congrArg (fun t=>(t.2.2 : Int)) h⟩⟩
theorem eqD_T3s (xs ys : List (Nat×Nat×Nat)) : eqD 8 (.list (xs.map T3n)) (.list (ys.map T3n)) = some (decide (xs = ys)):=eqD_list (fun a b=>eqD_T3n 5 a b) xs ys
theorem oO_ws (ρ : Rho) (N : List Str) (x : List Nat) : oO ρ N (some (wsD x)) = some (wsD x,frzM N ρ):=id rfl
theorem eqD_bools (xs ys : List Bool) : eqD 8 (.list (xs.map D.bool)) (.list (ys.map D.bool)) = some (decide (xs = ys)):=eqD_list (fun a b=>by
 show some (a == b) = _
 rw [Bool.beq_eq_decide_eq]) xs ys
theorem cGo_T {α : Type} {V : EvF} {scope : Scope} {ρ₀ : Rho} {target elt : Expr} (f : α→D) (g : α→Nat×Nat×Nat) (xs : List α) (h : ∀ a,a∈xs→∃ ρ₁,bindT scope ρ₀ target (f a) = some ρ₁∧V.e scope ρ₁ elt = some (T3n (g a))) : cGo V scope ρ₀ target [] elt (xs.map f) = some (.list ((xs.map g).map T3n)):=by
 rw [cGo_map f (fun a=>T3n (g a)) xs h,List.map_map]; rfl
theorem cut_at {α : Type} (l : List α) (k : Nat) : cut (some (k : Int)) (some ((k + 1 : Nat) : Int)) l = (l.drop k).take 1:=by
 show (l.drop (clipAt l.length k)).take (clipAt l.length (k + 1 : Nat) - clipAt l.length k) = _
 rw [clip_nat l.length (k + 1),clip_nat]
 rcases Nat.lt_or_ge k l.length with h | h
 ·rw [Nat.min_eq_left (Nat.le_of_lt h),Nat.min_eq_left (Nat.succ_le_of_lt h),Nat.succ_sub (Nat.le_refl k),Nat.sub_self]
 ·rw [Nat.min_eq_right h,List.drop_of_length_le h,List.drop_of_length_le (Nat.le_refl _),List.take_nil,List.take_nil]
noncomputable def lw2R (ns nums : List Int) (line fg fil W : List Nat) (row : List UInt8) (again turned lead far : List Nat) (dp fl : Bool) : Rho:=[("script",.fz (.list (ns.map D.int))),("numbers",.fz (.list (nums.map D.int))),("line",.fz (.str line)),("figures",.fz (.list (natsD fg))),("marks",.fz (.int 3)),("filler",.fz (.str fil)),("whole",.fz (.list (natsD W))),("row",.fz (.bytes row)),("again",.fz (.str again)),("turned",.fz (.str turned)),("lead",.fz (.str lead)),("far",.fz (.str far)),("white",.ow (((shown3 W).map fun f=>decide (61 < f)).map D.bool)),("deeper",.fz (.bool dp)),("flatter",.fz (.bool fl)),("table",.un),("back",.un),("one",.un),("other",.un),("third",.un)]
theorem law_rest1 (n : Nat) {ns nums : List Int} {line fg fil W : List Nat} {row : List UInt8} {again turned lead far : List Nat} {dp fl : Bool} (H : RestD line fg fil W row again turned lead far dp fl) : ∀ sc bd',(F 230).scope = sc→bodyOf (F 230) = bd' →
  exN (PT (n + 8)) 12 sc (lwR ns nums line fg (some (.int 3))) ((bd'.drop 4).take 11) = some (.next (lw2R ns nums line fg fil W row again turned lead far dp fl)):=by
 intro sc bd' g1 g2
 (conv at g1=>(lhs; whnf)); (conv at g2=>(lhs; whnf)); subst g1 g2
 have h1:=H.l12
 have h2:=H.f12
 have w0:=w_nil
 have w1:=w_a0
 have w2:=w_st
 have w3 : (ofString "A").cps.toList = [65]:=by decide +kernel
 have w4:=w_eq
 have w5 : (ofString "\t ").cps.toList = [9,32]:=by decide +kernel
 have g1:=natsD_len fg
 have r1 : fg.length≤lim:=Nat.le_trans h2 (by decide)
 have i1 : inD (.str [160]) (.str line) = some false:=by
  show some (decide (160∈line)) = _
  rw [decide_eq_false H.no]
 have y1 : binF .Mod (.int (fg.length : Int)) (.int 4) = some (.int ((fg.length % 4 : Nat) : Int)):=n_mod (by decide)
 have y2 : oIf (some (decide (((fg.length % 4 : Nat) : Int) = 1))) (some (.str [65])) (some (.str [])) = some (.str fil):=by
  rw [H.fi]
  by_cases q : fg.length % 4 = 1
  ·rw [decide_eq_true (show ((fg.length % 4 : Nat) : Int) = 1 from ze q),if_pos q]; rfl
  ·rw [decide_eq_false (show ¬ ((fg.length % 4 : Nat) : Int) = 1 from zne q),if_neg q]; rfl
 have fl1 : fil.length≤1:=by
  rw [H.fi]; by_cases q : fg.length % 4 = 1
  ·rw [if_pos q]; exact Nat.le_refl _
  ·rw [if_neg q]; exact Nat.zero_le _
 have l13:=Nat.add_le_add h1 fl1
 have y3 : binF .Add (.str line) (.str fil) = some (.str (line ++ fil)):=by rw [xW,if_pos (show line.length + fil.length≤lim from Nat.le_trans l13 (by decide))]
 have f1:=c_figs (n + 6) (line ++ fil) (by rw [List.length_append]; exact Nat.le_trans l13 (by decide))
 rw [H.w] at f1
 have k1:=n_padm W.length
 have k2:=un_neg W.length
 have p3:=pad_le W.length
 have l16 : line.length + fil.length + padN W.length≤lim:=Nat.le_trans (Nat.add_le_add l13 p3) (by decide)
 have k3:=s_mul (c:=61) (k:=padN W.length) (Nat.le_trans p3 (by decide))
 have y4 : binF .Add (.str (line ++ fil)) (.str (List.replicate (padN W.length) 61)) = some (.str (line ++ fil ++ List.replicate (padN W.length) 61)):=by
  rw [xW,if_pos (by rw [List.length_append,List.length_replicate]; exact l16)]
 have d1:=c_decode (n + 5) (line ++ fil ++ List.replicate (padN W.length) 61) 32 9 H.as (by decide) (by decide) (by rw [List.length_append,List.length_append,List.length_replicate]; exact l16) H.q1 H.q2
 rw [H.rw_] at d1
 have W16:=H.w16
 have wl : W.length≤lim:=Nat.le_trans W16 (by decide)
 clear l13 l16
 have gW:=natsD_len W
 have o1:=c_oct3 (n + 7) W W16 H.w64
 rw [H.ro] at o1
 have n1:=c_line3 (n + 6) W 32 9 W16 H.w64
 have n2:=c_line3 (n + 6) W 9 32 W16 H.w64
 rw [H.a3] at n1
 rw [H.t3] at n2
 simp only [List.drop_succ_cons,List.drop_zero,List.take_succ_cons,List.take_zero]
 unfold lwR
 (simp +decide only [ja,jb,jc,jg,jh,ji,jj,jm,jn,jq,jr,jy,jG,↓jJ,↓jK,↓jM,↓jN,ka,kl,kt,ku,kH,qe,qf,qg,qr,qs,qt,qG,qH,qI,qM,qN,qP,qQ,qR,ya,yb,yl,fuelN,yr,yv,yw,yx,yy,yB,yD,yJ,yL,yM,yN,yQ,yR,yT,yW,zy,zB,zE,zL,zP,zQ,zR,zS,zT,zU,xc,xS,xT,xU,xX,wa,wb,wi,↓reduceIte,wo,wq,wO,vd,Nat.reduceAdd,vJ,vM,vT, *])
 rw [cGo_g (items:=[.bytes [32,9],.bytes [9,32]]) D.bytes (fun p=>D.str ((encB row p).map fun c=>c.toNat)) [[32,9],[9,32]] rfl [.str again,.str turned] (by rw [← H.ag,← H.tu]; rfl)]
 rotate_left
 ·intro a ha
  have rl:=H.rl
  have e1 : (PT (n + 8)).fn (.ref 94) [.bytes row,.bytes a] [] = some (.bytes (encB row a)):=by
   rcases List.mem_cons.mp ha with z | z
   ·subst z; exact c_encode (n + 5) row 32 9 (Nat.le_trans rl (by decide))
   ·have z:=List.mem_singleton.mp z
    subst z; exact c_encode (n + 5) row 9 32 (Nat.le_trans rl (by decide))
  have el : (encB row a).length≤lim:=by unfold encB; rw [trans_len,List.length_map]; exact Nat.le_trans (b2a_len row) (Nat.le_trans (Nat.add_le_add_right (Nat.mul_le_mul_left 2 rl) 3) (by decide))
  have e2:=itD_bytes el
  have e3 : joinD [.str [],.list ((encB row a).map fun c=>D.str [c.toNat])] = some (.str ((encB row a).map fun c=>c.toNat)):=by
   have:=joinD_ok (strs_map (fun c : UInt8=>[c.toNat]) (encB row a)) (by
    rw [flatten_oneU,List.length_map]; exact el)
   rwa [flatten_oneU] at this
  have ch:=chr_ok
  clear H ha n1 n2 o1 d1 f1 y1 y2 y3 y4 k1 k2 k3 rl i1 e2
  refine ⟨_,by (simp +decide only [kR,qm,zV, *]) <;> rfl,?_⟩
  (simp +decide only [jG,↓jI,↓jJ,j5,ky,qG,qP,qQ,qR,q9,ya,yb,yr,yv,yB,yJ,yL,yM,zO,zP,zQ,zR,zU,xT,↓reduceIte,vf,not_false_eq_true,vI, *])
  rw [cGo_g (items:=(encB row a).map fun b=>D.int (b.toNat : Int)) (fun b : UInt8=>D.int (b.toNat : Int)) (fun c : UInt8=>D.str [c.toNat]) (encB row a) rfl _ rfl]
  ·(simp +decide only [yB,zj,zk,List.nil_append,List.cons_append,wo,ww,wH,vh, *])
  ·intro c hc
   clear hc e1 e3
   exact ⟨_,by (simp +decide only [qm,yt,zV, *]) <;> rfl,by (simp +decide only [↓jI,j5,kx,qG,qP,qQ,qR,ya,yr,yv,yB,yJ,wo,wu,vV, *])⟩
 have q1:=eqD_bss (a:=row) (b:=again) (c:=turned)
 have lst : ∀ x l : List Nat,x.length≤100→twN x = l→∃ r,lstripF [.str x,.str [32,9]] = some (.str r)∧r.length≤lim∧binF .Sub (.int (x.length : Int)) (.int (r.length : Int)) = some (.int ((l.length : Nat) : Int))∧cutD (.str x) none (some ((l.length : Nat) : Int)) none = some (.str l):=fun x l hx hl=>by
  have al : x.length≤lim:=Nat.le_trans hx (by decide)
  have dw : lstripD [32,9] x = x.drop l.length:=by
   rw [← hl]
   unfold lstripD twN
   rw [drop_takeWhile]
   congr 1
   funext k
   unfold isW
   simp [Bool.beq_eq_decide_eq]
  have tl : l.length≤x.length:=by rw [← hl]; exact tw_len x
  have e2 : (x.drop l.length).length = x.length - l.length:=List.length_drop
  refine ⟨x.drop l.length,?_,by rw [e2]; exact Nat.le_trans (Nat.sub_le _ _) al,?_,?_⟩
  ·show (if _ then _ else none) = _; rw [if_pos al,dw]
  ·rw [e2,n_sub (Nat.sub_le _ _),Nat.sub_sub_self tl]
  ·rw [cut_toS al]
   congr 2
   rw [← hl]
   exact (List.prefix_iff_eq_take.mp (List.takeWhile_prefix _)).symm
 have L1:=lst line lead (Nat.le_trans h1 (by decide)) H.le
 have L2:=lst again far H.al H.fa
 clear lst
 obtain ⟨ra,a1,a2,a3,a4⟩:=L1
 obtain ⟨rb,b1,b2,b3,b4⟩:=L2
 have s1:=c_shown (n + 7) W W16 H.w64
 have sl:=shown3_len W
 have z61 : ∀ f : Nat,decide ((61 : Int) < (f : Int)) = decide (61 < f):=fun f=>decide_eq_decide.mpr (show ((61 : Nat) : Int) < f ↔ 61 < f from Int.ofNat_lt)
 have gS:=natsD_len (shown3 W)
 have l1 : line.length≤lim:=Nat.le_trans h1 (by decide)
 have l2 : again.length≤lim:=Nat.le_trans H.al (by decide)
 have dp':=H.dp'
 have fl':=H.fl'
 have lw:=H.lw
 have leadl : lead.length≤lim:=Nat.le_trans lw wl
 unfold lw2R
 generalize hS : shown3 W = S at *
 have wl2 : S.length≤lim:=by rw [sl]; exact wl
 (simp +decide only [ja,jb,jc,jg,jh,ji,jj,jn,jq,jy,jG,↓jJ,↓jN,↓jO,↓jP,↓jQ,kt,kH,qa,qb,qc,qd,qu,qv,qw,qx,qG,qH,qN,qP,qQ,qR,qU,qV,qW,q9,ya,yb,yl,fuelN,yr,yv,yw,yy,yB,yD,yG,yH,yJ,yL,yM,yN,yQ,yT,yW,yY,zj,zk,zv,zy,zC,zI,zN,zP,zR,zU,zX,zY,zZ,xT,xY,wm,Bool.not_true,List.nil_append,List.cons_append,↓reduceIte,wo,wq,wz,wK,wP,vd,vh,List.length_cons,List.length_nil,Nat.reduceAdd,vN,vQ,vR,vT, *])
 rw [cGo_g (items:=natsD S) (fun k : Nat=>D.int (k : Int)) (fun f=>.bool (decide (61 < f))) S rfl ((S.map fun f=>decide (61 < f)).map D.bool) (by rw [List.map_map]; rfl)]
 rotate_left
 ·intro a ha
  clear H ha n1 n2 o1 d1 f1 y1 y2 y3 y4 k1 k2 k3 i1 q1 a1 a2 a3 a4 b1 b2 b3 b4 dp' fl' s1
  exact ⟨_,by (simp +decide only [qm,yt,zV, *]) <;> rfl,by (simp +decide only [jG,↓jI,qL,yy,yz,xS,x6, *])⟩
 subst dp' fl'
 have T1 : cutD (.list ((S.map fun f=>decide (61 < f)).map D.bool)) (some (lead.length : Int)) (some ((lead.length + 1 : Nat) : Int)) none = some (.list ((((S.map fun f=>decide (61 < f)).drop lead.length).take 1).map D.bool)):=by
  have e : cutL (.list ((S.map fun f=>decide (61 < f)).map D.bool)) (some (lead.length : Int)) (some ((lead.length + 1 : Nat) : Int)) none = some (cut (some (lead.length : Int)) (some ((lead.length + 1 : Nat) : Int)) ((S.map fun f=>decide (61 < f)).map D.bool)):=if_pos (by rw [List.length_map,List.length_map]; exact wl2)
  unfold cutD; rw [e,cut_at,List.map_take,List.map_drop]
 have T2 : eqD 8 (.list ((((S.map fun f=>decide (61 < f)).drop lead.length).take 1).map D.bool)) (.list [.bool true]) = some (decide (((S.map fun f=>decide (61 < f)).drop lead.length).take 1 = [true])):=eqD_bools _ [true]
 have T3 : 0 < lead.length→idxD (.list ((S.map fun f=>decide (61 < f)).map D.bool)) ((lead.length - 1 : Nat) : Int) = some (.bool (decide (61 < S[lead.length - 1]?.getD 0))):=fun hp=>by
  have hk : lead.length - 1 < S.length:=by rw [sl]; exact Nat.lt_of_lt_of_le (Nat.sub_lt hp (by decide)) lw
  have:=idx_map D.bool (xs:=S.map fun f=>decide (61 < f)) (k:=lead.length - 1) false (by rw [List.length_map]; exact hk) (by rw [List.length_map]; exact wl2)
  rw [this,List.getElem?_map,List.getElem?_eq_getElem hk]; rfl
 clear H n1 n2 o1 d1 f1 y1 y2 y3 y4 k1 k2 k3 i1 q1 a1 a2 a3 a4 b1 b2 b3 b4 s1 hS
 generalize hB : decide (((S.map fun f=>decide (61 < f)).drop lead.length).take 1 = [true]) = bd at *
 generalize (((S.map fun f=>decide (61 < f)).drop lead.length).take 1).map D.bool = TT1 at *
 generalize decide (61 < S[lead.length - 1]?.getD 0) = bf at *
 generalize (S.map fun f=>decide (61 < f)).map D.bool = SB at *
 clear hB
 by_cases hl : lead = []
 ·have hd : decide (lead = []) = true:=decide_eq_true hl
  clear T3 hl
  (simp +decide only [ja,jb,jc,jg,ji,jj,jn,jo,jq,jG,↓jR,↓jT,kt,kH,kZ,k7,k9,qy,qz,qA,qG,qH,qI,qJ,qK,qL,qN,qP,qQ,qR,qU,qV,qW,qZ,ya,fuelN,yr,yv,yw,yy,yz,yB,yD,yG,yH,yJ,yN,yO,yT,yW,zi,zv,zz,zD,xG,xR,xS,xT,xX,xY,wc,we,wi,wj,Bool.not_true,↓reduceIte,wo,wq,wP,Nat.reduceAdd,vT, *]) <;> rfl
 ·have hp : 0 < lead.length:=List.length_pos_iff.mpr hl
  have T3:=T3 hp
  have T4 : binF .Sub (.int (lead.length : Int)) (.int 1) = some (.int ((lead.length - 1 : Nat) : Int)):=n_sub (b:=1) hp
  have hd : decide (lead = []) = false:=decide_eq_false hl
  clear hp hl
  (simp +decide only [ja,jb,jc,jg,ji,jj,jn,jo,jq,jG,↓jR,↓jT,kt,kH,kZ,k7,k9,qy,qz,qA,qG,qH,qI,qJ,qK,qL,qN,qP,qQ,qR,qU,qV,qW,qZ,ya,fuelN,yr,yv,yw,yx,yy,yz,yB,yD,yG,yH,yI,yJ,yN,yO,yT,yW,zi,zv,zz,zD,xG,xR,xS,xT,xX,xY,wc,we,wg,wi,wj,Bool.true_and,Bool.not_false,↓reduceIte,wo,wq,wP,Nat.reduceAdd,vT, *]) <;> rfl
theorem tab3_len {lead far : List Nat} (h1 : lead.length≤100) (h2 : far.length≤100) : (tab3 lead far).length≤lim:=by
 have ml : lgN (lead ++ 9 :: far)≤201:=maxR_le fun y hy=>by
  obtain ⟨p,hp,rfl⟩:=List.mem_map.mp hy
  have:=split_len 9 _ p hp
  rw [List.length_append,List.length_cons] at this
  exact Nat.le_trans this (Nat.add_le_add h1 (Nat.succ_le_succ h2))
 unfold tab3
 rw [List.length_map,List.length_range]
 exact Nat.le_trans (Nat.succ_le_succ ml) (by decide)
theorem eqD_ll (A B : List (Nat×Nat×Nat)) : eqD 8 (.list [.list (A.map T3n),.list (B.map T3n)]) (.list [.list (A.map T3n),.list (B.map T3n)]) = some true:=by
 have:=eqD_list (n:=7) (f:=fun A : List (Nat×Nat×Nat)=>D.list (A.map T3n)) (fun a b=>eqD_list (n:=6) (fun a b=>eqD_T3n 4 a b) a b) [A,B] [A,B]
 rw [decide_eq_true rfl] at this; exact this
theorem law_rest2 (n : Nat) {ns nums : List Int} {line fg fil W : List Nat} {row : List UInt8} {again turned lead far : List Nat} {dp fl : Bool} (H : RestD line fg fil W row again turned lead far dp fl) : ∀ sc bd',(F 230).scope = sc→bodyOf (F 230) = bd' →
  exN (PT (n + 8)) 12 sc (lw2R ns nums line fg fil W row again turned lead far dp fl) (bd'.drop 15) = some (.ret (.bool true)):=by
 intro sc bd' g1 g2
 (conv at g1=>(lhs; whnf)); (conv at g2=>(lhs; whnf)); subst g1 g2
 have h1:=H.l12
 have al:=H.al
 have tl:=H.tl
 have ll : lead.length≤line.length:=by rw [← H.le]; exact tw_len line
 have fl_ : far.length≤again.length:=by rw [← H.fa]; exact tw_len again
 have a1 : line.length≤100:=Nat.le_trans h1 (by decide)
 have a2:=Nat.le_trans ll a1
 have a3:=Nat.le_trans fl_ al
 have t1:=c_table (n + 7) lead far a2 a3
 have ht:=tab3_len a2 a3
 have a4 : 100≤100000:=by decide
 have a5:=Nat.le_trans a1 a4
 have a6:=Nat.le_trans al a4
 have a7:=Nat.le_trans tl a4
 have W1:=c_ws (n + 7) line a5
 have W2:=c_ws (n + 7) again a6
 have W3:=c_ws (n + 7) turned a7
 have m1:=mtm_nlw
 have m2:=mtm_new
 have m3:=mtm_less
 have m4:=mtm_equal
 have e1:=c_nlw (n + 6) line again a5 a6
 have e2:=c_nlw (n + 6) again line a6 a5
 have e3:=c_new (n + 6) line again a5 a6
 have e4:=c_less (n + 6) line again a5 a6
 have e5:=c_less (n + 6) again line a6 a5
 have e6:=c_equal (n + 7) line again
 have e7:=c_less (n + 6) turned again a7 a6
 have e8:=c_less (n + 6) again turned a6 a7
 have e9:=c_equal (n + 7) turned again
 rw [show (decide ((wsOf line).count = (wsOf again).count) && decide ((wsOf line).b = (wsOf again).b)) = !(dp || fl) from H.eq] at e6
 rw [show (decide ((wsOf turned).count = (wsOf again).count) && decide ((wsOf turned).b = (wsOf again).b)) = decide (far = []) from H.x3] at e9
 rw [H.w1] at e1
 rw [H.w2] at e2
 rw [H.w3] at e3
 rw [H.l1] at e4
 rw [H.l2] at e5
 rw [H.x1] at e7
 rw [H.x2] at e8
 have w0:=w_nil
 have h3 : (3 : Nat)≤lim:=by decide
 have ow:=oO_ws
 clear H h1 al tl ll fl_ a1 a2 a3 a4 a5 a6 a7
 unfold lw2R
 generalize ((shown3 W).map fun f=>decide (61 < f)).map D.bool = SB at *
 generalize tab3 lead far = tb at *
 simp only [List.drop_succ_cons,List.drop_zero]
 (simp +decide only [jb,jc,jg,ji,jj,jn,jo,jq,↓jR,↓jS,↓jW,kH,kW,qB,qG,qP,qQ,qR,ya,yb,List.length_map,fuelN,yr,yv,yB,yJ,yL,yM,yN,yT,yW,zC,zE,zJ,zP,zR,zU,wi,↓reduceIte,vd,Nat.reduceAdd,vS, *])
 rw [cGo_T T3n swapT tb]
 rotate_left
 ·intro t ht'
  clear ht' e1 e2 e3 e4 e5 e6 e7 e8 e9 t1 W1 W2 W3
  unfold T3n swapT
  exact ⟨_,by (simp +decide only [kR,kT,qm,qn,qo,yt,zW,zX,zY,zZ, *]) <;> rfl,by (simp +decide only [↓jI,↓jJ,↓jK,qO,qP,qQ,yB,yE, *])⟩
 have q3:=eqD_ll (if dp = true then [] else tb) (if fl = true then [] else tb.map swapT)
 have q4 : eqD 8 (.list ((if (dp || fl) = true then tb else []).map T3n)) (.list ((if (dp || fl) = true then tb else []).map T3n)) = some true:=by rw [eqD_T3s,decide_eq_true rfl]
 have q5 : eqD 8 (.list [.bool dp,.bool fl,.bool (!(dp || fl))]) (.list [.bool dp,.bool fl,.bool (!(dp || fl))]) = some true:=by
  induction dp using Bool.casesOn <;> induction fl using Bool.casesOn <;> rfl
 have q6 : eqD 8 (.list [.bool false,.bool false,.bool (decide (far = []))]) (.list [.bool false,.bool false,.bool (decide (far = []))]) = some true:=by
  generalize decide (far = []) = b
  induction b using Bool.casesOn <;> rfl
 have hb : oBool .Or (some (.bool dp)) (some (.bool fl)) = some (.bool (dp || fl)):=by induction dp using Bool.casesOn <;> rfl
 have hc : oAll .Or (some dp) (some fl) = some (dp || fl):=by induction dp using Bool.casesOn <;> rfl
 have i1 : oIf (some dp) (some (.list [])) (some (.list (tb.map T3n))) = some (.list ((if dp = true then [] else tb).map T3n)):=by induction dp using Bool.casesOn <;> rfl
 have i2 : oIf (some fl) (some (.list [])) (some (.list ((tb.map swapT).map T3n))) = some (.list ((if fl = true then [] else tb.map swapT).map T3n)):=by induction fl using Bool.casesOn <;> rfl
 have i3 : oIf (some (dp || fl)) (some (.list (tb.map T3n))) (some (.list [])) = some (.list ((if (dp || fl) = true then tb else []).map T3n)):=by
  generalize (dp || fl) = z
  induction z using Bool.casesOn <;> rfl
 simp only [zi,we] at hb
 clear t1
 generalize (if dp = true then [] else tb).map T3n = A1 at *
 generalize (if fl = true then [] else tb.map swapT).map T3n = A2 at *
 generalize (if (dp || fl) = true then tb else []).map T3n = A3 at *
 generalize (dp || fl) = z at *
 (simp +decide only [ja,jb,jc,jd,jg,jh,ji,jj,jn,jo,jr,jy,jB,jG,↓jJ,↓jP,↓jQ,↓jS,↓jU,↓jV,↓jW,↓jX,↓jY,↓jZ,↓j0,kH,kR,kT,kU,qC,qD,qE,qF,qG,qI,qJ,qK,qL,qM,qN,qO,qP,qQ,qR,q9,ya,yd,yf,yh,yk,yl,yn,fuelN,yr,yt,yv,yx,yy,yz,yB,yD,yE,yJ,yK,yN,yO,yT,yU,yW,yX,zg,zi,zj,zk,zv,zy,zX,zY,zZ,xR,xT,xX,xY,wc,we,wg,wj,Bool.not_true,List.nil_append,List.cons_append,↓reduceIte,vh,List.length_cons,List.length_nil,Nat.reduceAdd,vA, *])
theorem law_end (n : Nat) {ns nums : List Int} {line fg fil W : List Nat} {row : List UInt8} {again turned lead far : List Nat} {dp fl : Bool} (H : RestD line fg fil W row again turned lead far dp fl) (sc : Scope) (bd' : List Stmt) (g1 : (F 230).scope = sc) (g2 : bodyOf (F 230) = bd') :
  exN (PT (n + 8)) 12 sc (lwR ns nums line fg (some (.int 3))) (bd'.drop 4) = some (.ret (.bool true)):=by
 rw [take_app 11 (bd'.drop 4),exN_app (law_rest1 n H sc bd' g1 g2),List.drop_drop]
 exact law_rest2 n H sc bd' g1 g2
theorem law_nb (n : Nat) {ns nums : List Int} {line fg : List Nat} (h : 160∈line) : ∀ sc bd',(F 230).scope = sc→bodyOf (F 230) = bd'→exN (PT (n + 8)) 12 sc (lwR ns nums line fg (some (.int 3))) (bd'.drop 4) = some (.ret (.bool true)):=by
 intro sc bd' g1 g2
 (conv at g1=>(lhs; whnf)); (conv at g2=>(lhs; whnf)); subst g1 g2
 have w1:=w_a0
 have i1 : inD (.str [160]) (.str line) = some true:=by
  show some (decide (160∈line)) = _
  rw [decide_eq_true h]
 clear h
 simp only [List.drop_succ_cons,List.drop_zero]
 unfold lwR
 (simp +decide only [jb,jd,jg,jh,ji,jj,jm,jn,jy,jB,jG,↓jJ,yl,fuelN,yy,yO,zg,zx,xR,xT,wa, *])
noncomputable def ReadD (x : List Nat) (v : List UInt8×List Nat) : Prop :=
 ((∀ c∈x,c < 128)∧(decS x [32,9]).q≠1∧((decS x [32,9]).q≠0→4≤(decS x [32,9]).q + (decS x [32,9]).pads)∧v = (decB x [32,9],[])) ∨
 ((∀ c∈x,c < 128)∧(decS x [32,9]).q = 1∧v = ([],fmtN (((decS x [32,9]).out.length / 3 * 4 + 1 : Nat) : Int))) ∨
 ((∀ c∈x,c < 128)∧(decS x [32,9]).q≠1∧(decS x [32,9]).q≠0∧(decS x [32,9]).q + (decS x [32,9]).pads < 4∧v = ([],wPad)) ∨
 ((∃ c∈x,¬ c < 128)∧v = ([],wAsc))
set_option tactic.hygienic true in
noncomputable def loopX (f : Nat→Rho) (ρ : Rho) : Option SR:=open Classical in if ∃ m,m < 4∧ρ = f m then some (.next ρ) else none
theorem loopX_at {f : Nat→Rho} {m : Nat} (h : m < 4) : loopX f (f m) = some (.next (f m)):=by
 unfold loopX
 exact if_pos ⟨m,h,rfl⟩
section
variable {G : Gd} {pr : Params} {mg mb : Str→Option Value} {φ : Fz} {s : Shared} {A : Around} {E : Value→Shared→Prop} {outer : List Env}
theorem Step.slide {φ' : Fz} {s' : Shared} (x : Step φ s φ' s') : Slide outer φ s φ' s':=⟨x.eq,⟨fun b o _a e=>x.ext b o e,.of_keeps x.ext⟩,x.up,x.new,x.fin⟩
theorem read_any (B : Bs G (KK pr) mg mb) (n : Nat) {x : List Nat} {v : List UInt8×List Nat} (hl : x.length≤100) (h : ReadD x v) (R : Room A (2 * (n + 8))) {vs : List Value} {Q : Value→Shared→Prop} (g : Gnd G φ s) (r : RepL φ vs [.str x]) (Fr : Frms G φ s A outer)
  (k : ∀ w s' φ',Slide outer φ s φ' s'→Rep φ' w (.tup [.bytes v.1,.str v.2])→Q w s') : wpAny (model G.prog G.w) A (call (.ref 203) vs []) Q E s:=by
 have go : ∀ cls,ClsOk G cls→RaiseOk G (2 * (n + 5) + 1) (.ref 102) [.str x,.str [32,9]] [] cls v.2→v.1 = []→wpAny (model G.prog G.w) A (call (.ref 203) vs []) Q E s:=fun cls CK RK e=>by
  refine r.sCons fun v1 vs r1 r=>?_
  refine r.sNil ?_
  refine read_exc B (n + 7) x CK (RK.le (by lia)) g (R.le (by lia)) r1 Fr fun w s' φ' z rw'=>k w s' φ' z ?_
  rw [e]; exact rw'
 have hl' : x.length≤lim:=by unfold lim; lia
 have sp : ∃ b,trans (x.map (·.toUInt8)) (mkTab ([32,9].map (·.toUInt8)) [43,47]) = b∧decS x [32,9] = a2b b:=⟨_,rfl,rfl⟩
 refine e1a2 sp fun b hb eS=>?_
 have tl : b.length≤1000:=by rw [← hb,trans_len,List.length_map]; lia
 rcases h with ⟨h0,h1,h2,e⟩ | ⟨h0,h1,e⟩ | ⟨h0,h1,h2,h3,e⟩ | ⟨h0,e⟩
 ·have C:=(PN_ok B (tab_ok B) (n + 8)).fn _ _ _ _ (c_read (n + 4) x h0 hl h1 h2)
  refine wpAny_mono (C.run vs [] φ s A E g R r ⟨rfl,.nil⟩) (fun w s' q=>?_) fun _a _a e=>e
  exact e1a2 q fun φ' y rv=>k w s' φ' y.slide (by rw [e]; exact rv)
 ·refine go _ (clsOk_err B) ?_ (by rw [e])
  rw [eS] at h1 e
  have RK:=r_a2b1 B n b tl h1
  have e2 : v.2 = fmtN (((a2b b).out.length / 3 * 4 + 1 : Nat) : Int):=by rw [e]
  rw [← e2] at RK
  clear e2 e h1 eS k go
  generalize v.2 = msg at *
  subst hb
  have RD:=r_dec B n x 32 9 h0 (by decide) (by decide) hl' (RK.le (by lia))
  exact RD.le (by lia)
 ·refine go _ (clsOk_err B) ?_ (by rw [e])
  rw [eS] at h1 h2 h3
  have RK:=r_a2b2 B n b tl h1 h2 h3
  have e2 : v.2 = wPad:=by rw [e]
  rw [← e2] at RK
  clear e2 e h1 h2 h3 eS k go
  generalize v.2 = msg at *
  subst hb
  have RD:=r_dec B n x 32 9 h0 (by decide) (by decide) hl' (RK.le (by lia))
  exact RD.le (by lia)
 ·refine go _ clsOk_ve ?_ (by rw [e])
  have e2 : v.2 = wAsc:=by rw [e]
  have RK:=r_bytes B n x h0 hl'
  rw [← e2] at RK
  clear e2 e eS k go
  generalize v.2 = msg at *
  exact (r_decN B n x 32 9 (RK.le (by lia))).le (by lia)
end
section
variable {G : Gd} {pr : Params} {mg mb : Str→Option Value} {φ : Fz} {s : Shared} {A : Around} {E : Value→Shared→Prop}
theorem forD_four {X : Rho→Option SR} {bind : Rho→D→Option Rho} {f : Option D→Rho} (hb : ∀ j d,bind (f j) d = some (f (some d))) (hX : ∀ m : Nat,m < 4→X (f (some (.int (m : Int)))) = some (.next (f (some (.int (m : Int)))))) :
  forD X bind (f none) [.int 0,.int 1,.int 2,.int 3] = some (.next (f (some (.int 3)))):=by
 have h0 : X (f (some (.int 0))) = some (.next (f (some (.int 0)))):=hX 0 (by decide)
 have h1 : X (f (some (.int 1))) = some (.next (f (some (.int 1)))):=hX 1 (by decide)
 have h2 : X (f (some (.int 2))) = some (.next (f (some (.int 2)))):=hX 2 (by decide)
 have h3 : X (f (some (.int 3))) = some (.next (f (some (.int 3)))):=hX 3 (by decide)
 show o1 _ (bind (f none) (.int 0)) = _
 rw [hb]
 show o1 _ (X _) = _
 rw [h0]
 show o1 _ (bind _ (.int 1)) = _
 rw [hb]
 show o1 _ (X _) = _
 rw [h1]
 show o1 _ (bind _ (.int 2)) = _
 rw [hb]
 show o1 _ (X _) = _
 rw [h2]
 show o1 _ (bind _ (.int 3)) = _
 rw [hb]
 show o1 _ (X _) = _
 rw [h3]
 rfl
structure ForD (n : Nat) (ns nums : List Int) (line fg : List Nat) (sc : Scope) (bd : List Stmt) (tgt it : Expr) (pos : Pos) (z : Str) (p pc : Pos) (args : List Expr) (cd : Expr) (pcm : Pos) (b2 : List Stmt) (pif : Pos) : Prop where
 bd3 : bd.drop 3 = .For tgt it [.If (.Compare (.Call (.Name z p) args [] pc) [.NotEq] [cd] pcm) b2 [] pif] [] pos :: bd.drop 4
 ok : okE it = true
 it : evO (evN (PT (n + 8)) fuelN) sc (lwR ns nums line fg none) it = some (.rng 0 4 1,lwR ns nums line fg none)
 bi : ∀ j d,bindT sc (lwR ns nums line fg j) tgt d = some (lwR ns nums line fg (some d))
 ok2 : okE cd = true
 nm : ∀ m : Nat,(evN (PT (n + 8)) fuelN).e sc (lwR ns nums line fg (some (.int (m : Int)))) (.Name z p) = some (.val (.ref 203))
 ar : ∀ m : Nat,m < 4→evs ((evN (PT (n + 8)) fuelN).e sc (lwR ns nums line fg (some (.int (m : Int))))) args = some [.str (line ++ List.replicate m 61)]
 du : ∀ m : Nat,m < 4→(evN (PT (n + 8)) fuelN).e sc (lwR ns nums line fg (some (.int (m : Int)))) cd = some (.tup [.bytes (dueN line fg m).1,.str (dueN line fg m).2])
theorem law_for (n : Nat) {ns nums : List Int} {line fg : List Nat} (ll : line.length≤12) (hf : fg.length≤12) (hf64 : ∀ f∈fg,f < 64) : ∀ sc bd',(F 230).scope = sc→bodyOf (F 230) = bd' →
  ∃ tgt it pos z p pc args cd pcm b2 pif,ForD n ns nums line fg sc bd' tgt it pos z p pc args cd pcm b2 pif:=by
 intro sc bd' g1 g2
 (conv at g1=>(lhs; whnf)); (conv at g2=>(lhs; whnf)); subst g1 g2
 have d1:=fun m=>c_due (n + 6) line fg m (by lia) (by lia) hf64
 have w1:=w_eq
 have s1 : ∀ m : Nat,m < 4→binF .Mult (.str [61]) (.int (m : Int)) = some (.str (List.replicate m 61)):=fun m h=>s_mul (by lia)
 have s2 : ∀ m : Nat,m < 4→binF .Add (.str line) (.str (List.replicate m 61)) = some (.str (line ++ List.replicate m 61)):=fun m h=>by
  rw [xW,if_pos (by rw [List.length_replicate]; unfold lim; lia)]
 clear hf hf64 ll
 refine ⟨_,_,_,_,_,_,_,_,_,_,_,⟨rfl,rfl,?_,fun j d=>?_,rfl,fun m=>?_,fun m h=>?_,fun m h=>?_⟩⟩
 ·clear d1 s1 s2
  unfold lwR
  (simp +decide only [jg,ji,jj,jl,jn,jG,km,kH,qG,qP,qQ,qR,ya,fuelN,yr,yv,yB,yJ,yV,xS,wp,wE,wV,vX, *])
 ·clear d1 s1 s2
  unfold lwR
  (simp +decide only [jm,qh,qp,zV, *])
 ·clear d1 s1 s2
  unfold lwR
  (simp +decide only [jm,ko,kH,qG,fuelN,yr,yv,vO, *])
 ·have s1:=s1 m h
  have s2:=s2 m h
  clear d1 h
  unfold lwR
  (simp +decide only [jm,jG,↓jJ,↓jL,qH,qP,qQ,fuelN,yw,yB,xT, *])
 ·have d1:=d1 m
  clear s1 s2 h
  unfold lwR
  (simp +decide only [jm,↓jJ,↓jK,↓jL,kq,kH,qG,qP,qQ,qR,ya,fuelN,yr,yv,yB,yJ,vP, *])
theorem frm_nil {env : Env} {c : List CE} (fr : A.frames = some [env]) (lo : env.frame = some env.locals) : Fr1 G env c φ s A []:=⟨fr,lo,trivial,fun _a h=>no_mem h,fun _a h=>no_mem h⟩
theorem pair_ne (a : List UInt8) (b : List Nat) : cmpD .NotEq (.tup [.bytes a,.str b]) (.tup [.bytes a,.str b]) = some false:=by
 show notO (some (decide (a = a) && (decide (b = b) && true))) = _
 rw [decide_eq_true rfl,decide_eq_true rfl]; rfl
theorem it_four : itD (.rng 0 4 1) = some [.int 0,.int 1,.int 2,.int 3]:=by
 show itD (.rng 0 ((4 : Nat) : Int) 1) = _
 rw [vg,if_pos (by decide),rng_0]; rfl
theorem law_sem (B : Bs G (KK pr) mg mb) (n : Nat) {ns nums : List Int} {line fg : List Nat} (hn : ns.length≤63) (e1 : nums3 ns = nums) (e2 : nums.map (fun x=>sgn3 (cd3 x)) = line) (e3 : figsN line = fg) (h12 : nums.length≤12) (hf : fg.length≤12) (hf64 : ∀ f∈fg,f < 64)
  (RD : ∀ m,m < 4→ReadD (line ++ List.replicate m 61) (dueN line fg m)) (fin : ∀ sc bd',(F 230).scope = sc→bodyOf (F 230) = bd'→exN (PT (n + 8)) 12 sc (lwR ns nums line fg (some (.int 3))) (bd'.drop 4) = some (.ret (.bool true)))
  {v : Value} {Q : Value→Shared→Prop} (g : Gnd G φ s) (R : Room A (2 * (n + 8) + 1)) (r : Rep φ v (.list (ns.map D.int))) (hA : A.frames = some []) (k : ∀ w s',EP φ s (.bool true) w s'→Q w s') : wpAny (model G.prog G.w) A (call (.ref 230) [v] []) Q E s:=by
 have q:=(tab_ok B).df 230 _ df_230
 have hK:=((tab_ok B).df 203 _ df_203).at'.keep
 refine e0a2 (q.bd [.list (ns.map D.int)] [] _ rfl) fun h1 h2=>?_
 refine wpAny_call (def_enter B.lim q.at' h1 h2 g R (.one r) ⟨rfl,.nil⟩ fun c s₁ I=>?_)
 have I : Inn G (F 230) 230 _ φ s c s₁:=I
 show wpAny (model G.prog G.w) (A.deeper (callEnvC (F 230) s.heap.objs.size 230)) (execs (bodyOf (F 230)) (callEnvC (F 230) s.heap.objs.size 230)) _ _ s₁
 have PO:=PN_ok B (tab_ok B) (n + 8)
 have O:=evN_ok PO fuelN
 have Rd:=R.deeper (callEnvC (F 230) s.heap.objs.size 230)
 have lo : (callEnvC (F 230) s.heap.objs.size 230).frame = some (callEnvC (F 230) s.heap.objs.size 230).locals:=rfl
 have fr : (A.deeper (callEnvC (F 230) s.heap.objs.size 230)).frames = some [callEnvC (F 230) s.heap.objs.size 230]:=Around.frames_deeper hA
 have stp : ∀ {s' : Shared} {φ' : Fz},SRel (callEnvC (F 230) s.heap.objs.size 230) c φ s₁ φ' s'→Gnd G φ' s'→Step φ s φ' s':=fun y g'=>I.step y g'
 have pre:=law_pre n ns nums line fg hn e1 e2 e3 h12 _ _ rfl rfl
 have fin:=fin _ _ rfl rfl
 have ll : line.length≤12:=by rw [← e2,List.length_map]; exact h12
 have LF:=law_for n (ns:=ns) (nums:=nums) ll hf hf64 _ _ rfl rfl
 have St:=I.st
 have ab:=I.ab
 clear I h1 h2 q
 generalize callEnvC (F 230) s.heap.objs.size 230 = env at *
 generalize (F 230).scope = sc at *
 generalize bodyOf (F 230) = bd at *
 obtain ⟨tgt,it,pos,z,p,pc,args,cd,pcm,b2,pif,FD⟩:=LF
 have hb : execs bd env = execs (bd.take 3 ++ bd.drop 3) env:=congrArg (fun z=>execs z env) (take_app 3 bd)
 rw [hb]
 refine seq_run PO O (evN_ok PO 29) rfl (exN_ok PO sc 11) Rd pre St ab fun c₁ φ₁ s₂ S₁ a₁ x₁ p₁=>?_
 rw [FD.bd3]
 refine wpAny_execs_cons ?_
 have HX : ∀ ρ r,loopX (fun m=>lwR ns nums line fg (some (.int (m : Int)))) ρ = some r→BSem G G.h sc env (A.deeper env) [.If (.Compare (.Call (.Name z p) args [] pc) [.NotEq] [cd] pcm) b2 [] pif] ρ r:=by
  intro ρ r h c φ s E S hc
  unfold loopX at h
  by_cases hm : ∃ m : Nat,m < 4∧ρ = lwR ns nums line fg (some (.int (m : Int)))
  ·rw [if_pos hm] at h
   obtain ⟨m,h4,rfl⟩:=hm
   have e:=some_inv h
   subst e
   refine if_ne O FD.ok2 (fun Q E kk=>call_slide O hK (FD.nm m) (FD.ar m h4) (fun vs φ₂ s₂ Q g₂ r₂ F₂ k₂=>read_any B n ?_ (RD m h4) Rd g₂ r₂ F₂ k₂) Rd S hc (frm_nil fr lo) kk) (FD.du m h4) (pair_ne _ _) Rd S hc
   rw [List.length_append,List.length_replicate]; lia
  ·rw [if_neg hm] at h; exact no_none h
 refine wpAny_mono (for_at O HX FD.ok FD.it it_four (forD_four FD.bi fun m h=>loopX_at (f:=fun m=>lwR ns nums line fg (some (.int (m : Int)))) h) Rd S₁ a₁) (fun f s₃ z=>?_) fun _a _a e=>e
 induction f using PySem.Flow.casesOn <;> first | exact z.elim | skip
 refine e2a4 z fun c₂ φ₂ ab₂ S₂ x₂ p₂=>?_
 refine wpAny_mono (exN_ok PO sc 12 _ _ _ fin G.h env c₂ φ₂ s₃ _ _ Rd S₂ ab₂) (fun f s₄ q=>?_) fun _a _a e=>e
 induction f using PySem.Flow.casesOn <;> first | exact q.elim | skip
 exact e1a3 q fun φ' rv g' y=>k _ _ ⟨φ',stp ((x₁.trans p₁ x₂).trans (p₁.trans x₁ p₂) y) g',rv⟩
end
noncomputable def wS (ts : Nat) : Nat→List Nat→Nat
 | _,[]=>0
 | k,c :: r=>k / ts * c + wS ts (k + 1) r
theorem wS_app (ts : Nat) : ∀ (a b : List Nat) (k : Nat),wS ts k (a ++ b) = wS ts k a + wS ts (k + a.length) b
 | [],b,k=>by simp [wS]
 | c :: a,b,k=>by
  rw [List.cons_append,wS,wS,wS_app ts a b (k + 1),List.length_cons,show k + 1 + a.length = k + (a.length + 1) by lia]; lia
theorem wS_zero (ts : Nat) : ∀ (l : List Nat) (k : Nat),k + l.length≤ts→wS ts k l = 0
 | [],_,_=>rfl
 | c :: l,k,h=>by
  rw [List.length_cons] at h
  rw [wS,wS_zero ts l (k + 1) (by lia),Nat.div_eq_of_lt (by lia)]; lia
theorem wS_range (ts : Nat) : ∀ (l : List Nat) (k : Nat),((List.range l.length).map fun i=>(k + i) / ts * (l[i]?.getD 0)).sum = wS ts k l
 | [],_=>rfl
 | c :: l,k=>by
  rw [List.length_cons,List.range_succ_eq_map,List.map_cons,List.sum_cons,List.map_map,wS,← wS_range ts l (k + 1)]
  congr 2
  refine List.map_congr_left fun i _a=>?_
  simp only [Function.comp,List.getElem?_cons_succ]
  rw [show k + i.succ = k + 1 + i by lia]
theorem ilI_wS (count : List Nat) (ts : Nat) : ilI count ts = wS ts 0 count:=by
 have h1 : ilI count ts = wS ts ts (count.drop ts):=by
  rw [← wS_range,List.length_drop]
  unfold ilI
  refine congrArg List.sum (List.map_congr_left fun i _a=>?_)
  rw [List.getElem?_drop]
 have h2:=wS_app ts (count.take ts) (count.drop ts) 0
 rw [List.take_append_drop,Nat.zero_add,List.length_take] at h2
 rw [h1,h2,wS_zero ts (count.take ts) 0 (by rw [List.length_take]; lia),Nat.zero_add]
 rcases Nat.le_total ts count.length with h | h
 ·rw [Nat.min_eq_left h]
 ·rw [List.drop_of_length_le h]; rfl
theorem wS_rep (ts : Nat) : ∀ (n k : Nat),wS ts k (List.replicate n 0) = 0
 | 0,_=>rfl
 | n + 1,k=>by rw [List.replicate_succ,wS,wS_rep ts n (k + 1)]; lia
theorem wS_set (ts : Nat) : ∀ (l : List Nat) (j k : Nat),j < l.length→wS ts k (l.set j (l[j]?.getD 0 + 1)) = wS ts k l + (k + j) / ts
 | c :: l,0,k,_=>by
  show wS ts k ((c + 1) :: l) = _
  rw [wS,wS,Nat.mul_add]; simp only [Nat.add_zero,Nat.mul_one]; lia
 | c :: l,j + 1,k,h=>by
  rw [List.set_cons_succ,List.getElem?_cons_succ,wS,wS,wS_set ts l j (k + 1) (by simpa using h),show k + 1 + j = k + (j + 1) by lia]; lia
theorem wS_grow (ts : Nat) (count : List Nat) (b : Nat) : wS ts 0 (grow count b) = wS ts 0 count:=by
 unfold grow
 split
 ·rw [wS_app,wS_rep]; rfl
 ·rfl
theorem wS_bump (ts : Nat) (count : List Nat) (b : Nat) : wS ts 0 (bump count b) = wS ts 0 count + b / ts:=by
 unfold bump
 rw [wS_set ts _ _ _ grow_len.1,wS_grow,Nat.zero_add]
theorem col_fold (ts : Nat) (h : 0 < ts) : ∀ (l : List Nat) (s : Ws) (c : Nat),c = s.b + ts * (wS ts 0 s.count + s.nt)→l.foldl (colSt ts) c = (l.foldl wsSt s).b + ts * (wS ts 0 (l.foldl wsSt s).count + (l.foldl wsSt s).nt)
 | [],s,c,e=>e
 | q :: l,s,c,e=>by
  rw [List.foldl_cons,List.foldl_cons]
  refine col_fold ts h l _ _ ?_
  unfold colSt wsSt
  split
  ·dsimp only; lia
  ·dsimp only
   rw [wS_bump,e,Nat.add_mul_mod_self_left]
   have h1:=Nat.div_add_mod s.b ts
   have h2:=Nat.mod_lt s.b h
   rw [show wS ts 0 s.count + s.b / ts + (s.nt + 1) = (wS ts 0 s.count + s.nt) + (s.b / ts + 1) by lia,Nat.mul_add ts _ (s.b / ts + 1),Nat.mul_add ts (s.b / ts) 1]
   lia
theorem lev_col (x : List Nat) (ts : Nat) (h : 0 < ts) : levI (wsOf x) ts = colN ts (twN x):=by
 unfold levI colN twN wsOf
 rw [ilI_wS]
 exact (col_fold ts h _ ⟨[],0,0,0⟩ 0 rfl).symm
noncomputable def runsF : Nat→List Nat→List Nat
 | k,[]=>[k]
 | k,c :: r=>if c = 9 then k :: runsF 0 r else runsF (k + 1) r
theorem split_runs : ∀ (d : List Nat) (k : Nat) (p : List Nat) (ps : List (List Nat)),splitAt 9 d = p :: ps→(k + p.length) :: ps.map List.length = runsF k d
 | [],k,p,ps,h=>by
  rw [splitAt] at h
  cases h; rfl
 | c :: r,k,p,ps,h=>by
  rw [splitAt] at h
  rw [runsF]
  by_cases hc : c = 9
  ·rw [if_pos hc] at h ⊢
   cases h
   generalize e : splitAt 9 r = r_; induction r_ using List.casesOn with
   | nil=>exact absurd e (splitAt_ne 9 r)
   | cons p' ps' =>
    rw [← split_runs r 0 p' ps' e,Nat.zero_add]; rfl
  ·rw [if_neg hc] at h ⊢
   generalize e : splitAt 9 r = r_; induction r_ using List.casesOn with
   | nil=>exact absurd e (splitAt_ne 9 r)
   | cons p' ps' =>
    rw [e] at h
    cases h
    rw [← split_runs r (k + 1) p' _ e,List.length_cons,sa]
theorem lgN_runs (d : List Nat) : lgN d = maxR (runsF 0 d):=by
 unfold lgN
 generalize e : splitAt 9 d = r_; induction r_ using List.casesOn with
 | nil=>exact absurd e (splitAt_ne 9 d)
 | cons p ps=>rw [← split_runs d 0 p ps e,Nat.zero_add]; rfl
theorem maxR_cons (a : Nat) (l : List Nat) : maxR (a :: l) = max a (maxR l):=rfl
theorem max_sub1 (a b : Nat) : max a (b + 1) - 1 = max (a - 1) b:=(Nat.sub_max_sub_right a (b + 1) 1).symm
theorem bump_len (c : List Nat) (b : Nat) : (bump c b).length = max c.length (b + 1):=by unfold bump; rw [List.length_set,grow_len.2]
theorem long_fold : ∀ (l : List Nat) (s : Ws),(∀ c∈l,isW c = true)→longN (l.foldl wsSt s) = max (maxR (runsF s.b l)) (s.count.length - 1)
 | [],s,_=>(Nat.max_comm _ _).trans (congrArg (max · (s.count.length - 1)) (Nat.max_eq_left (Nat.zero_le s.b)).symm)
 | q :: l,s,h=>by
  rw [List.foldl_cons,long_fold l _ fun c hc=>h c (List.mem_cons_of_mem _ hc),runsF]
  by_cases c1 : q = 32
  ·rw [c1]; rfl
  ·have c2 : q = 9:=of_decide_eq_true ((Bool.or_eq_true_iff.mp (h q List.mem_cons_self)).resolve_left (fun z=>c1 (of_decide_eq_true z)))
   rw [c2,if_pos rfl,maxR_cons]
   show max (maxR (runsF 0 l)) ((bump s.count s.b).length - 1) = _
   rw [bump_len,max_sub1,Nat.max_comm (s.count.length - 1),← Nat.max_assoc,Nat.max_comm s.b]
theorem tw_isW (x : List Nat) : ∀ c∈x.takeWhile isW,isW c = true:=fun c h=>by
 induction x with
 | nil=>simp at h
 | cons a x ih =>
  by_cases ha : isW a = true
  ·rw [List.takeWhile_cons_of_pos ha] at h
   rcases List.mem_cons.mp h with z | z
   ·rw [z]; exact ha
   ·exact ih z
  ·rw [List.takeWhile_cons_of_neg ha] at h; cases h
theorem long_lg (x : List Nat) : longN (wsOf x) = lgN (twN x):=by
 rw [lgN_runs]
 have:=long_fold (x.takeWhile isW) ⟨[],0,0,0⟩ (tw_isW x)
 show longN (List.foldl wsSt ⟨[],0,0,0⟩ (x.takeWhile isW)) = maxR (runsF 0 (x.takeWhile isW))
 rw [this]
 exact Nat.max_eq_left (Nat.zero_le _)
theorem colN_one : ∀ (l : List Nat) (c : Nat),l.foldl (colSt 1) c = c + l.length
 | [],c=>rfl
 | q :: l,c=>by
  rw [List.foldl_cons,colN_one l,List.length_cons]
  unfold colSt
  by_cases h : q = 32
  ·rw [if_pos h]; exact (sa _ _).symm
  ·rw [if_neg h,Nat.mod_one]; exact (sa _ _).symm
theorem n_len (x : List Nat) : (wsOf x).n = (twN x).length:=(wsJ_of x).2.2.1
theorem lev_one (x : List Nat) : levI (wsOf x) 1 = (twN x).length:=by
 rw [lev_col x 1 (by decide)]; unfold colN; rw [colN_one,Nat.zero_add]
noncomputable def cAt (count : List Nat) (i : Nat) : Nat:=count[i]?.getD 0
noncomputable def gS (count : List Nat) (ts M : Nat) : Nat:=((List.range (M - ts)).map fun i=>(ts + i) / ts * cAt count (ts + i)).sum
noncomputable def CntI (s : Ws) : Prop:=s.nt = s.count.sum∧∀ i,i + 1 = s.count.length→cAt s.count i≠0
theorem sum_set : ∀ (l : List Nat) (j : Nat),j < l.length→(l.set j (l[j]?.getD 0 + 1)).sum = l.sum + 1
 | c :: l,0,_=>by show (c + 1) + l.sum = c + l.sum + 1; lia
 | c :: l,j + 1,h=>by
  rw [List.set_cons_succ,List.getElem?_cons_succ,List.sum_cons,List.sum_cons,sum_set l j (by simpa using h)]; lia
theorem sum_rep0 : ∀ n : Nat,(List.replicate n 0).sum = 0
 | 0=>rfl
 | n + 1=>by rw [List.replicate_succ,List.sum_cons,sum_rep0 n]
theorem sum_grow (l : List Nat) (b : Nat) : (grow l b).sum = l.sum:=by
 unfold grow
 split
 ·rw [List.sum_append,sum_rep0,Nat.add_zero]
 ·rfl
theorem cAt_set {l : List Nat} {j i v : Nat} (h : j < l.length) : cAt (l.set j v) i = if i = j then v else cAt l i:=by
 unfold cAt
 rw [List.getElem?_set]
 by_cases e : j = i
 ·subst e; rw [if_pos rfl,if_pos h,if_pos rfl]; rfl
 ·rw [if_neg e,if_neg fun z=>e z.symm]
theorem cAt_grow (l : List Nat) (b i : Nat) : cAt (grow l b) i = cAt l i:=by
 unfold grow
 split
 ·unfold cAt
  rcases Nat.lt_or_ge i l.length with h | h
  ·rw [List.getElem?_append_left h]
  ·rw [List.getElem?_append_right h,List.getElem?_eq_none h,List.getElem?_replicate]
   split <;> rfl
 ·rfl
theorem cntI_step {s : Ws} {c : Nat} (h : CntI s) : CntI (wsSt s c):=by
 unfold wsSt
 split
 ·exact h
 ·obtain ⟨h1,h2⟩:=h
  refine ⟨?_,fun i hi=>?_⟩
  ·show s.nt + 1 = (bump s.count s.b).sum
   unfold bump
   rw [sum_set _ _ grow_len.1,sum_grow,h1]
  ·show cAt (bump s.count s.b) i≠0
   have hi : i + 1 = (bump s.count s.b).length:=hi
   unfold bump at hi ⊢
   rw [List.length_set,grow_len.2] at hi
   rw [cAt_set grow_len.1]
   split
   ·lia
   ·rw [cAt_grow]
    refine h2 i ?_
    lia
theorem cntI_fold : ∀ (l : List Nat) (s : Ws),CntI s→CntI (l.foldl wsSt s)
 | [],_,h=>h
 | c :: l,s,h=>cntI_fold l _ (cntI_step h)
theorem cntI_of (x : List Nat) : CntI (wsOf x):=cntI_fold _ ⟨[],0,0,0⟩ ⟨rfl,fun i hi=>(nomatch hi)⟩
theorem lev_unfold (w : Ws) (ts : Nat) : levI w ts = w.b + ts * (ilI w.count ts + w.nt):=rfl
theorem il_zero {count : List Nat} {ts : Nat} (h : count.length≤ts) : ilI count ts = 0:=by
 unfold ilI; rw [Nat.sub_eq_zero_of_le h]; rfl
theorem top_facts (x y : List Nat) : (wsOf x).b < topN x y∧(wsOf x).count.length≤topN x y∧(wsOf y).b < topN x y∧(wsOf y).count.length≤topN x y:=by
 have l : ∀ w : Ws,w.count.length≤longN w + 1:=fun w=>Nat.sub_le_iff_le_add.mp (Nat.le_max_left _ _)
 have b : ∀ w : Ws,w.b≤longN w:=fun w=>Nat.le_max_right _ _
 exact ⟨Nat.lt_succ_of_le (Nat.le_trans (b _) (Nat.le_max_left _ _)),Nat.le_trans (l _) (Nat.succ_le_succ (Nat.le_max_left _ _)),Nat.lt_succ_of_le (Nat.le_trans (b _) (Nat.le_max_right _ _)),Nat.le_trans (l _) (Nat.succ_le_succ (Nat.le_max_right _ _))⟩
theorem lev_of_norm {x y : List Nat} (h1 : (wsOf x).count = (wsOf y).count) (h2 : (wsOf x).b = (wsOf y).b) (ts : Nat) : levI (wsOf x) ts = levI (wsOf y) ts:=by
 rw [lev_unfold,lev_unfold,h1,h2,(cntI_of x).1,(cntI_of y).1,h1]
theorem top_pos (x y : List Nat) : 1≤topN x y:=Nat.le_add_left 1 _
theorem lessB_iff (x y : List Nat) : lessB x y = true ↔ ∀ i,i < topN x y→levI (wsOf x) (i + 1) < levI (wsOf y) (i + 1):=by
 have T:=top_pos x y
 have l1:=lev_one x
 have l2:=lev_one y
 have n1:=n_len x
 have n2:=n_len y
 unfold lessB
 by_cases q1 : (wsOf y).n≤(wsOf x).n
 ·rw [if_pos q1]
  refine ⟨fun h=>(nomatch h),fun h=>?_⟩
  have:=h 0 T
  rw [Nat.zero_add,l1,l2,← n1,← n2] at this
  exact absurd this (Nat.not_lt.mpr q1)
 rw [if_neg q1]
 by_cases q2 : (wsOf x).count.length≤1∧(wsOf y).count.length≤1
 ·rw [if_pos q2,decide_eq_true_eq]
  have lv : ∀ i,levI (wsOf x) (i + 1) = (wsOf x).b + (i + 1) * (wsOf x).nt∧levI (wsOf y) (i + 1) = (wsOf y).b + (i + 1) * (wsOf y).nt:=fun i=>by
   rw [lev_unfold,lev_unfold,il_zero (Nat.le_trans q2.1 (Nat.le_add_left 1 i)),il_zero (Nat.le_trans q2.2 (Nat.le_add_left 1 i)),Nat.zero_add,Nat.zero_add]; exact ⟨rfl,rfl⟩
  obtain ⟨t1,t2,t3,t4⟩:=top_facts x y
  have a0:=lv 0
  rw [Nat.zero_add,l1,l2,Nat.one_mul,Nat.one_mul] at a0
  constructor
  ·intro hn i _
   rw [(lv i).1,(lv i).2,Nat.add_mul,Nat.add_mul,Nat.one_mul,Nat.one_mul,Nat.add_left_comm (wsOf x).b,Nat.add_left_comm (wsOf y).b]
   exact Nat.add_lt_add_of_le_of_lt (Nat.mul_le_mul_left i hn) (by rw [← a0.1,← a0.2,← n1,← n2]; exact Nat.not_le.mp q1)
  ·intro h
   rcases Nat.lt_or_ge (wsOf y).nt (wsOf x).nt with z | z
   ·exfalso
    have:=h (topN x y - 1) (Nat.sub_lt T (by decide))
    rw [(lv _).1,(lv _).2,Nat.sub_add_cancel T] at this
    exact absurd this (Nat.not_lt.mpr (Nat.le_trans (Nat.add_le_add_right (Nat.le_of_lt t3) _) (Nat.le_trans (Nat.le_of_eq (Nat.add_comm ..)) (Nat.le_trans (Nat.mul_le_mul_left (topN x y) z) (Nat.le_add_left _ _)))))
   ·exact z
 ·rw [if_neg q2,Bool.not_eq_true',List.any_eq_false]
  constructor
  ·intro h i hi
   induction i using Nat.casesAuxOn with
   | zero=>rw [Nat.zero_add,l1,l2,← n1,← n2]; exact Nat.not_le.mp q1
   | succ i =>
    have:=h i (List.mem_range.mpr (Nat.lt_sub_of_add_lt hi))
    rw [decide_eq_true_eq] at this
    exact Nat.not_le.mp this
  ·intro h i hi
   have:=h (i + 1) (Nat.add_lt_of_lt_sub (List.mem_range.mp hi))
   rw [decide_eq_true_eq]
   exact Nat.not_le.mpr this
noncomputable def bytesG : List Nat→List Nat
 | a :: b :: c :: d :: r=>(a * 4 + b / 16) :: (b % 16 * 16 + c / 4) :: (c % 4 * 64 + d) :: bytesG r
 | _=>[]
noncomputable def numB (s : Nat) (l : List Nat) : Nat:=l.foldl (fun s x=>256 * s + x) s
theorem ind4 {α : Type} {Q : α→Prop} {P : List α→Prop} (h0 : P []) (h4 : ∀ a b c d r,Q a→Q b→Q c→Q d→P r→P (a :: b :: c :: d :: r)) {F : List α} (h : F.length % 4 = 0) (k : ∀ f∈F,Q f) : P F:=by
 have go : ∀ (n : Nat) (F : List α),F.length = 4 * n→(∀ f∈F,Q f)→P F:=fun n=>by
  induction n with
  | zero=>exact of0 fun _a=>h0
  | succ n ih =>
   show ∀ F : List α,F.length = 4 * n + 1 + 1 + 1 + 1→(∀ f∈F,Q f)→P F
   exact ofS fun a=>ofS fun b=>ofS fun c=>ofS fun d r e k=>h4 a b c d r (k a (.head _)) (k b (.tail _ (.head _))) (k c (.tail _ (.tail _ (.head _)))) (k d (.tail _ (.tail _ (.tail _ (.head _))))) (ih r e fun f hf=>k f (.tail _ (.tail _ (.tail _ (.tail _ hf)))))
 exact go (F.length / 4) F (Nat.mul_div_cancel' (Nat.dvd_of_mod_eq_zero h)).symm k
theorem num4 {s a b c d u v w x : Nat} (h : b = u * 16 + v) (h' : c = w * 4 + x) : 64 * (64 * (64 * (64 * s + a) + b) + c) + d = 256 * (256 * (256 * s + (a * 4 + u)) + (v * 16 + w)) + (x * 64 + d):=by subst h h'; lia
theorem num_eq {F : List Nat} (h : F.length % 4 = 0) (k : ∀ f∈F,f < 64) : ∀ s,F.foldl (fun s f=>64 * s + f) s = numB s (bytesG F) :=
 ind4 (P:=fun F=>∀ s,F.foldl (fun s f=>64 * s + f) s = numB s (bytesG F)) (fun _a=>rfl) (fun a b c d r _a _a _a _a ih s=>(ih _).trans (congrArg (fun z=>numB z (bytesG r)) (num4 (Nat.div_add_mod' b 16).symm (Nat.div_add_mod' c 4).symm))) h k
theorem bytesG_len {F : List Nat} (h : F.length % 4 = 0) : (bytesG F).length = F.length / 4 * 3 :=
 ind4 (Q:=fun _a=>True) (P:=fun F=>(bytesG F).length = F.length / 4 * 3) rfl (fun a b c d r _a _a _a _a ih=>by
  show (bytesG r).length + 3 = (r.length + 4) / 4 * 3
  rw [Nat.add_div_right _ (by decide),Nat.succ_mul,ih]) h fun _a _a=>trivial
theorem ma_lt {a b m k : Nat} (ha : a < m) (hb : b < k) : a * k + b < m * k:=Nat.lt_of_lt_of_le (Nat.add_lt_add_left hb _) ((Nat.succ_mul a k).symm ▸ Nat.mul_le_mul_right k ha)
theorem d16 {b : Nat} (h : b < 64) : b / 16 < 4:=Nat.div_lt_of_lt_mul h
theorem d4 {b : Nat} (h : b < 64) : b / 4 < 16:=Nat.div_lt_of_lt_mul h
theorem m16 (b : Nat) : b % 16 < 16:=Nat.mod_lt _ (by decide)
theorem m4 (b : Nat) : b % 4 < 4:=Nat.mod_lt _ (by decide)
theorem bytesG_lt {F : List Nat} (h : F.length % 4 = 0) (k : ∀ f∈F,f < 64) : ∀ x∈bytesG F,x < 256 :=
 ind4 (P:=fun F=>∀ x∈bytesG F,x < 256) (fun _a h=>no_mem h) (fun a b c d r ha hb hc hd ih=>List.forall_mem_cons.mpr ⟨ma_lt ha (d16 hb),List.forall_mem_cons.mpr ⟨ma_lt (m16 b) (d4 hc),List.forall_mem_cons.mpr ⟨ma_lt (m4 c) hd,ih⟩⟩⟩) h k
noncomputable def itO : Nat→List Nat×Nat→List Nat×Nat
 | 0,s=>s
 | k + 1,s=>itO k (s.1 ++ [s.2 % 256],s.2 / 256)
theorem foldl_itO : ∀ (l : List Nat) (s : List Nat×Nat),l.foldl (fun (s : List Nat×Nat) (_ : Nat)=>(s.1 ++ [s.2 % 256],s.2 / 256)) s = itO l.length s
 | [],_=>rfl
 | _ :: l,s=>by rw [List.foldl_cons,foldl_itO l,List.length_cons]; rfl
theorem itO_bytes : ∀ (rs : List Nat) (o : List Nat) (t : Nat),(∀ x∈rs,x < 256)→itO rs.length (o,numB t rs.reverse) = (o ++ rs,t)
 | [],o,t,_=>by simp [itO,numB]
 | x :: rs,o,t,h=>by
  have hx:=h x List.mem_cons_self
  have ih:=itO_bytes rs (o ++ [x]) t fun y hy=>h y (List.mem_cons_of_mem _ hy)
  have e : numB t (x :: rs).reverse = 256 * numB t rs.reverse + x:=by
   unfold numB; rw [List.reverse_cons,List.foldl_append]; rfl
  rw [List.length_cons,itO,e]
  dsimp only
  rw [show (256 * numB t rs.reverse + x) % 256 = x by lia,show (256 * numB t rs.reverse + x) / 256 = numB t rs.reverse by lia,ih]
  simp
theorem or_add {a b k : Nat} (h : b < 2 ^ k) : a * 2 ^ k ||| b = a * 2 ^ k + b:=by
 rw [← Nat.shiftLeft_eq,Nat.shiftLeft_add_eq_or_of_lt h]
noncomputable def b2n (s : B2) (x : Nat) : B2 :=
 if s.lb = 0 then ⟨s.out ++ [sg ((s.lc * 256 + x) % 65536 / 4 % 64)],2,(s.lc * 256 + x) % 65536⟩
 else if s.lb = 2 then ⟨s.out ++ [sg ((s.lc * 256 + x) % 65536 / 16 % 64)],4,(s.lc * 256 + x) % 65536⟩
 else ⟨s.out ++ [sg ((s.lc * 256 + x) % 65536 / 64 % 64)] ++ [sg ((s.lc * 256 + x) % 65536 / 1 % 64)],0,(s.lc * 256 + x) % 65536⟩
theorem u8 {x : Nat} (h : x < 256) : x.toUInt8.toNat = x:=by
 show (UInt8.ofNat x).toNat = x
 rw [UInt8.toNat_ofNat']
 exact Nat.mod_eq_of_lt h
theorem b2_nat : ∀ (l : List Nat) (s : B2),(∀ x∈l,x < 256)→(l.map fun k=>k.toUInt8).foldl b2st s = l.foldl b2n s
 | [],_,_=>rfl
 | x :: l,s,h=>by
  have hx:=h x List.mem_cons_self
  rw [List.map_cons,List.foldl_cons,List.foldl_cons]
  have : b2st s x.toUInt8 = b2n s x:=by
   unfold b2st b2n
   rw [u8 hx,show s.lc * 256 ||| x = s.lc * 256 + x from or_add (k:=8) hx]
  rw [this]
  exact b2_nat l _ fun y hy=>h y (List.mem_cons_of_mem _ hy)
theorem pick1 {x y k m n a r : Nat} (e : x = y * (k * m) + (a * k + r)) (ha : a < m) (hr : r < k) : x % (k * (m * n)) / k % m = a:=by
 rw [Nat.mod_mul_right_div_self,Nat.mod_mul_right_mod,e,Nat.mul_comm k m,← Nat.mul_assoc,← Nat.add_assoc,← Nat.add_mul,Nat.add_comm,Nat.add_mul_div_right _ _ (Nat.zero_lt_of_lt hr),Nat.div_eq_of_lt hr,Nat.zero_add,Nat.add_comm,Nat.add_mul_mod_self_right,Nat.mod_eq_of_lt ha]
theorem low {t y x m n : Nat} (e : t = y * m + x) (h : x < m) : t % (m * n) % m = x:=by rw [Nat.mod_mul_right_mod,e,Nat.add_comm,Nat.add_mul_mod_self_right,Nat.mod_eq_of_lt h]
theorem low4 {l a b : Nat} (hb : b < 64) : (l * 256 + (a * 4 + b / 16)) % 65536 % 4 = b / 16:=low (y:=l * 64 + a) (n:=16384) (by lia) (d16 hb)
theorem low16 {l v c : Nat} (hc : c < 64) : (l * 256 + (v * 16 + c / 4)) % 65536 % 16 = c / 4:=low (y:=l * 16 + v) (n:=4096) (by lia) (d4 hc)
theorem st2e {l q u v w b : Nat} (h1 : q * 4 + u = l) (h2 : u * 16 + v = b) : l * 256 + (v * 16 + w) = q * 1024 + (b * 16 + w):=by subst h1 h2; lia
theorem st3e {l q u v d c : Nat} (h1 : q * 16 + u = l) (h2 : u * 4 + v = c) : l * 256 + (v * 64 + d) = q * 4096 + (c * 64 + d):=by subst h1 h2; lia
theorem st4e (l v d : Nat) : l * 256 + (v * 64 + d) = (l * 4 + v) * 64 + (d * 1 + 0):=by lia
theorem st1 {o : List Nat} {l a b : Nat} (ha : a < 64) (hb : b < 64) : b2n ⟨o,0,l⟩ (a * 4 + b / 16) = ⟨o ++ [sg a],2,(l * 256 + (a * 4 + b / 16)) % 65536⟩ :=
 congrArg (fun z=>B2.mk (o ++ [sg z]) 2 ((l * 256 + (a * 4 + b / 16)) % 65536)) (pick1 (k:=4) (m:=64) (n:=256) rfl ha (d16 hb))
theorem st2 {o : List Nat} {l b c : Nat} (h : l % 4 = b / 16) (hb : b < 64) (hc : c < 64) : b2n ⟨o,2,l⟩ (b % 16 * 16 + c / 4) = ⟨o ++ [sg b],4,(l * 256 + (b % 16 * 16 + c / 4)) % 65536⟩ :=
 congrArg (fun z=>B2.mk (o ++ [sg z]) 4 ((l * 256 + (b % 16 * 16 + c / 4)) % 65536)) (pick1 (k:=16) (m:=64) (n:=64) (y:=l / 4) (r:=c / 4) (st2e (h ▸ Nat.div_add_mod' l 4) (Nat.div_add_mod' b 16)) hb (d4 hc))
theorem st3 {o : List Nat} {l c d : Nat} (h : l % 16 = c / 4) (hc : c < 64) (hd : d < 64) : b2n ⟨o,4,l⟩ (c % 4 * 64 + d) = ⟨o ++ [sg c] ++ [sg d],0,(l * 256 + (c % 4 * 64 + d)) % 65536⟩:=by
 have e1 : (l * 256 + (c % 4 * 64 + d)) % 65536 / 64 % 64 = c:=pick1 (k:=64) (m:=64) (n:=16) (y:=l / 16) (st3e (h ▸ Nat.div_add_mod' l 16) (Nat.div_add_mod' c 4)) hc hd
 have e2 : (l * 256 + (c % 4 * 64 + d)) % 65536 / 1 % 64 = d:=pick1 (k:=1) (m:=64) (n:=1024) (st4e l (c % 4) d) hd (by decide)
 show B2.mk (o ++ [sg ((l * 256 + (c % 4 * 64 + d)) % 65536 / 64 % 64)] ++ [sg ((l * 256 + (c % 4 * 64 + d)) % 65536 / 1 % 64)]) 0 _ = _
 rw [e1,e2]
theorem enc_full {F : List Nat} (o : List Nat) (lc : Nat) (h : F.length % 4 = 0) (k : ∀ f∈F,f < 64) : ∃ lc',(bytesG F).foldl b2n ⟨o,0,lc⟩ = ⟨o ++ F.map sg,0,lc'⟩ :=
 ind4 (P:=fun F=>∀ o lc,∃ lc',(bytesG F).foldl b2n ⟨o,0,lc⟩ = ⟨o ++ F.map sg,0,lc'⟩) (fun o lc=>⟨lc,by rw [List.map_nil,List.append_nil]; rfl⟩) (fun a b c d r ha hb hc hd ih o lc=>by
  refine e1a1 (ih (o ++ [sg a] ++ [sg b] ++ [sg c] ++ [sg d]) ((((lc * 256 + (a * 4 + b / 16)) % 65536 * 256 + (b % 16 * 16 + c / 4)) % 65536 * 256 + (c % 4 * 64 + d)) % 65536)) fun lc' ih=>?_
  refine ⟨lc',?_⟩
  show (bytesG r).foldl b2n (b2n (b2n (b2n ⟨o,0,lc⟩ (a * 4 + b / 16)) (b % 16 * 16 + c / 4)) (c % 4 * 64 + d)) = _
  rw [st1 ha hb,st2 (low4 hb) hb hc,st3 (low16 hc) hc hd,ih,List.append_assoc,List.append_assoc,List.append_assoc,List.append_assoc]; rfl) h k o lc
theorem sg_b64 : ∀ k,k < 64→(sg k).toUInt8.toNat≠61∧b64n (sg k).toUInt8.toNat = k:=by decide +kernel
theorem a2_sign {k : Nat} (h : k < 64) (s : A2) : a2st s (sg k).toUInt8 = (if s.q = 0 then ⟨s.out,1,k,0,s.i + 1⟩
 else if s.q = 1 then ⟨s.out ++ [s.lc * 4 ||| k / 16],2,k % 16,0,s.i + 1⟩
 else if s.q = 2 then ⟨s.out ++ [s.lc * 16 ||| k / 4],3,k % 4,0,s.i + 1⟩
 else ⟨s.out ++ [s.lc * 64 ||| k],0,0,0,s.i + 1⟩):=by
 obtain ⟨h1,h2⟩:=sg_b64 k h
 unfold a2st
 rw [if_neg h1,h2,if_neg (by lia)]
theorem a2_pad (s : A2) : a2st s 61 = { s with pads:=s.pads + 1,i:=s.i + 1 }:=by
 unfold a2st; rw [if_pos (by decide)]
theorem or2 {a b : Nat} (h : b < 64) : a * 4 ||| b / 16 = a * 4 + b / 16:=or_add (k:=2) (d16 h)
theorem or4 {b c : Nat} (h : c < 64) : b * 16 ||| c / 4 = b * 16 + c / 4:=or_add (k:=4) (d4 h)
theorem or6 {c d : Nat} (h : d < 64) : c * 64 ||| d = c * 64 + d:=or_add (k:=6) h
theorem sd1 {o : List Nat} {l p i a : Nat} (ha : a < 64) : a2st ⟨o,0,l,p,i⟩ (sg a).toUInt8 = ⟨o,1,a,0,i + 1⟩:=(a2_sign ha _).trans (if_pos rfl)
theorem sd2 {o : List Nat} {a p i b : Nat} (hb : b < 64) : a2st ⟨o,1,a,p,i⟩ (sg b).toUInt8 = ⟨o ++ [a * 4 + b / 16],2,b % 16,0,i + 1⟩:=by rw [a2_sign hb,← or2 hb]; rfl
theorem sd3 {o : List Nat} {b p i c : Nat} (hc : c < 64) : a2st ⟨o,2,b,p,i⟩ (sg c).toUInt8 = ⟨o ++ [b * 16 + c / 4],3,c % 4,0,i + 1⟩:=by rw [a2_sign hc,← or4 hc]; rfl
theorem sd4 {o : List Nat} {c p i d : Nat} (hd : d < 64) : a2st ⟨o,3,c,p,i⟩ (sg d).toUInt8 = ⟨o ++ [c * 64 + d],0,0,0,i + 1⟩:=by rw [a2_sign hd,← or6 hd]; rfl
theorem dec_full {F : List Nat} (o : List Nat) (i lc : Nat) (h : F.length % 4 = 0) (k : ∀ f∈F,f < 64) : ∃ i' lc',(F.map fun k=>(sg k).toUInt8).foldl a2st ⟨o,0,lc,0,i⟩ = ⟨o ++ bytesG F,0,lc',0,i'⟩ :=
 ind4 (P:=fun F=>∀ o i lc,∃ i' lc',(F.map fun k=>(sg k).toUInt8).foldl a2st ⟨o,0,lc,0,i⟩ = ⟨o ++ bytesG F,0,lc',0,i'⟩) (fun o i lc=>⟨i,lc,by rw [List.map_nil]; exact congrArg (fun z=>A2.mk z 0 lc 0 i) (List.append_nil o).symm⟩) (fun a b c d r ha hb hc hd ih o i lc=>by
  refine e2a1 (ih (o ++ [a * 4 + b / 16] ++ [b % 16 * 16 + c / 4] ++ [c % 4 * 64 + d]) (i + 1 + 1 + 1 + 1) 0) fun i' lc' ih=>?_
  refine ⟨i',lc',?_⟩
  show (r.map fun k=>(sg k).toUInt8).foldl a2st (a2st (a2st (a2st (a2st ⟨o,0,lc,0,i⟩ (sg a).toUInt8) (sg b).toUInt8) (sg c).toUInt8) (sg d).toUInt8) = _
  rw [sd1 ha,sd2 hb,sd3 hc,sd4 hd,ih,List.append_assoc,List.append_assoc,List.append_assoc]; rfl) h k o i lc
theorem figs_fm : ∀ (l s : List Nat),l.foldl figSt s = s ++ l.filterMap figOf
 | [],s=>(List.append_nil s).symm
 | c :: l,s=>by
  rw [List.foldl_cons,figs_fm l,List.filterMap_cons]
  unfold figSt
  generalize figOf c = r
  induction r using Option.casesOn with
  | none=>show s ++ [] ++ _ = _; rw [List.append_nil]
  | some f=>show s ++ [f] ++ _ = _; rw [List.append_assoc]; rfl
theorem figs_eq (l : List Nat) : figsN l = l.filterMap figOf:=by unfold figsN; rw [figs_fm,List.nil_append]
noncomputable def tvN (c : Nat) : UInt8:=(mkTab ([32,9].map Nat.toUInt8) [43,47]).getD c.toUInt8.toNat c.toUInt8
noncomputable def sgu (k : Nat) : UInt8:=(sg k).toUInt8
noncomputable def okSg (c : Nat) : Bool:=match figOf c with
 | some f=>decide (f < 64) && decide (tvN c = sgu f)
 | none=>!decide ((tvN c).toNat = 61) && decide (64≤b64n (tvN c).toNat)
theorem okSg_all : ∀ c,c < 128→c≠61→okSg c = true:=by decide +kernel
theorem tv_61 : tvN 61 = 61:=by decide +kernel
noncomputable def Sm (s t : A2) : Prop:=s.out = t.out∧s.q = t.q∧s.lc = t.lc∧s.pads = t.pads
theorem Sm.refl (s : A2) : Sm s s:=⟨rfl,rfl,rfl,rfl⟩
theorem Sm.mk_ {s t : A2} (h : Sm s t) : ∃ i,s = { t with i:=i }:=by
 obtain ⟨o,q,l,p,i⟩:=s
 obtain ⟨o',q',l',p',i'⟩:=t
 obtain ⟨h1,h2,h3,h4⟩:=h
 dsimp only at h1 h2 h3 h4
 subst h1 h2 h3 h4
 exact ⟨i,rfl⟩
theorem sm_st {s t : A2} (c : UInt8) (h : Sm s t) : Sm (a2st s c) (a2st t c):=by
 obtain ⟨i,e⟩:=h.mk_
 subst e
 unfold a2st
 dsimp only
 split
 ·exact ⟨rfl,rfl,rfl,rfl⟩
 split
 ·exact ⟨rfl,rfl,rfl,rfl⟩
 split
 ·exact ⟨rfl,rfl,rfl,rfl⟩
 split
 ·exact ⟨rfl,rfl,rfl,rfl⟩
 split
 ·exact ⟨rfl,rfl,rfl,rfl⟩
 ·exact ⟨rfl,rfl,rfl,rfl⟩
theorem fig_lt {c f : Nat} (h : c < 128) (h' : c≠61) (e : figOf c = some f) : f < 64∧tvN c = sgu f:=by
 have:=okSg_all c h h'
 unfold okSg at this
 rw [e] at this
 have:=Bool.and_eq_true_iff.mp this
 exact ⟨of_decide_eq_true this.1,of_decide_eq_true this.2⟩
theorem sm_line : ∀ (l : List Nat) (s t : A2),(∀ c∈l,c < 128∧c≠61)→Sm s t→Sm ((l.map tvN).foldl a2st s) (((l.filterMap figOf).map sgu).foldl a2st t)
 | [],s,t,_,h=>h
 | c :: l,s,t,hc,h=>by
  obtain ⟨c1,c2⟩:=hc c List.mem_cons_self
  have hl:=fun d hd=>hc d (List.mem_cons_of_mem c hd)
  rw [List.map_cons,List.foldl_cons,List.filterMap_cons]
  generalize e : figOf c = r
  induction r using Option.casesOn with
  | none =>
   refine sm_line l _ _ hl ?_
   have:=okSg_all c c1 c2
   unfold okSg at this
   rw [e] at this
   have:=Bool.and_eq_true_iff.mp this
   have k1 : (tvN c).toNat≠61:=fun z=>by rw [decide_eq_true z] at this; exact absurd this.1 (by decide)
   have k2 : 64≤b64n (tvN c).toNat:=of_decide_eq_true this.2
   unfold a2st
   rw [if_neg k1,if_pos k2]
   exact h
  | some f =>
   show Sm _ (List.foldl a2st t (sgu f :: (l.filterMap figOf).map sgu))
   rw [List.foldl_cons,(fig_lt c1 c2 e).2]
   exact sm_line l _ _ hl (sm_st _ h)
theorem sm_pads : ∀ (m : Nat) (s t : A2),Sm s t→Sm ((List.replicate m (61 : UInt8)).foldl a2st s) { t with pads:=t.pads + m }
 | 0,s,t,h=>h
 | m + 1,s,t,h=>by
  rw [List.replicate_succ,List.foldl_cons]
  have:=sm_pads m (a2st s 61) (a2st t 61) (sm_st _ h)
  rw [a2_pad t] at this
  dsimp only at this
  rw [sa]
  exact this
theorem dec_sm {l : List Nat} (hc : ∀ c∈l,c < 128∧c≠61) (m : Nat) : Sm (decS (l ++ List.replicate m 61) [32,9]) { a2b ((figsN l).map sgu) with pads:=(a2b ((figsN l).map sgu)).pads + m }:=by
 have e : decS (l ++ List.replicate m 61) [32,9] = (List.replicate m (61 : UInt8)).foldl a2st ((l.map tvN).foldl a2st ⟨[],0,0,0,0⟩):=by
  unfold decS a2b trans
  rw [List.map_map,List.map_append,List.foldl_append,List.map_replicate]
  congr 2
  exact tv_61
 rw [e,figs_eq]
 exact sm_pads m _ _ (sm_line l _ _ hc (.refl _))
theorem split4 (F : List Nat) : ∃ G R,F = G ++ R∧G.length % 4 = 0∧R.length = F.length % 4 :=
 ⟨F.take (4 * (F.length / 4)),F.drop (4 * (F.length / 4)),(List.take_append_drop _ F).symm,by rw [List.length_take,Nat.min_eq_left (Nat.mul_div_le _ _),Nat.mul_mod_right],by rw [List.length_drop]; exact (Nat.mod_eq_sub_mul_div ..).symm⟩
theorem num_snoc (G : List Nat) (a : Nat) : numN (G ++ [a]) = 64 * numN G + a:=by unfold numN; rw [List.foldl_append]; rfl
theorem numB_snoc (G : List Nat) (a : Nat) : numB 0 (G ++ [a]) = 256 * numB 0 G + a:=by unfold numB; rw [List.foldl_append]; rfl
theorem octF_of {N m : Nat} {B : List Nat} (hm : B.length = m) (hN : N = numB 0 B) (hB : ∀ x∈B,x < 256) : (octF m N).1.reverse = B:=by
 have i:=itO_bytes B.reverse [] 0 fun x hx=>hB x (List.mem_reverse.mp hx)
 rw [List.length_reverse,List.reverse_reverse,hm,← hN] at i
 unfold octF
 rw [foldl_itO,List.length_range,i,List.nil_append,List.reverse_reverse]
theorem len1 {R : List Nat} (h : R.length = 1) : ∃ a,R = [a]:=List.length_eq_one_iff.mp h
theorem len2 {R : List Nat} (h : R.length = 2) : ∃ a b,R = [a,b]:=by
 induction R using List.casesOn with
 | nil=>exact absurd h (by decide)
 | cons a R=>exact e1a1 (len1 (Nat.succ.inj h)) fun b e=>⟨a,b,by rw [e]⟩
theorem len3 {R : List Nat} (h : R.length = 3) : ∃ a b c,R = [a,b,c]:=by
 induction R using List.casesOn with
 | nil=>exact absurd h (by decide)
 | cons a R=>exact e2a1 (len2 (Nat.succ.inj h)) fun b c e=>⟨a,b,c,by rw [e]⟩
theorem d34 {n : Nat} (h : n % 4 = 0) (k : Nat) : (n + k) * 3 / 4 = n / 4 * 3 + k * 3 / 4:=by
 obtain ⟨m,e⟩:=Nat.dvd_of_mod_eq_zero h
 rw [e,Nat.mul_div_cancel_left m (by decide),Nat.add_mul,Nat.mul_assoc,Nat.mul_add_div (by decide)]
theorem oct_0 {G : List Nat} (hG : G.length % 4 = 0) (hf : ∀ f∈G,f < 64) : oct3N G = bytesG G:=by
 unfold oct3N
 have p : padN G.length = 0:=pad_of hG
 rw [p,Nat.pow_zero,Nat.div_one]
 exact octF_of (by rw [bytesG_len hG]; exact (d34 hG 0).symm) (num_eq hG hf 0) (bytesG_lt hG hf)
theorem oct_2 {G : List Nat} {a b : Nat} (hG : G.length % 4 = 0) (hf : ∀ f∈G ++ [a,b],f < 64) : oct3N (G ++ [a,b]) = bytesG G ++ [a * 4 + b / 16]:=by
 have ha:=hf a (by simp)
 have hb:=hf b (by simp)
 have kG : ∀ f∈G,f < 64:=fun f hm=>hf f (List.mem_append_left _ hm)
 have l : (G ++ [a,b]).length = G.length + 2:=by simp
 unfold oct3N
 have p : padN (G.length + 2) = 2:=pad_of (mod4_add hG 2)
 rw [l,p]
 refine octF_of (by rw [List.length_append,bytesG_len hG]; exact (d34 hG 2).symm) ?_ fun x hx=>?_
 ·rw [show G ++ [a,b] = (G ++ [a]) ++ [b] by simp,num_snoc,num_snoc,numB_snoc,show numN G = numB 0 (bytesG G) from num_eq hG kG 0]
  lia
 ·rcases List.mem_append.mp hx with z | z
  ·exact bytesG_lt hG kG x z
  ·rw [List.mem_singleton.mp z]; exact ma_lt ha (d16 hb)
theorem oct_3 {G : List Nat} {a b c : Nat} (hG : G.length % 4 = 0) (hf : ∀ f∈G ++ [a,b,c],f < 64) : oct3N (G ++ [a,b,c]) = bytesG G ++ [a * 4 + b / 16] ++ [b % 16 * 16 + c / 4]:=by
 have ha:=hf a (by simp)
 have hb:=hf b (by simp)
 have hc:=hf c (by simp)
 have kG : ∀ f∈G,f < 64:=fun f hm=>hf f (List.mem_append_left _ hm)
 have l : (G ++ [a,b,c]).length = G.length + 3:=by simp
 unfold oct3N
 have p : padN (G.length + 3) = 1:=pad_of (mod4_add hG 3)
 rw [l,p]
 refine octF_of (by rw [List.length_append,List.length_append,bytesG_len hG]; exact (d34 hG 3).symm) ?_ fun x hx=>?_
 ·rw [show G ++ [a,b,c] = (G ++ [a]) ++ [b] ++ [c] by simp,num_snoc,num_snoc,num_snoc,numB_snoc,numB_snoc,show numN G = numB 0 (bytesG G) from num_eq hG kG 0]
  lia
 ·rcases List.mem_append.mp hx with z | z
  ·rcases List.mem_append.mp z with z | z
   ·exact bytesG_lt hG kG x z
   ·rw [List.mem_singleton.mp z]; exact ma_lt ha (d16 hb)
  ·rw [List.mem_singleton.mp z]; exact ma_lt (m16 b) (d4 hc)
theorem a2b_app (G R : List Nat) : a2b ((G ++ R).map sgu) = (R.map sgu).foldl a2st (a2b (G.map sgu)):=by unfold a2b; rw [List.map_append,List.foldl_append]
theorem dec3 {F : List Nat} (hf : ∀ f∈F,f < 64) : ∃ o lc i,a2b (F.map sgu) = ⟨o,F.length % 4,lc,0,i⟩∧(F.length % 4≠1→o = oct3N F)∧(F.length % 4 = 1→o.length / 3 * 4 + 1 = F.length):=by
 obtain ⟨G,R,hF,hG,hR⟩:=split4 F
 have kG : ∀ f∈G,f < 64:=fun f hm=>hf f (by rw [hF]; exact List.mem_append_left _ hm)
 obtain ⟨i,lc,e⟩:=dec_full [] 0 0 hG kG
 have e : a2b (G.map sgu) = ⟨bytesG G,0,lc,0,i⟩:=e
 have m4 : F.length % 4 < 4:=Nat.mod_lt _ (by decide)
 obtain q | q | q | q:=lt4 m4
 ·rw [q] at hR ⊢
  have hR:=List.eq_nil_of_length_eq_zero hR
  rw [hR,List.append_nil] at hF
  rw [hF]
  exact ⟨_,_,_,e,fun _a=>(oct_0 hG kG).symm,fun z=>absurd z (by decide)⟩
 ·rw [q] at hR ⊢
  obtain ⟨a,hR⟩:=len1 hR
  subst hR
  have ha:=hf a (by rw [hF]; simp)
  refine ⟨_,_,_,by rw [hF,a2b_app,e]; exact sd1 ha,fun z=>absurd rfl z,fun _a=>?_⟩
  rw [bytesG_len hG,hF,List.length_append,Nat.mul_div_cancel _ (by decide),Nat.div_mul_cancel (Nat.dvd_of_mod_eq_zero hG)]; rfl
 ·rw [q] at hR ⊢
  obtain ⟨a,b,hR⟩:=len2 hR
  subst hR
  have ha:=hf a (by rw [hF]; simp)
  have hb:=hf b (by rw [hF]; simp)
  refine ⟨bytesG G ++ [a * 4 + b / 16],b % 16,i + 1 + 1,?_,fun _a=>?_,fun z=>absurd z (by decide)⟩
  ·rw [hF,a2b_app,e]
   show a2st (a2st _ (sg a).toUInt8) (sg b).toUInt8 = _
   rw [sd1 ha,sd2 hb]
  ·rw [hF]; exact (oct_2 hG (by rw [← hF]; exact hf)).symm
 ·rw [q] at hR ⊢
  obtain ⟨a,b,c,hR⟩:=len3 hR
  subst hR
  have ha:=hf a (by rw [hF]; simp)
  have hb:=hf b (by rw [hF]; simp)
  have hc:=hf c (by rw [hF]; simp)
  refine ⟨bytesG G ++ [a * 4 + b / 16] ++ [b % 16 * 16 + c / 4],c % 4,i + 1 + 1 + 1,?_,fun _a=>?_,fun z=>absurd z (by decide)⟩
  ·rw [hF,a2b_app,e]
   show a2st (a2st (a2st _ (sg a).toUInt8) (sg b).toUInt8) (sg c).toUInt8 = _
   rw [sd1 ha,sd2 hb,sd3 hc]
  ·rw [hF]; exact (oct_3 hG (by rw [← hF]; exact hf)).symm
theorem dec_l {l : List Nat} (hc : ∀ c∈l,c < 128∧c≠61) (m : Nat) : (∀ f∈figsN l,f < 64)∧(decS (l ++ List.replicate m 61) [32,9]).q = (figsN l).length % 4∧(decS (l ++ List.replicate m 61) [32,9]).pads = m ∧
  ((figsN l).length % 4≠1→decB (l ++ List.replicate m 61) [32,9] = oct3 (figsN l))∧((figsN l).length % 4 = 1→(decS (l ++ List.replicate m 61) [32,9]).out.length / 3 * 4 + 1 = (figsN l).length):=by
 have hf : ∀ f∈figsN l,f < 64:=fun f h=>by
  rw [figs_eq] at h
  obtain ⟨c,hm,e⟩:=List.mem_filterMap.mp h
  exact (fig_lt (hc c hm).1 (hc c hm).2 e).1
 obtain ⟨o,lc,i,e,o1,o2⟩:=dec3 hf
 obtain ⟨k1,k2,_,k4⟩:=dec_sm hc m
 rw [e] at k1 k2 k4
 dsimp only at k1 k2 k4
 refine ⟨hf,k2,by rw [k4,Nat.zero_add],fun h=>?_,fun h=>?_⟩
 ·unfold decB oct3; rw [k1,o1 h]
 ·rw [k1]; exact o2 h
theorem figs_len (l : List Nat) : (figsN l).length≤l.length:=by rw [figs_eq]; exact List.length_filterMap_le _ _
theorem read_D {l : List Nat} (ha : ∀ c∈l,c = 160∨(c < 128∧c≠61)) (m : Nat) : ReadD (l ++ List.replicate m 61) (dueN l (figsN l) m):=by
 unfold ReadD dueN
 by_cases h : 160∈l
 ·rw [if_pos h]
  exact .inr (.inr (.inr ⟨⟨160,List.mem_append_left _ h,by decide⟩,rfl⟩))
 ·rw [if_neg h]
  have hc : ∀ c∈l,c < 128∧c≠61:=fun c hm=>(ha c hm).resolve_left fun z=>h (z ▸ hm)
  have as : ∀ c∈l ++ List.replicate m 61,c < 128:=fun c hm=>by
   rcases List.mem_append.mp hm with z | z
   ·exact (hc c z).1
   ·rw [(List.mem_replicate.mp z).2]; decide
  obtain ⟨_,k1,k2,k3,k4⟩:=dec_l hc m
  have m4 : (figsN l).length % 4 < 4:=Nat.mod_lt _ (by decide)
  by_cases q : (figsN l).length % 4 = 1
  ·rw [if_pos q]
   exact .inr (.inl ⟨as,by rw [k1,q],by rw [k4 q]⟩)
  ·rw [if_neg q]
   by_cases p : m < padN (figsN l).length
   ·rw [if_pos p]
    have h0 : (figsN l).length % 4≠0:=fun z=>by rw [pad_of z] at p; exact Nat.not_lt_zero _ p
    unfold padN at p
    rw [pad_nz h0] at p
    exact .inr (.inr (.inl ⟨as,by rw [k1]; exact q,by rw [k1]; exact h0,by rw [k1,k2]; exact Nat.add_lt_of_lt_sub' p,rfl⟩))
   ·rw [if_neg p]
    unfold padN at p
    exact .inl ⟨as,by rw [k1]; exact q,fun z=>by rw [k1,k2]; rw [k1] at z; rw [pad_nz z] at p; exact Nat.sub_le_iff_le_add'.mp (Nat.not_lt.mp p),by rw [k3 q]⟩
theorem sh_0 {G : List Nat} (hG : G.length % 4 = 0) : shown3 G = G:=by
 unfold shown3 sp3
 have p : padN G.length = 0:=pad_of hG
 rw [p,Nat.pow_zero,show (fun f : Nat=>f / 1 * 1) = id from funext fun f=>by rw [Nat.div_one,Nat.mul_one]; rfl,List.map_id,List.take_append_drop]
theorem sh_at {H : List Nat} {a k : Nat} (p : padN (H.length + 1) = k) : shown3 (H ++ [a]) = H ++ [a / 4 ^ k * 4 ^ k]:=by
 unfold shown3 sp3
 have l : (H ++ [a]).length = H.length + 1:=by simp
 rw [l,p,Nat.add_sub_cancel,List.take_left,List.drop_left]
 rfl
theorem pad_2 {n : Nat} (h : n % 4 = 0) : padN (n + 2) = 2:=pad_of (mod4_add h 2)
theorem pad_1 {n : Nat} (h : n % 4 = 0) : padN (n + 3) = 1:=pad_of (mod4_add h 3)
theorem oct3_lt {F : List Nat} (hf : ∀ f∈F,f < 64) (h1 : F.length % 4≠1) : ∀ x∈oct3N F,x < 256:=by
 obtain ⟨G,R,hF,hG,hR⟩:=split4 F
 have kG : ∀ f∈G,f < 64:=fun f hm=>hf f (by rw [hF]; exact List.mem_append_left _ hm)
 have m4 : F.length % 4 < 4:=Nat.mod_lt _ (by decide)
 obtain q | q | q | q:=lt4 m4
 ·rw [q] at hR
  have hR:=List.eq_nil_of_length_eq_zero hR
  rw [hR,List.append_nil] at hF
  rw [hF,oct_0 hG kG]
  exact bytesG_lt hG kG
 ·exact (h1 q).elim
 ·rw [q] at hR
  obtain ⟨a,b,hR⟩:=len2 hR
  subst hR
  have ha:=hf a (by rw [hF]; simp)
  have hb:=hf b (by rw [hF]; simp)
  rw [hF,oct_2 hG (by rw [← hF]; exact hf)]
  intro x hx
  rcases List.mem_append.mp hx with z | z
  ·exact bytesG_lt hG kG x z
  ·rw [List.mem_singleton.mp z]; exact ma_lt ha (d16 hb)
 ·rw [q] at hR
  obtain ⟨a,b,c,hR⟩:=len3 hR
  subst hR
  have ha:=hf a (by rw [hF]; simp)
  have hb:=hf b (by rw [hF]; simp)
  have hc:=hf c (by rw [hF]; simp)
  rw [hF,oct_3 hG (by rw [← hF]; exact hf)]
  intro x hx
  rcases List.mem_append.mp hx with z | z
  ·rcases List.mem_append.mp z with z | z
   ·exact bytesG_lt hG kG x z
   ·rw [List.mem_singleton.mp z]; exact ma_lt ha (d16 hb)
  ·rw [List.mem_singleton.mp z]; exact ma_lt (m16 b) (d4 hc)
theorem enc3 {F : List Nat} (hf : ∀ f∈F,f < 64) (h1 : F.length % 4≠1) : b2a (oct3 F) = (shown3 F).map sg ++ List.replicate (padN F.length) 61:=by
 have run : b2a (oct3 F) = b2fin ((oct3N F).foldl b2n ⟨[],0,0⟩):=by
  unfold b2a oct3
  rw [b2_nat _ _ (oct3_lt hf h1)]
 rw [run]
 obtain ⟨G,R,hF,hG,hR⟩:=split4 F
 have kG : ∀ f∈G,f < 64:=fun f hm=>hf f (by rw [hF]; exact List.mem_append_left _ hm)
 have m4 : F.length % 4 < 4:=Nat.mod_lt _ (by decide)
 obtain ⟨lc,e⟩:=enc_full [] 0 hG kG
 obtain q | q | q | q:=lt4 m4
 ·rw [q] at hR
  have hR:=List.eq_nil_of_length_eq_zero hR
  rw [hR,List.append_nil] at hF
  rw [hF,oct_0 hG kG,e,sh_0 hG,show padN G.length = 0 from pad_of hG]
  unfold b2fin
  dsimp only
  rw [if_neg (by decide),if_neg (by decide),List.nil_append]
  exact (List.append_nil _).symm
 ·exact (h1 q).elim
 ·rw [q] at hR
  obtain ⟨a,b,hR⟩:=len2 hR
  subst hR
  have ha:=hf a (by rw [hF]; simp)
  have hb:=hf b (by rw [hF]; simp)
  have l : (G ++ [a,b]).length = G.length + 2:=by simp
  rw [hF,oct_2 hG (by rw [← hF]; exact hf),List.foldl_append,e,List.nil_append,l,pad_2 hG,show G ++ [a,b] = (G ++ [a]) ++ [b] by simp,sh_at (k:=2) (by rw [List.length_append]; exact pad_2 hG)]
  show b2fin (b2n ⟨G.map sg,0,lc⟩ (a * 4 + b / 16)) = _
  rw [st1 ha hb]
  unfold b2fin
  dsimp only
  rw [if_pos rfl,low4 hb]
  simp
 ·rw [q] at hR
  obtain ⟨a,b,c,hR⟩:=len3 hR
  subst hR
  have ha:=hf a (by rw [hF]; simp)
  have hb:=hf b (by rw [hF]; simp)
  have hc:=hf c (by rw [hF]; simp)
  have l : (G ++ [a,b,c]).length = G.length + 3:=by simp
  rw [hF,oct_3 hG (by rw [← hF]; exact hf),List.foldl_append,List.foldl_append,e,List.nil_append,l,pad_1 hG,show G ++ [a,b,c] = (G ++ [a,b]) ++ [c] by simp,sh_at (k:=1) (by rw [List.length_append]; exact pad_1 hG)]
  show b2fin (b2n (b2n ⟨G.map sg,0,lc⟩ (a * 4 + b / 16)) (b % 16 * 16 + c / 4)) = _
  rw [st1 ha hb,st2 (low4 hb) hb hc]
  unfold b2fin
  dsimp only
  rw [if_neg (by decide),if_pos rfl,low16 hc]
  simp
theorem tab_g : ∀ k,k < 64→((mkTab [43,47] [32,9]).getD (sg k).toUInt8.toNat (sg k).toUInt8).toNat = sg3 [32,9] k∧((mkTab [43,47] [9,32]).getD (sg k).toUInt8.toNat (sg k).toUInt8).toNat = sg3 [9,32] k:=by decide +kernel
theorem tab_p : ((mkTab [43,47] [32,9]).getD (61 : Nat).toUInt8.toNat (61 : Nat).toUInt8).toNat = 61∧((mkTab [43,47] [9,32]).getD (61 : Nat).toUInt8.toNat (61 : Nat).toUInt8).toNat = 61:=by decide +kernel
theorem line_of {F : List Nat} (hf : ∀ f∈F,f < 64) (h1 : F.length % 4≠1) {p : List UInt8} {q : List Nat} (t : ∀ k,k < 64→((mkTab [43,47] p).getD (sg k).toUInt8.toNat (sg k).toUInt8).toNat = sg3 q k) (t' : ((mkTab [43,47] p).getD (61 : Nat).toUInt8.toNat (61 : Nat).toUInt8).toNat = 61) : (encB (oct3 F) p).map (fun c=>c.toNat) = line3 F q:=by
 have sl:=shown3_lt hf
 unfold encB trans line3
 rw [enc3 hf h1,List.map_map,List.map_map,List.map_append,List.map_map]
 congr 1
 ·exact List.map_congr_left fun k hk=>t k (sl k hk)
 ·rw [List.map_replicate]
  congr 1
theorem line_again {F : List Nat} (hf : ∀ f∈F,f < 64) (h1 : F.length % 4≠1) : (encB (oct3 F) [32,9]).map (fun c=>c.toNat) = line3 F [32,9]:=line_of hf h1 (fun k h=>(tab_g k h).1) tab_p.1
theorem line_turned {F : List Nat} (hf : ∀ f∈F,f < 64) (h1 : F.length % 4≠1) : (encB (oct3 F) [9,32]).map (fun c=>c.toNat) = line3 F [9,32]:=line_of hf h1 (fun k h=>(tab_g k h).2) tab_p.2
theorem line3_len {F p : List Nat} : (line3 F p).length≤F.length + 3:=by
 unfold line3
 rw [List.length_append,List.length_map,shown3_len,List.length_replicate]
 exact Nat.add_le_add_left (pad_le _) _
noncomputable def whN (k : Nat) : Bool:=decide (61 < k)
theorem col_up (ts : Nat) (h : 0 < ts) : ∀ (l : List Nat) (c : Nat),c + l.length≤l.foldl (colSt ts) c
 | [],c=>Nat.le_refl _
 | q :: l,c=>by
  rw [List.foldl_cons,List.length_cons]
  have : c + 1≤colSt ts c q:=by
   unfold colSt
   by_cases z : q = 32
   ·rw [if_pos z]; exact Nat.le_refl _
   ·rw [if_neg z]; exact Nat.add_le_add_left (Nat.sub_pos_of_lt (Nat.mod_lt c h)) c
  rw [sa]
  exact Nat.le_trans (Nat.add_le_add_right this _) (col_up ts h l (colSt ts c q))
noncomputable def Longer (a b : List Nat) : Prop:=∃ c cs,b = a ++ c :: cs
theorem lev_longer {x y : List Nat} (h : Longer (twN x) (twN y)) (i : Nat) : levI (wsOf x) (i + 1) < levI (wsOf y) (i + 1):=by
 refine e2a1 h fun c cs e=>?_
 rw [lev_col x _ (Nat.succ_pos i),lev_col y _ (Nat.succ_pos i),e]
 unfold colN
 rw [List.foldl_append]
 have:=col_up (i + 1) (Nat.succ_pos i) (c :: cs) ((twN x).foldl (colSt (i + 1)) 0)
 exact Nat.lt_of_lt_of_le (Nat.lt_add_of_pos_right (Nat.succ_pos _)) this
theorem wsOf_tw {x y : List Nat} (h : twN x = twN y) : wsOf x = wsOf y:=by
 unfold wsOf; unfold twN at h; rw [h]
noncomputable def tabT (x y : List Nat) : List (Nat×Nat×Nat):=(List.range (topN x y)).map fun i=>(i + 1,levI (wsOf x) (i + 1),levI (wsOf y) (i + 1))
theorem witN_tab (p : Nat→Nat→Bool) (x y : List Nat) : witN p x y = (tabT x y).filter fun t=>p t.2.1 t.2.2:=by
 unfold witN tabT
 rw [List.filter_map]; rfl
theorem wit_all {p : Nat→Nat→Bool} {x y : List Nat} (h : ∀ i,p (levI (wsOf x) (i + 1)) (levI (wsOf y) (i + 1)) = true) : witN p x y = tabT x y:=by
 rw [witN_tab]
 refine List.filter_eq_self.mpr fun t ht=>?_
 unfold tabT at ht
 obtain ⟨i,_,rfl⟩:=List.mem_map.mp ht
 exact h i
theorem wit_none {p : Nat→Nat→Bool} {x y : List Nat} (h : ∀ i,p (levI (wsOf x) (i + 1)) (levI (wsOf y) (i + 1)) = false) : witN p x y = []:=by
 rw [witN_tab]
 refine List.filter_eq_nil_iff.mpr fun t ht=>?_
 unfold tabT at ht
 obtain ⟨i,_,rfl⟩:=List.mem_map.mp ht
 rw [h i]; exact Bool.false_ne_true
theorem top_comm (x y : List Nat) : topN x y = topN y x:=by unfold topN; rw [Nat.max_comm]
theorem tab_swap (x y : List Nat) : tabT y x = (tabT x y).map swapT:=by
 unfold tabT
 rw [top_comm y x,List.map_map]
 rfl
theorem runs_app : ∀ (a b : List Nat) (k : Nat),runsF k (a ++ 9 :: b) = runsF k a ++ runsF 0 b
 | [],b,k=>by
  show (if 9 = 9 then k :: runsF 0 b else _) = _
  rw [if_pos rfl]; rfl
 | c :: a,b,k=>by
  rw [List.cons_append,runsF,runsF]
  by_cases h : c = 9
  ·rw [if_pos h,if_pos h,runs_app a b 0]; rfl
  ·rw [if_neg h,if_neg h,runs_app a b (k + 1)]
theorem maxR_app : ∀ a b : List Nat,maxR (a ++ b) = max (maxR a) (maxR b)
 | [],b=>(Nat.max_eq_right (Nat.zero_le _)).symm
 | c :: a,b=>by rw [List.cons_append,maxR_cons,maxR_cons,maxR_app a b,Nat.max_assoc]
theorem tab3_eq (x y : List Nat) : tab3 (twN x) (twN y) = tabT x y:=by
 unfold tab3 tabT topN
 rw [long_lg,long_lg,lgN_runs,lgN_runs,lgN_runs,runs_app,maxR_app]
 refine List.map_congr_left fun i _a=>?_
 rw [lev_col x _ (Nat.succ_pos i),lev_col y _ (Nat.succ_pos i)]
structure Says (x y : List Nat) (dp fl : Bool) : Prop where
 l1 : lessB x y = dp
 l2 : lessB y x = fl
 eq : eqB x y = !(dp || fl)
 w1 : witN (fun a b=>decide (b≤a)) x y = if dp = true then [] else tabT x y
 w2 : witN (fun a b=>decide (b≤a)) y x = if fl = true then [] else (tabT x y).map swapT
 w3 : witN (fun a b=>decide (a≠b)) x y = if (dp || fl) = true then tabT x y else []
theorem eqB_lev {x y : List Nat} (h : levI (wsOf x) 1≠levI (wsOf y) 1) : eqB x y = false:=by
 refine Bool.eq_false_iff.mpr fun k=>h ?_
 unfold eqB at k
 rw [Bool.and_eq_true,decide_eq_true_eq,decide_eq_true_eq] at k
 exact lev_of_norm k.1 k.2 1
theorem less_no {x y : List Nat} (h : levI (wsOf y) 1≤levI (wsOf x) 1) : lessB x y = false:=by
 refine Bool.eq_false_iff.mpr fun k=>?_
 have:=(lessB_iff x y).mp k 0 (top_pos x y)
 rw [Nat.zero_add] at this
 lia
theorem says_lt {x y : List Nat} (h : ∀ i,levI (wsOf x) (i + 1) < levI (wsOf y) (i + 1)) : Says x y true false where
 l1:=(lessB_iff x y).mpr fun i _a=>h i
 l2:=less_no (Nat.le_of_lt (h 0))
 eq:=eqB_lev (Nat.ne_of_lt (h 0))
 w1:=wit_none fun i=>decide_eq_false (Nat.not_le_of_lt (h i))
 w2:=(wit_all fun i=>decide_eq_true (Nat.le_of_lt (h i))).trans (tab_swap x y)
 w3:=wit_all fun i=>decide_eq_true (Nat.ne_of_lt (h i))
theorem says_gt {x y : List Nat} (h : ∀ i,levI (wsOf y) (i + 1) < levI (wsOf x) (i + 1)) : Says x y false true where
 l1:=less_no (Nat.le_of_lt (h 0))
 l2:=(lessB_iff y x).mpr fun i _a=>h i
 eq:=eqB_lev (Nat.ne_of_gt (h 0))
 w1:=wit_all fun i=>decide_eq_true (Nat.le_of_lt (h i))
 w2:=wit_none fun i=>decide_eq_false (Nat.not_le_of_lt (h i))
 w3:=wit_all fun i=>decide_eq_true (Nat.ne_of_gt (h i))
theorem says_eq {x y : List Nat} (h : wsOf x = wsOf y) : Says x y false false where
 l1:=less_no (by rw [h]; exact Nat.le_refl _)
 l2:=less_no (by rw [h]; exact Nat.le_refl _)
 eq:=by unfold eqB; rw [h,decide_eq_true rfl,decide_eq_true rfl]; rfl
 w1:=wit_all fun i=>by rw [h]; exact decide_eq_true (Nat.le_refl _)
 w2:=(wit_all fun i=>by rw [h]; exact decide_eq_true (Nat.le_refl _)).trans (tab_swap x y)
 w3:=wit_none fun i=>by rw [h]; exact decide_eq_false fun z=>z rfl
theorem wh_sg : ∀ k,k < 64→isW (sg3 [32,9] k) = whN k∧isW (sg3 [9,32] k) = whN k:=by decide +kernel
theorem tw_of {q : List Nat} (hq : ∀ k,k < 64→isW (sg3 q k) = whN k) (p : Nat) : ∀ S : List Nat,(∀ k∈S,k < 64)→twN (S.map (sg3 q) ++ List.replicate p 61) = (S.takeWhile whN).map (sg3 q)
 | [],_=>by
  unfold twN
  induction p using Nat.casesAuxOn with
  | zero=>rfl
  | succ p=>rfl
 | k :: S,h=>by
  have ih:=tw_of hq p S fun c hc=>h c (List.mem_cons_of_mem _ hc)
  have e:=hq k (h k List.mem_cons_self)
  unfold twN at ih ⊢
  rw [List.map_cons,List.cons_append]
  by_cases w : whN k = true
  ·rw [List.takeWhile_cons_of_pos (by rw [e]; exact w),List.takeWhile_cons_of_pos w,ih]; rfl
  ·rw [List.takeWhile_cons_of_neg (by rw [e]; exact w),List.takeWhile_cons_of_neg w]; rfl
noncomputable def phi (c : Nat) : Nat:=if c = 32 then 62 else 63
theorem phi_32 : figOf 32 = some 62∧figOf 9 = some 63∧sg3 [32,9] 62 = 32∧sg3 [32,9] 63 = 9∧sg3 [9,32] 62 = 9∧sg3 [9,32] 63 = 32:=by decide +kernel
theorem phi_of {c : Nat} (h : isW c = true) : figOf c = some (phi c)∧whN (phi c) = true∧sg3 [32,9] (phi c) = c:=by
 obtain ⟨p1,p2,p3,p4,_⟩:=phi_32
 rcases Bool.or_eq_true_iff.mp h with z | z
 ·have z : c = 32:=of_decide_eq_true z
  subst z
  exact ⟨p1,rfl,p3⟩
 ·have z : c = 9:=of_decide_eq_true z
  subst z
  exact ⟨p2,rfl,p4⟩
theorem phi_map : ∀ l : List Nat,(∀ c∈l,isW c = true)→l.filterMap figOf = l.map phi∧(l.map phi).map (sg3 [32,9]) = l∧∀ k∈l.map phi,whN k = true
 | [],_=>⟨rfl,rfl,fun _a h=>no_mem h⟩
 | c :: l,h=>by
  obtain ⟨a1,a2,a3⟩:=phi_of (h c List.mem_cons_self)
  obtain ⟨b1,b2,b3⟩:=phi_map l fun d hd=>h d (List.mem_cons_of_mem _ hd)
  refine ⟨?_,?_,List.forall_mem_cons.mpr ⟨a2,b3⟩⟩
  ·rw [List.filterMap_cons,a1,b1]; rfl
  ·rw [List.map_cons,List.map_cons,a3,b2]
structure Leads (lead S far : List Nat) (dp fl : Bool) : Prop where
 dp' : dp = decide (((S.map fun f=>decide (61 < f)).drop lead.length).take 1 = [true])
 fl' : fl = (!decide (lead = []) && !decide (61 < S[lead.length - 1]?.getD 0))
 rel : (dp = false∧fl = false∧lead = far)∨(dp = true∧fl = false∧Longer lead far)∨(dp = false∧fl = true∧Longer far lead)
theorem last_wh {l T : List Nat} (h : l≠[]) (w : ∀ k∈l,whN k = true) : decide (61 < (l ++ T)[l.length - 1]?.getD 0) = true:=by
 have hl:=List.length_pos_iff.mpr h
 rw [List.getElem?_append_left (Nat.sub_lt hl (by decide)),List.getElem?_eq_getElem (Nat.sub_lt hl (by decide))]
 exact w _ (List.getElem_mem _)
theorem leads_of {lead W : List Nat} (hw : ∀ c∈lead,isW c = true) (X : List Nat) (hW : W = lead.map phi ++ X) (hp : W.length % 4≠1) : ∃ dp fl,Leads lead (shown3 W) (((shown3 W).takeWhile whN).map (sg3 [32,9])) dp fl:=by
 obtain ⟨_,f2,f3⟩:=phi_map lead hw
 have fl_ : ∀ T : List Nat,(!decide (lead = []) && !decide (61 < (lead.map phi ++ T)[lead.length - 1]?.getD 0)) = false:=fun T=>by
  by_cases z : lead = []
  ·rw [decide_eq_true z]; rfl
  ·have:=last_wh (l:=lead.map phi) (T:=T) (fun y=>z (List.map_eq_nil_iff.mp y)) f3
   rw [List.length_map] at this
   rw [this]
   exact Bool.and_false _
 have dr : ∀ T : List Nat,(((lead.map phi ++ T).map fun f=>decide (61 < f)).drop lead.length) = T.map fun f=>decide (61 < f):=fun T=>by
  rw [List.map_append,List.drop_append_of_le_length (by rw [List.length_map,List.length_map]; exact Nat.le_refl _),List.drop_of_length_le (by rw [List.length_map,List.length_map]; exact Nat.le_refl _),List.nil_append]
 have tw : ∀ T : List Nat,((lead.map phi ++ T).takeWhile whN).map (sg3 [32,9]) = lead ++ (T.takeWhile whN).map (sg3 [32,9]):=fun T=>by
  rw [List.takeWhile_append_of_pos f3,List.map_append,f2]
 by_cases q : X = []
 ·subst q
  rw [List.append_nil] at hW
  by_cases z : lead = []
  ·subst z
   have hW : W = []:=hW
   subst hW
   exact ⟨false,false,⟨rfl,rfl,.inl ⟨rfl,rfl,rfl⟩⟩⟩
  ·have e:=List.dropLast_concat_getLast z
   generalize lead.dropLast = l at e
   generalize lead.getLast z = c at e
   have hS : shown3 W = l.map phi ++ [phi c / 4 ^ padN W.length * 4 ^ padN W.length]:=by
    rw [hW,← e,List.map_append]
    exact sh_at (by rw [List.length_append,List.length_map]; rfl)
   have ll : lead.length = l.length + 1:=by rw [← e]; simp
   by_cases p0 : padN W.length = 0
   ·have hS : shown3 W = lead.map phi ++ []:=by
     rw [hS,p0,Nat.pow_zero,Nat.div_one,Nat.mul_one,← e,List.map_append,List.append_nil]; rfl
    rw [hS]
    refine ⟨false,false,⟨?_,(fl_ _).symm,.inl ⟨rfl,rfl,?_⟩⟩⟩
    ·rw [dr]; rfl
    ·rw [tw]; exact (List.append_nil _).symm
   ·have bl : padN W.length = 1∨padN W.length = 2:=by
     obtain r | r | r | r:=lt4 (Nat.mod_lt W.length (by decide))
     ·exact (p0 (pad_of r)).elim
     ·exact (hp r).elim
     ·exact .inr (pad_of r)
     ·exact .inl (pad_of r)
    have nw : whN (phi c / 4 ^ padN W.length * 4 ^ padN W.length) = false:=by
     have pc : phi c = 62∨phi c = 63:=by unfold phi; split <;> simp
     rcases bl with b | b <;> rcases pc with p | p <;> rw [b,p] <;> decide
    rw [hS]
    generalize phi c / 4 ^ padN W.length * 4 ^ padN W.length = y at *
    have fl2 : ∀ k∈l.map phi,whN k = true:=fun k hk=>f3 k (by rw [← e,List.map_append]; exact List.mem_append_left _ hk)
    have f22:=phi_map l fun c hc=>hw c (by rw [← e]; exact List.mem_append_left _ hc)
    refine ⟨false,true,⟨?_,?_,.inr (.inr ⟨rfl,rfl,c,[],?_⟩)⟩⟩
    ·rw [List.drop_of_length_le (by simp [ll])]; rfl
    ·rw [decide_eq_false z,ll,Nat.add_sub_cancel,List.getElem?_append_right (by rw [List.length_map]; exact Nat.le_refl _),List.length_map,Nat.sub_self]
     have nw : decide (61 < y) = false:=nw
     show true = (!false && !decide (61 < y))
     rw [nw]; rfl
    ·rw [List.takeWhile_append_of_pos fl2,List.takeWhile_cons_of_neg (by rw [nw]; exact Bool.false_ne_true),List.append_nil,f22.2.1,e]
 ·have eX:=List.dropLast_concat_getLast q
  have hS : shown3 W = lead.map phi ++ (X.dropLast ++ [X.getLast q / 4 ^ padN W.length * 4 ^ padN W.length]):=by
   rw [hW]
   conv=>lhs; rw [← eX,← List.append_assoc]
   rw [sh_at (k:=padN (lead.map phi ++ X).length) (by rw [← eX]; simp [Nat.add_assoc]),List.append_assoc]
  rw [hS]
  generalize hT : X.dropLast ++ [X.getLast q / 4 ^ padN W.length * 4 ^ padN W.length] = T
  have Tn : T≠[]:=by rw [← hT]; simp
  induction T using List.casesOn with
  | nil=>exact absurd rfl Tn
  | cons x T =>
   by_cases w : whN x = true
   ·refine ⟨true,false,⟨?_,(fl_ _).symm,.inr (.inl ⟨rfl,rfl,?_⟩)⟩⟩
    ·rw [dr,List.map_cons]
     have w : decide (61 < x) = true:=w
     rw [w]; rfl
    ·rw [tw,List.takeWhile_cons_of_pos w]
     exact ⟨_,_,rfl⟩
   ·refine ⟨false,false,⟨?_,(fl_ _).symm,.inl ⟨rfl,rfl,?_⟩⟩⟩
    ·rw [dr,List.map_cons]
     have w : decide (61 < x) = false:=Bool.eq_false_iff.mpr w
     rw [w]; rfl
    ·rw [tw,List.takeWhile_cons_of_neg w]; exact (List.append_nil _).symm
theorem b_last (l : List Nat) (s : Ws) : ((l ++ [32]).foldl wsSt s).b = (l.foldl wsSt s).b + 1∧((l ++ [9]).foldl wsSt s).b = 0:=by
 rw [List.foldl_append,List.foldl_append]
 exact ⟨rfl,rfl⟩
theorem b_of {x l : List Nat} (h : twN x = l) : (wsOf x).b = (l.foldl wsSt ⟨[],0,0,0⟩).b:=by
 unfold wsOf; unfold twN at h; rw [h]
theorem turned_eq {V x y : List Nat} (hV : ∀ k∈V,k < 64∧whN k = true) (h1 : twN x = V.map (sg3 [9,32])) (h2 : twN y = V.map (sg3 [32,9])) : eqB x y = decide (V.map (sg3 [32,9]) = []):=by
 by_cases z : V = []
 ·subst z
  rw [List.map_nil] at h1 h2 ⊢
  unfold eqB
  rw [wsOf_tw (h1.trans h2.symm),decide_eq_true rfl,decide_eq_true rfl,decide_eq_true rfl]; rfl
 ·rw [decide_eq_false fun y=>z (List.map_eq_nil_iff.mp y)]
  have e:=List.dropLast_concat_getLast z
  have hk:=hV _ (List.getLast_mem z)
  generalize V.getLast z = k at *
  obtain ⟨p1,p2,p3,p4,p5,p6⟩:=phi_32
  have nb : (wsOf x).b≠(wsOf y).b:=by
   rw [b_of h1,b_of h2,← e,List.map_append,List.map_append]
   have : k = 62∨k = 63:=by have:=of_decide_eq_true hk.2; lia
   rcases this with q | q
   ·subst q
    rw [List.map_cons,List.map_nil,List.map_cons,List.map_nil]
    rw [p3,p5,(b_last _ _).1,(b_last _ _).2]
    exact (Nat.succ_ne_zero _).symm
   ·subst q
    rw [List.map_cons,List.map_nil,List.map_cons,List.map_nil]
    rw [p4,p6,(b_last _ _).1,(b_last _ _).2]
    exact Nat.succ_ne_zero _
  unfold eqB
  rw [decide_eq_false nb,Bool.and_false]
theorem itO_len : ∀ (k : Nat) (s : List Nat×Nat),(itO k s).1.length = s.1.length + k
 | 0,_=>rfl
 | k + 1,s=>by rw [itO,itO_len k,List.length_append,List.length_cons,List.length_nil]; exact (sa _ _).symm
theorem oct3_len (F : List Nat) : (oct3 F).length = F.length * 3 / 4:=by
 unfold oct3 oct3N octF
 rw [List.length_map,List.length_reverse,foldl_itO,itO_len,List.length_range,List.length_nil,Nat.zero_add]
theorem sgn3_al : ∀ c,c < 992→sgn3 c = 160∨(sgn3 c < 128∧sgn3 c≠61):=by decide +kernel
theorem fig_160 : figOf 160 = none∧figOf 65 = some 0:=by decide +kernel
theorem rest_D {line : List Nat} (no : 160 ∉ line) (hc : ∀ c∈line,c < 128∧c≠61) (l12 : line.length≤12) : ∃ fil W row again turned lead far dp fl,RestD line (figsN line) fil W row again turned lead far dp fl:=by
 have fl12:=figs_len line
 have sp : ∃ fil : List Nat,fil = (if (figsN line).length % 4 = 1 then [65] else [])∧(∀ c∈line ++ fil,c < 128∧c≠61)∧(figsN (line ++ fil)).length % 4≠1∧fil.length≤1:=by
  refine ⟨_,rfl,?_⟩
  by_cases q : (figsN line).length % 4 = 1
  ·rw [if_pos q]
   refine ⟨fun c hm=>?_,?_,Nat.le_refl _⟩
   ·rcases List.mem_append.mp hm with z | z
    ·exact hc c z
    ·rw [List.mem_singleton.mp z]; decide
   ·rw [figs_eq] at q
    rw [figs_eq,List.filterMap_append,List.length_append,List.filterMap_cons,fig_160.2,List.filterMap_nil]
    show (_ + 1) % 4≠1
    rw [Nat.add_mod,q]; decide
  ·rw [if_neg q,List.append_nil]
   exact ⟨hc,q,Nat.zero_le _⟩
 obtain ⟨fil,e1,e2,e3,e4⟩:=sp
 obtain ⟨k0,k1,k2,k3,_⟩:=dec_l e2 (padN (figsN (line ++ fil)).length)
 have hl:=figs_len (line ++ fil)
 rw [List.length_append] at hl
 have hW : figsN (line ++ fil) = (twN line).map phi ++ (line.dropWhile isW ++ fil).filterMap figOf:=by
  rw [figs_eq,← (phi_map (twN line) (tw_isW line)).1,← List.filterMap_append,← List.append_assoc]
  unfold twN
  rw [List.takeWhile_append_dropWhile]
 obtain ⟨dp,fl,L⟩:=leads_of (tw_isW line) _ hW e3
 generalize hw : figsN (line ++ fil) = W at *
 have sl:=shown3_lt k0
 have t1 : twN (line3 W [32,9]) = ((shown3 W).takeWhile whN).map (sg3 [32,9]):=tw_of (fun k h=>(wh_sg k h).1) _ _ sl
 have t2 : twN (line3 W [9,32]) = ((shown3 W).takeWhile whN).map (sg3 [9,32]):=tw_of (fun k h=>(wh_sg k h).2) _ _ sl
 have tl : (twN (line3 W [9,32])).length = (twN (line3 W [32,9])).length:=by rw [t1,t2,List.length_map,List.length_map]
 have hV : ∀ k∈(shown3 W).takeWhile whN,k < 64∧whN k = true:=fun k hk=>⟨sl k ((List.takeWhile_sublist _).subset hk),List.all_eq_true.mp List.all_takeWhile k hk⟩
 have x3:=turned_eq hV t2 t1
 rw [← t1] at x3
 rw [← t1] at L
 have S : Says line (line3 W [32,9]) dp fl:=by
  rcases L.rel with ⟨a,b,c⟩ | ⟨a,b,c⟩ | ⟨a,b,c⟩
  ·rw [a,b]; exact says_eq (wsOf_tw c)
  ·rw [a,b]; exact says_lt (lev_longer c)
  ·rw [a,b]; exact says_gt (lev_longer c)
 have tb:=tab3_eq line (line3 W [32,9])
 have l3:=fun p=>line3_len (F:=W) (p:=p)
 have lw : (twN line).length≤W.length:=by rw [hW,List.length_append,List.length_map]; exact Nat.le_add_right _ _
 have W13:=Nat.le_trans hl (Nat.add_le_add l12 e4)
 refine ⟨fil,W,oct3 W,line3 W [32,9],line3 W [9,32],twN line,twN (line3 W [32,9]),dp,fl,?_⟩
 exact {
  no:=no,l12:=l12,f12:=Nat.le_trans fl12 l12,fi:=e1,w:=hw,w16:=Nat.le_trans W13 (by decide),w64:=k0
  as:=fun c hm=>by
   rcases List.mem_append.mp hm with z | z
   ·exact (e2 c z).1
   ·rw [(List.mem_replicate.mp z).2]; decide
  q1:=by rw [k1]; exact e3
  q2:=fun z=>by rw [k1,k2]; rw [k1] at z; exact Nat.le_of_eq ((Nat.add_sub_of_le (Nat.le_of_lt (Nat.mod_lt _ (by decide)))).symm.trans (congrArg _ (pad_nz z).symm))
  rw_:=k3 e3
  rl:=by rw [oct3_len]; exact Nat.le_trans (Nat.div_le_self _ _) (Nat.le_trans (Nat.mul_le_mul_right 3 W13) (by decide))
  ro:=rfl,ag:=line_again k0 e3,tu:=line_turned k0 e3,a3:=rfl,t3:=rfl
  al:=Nat.le_trans (l3 _) (Nat.le_trans (Nat.add_le_add_right W13 3) (by decide))
  tl:=Nat.le_trans (l3 _) (Nat.le_trans (Nat.add_le_add_right W13 3) (by decide))
  le:=rfl,fa:=rfl,dp':=L.dp',fl':=L.fl',lw:=lw,l1:=S.l1,l2:=S.l2,eq:=S.eq
  w1:=by rw [tb]; exact S.w1
  w2:=by rw [tb]; exact S.w2
  w3:=by rw [tb]; exact S.w3
  x1:=less_no (by rw [lev_one,lev_one,tl]; exact Nat.le_refl _)
  x2:=less_no (by rw [lev_one,lev_one,tl]; exact Nat.le_refl _)
  x3:=x3 }
theorem law3_run (ns : List Int) (hn : ns.length≤63) {G : Gd} {pr : Params} {mg mb : Str→Option Value} {φ : Fz} {s : Shared} {A : Around} {E : Value→Shared→Prop} {v : Value} {Q : Value→Shared→Prop} (B : Bs G (KK pr) mg mb) (g : Gnd G φ s) (R : Room A 40) (r : Rep φ v (.list (ns.map .int))) (hA : A.frames = some []) (k : ∀ w s',EP φ s (.bool true) w s'→Q w s') :
  wpAny (model G.prog G.w) A (call (.ref 230) [v] []) Q E s:=by
 have n12 : (nums3 ns).length≤12:=by
  unfold nums3
  by_cases q : ns = []
  ·rw [if_pos q]; decide
  ·rw [if_neg q,List.length_take]; exact Nat.min_le_left _ _
 have ha : ∀ c∈(nums3 ns).map (fun x=>sgn3 (cd3 x)),c = 160∨(c < 128∧c≠61):=fun c hm=>by
  obtain ⟨x,_,rfl⟩:=List.mem_map.mp hm
  exact sgn3_al _ (cd3_lt x)
 have ll : ((nums3 ns).map (fun x=>sgn3 (cd3 x))).length≤12:=by rw [List.length_map]; exact n12
 generalize e1 : nums3 ns = nums at *
 generalize e2 : nums.map (fun x=>sgn3 (cd3 x)) = line at *
 have f64 : ∀ f∈figsN line,f < 64:=fun f hm=>by
  rw [figs_eq] at hm
  obtain ⟨c,hc,e⟩:=List.mem_filterMap.mp hm
  rcases ha c hc with z | z
  ·rw [z,fig_160.1] at e; exact no_none e
  ·exact (fig_lt z.1 z.2 e).1
 refine law_sem B 11 hn e1 e2 rfl n12 (Nat.le_trans (figs_len line) ll) f64 (fun m _a=>read_D ha m) (fun sc bd' g1 g2=>?_) g (R.le (by decide)) r hA k
 by_cases h : 160∈line
 ·exact law_nb 11 h sc bd' g1 g2
 ·obtain ⟨fil,W,row,again,turned,lead,far,dp,fl,H⟩:=rest_D h (fun c hm=>(ha c hm).resolve_left fun z=>h (z ▸ hm)) ll
  exact law_end 11 H sc bd' g1 g2
end Mine
namespace Mine
open PySem PySem.W PyProof.Rows
set_option tactic.hygienic true in
theorem holds_of (run : ∀ ns : List Int,ns.length≤63→∀ {G : Gd} {pr : Params} {mg mb : Str→Option Value} {φ : Fz} {s : Shared} {A : Around} {E : Value→Shared→Prop} {v : Value} {Q : Value→Shared→Prop},Bs G (KK pr) mg mb→Gnd G φ s→Room A 40→Rep φ v (.list (ns.map .int))→A.frames = some []→(∀ w s',EP φ s (.bool true) w s'→Q w s')→wpAny (model G.prog G.w) A (call (.ref 230) [v] []) Q E s) : PySem.Challenge.rw_pa0015_03.Holds:=by
 w_on
 refine holds_law (by decide +kernel) fun said=>?_
 refine holds_open (q:=q0) (loose:=ls0) (Xt:=fun s=>xlAt q0 [] s && recOk (RowW.records R0.toRowW) s) (XP:=XL q0 []) (Yf:=HK.obs) (Ya:=HK.val) (YP:=HK.says) (N:=2*1381+100) hl0 HK.of HK.keeps (fun s e=>xl_of s (Bool.and_eq_true_iff.mp e).1) XL.keeps (by rfl) (by rfl) (by rfl) (fun s e=>recFacts_of (Bool.and_eq_true_iff.mp e).2) (by rfl) (by first | assumption | decide +kernel) (by decide +kernel) ⟨rfl,rfl,rfl,rfl,rfl,by decide +kernel⟩ ?hw ?hc
 case hw=>w_witness2
 clear said
 intro w s₀ s₁ mg mb G Y fa o pm cd doc dV kV ho hd hcd hD hmg hg args vals as hpre hlay hrd hwl hlo
 have KX:=kIn_of Y
 refine Ground.open G ?_
 intro T B D TE TW
 have hmg2:=mg_of KX (Top.g T) (n:=ofString "law") (v:=.ref 230) (by kernel_rfl)
 have hfa : fa = 230:=by
  have:=hmg.symm.trans hmg2
  cases this; rfl
 subst hfa
 have Bg : Bs ⟨PySem.Challenge.rw_pa0015_03.row.prog,w,s₁.heap⟩ (KK w.params) mg mb:=⟨KX,Top.g T,Top.b T,Top.nolimit T,Top.builtins T⟩
 clear hmg hmg2 hd hcd hD ho T B D TE TW
 wrow_args hpre hlay hrd hwl hlo
 rename_i ns _ _ _ _ _ _ _ a vs _ hl _ hw1 _ hi _ hlen _
 have hlen : ns.length≤63:=by omega
 have hw : s₁.heap.get? a = some (lsO vs 0):=by
  obtain ⟨ol,hl1,hl2,n,hl3⟩:=hl
  have w1 : Well w.params s₁.heap (.ref a) (.list (ofPys (List.map PyData.int ns))):=hw1
  cases w1 with | list e r =>
  rw [hl1] at e; cases e
  cases hl3
  exact hl1
 have g : Gnd ⟨PySem.Challenge.rw_pa0015_03.row.prog,w,s₁.heap⟩ (fun b=>s₁.heap.get? b) s₁:=⟨fun _a _a e=>e,fun _a _a e=>e⟩
 have R : Room callerA 40:=⟨rfl,by decide +kernel,by decide +kernel⟩
 refine run ns hlen Bg g R (.list hw (ints_rep hi)) rfl fun v s' q=>?_
 obtain ⟨φ',x,r⟩:=q
 have r:=r.iBool
 subst r
 obtain ⟨h',tk',e'⟩:=x.eq
 refine GoodW.toG ⟨.inl ⟨_,.bool true,[],rfl,fun _a=>rfl,.bool true,?_,fun _a=>⟨List.nodup_nil,fun _a h=>(nomatch h)⟩⟩,x.ext,by rw [e'],by rw [e']; exact hg⟩
 wrow_post
end Mine
open PySem PySem.W PyProof.Rows
theorem PySem.Challenge.cw_pa0015_03_holds : PySem.Challenge.rw_pa0015_03.Holds :=
  Mine.holds_of @Mine.law3_run
