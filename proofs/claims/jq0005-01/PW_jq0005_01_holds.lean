import PyProof.Rows.All
import Wide.All
import OpenK.AllK
import KE.KLam
import PyProof.Rows.RowBridgeG
import PyProof.WalksT
import PyProof.ZipIter
import PyProof.DefCall
import PyProof.GenQ
import KE.KSortKey
import KE.KSetDisp
import KE.BitLaws
import Wide.FinOn
import Lean
import PySem.Challenge.RW_jq0005_01
open PySem PySem.W PyProof.Rows
set_option Elab.async false
set_option maxRecDepth 100000
namespace Mine
theorem o10{α : Sort _} {p : α -> Prop} {G : Prop} (h : ∃ x, p x) (k : ∀ x, p x -> G) : G := h.elim fun x h => k x h
theorem o01{p q : Prop} {G : Prop} (h : p /\ q) (k : p -> q -> G) : G := k h.1 h.2
theorem o20{α : Sort _} {β : Sort _} {p : α -> β -> Prop} {G : Prop} (h : ∃ x y, p x y) (k : ∀ x y, p x y -> G) : G := h.elim fun x h => h.elim fun y h => k x y h
theorem o11{α : Sort _} {p q : α -> Prop} {G : Prop} (h : ∃ x, p x /\ q x) (k : ∀ x, p x -> q x -> G) : G := h.elim fun x h => k x h.1 h.2
theorem o02{p q r : Prop} {G : Prop} (h : p /\ q /\ r) (k : p -> q -> r -> G) : G := k h.1 h.2.1 h.2.2
theorem o30{α : Sort _} {β : Sort _} {γ : Sort _} {p : α -> β -> γ -> Prop} {G : Prop} (h : ∃ x y z, p x y z) (k : ∀ x y z, p x y z -> G) : G := h.elim fun x h => h.elim fun y h => h.elim fun z h => k x y z h
theorem o21{α : Sort _} {β : Sort _} {p q : α -> β -> Prop} {G : Prop} (h : ∃ x y, p x y /\ q x y) (k : ∀ x y, p x y -> q x y -> G) : G := h.elim fun x h => h.elim fun y h => k x y h.1 h.2
theorem o12{α : Sort _} {p q r : α -> Prop} {G : Prop} (h : ∃ x, p x /\ q x /\ r x) (k : ∀ x, p x -> q x -> r x -> G) : G := h.elim fun x h => k x h.1 h.2.1 h.2.2
theorem o03{p q r s : Prop} {G : Prop} (h : p /\ q /\ r /\ s) (k : p -> q -> r -> s -> G) : G := k h.1 h.2.1 h.2.2.1 h.2.2.2
theorem o40{α : Sort _} {β : Sort _} {γ : Sort _} {δ : Sort _} {p : α -> β -> γ -> δ -> Prop} {G : Prop} (h : ∃ x y z u, p x y z u) (k : ∀ x y z u, p x y z u -> G) : G := h.elim fun x h => h.elim fun y h => h.elim fun z h => h.elim fun u h => k x y z u h
theorem o31{α : Sort _} {β : Sort _} {γ : Sort _} {p q : α -> β -> γ -> Prop} {G : Prop} (h : ∃ x y z, p x y z /\ q x y z) (k : ∀ x y z, p x y z -> q x y z -> G) : G := h.elim fun x h => h.elim fun y h => h.elim fun z h => k x y z h.1 h.2
theorem o22{α : Sort _} {β : Sort _} {p q r : α -> β -> Prop} {G : Prop} (h : ∃ x y, p x y /\ q x y /\ r x y) (k : ∀ x y, p x y -> q x y -> r x y -> G) : G := h.elim fun x h => h.elim fun y h => k x y h.1 h.2.1 h.2.2
theorem o13{α : Sort _} {p q r s : α -> Prop} {G : Prop} (h : ∃ x, p x /\ q x /\ r x /\ s x) (k : ∀ x, p x -> q x -> r x -> s x -> G) : G := h.elim fun x h => k x h.1 h.2.1 h.2.2.1 h.2.2.2
theorem o04{p q r s t : Prop} {G : Prop} (h : p /\ q /\ r /\ s /\ t) (k : p -> q -> r -> s -> t -> G) : G := k h.1 h.2.1 h.2.2.1 h.2.2.2.1 h.2.2.2.2
theorem o41{α : Sort _} {β : Sort _} {γ : Sort _} {δ : Sort _} {p q : α -> β -> γ -> δ -> Prop} {G : Prop} (h : ∃ x y z u, p x y z u /\ q x y z u) (k : ∀ x y z u, p x y z u -> q x y z u -> G) : G := h.elim fun x h => h.elim fun y h => h.elim fun z h => h.elim fun u h => k x y z u h.1 h.2
theorem o32{α : Sort _} {β : Sort _} {γ : Sort _} {p q r : α -> β -> γ -> Prop} {G : Prop} (h : ∃ x y z, p x y z /\ q x y z /\ r x y z) (k : ∀ x y z, p x y z -> q x y z -> r x y z -> G) : G := h.elim fun x h => h.elim fun y h => h.elim fun z h => k x y z h.1 h.2.1 h.2.2
theorem o23{α : Sort _} {β : Sort _} {p q r s : α -> β -> Prop} {G : Prop} (h : ∃ x y, p x y /\ q x y /\ r x y /\ s x y) (k : ∀ x y, p x y -> q x y -> r x y -> s x y -> G) : G := h.elim fun x h => h.elim fun y h => k x y h.1 h.2.1 h.2.2.1 h.2.2.2
theorem o05{p q r s t a : Prop} {G : Prop} (h : p /\ q /\ r /\ s /\ t /\ a) (k : p -> q -> r -> s -> t -> a -> G) : G := k h.1 h.2.1 h.2.2.1 h.2.2.2.1 h.2.2.2.2.1 h.2.2.2.2.2
theorem o42{α : Sort _} {β : Sort _} {γ : Sort _} {δ : Sort _} {p q r : α -> β -> γ -> δ -> Prop} {G : Prop} (h : ∃ x y z u, p x y z u /\ q x y z u /\ r x y z u) (k : ∀ x y z u, p x y z u -> q x y z u -> r x y z u -> G) : G := h.elim fun x h => h.elim fun y h => h.elim fun z h => h.elim fun u h => k x y z u h.1 h.2.1 h.2.2
theorem o33{α : Sort _} {β : Sort _} {γ : Sort _} {p q r s : α -> β -> γ -> Prop} {G : Prop} (h : ∃ x y z, p x y z /\ q x y z /\ r x y z /\ s x y z) (k : ∀ x y z, p x y z -> q x y z -> r x y z -> s x y z -> G) : G := h.elim fun x h => h.elim fun y h => h.elim fun z h => k x y z h.1 h.2.1 h.2.2.1 h.2.2.2
theorem o24{α : Sort _} {β : Sort _} {p q r s t : α -> β -> Prop} {G : Prop} (h : ∃ x y, p x y /\ q x y /\ r x y /\ s x y /\ t x y) (k : ∀ x y, p x y -> q x y -> r x y -> s x y -> t x y -> G) : G := h.elim fun x h => h.elim fun y h => k x y h.1 h.2.1 h.2.2.1 h.2.2.2.1 h.2.2.2.2
theorem o43{α : Sort _} {β : Sort _} {γ : Sort _} {δ : Sort _} {p q r s : α -> β -> γ -> δ -> Prop} {G : Prop} (h : ∃ x y z u, p x y z u /\ q x y z u /\ r x y z u /\ s x y z u) (k : ∀ x y z u, p x y z u -> q x y z u -> r x y z u -> s x y z u -> G) : G := h.elim fun x h => h.elim fun y h => h.elim fun z h => h.elim fun u h => k x y z u h.1 h.2.1 h.2.2.1 h.2.2.2
theorem o34{α : Sort _} {β : Sort _} {γ : Sort _} {p q r s t : α -> β -> γ -> Prop} {G : Prop} (h : ∃ x y z, p x y z /\ q x y z /\ r x y z /\ s x y z /\ t x y z) (k : ∀ x y z, p x y z -> q x y z -> r x y z -> s x y z -> t x y z -> G) : G := h.elim fun x h => h.elim fun y h => h.elim fun z h => k x y z h.1 h.2.1 h.2.2.1 h.2.2.2.1 h.2.2.2.2
theorem o25{α : Sort _} {β : Sort _} {p q r s t a : α -> β -> Prop} {G : Prop} (h : ∃ x y, p x y /\ q x y /\ r x y /\ s x y /\ t x y /\ a x y) (k : ∀ x y, p x y -> q x y -> r x y -> s x y -> t x y -> a x y -> G) : G := h.elim fun x h => h.elim fun y h => k x y h.1 h.2.1 h.2.2.1 h.2.2.2.1 h.2.2.2.2.1 h.2.2.2.2.2
theorem o53{α : Sort _} {β : Sort _} {γ : Sort _} {δ : Sort _} {ε : Sort _} {p q r s : α -> β -> γ -> δ -> ε -> Prop} {G : Prop} (h : ∃ x y z u v, p x y z u v /\ q x y z u v /\ r x y z u v /\ s x y z u v) (k : ∀ x y z u v, p x y z u v -> q x y z u v -> r x y z u v -> s x y z u v -> G) : G := h.elim fun x h => h.elim fun y h => h.elim fun z h => h.elim fun u h => h.elim fun v h => k x y z u v h.1 h.2.1 h.2.2.1 h.2.2.2
theorem o44{α : Sort _} {β : Sort _} {γ : Sort _} {δ : Sort _} {p q r s t : α -> β -> γ -> δ -> Prop} {G : Prop} (h : ∃ x y z u, p x y z u /\ q x y z u /\ r x y z u /\ s x y z u /\ t x y z u) (k : ∀ x y z u, p x y z u -> q x y z u -> r x y z u -> s x y z u -> t x y z u -> G) : G := h.elim fun x h => h.elim fun y h => h.elim fun z h => h.elim fun u h => k x y z u h.1 h.2.1 h.2.2.1 h.2.2.2.1 h.2.2.2.2
theorem o35{α : Sort _} {β : Sort _} {γ : Sort _} {p q r s t a : α -> β -> γ -> Prop} {G : Prop} (h : ∃ x y z, p x y z /\ q x y z /\ r x y z /\ s x y z /\ t x y z /\ a x y z) (k : ∀ x y z, p x y z -> q x y z -> r x y z -> s x y z -> t x y z -> a x y z -> G) : G := h.elim fun x h => h.elim fun y h => h.elim fun z h => k x y z h.1 h.2.1 h.2.2.1 h.2.2.2.1 h.2.2.2.2.1 h.2.2.2.2.2
theorem o08{p q r s t a b c d : Prop} {G : Prop} (h : p /\ q /\ r /\ s /\ t /\ a /\ b /\ c /\ d) (k : p -> q -> r -> s -> t -> a -> b -> c -> d -> G) : G := k h.1 h.2.1 h.2.2.1 h.2.2.2.1 h.2.2.2.2.1 h.2.2.2.2.2.1 h.2.2.2.2.2.2.1 h.2.2.2.2.2.2.2.1 h.2.2.2.2.2.2.2.2
end Mine
namespace Mine.No
theorem ns {α : Type _} {a : α} {G : Prop} (h : none = some a) : G := nomatch h
theorem sn {α : Type _} {a : α} {G : Prop} (h : some a = none) : G := nomatch h
theorem tf {G : Prop} (h : true = false) : G := nomatch h
theorem ft {G : Prop} (h : false = true) : G := nomatch h
end Mine.No
set_option genInjectivity false
set_option genSizeOf false
local macro_rules | `(tactic| walk_at "pk") => `(tactic| (repeat' first | exact trivial | (refine And.intro ?_ ?_) | exact rfl | exact Or.inl rfl | exact Or.inr rfl | ((first | show (_ : Nat) <= _ | show (_ : Int) <= _ | show (_ : Nat) < _ | show (_ : Int) < _); lia)))
local macro_rules | `(tactic| walk_at "pd") => `(tactic| (repeat' first | exact trivial | (refine And.intro ?_ ?_) | exact rfl | exact Or.inl rfl | exact Or.inr rfl | (show (_ : Int) ≠ _; decide) | ((first | show (_ : Nat) <= _ | show (_ : Int) <= _ | show (_ : Nat) < _ | show (_ : Int) < _); lia) | (intro _)))
namespace Mine
noncomputable abbrev PH := Addr -> Option Obj
inductive Ty where
 | none | bool | int | byt | val | rng
 | lst (t : Ty) | tpl (t : Ty) | pair (a b : Ty) | dct (t : Ty)
deriving DecidableEq, Inhabited
noncomputable abbrev Ty.den : Ty -> Type
 | .none => Unit
 | .bool => Bool
 | .int => Int
 | .byt => List UInt8
 | .val => Value
 | .rng => Int × Int × Int
 | .lst t => List t.den
 | .tpl t => List t.den
 | .pair a b => a.den × b.den
 | .dct t => List UInt8 -> Option t.den
noncomputable def Ty.dflt : (t : Ty) -> t.den
 | .none => ()
 | .bool => false
 | .int => 0
 | .byt => []
 | .val => .none
 | .rng => (0, 0, 1)
 | .lst _ => []
 | .tpl _ => []
 | .pair a b => (a.dflt, b.dflt)
 | .dct _ => fun _ => Option.none
structure TV where
 t : Ty
 v : t.den
noncomputable def tv0 : TV := ⟨.none, ()⟩
noncomputable def TV.as (x : TV) (t : Ty) : t.den := if h : x.t = t then h ▸ x.v else t.dflt
@[simp] theorem TV.as_self (t : Ty) (v : t.den) : (TV.mk t v).as t = v := by simp [TV.as]
inductive Rel2 {α β : Type} (R : α -> β -> Prop) : List α -> List β -> Prop
 | nil : Rel2 R [] []
 | cons {a b l m} : R a b -> Rel2 R l m -> Rel2 R (a :: l) (b :: m)
namespace Rel2
variable {α β : Type} {R S : α -> β -> Prop}
theorem mono (h : ∀ a b, R a b -> S a b) {l : List α} {m : List β} (x : Rel2 R l m) : Rel2 S l m := by
 induction x with
 | nil => exact .nil
 | cons r _ ih => exact .cons (h _ _ r) ih
theorem length {l : List α} {m : List β} (x : Rel2 R l m) : l.length = m.length := by
 induction x with
 | nil => rfl
 | cons _ _ ih => simp [ih]
theorem append {l l' : List α} {m m' : List β} (x : Rel2 R l m) (y : Rel2 R l' m') : Rel2 R (l ++ l') (m ++ m') := by
 induction x with
 | nil => exact y
 | cons r _ ih => exact .cons r ih
theorem snoc {l : List α} {m : List β} {a : α} {b : β} (x : Rel2 R l m) (r : R a b) : Rel2 R (l ++ [a]) (m ++ [b]) := x.append (.cons r .nil)
theorem get {l : List α} {m : List β} (x : Rel2 R l m) {i : Nat} {a : α} (h : l[i]? = some a) : ∃ b, m[i]? = some b /\ R a b := by
 induction x generalizing i with
 | nil => simp at h
 | cons r _ ih =>
  cases i with
  | zero => simp at h; subst h; exact ⟨_, by simp, r⟩
  | succ i => simp at h; refine o11 (ih h) fun b h1 h2 => ?_; exact ⟨b, by simpa using h1, h2⟩
theorem get' {l : List α} {m : List β} (x : Rel2 R l m) {i : Nat} {b : β} (h : m[i]? = some b) : ∃ a, l[i]? = some a /\ R a b := by
 induction x generalizing i with
 | nil => simp at h
 | cons r _ ih =>
  cases i with
  | zero => simp at h; subst h; exact ⟨_, by simp, r⟩
  | succ i => simp at h; refine o11 (ih h) fun b h1 h2 => ?_; exact ⟨b, by simpa using h1, h2⟩
theorem take {l : List α} {m : List β} (x : Rel2 R l m) (n : Nat) : Rel2 R (l.take n) (m.take n) := by
 induction x generalizing n with
 | nil => simp; exact .nil
 | cons r _ ih =>
  cases n with
  | zero => exact .nil
  | succ n => exact .cons r (ih n)
theorem drop {l : List α} {m : List β} (x : Rel2 R l m) (n : Nat) : Rel2 R (l.drop n) (m.drop n) := by
 induction x generalizing n with
 | nil => simp; exact .nil
 | cons r t ih =>
  cases n with
  | zero => exact .cons r t
  | succ n => exact ih n
theorem nil_iff {l : List α} {m : List β} (x : Rel2 R l m) : l = [] ↔ m = [] := by
 rcases x with ⟨⟩ <;> simp
theorem map_left {γ : Type} {f : γ -> α} {l : List γ} {m : List β} (x : Rel2 (fun c b => R (f c) b) l m) : Rel2 R (l.map f) m := by
 induction x with
 | nil => exact .nil
 | cons r _ ih => exact .cons r ih
end Rel2
noncomputable def LObj (hc : PH) (cls : String) (a : Addr) (items : List Value) : Prop :=
 ∃ o n, hc a = some o /\ o.cls = .type cls /\ o.data = .seq items.toArray n
noncomputable def DObj (P : Params) (hc : PH) (a : Addr) (g : List UInt8 -> Option Value) : Prop :=
 (a == sysModules) = false /\ ∃ o es ep, hc a = some o /\ o.ExactDict /\ o.data = .dict es ep /\ (∀ e ∈ es, ∃ k, isBytes k e.key = true /\ e.hash = hashW P (.bytes k)) /\ ∀ k, findBy isBytes es k = g k
noncomputable def Rep (P : Params) (hc : PH) : (t : Ty) -> t.den -> Value -> Prop
 | .none, _, v => v = .none
 | .bool, b, v => v = .bool b
 | .int, i, v => ∃ k, v = .int i k
 | .byt, b, v => ∃ k, v = .bytes b.toArray k
 | .val, x, v => v = x
 | .rng, (a, b, c), v => ∃ r i j k, v = .ref r /\ hc r = some { cls := .type "range", data := .fields #[.int a i, .int b j, .int c k] }
 | .lst t, l, v => ∃ a items, v = .ref a /\ LObj hc "list" a items /\ Rel2 (Rep P hc t) l items
 | .tpl t, l, v => ∃ a items, v = .ref a /\ LObj hc "tuple" a items /\ Rel2 (Rep P hc t) l items
 | .pair s t, (x, y), v => ∃ a p q, v = .ref a /\ LObj hc "tuple" a [p, q] /\ Rep P hc s x p /\ Rep P hc t y q
 | .dct t, f, v => ∃ (a : Addr) (g : List UInt8 -> Option Value), v = .ref a /\ DObj P hc a g /\ ∀ k, (f k = none /\ g k = none) \/ ∃ x y, f k = some x /\ g k = some y /\ Rep P hc t x y
noncomputable def PH.le (a b : PH) : Prop := ∀ x o, a x = some o -> b x = some o
theorem PH.le.rfl {a : PH} : a.le a := fun _ _ e => e
theorem PH.le.trans {a b c : PH} (x : a.le b) (y : b.le c) : a.le c := fun _ _ e => y _ _ (x _ _ e)
theorem LObj.mono {hc hd : PH} (h : hc.le hd) {cls a items} (x : LObj hc cls a items) : LObj hd cls a items :=
 o21 x fun o n h1 h2 => ⟨o, n, h _ _ h1, h2⟩
theorem DObj.mono {P : Params} {hc hd : PH} (h : hc.le hd) {a g} (x : DObj P hc a g) : DObj P hd a g :=
 o01 x fun l q => o31 q fun o es ep h1 h2 => ⟨l, o, es, ep, h _ _ h1, h2⟩
theorem Rep.mono {P : Params} {hc hd : PH} (h : hc.le hd) {t : Ty} : ∀ {x : t.den} {v : Value}, Rep P hc t x v -> Rep P hd t x v := by
 induction t with
 | rng => exact fun {x} _ r => match x, r with | (_, _, _), r => o41 r fun r i j k e x => ⟨r, i, j, k, e, h _ _ x⟩
 | lst t ih => exact fun r => o22 r fun a items e x y => ⟨a, items, e, x.mono h, y.mono fun _ _ r => ih r⟩
 | tpl t ih => exact fun r => o22 r fun a items e x y => ⟨a, items, e, x.mono h, y.mono fun _ _ r => ih r⟩
 | pair s t ih1 ih2 => exact fun {x} _ r => match x, r with | (_, _), r => o33 r fun a p q e x y z => ⟨a, p, q, e, x.mono h, ih1 y, ih2 z⟩
 | dct t ih => exact fun r => o22 r fun a g e x y => ⟨a, g, e, x.mono h, fun k => (y k).imp id fun q => o22 q fun x y h1 h2 h3 => ⟨x, y, h1, h2, ih h3⟩⟩
 | _ => exact id
noncomputable def PH.In (hc : PH) (h : Heap) : Prop := ∀ a o, hc a = some o -> h.get? a = some o
theorem LObj.isList {hc : PH} {h : Heap} (k : hc.In h) {a items} (x : LObj hc "list" a items) : h.IsList a items.toArray :=
 o22 x fun o n h1 h2 h3 => ⟨o, k _ _ h1, h2, n, h3⟩
theorem LObj.isTuple {hc : PH} {h : Heap} (k : hc.In h) {a items} (x : LObj hc "tuple" a items) : h.IsTuple a items.toArray :=
 o22 x fun o n h1 h2 h3 => ⟨o, k _ _ h1, h2, n, h3⟩
theorem DObj.mapOf {prog : Program} {w : World} {hc : PH} {h : Heap} (k : hc.In h) {a g} (x : DObj w.params hc a g) : h.MapOf (bytesKind prog w) a g :=
 o01 x fun _ q => o31 q fun o es ep h1 h2 => ⟨o, es, ep, k _ _ h1, h2⟩
noncomputable def PH.put (hc : PH) (a : Addr) (o : Obj) : PH := fun b => if b = a then some o else hc b
theorem PH.put_self {hc : PH} {a o} : hc.put a o a = some o := by simp [PH.put]
theorem PH.put_le {hc : PH} {a : Addr} {o : Obj} (h : hc a = none) : hc.le (hc.put a o) := fun x o' e => by
 unfold PH.put; split
 ·subst_vars; rw [h] at e; exact No.ns e
 ·exact e
theorem PH.put_ne {hc : PH} {a b : Addr} {o : Obj} (h : b ≠ a) : hc.put a o b = hc b := by simp [PH.put, h]
theorem PH.In.put {hc : PH} {h : Heap} {a : Addr} {o : Obj} (k : hc.In h) (e : h.get? a = some o) : (hc.put a o).In h := fun x o' e' => by
 unfold PH.put at e'; split at e'
 ·subst_vars; obtain rfl := Option.some.inj e'; exact e
 ·exact k _ _ e'
theorem PH.In.none {hc : PH} {h : Heap} (k : hc.In h) {a : Addr} (e : h.get? a = none) : hc a = none := by
 generalize x : hc a = zz; induction zz with
 | none => rfl
 | some o => rw [k _ _ x] at e; exact No.sn e
theorem PH.In.keeps {hc : PH} {h h' : Heap} (k : hc.In h) (x : ∀ b o, h.get? b = some o -> h'.get? b = some o) : hc.In h' := fun a o e => x _ _ (k a o e)
end Mine
namespace Mine
inductive Fn where
 | len | abs | sum | max | range | bytes | sorted | down | next | passed | rises
deriving DecidableEq, Inhabited
noncomputable abbrev Rho := Str -> Option TV
noncomputable def Rho.upd (ρ : Rho) (x : Str) (v : TV) : Rho := fun y => if y = x then some v else ρ y
noncomputable def iop : Operator -> Int -> Int -> Int
 | .Add, a, b => a + b
 | .Sub, a, b => a - b
 | .Mult, a, b => a * b
 | .FloorDiv, a, b => a.fdiv b
 | .Mod, a, b => a.fmod b
 | .BitAnd, a, b => Builtin.bitAnd a b
 | .BitOr, a, b => Builtin.bitOr a b
 | .LShift, a, b => a * 2 ^ b.toNat
 | .RShift, a, b => a.fdiv (2 ^ b.toNat)
 | _, _, _ => 0
noncomputable def iopOk : Operator -> Int -> Int -> Prop
 | .Add, _, _ => True
 | .Sub, _, _ => True
 | .Mult, a, _ => a.natAbs < 2 ^ 60
 | .FloorDiv, _, b => b ≠ 0 /\ b.natAbs < 2 ^ 28
 | .Mod, _, b => b ≠ 0
 | .BitAnd, _, _ => True
 | .BitOr, _, _ => True
 | .LShift, a, b => a.natAbs < 2 ^ 60 /\ 0 <= b /\ b <= 1000000
 | .RShift, _, b => 0 <= b
 | _, _, _ => False
noncomputable def icmp : CmpOp -> Int -> Int -> Bool
 | .Eq, a, b => a == b
 | .NotEq, a, b => a != b
 | .Lt, a, b => decide (a < b)
 | .LtE, a, b => decide (a <= b)
 | .Gt, a, b => decide (b < a)
 | .GtE, a, b => decide (b <= a)
 | _, _, _ => false
noncomputable def icmpOk : CmpOp -> Bool
 | .Eq | .NotEq | .Lt | .LtE | .Gt | .GtE => true
 | _ => false
noncomputable def Ty.eqv : Ty -> Bool
 | .int => true
 | .byt => true
 | .lst t => t.eqv
 | _ => false
noncomputable def Ty.beqv : (t : Ty) -> t.den -> t.den -> Bool
 | .int, a, b => a == b
 | .byt, a, b => a == b
 | .lst .int, a, b => decide ((a : List Int) = b)
 | .lst .byt, a, b => decide ((a : List (List UInt8)) = b)
 | .lst (.lst .byt), a, b => decide ((a : List (List (List UInt8))) = b)
 | _, _, _ => false
noncomputable def bltb (a b : List UInt8) : Bool := Builtin.Bytes.order a b == .lt
noncomputable def TV.cmpB (op : CmpOp) (x y : TV) : Bool :=
 match x, y with
 | ⟨.int, a⟩, ⟨.int, b⟩ => icmp op a b
 | ⟨.pair .int .byt, (a, b)⟩, ⟨.pair .int .byt, (c, d)⟩ => if a = c then bltb b d else decide (a < c)
 | ⟨.none, _⟩, ⟨.none, _⟩ => match op with | .Is => true | _ => false
 | ⟨t, a⟩, y => match op with
  | .Eq => t.beqv a (y.as t)
  | .NotEq => !t.beqv a (y.as t)
  | .IsNot => true
  | _ => false
noncomputable def TV.cmp (op : CmpOp) (x y : TV) : TV := ⟨.bool, x.cmpB op y⟩
noncomputable def Ty.eqK : Ty -> Bool
 | .int | .byt => true
 | .lst t => match t with
  | .byt => true
  | _ => false
 | _ => false
noncomputable def lcmpOk (op : CmpOp) (t : Ty) : Ty -> Prop
 | .none => op = .Is \/ op = .IsNot
 | u => u = .lst t /\ t.eqK = true /\ (op = .Eq \/ op = .NotEq)
noncomputable def TV.cmpOk (op : CmpOp) (x y : TV) : Prop :=
 match x.t with
 | .int => y.t = .int /\ icmpOk op = true
 | .pair a b => a = .int /\ b = .byt /\ y.t = .pair .int .byt /\ op = .Lt
 | .none => y.t = .none /\ (op = .Is \/ op = .IsNot)
 | .byt => y.t = .byt /\ (op = .Eq \/ op = .NotEq)
 | .lst t => lcmpOk op t y.t
 | _ => False
noncomputable def TV.bin (op : Operator) (x y : TV) : TV :=
 match x, y with
 | ⟨.int, a⟩, ⟨.int, b⟩ => ⟨.int, iop op a b⟩
 | ⟨.lst t, l⟩, y => ⟨.lst t, l ++ y.as (.lst t)⟩
 | _, _ => tv0
noncomputable def TV.binOk (op : Operator) (x y : TV) : Prop :=
 match x, y with
 | ⟨.int, a⟩, ⟨.int, b⟩ => iopOk op a b
 | ⟨.lst t, l⟩, ⟨.lst u, m⟩ => op = .Add /\ t = u /\ l.length + m.length <= 1000
 | _, _ => False
noncomputable def TV.un (op : UnaryOp) (x : TV) : TV :=
 match x with
 | ⟨.int, a⟩ => ⟨.int, match op with | .USub => -a | .Invert => Builtin.bitNot a | _ => 0⟩
 | _ => tv0
noncomputable def TV.unOk (op : UnaryOp) (x : TV) : Prop := x.t = .int /\ (op = .USub \/ op = .Invert)
noncomputable def TV.truth (x : TV) : Bool :=
 match x with
 | ⟨.none, _⟩ => false
 | ⟨.bool, b⟩ => b
 | ⟨.int, i⟩ => i != 0
 | ⟨.lst _, l⟩ => !l.isEmpty
 | _ => true
noncomputable def TV.truthOk (x : TV) : Prop :=
 match x with
 | ⟨.none, _⟩ => True
 | ⟨.bool, _⟩ => True
 | ⟨.int, _⟩ => True
 | ⟨.lst _, l⟩ => l.length <= 100000000
 | _ => False
noncomputable def TV.item (x i : TV) : TV :=
 match x, i with
 | ⟨.lst t, l⟩, ⟨.int, k⟩ => ⟨t, l.getD k.toNat t.dflt⟩
 | ⟨.dct t, f⟩, ⟨.byt, k⟩ => ⟨t, (f k).getD t.dflt⟩
 | _, _ => tv0
noncomputable def TV.itemOk (x i : TV) : Prop :=
 match x, i with
 | ⟨.lst _, l⟩, ⟨.int, k⟩ => 0 <= k /\ k.toNat < l.length /\ l.length <= 100000000
 | ⟨.dct _, f⟩, ⟨.byt, k⟩ => (f k).isSome = true
 | _, _ => False
noncomputable def rangeOf (a b c : Int) : List Int := (List.range (Builtin.Range.rangeSize a b c).toNat).map fun i => a + (i : Nat) * c
structure Items where
 t : Ty
 l : List t.den
noncomputable def TV.items (x : TV) : Items :=
 match x with
 | ⟨.lst t, l⟩ => ⟨t, l⟩
 | ⟨.tpl t, l⟩ => ⟨t, l⟩
 | ⟨.rng, (a, b, c)⟩ => ⟨.int, rangeOf a b c⟩
 | _ => ⟨.none, []⟩
noncomputable def TV.itemsOk (x : TV) : Prop :=
 match x with
 | ⟨.lst _, l⟩ => l.length <= 1000
 | ⟨.tpl _, l⟩ => l.length <= 1000
 | ⟨.rng, (a, b, c)⟩ => (c = 1 \/ c = -1) /\ a.natAbs <= 1000 /\ b.natAbs <= 1000
 | _ => False
theorem all1 {α : Type _} {P : α -> Prop} {a : α} (ha : P a) : ∀ x ∈ [a], P x := fun _ hx => List.mem_singleton.mp hx ▸ ha
theorem allc {α : Type _} {P : α -> Prop} {a : α} {l : List α} (ha : P a) (hl : ∀ x ∈ l, P x) : ∀ x ∈ a :: l, P x := List.forall_mem_cons.mpr ⟨ha, hl⟩
theorem all2 {α : Type _} {P : α -> Prop} {a b : α} (ha : P a) (hb : P b) : ∀ x ∈ [a, b], P x := allc ha (all1 hb)
theorem all3 {α : Type _} {P : α -> Prop} {a b c : α} (ha : P a) (hb : P b) (hc : P c) : ∀ x ∈ [a, b, c], P x := allc ha (all2 hb hc)
noncomputable def nameOf : PySem.Expr -> Option Str
 | .Name n _ => some n
 | _ => none
noncomputable def twoOf (a b : Option Str) : Option (Str × Option Str) := a.bind fun n => b.map fun m => (n, some m)
noncomputable def tgOf : PySem.Expr -> Option (Str × Option Str)
 | .Name n _ => some (n, none)
 | .Tuple es _ _ => match es with
  | [a, b] => twoOf (nameOf a) (nameOf b)
  | _ => none
 | _ => none
noncomputable def TV.halves (x : TV) : TV × TV := match x with
 | ⟨.pair a b, p⟩ => (⟨a, p.1⟩, ⟨b, p.2⟩)
 | _ => (tv0, tv0)
noncomputable def bindT (tg : PySem.Expr) (x : TV) (ρ : Rho) : Rho :=
 match tgOf tg with
 | some (n, none) => ρ.upd n x
 | some (n, some m) => (ρ.upd n x.halves.1).upd m x.halves.2
 | none => ρ
theorem nameOf_inv {e : PySem.Expr} {n : Str} (h : nameOf e = some n) : ∃ p, e = .Name n p := by
 rcases e with ⟨⟩ <;> first | exact Mine.No.ns h | exact ⟨_, congrArg (PySem.Expr.Name · _) (Option.some.inj h)⟩
theorem tg_cases (tg : PySem.Expr) : tgOf tg = none \/ (∃ n p, tg = .Name n p) \/ ∃ n p m q k r, tg = .Tuple [.Name n p, .Name m q] k r := by
 induction tg using PySem.Expr.casesOn with
 | Name n p => exact .inr (.inl ⟨n, p, rfl⟩)
 | Tuple es k r =>
  obtain _ | ⟨a, _ | ⟨b, _ | ⟨c, es⟩⟩⟩ := es
  ·exact .inl rfl
  ·exact .inl rfl
  ·generalize ha : nameOf a = zz; induction zz with
   | none => exact .inl (show twoOf (nameOf a) (nameOf b) = none by rw [ha]; rfl)
   | some n => generalize hb : nameOf b = zz; induction zz with
    | none => exact .inl (show twoOf (nameOf a) (nameOf b) = none by rw [ha, hb]; rfl)
    | some m =>
     refine o10 (nameOf_inv ha) ?_; rintro p rfl
     refine o10 (nameOf_inv hb) ?_; rintro q rfl
     exact .inr (.inr ⟨n, p, m, q, k, r, rfl⟩)
  ·exact .inl rfl
 | _ => exact .inl rfl
noncomputable def Rho.clear (ρ : Rho) (scope : Scope) : Rho := fun y => if scope.names.lookup y = some NameKind.local then none else ρ y
noncomputable def nextF (found : Int) (roads : List Int) : Int :=
 (List.range roads.length).foldl (fun out k => if Builtin.bitAnd (found.fdiv (2 ^ k)) 1 = 1 then Builtin.bitOr out (roads.getD k 0) else out) 0
noncomputable def downF (found : Int) (roads : List Int) (within : Int) : Int :=
 (List.range roads.length).reverse.foldl (fun f k => if Builtin.bitAnd (f.fdiv (2 ^ k)) 1 = 1 then Builtin.bitOr f (Builtin.bitAnd (roads.getD k 0) within) else f) (Builtin.bitAnd found within)
noncomputable abbrev Rank := Int × List UInt8
noncomputable def rankLt (x y : Rank) : Bool := if x.1 = y.1 then bltb x.2 y.2 else decide (x.1 < y.1)
noncomputable def aheadF (k : Nat) (ranks : List Rank) : Int :=
 (List.range ranks.length).foldl (fun a j => if rankLt (ranks.getD j (0, [])) (ranks.getD k (0, [])) then Builtin.bitOr a (2 ^ j) else a) 0
noncomputable def passedF (k : Int) (one two : Int) (roads : List Int) (ranks : List Rank) : Bool :=
 let ahead := aheadF k.toNat ranks
 let near := Builtin.bitAnd (downF one roads ahead) (downF two roads ahead)
 Builtin.bitAnd ((nextF near roads).fdiv (2 ^ k.toNat)) 1 == 1
noncomputable def risesF (row : List (List UInt8)) (times : List UInt8 -> Option Int) : Bool :=
 (row.zip row.tail).all fun p => !decide ((times p.1).getD 0 > (times p.2).getD 0)
noncomputable def insB (x : List UInt8) : List (List UInt8) -> List (List UInt8)
 | [] => [x]
 | y :: r => if bltb x y then x :: y :: r else y :: insB x r
noncomputable def sortB (l : List (List UInt8)) : List (List UInt8) := l.foldl (fun a x => insB x a) []
noncomputable def insI (x : Int) : List Int -> List Int
 | [] => [x]
 | y :: r => if x < y then x :: y :: r else y :: insI x r
noncomputable def sortI (l : List Int) : List Int := l.foldl (fun a x => insI x a) []
noncomputable def maxI : List Int -> Int
 | [] => 0
 | x :: r => r.foldl (fun a y => if a < y then y else a) x
noncomputable def app (f : Fn) (xs : List TV) : TV :=
 match f, xs with
 | .len, [⟨.lst _, l⟩] => ⟨.int, l.length⟩
 | .abs, [⟨.int, a⟩] => ⟨.int, if a < 0 then -a else a⟩
 | .sum, [⟨.lst .int, l⟩] => ⟨.int, (l : List Int).sum⟩
 | .max, [⟨.lst .int, l⟩] => ⟨.int, maxI l⟩
 | .range, [⟨.int, b⟩] => ⟨.rng, (0, b, 1)⟩
 | .range, [⟨.int, a⟩, ⟨.int, b⟩, ⟨.int, c⟩] => ⟨.rng, (a, b, c)⟩
 | .bytes, [⟨.lst .int, l⟩] => ⟨.byt, (l : List Int).map fun i => UInt8.ofNat i.toNat⟩
 | .sorted, [⟨.lst .int, l⟩] => ⟨.lst .int, sortI l⟩
 | .sorted, [⟨.lst .byt, l⟩] => ⟨.lst .byt, sortB l⟩
 | .down, [⟨.int, a⟩, ⟨.lst .int, l⟩, ⟨.int, b⟩] => ⟨.int, downF a l b⟩
 | .next, [⟨.int, a⟩, ⟨.lst .int, l⟩] => ⟨.int, nextF a l⟩
 | .passed, [⟨.int, k⟩, ⟨.int, a⟩, ⟨.int, b⟩, ⟨.lst .int, l⟩, ⟨.lst (.pair .int .byt), r⟩] => ⟨.bool, passedF k a b l r⟩
 | .rises, [⟨.lst .byt, l⟩, ⟨.dct .int, f⟩] => ⟨.bool, risesF l f⟩
 | _, _ => tv0
structure Use where
 plain : Bool := false
 passed : Bool := false
noncomputable def onInt (x : TV) (p : Int -> Prop) : Prop := match x with
 | ⟨.int, a⟩ => p a
 | _ => False
noncomputable def onLst (x : TV) (p : (t : Ty) -> List t.den -> Prop) : Prop := match x with
 | ⟨.lst t, l⟩ => p t l
 | _ => False
noncomputable def onInts (x : TV) (p : List Int -> Prop) : Prop := onLst x fun t l => match t with
 | .int => p l
 | _ => False
theorem onInt.inv {x : TV} {p : Int -> Prop} (h : onInt x p) : ∃ a, x = ⟨.int, a⟩ /\ p a := by
 obtain ⟨t, v⟩ := x
 rcases t with ⟨⟩ <;> first | exact h.elim | exact ⟨v, rfl, h⟩
theorem onLst.inv {x : TV} {p : (t : Ty) -> List t.den -> Prop} (h : onLst x p) : ∃ (t : Ty) (l : List t.den), x = ⟨.lst t, l⟩ /\ p t l := by
 obtain ⟨t, v⟩ := x
 rcases t with ⟨⟩ <;> first | exact h.elim | exact ⟨_, v, rfl, h⟩
theorem onInts.inv {x : TV} {p : List Int -> Prop} (h : onInts x p) : ∃ l : List Int, x = ⟨.lst .int, l⟩ /\ p l := by
 refine o10 (onLst.inv h) ?_; rintro t zz; refine o11 zz ?_; rintro l rfl h
 rcases t with ⟨⟩ <;> first | exact h.elim | exact ⟨l, rfl, h⟩
noncomputable def okLen : List TV -> Prop
 | [x] => onLst x fun _ l => l.length <= 100000000
 | _ => False
noncomputable def okAbs : List TV -> Prop
 | [x] => onInt x fun _ => True
 | _ => False
noncomputable def okInts (p : List Int -> Prop) : List TV -> Prop
 | [x] => onInts x p
 | _ => False
noncomputable def okRange : List TV -> Prop
 | [b] => onInt b fun b => b.natAbs <= 1000
 | [a, b, c] => onInt a fun a => onInt b fun b => onInt c fun c => a.natAbs <= 1000 /\ b.natAbs <= 1000 /\ c = -1
 | _ => False
noncomputable def okSorted : List TV -> Prop
 | [x] => onLst x fun t l => (t = .int \/ t = .byt) /\ l.length < 64
 | _ => False
noncomputable def okDown : List TV -> Prop
 | [a, l, b] => onInt a fun _ => onInts l fun l => onInt b fun _ => l.length <= 100
 | _ => False
noncomputable def okNext : List TV -> Prop
 | [a, l] => onInt a fun _ => onInts l fun l => l.length <= 100
 | _ => False
noncomputable def okPassed : List TV -> Prop
 | [k, a, b, l, r] => onInt k fun k => onInt a fun _ => onInt b fun _ => onInts l fun l => onLst r fun t r => t = .pair .int .byt /\ l.length <= 100 /\ r.length <= 100 /\ 0 <= k /\ k.toNat < r.length
 | _ => False
noncomputable def okRises : List TV -> Prop
 | [l, f] => onLst l fun t l => t = .byt /\ f.t = .dct .int /\ l.length <= 100
 | _ => False
noncomputable def appOk (U : Use) (f : Fn) (xs : List TV) : Prop :=
 match f with
 | .len => okLen xs
 | .abs => okAbs xs
 | .sum => okInts (fun l => l.length <= 100) xs
 | .max => okInts (fun l => l ≠ [] /\ l.length <= 100) xs
 | .range => okRange xs
 | .bytes => okInts (fun l => l.length <= 100 /\ ∀ i ∈ l, 0 <= i /\ i < 256) xs
 | .sorted => okSorted xs
 | .down => U.plain = true /\ okDown xs
 | .next => U.plain = true /\ okNext xs
 | .passed => U.passed = true /\ okPassed xs
 | .rises => U.plain = true /\ okRises xs
noncomputable def fnOf (x : Str) : Option Fn :=
 if x = "len" then some .len else if x = "abs" then some .abs else if x = "sum" then some .sum else if x = "max" then some .max
 else if x = "range" then some .range else if x = "bytes" then some .bytes else if x = "sorted" then some .sorted
 else if x = "_law_down" then some .down else if x = "_law_next" then some .next else if x = "_law_passed" then some .passed
 else if x = "_law_rises" then some .rises else none
noncomputable def allT (f : PySem.Expr -> Bool) : List PySem.Expr -> Bool
 | [] => true
 | [c] => f c
 | c :: r => f c && allT f r
noncomputable def anyT (f : PySem.Expr -> Bool) : List PySem.Expr -> Bool
 | [] => false
 | [c] => f c
 | c :: r => f c || anyT f r
section
variable (ev : Rho -> PySem.Expr -> TV) (te : Rho -> PySem.Expr -> Bool)
noncomputable def compT (elt : PySem.Expr) : List Comprehension -> Rho -> Rho -> Ty
 | [], _, ρ => (ev ρ elt).t
 | g :: gs, ρ0, ρ => compT elt gs (bindT g.target ⟨(ev ρ0 g.iter).items.t, (ev ρ0 g.iter).items.t.dflt⟩ ρ) (bindT g.target ⟨(ev ρ0 g.iter).items.t, (ev ρ0 g.iter).items.t.dflt⟩ ρ)
noncomputable def compV (elt : PySem.Expr) (t : Ty) : List Comprehension -> Rho -> Rho -> List t.den
 | [], _, ρ => [(ev ρ elt).as t]
 | g :: gs, ρ0, ρ => (ev ρ0 g.iter).items.l.flatMap fun x =>
   if allT (te (bindT g.target ⟨_, x⟩ ρ)) g.ifs then compV elt t gs (bindT g.target ⟨_, x⟩ ρ) (bindT g.target ⟨_, x⟩ ρ) else []
end
noncomputable def TV.slice (x : TV) (lo hi : Option TV) : TV :=
 match x, lo, hi with
 | ⟨.lst t, l⟩, none, some ⟨.int, k⟩ => ⟨.lst t, l.take k.toNat⟩
 | ⟨.lst t, l⟩, some ⟨.int, k⟩, none => ⟨.lst t, l.drop k.toNat⟩
 | _, _, _ => tv0
noncomputable def TV.dget (x k e : TV) : TV :=
 match x, k with
 | ⟨.dct t, f⟩, ⟨.byt, k⟩ => ⟨t, (f k).getD (e.as t)⟩
 | _, _ => tv0
noncomputable def TV.dgetOk (x k e : TV) : Prop :=
 match x, k with
 | ⟨.dct t, _⟩, ⟨.byt, _⟩ => e.t = t
 | _, _ => False
noncomputable def TV.sliceOk (x : TV) (lo hi : Option TV) : Prop :=
 match x, lo, hi with
 | ⟨.lst _, l⟩, none, some ⟨.int, k⟩ => 0 <= k /\ l.length <= 1000
 | ⟨.lst _, l⟩, some ⟨.int, k⟩, none => 0 <= k /\ l.length <= 1000
 | _, _, _ => False
mutual
noncomputable def pv : Nat -> Rho -> PySem.Expr -> TV
 | 0, _, _ => tv0
 | n + 1, ρ, e => match e with
  | .Constant c _ _ => match c with
   | .int i => ⟨.int, i⟩
   | .bool b => ⟨.bool, b⟩
   | _ => ⟨.none, ()⟩
  | .Name x _ => (ρ x).getD tv0
  | .BinOp l op r _ => (pv n ρ l).bin op (pv n ρ r)
  | .UnaryOp op x _ => (pv n ρ x).un op
  | .IfExp c a b _ => ⟨(pv n ρ a).t, if tv n ρ c then (pv n ρ a).v else (pv n ρ b).as (pv n ρ a).t⟩
  | .Compare l ops rs _ => match ops, rs with
   | [op], [r] => (pv n ρ l).cmp op (pv n ρ r)
   | _, _ => tv0
  | .List es _ => match es with
   | [] => ⟨.lst .int, []⟩
   | a :: r => ⟨.lst (pv n ρ a).t, (pv n ρ a).v :: r.map fun e => (pv n ρ e).as (pv n ρ a).t⟩
  | .Tuple es _ _ => match es with
   | [a, b] => ⟨.pair (pv n ρ a).t (pv n ρ b).t, ((pv n ρ a).v, (pv n ρ b).v)⟩
   | a :: r => ⟨.tpl (pv n ρ a).t, (pv n ρ a).v :: r.map fun e => (pv n ρ e).as (pv n ρ a).t⟩
   | [] => tv0
  | .Subscript o i _ => match i with
   | .Slice lo hi none _ => (pv n ρ o).slice (lo.map (pv n ρ)) (hi.map (pv n ρ))
   | i => (pv n ρ o).item (pv n ρ i)
  | .Call (.Name x _) args _ _ => match fnOf x with
   | some f => app f (args.map (pv n ρ))
   | none => tv0
  | .Call (.Attribute o _ _) [k, e] _ _ => (pv n ρ o).dget (pv n ρ k) (pv n ρ e)
  | .ListComp elt gens scope _ => ⟨.lst (compT (pv n) elt gens ρ (ρ.clear scope)), compV (pv n) (tv n) elt _ gens ρ (ρ.clear scope)⟩
  | _ => tv0
noncomputable def tv : Nat -> Rho -> PySem.Expr -> Bool
 | 0, _, _ => false
 | n + 1, ρ, e => match e with
  | .UnaryOp .Not x _ => !tv n ρ x
  | .BoolOp .And es _ => allT (tv n ρ) es
  | .BoolOp .Or es _ => anyT (tv n ρ) es
  | e => (pv n ρ e).truth
end
end Mine
namespace Mine
structure Step (s s' : Shared) (hc hd : PH) : Prop where
 keeps : Keeps s s'
 le : hc.le hd
 new : ∀ a o, hd a = some o -> hc a = some o \/ s.heap.get? a = none
 inn : hd.In s'.heap
theorem Keeps.old {s s' : Shared} (k : Keeps s s') : ∀ b o, s.heap.get? b = some o -> s'.heap.get? b = some o := by
 refine o21 k ?_; rintro h' tk rfl h; exact h
theorem Keeps.rfl' {s : Shared} : Keeps s s := ⟨s.heap, s.toks, rfl, fun _ _ e => e⟩
theorem Keeps.trans' {s s' s'' : Shared} (k : Keeps s s') (l : Keeps s' s'') : Keeps s s'' := by
 refine o21 k ?_; rintro h' tk rfl h
 refine o21 l ?_; rintro h'' tk' rfl h2
 exact ⟨h'', tk', rfl, fun b o e => h2 b o (h b o e)⟩
theorem Keeps.mk' {s : Shared} {h' : Heap} {tk : Nat} (h : ∀ b o, s.heap.get? b = some o -> h'.get? b = some o) : Keeps s { s with heap := h', toks := tk } := ⟨h', tk, rfl, h⟩
theorem Keeps.fresh {s s' : Shared} (k : Keeps s s') {a : Addr} (h : s'.heap.get? a = none) : s.heap.get? a = none := by
 generalize e : s.heap.get? a = zz; induction zz with
 | none => rfl
 | some o => rw [Keeps.old k _ _ e] at h; exact No.sn h
theorem Step.rfl' {s : Shared} {hc : PH} (k : hc.In s.heap) : Step s s hc hc := ⟨Keeps.rfl', PH.le.rfl, fun _ _ e => .inl e, k⟩
theorem Step.trans {s s' s'' : Shared} {hc hd he : PH} (x : Step s s' hc hd) (y : Step s' s'' hd he) : Step s s'' hc he :=
 ⟨Keeps.trans' x.keeps y.keeps, x.le.trans y.le, fun a o e => (y.new a o e).elim (fun e => x.new a o e) (fun e => .inr (Keeps.fresh x.keeps e)), y.inn⟩
theorem Step.quiet {s s' : Shared} {hc : PH} (k : hc.In s.heap) (h : Keeps s s') : Step s s' hc hc := ⟨h, PH.le.rfl, fun _ _ e => .inl e, k.keeps (Keeps.old h)⟩
theorem Step.tok {s : Shared} {hc : PH} (k : hc.In s.heap) (t : Nat) : Step s { s with toks := t } hc hc := Step.quiet k ⟨_, _, rfl, fun _ _ e => e⟩
theorem Step.put {s s' : Shared} {hc : PH} (k : hc.In s.heap) (h : Keeps s s') {a : Addr} {o : Obj} (hn : s.heap.get? a = none) (ho : s'.heap.get? a = some o) : Step s s' hc (hc.put a o) :=
 ⟨h, PH.put_le (k.none hn), fun b o' e => by
  unfold PH.put at e; split at e
  ·subst_vars; exact .inr hn
  ·exact .inl e, (k.keeps (Keeps.old h)).put ho⟩
structure StepX (X : List Addr) (s s' : Shared) (hc hd : PH) : Prop where
 same : ∃ h tk, s' = { s with heap := h, toks := tk }
 old : ∀ b o, b ∉ X -> s.heap.get? b = some o -> s'.heap.get? b = some o
 le : hc.le hd
 new : ∀ a o, hd a = some o -> hc a = some o \/ s.heap.get? a = none
 inn : hd.In s'.heap
 live : ∀ b ∈ X, (s'.heap.get? b).isSome = true
theorem StepX.trans {X : List Addr} {s s' s'' : Shared} {hc hd he : PH} (x : StepX X s s' hc hd) (y : StepX X s' s'' hd he) : StepX X s s'' hc he where
 same := by
  refine o20 x.same ?_; rintro h tk rfl
  refine o20 y.same ?_; rintro h' tk' rfl
  exact ⟨h', tk', rfl⟩
 old := fun b o hb e => y.old b o hb (x.old b o hb e)
 le := x.le.trans y.le
 new := fun a o e => by
  rcases y.new a o e with e | e
  ·exact x.new a o e
  ·refine .inr ?_
   generalize e2 : s.heap.get? a = zz; induction zz with
   | none => rfl
   | some o' =>
    by_cases ha : a ∈ X
    ·have := x.live a ha; rw [e] at this; exact No.ft this
    ·rw [x.old a o' ha e2] at e; exact No.sn e
 inn := y.inn
 live := y.live
theorem Step.toX {X : List Addr} {s s' : Shared} {hc hd : PH} (x : Step s s' hc hd) (h : ∀ b ∈ X, (s.heap.get? b).isSome = true) : StepX X s s' hc hd where
 same := o21 x.keeps fun h tk e _ => ⟨h, tk, e⟩
 old := fun b o _ e => Keeps.old x.keeps b o e
 le := x.le
 new := x.new
 inn := x.inn
 live := fun b hb => by
  refine o10 (Option.isSome_iff_exists.mp (h b hb)) fun o e => ?_
  rw [Keeps.old x.keeps b o e]; rfl
theorem StepX.mono {X Y : List Addr} {s s' : Shared} {hc hd : PH} (x : StepX X s s' hc hd) (h : ∀ b ∈ X, b ∈ Y) (hl : ∀ b ∈ Y, (s.heap.get? b).isSome = true) : StepX Y s s' hc hd where
 same := x.same
 old := fun b o hb e => x.old b o (fun hx => hb (h b hx)) e
 le := x.le
 new := x.new
 inn := x.inn
 live := fun b hb => by
  by_cases hx : b ∈ X
  ·exact x.live b hx
  ·refine o10 (Option.isSome_iff_exists.mp (hl b hb)) fun o e => ?_
   rw [x.old b o hx e]; rfl
theorem Step.then {X : List Addr} {s s' s'' : Shared} {hc hd he : PH} (x : Step s s' hc hd) (y : StepX X s' s'' hd he) (h : ∀ b ∈ X, s.heap.get? b = none) : Step s s'' hc he where
 keeps := by
  refine o21 x.keeps ?_; rintro h1 tk rfl k
  refine o20 y.same ?_; rintro h2 tk2 rfl
  refine ⟨h2, tk2, rfl, fun b o e => y.old b o (fun hb => ?_) (k b o e)⟩
  rw [h b hb] at e; exact No.ns e
 le := x.le.trans y.le
 new := fun a o e => by
  rcases y.new a o e with e | e
  ·exact x.new a o e
  ·exact .inr (Keeps.fresh x.keeps e)
 inn := y.inn
theorem StepX.out {X : List Addr} {s s' : Shared} {hc hd : PH} (x : StepX X s s' hc hd) {a : Addr} (h : hc a = none) (hl : (s.heap.get? a).isSome = true) : hd a = none := by
 generalize e : hd a = zz; induction zz with
 | none => rfl
 | some o =>
  rcases x.new a o e with e' | e'
  ·rw [h] at e'; exact No.ns e'
  ·rw [e'] at hl; exact No.ft hl
theorem Step.out {s s' : Shared} {hc hd : PH} (x : Step s s' hc hd) {a : Addr} (h : hc a = none) (hl : (s.heap.get? a).isSome = true) : hd a = none := (x.toX (X := []) (fun _ h => nomatch h)).out h hl
theorem StepX.one {s s' : Shared} {hc : PH} {a : Addr} (hI : hc.In s.heap) (h : hc a = none) (same : ∃ h tk, s' = { s with heap := h, toks := tk }) (k : ∀ b o, b ≠ a -> s.heap.get? b = some o -> s'.heap.get? b = some o) (hl : (s'.heap.get? a).isSome = true) :
  StepX [a] s s' hc hc where
 same := same
 old := fun b o hb e => k b o (fun h => hb (by simp [h])) e
 le := PH.le.rfl
 new := fun _ _ e => .inl e
 inn := fun b o e => k b o (fun hb => by subst hb; rw [h] at e; exact No.ns e) (hI b o e)
 live := fun b hb => by rw [List.mem_singleton.mp hb]; exact hl
noncomputable def Rd (env : Env) (h : Heap) (x : Str) (v : Value) : Prop :=
 (env.kindOf x = some .local /\ ∃ m, h.Ns env.locals m /\ m x = some v) \/
 (env.kindOf x = some .cell /\ ∃ c, env.cells.lookup x = some c /\ h.IsCell c (some v)) \/
 (env.kindOf x = some .free /\ (x == ("__classdict__" : Str)) = false /\ ∃ c, env.cells.lookup x = some c /\ h.IsCell c (some v))
theorem Rd.keeps {env : Env} {h h' : Heap} {x : Str} {v : Value} (r : Rd env h x v) (k : ∀ b o, h.get? b = some o -> h'.get? b = some o) : Rd env h' x v := by
 rcases r with ⟨e, m, n, hm⟩ | ⟨e, c, hc, i⟩ | ⟨e, g, c, hc, i⟩
 ·exact .inl ⟨e, m, n.keeps k, hm⟩
 ·exact .inr (.inl ⟨e, c, hc, i.keeps k⟩)
 ·exact .inr (.inr ⟨e, g, c, hc, i.keeps k⟩)
theorem Rd.load {M : Model} {A : Around} {env : Env} {s : Shared} {x : Str} {v : Value} {Q : Value -> Shared -> Prop} {E : Value -> Shared -> Prop} (hk : env.scope.kind = .function) (r : Rd env s.heap x v) (h : Q v s) :
  wpAny M A (loadName env x) Q E s := by
 rcases r with ⟨e, m, n, hm⟩ | ⟨e, c, hc, i⟩ | ⟨e, g, c, hc, i⟩
 ·exact wpAny_loadName_local hk e n hm h
 ·exact wpAny_loadName_cell hk e hc i h
 ·exact wpAny_loadName_free hk e hc i h g
noncomputable def kOk : Option NameKind -> Bool
 | some .local => true
 | some .cell => true
 | some .free => true
 | _ => false
noncomputable def Sees (P : Params) (env : Env) (hc : PH) (h : Heap) (ρ : Rho) : Prop :=
 ∀ x v, kOk (env.kindOf x) = true -> ρ x = some v -> ∃ cv, Rd env h x cv /\ Rep P hc v.t v.v cv
theorem Sees.step {P : Params} {env : Env} {s s' : Shared} {hc hd : PH} {ρ : Rho} (x : Sees P env hc s.heap ρ) (k : Step s s' hc hd) : Sees P env hd s'.heap ρ :=
 fun y v h1 h2 => let ⟨cv, r, p⟩ := x y v h1 h2; ⟨cv, r.keeps (Keeps.old k.keeps), p.mono k.le⟩
structure FA where
 kx : Frag
 lcas : Addr
 work : Addr
 wInit : Addr
 wAdd : Addr
 wGet : Addr
 wIter : Addr
 down : Addr
 next : Addr
 passed : Addr
 rises : Addr
 cLcas : Addr
 tLcas : Addr
 cLaw : Addr
 tLaw : Addr
 dLcas : Addr
noncomputable def Fn.val (F : FA) : Fn -> Value
 | .len => .builtin "len"
 | .abs => .builtin "abs"
 | .sum => .builtin "sum"
 | .max => .builtin "max"
 | .range => .type "range"
 | .bytes => .type "bytes"
 | .sorted => .builtin "sorted"
 | .down => .ref F.down
 | .next => .ref F.next
 | .passed => .ref F.passed
 | .rises => .ref F.rises
noncomputable def Fn.str : Fn -> Str
 | .len => "len"
 | .abs => "abs"
 | .sum => "sum"
 | .max => "max"
 | .range => "range"
 | .bytes => "bytes"
 | .sorted => "sorted"
 | .down => "_law_down"
 | .next => "_law_next"
 | .passed => "_law_passed"
 | .rises => "_law_rises"
theorem fnOf_str {x : Str} {f : Fn} (h : fnOf x = some f) : x = f.str := by
 unfold fnOf at h
 repeat' split at h
 all_goals first | (obtain rfl := Option.some.inj h; assumption) | exact No.ns h
noncomputable def FA.more (F : FA) : List (Str × Value) :=
 [("zip", .type "zip"), ("set", .type "set"), ("KeyError", .type "KeyError"), ("_find_lcas", .ref F.lcas), ("WorkList", .ref F.work), ("heappush", .builtin "_heapq.heappush"), ("heappop", .builtin "_heapq.heappop")]
structure Bas (F : FA) (h : Heap) : Prop where
 glob : ∃ mg mb, h.Ns mainGlobals mg /\ h.Ns builtinsNs mb /\ (∀ f : Fn, (mg f.str).or (mb f.str) = some (f.val F)) /\ ∀ p ∈ F.more, (mg p.1).or (mb p.1) = some p.2
 nolimit : h.NoLimit
theorem Bas.keeps {F : FA} {h h' : Heap} (x : Bas F h) (k : ∀ b o, h.get? b = some o -> h'.get? b = some o) : Bas F h' :=
 ⟨o22 x.glob fun mg mb a b c => ⟨mg, mb, a.keeps k, b.keeps k, c⟩, x.nolimit.keeps k⟩
structure EnvOk (env : Env) : Prop where
 kind : env.scope.kind = .function
 glob : env.globals = mainGlobals
 bui : env.builtins = builtinsNs
 cells : ∀ x, (env.kindOf x = some .cell \/ env.kindOf x = some .free) -> (env.cells.lookup x).isSome = true
structure AOk (A : Around) (d : Nat) : Prop where
 handled : A.handled = none
 depth : A.depth + d + 100 < recursionLimit
 units : A.units + 10 * d + 300 < cLine
theorem AOk.mono {A : Around} {d e : Nat} (x : AOk A d) (h : e <= d) : AOk A e := ⟨x.handled, by have := x.depth; lia, by have := x.units; lia⟩
theorem AOk.deeper {A : Around} {d : Nat} {env : Env} (x : AOk A (d + 1)) : AOk (A.deeper env) d :=
 ⟨x.handled, by have := x.depth; simp only [depth_deeper]; lia, by have := x.units; simp only [Around.deeper_units]; lia⟩
theorem AOk.in1 {A : Around} {d : Nat} (x : AOk A (d + 1)) : AOk A.in1 d :=
 ⟨x.handled, by have := x.depth; simp only [Around.in1_depth]; lia, by have := x.units; simp only [Around.in1_units]; lia⟩
theorem load_glob {M : Model} {A : Around} {env : Env} {s : Shared} {x : Str} {v : Value} {mg mb : Str -> Option Value} {Q : Value -> Shared -> Prop} {E : Value -> Shared -> Prop} (hg : s.heap.Ns mainGlobals mg) (hb : s.heap.Ns builtinsNs mb)
  (hf : (mg x).or (mb x) = some v) (O : EnvOk env) (hk : env.kindOf x = some .globalImplicit) (h : Q v s) : wpAny M A (loadName env x) Q E s := by
 unfold loadName
 simp only [Env.blockKind, O.kind, hk, ScopeKind.isAnnotationScope, Bool.false_and, Bool.false_eq_true, if_false]
 unfold loadGlobal
 rw [O.glob, O.bui]
 refine wpAny_bind (wpAny_nsGet hg ?_)
 generalize e : mg x = zz; induction zz with
 | some v => rw [e] at hf; simp at hf; subst hf; exact wpAny_pure h
 | none =>
  rw [e] at hf; simp at hf
  refine wpAny_bind (wpAny_nsGet hb ?_)
  rw [hf]; exact wpAny_pure h
theorem load_fn {M : Model} {A : Around} {F : FA} {env : Env} {s : Shared} {f : Fn} {Q : Value -> Shared -> Prop} {E : Value -> Shared -> Prop} (B : Bas F s.heap) (O : EnvOk env) (hk : env.kindOf f.str = some .globalImplicit)
  (h : Q (f.val F) s) : wpAny M A (loadName env f.str) Q E s :=
 o23 B.glob fun _ _ hg hb hf _ =>
 load_glob hg hb (hf f) O hk h
theorem load_more {M : Model} {A : Around} {F : FA} {env : Env} {s : Shared} {p : Str × Value} {Q : Value -> Shared -> Prop} {E : Value -> Shared -> Prop} (B : Bas F s.heap) (O : EnvOk env) (hp : p ∈ F.more) (hk : env.kindOf p.1 = some .globalImplicit)
  (h : Q p.2 s) : wpAny M A (loadName env p.1) Q E s :=
 o23 B.glob fun _ _ hg hb _ hf =>
 load_glob hg hb (hf p hp) O hk h
noncomputable abbrev Kinds := Str -> Option NameKind
noncomputable def scopeOk (κ : Kinds) (scope : Scope) : Bool :=
 scope.kind == .function && scope.names.all fun y => y.2 != .cell && (y.2 != .local || scope.names.lookup y.1 == some .local) &&
  (y.2 != .free || ((κ y.1 == some .cell || κ y.1 == some .free) && !(y.1 == ("__classdict__" : Str))))
noncomputable def kindsIn (κ : Kinds) (scope : Scope) : Kinds := fun x => (scope.names.map fun (n, k) => if (k == .free && κ n == some .cell) then (n, NameKind.cell) else (n, k)).lookup x
noncomputable def Ty.isPair : Ty -> Bool
 | .pair _ _ => true
 | _ => false
noncomputable def targetOk (scope : Scope) (t : Ty) (tg : PySem.Expr) : Bool := match tgOf tg with
 | some (n, none) => scope.names.lookup n == some .local
 | some (n, some m) => scope.names.lookup n == some .local && scope.names.lookup m == some .local && n != m && t.isPair
 | none => false
noncomputable def tnames (tg : PySem.Expr) : List Str := match tgOf tg with
 | some (n, none) => [n]
 | some (n, some m) => [n, m]
 | none => []
noncomputable def AllE (P : PySem.Expr -> Prop) : List PySem.Expr -> Prop
 | [] => True
 | e :: r => P e /\ AllE P r
theorem AllE.mem {P : PySem.Expr -> Prop} : ∀ {l : List PySem.Expr}, AllE P l -> ∀ e ∈ l, P e
 | _ :: _, h, _, .head _ => h.1
 | _ :: _, h, e, .tail _ he => AllE.mem h.2 e he
noncomputable def plainOk : PySem.Expr -> Bool
 | .Starred .. => false
 | _ => true
section
variable (ck : Kinds -> Rho -> PySem.Expr -> Prop) (ct : Kinds -> Rho -> PySem.Expr -> Prop) (ev : Rho -> PySem.Expr -> TV) (te : Rho -> PySem.Expr -> Bool)
noncomputable def testsOk (κ : Kinds) (ρ : Rho) : List PySem.Expr -> Prop
 | [] => True
 | c :: r => ct κ ρ c /\ (te ρ c = true -> testsOk κ ρ r)
noncomputable def anyOk (κ : Kinds) (ρ : Rho) : List PySem.Expr -> Prop
 | [] => True
 | c :: r => ct κ ρ c /\ (te ρ c = false -> anyOk κ ρ r)
noncomputable def compOk1 (κ' : Kinds) (scope : Scope) (elt : PySem.Expr) (t : Ty) (g : Comprehension) (ρ0 ρ : Rho) : Prop :=
 (ev ρ0 g.iter).itemsOk /\ targetOk scope (ev ρ0 g.iter).items.t g.target = true /\ g.is_async = 0 /\
 ∀ x ∈ (ev ρ0 g.iter).items.l, testsOk ct te κ' (bindT g.target ⟨_, x⟩ ρ) g.ifs /\
  (allT (te (bindT g.target ⟨_, x⟩ ρ)) g.ifs = true -> ck κ' (bindT g.target ⟨_, x⟩ ρ) elt /\ (ev (bindT g.target ⟨_, x⟩ ρ) elt).t = t)
noncomputable def compOk (κ : Kinds) (scope : Scope) (elt : PySem.Expr) (ρ : Rho) : List Comprehension -> Prop
 | [g] => scopeOk κ scope = true /\ ck κ ρ g.iter /\ compOk1 ck ct ev te (kindsIn κ scope) scope elt (compT ev elt [g] ρ (ρ.clear scope)) g ρ (ρ.clear scope)
 | [g, g'] => scopeOk κ scope = true /\ ck κ ρ g.iter /\ (ev ρ g.iter).itemsOk /\ targetOk scope (ev ρ g.iter).items.t g.target = true /\ g.is_async = 0 /\ g.ifs = [] /\ g'.is_async = 0 /\ (tnames g'.target).all (fun y => !(tnames g.target).contains y) = true /\
   ∀ x ∈ (ev ρ g.iter).items.l, ck (kindsIn κ scope) (bindT g.target ⟨_, x⟩ (ρ.clear scope)) g'.iter /\
    compOk1 ck ct ev te (kindsIn κ scope) scope elt (compT ev elt [g, g'] ρ (ρ.clear scope)) g' (bindT g.target ⟨_, x⟩ (ρ.clear scope)) (bindT g.target ⟨_, x⟩ (ρ.clear scope))
 | _ => False
end
mutual
noncomputable def pk (U : Use) : Nat -> Kinds -> Rho -> PySem.Expr -> Prop
 | 0, _, _, _ => False
 | n + 1, κ, ρ, e => match e with
  | .Constant c _ _ => match c with
   | .int _ => True
   | .bool _ => True
   | .none => True
   | _ => False
  | .Name x _ => kOk (κ x) = true /\ (ρ x).isSome = true /\ (x == ("__debug__" : Str)) = false
  | .BinOp l op r _ => pk U n κ ρ l /\ pk U n κ ρ r /\ (pv n ρ l).binOk op (pv n ρ r)
  | .UnaryOp op x _ => pk U n κ ρ x /\ (pv n ρ x).unOk op
  | .IfExp c a b _ => tk U n κ ρ c /\ (tv n ρ c = true -> pk U n κ ρ a) /\ (tv n ρ c = false -> pk U n κ ρ b /\ (pv n ρ b).t = (pv n ρ a).t)
  | .Compare l ops rs _ => match ops, rs with
   | [op], [r] => pk U n κ ρ l /\ pk U n κ ρ r /\ (pv n ρ l).cmpOk op (pv n ρ r)
   | _, _ => False
  | .List es _ => match es with
   | [] => True
   | a :: r => plainOk a = true /\ pk U n κ ρ a /\ AllE (fun e => plainOk e = true /\ pk U n κ ρ e /\ (pv n ρ e).t = (pv n ρ a).t) r /\ decide (r.length <= 1000) = true
  | .Tuple es _ _ => match es with
   | [a, b] => plainOk a = true /\ plainOk b = true /\ pk U n κ ρ a /\ pk U n κ ρ b
   | a :: r => plainOk a = true /\ pk U n κ ρ a /\ AllE (fun e => plainOk e = true /\ pk U n κ ρ e /\ (pv n ρ e).t = (pv n ρ a).t) r /\ decide (r.length <= 1000) = true
   | [] => False
  | .Subscript o i _ => match o with
   | .Name .. => match i with
    | .Slice none (some k) none _ => pk U n κ ρ o /\ pk U n κ ρ k /\ (pv n ρ o).sliceOk none (some (pv n ρ k))
    | .Slice (some k) none none _ => pk U n κ ρ o /\ pk U n κ ρ k /\ (pv n ρ o).sliceOk (some (pv n ρ k)) none
    | .Slice .. => False
    | i => pk U n κ ρ o /\ pk U n κ ρ i /\ (pv n ρ o).itemOk (pv n ρ i)
   | _ => False
  | .Call (.Name x _) args kws _ => match fnOf x with
   | some f => κ x = some .globalImplicit /\ (x == ("__debug__" : Str)) = false /\ kws.length = 0 /\ AllE (fun e => plainOk e = true /\ pk U n κ ρ e) args /\ appOk U f (args.map (pv n ρ))
   | none => False
  | .Call (.Attribute o m apos) args kws pos => match o, args with
   | .Name .., [k, e] => m = ("get" : Str) /\ kws.length = 0 /\ plainOk k = true /\ plainOk e = true /\ (apos.endLine == pos.line) = true /\ pk U n κ ρ o /\ pk U n κ ρ k /\ pk U n κ ρ e /\ (pv n ρ o).dgetOk (pv n ρ k) (pv n ρ e)
   | _, _ => False
  | .ListComp elt gens scope _ => compOk (pk U n) (tk U n) (pv n) (tv n) κ scope elt ρ gens
  | _ => False
noncomputable def tk (U : Use) : Nat -> Kinds -> Rho -> PySem.Expr -> Prop
 | 0, _, _, _ => False
 | n + 1, κ, ρ, e => match e with
  | .UnaryOp .Not x _ => tk U n κ ρ x
  | .BoolOp .And es _ => testsOk (tk U n) (tv n) κ ρ es
  | .BoolOp .Or es _ => anyOk (tk U n) (tv n) κ ρ es
  | .IfExp .. => False
  | e => pk U n κ ρ e /\ (pv n ρ e).truthOk
end
end Mine
namespace Mine
section
variable {prog : Program} {w : World} {A : Around} {s : Shared} {hc : PH}
noncomputable def Gives (prog : Program) (w : World) (A : Around) (m : Sem Value) (s : Shared) (hc : PH) (t : Ty) (x : t.den) : Prop :=
 ∀ (Q : Value -> Shared -> Prop) (E : Value -> Shared -> Prop), (∀ s' hd cv, Step s s' hc hd -> Rep w.params hd t x cv -> Q cv s') -> wpAny (model prog w) A m Q E s
noncomputable def GivesB (prog : Program) (w : World) (A : Around) (m : Sem Bool) (s : Shared) (hc : PH) (b : Bool) : Prop :=
 ∀ (Q : Bool -> Shared -> Prop) (E : Value -> Shared -> Prop), (∀ s' hd, Step s s' hc hd -> Q b s') -> wpAny (model prog w) A m Q E s
theorem rep_int {P : Params} {i : Int} {k : Tok} : Rep P hc .int i (.int i k) := ⟨k, rfl⟩
theorem noPy {b : Int} (a : Int) (h : b.natAbs < 2 ^ 28) : Builtin.divisionGoesByPylong a b = false := by
 refine PyProof.noPylong_small ?_
 lia
theorem iop_gives {op : Operator} {a b : Int} {t u : Tok} (hA : AOk A 0) (hI : hc.In s.heap) (ok : iopOk op a b) :
  Gives prog w A (binaryOp op (.int a t) (.int b u)) s hc .int (iop op a b) := by
 intro Q E h
 have step : ∀ {r : Int}, (∀ s' hd cv, Step s s' hc hd -> Rep w.params hd .int r cv -> Q cv s') -> Q (.int r s.toks) { s with toks := s.toks + 1 } :=
  fun h => h _ _ _ (Step.tok hI _) rep_int
 rcases op with ⟨⟩ <;> try exact ok.elim
 ·exact add_int (step h)
 ·exact PyProof.Rows.sub_int (step h)
 ·refine PyProof.Rows.mul_int (step h) (IntMulOk.of_left ?_)
  have : a.natAbs < 2 ^ 60 := ok
  unfold Builtin.Int.intBits
  by_cases h0 : a = 0
  ·subst h0; decide
  ·have h1 : a.natAbs.log2 < 60 := (Nat.log2_lt (by lia)).mpr this
   split <;> (first | lia | omega)
 ·exact PyProof.Rows.mod_int' ok (step h)
 ·refine o02 ok fun h1 h2 h3 => ?_
  exact lshift_int_small h2 h3 (by
   have : (2:Nat) ^ 60 <= 2 ^ 64 := by decide
   lia) (step h)
 ·exact rshift_int ok (step h)
 ·exact or_int (step h)
 ·exact and_int (step h)
 ·refine o01 ok fun h1 h2 => ?_
  exact floordiv_int_or hA.handled (fun e => absurd e h1) (fun _ => step h) fun _ => .inl (noPy _ h2)
theorem lst_new {P : Params} {s s' : Shared} {t : Ty} {l : List t.den} {vs : List Value} (hI : hc.In s.heap) (k : Keeps s s') (hn : s.heap.get? s.heap.objs.size = none)
  {n : Nat} (ho : s'.heap.get? s.heap.objs.size = some { cls := .type "list", data := .seq vs.toArray n }) (r : Rel2 (Rep P hc t) l vs) :
  ∃ hd, Step s s' hc hd /\ Rep P hd (.lst t) l (.ref s.heap.objs.size) :=
 ⟨_, Step.put hI k hn ho, _, vs, rfl, ⟨_, n, PH.put_self, rfl, rfl⟩, r.mono fun _ _ x => x.mono (PH.put_le (hI.none hn))⟩
theorem free_size (h : Heap) : h.get? h.objs.size = none := by
 generalize e : h.get? h.objs.size = zz; induction zz with
 | none => rfl
 | some o => exact absurd (Heap.lt_size e) (Nat.lt_irrefl _)
theorem cat_gives {t : Ty} {l m : List t.den} {x y : Value} (hI : hc.In s.heap) (rx : Rep w.params hc (.lst t) l x) (ry : Rep w.params hc (.lst t) m y) (hz : l.length + m.length <= 1000) :
  Gives prog w A (binaryOp .Add x y) s hc (.lst t) (l ++ m) := by
 refine o22 rx ?_; rintro a vs rfl oa ra
 refine o22 ry ?_; rintro b us rfl ob rb
 intro Q E h
 have hla := ra.length
 have hlb := rb.length
 refine o12 (id (oa.isList hI)) ?_; rintro ⟨cls, dd, data, sl⟩ ho hcl zz; refine o10 zz ?_; rintro n hd
 refine o12 (id (ob.isList hI)) ?_; rintro ⟨cls2, dd2, data2, sl2⟩ ho2 hcl2 zz; refine o10 zz ?_; rintro n2 hd2
 simp only at hcl hd hcl2 hd2
 subst hcl hd hcl2 hd2
 have e : vs.toArray ++ us.toArray = (vs ++ us).toArray := by simp
 refine concat_meets ⟨_, ho, rfl⟩ ⟨_, ho2, rfl⟩ noFill_list_add seq_list_add PySem.F.slot_list_add PySem.F.entry_list_add (PySem.F.args_list_add_2 _ _) (list_addW a b vs.toArray us.toArray n n2 dd dd2 sl sl2 (by simp only [List.size_toArray]; rw [sizeLine_eq]; lia)) ⟨ho, ho2, ?_⟩
 rw [e]
 refine o11 (lst_new (s := s) (s' := { s with heap := s.heap.push { cls := .type "list", data := .seq (vs ++ us).toArray } }) hI ⟨_, s.toks, rfl, fun _ _ e => Heap.get?_push_of_some _ e⟩ (free_size _) (Heap.get?_push_size _ rfl) (ra.append rb)) fun hd st r => ?_
 exact h _ _ _ st r
theorem bin_gives {op : Operator} {x y : TV} {cx cy : Value} (hA : AOk A 0) (hI : hc.In s.heap) (rx : Rep w.params hc x.t x.v cx) (ry : Rep w.params hc y.t y.v cy) (ok : x.binOk op y) :
  Gives prog w A (binaryOp op cx cy) s hc (x.bin op y).t (x.bin op y).v := by
 obtain ⟨t, x⟩ := x
 obtain ⟨u, y⟩ := y
 rcases t with ⟨⟩ <;> rcases u with ⟨⟩ <;> try exact ok.elim
 ·refine o10 rx ?_; rintro i rfl
  refine o10 ry ?_; rintro j rfl
  exact iop_gives hA hI ok
 ·refine o02 ok ?_; rintro rfl rfl hz
  show Gives prog w A (binaryOp .Add cx cy) s hc (.lst _) (x ++ TV.as ⟨.lst _, y⟩ (.lst _))
  rw [TV.as_self]
  exact cat_gives hI rx ry hz
theorem un_gives {op : UnaryOp} {x : TV} {cx : Value} (hI : hc.In s.heap) (rx : Rep w.params hc x.t x.v cx) (ok : x.unOk op) :
  Gives prog w A (unaryOp op cx) s hc (x.un op).t (x.un op).v := by
 obtain ⟨t, x⟩ := x
 refine o01 ok ?_; clear ok; rintro e ok
 simp only at e
 subst e
 refine o10 rx ?_; rintro i rfl
 intro Q E h
 rcases ok with rfl | rfl
 ·exact PyProof.Rows.neg_int (h _ _ _ (Step.tok hI _) rep_int)
 ·exact PyProof.Rows.invert_int (h _ _ _ (Step.tok hI _) rep_int)
theorem truth_gives {x : TV} {cx : Value} (hI : hc.In s.heap) (rx : Rep w.params hc x.t x.v cx) (ok : x.truthOk) : GivesB prog w A (truthy cx) s hc x.truth := by
 obtain ⟨t, x⟩ := x
 intro Q E h
 rcases t with ⟨⟩ <;> try exact ok.elim
 ·cases rx; exact wpAny_pure (h _ _ (Step.rfl' hI))
 ·cases rx; exact wpAny_truthy_bool (h _ _ (Step.rfl' hI))
 ·refine o10 rx ?_; rintro k rfl; exact P.truthy_int (h _ _ (Step.rfl' hI))
 ·refine o22 rx ?_; rintro a vs rfl oa ra
  have hz : vs.length <= 100000000 := Nat.le_trans (Nat.le_of_eq ra.length.symm) ok
  have := ra.length
  refine wpAny_truthy_list (oa.isList hI) (by simp only [List.size_toArray]; lia) ?_
  have e : (!vs.toArray.isEmpty) = TV.truth ⟨.lst _, x⟩ := by
   show (!vs.toArray.isEmpty) = !x.isEmpty
   rcases x with ⟨⟩ <;> rcases vs with ⟨⟩ <;> simp_all
  rw [e]
  exact h _ _ (Step.tok hI _)
namespace B
theorem slot_lt : Slot "bytes" (cmpInfo .Lt).2.1 "bytes.__lt__" :=
 .of (owner := "bytes") (n := "__lt__") (by rw [typeLookup_type, builtinLookup_eq_fast]; kernel_rfl) (by decide +kernel) (by decide +kernel) (by decide +kernel)
  (by first | exact .inl (by decide +kernel) | exact .inr (by decide +kernel)) (by rw [isSubtype_type]; kernel_rfl)
theorem entry_lt : entryFor table "bytes.__lt__" = some Builtin.«bytes.__lt__» := entryFor_of_tree (by kernel_rfl)
theorem args_lt (a b : Value) : argsOk "bytes.__lt__" ⟨[a, b], []⟩ := by
 unfold argsOk; rw [signature?_of (id := "bytes.__lt__") (n := ['_', '_', 't', 'l', '_', '_']) (o := ['s', 'e', 't', 'y', 'b']) (by kernel_rfl) FB.owner_bytes]; kernel_rfl
theorem gives_lt (b c : Array UInt8) (t u : Tok) : PySem.Gives (Builtin.«bytes.__lt__» ⟨[.bytes b t, .bytes c u], []⟩) (.val (.bool (bltb b.toList c.toList))) := by
 refine .of_wp fun M A E s Q hq => ?_
 show wpAny M A (isInstance (.bytes c u) (.type "bytes") >>= fun r => _) _ E s
 refine wpAny_bind (wpAny_isInstance (typeIs_bytes s c u) PySem.F.sub_bytes_bytes ?_)
 exact wpAny_pure ⟨_, rfl, hq⟩
theorem lt_bytes {E : Value -> Shared -> Prop} {b c : Array UInt8} {t u : Tok} {Q : Value -> Shared -> Prop} (h : Q (.bool (bltb b.toList c.toList)) s) : wpAny (model prog w) A (richCompare .Lt (.bytes b t) (.bytes c u)) Q E s :=
 compareOp_gives (op := .Lt) (typeIs_bytes s b t) (typeIs_bytes s c u) slot_lt entry_lt (args_lt _ _) (gives_lt b c t u) (fun e => nomatch e) h
end B
theorem Rep.inj {P : Params} {hc : PH} {t : Ty} : t.eqv = true -> ∀ {x y : t.den} {v : Value}, Rep P hc t x v -> Rep P hc t y v -> x = y := by
 induction t with
 | int => exact fun _ _ _ _ r r' => o10 r fun _ e => o10 r' fun _ e' => (Value.int.inj (e.symm.trans e')).1
 | byt => exact fun _ _ _ _ r r' => o10 r fun _ e => o10 r' fun _ e' => (Array.mk.inj (Value.bytes.inj (e.symm.trans e')).1)
 | lst t ih =>
  intro h x y v q q'
  refine o22 q fun a vs e o r => o22 q' fun b us e' o' r' => ?_
  clear q q'
  cases e.symm.trans e'
  refine o22 o fun o1 n1 h1 _ h3 => o22 o' fun o2 n2 h4 _ h6 => ?_
  rw [Option.some.inj (h1.symm.trans h4), h6] at h3
  obtain rfl := Array.mk.inj (Data.seq.inj h3).1
  clear h1 h3 h4 h6 o o' e e'
  induction r generalizing y with
  | nil => cases r'; rfl
  | cons r1 _ ih2 =>
   cases r' with
   | cons r2 r3 => rw [ih h r1 r2, ih2 r3]
 | _ => exact fun h => No.ft h
noncomputable def Ty.dep : Ty -> Nat
 | .lst t => t.dep + 1
 | _ => 0
open Classical in
noncomputable def sameAt {α : Type} (x y : List α) (j : Nat) : Bool := decide (x[j]? = y[j]?)
theorem sameAt_all {α : Type} {x y : List α} (h : x.length = y.length) : ((List.range x.length).all (sameAt x y)) = true ↔ x = y := by
 rw [List.all_eq_true]
 constructor
 ·intro k
  refine List.ext_getElem? fun i => ?_
  rcases Nat.lt_or_ge i x.length with hi | hi
  ·have := k i (List.mem_range.mpr hi)
   simpa [sameAt] using this
  ·rw [List.getElem?_eq_none hi, List.getElem?_eq_none (h ▸ hi)]
 ·rintro rfl i _
  simp [sameAt]
open SeqAt in
theorem lists_eq {t : Ty} {x y : List t.den} {vs us : List Value} (hu : A.units < cLine) (ra : Rel2 (Rep w.params hc t) x vs) (rb : Rel2 (Rep w.params hc t) y us)
  (el : ∀ a b ca cb, Rep w.params hc t a ca -> Rep w.params hc t b cb -> ∃ k, (k = true ↔ a = b) /\ EqAt A.in1 s ca cb k) {a b : Addr} (ha : s.heap.IsList a vs.toArray) (hb : s.heap.IsList b us.toArray) :
  ∃ k, (k = true ↔ x = y) /\ RcAt A s (.ref a) (.ref b) k /\ RcNeAt A s (.ref a) (.ref b) (!k) := by
 have hx := ra.length
 have hy := rb.length
 by_cases hl : vs.length = us.length
 ·refine ⟨(List.range x.length).all (sameAt x y), sameAt_all (by lia), ?_, ?_⟩
  ·have e : x.length = vs.toArray.size := by simp [hx]
   rw [e]
   exact RcAt.lists ha hb (by simpa using hl) hu fun j h1 h2 => by
    refine o11 (ra.get' (i := j) (b := vs.toArray[j]) (by simp [List.getElem?_eq_getElem (by simpa using h1 : j < vs.length)])) fun p hp r1 => ?_
    refine o11 (rb.get' (i := j) (b := us.toArray[j]) (by simp [List.getElem?_eq_getElem (by simpa using h2 : j < us.length)])) fun q hq r2 => ?_
    refine o11 (el _ _ _ _ r1 r2) fun k hk hE => ?_
    have : k = sameAt x y j := by
     rw [Bool.eq_iff_iff, hk]; simp [sameAt, hp, hq]
    rw [<- this]; exact hE
  ·have e : x.length = vs.toArray.size := by simp [hx]
   rw [e]
   exact RcNeAt.lists ha hb (by simpa using hl) hu fun j h1 h2 => by
    refine o11 (ra.get' (i := j) (b := vs.toArray[j]) (by simp [List.getElem?_eq_getElem (by simpa using h1 : j < vs.length)])) fun p hp r1 => ?_
    refine o11 (rb.get' (i := j) (b := us.toArray[j]) (by simp [List.getElem?_eq_getElem (by simpa using h2 : j < us.length)])) fun q hq r2 => ?_
    refine o11 (el _ _ _ _ r1 r2) fun k hk hE => ?_
    have : k = sameAt x y j := by
     rw [Bool.eq_iff_iff, hk]; simp [sameAt, hp, hq]
    rw [<- this]; exact hE
 ·refine ⟨false, by simp; rintro rfl; lia, RcAt.lists_lengths ha hb (by simpa using hl) hu, RcNeAt.lists_lengths ha hb (by simpa using hl) hu⟩
open SeqAt in
theorem eq_at (hI : hc.In s.heap) {t : Ty} : t.eqv = true -> ∀ {A : Around}, A.units + t.dep < cLine -> ∀ {x y : t.den} {cx cy : Value}, Rep w.params hc t x cx -> Rep w.params hc t y cy ->
  ∃ k, (k = true ↔ x = y) /\ EqAt A s cx cy k := by
 induction t with
 | int => exact fun _ A _ x y _ _ r r' => o10 r fun _ e => o10 r' fun _ e' => ⟨decide ((x : Int) = y), decide_eq_true_iff, fun prog w E Q h => e ▸ e' ▸ wpAny_eqBool_int h⟩
 | byt => exact fun _ A _ x y _ _ r r' => o10 r fun _ e => o10 r' fun _ e' => ⟨decide ((x : List UInt8) = y), decide_eq_true_iff, fun prog w E Q h => e ▸ e' ▸ eqBool_bytes (by simpa using h)⟩
 | lst t ih =>
  intro ht A hu x y cx cy rx ry
  refine o22 rx fun a vs e oa ra => o22 ry fun b us e' ob rb => ?_
  rw [e, e']
  by_cases hab : a = b
  ·subst hab
   exact ⟨true, iff_of_true rfl (Rep.inj (t := .lst t) ht rx (e'.trans e.symm ▸ ry)), EqAt.same _⟩
  ·refine o12 (lists_eq (A := A) (Nat.lt_of_le_of_lt (Nat.le_add_right _ _) hu) ra rb (fun p q cp cq r1 r2 => ih ht (A := A.in1) (by
    simp only [Around.in1_units]; simp only [Ty.dep] at hu; (first | lia | omega)) r1 r2) (oa.isList hI) (ob.isList hI)) fun k h1 h2 _ => ?_
   exact ⟨k, h1, EqAt.of_refs hab h2⟩
 | _ => exact fun h => No.ft h
theorem beqv_iff : ∀ {t : Ty} (x y : t.den), (t = .int \/ t = .byt \/ t = .lst .int \/ t = .lst .byt \/ t = .lst (.lst .byt)) -> (t.beqv x y = true ↔ x = y) := by
 rintro t x y (rfl | rfl | rfl | rfl | rfl)
 ·exact beq_iff_eq
 ·exact beq_iff_eq
 ·exact decide_eq_true_iff
 ·exact decide_eq_true_iff
 ·exact decide_eq_true_iff
theorem lst_cmp {t : Ty} {x y : List t.den} {cx cy : Value} (hA : AOk A 0) (hI : hc.In s.heap) (ht : t.eqv = true) (hd : t.dep <= 5) (rx : Rep w.params hc (.lst t) x cx) (ry : Rep w.params hc (.lst t) y cy)
  {b : Bool} (hb : b = true ↔ x = y) {op : CmpOp} (ho : op = .Eq \/ op = .NotEq) {Q : Value -> Shared -> Prop} {E : Value -> Shared -> Prop} (h : Q (.bool (match op with | .NotEq => !b | _ => b)) s) :
  wpAny (model prog w) A (compareOp op cx cy) Q E s := by
 refine o22 rx ?_; rintro a vs rfl oa ra
 refine o22 ry ?_; rintro c us rfl oc rb
 have hu := hA.units
 refine o12 (lists_eq (A := A) (s := s) (by (first | lia | omega)) ra rb (fun p q cp cq r1 r2 => eq_at hI ht (A := A.in1) (by
    simp only [Around.in1_units]; (first | lia | omega)) r1 r2) (oa.isList hI) (oc.isList hI)) fun k h1 h2 h3 => ?_
 have e : k = b := by rw [Bool.eq_iff_iff, h1, hb]
 subst e
 rcases ho with rfl | rfl
 ·exact h2 prog w E Q h
 ·exact h3 prog w E Q h
end
end Mine
namespace Mine
section
variable {prog : Program} {w : World} {A : Around} {s : Shared} {hc : PH}
open SeqAt AutoSeq1 in
theorem pair_ltAt (l b : Addr) (p q p' q' : Value) (n n2 : Nat) (dd dd2 : Option Addr) (sl sl2 : Array (Option Value)) (e0 e1 : Bool) :
  Meets (Builtin.«tuple.__lt__» ⟨[.ref l, .ref b], []⟩)
   (fun A R s => s.heap.get? l = some { cls := .type "tuple", dict := dd, data := .seq #[p, q] n, slots := sl } /\ s.heap.get? b = some { cls := .type "tuple", dict := dd2, data := .seq #[p', q'] n2, slots := sl2 } /\
    EqAt A.in1 s p p' e0 /\ EqAt A.in1 s q q' e1 /\
    (if e0 then (if e1 then R (.ok (.ret (.bool false))) s else ∃ r, (∀ (prog : Program) (w : World) (E : Value -> Shared -> Prop) (Q : Value -> Shared -> Prop), Q (.bool r) s -> wpAny (model prog w) A.in1 (richCompare .Lt q q') Q E s) /\ R (.ok (.ret (.bool r))) s)
     else ∃ r, (∀ (prog : Program) (w : World) (E : Value -> Shared -> Prop) (Q : Value -> Shared -> Prop), Q (.bool r) s -> wpAny (model prog w) A.in1 (richCompare .Lt p p') Q E s) /\ R (.ok (.ret (.bool r))) s)) :=
 .of_wp fun prog w A R s h => by
  obtain ⟨hp, g, d, tk, os⟩ := s; refine o04 h ?_; clear h; rintro hl hb he0 he1 h
  have f2 := AutoSeq1.sub_tuple_tuple
  wp_walk using wpAny_loadPart' hl, wpAny_loadPart' hb, wpAny_forIn_list _ (fun rest b s' => b.1 = none /\ s' = ⟨hp, g, d, tk, os⟩ /\ (rest = [(p, p'), (q, q')] \/ (rest = [(q, q')] /\ e0 = true) \/ (rest = [] /\ e0 = true /\ e1 = true))) _
  case turn =>
   rintro ⟨y, x⟩ rest b s' ⟨hb', rfl, hz⟩
   rcases hz with hz | ⟨hz, rfl⟩ | ⟨hz, _, _⟩
   ·injection hz with hyx hrest
    cases hyx
    subst hrest
    refine wpAny_bind (he0 prog w _ _ ?_)
    induction e0 with
    | true => wp_walk; exact ⟨rfl, rfl, .inr (.inl ⟨rfl, rfl⟩)⟩
    | false =>
     refine o11 h fun r h1 h2 => ?_
     refine wpAny_bind (wpAny_rule (wpAny_bind (h1 prog w _ _ ?_)))
     wp_walk
     exact ⟨_, rfl, h2⟩
   ·injection hz with hyx hrest
    cases hyx
    subst hrest
    refine wpAny_bind (he1 prog w _ _ ?_)
    induction e1 with
    | true => wp_walk; exact ⟨rfl, rfl, .inr (.inr ⟨rfl, rfl, rfl⟩)⟩
    | false =>
     refine o11 h fun r h1 h2 => ?_
     refine wpAny_bind (wpAny_rule (wpAny_bind (h1 prog w _ _ ?_)))
     wp_walk
     exact ⟨_, rfl, h2⟩
   ·cases hz
  case fin =>
   rintro ⟨b1, b2⟩ s' ⟨hb', rfl, hz⟩
   simp only at hb'
   subst hb'
   rcases hz with hz | ⟨hz, _⟩ | ⟨_, rfl, rfl⟩
   ·cases hz
   ·cases hz
   ·wp_walk
    exact ⟨_, rfl, h⟩
  case h =>
   exact ⟨rfl, rfl, .inl rfl⟩
namespace B
theorem lt_int' {E : Value -> Shared -> Prop} {a b : Int} {t u : Tok} {Q : Value -> Shared -> Prop} (h : Q (.bool (decide (a < b))) s) : wpAny (model prog w) A (richCompare .Lt (.int a t) (.int b u)) Q E s :=
 show wpAny _ _ (compareOp .Lt _ _) _ _ _ from P.lt_int h
end B
open SeqAt in
theorem rank_lt {l b : Addr} {i j : Int} {x y : List UInt8} {ti tj : Tok} {tx ty : Tok} (hA : A.units < cLine) (hl : s.heap.IsTuple l #[.int i ti, .bytes x.toArray tx]) (hb : s.heap.IsTuple b #[.int j tj, .bytes y.toArray ty])
  {Q : Value -> Shared -> Prop} {E : Value -> Shared -> Prop} (h : Q (.bool (rankLt (i, x) (j, y))) s) : wpAny (model prog w) A (richCompare .Lt (.ref l) (.ref b)) Q E s := by
 refine o12 (id hl) ?_; rintro ⟨cls, dd, data, sl⟩ ho hcl zz; refine o10 zz ?_; rintro n hd
 refine o12 (id hb) ?_; rintro ⟨cls2, dd2, data2, sl2⟩ ho2 hcl2 zz; refine o10 zz ?_; rintro n2 hd2
 simp only at hcl hd hcl2 hd2
 subst hcl hd hcl2 hd2
 refine richCompare_meets_room (op := .Lt) ⟨_, ho, rfl⟩ ⟨_, ho2, rfl⟩ F.slot_tuple_lt F.entry_tuple_lt (F.args_tuple_lt_2 _ _) (pair_ltAt l b _ _ _ _ n n2 dd dd2 sl sl2 (decide (i = j)) (decide (x = y)))
  ⟨ho, ho2, fun prog w E Q h => wpAny_eqBool_int h, fun prog w E Q h => eqBool_bytes (by simpa using h), ?_⟩ hA
 have w' : ∀ r : Bool, r = rankLt (i, x) (j, y) -> wants (fun v s' => v ≠ .notImplemented /\ Q v s') E (.ok (.ret (.bool r))) s := fun r e => ⟨(fun x => nomatch x), by rw [e]; exact h⟩
 by_cases h1 : i = j
 ·subst h1
  by_cases h2 : x = y
  ·subst h2
   rw [if_pos (by simp), if_pos (by simp)]
   refine w' _ ?_
   have : (Builtin.Bytes.order x x == .eq) = true := by rw [order_eq]; simp
   simp only [rankLt, if_true, bltb]
   generalize Builtin.Bytes.order x x = o at this
   rcases o with ⟨⟩ <;> simp_all
  ·rw [if_pos (by simp), if_neg (by simpa using h2)]
   exact ⟨_, fun prog w E Q h => B.lt_bytes h, w' _ (by simp [rankLt])⟩
 ·rw [if_neg (by simpa using h1)]
  exact ⟨_, fun prog w E Q h => B.lt_int' h, w' _ (by simp [rankLt, h1])⟩
theorem cmp_lst {op : CmpOp} {t : Ty} {x y : (Ty.lst t).den} {cx cy : Value} (hA : AOk A 0) (hI : hc.In s.heap) (rx : Rep w.params hc (.lst t) x cx) (ry : Rep w.params hc (.lst t) y cy) (hk : t.eqK = true) (ok : op = .Eq \/ op = .NotEq)
  {Q : Value -> Shared -> Prop} {E : Value -> Shared -> Prop} (h : Q (.bool ((⟨.lst t, x⟩ : TV).cmpB op ⟨.lst t, y⟩)) s) : wpAny (model prog w) A (compareOp op cx cy) Q E s := by
 have key : t.eqv = true /\ (∀ a b : (Ty.lst t).den, (Ty.lst t).beqv a b = true ↔ a = b) := by
  rcases t with ⟨⟩ <;> first | exact No.ft hk | exact ⟨rfl, fun a b => beqv_iff (t := .lst _) a b (by simp)⟩ | skip
  rename_i t
  rcases t with ⟨⟩ <;> first | exact No.ft hk | exact ⟨rfl, fun a b => beqv_iff (t := .lst (.lst _)) a b (by simp)⟩
 have hd : t.dep <= 5 := by
  rcases t with ⟨⟩ <;> first | exact No.ft hk | decide | skip
  rename_i t
  rcases t with ⟨⟩ <;> first | exact No.ft hk | decide
 have e : y = (⟨.lst t, y⟩ : TV).as (.lst t) := (TV.as_self _ _).symm
 rcases ok with rfl | rfl
 ·exact lst_cmp (op := .Eq) hA hI key.1 hd rx ry (key.2 _ _) (.inl rfl) (by rw [e]; exact h)
 ·exact lst_cmp (op := .NotEq) hA hI key.1 hd rx ry (key.2 _ _) (.inr rfl) (by rw [e]; exact h)
theorem cmp_gives {op : CmpOp} {x y : TV} {cx cy : Value} (hA : AOk A 0) (hI : hc.In s.heap) (rx : Rep w.params hc x.t x.v cx) (ry : Rep w.params hc y.t y.v cy) (ok : x.cmpOk op y)
  {Q : Value -> Shared -> Prop} {E : Value -> Shared -> Prop} (h : Q (.bool (x.cmpB op y)) s) : wpAny (model prog w) A (compareOp op cx cy) Q E s := by
 obtain ⟨t, x⟩ := x
 obtain ⟨u, y⟩ := y
 induction t using Ty.casesOn with
 | int =>
  refine o01 ok ?_; clear ok; rintro e ok
  obtain rfl : u = .int := e
  refine o10 rx ?_; rintro i rfl
  refine o10 ry ?_; rintro j rfl
  induction op with
  | Eq => exact P.eq_int h
  | NotEq => exact P.ne_int h
  | Lt => exact P.lt_int h
  | LtE => exact P.le_int h
  | Gt => exact P.gt_int h
  | GtE => exact P.ge_int h
  | _ => exact No.ft ok
 | pair a b =>
  refine o03 ok ?_; rintro rfl rfl e2 rfl
  obtain rfl : u = .pair .int .byt := e2
  obtain ⟨x1, x2⟩ := x
  obtain ⟨y1, y2⟩ := y
  refine o33 rx ?_; rintro a p q rfl oa ⟨_, rfl⟩ ⟨_, rfl⟩
  refine o33 ry ?_; rintro c p' q' rfl oc ⟨_, rfl⟩ ⟨_, rfl⟩
  exact rank_lt (Nat.lt_of_le_of_lt (Nat.le_add_right _ (10 * 0 + 300)) hA.units) (oa.isTuple hI) (oc.isTuple hI) h
 | none =>
  refine o01 ok ?_; clear ok; rintro e ok
  obtain rfl : u = .none := e
  cases rx; cases ry
  rcases ok with rfl | rfl
  ·exact is_none_gen h
  ·exact isnot_none_gen h
 | byt =>
  refine o01 ok ?_; clear ok; rintro e ok
  obtain rfl : u = .byt := e
  refine o10 rx ?_; rintro _ rfl
  refine o10 ry ?_; rintro _ rfl
  have e : y = (⟨.byt, y⟩ : TV).as .byt := (TV.as_self _ _).symm
  rcases ok with rfl | rfl
  ·refine W.eq_bytes (by rw [e]; exact h)
  ·refine W.ne_bytes (by rw [e]; exact h)
 | lst t =>
  by_cases hu : u = .none
  ·subst hu
   refine o22 rx ?_; rintro a vs rfl _ _
   cases ry
   rcases (ok : op = .Is \/ op = .IsNot) with rfl | rfl
   ·exact is_none_gen h
   ·exact isnot_none_gen h
  ·have ok : u = .lst t /\ t.eqK = true /\ (op = .Eq \/ op = .NotEq) := by
    rcases u with ⟨⟩ <;> first | exact absurd rfl hu | exact ok
   refine o02 ok ?_; clear ok; rintro rfl hk ok
   exact cmp_lst hA hI rx ry hk ok h
 | _ => exact ok.elim
end
end Mine
namespace Mine
theorem bltb_eq : ∀ a b : List UInt8, bltb a b = decide (a < b)
 | [], [] => by simp [bltb, Builtin.Bytes.order]
 | [], _ :: _ => by simp [bltb, Builtin.Bytes.order]
 | _ :: _, [] => by simp [bltb, Builtin.Bytes.order]
 | x :: a, y :: b => by
  have ih := bltb_eq a b
  unfold bltb at *
  simp only [Builtin.Bytes.order]
  by_cases h1 : x < y
  ·simp [h1, List.cons_lt_cons_iff]
  ·by_cases h2 : x > y
   ·have h3 : x ≠ y := fun e => by subst e; exact absurd h2 (UInt8.lt_irrefl _)
    simp [h1, h2, h3, List.cons_lt_cons_iff]
   ·have h3 : x = y := UInt8.le_antisymm (UInt8.not_lt.mp h2) (UInt8.not_lt.mp h1)
    subst h3
    simp only [UInt8.lt_irrefl, if_false, gt_iff_lt, List.cons_lt_cons_iff, false_or, true_and, ih]
theorem bltb_iff {a b : List UInt8} : bltb a b = true ↔ a < b := by rw [bltb_eq]; simp
theorem blt_irrefl (a : List UInt8) : bltb a a = false := by rw [bltb_eq]; simp
theorem blt_trans {a b c : List UInt8} (h1 : bltb a b = true) (h2 : bltb b c = true) : bltb a c = true := by
 rw [bltb_iff] at *; exact List.lt_trans h1 h2
theorem blt_neg {a b c : List UInt8} (h : bltb a c = true) : bltb a b = true \/ bltb b c = true := by
 simp only [bltb_iff] at *
 by_cases hab : a < b
 ·exact .inl hab
 ·exact .inr (List.lt_of_le_of_lt (List.not_lt.mp hab) h)
theorem blt_total {a b : List UInt8} (h1 : bltb a b = false) (h2 : bltb b a = false) : a = b := by
 rw [bltb_eq] at *
 simp only [decide_eq_false_iff_not] at *
 exact List.le_antisymm (List.not_lt.mp h2) (List.not_lt.mp h1)
@[reducible] noncomputable def bytKind : PyProof.Rows.KeyKind where
 α := List UInt8
 blt := bltb
 irrefl := blt_irrefl
 trans _ _ _ := blt_trans
 negTrans _ _ _ := blt_neg
 total _ _ := blt_total
 keyOf v := match v with | .bytes x _ => some x.toList | _ => none
 dflt := []
section
variable {prog : Program} {w : World} {A : Around} {E : Value -> Shared -> Prop} {s : Shared} {hc : PH}
theorem call_bytes_lt {a b : Array UInt8} {t u : Tok} {Q : Value -> Shared -> Prop} (h : Q (.bool (bltb a.toList b.toList)) s) :
  wpAny (model prog w) A (call (.builtin "bytes.__lt__") [.bytes a t, .bytes b u]) Q E s :=
 call_gives B.slot_lt (typeIs_bytes s a t) B.entry_lt (B.args_lt _ _) (B.gives_lt a b t u) h
theorem oneLt_bytes {a b : Array UInt8} {t u : Tok} {Q : Bool -> Shared -> Prop} (h : Q (bltb a.toList b.toList) s) : wpAny (model prog w) A (oneLt' true (.bytes a t) (.bytes b u)) Q E s := by
 rw [oneLt'_eq]
 simp only [if_true]
 refine wpAny_bind (wpAny_cRoomFor_byValue rfl ?_)
 refine wpAny_bind (wpAny_callSpecialIfBound?_slot (typeIs_bytes s a t) B.slot_lt (call_bytes_lt ?_))
 exact wpAny_truthy_bool h
theorem bytKind_oneLt : bytKind.OneLt := by
 intro prog w A E s x y a b Q ha hb h
 rcases x with ⟨⟩ <;> simp only [bytKind, reduceCtorEq, Option.some.injEq] at ha
 rcases y with ⟨⟩ <;> simp only [bytKind, reduceCtorEq, Option.some.injEq] at hb
 cases ha; cases hb
 exact oneLt_bytes h
noncomputable def bytOf : Value -> List UInt8
 | .bytes x _ => x.toList
 | _ => []
noncomputable abbrev BytAre (vs : List Value) (l : List (List UInt8)) : Prop := Rel2 (fun (b : List UInt8) v => ∃ k, v = Value.bytes b.toArray k) l vs
theorem BytAre.all {vs : List Value} {l : List (List UInt8)} (r : BytAre vs l) : ∀ v ∈ vs, ∃ b k, v = Value.bytes (List.toArray b) k := by
 induction r with
 | nil => intro v hv; exact nomatch hv
 | cons h _ ih =>
  intro v hv
  rcases List.mem_cons.mp hv with rfl | hv
  ·refine o10 h fun k e => ?_; exact ⟨_, k, e⟩
  ·exact ih v hv
theorem BytAre.map {vs : List Value} {l : List (List UInt8)} (r : BytAre vs l) : vs.map bytOf = l := by
 induction r with
 | nil => rfl
 | cons h _ ih => refine o10 h ?_; rintro k rfl; rw [List.map_cons, ih]; simp [bytOf]
theorem bytAre_map : ∀ (vs : List Value), (∀ v ∈ vs, ∃ b k, v = Value.bytes (List.toArray b) k) -> BytAre vs (vs.map bytOf)
 | [], _ => .nil
 | v :: vs, h => by
  refine o20 (h v (List.mem_cons_self ..)) ?_; rintro b k rfl
  exact .cons ⟨k, by simp [bytOf]⟩ (bytAre_map vs fun u hu => h u (List.mem_cons_of_mem _ hu))
theorem mapM_first_bytes : ∀ {vs : List Value}, (∀ v ∈ vs, ∃ b k, v = Value.bytes (List.toArray b) k) -> vs.mapM firstOfTuple' = pure (vs.map fun _ => none)
 | [], _ => by simp
 | v :: vs, h => by
  refine o20 (h v (List.mem_cons_self ..)) ?_; rintro b k rfl
  rw [List.mapM_cons, show firstOfTuple' (.bytes b.toArray k) = pure none from rfl, mapM_first_bytes fun u hu => h u (List.mem_cons_of_mem _ hu)]; simp
theorem mapM_typeOf_bytes : ∀ {vs : List Value}, (∀ v ∈ vs, ∃ b k, v = Value.bytes (List.toArray b) k) -> vs.mapM typeOf = pure (vs.map fun _ => Value.type "bytes")
 | [], _ => by simp
 | v :: vs, h => by
  refine o20 (h v (List.mem_cons_self ..)) ?_; rintro b k rfl
  rw [List.mapM_cons, mapM_typeOf_bytes fun u hu => h u (List.mem_cons_of_mem _ hu)]
  show (pure (Value.type "bytes") >>= fun b => pure _ >>= fun bs => pure (b :: bs)) = _
  simp
theorem keyKind_bytes {vd vh : Value} {vs : List Value} (hS : ∀ v ∈ vd :: vh :: vs, ∃ b k, v = Value.bytes (List.toArray b) k) : keyKind' (vd :: vh :: vs).toArray = pure oneType' := by
 rw [keyKind'_eq, List.mapM_toArray, mapM_first_bytes hS]
 simp only [map_pure, pure_bind]
 rw [if_neg (by simp), if_neg (by simp)]
 rw [oneTypeOnly'_eq, List.mapM_toArray, mapM_typeOf_bytes hS]
 simp only [map_pure, pure_bind]
 have hall : ((List.map (fun _ => Value.type "bytes") (vd :: vh :: vs)).toArray.all fun x => x == Value.type "bytes") = true := by
  simp only [List.all_toArray, List.all_map, List.all_eq_true]
  intro _ _
  rfl
 have h0 : (List.map (fun _ => Value.type "bytes") (vd :: vh :: vs)).toArray[0]? = some (Value.type "bytes") := by simp
 rw [h0]
 simp only [hall, if_true, pure_bind, Option.isSome_some]
theorem KK_bytes {xs : Array Keyed} {i : Nat} (hi : i < xs.size) {x : List UInt8} {t : Tok} {q : Value} (hx : xs[i] = (.bytes x.toArray t, q)) : KK bytKind xs i = x := by
 unfold KK; rw [getElem?_pos xs i hi, hx]; simp [bytKind]
theorem sorted_out_bytes {vs : List Value} {ss : List (List UInt8)} (hS : BytAre vs ss) {xs : Array Keyed} (hp : xs.Perm (pairsOf vs)) (hs : SortedToK bytKind xs (pairsOf vs).size) :
  ∃ ss', BytAre (xs.map (·.2)).toList ss' /\ ss'.Perm ss /\ ss'.Pairwise (fun a b => bltb b a = false) := by
 have hl : xs.toList.Perm (vs.zip vs) := by rw [<- pairsOf_toList]; exact Array.perm_iff_toList_perm.mp hp
 have hmem : ∀ p, p ∈ xs.toList -> p.1 = p.2 /\ p.1 ∈ vs := fun p hp' => mem_zip_self (hl.mem_iff.mp hp')
 refine ⟨xs.toList.map (fun p => bytOf p.1), ?_, ?_, ?_⟩
 ·have e : (xs.map (·.2)).toList = xs.toList.map (·.1) := by
   rw [Array.toList_map]; exact List.map_congr_left fun p hp' => (hmem p hp').1.symm
  rw [e]
  have h1 := bytAre_map (xs.toList.map (·.1)) (by
   intro v hv
   refine o11 (List.mem_map.mp hv) ?_; rintro p hp' rfl
   exact hS.all _ (hmem p hp').2)
  rwa [List.map_map] at h1
 ·have h1 := hl.map (fun p => bytOf p.1)
  have e2 : (vs.zip vs).map (fun p => bytOf p.1) = ss := by
   have : (vs.zip vs).map (fun p => bytOf p.1) = ((vs.zip vs).map Prod.fst).map bytOf := by rw [List.map_map]; rfl
   rw [this, List.map_fst_zip (Nat.le_refl _), hS.map]
  rwa [e2] at h1
 ·rw [List.pairwise_iff_getElem]
  intro i j hi hj hij
  have hi' : i < xs.size := by simpa using hi
  have hj' : j < xs.size := by simpa using hj
  have h1 := hs i j (Nat.le_of_lt hij) (by rw [<- hp.size_eq]; exact hj')
  refine o20 (hS.all _ (hmem xs[i] (by simp)).2) fun x t ex => ?_
  refine o20 (hS.all _ (hmem xs[j] (by simp)).2) fun y u ey => ?_
  rw [KK_bytes hi' (x := x) (t := t) (q := xs[i].2) (Prod.ext ex rfl), KK_bytes hj' (x := y) (t := u) (q := xs[j].2) (Prod.ext ey rfl)] at h1
  change bltb y x = false at h1
  simp only [List.getElem_map, Array.getElem_toList]
  rw [show bytOf xs[i].1 = x by rw [ex]; simp [bytOf], show bytOf xs[j].1 = y by rw [ey]; simp [bytOf]]
  exact h1
theorem sorted_bytes {l : Addr} {vs : List Value} {ss : List (List UInt8)} {Q : Value -> Shared -> Prop} (hl : s.heap.IsList l vs.toArray) (hS : BytAre vs ss) (h64 : vs.length < 64)
  (h : ∀ (out : Array Value) (ss' : List (List UInt8)), BytAre out.toList ss' -> ss'.Perm ss -> ss'.Pairwise (fun a b => bltb b a = false) -> Q (.ref (s.heap.objs.size + 1)) { s with heap := sortedAll s.heap vs out }) :
  wpAny (model prog w) A (call (.builtin "sorted") [.ref l]) Q E s := by
 have hk : PyProof.Rows.KeysOf bytKind (pairsOf vs) := by
  intro p hp
  rw [pairsOf_toList] at hp
  refine o20 (hS.all _ (mem_zip_self hp).2) fun x t e => ?_
  exact ⟨x, by rw [e]⟩
 refine sortedK bytKind_oneLt hl hk (fun vd vh rest e => keyKind_bytes (by rw [<- e]; exact hS.all)) h64 fun st' hp hs => ?_
 refine o12 (sorted_out_bytes hS hp hs) fun ss' h1 h2 h3 => ?_
 exact h _ ss' h1 h2 h3
end
theorem insB_perm (x : List UInt8) : ∀ l, (insB x l).Perm (x :: l)
 | [] => List.Perm.refl _
 | y :: r => by
  unfold insB
  split
  ·exact List.Perm.refl _
  ·exact ((insB_perm x r).cons y).trans (List.Perm.swap ..)
theorem insB_sorted (x : List UInt8) : ∀ l : List (List UInt8), l.Pairwise (fun a b => bltb b a = false) -> (insB x l).Pairwise (fun a b => bltb b a = false)
 | [], _ => by simp [insB]
 | y :: r, h => by
  refine o01 (List.pairwise_cons.mp h) fun h1 h2 => ?_
  unfold insB
  split
  ·rename_i hxy
   refine List.pairwise_cons.mpr ⟨fun z hz => ?_, h⟩
   rcases List.mem_cons.mp hz with rfl | hz
   ·generalize e : bltb z x = zz; induction zz with
    | false => rfl
    | true => have := blt_trans hxy e; rw [blt_irrefl] at this; exact No.ft this
   ·generalize e : bltb z x = zz; induction zz with
    | false => rfl
    | true => have := blt_trans e hxy; rw [h1 z hz] at this; exact No.ft this
  ·rename_i hxy
   refine List.pairwise_cons.mpr ⟨fun z hz => ?_, insB_sorted x r h2⟩
   rcases List.mem_cons.mp ((insB_perm x r).mem_iff.mp hz) with rfl | hz
   ·simpa using hxy
   ·exact h1 z hz
theorem sortB_perm (l : List (List UInt8)) : (sortB l).Perm l := by
 show (l.foldl (fun a x => insB x a) []).Perm l
 have : ∀ (l a : List (List UInt8)), (l.foldl (fun a x => insB x a) a).Perm (l ++ a) := by
  intro l
  induction l with
  | nil => intro a; exact List.Perm.refl _
  | cons x r ih => intro a; exact (ih _).trans ((List.Perm.append_left r (insB_perm x a)).trans List.perm_middle)
 simpa using this l []
theorem sortB_sorted (l : List (List UInt8)) : (sortB l).Pairwise (fun a b => bltb b a = false) := by
 have : ∀ (l a : List (List UInt8)), a.Pairwise (fun a b => bltb b a = false) -> (l.foldl (fun a x => insB x a) a).Pairwise (fun a b => bltb b a = false) := by
  intro l
  induction l with
  | nil => intro a h; exact h
  | cons x r ih => intro a h; exact ih _ (insB_sorted x a h)
 exact this l [] .nil
theorem sorted_unique {α : Type} {R : α -> α -> Prop} (anti : ∀ a b, R a b -> R b a -> a = b) : ∀ {l m : List α}, l.Perm m -> l.Pairwise R -> m.Pairwise R -> l = m
 | [], m, p, _, _ => (List.perm_nil.mp p.symm).symm
 | x :: l, [], p, _, _ => by simpa using p.length_eq
 | x :: l, y :: m, p, h1, h2 => by
  have e : x = y := by
   refine o01 (List.pairwise_cons.mp h1) fun a1 _ => ?_
   refine o01 (List.pairwise_cons.mp h2) fun b1 _ => ?_
   rcases List.mem_cons.mp (p.mem_iff.mp List.mem_cons_self) with e | hx
   ·exact e
   ·rcases List.mem_cons.mp (p.mem_iff.mpr List.mem_cons_self) with e | hy
    ·exact e.symm
    ·exact anti _ _ (a1 _ hy) (b1 _ hx)
  subst e
  rw [sorted_unique anti (List.Perm.cons_inv p) (List.pairwise_cons.mp h1).2 (List.pairwise_cons.mp h2).2]
theorem sortB_unique {l m : List (List UInt8)} (p : m.Perm l) (h : m.Pairwise (fun a b => bltb b a = false)) : m = sortB l :=
 sorted_unique (fun _ _ h1 h2 => blt_total h2 h1) (p.trans (sortB_perm l).symm) h (sortB_sorted l)
theorem insI_perm (x : Int) : ∀ l, (insI x l).Perm (x :: l)
 | [] => List.Perm.refl _
 | y :: r => by
  unfold insI
  split
  ·exact List.Perm.refl _
  ·exact ((insI_perm x r).cons y).trans (List.Perm.swap ..)
theorem insI_sorted (x : Int) : ∀ l : List Int, l.Pairwise (· <= ·) -> (insI x l).Pairwise (· <= ·)
 | [], _ => by simp [insI]
 | y :: r, h => by
  refine o01 (List.pairwise_cons.mp h) fun h1 h2 => ?_
  unfold insI
  split
  ·rename_i hxy
   refine List.pairwise_cons.mpr ⟨fun z hz => ?_, h⟩
   rcases List.mem_cons.mp hz with rfl | hz
   ·lia
   ·have := h1 z hz; lia
  ·rename_i hxy
   refine List.pairwise_cons.mpr ⟨fun z hz => ?_, insI_sorted x r h2⟩
   rcases List.mem_cons.mp ((insI_perm x r).mem_iff.mp hz) with rfl | hz
   ·lia
   ·exact h1 z hz
theorem sortI_perm (l : List Int) : (sortI l).Perm l := by
 show (l.foldl (fun a x => insI x a) []).Perm l
 have : ∀ (l a : List Int), (l.foldl (fun a x => insI x a) a).Perm (l ++ a) := by
  intro l
  induction l with
  | nil => intro a; exact List.Perm.refl _
  | cons x r ih => intro a; exact (ih _).trans ((List.Perm.append_left r (insI_perm x a)).trans List.perm_middle)
 simpa using this l []
theorem sortI_sorted (l : List Int) : (sortI l).Pairwise (· <= ·) := by
 have : ∀ (l a : List Int), a.Pairwise (· <= ·) -> (l.foldl (fun a x => insI x a) a).Pairwise (· <= ·) := by
  intro l
  induction l with
  | nil => intro a h; exact h
  | cons x r ih => intro a h; exact ih _ (insI_sorted x a h)
 exact this l [] .nil
theorem sortI_unique {l m : List Int} (p : m.Perm l) (h : m.Pairwise (· <= ·)) : m = sortI l :=
 sorted_unique (fun a b (h1 : a <= b) h2 => Int.le_antisymm h1 h2) (p.trans (sortI_perm l).symm) h (sortI_sorted l)
theorem maxI_mem : ∀ {l : List Int}, l ≠ [] -> maxI l ∈ l /\ ∀ x ∈ l, x <= maxI l
 | [], h => absurd rfl h
 | x :: r, _ => by
  have : ∀ (r : List Int) (a : Int), (r.foldl (fun a y => if a < y then y else a) a = a \/ r.foldl (fun a y => if a < y then y else a) a ∈ r) /\ a <= r.foldl (fun a y => if a < y then y else a) a /\ ∀ x ∈ r, x <= r.foldl (fun a y => if a < y then y else a) a := by
   intro r
   induction r with
   | nil => intro a; simp
   | cons y r ih =>
    intro a
    simp only [List.foldl_cons]
    refine o02 (ih (if a < y then y else a)) fun h1 h2 h3 => ?_
    generalize r.foldl (fun a y => if a < y then y else a) (if a < y then y else a) = M at *
    refine ⟨?_, ?_, ?_⟩
    ·rcases h1 with h1 | h1
     ·split at h1
      ·exact .inr (by rw [h1]; exact List.mem_cons_self)
      ·exact .inl h1
     ·exact .inr (List.mem_cons_of_mem _ h1)
    ·split at h2 <;> (first | lia | omega)
    ·intro z hz
     rcases List.mem_cons.mp hz with rfl | hz
     ·split at h2 <;> (first | lia | omega)
     ·exact h3 z hz
  refine o02 (this r x) fun h1 h2 h3 => ?_
  show r.foldl (fun a y => if a < y then y else a) x ∈ x :: r /\ ∀ z ∈ x :: r, z <= r.foldl (fun a y => if a < y then y else a) x
  refine ⟨?_, ?_⟩
  ·rcases h1 with h1 | h1
   ·rw [h1]; exact List.mem_cons_self
   ·exact List.mem_cons_of_mem _ h1
  ·intro z hz
   rcases List.mem_cons.mp hz with rfl | hz
   ·exact h2
   ·exact h3 z hz
end Mine
namespace Mine
noncomputable def prg : Program := PySem.Challenge.pw_jq0005_01
noncomputable def cN : PySem.Expr := .Constant .none 0 default
noncomputable def fN : Str × Arguments × List Stmt × Scope := ("", { posonlyargs := [], args := [], vararg := none, kwonlyargs := [], kw_defaults := [], kwarg := none, defaults := [] }, [], default)
noncomputable def stPt : Stmt -> (Str × Arguments × List Stmt × Scope) × List Stmt × List Stmt × PySem.Expr × PySem.Expr
 | .FunctionDef n a b _ _ _ sc _ _ _ => ((n, a, b, sc), [], [], cN, cN)
 | .ClassDef _ _ _ b _ _ _ _ _ _ _ => (fN, b, [], cN, cN)
 | .Expr e _ => (fN, [], [], e, cN)
 | .Assign _ e _ => (fN, [], [], e, cN)
 | .Return e _ => (fN, [], [], e.getD cN, cN)
 | .If e b _ _ => (fN, [], b, e, cN)
 | .For t e b _ _ => (fN, [], b, e, t)
 | .While e b _ _ => (fN, [], b, e, cN)
 | .Try b _ _ _ _ => (fN, [], b, cN, cN)
 | _ => (fN, [], [], cN, cN)
noncomputable def defName (s : Stmt) : Str := (stPt s).1.1
noncomputable def defArgs (s : Stmt) : Arguments := (stPt s).1.2.1
noncomputable def defBody (s : Stmt) : List Stmt := (stPt s).1.2.2.1
noncomputable def defScope (s : Stmt) : Scope := (stPt s).1.2.2.2
noncomputable def clsBody (s : Stmt) : List Stmt := (stPt s).2.1
noncomputable def workDef (n : Str) : Stmt := ((prg.main.body.flatMap clsBody).find? fun s => defName s == n).getD (.Pass default)
noncomputable def topDef (n : Str) : Stmt := (prg.main.body.find? fun s => defName s == n).getD (.Pass default)
noncomputable def fdOf (f : Stmt) (dfl : Value) (g : FuncData) : FuncData := { g with params := defArgs f, body := .stmts (defBody f), scope := defScope f, globals := mainGlobals, closure := [], defaults := dfl, kwdefaults := .none, builtins := builtinsNs }
noncomputable def FunAt (h : Heap) (a : Addr) (f : Stmt) (dfl : Value) : Prop := ∃ o g, h.get? a = some o /\ o.data = .func (fdOf f dfl g) /\ h.CodeRec g.code g.qualname
theorem FunAt.keeps {h h' : Heap} {a : Addr} {f : Stmt} {dfl : Value} (x : FunAt h a f dfl) (k : ∀ b o, h.get? b = some o -> h'.get? b = some o) : FunAt h' a f dfl :=
 o22 x fun o g e1 e2 e3 => ⟨o, g, k _ _ e1, e2, e3.keeps k⟩
noncomputable def Fn.user : Fn -> Bool
 | .down | .next | .passed | .rises => true
 | _ => false
noncomputable def Fn.addr (F : FA) : Fn -> Addr
 | .down => F.down
 | .next => F.next
 | .passed => F.passed
 | .rises => F.rises
 | _ => 0
structure Wk (F : FA) : Prop where
 makes : makesIn F.kx F.work = true
 keep : keepIn F.kx (.ref F.work) = true
 init : findIn F.kx (.ref F.work) "__init__" = some (some (.ref F.wInit))
 add : findIn F.kx (.ref F.work) "add" = some (some (.ref F.wAdd))
 get : findIn F.kx (.ref F.work) "get" = some (some (.ref F.wGet))
 iter : findIn F.kx (.ref F.work) "iter" = some (some (.ref F.wIter))
 pq : findIn F.kx (.ref F.work) "pq" = some none
 fInit : typeIn F.kx (.ref F.wInit) = some (.type "function")
 fAdd : typeIn F.kx (.ref F.wAdd) = some (.type "function")
 fGet : typeIn F.kx (.ref F.wGet) = some (.type "function")
 fIter : typeIn F.kx (.ref F.wIter) = some (.type "function")
 getattribute : findIn F.kx (.ref F.work) "__getattribute__" = some (some (.builtin "object.__getattribute__"))
 getattr : findIn F.kx (.ref F.work) "__getattr__" = some none
 setattr : findIn F.kx (.ref F.work) "__setattr__" = some (some (.builtin "object.__setattr__"))
 plain : plainOver F.kx F.work = true
 hasDict : hasDictIn F.kx F.work = true
noncomputable def BMain (h : Heap) : Prop := ∃ mg bm ob, h.Ns mainGlobals mg /\ mg "__builtins__" = some (.ref bm) /\ bm ≠ builtinsNs /\ h.get? bm = some ob /\ ob.cls = .type "module" /\ ob.dict = some builtinsNs /\ ob.data = .plain
theorem BMain.keeps {h h' : Heap} (x : BMain h) (k : ∀ b o, h.get? b = some o -> h'.get? b = some o) : BMain h' := by
 refine o34 x fun mg bm ob a b c d e => ?_
 exact ⟨mg, bm, ob, a.keeps k, b, c, k _ _ d, e⟩
noncomputable def LcasAt (F : FA) (h : Heap) : Prop := ∃ o g od n tk, h.get? F.lcas = some o /\ o.data = .func (fdOf (topDef "_find_lcas") (.ref F.dLcas) g) /\ h.CodeRec g.code g.qualname /\ g.code = .ref F.cLcas /\ h.get? F.dLcas = some od /\ od.data = .seq #[.int 0 tk, .none] n
theorem LcasAt.keeps {F : FA} {h h' : Heap} (x : LcasAt F h) (k : ∀ b o, h.get? b = some o -> h'.get? b = some o) : LcasAt F h' := by
 refine o53 x fun o g od n tk a b c d => ?_
 exact ⟨o, g, od, n, tk, k _ _ a, b, c.keeps k, d.1, k _ _ d.2.1, d.2.2⟩
structure Funs (F : FA) (h : Heap) : Prop where
 own : ∀ f : Fn, f.user = true -> FunAt h (f.addr F) (topDef f.str) .none
 frag : F.kx.In h
 wk : Wk F
 init : FunAt h F.wInit (workDef "__init__") .none
 add : FunAt h F.wAdd (workDef "add") .none
 get : FunAt h F.wGet (workDef "get") .none
 iter : FunAt h F.wIter (workDef "iter") .none
 bm : BMain h
 lcas : LcasAt F h
 headLcas : CodeHd h F.cLcas F.tLcas
 headLaw : CodeHd h F.cLaw F.tLaw
theorem Funs.keeps {F : FA} {h h' : Heap} (x : Funs F h) (k : ∀ b o, h.get? b = some o -> h'.get? b = some o) : Funs F h' :=
 ⟨fun f hf => (x.own f hf).keeps k, x.frag.keeps k, x.wk, x.init.keeps k, x.add.keeps k, x.get.keeps k, x.iter.keeps k, x.bm.keeps k, x.lcas.keeps k, x.headLcas.keeps k, x.headLaw.keeps k⟩
noncomputable abbrev RepTV (P : Params) (hc : PH) (v : TV) (cv : Value) : Prop := Rep P hc v.t v.v cv
section
variable {prog : Program} {w : World} {A : Around} {s : Shared} {hc : PH}
theorem idx_small {k : Int} {n : Nat} (h0 : 0 <= k) (h1 : k.toNat < n) (h2 : n <= 100000000) : k < 2 ^ 63 := by lia
theorem next_free (h : Heap) : h.get? (h.objs.size + 1) = none := by
 generalize e : h.get? (h.objs.size + 1) = zz; induction zz with
 | none => rfl
 | some o => exact absurd (Nat.lt_trans (Nat.lt_succ_self _) (Heap.lt_size e)) (Nat.lt_irrefl _)
theorem item_lst {k : Int} {t : Ty} {l : List t.den} {cx : Value} {tk : Tok} {value slice : PySem.Expr} (hI : hc.In s.heap) (rx : Rep w.params hc (.lst t) l cx) (h0 : 0 <= k) (h1 : k.toNat < l.length) (h2 : l.length <= 100000000)
  (hs : ∀ o i : Value, subscripted slice false o i = operate [o, i] (getItem o i)) : Gives prog w A (subscriptTail value slice cx (.int k tk)) s hc t (l.getD k.toNat t.dflt) := by
 intro Q E h
 refine o22 rx ?_; rintro a vs rfl oa ra
 have hl := oa.isList hI
 have hx : l[Int.toNat k]? = some (l.getD (Int.toNat k) t.dflt) := by
  rw [List.getD_eq_getElem?_getD, List.getElem?_eq_getElem h1]; rfl
 refine o11 (ra.get hx) fun cv hcv rcv => ?_
 exact tail_any hl.typeIs slot_list_getitem.lookup (wpAny_getItem_list hl h0 (idx_small h0 h1 h2) (by simpa using hcv) (h _ _ _ (Step.rfl' hI) rcv)) (hs _ _)
theorem item_dct {k : List UInt8} {t : Ty} {f : List UInt8 -> Option t.den} {cx : Value} {tk : Tok} {value slice : PySem.Expr} (hI : hc.In s.heap) (rx : Rep w.params hc (.dct t) f cx) (ok : (f k).isSome = true)
  (hs : ∀ o i : Value, subscripted slice false o i = operate [o, i] (getItem o i)) : Gives prog w A (subscriptTail value slice cx (.bytes k.toArray tk)) s hc t ((f k).getD t.dflt) := by
 intro Q E h
 refine o22 rx ?_; rintro a g rfl oa ra
 have hm := oa.mapOf (prog := prog) hI
 rcases ra k with ⟨e, _⟩ | ⟨y, cy, e1, e2, r⟩
 ·rw [show f k = none from e] at ok
  exact No.ft ok
 ·refine tail_any hm.typeIs slot_dict_getitem.lookup (wpAny_getItem_of (knd := bytesKind prog w) (k := k) (by simp [bytesKind, isBytes]) hm e2 (h _ _ _ (Step.tok hI _) ?_)) (hs _ _)
  rw [show f k = some y from e1]; exact r
theorem item_gives {x i : TV} {cx ci : Value} {value slice : PySem.Expr} (hI : hc.In s.heap) (rx : RepTV w.params hc x cx) (ri : RepTV w.params hc i ci) (ok : x.itemOk i) (hs : ∀ a b c d, slice ≠ .Slice a b c d) :
  Gives prog w A (subscriptTail value slice cx ci) s hc (x.item i).t (x.item i).v := by
 have hsub : ∀ o i : Value, subscripted slice false o i = operate [o, i] (getItem o i) := fun o i => by
  rcases slice with ⟨⟩ <;> first | rfl | (exact absurd rfl (hs _ _ _ _))
 obtain ⟨t, x⟩ := x
 obtain ⟨u, i⟩ := i
 induction t using Ty.casesOn with
 | lst t => induction u using Ty.casesOn with
  | int =>
   refine o10 ri ?_; rintro k rfl
   exact item_lst hI rx ok.1 ok.2.1 ok.2.2 hsub
  | _ => exact ok.elim
 | dct t => induction u using Ty.casesOn with
  | byt =>
   refine o10 ri ?_; rintro k rfl
   exact item_dct hI rx ok hsub
  | _ => exact ok.elim
 | _ => exact ok.elim
theorem slice_obj {D : Addr} {t : Ty} {l : List t.den} {vs : List Value} (hI : hc.In s.heap) (hn : s.heap.get? D = none) (r : Rel2 (Rep w.params hc t) l vs) {s' : Shared} (k : Keeps s s') (ho : s'.heap.get? D = some { cls := .type "list", data := .seq vs.toArray }) :
  ∃ hd, Step s s' hc hd /\ Rep w.params hd (.lst t) l (.ref D) :=
 ⟨_, Step.put hI k hn ho, D, vs, rfl, ⟨_, _, PH.put_self, rfl, rfl⟩, r.mono fun _ _ x => x.mono (PH.put_le (hI.none hn))⟩
theorem ints_of {l : List Int} {vs : List Value} (r : Rel2 (Rep w.params hc .int) l vs) : IntsAre vs l := by
 induction r with
 | nil => exact .nil
 | cons h _ ih => refine o10 h ?_; rintro k rfl; exact .cons _ _ ih
theorem rel_of_ints {P : Params} {l : List Int} {vs : List Value} (r : IntsAre vs l) : Rel2 (Rep P hc .int) l vs := by
 induction r with
 | nil => exact .nil
 | cons n t _ ih => exact .cons ⟨t, rfl⟩ ih
theorem byt_of {l : List (List UInt8)} {vs : List Value} (r : Rel2 (Rep w.params hc .byt) l vs) : BytAre vs l := r.mono fun _ _ h => h
theorem sum_eq : ∀ {vs : List Value} {ns : List Int}, IntsAre vs ns -> ∃ xs : Array (Int × Tok), vs.toArray = intItems xs /\ preSum (numAt xs) xs.size = ns.sum := by
 intro vs ns hi
 refine o10 hi.allInts.items fun xs e => ?_
 refine ⟨xs, e, ?_⟩
 rw [preSum_eq, List.take_of_length_le (by simp), <- nums_intItems, <- e]
 rw [show vs.toArray.toList = vs from rfl, hi.numsOf]
theorem rel_one {α β : Type} {R : α -> β -> Prop} {a : α} {vs : List β} (r : Rel2 R [a] vs) : ∃ x, vs = [x] /\ R a x := by
 obtain _ | ⟨ra, _ | _⟩ := r
 exact ⟨_, rfl, ra⟩
theorem rel_more {α β : Type} {R : α -> β -> Prop} {a : α} {l : List α} {vs : List β} (r : Rel2 R (a :: l) vs) : ∃ x xs, vs = x :: xs /\ R a x /\ Rel2 R l xs := by
 obtain _ | ⟨ra, rs⟩ := r
 exact ⟨_, _, rfl, ra, rs⟩
theorem len_inv {xs : List TV} (ok : okLen xs) : ∃ (t : Ty) (l : List t.den), xs = [⟨.lst t, l⟩] /\ l.length <= 100000000 := by
 obtain _ | ⟨x, _ | ⟨y, r⟩⟩ := xs <;> try exact ok.elim
 refine o10 (onLst.inv ok) ?_; rintro t zz; refine o11 zz ?_; rintro l rfl h
 exact ⟨t, l, rfl, h⟩
theorem ints_inv {p : List Int -> Prop} {xs : List TV} (ok : okInts p xs) : ∃ l : List Int, xs = [⟨.lst .int, l⟩] /\ p l := by
 obtain _ | ⟨x, _ | ⟨y, r⟩⟩ := xs <;> try exact ok.elim
 refine o11 (onInts.inv ok) ?_; rintro l rfl h
 exact ⟨l, rfl, h⟩
theorem len_gives {t : Ty} {l : List t.den} {v : Value} (hI : hc.In s.heap) (r : Rep w.params hc (.lst t) l v) (ok : l.length <= 100000000) : Gives prog w A (call (.builtin "len") [v]) s hc .int (l.length : Int) := by
 intro Q E h
 refine o22 r ?_; rintro a vs rfl oa ra
 have e := ra.length
 refine len_list (oa.isList hI) ?_ (h _ _ _ (Step.tok hI _) ⟨s.toks + 1, by rw [e]; rfl⟩)
 have : vs.length <= 100000000 := Nat.le_trans (Nat.le_of_eq e.symm) ok
 simp only [List.size_toArray]; lia
theorem sum_gives {l : List Int} {v : Value} (hA : AOk A 0) (hI : hc.In s.heap) (r : Rep w.params hc (.lst .int) l v) : Gives prog w A (call (.builtin "sum") [v]) s hc .int l.sum := by
 intro Q E h
 refine o22 r ?_; rintro a vs rfl oa ra
 refine o11 (sum_eq (ints_of ra)) fun ys e1 e2 => ?_
 have hl := oa.isList hI
 rw [e1] at hl
 exact sum_intListG hA.handled hl fun h' tk t' hk => h _ _ _ (Step.quiet hI ⟨h', tk, rfl, hk⟩) ⟨t', by rw [e2]⟩
theorem max_gives {l : List Int} {v : Value} (hA : AOk A 0) (hI : hc.In s.heap) (r : Rep w.params hc (.lst .int) l v) (hne : l ≠ []) : Gives prog w A (call (.builtin "max") [v]) s hc .int (maxI l) := by
 intro Q E h
 refine o22 r ?_; rintro a vs rfl oa ra
 have hl := oa.isList hI
 have hi : IntsAre vs (l : List Int) := ints_of ra
 refine o10 hi.allInts.items fun ys e => ?_
 have hns : l = ys.toList.map (·.1) := by
  rw [<- hi.numsOf, <- nums_intItems, <- e]
 have hsz : l.length = ys.size := by rw [hns, List.length_map, Array.length_toList]
 have hpos : 0 < ys.size := hsz ▸ List.length_pos_iff.mpr hne
 rw [e] at hl
 refine max_intList hA.handled hl hpos fun v h' tk hv hk => ?_
 refine o10 (intItems_at hv) ?_; rintro t rfl
 refine o01 (argBest_gt (numAt ys) (ys.size - 1)) fun h1 h2 => ?_
 generalize argBest (fun i j => decide (numAt ys i > numAt ys j)) (ys.size - 1) = k at h1 h2
 have m1 : numAt ys k ∈ l := by
  rw [hns, numAt_eq]; exact getD_mem (by rw [<- hns]; lia)
 have m2 : ∀ a ∈ l, a <= numAt ys k := fun a ha => by
  rw [hns] at ha
  refine o11 (mem_getD ha) ?_; rintro j hj rfl
  rw [<- hns] at hj
  rw [<- numAt_eq]; exact h2 j (by lia)
 refine o01 (maxI_mem hne) fun m3 m4 => ?_
 rw [Int.le_antisymm (m4 _ m1) (m2 _ m3)]
 exact h _ _ _ (Step.quiet hI ⟨h', tk, rfl, hk⟩) ⟨t, rfl⟩
theorem bytes_gives {l : List Int} {v : Value} (hA : AOk A 0) (hI : hc.In s.heap) (r : Rep w.params hc (.lst .int) l v) (h1 : l.length <= 100) (h2 : ∀ i ∈ l, 0 <= i /\ i < 256) : Gives prog w A (call (.type "bytes") [v]) s hc .byt (l.map fun i => UInt8.ofNat i.toNat) := by
 intro Q E h
 refine o22 r ?_; rintro a vs rfl oa ra
 have e := ra.length
 refine call_bytes_ints (oa.isList hI) (ints_of ra) h2 ?_ hA.handled fun h' t k hk => h _ _ _ (Step.quiet hI ⟨h', k, rfl, hk⟩) ⟨t, ?_⟩
 ·rw [sizeLine_eq]
  exact Nat.le_trans (Nat.le_trans (Nat.le_of_eq e.symm) h1) (by decide)
 ·simp only [byteArr]
theorem sorted_new {vs : List Value} {out : Array Value} {t : Ty} {l : List t.den} {Q : Value -> Shared -> Prop} (hI : hc.In s.heap) (r : Rel2 (Rep w.params hc t) l out.toList) (h : ∀ s' hd cv, Step s s' hc hd -> Rep w.params hd (.lst t) l cv -> Q cv s') :
  Q (.ref (s.heap.objs.size + 1)) { s with heap := sortedAll s.heap vs out } := by
 refine o10 (sortedAll_at s.heap vs out) fun n he => ?_
 have hn := next_free s.heap
 exact h _ _ _ (Step.put hI (Keeps.mk' (tk := s.toks) fun _ _ => sortedAll_old) hn he) ⟨_, out.toList, rfl, ⟨_, n, PH.put_self, rfl, by simp⟩, r.mono fun _ _ x => x.mono (PH.put_le (hI.none hn))⟩
theorem rng_new {a b c : Int} {i j k : Tok} {tk : Nat} {Q : Value -> Shared -> Prop} (hI : hc.In s.heap) (h : ∀ s' hd cv, Step s s' hc hd -> Rep w.params hd .rng (a, b, c) cv -> Q cv s') :
  Q (.ref s.heap.objs.size) { s with heap := s.heap.push { cls := .type "range", data := .fields #[.int a i, .int b j, .int c k] }, toks := tk } :=
 h _ _ _ (Step.put hI ⟨_, _, rfl, fun _ _ e => Heap.get?_push_of_some _ e⟩ (free_size _) (Heap.get?_push_size _ rfl)) ⟨_, _, _, _, rfl, PH.put_self⟩
theorem fn_gives {f : Fn} {xs : List TV} {vs : List Value} {U : Use} {F : FA} (hf : f.user = false) (hA : AOk A 0) (hI : hc.In s.heap) (r : Rel2 (RepTV w.params hc) xs vs) (ok : appOk U f xs) :
  Gives prog w A (call (f.val F) vs) s hc (app f xs).t (app f xs).v := by
 intro Q E h
 induction f with
 | len =>
  refine o10 (len_inv ok) ?_; rintro t zz; refine o11 zz ?_; rintro l rfl ok
  refine o11 (rel_one r) ?_; rintro v rfl r1
  exact len_gives hI r1 ok Q E h
 | abs =>
  obtain _ | ⟨x, _ | ⟨y, q⟩⟩ := xs <;> try exact ok.elim
  refine o11 (onInt.inv ok) ?_; rintro k rfl _
  refine o11 (rel_one r) ?_; rintro v rfl ⟨t, rfl⟩
  exact call_abs_int fun u tk => h _ _ _ (Step.tok hI _) ⟨u, rfl⟩
 | sum =>
  refine o11 (ints_inv ok) ?_; rintro l rfl ok
  refine o11 (rel_one r) ?_; rintro v rfl r1
  exact sum_gives hA hI r1 Q E h
 | max =>
  refine o11 (ints_inv ok) ?_; rintro l rfl ok
  refine o11 (rel_one r) ?_; rintro v rfl r1
  exact max_gives hA hI r1 ok.1 Q E h
 | range =>
  obtain _ | ⟨x, _ | ⟨y, _ | ⟨z, _ | ⟨u, q⟩⟩⟩⟩ := xs <;> try exact ok.elim
  ·refine o11 (onInt.inv ok) ?_; rintro k rfl _
   refine o11 (rel_one r) ?_; rintro v rfl ⟨t, rfl⟩
   exact call_range_1 (rng_new hI h)
  ·refine o11 (onInt.inv ok) ?_; rintro k rfl ok
   refine o11 (onInt.inv ok) ?_; rintro k1 rfl ok
   refine o11 (onInt.inv ok) ?_; rintro k2 rfl ok
   refine o22 (rel_more r) ?_; rintro v _ rfl ⟨t, rfl⟩ r
   refine o22 (rel_more r) ?_; rintro v _ rfl ⟨t1, rfl⟩ r
   refine o11 (rel_one r) ?_; rintro v rfl ⟨t2, rfl⟩
   have e := ok.2.2
   subst e
   exact call_range_3 (by decide) (rng_new hI h) (.inl (PyProof.noPylong_small (by decide)))
 | bytes =>
  refine o11 (ints_inv ok) ?_; rintro l rfl ok
  refine o11 (rel_one r) ?_; rintro v rfl r1
  exact bytes_gives hA hI r1 ok.1 ok.2 Q E h
 | sorted =>
  obtain _ | ⟨x, _ | ⟨y, q⟩⟩ := xs <;> try exact ok.elim
  refine o10 (onLst.inv ok) ?_; rintro t zz; refine o12 zz ?_; rintro l rfl ht ok
  refine o11 (rel_one r) ?_; rintro v rfl r1
  refine o22 r1 ?_; rintro a vs rfl oa ra
  have h64 := Nat.lt_of_le_of_lt (Nat.le_of_eq (Rel2.length ra).symm) ok
  rcases ht with rfl | rfl
  ·exact sorted_ints (oa.isList hI) (ints_of ra) h64 fun out ns' a1 a2 a3 => sorted_new (t := .int) (l := sortI l) hI (rel_of_ints ((sortI_unique a2 a3 : ns' = sortI l) ▸ a1)) h
  ·exact sorted_bytes (oa.isList hI) (byt_of ra) h64 fun out ns' a1 a2 a3 => sorted_new (t := .byt) (l := sortB l) hI (((sortB_unique a2 a3 : ns' = sortB l) ▸ a1).mono fun _ _ x => x) h
 | _ => exact No.tf hf
end
end Mine
namespace Mine
structure Cx (F : FA) (w : World) (d : Nat) (A : Around) (env : Env) (s : Shared) (hc : PH) (ρ : Rho) : Prop where
 ao : AOk A d
 bas : Bas F s.heap
 funs : Funs F s.heap
 inn : hc.In s.heap
 sees : Sees w.params env hc s.heap ρ
 env : EnvOk env
theorem Cx.step {F : FA} {w : World} {d : Nat} {A : Around} {env : Env} {s s' : Shared} {hc hd : PH} {ρ : Rho} (x : Cx F w d A env s hc ρ) (k : Step s s' hc hd) : Cx F w d A env s' hd ρ :=
 ⟨x.ao, x.bas.keeps (Keeps.old k.keeps), x.funs.keeps (Keeps.old k.keeps), k.inn, x.sees.step k, x.env⟩
section
variable {prog : Program} {w : World} {A : Around} {s : Shared} {hc : PH} {F : FA} {d : Nat} {env : Env} {ρ : Rho}
theorem hid {α : Type} {M : Model} {m : Sem α} {Q : α -> Shared -> Prop} {E : Value -> Shared -> Prop} (h : ∀ Q' E', (∀ v s', Q v s' -> Q' v s') -> wpAny M A m Q' E' s) : wpAny M A m Q E s := h Q E fun _ _ x => x
theorem star_cons {e : PySem.Expr} {r : List PySem.Expr} (h : plainOk e = true) : starEach (e :: r) env = (false, eval e env) :: starEach r env := by
 rcases e with ⟨⟩ <;> first | rfl | (exact No.ft h; done)
theorem spliced_gives {pos : Pos} (ev : PySem.Expr -> TV) : ∀ (es : List PySem.Expr) {s : Shared} {hc : PH}, Cx F w d A env s hc ρ ->
  (∀ e ∈ es, plainOk e = true) -> (∀ e ∈ es, ∀ s' hc', Cx F w d A env s' hc' ρ -> Gives prog w A (eval e env) s' hc' (ev e).t (ev e).v) ->
  ∀ {Q : List Value -> Shared -> Prop} {E : Value -> Shared -> Prop}, (∀ s' hd vs, Step s s' hc hd -> Rel2 (RepTV w.params hd) (es.map ev) vs -> Q vs s') ->
  wpAny (model prog w) A (spliced (backTo pos (starEach es env))) Q E s
 | [], s, hc, C, _, _, Q, E, h => wpAny_pure (h _ _ _ (Step.rfl' C.inn) .nil)
 | e :: r, s, hc, C, hp, hev, Q, E, h => by
  rw [star_cons (hp e List.mem_cons_self)]
  show wpAny _ _ (spliced ((false, eval e env) :: backTo pos (starEach r env))) _ _ _
  refine Calls.spliced_cons (hev e List.mem_cons_self s hc C _ _ fun s₁ hB v st r1 => ?_)
  refine spliced_gives ev r (C.step st) (fun e he => hp e (List.mem_cons_of_mem _ he)) (fun e he => hev e (List.mem_cons_of_mem _ he)) fun sb hO vs stb r2 => ?_
  exact h _ _ _ (st.trans stb) (.cons (r1.mono stb.le) r2)
noncomputable def IterPlain (h : Heap) (I : Addr) : Prop := ∃ o, h.get? I = some o /\ (∃ fs, o.data = .fields fs) /\ (o.cls = .type "list_iterator" \/ o.cls = .type "tuple_iterator" \/ o.cls = .type "range_iterator")
theorem letGo_plain {tg : PySem.Expr} {I : Addr} {v : Value} {Q : Unit -> Shared -> Prop} {E : Value -> Shared -> Prop} (h : IterPlain s.heap I) (hQ : Q () s) : wpAny (model prog w) A (letOwnedTupleGo tg (.ref I) v) Q E s := by
 refine o12 h ?_; rintro ⟨cls, dd, data, sl⟩ ho _ hcl
 simp only at hcl
 unfold letOwnedTupleGo
 rcases tg with ⟨⟩ <;> try exact wpAny_pure hQ
 all_goals
  rcases v with ⟨⟩ <;> try exact wpAny_pure hQ
  refine wpAny_bind (wpAny_load ho ?_)
  rcases hcl with rfl | rfl | rfl <;> rcases data with ⟨⟩ <;> exact wpAny_pure hQ
structure Src (prog : Program) (w : World) (P : Params) (s : Shared) (hc : PH) (I : Addr) (its : Items) (fp : List Addr) (PI : Nat -> Value -> Prop) (St : Nat -> Heap -> Prop) : Prop where
 fresh : hc I = none
 walks : ∀ A : Around, A.handled = none -> Walks prog w A I fp [I] its.l.length PI St
 start : St 0 s.heap
 foot : ∀ b ∈ fp, b = I \/ ∃ o, hc b = some o
 plain : ∀ i h, St i h -> IterPlain h I
 val : ∀ j v, j < its.l.length -> PI j v -> ∃ y, its.l[j]? = some y /\ Rep P hc its.t y v
theorem PH.In.of_le {a b : PH} {h : Heap} (x : b.In h) (k : a.le b) : a.In h := fun y o e => x y o (k y o e)
theorem Src.frame {P : Params} {I : Addr} {its : Items} {fp : List Addr} {PI : Nat -> Value -> Prop} {St : Nat -> Heap -> Prop} (S : Src prog w P s hc I its fp PI St) (hh : A.handled = none) {i : Nat} {h h' : Heap} (st : St i h)
  (hI : ∀ o, h.get? I = some o -> h'.get? I = some o) (i1 : hc.In h) (i2 : hc.In h') : St i h' :=
 (S.walks A hh).frame i _ _ st fun b hb o e => by
  rcases S.foot b hb with h | h
  ·rw [h] at e ⊢; exact hI o e
  ·refine o10 h fun o' e' => ?_
   exact i2 b o (Option.some.inj ((i1 b o' e').symm.trans e) ▸ e')
theorem mem_snoc {α : Type} {l : List α} {x : α} : x ∈ l ++ [x] := List.mem_append_right _ (List.mem_singleton.mpr rfl)
theorem range_len (a b c : Int) : (rangeOf a b c).length = (Builtin.Range.rangeSize a b c).toNat := by simp [rangeOf]
theorem rangeSize_down (a b : Int) : Builtin.Range.rangeSize a b (-1) = if b < a then a - b else 0 := by
 unfold Builtin.Range.rangeSize
 rw [if_neg (by decide)]
 simp only [Int.neg_neg, Int.ediv_one]
 split <;> (first | lia | omega)
theorem rangeSize_nonneg {a b c : Int} (h : c = 1 \/ c = -1) : 0 <= Builtin.Range.rangeSize a b c := by
 rcases h with rfl | rfl
 ·rw [rangeSize_one]; split <;> (first | lia | omega)
 ·rw [rangeSize_down]; split <;> (first | lia | omega)
theorem sub_abs {a b : Int} (ha : a.natAbs <= 1000) (hb : b.natAbs <= 1000) : (a - b).natAbs <= 2000 := Nat.le_trans (Int.natAbs_sub_le a b) (Nat.add_le_add ha hb)
theorem size_abs {a b c : Int} (h : c = 1 \/ c = -1) (ha : a.natAbs <= 1000) (hb : b.natAbs <= 1000) : (Builtin.Range.rangeSize a b c).natAbs <= 2000 := by
 rcases h with rfl | rfl
 ·rw [rangeSize_one]; split
  ·exact sub_abs hb ha
  ·decide
 ·rw [rangeSize_down]; split
  ·exact sub_abs ha hb
  ·decide
theorem fits_small {i : Int} (h : i.natAbs <= 3000) : Builtin.Range.rangeFitsLong i = true := by
 unfold Builtin.Range.rangeFitsLong
 rw [Bool.and_eq_true, decide_eq_true_eq, decide_eq_true_eq]
 lia
theorem range_small {a b c : Int} (h : c = 1 \/ c = -1) (ha : a.natAbs <= 1000) (hb : b.natAbs <= 1000) : Builtin.Range.small a b c = true := by
 have hn := fits_small (Nat.le_trans (size_abs h ha hb) (by decide))
 have hb' := fits_small (Nat.le_trans hb (by decide))
 unfold Builtin.Range.small
 rw [fits_small (Nat.le_trans ha (by decide)), hb', hn]
 rcases h with rfl | rfl
 ·show (_ || Builtin.Range.rangeFitsLong (b + 0)) = true
  rw [Int.add_zero, hb', Bool.or_true]
 ·show (_ || Builtin.Range.rangeFitsLong (b + 0)) = true
  rw [Int.add_zero, hb', Bool.or_true]
theorem src_push {o : Obj} {its : Items} {fp : List Addr} {PI : Nat -> Value -> Prop} {St : Nat -> Heap -> Prop} {Q : Value -> Shared -> Prop} {P : Params} (hI : hc.In s.heap)
  (h : ∀ s' fp PI St, (∃ h', s' = { s with heap := h' }) -> Step s s' hc hc -> (s'.heap.get? s.heap.objs.size).isSome = true -> Src prog w P s' hc s.heap.objs.size its fp PI St -> Q (.ref s.heap.objs.size) s')
  (S : (s.heap.push o).get? s.heap.objs.size = some o -> Src prog w P { s with heap := s.heap.push o } hc s.heap.objs.size its fp PI St) (hp : (s.heap.push o).get? s.heap.objs.size = some o) : Q (.ref s.heap.objs.size) { s with heap := s.heap.push o } :=
 h _ fp PI St ⟨_, rfl⟩ (Step.quiet hI ⟨_, s.toks, rfl, fun _ _ e => Heap.get?_push_of_some _ e⟩) (by show Option.isSome (Heap.get? (s.heap.push _) _) = true; rw [hp]; rfl) (S hp)
theorem old_ne {a : Addr} {c : String} {vs : List Value} (hI : hc.In s.heap) (oa : LObj hc c a vs) : a ≠ s.heap.objs.size := by
 refine o21 oa fun o n e _ => ?_
 exact Nat.ne_of_lt (Heap.lt_size (hI _ _ e))
theorem old_foot {a I : Addr} {c : String} {vs : List Value} (oa : LObj hc c a vs) : ∀ b ∈ [I, a], b = I \/ ∃ o, hc b = some o := by
 refine o21 oa fun o n e _ => ?_
 exact all2 (.inl rfl) (.inr ⟨o, e⟩)
theorem src_range {a b c : Int} {cx : Value} {Q : Value -> Shared -> Prop} {E : Value -> Shared -> Prop} (hI : hc.In s.heap) (rx : Rep w.params hc .rng (a, b, c) cx) (hcc : c = 1 \/ c = -1) (ha : a.natAbs <= 1000) (hb : b.natAbs <= 1000)
  (h : ∀ s' fp PI St, (∃ h', s' = { s with heap := h' }) -> Step s s' hc hc -> (s'.heap.get? s.heap.objs.size).isSome = true -> Src prog w w.params s' hc s.heap.objs.size ⟨.int, rangeOf a b c⟩ fp PI St -> Q (.ref s.heap.objs.size) s') : wpAny (model prog w) A (pyIter cx) Q E s := by
 refine o41 rx ?_; rintro r i j k rfl ho
 refine wpAny_pyIter_range (hI _ _ ho) (range_small hcc ha hb) (src_push (fp := [s.heap.objs.size]) (PI := fun i v => ∃ t, v = .int (a + i * c) t) (St := fun i h => IsRangeIter h s.heap.objs.size (a + (i : Nat) * c) (((rangeOf a b c).length : Int) - (i : Nat)) c) hI h
  (fun hp => ⟨hI.none (free_size _), fun A hh => Walks.range hh _ a c _, ?_, fun b hb => .inl (List.mem_singleton.mp hb), fun i h' e => ⟨_, e, ⟨_, rfl⟩, .inr (.inr rfl)⟩, ?_⟩) (Heap.get?_push_size _ rfl))
 ·show IsRangeIter (s.heap.push _) _ _ _ _
  have e1 : a + ((0 : Nat) : Int) * c = a := by simp
  have e2 : ((rangeOf a b c).length : Int) - ((0 : Nat) : Int) = Builtin.Range.rangeSize a b c := by
   rw [range_len, Int.toNat_of_nonneg (rangeSize_nonneg hcc)]; simp
  rw [e1, e2]
  exact hp
 ·rintro jj v hj ⟨t, rfl⟩
  have hj' : jj < (rangeOf a b c).length := hj
  exact ⟨(a + (jj : Int) * c : Int), by show (rangeOf a b c)[jj]? = _; rw [range_len] at hj'; simp only [rangeOf, List.getElem?_map, List.getElem?_range hj']; rfl, ⟨t, rfl⟩⟩
theorem src_list {t : Ty} {x : List t.den} {cx : Value} {Q : Value -> Shared -> Prop} {E : Value -> Shared -> Prop} (hI : hc.In s.heap) (rx : Rep w.params hc (.lst t) x cx)
  (h : ∀ s' fp PI St, (∃ h', s' = { s with heap := h' }) -> Step s s' hc hc -> (s'.heap.get? s.heap.objs.size).isSome = true -> Src prog w w.params s' hc s.heap.objs.size ⟨t, x⟩ fp PI St -> Q (.ref s.heap.objs.size) s') : wpAny (model prog w) A (pyIter cx) Q E s := by
 refine o22 rx ?_; rintro a vs rfl oa ra
 have hl := oa.isList hI
 have e : x.length = vs.toArray.size := ra.length
 refine wpAny_pyIter_list hl (src_push (fp := [s.heap.objs.size, a]) (PI := fun i v => vs.toArray[i]? = some v) (St := fun i h => h.IsListIter s.heap.objs.size a i /\ h.IsList a vs.toArray) hI h
  (fun hp => ⟨hI.none (free_size _), fun A hh => ?_, ⟨⟨_, hp, rfl, rfl⟩, hl.at fun o e => Heap.get?_push_of_some _ e⟩, old_foot oa, fun i h' hh => ?_, fun j v _ hv => ra.get' (by simpa using hv)⟩) (Heap.get?_push_size _ rfl))
 ·show Walks prog w A _ _ _ x.length _ _
  rw [e]
  exact Walks.list hh s.heap.objs.size a (old_ne hI oa) vs.toArray
 ·refine o12 hh.1 fun o e1 e2 e3 => ?_
  exact ⟨o, e1, ⟨_, e3⟩, .inl e2⟩
theorem src_tuple {t : Ty} {x : List t.den} {cx : Value} {Q : Value -> Shared -> Prop} {E : Value -> Shared -> Prop} (hI : hc.In s.heap) (rx : Rep w.params hc (.tpl t) x cx)
  (h : ∀ s' fp PI St, (∃ h', s' = { s with heap := h' }) -> Step s s' hc hc -> (s'.heap.get? s.heap.objs.size).isSome = true -> Src prog w w.params s' hc s.heap.objs.size ⟨t, x⟩ fp PI St -> Q (.ref s.heap.objs.size) s') : wpAny (model prog w) A (pyIter cx) Q E s := by
 refine o22 rx ?_; rintro a vs rfl oa ra
 have hl := oa.isTuple hI
 have e : x.length = vs.toArray.size := ra.length
 refine wpAny_pyIter_tuple hl (src_push (fp := [s.heap.objs.size, a]) (PI := fun i v => vs.toArray[i]? = some v) (St := fun i h => h.IsTupleIter s.heap.objs.size a i /\ h.IsTuple a vs.toArray) hI h
  (fun hp => ⟨hI.none (free_size _), fun A hh => ?_, ⟨⟨_, hp, rfl, rfl⟩, hl.at fun o e => Heap.get?_push_of_some _ e⟩, old_foot oa, fun i h' hh => ?_, fun j v _ hv => ra.get' (by simpa using hv)⟩) (Heap.get?_push_size _ rfl))
 ·show Walks prog w A _ _ _ x.length _ _
  rw [e]
  exact Walks.tuple hh s.heap.objs.size a (old_ne hI oa) vs.toArray
 ·refine o12 hh.1 fun o e1 e2 e3 => ?_
  exact ⟨o, e1, ⟨_, e3⟩, .inr (.inl e2)⟩
theorem src_gives {x : TV} {cx : Value} {Q : Value -> Shared -> Prop} {E : Value -> Shared -> Prop} (hI : hc.In s.heap) (rx : RepTV w.params hc x cx) (ok : x.itemsOk)
  (h : ∀ s' I fp PI St, s.heap.get? I = none -> Step s s' hc hc -> (s'.heap.get? I).isSome = true -> Src prog w w.params s' hc I x.items fp PI St -> Q (.ref I) s') : wpAny (model prog w) A (pyIter cx) Q E s := by
 obtain ⟨t, x⟩ := x
 rcases t with ⟨⟩ <;> first
  | exact ok.elim
  | exact src_list hI rx fun s' fp PI St _ => h s' _ fp PI St (free_size _)
  | exact src_tuple hI rx fun s' fp PI St _ => h s' _ fp PI St (free_size _)
  | exact src_range hI rx ok.1 ok.2.1 ok.2.2 fun s' fp PI St _ => h s' _ fp PI St (free_size _)
theorem ns_not_cell {h : Heap} {L c : Addr} {m : Str -> Option Value} {v : Option Value} (n : h.Ns L m) (i : h.IsCell c v) : c ≠ L := fun e => by
 refine o32 n fun o es ep e1 e2 _ => ?_
 refine o11 i fun o' e3 e4 => ?_
 rw [e, e1] at e3; obtain rfl := Option.some.inj e3
 exact Data.noConfusion (e2.symm.trans e4)
theorem cell_at {h h' : Heap} {c : Addr} {v : Option Value} (i : h.IsCell c v) (k : ∀ o, h.get? c = some o -> h'.get? c = some o) : h'.IsCell c v := let ⟨o, a, b⟩ := i; ⟨o, k _ a, b⟩
theorem cell_ne_iter {h : Heap} {c I : Addr} {v : Option Value} (p : IterPlain h I) (i : h.IsCell c v) : c ≠ I := fun e => by
 refine o11 i fun o e1 e2 => ?_
 refine o12 p ?_; rintro oI eI ⟨fs, dI⟩ _
 rw [e, eI] at e1
 obtain rfl := Option.some.inj e1
 exact Data.noConfusion (dI.symm.trans e2)
theorem cell_ne_list {h : Heap} {c D : Addr} {v : Option Value} {vs : Array Value} {n : Nat} (eD : h.get? D = some { cls := .type "list", data := .seq vs n }) (i : h.IsCell c v) : c ≠ D := fun e => by
 refine o11 i fun o e1 e2 => ?_
 rw [e, eD] at e1
 obtain rfl := Option.some.inj e1
 exact Data.noConfusion e2
theorem list_ne_iter {h : Heap} {I D : Addr} {vs : Array Value} {n : Nat} (p : IterPlain h I) (eD : h.get? D = some { cls := .type "list", data := .seq vs n }) : D ≠ I := fun e => by
 refine o12 p ?_; rintro oI eI ⟨fs, dI⟩ _
 rw [e, eI] at eD
 obtain rfl := Option.some.inj eD
 exact Data.noConfusion dI
theorem list_ne_ns {h : Heap} {L D : Addr} {m : Str -> Option Value} {vs : Array Value} {n : Nat} (hn : h.Ns L m) (eD : h.get? D = some { cls := .type "list", data := .seq vs n }) : D ≠ L := fun e => by
 refine o32 hn fun o es ep e1 e2 _ => ?_
 rw [e, e1] at eD
 obtain rfl := Option.some.inj eD
 exact Data.noConfusion e2
theorem Sees.turn {P : Params} {h h' : Heap} {I : Addr} (hS : Sees P env hc h ρ) (nI : ∀ c v, h.IsCell c v -> c ≠ I) (hL : env.locals ≠ I) (old : ∀ b o, b ≠ I -> h.get? b = some o -> h'.get? b = some o) : Sees P env hc h' ρ := fun x v hx hv => by
 refine o11 (hS x v hx hv) fun cv rd rp => ?_
 refine ⟨cv, ?_, rp⟩
 rcases rd with rd | rd | rd
 ·refine o01 rd fun e zz => o11 zz fun m n hm => ?_
  exact .inl ⟨e, m, n.at' fun o e => old _ o hL e, hm⟩
 ·refine o01 rd fun e zz => o11 zz fun c hcl i => ?_
  exact .inr (.inl ⟨e, c, hcl, cell_at i fun o => old _ o (nI _ _ i)⟩)
 ·refine o02 rd fun e g zz => o11 zz fun c hcl i => ?_
  exact .inr (.inr ⟨e, g, c, hcl, cell_at i fun o => old _ o (nI _ _ i)⟩)
theorem store_local {x : Str} {t : Ty} {y : t.den} {cv : Value} {m : Str -> Option Value} {Q : Unit -> Shared -> Prop} {E : Value -> Shared -> Prop} (O : EnvOk env) (hI : hc.In s.heap) (hL : hc env.locals = none) (hS : Sees w.params env hc s.heap ρ)
  (hk : env.kindOf x = some .local) (hn : s.heap.Ns env.locals m) (r : Rep w.params hc t y cv)
  (h : ∀ s' m', StepX [env.locals] s s' hc hc -> s'.heap.Ns env.locals m' -> Sees w.params env hc s'.heap (ρ.upd x ⟨t, y⟩) -> Q () s') : wpAny (model prog w) A (storeName env x cv) Q E s := by
 refine wpAny_storeName_local hk hn (fun h' hn' hs' => ?_) (by rw [O.kind]; rfl)
 refine h _ _ (StepX.one hI hL ⟨_, _, rfl⟩ (fun b o hb e => hs'.extBut b o hb e) ?_) hn' ?_
 ·refine o31 hn' fun o _ _ e _ => ?_
  show (h'.get? _).isSome = true
  rw [e]; rfl
 ·intro z v hz hv
  unfold Rho.upd at hv
  split at hv
  ·subst_vars
   obtain rfl := Option.some.inj hv
   exact ⟨cv, .inl ⟨hk, _, hn', by simp⟩, r⟩
  ·rename_i hzx
   refine o11 (hS z v hz hv) fun cv' rd rp => ?_
   refine ⟨cv', ?_, rp⟩
   rcases rd with ⟨e, md, na, hm⟩ | ⟨e, c, hcl, i⟩ | ⟨e, g, c, hcl, i⟩
   ·refine .inl ⟨e, _, hn', ?_⟩
    rw [if_neg hzx]
    refine o33 hn fun o1 es1 ep1 a1 a2 _ a4 => ?_
    refine o33 na fun o2 es2 ep2 b1 b2 _ b4 => ?_
    rw [a1] at b1; obtain rfl := Option.some.inj b1
    rw [a2] at b2; cases b2
    rw [<- a4, b4]; exact hm
   ·exact .inr (.inl ⟨e, c, hcl, i.sameBut hs' (ns_not_cell hn i)⟩)
   ·exact .inr (.inr ⟨e, g, c, hcl, i.sameBut hs' (ns_not_cell hn i)⟩)
end
end Mine
namespace Mine
section
variable {prog : Program} {w : World} {A : Around} {s : Shared} {hc : PH} {F : FA} {d : Nat} {env : Env} {ρ : Rho}
theorem isPair_inv {t : Ty} (h : t.isPair = true) : ∃ a b, t = .pair a b := by
 rcases t with _ | _ <;> first | exact No.ft h | exact ⟨_, _, rfl⟩
theorem bind_gives {scope : Scope} {tg : PySem.Expr} {t : Ty} {y : t.den} {cv : Value} {m : Str -> Option Value} {Q : Unit -> Shared -> Prop} {E : Value -> Shared -> Prop} (hA : A.handled = none) (O : EnvOk env) (hI : hc.In s.heap) (hL : hc env.locals = none) (hS : Sees w.params env hc s.heap ρ)
  (hk : ∀ x, scope.names.lookup x = some .local -> env.kindOf x = some .local) (ht : targetOk scope t tg = true) (hn : s.heap.Ns env.locals m) (r : Rep w.params hc t y cv)
  (h : ∀ s' m', StepX [env.locals] s s' hc hc -> s'.heap.Ns env.locals m' -> Sees w.params env hc s'.heap (bindT tg ⟨t, y⟩ ρ) -> Q () s') : wpAny (model prog w) A (assign tg env cv) Q E s := by
 rcases tg_cases tg with e | ⟨n, pos, rfl⟩ | ⟨n, p1, m', p2, kk, p3, rfl⟩
 ·unfold targetOk at ht
  rw [e] at ht
  exact No.ft ht
 ·exact wpAny_assign_Name (store_local O hI hL hS (hk _ (eq_of_beq ht)) hn r h)
 ·replace ht : ((scope.names.lookup n == some NameKind.local && scope.names.lookup m' == some NameKind.local) && (n != m') && t.isPair) = true := ht
  simp only [Bool.and_eq_true, beq_iff_eq] at ht
  refine o01 ht ?_; rintro ⟨⟨h1, h2⟩, _⟩ h4
  refine o20 (isPair_inv h4) ?_; rintro ta tb rfl
  obtain ⟨ya, yb⟩ := y
  refine o33 r ?_; rintro a p q rfl oa ra rb
  refine wpAny_assign_Tuple hA (oa.isTuple hI) rfl rfl fun h' hx => ?_
  have st : Step s { s with heap := h' } hc hc := Step.quiet hI ⟨h', s.toks, rfl, fun b o e => hx b o (Nat.ne_of_lt (Heap.lt_size e)) e⟩
  refine wpAny_assignInOrder_more (wpAny_assign_Name (store_local O st.inn hL (hS.step st) (hk _ h1) (hn.keeps (Keeps.old st.keeps)) ra fun s₁ md sta hna hS1 => ?_))
  refine wpAny_assignInOrder_more (wpAny_assign_Name (store_local O sta.inn hL hS1 (hk _ h2) hna rb fun sb me stb hnd hS2 => ?_))
  refine wpAny_assignInOrder_none (h sb me (((st.toX ?_).trans sta).trans stb) hnd hS2)
  refine o31 hn fun o _ _ e _ => ?_
  exact all1 (by rw [e]; rfl)
theorem allT_cons (f : PySem.Expr -> Bool) (c : PySem.Expr) (r : List PySem.Expr) : allT f (c :: r) = (f c && allT f r) := by
 rcases r with ⟨⟩ <;> simp [allT]
theorem anyT_cons (f : PySem.Expr -> Bool) (c : PySem.Expr) (r : List PySem.Expr) : anyT f (c :: r) = (f c || anyT f r) := by
 rcases r with ⟨⟩ <;> simp [anyT]
theorem tests_gives (te : Rho -> PySem.Expr -> Bool) (ct : Kinds -> Rho -> PySem.Expr -> Prop) : ∀ (ifs : List PySem.Expr) {s : Shared} {hc : PH} (b : Bool), Cx F w d A env s hc ρ ->
  (b = true -> testsOk ct te env.kindOf ρ ifs) -> (∀ c ∈ ifs, ∀ s' hc', Cx F w d A env s' hc' ρ -> ct env.kindOf ρ c -> GivesB prog w A (isTrue c env (eval c env)) s' hc' (te ρ c)) ->
  ∀ {Q : Bool -> Shared -> Prop} {E : Value -> Shared -> Prop}, (∀ s' hd, Step s s' hc hd -> Q (b && allT (te ρ) ifs) s') ->
  wpAny (model prog w) A (forIn ifs b fun c r => if r = true then do let ok <- isTrue c env (eval c env); pure (ForInStep.yield ok) else pure (ForInStep.yield r)) Q E s
 | [], s, hc, b, C, _, _, Q, E, h => by
  rw [List.forIn_nil]; exact wpAny_pure (by simpa [allT] using h _ _ (Step.rfl' C.inn))
 | c :: r, s, hc, b, C, ok, ht, Q, E, h => by
  rw [List.forIn_cons]
  induction b with
  | false =>
   simp only [Bool.false_eq_true, if_false]
   refine wpAny_bind (wpAny_pure ?_)
   refine tests_gives te ct r false C (by simp) (fun c hc => ht c (List.mem_cons_of_mem _ hc)) fun s' hd st => ?_
   simpa using h s' hd st
  | true =>
   refine o01 (ok rfl) fun ok1 ok2 => ?_
   simp only [if_true]
   refine wpAny_bind (wpAny_bind (ht c List.mem_cons_self s hc C ok1 _ _ fun s₁ hd st => wpAny_pure ?_))
   refine tests_gives te ct r (te ρ c) (C.step st) ok2 (fun c hc => ht c (List.mem_cons_of_mem _ hc)) fun sb he stb => ?_
   rw [Bool.true_and, allT_cons] at h
   exact h sb he (st.trans stb)
theorem closure_ok {scope : Scope} (h : ∀ y ∈ scope.names, y.2 = .free -> (env.cells.lookup y.1).isSome = true) :
  ∃ cl, closureFor scope env = pure cl /\ ∀ y, (y, NameKind.free) ∈ scope.names -> cl.lookup y = env.cells.lookup y := by
 have key : ∀ (l : List (Str × NameKind)) (acc : List (Str × Addr)), (∀ y ∈ l, y.2 = .free -> (env.cells.lookup y.1).isSome = true) ->
   ∃ cl, (forIn l acc fun (x : Str × NameKind) cs => (if (x.2 == NameKind.free) = true then do let a <- cellOf env x.1; pure (ForInStep.yield ((x.1, a) :: cs)) else pure (ForInStep.yield cs) : Sem (ForInStep (List (Str × Addr))))) = pure cl /\
    ∀ y, ((y, NameKind.free) ∈ l \/ acc.lookup y = env.cells.lookup y) -> cl.lookup y = env.cells.lookup y := by
  intro l
  induction l with
  | nil => intro acc _; exact ⟨acc, by rw [List.forIn_nil], fun y hy => hy.elim (fun h => nomatch h) id⟩
  | cons x l ih =>
   intro acc hh
   obtain ⟨n, k⟩ := x
   rw [List.forIn_cons]
   by_cases hk : k = .free
   ·subst hk
    refine o10 (Option.isSome_iff_exists.mp (hh (n, .free) List.mem_cons_self rfl)) fun a ha => ?_
    refine o11 (ih ((n, a) :: acc) fun y hy => hh y (List.mem_cons_of_mem _ hy)) fun cl e1 e2 => ?_
    refine ⟨cl, ?_, fun y hy => e2 y ?_⟩
    ·simp only [cellOf, ha, beq_self_eq_true, if_true, pure_bind]; exact e1
    ·by_cases hyn : y = n
     ·subst hyn; right; simp [ha]
     ·rcases hy with hy | hy
      ·rcases List.mem_cons.mp hy with e | hy
       ·cases e; exact absurd rfl hyn
       ·exact .inl hy
      ·right
       rw [List.lookup_cons, beq_eq_false_iff_ne.mpr hyn]; exact hy
   ·refine o11 (ih acc fun y hy => hh y (List.mem_cons_of_mem _ hy)) fun cl e1 e2 => ?_
    refine ⟨cl, ?_, fun y hy => e2 y ?_⟩
    ·have : (k == NameKind.free) = false := by simpa using hk
     simp only [this, Bool.false_eq_true, if_false, pure_bind]; exact e1
    ·rcases hy with hy | hy
     ·rcases List.mem_cons.mp hy with e | hy
      ·cases e; exact absurd rfl hk
      ·exact .inl hy
     ·exact .inr hy
 refine o11 (key scope.names [] h) fun cl e1 e2 => ?_
 refine ⟨cl, ?_, fun y hy => e2 y (.inl hy)⟩
 unfold closureFor
 show (forIn scope.names [] _ >>= fun cs => pure cs) = _
 rw [bind_pure]
 exact e1
theorem kinds_comp (scope : Scope) (cl : List (Str × Addr)) (C : Addr) (O : EnvOk env) : (compEnvC scope cl C env).kindOf = kindsIn env.kindOf scope := by
 funext x
 have hk : (env.scope.kind == ScopeKind.function) = true := by rw [O.kind]; rfl
 show ((relabel scope env).names).lookup x = _
 unfold relabel kindsIn
 simp only [hk, Bool.and_true]
theorem lookup_map_kind {l : List (Str × NameKind)} {f : Str -> NameKind -> NameKind} {x : Str} : (l.map fun (n, k) => (n, f n k)).lookup x = (l.lookup x).map (f x) := by
 induction l with
 | nil => rfl
 | cons y l ih =>
  obtain ⟨n, k⟩ := y
  simp only [List.map_cons, List.lookup_cons]
  by_cases h : x = n
  ·subst h; simp
  ·simp only [beq_eq_false_iff_ne.mpr h]; exact ih
theorem kindsIn_eq (κ : Kinds) (scope : Scope) (x : Str) : kindsIn κ scope x = (scope.names.lookup x).map fun k => if (k == .free && κ x == some .cell) = true then NameKind.cell else k := by
 unfold kindsIn
 rw [<- lookup_map_kind (f := fun n k => if (k == NameKind.free && κ n == some .cell) = true then NameKind.cell else k)]
 congr 1
 apply List.map_congr_left
 rintro ⟨n, k⟩ _
 by_cases h : (k == NameKind.free && κ n == some NameKind.cell) = true <;> simp [h]
structure ScopeFits (env : Env) (scope : Scope) : Prop where
 kind : scope.kind = .function
 nocell : ∀ y ∈ scope.names, y.2 ≠ .cell
 loc : ∀ y ∈ scope.names, y.2 = .local -> scope.names.lookup y.1 = some .local
 free : ∀ y ∈ scope.names, y.2 = .free -> (env.kindOf y.1 = some .cell \/ env.kindOf y.1 = some .free) /\ (y.1 == ("__classdict__" : Str)) = false
theorem scope_fits {scope : Scope} (h : scopeOk env.kindOf scope = true) : ScopeFits env scope := by
 unfold scopeOk at h
 rw [Bool.and_eq_true, List.all_eq_true] at h
 refine o01 h fun h1 h2 => ?_
 refine ⟨by simpa using h1, fun y hy e => ?_, fun y hy e => ?_, fun y hy e => ?_⟩
 ·have := h2 y hy; rw [e] at this; simp at this
 ·have := h2 y hy; rw [e] at this; simp at this; exact this
 ·have := h2 y hy; rw [e] at this; simpa using this
theorem lookup_mem {α : Type} {l : List (Str × α)} {n : Str} {c : α} (h : l.lookup n = some c) : (n, c) ∈ l := mem_of_lookup h
theorem comp_envOk {scope : Scope} {cl : List (Str × Addr)} {C : Addr} (O : EnvOk env) (Fs : ScopeFits env scope) (hcl : ∀ y, (y, NameKind.free) ∈ scope.names -> cl.lookup y = env.cells.lookup y) : EnvOk (compEnvC scope cl C env) where
 kind := Fs.kind
 glob := O.glob
 bui := O.bui
 cells := fun x hx => by
  rw [kinds_comp scope cl C O, kindsIn_eq] at hx
  show (cl.lookup x).isSome = true
  generalize e : scope.names.lookup x = zz; induction zz with
  | none => rw [e] at hx; simp at hx
  | some k =>
   rw [e] at hx
   have hm := lookup_mem e
   have hk : k = .free := by
    by_cases hf : k = .free
    ·exact hf
    ·have : (k == NameKind.free) = false := by simpa using hf
     simp only [Option.map_some, this, Bool.false_and, Bool.false_eq_true, if_false, Option.some.injEq] at hx
     rcases hx with hx | hx
     ·exact absurd hx (Fs.nocell _ hm)
     ·exact absurd hx hf
   subst hk
   rw [hcl x hm]
   exact O.cells x (Fs.free _ hm rfl).1
theorem comp_sees {scope : Scope} {cl : List (Str × Addr)} {C : Addr} (O : EnvOk env) (Fs : ScopeFits env scope) (hcl : ∀ y, (y, NameKind.free) ∈ scope.names -> cl.lookup y = env.cells.lookup y) {h : Heap} (hS : Sees w.params env hc h ρ) :
  Sees w.params (compEnvC scope cl C env) hc h (ρ.clear scope) := by
 intro x v hx hv
 unfold Rho.clear at hv
 split at hv
 ·exact No.ns hv
 ·rename_i hloc
  rw [kinds_comp scope cl C O, kindsIn_eq] at hx
  generalize e : scope.names.lookup x = zz; induction zz with
  | none => rw [e] at hx; exact No.ft hx
  | some k =>
   have hm := lookup_mem e
   by_cases hf : k = .free
   ·subst hf
    refine o01 (Fs.free _ hm rfl) fun h1 h2 => ?_
    refine o11 (hS x v (by rcases h1 with h1 | h1 <;> rw [h1] <;> rfl) hv) fun cv rd rp => ?_
    refine ⟨cv, ?_, rp⟩
    have hc' : ∃ c, env.cells.lookup x = some c /\ h.IsCell c (some cv) := by
     rcases rd with ⟨e', _⟩ | ⟨_, c, q, i⟩ | ⟨_, _, c, q, i⟩
     ·rcases h1 with h1 | h1 <;> rw [h1] at e' <;> cases e'
     ·exact ⟨c, q, i⟩
     ·exact ⟨c, q, i⟩
    refine o11 hc' fun c q i => ?_
    have q' : (compEnvC scope cl C env).cells.lookup x = some c := (hcl x hm).trans q
    rcases h1 with h1 | h1
    ·refine .inr (.inl ⟨?_, c, q', i⟩)
     rw [kinds_comp scope cl C O, kindsIn_eq, e, h1]; rfl
    ·refine .inr (.inr ⟨?_, h2, c, q', i⟩)
     rw [kinds_comp scope cl C O, kindsIn_eq, e, h1]; rfl
   ·exfalso
    have h3 : (k == NameKind.free) = false := by simpa using hf
    rw [e] at hx
    simp only [Option.map_some, h3, Bool.false_and, Bool.false_eq_true, if_false] at hx
    have h4 := Fs.nocell _ hm
    rcases k with ⟨⟩ <;> simp_all [kOk]
noncomputable def stdTurn (target iter : PySem.Expr) (ifs : List PySem.Expr) (emit : Sem Unit) (c : Code) (it : Value) (env : Env) : Sem Fin := do
 standAt iter.pos
 match <- pyNext it with
 | none => pure (.done .next)
 | some v =>
  letOwnedTupleGo target it v
  assign target env v
  let mut ok := true
  for c in ifs do
   if ok then ok <- isTrue c env (eval c env)
  if ok then
   emit
  again c
structure CompAt (w : World) (env cenv : Env) (X : List Addr) (D : Addr) (t : Ty) (s₁ : Shared) (hc₁ : PH) (ρ : Rho) (gone : List t.den) (s : Shared) (hc : PH) : Prop where
 step : StepX X s₁ s hc₁ hc
 out : ∀ b ∈ X, hc b = none
 ns : ∃ m, s.heap.Ns cenv.locals m
 sees : Sees w.params cenv hc s.heap ρ
 acc : ∃ vs n, s.heap.get? D = some { cls := .type "list", data := .seq (List.toArray vs) n } /\ Rel2 (Rep w.params hc t) gone vs
theorem CompAt.quiet {cenv : Env} {X : List Addr} {D : Addr} {t : Ty} {s₁ s s' : Shared} {hc₁ hc hd : PH} {ρ : Rho} {gone : List t.den} (x : CompAt w env cenv X D t s₁ hc₁ ρ gone s hc) (hX : ∀ b ∈ X, (s.heap.get? b).isSome = true) (k : Step s s' hc hd) :
  CompAt w env cenv X D t s₁ hc₁ ρ gone s' hd where
 step := x.step.trans (k.toX hX)
 out := fun b hb => k.out (x.out b hb) (hX b hb)
 ns := let ⟨m, n⟩ := x.ns; ⟨m, n.keeps (Keeps.old k.keeps)⟩
 sees := x.sees.step k
 acc := let ⟨vs, n, e, r⟩ := x.acc; ⟨vs, n, Keeps.old k.keeps _ _ e, r.mono fun _ _ h => h.mono k.le⟩
theorem append_gives {D : Addr} {vs : List Value} {n : Nat} {v : Value} {Q : Value -> Shared -> Prop} {E : Value -> Shared -> Prop} (hI : hc.In s.heap) (hD : hc D = none) (ho : s.heap.get? D = some { cls := .type "list", data := .seq vs.toArray n }) (hz : vs.length <= 8000000)
  (h : ∀ s' n', StepX [D] s s' hc hc -> s'.heap.get? D = some { cls := .type "list", data := .seq (vs ++ [v]).toArray n' } -> Q .none s') : wpAny (model prog w) A (call (.builtin "list.append") [.ref D, v]) Q E s := by
 refine wpAny_call_entry slot_list_append ⟨_, ho, rfl⟩ entry_list_append ?_ (args_list_append _ _)
 show wpAny _ _ (updateSeq D (·.push v) >>= fun _ => ret .none) _ _ s
 refine wpAny_bind ?_
 refine wpAny_updateSeq ho rfl (wpAny_pure ⟨.none, rfl, h _ (n + 1) ?_ ?_⟩) (by simp only [List.size_toArray]; rw [sizeLine_eq]; lia)
 ·refine StepX.one hI hD ⟨_, _, rfl⟩ (fun b o hb e => ?_) ?_
  ·show (s.heap.update D _).get? b = some o
   rw [Heap.get?_update_other _ _ (Ne.symm hb)]; exact e
  ·show ((s.heap.update D _).get? D).isSome = true
   rw [Heap.get?_update_self _ ho rfl]; rfl
 ·show (s.heap.update D _).get? D = _
  rw [Heap.get?_update_self _ ho rfl]
  simp [Obj.mapSeq]
end
end Mine
namespace Mine
theorem bindT_other {tg : PySem.Expr} {x : TV} {ρ : Rho} {y : Str} (h : y ∉ tnames tg) : bindT tg x ρ y = ρ y := by
 rcases tg_cases tg with e | ⟨n, p, rfl⟩ | ⟨n, p, m, q, k, r, rfl⟩
 ·unfold bindT; rw [e]
 ·exact if_neg fun e : y = n => h (List.mem_singleton.mpr e)
 ·exact (if_neg fun e : y = m => h (List.mem_cons_of_mem n (List.mem_singleton.mpr e))).trans (if_neg fun e : y = n => h (List.mem_cons.mpr (.inl e)))
theorem sees_unbind {P : Params} {env : Env} {hc : PH} {h : Heap} {ρ : Rho} {tg : PySem.Expr} {x : TV} (hf : ∀ n ∈ tnames tg, ρ n = none) (hS : Sees P env hc h (bindT tg x ρ)) : Sees P env hc h ρ :=
 fun y v hk hv => hS y v hk (by
  by_cases hy : y ∈ tnames tg
  ·rw [hf y hy] at hv; exact No.ns hv
  ·rw [bindT_other hy]; exact hv)
section
variable {prog : Program} {w : World} {A : Around} {s : Shared} {hc : PH} {F : FA} {d : Nat} {env cenv : Env} {ρ : Rho}
theorem cx_of {X : List Addr} {D : Addr} {t : Ty} {s₁ : Shared} {hc₁ : PH} {gone : List t.den} (x : CompAt w env cenv X D t s₁ hc₁ ρ gone s hc) (ao : AOk A d) (O : EnvOk cenv) (B : Bas F s.heap) (Fu : Funs F s.heap) : Cx F w d A cenv s hc ρ :=
 ⟨ao, B, Fu, x.step.inn, x.sees, O⟩
theorem comp_loop {c : Code} {target iter : PySem.Expr} {ifs : List PySem.Expr} {emit : Sem Unit} {I D : Addr} {its : Items} {fp X : List Addr} {PI : Nat -> Value -> Prop} {St : Nat -> Heap -> Prop} {t : Ty}
  {s₁ : Shared} {hc₁ : PH} {R : Result -> Shared -> Prop} {scope : Scope} (K : Nat) (te : Rho -> PySem.Expr -> Bool) (ct : Kinds -> Rho -> PySem.Expr -> Prop) (body : its.t.den -> List t.den)
  (hden : (model prog w).den c = (stdTurn target iter ifs emit c (.ref I) cenv).onRaise (fun x => do noteFrame x cenv; theTreesLotGoes x)) (hq : c.quiet = true) (hu : A.under c = A)
  (ao : AOk A d) (O : EnvOk cenv) (IX : I ∈ X) (CX : cenv.locals ∈ X) (hIC : I ≠ cenv.locals)
  (S : Src prog w w.params s₁ hc₁ I its fp PI St)
  (base : ∀ s hc, StepX X s₁ s hc₁ hc -> Bas F s.heap /\ Funs F s.heap)
  (hk : ∀ x, scope.names.lookup x = some .local -> cenv.kindOf x = some .local) (ht : targetOk scope its.t target = true) (hf : ∀ n ∈ tnames target, ρ n = none)
  (okt : ∀ x ∈ its.l, testsOk ct te cenv.kindOf (bindT target ⟨_, x⟩ ρ) ifs)
  (htest : ∀ x ∈ its.l, ∀ c ∈ ifs, ∀ s' hc', Cx F w d A cenv s' hc' (bindT target ⟨_, x⟩ ρ) -> ct cenv.kindOf (bindT target ⟨_, x⟩ ρ) c -> GivesB prog w A (isTrue c cenv (eval c cenv)) s' hc' (te (bindT target ⟨_, x⟩ ρ) c))
  (hemit : ∀ x ∈ its.l, allT (te (bindT target ⟨_, x⟩ ρ)) ifs = true -> ∀ gone s hc, CompAt w env cenv X D t s₁ hc₁ (bindT target ⟨_, x⟩ ρ) gone s hc -> (∀ b ∈ X, (s.heap.get? b).isSome = true) -> gone.length <= K ->
   ∀ (Q : Unit -> Shared -> Prop) (E : Value -> Shared -> Prop), (∀ s' hd, CompAt w env cenv X D t s₁ hc₁ (bindT target ⟨_, x⟩ ρ) (gone ++ body x) s' hd -> (∀ o, s.heap.get? I = some o -> s'.heap.get? I = some o) -> hc.le hd -> (∀ b ∈ X, (s'.heap.get? b).isSome = true) -> Q () s') -> wpAny (model prog w) A emit Q E s) :
  ∀ (gone : List t.den) {s : Shared} {hc : PH}, (∀ j, (gone ++ (its.l.take j).flatMap fun x => if allT (te (bindT target ⟨_, x⟩ ρ)) ifs then body x else []).length <= K) -> CompAt w env cenv X D t s₁ hc₁ ρ gone s hc -> (∀ b ∈ X, (s.heap.get? b).isSome = true) -> St 0 s.heap ->
  (∀ s' hd h' tk, CompAt w env cenv X D t s₁ hc₁ ρ (gone ++ its.l.flatMap fun x => if allT (te (bindT target ⟨_, x⟩ ρ)) ifs then body x else []) s' hd -> (∀ b ∈ X, (s'.heap.get? b).isSome = true) ->
   (∀ b o, b ≠ I -> s'.heap.get? b = some o -> h'.get? b = some o) -> IterPlain s'.heap I -> R (.ok .next) { s' with heap := h', toks := tk }) ->
  codeAny (model prog w) A c R s := by
 intro gone s hc hz C0 hXa st0 fin
 have frame : ∀ {i : Nat} {s s' : Shared} {hc : PH}, StepX X s₁ s hc₁ hc -> St i s.heap -> (∀ o, s.heap.get? I = some o -> s'.heap.get? I = some o) -> hc.In s'.heap -> St i s'.heap := fun x st hI hin =>
  S.frame ao.handled st hI (x.inn.of_le x.le) (hin.of_le x.le)
 let f : its.t.den -> List t.den := fun x => if allT (te (bindT target ⟨_, x⟩ ρ)) ifs then body x else []
 refine codeAny_loop hq (fun n s => ∃ j hc, n = its.l.length - j /\ j <= its.l.length /\ CompAt w env cenv X D t s₁ hc₁ ρ (gone ++ (its.l.take j).flatMap f) s hc /\ (∀ b ∈ X, (s.heap.get? b).isSome = true) /\ St j s.heap) ?_
  _ ⟨0, hc, rfl, Nat.zero_le _, by simpa using C0, hXa, st0⟩
 clear C0 hXa st0
 intro n s h
 refine Classical.byContradiction fun hno => ?_
 refine o24 h ?_; clear h; rintro j hc hn hj CA hX st
 refine hno ?_
 clear hno
 rw [hu, hden]
 refine wpAny_noted (hid fun Q' E' hQ => ?_)
 unfold stdTurn
 refine wpAny_bind (wpAny_standAt (wpAny_bind ?_))
 rcases Nat.lt_or_ge j its.l.length with hlt | hge
 ·refine (S.walks A ao.handled).item j s _ _ hlt st fun v h' tk hPI st' hk' => ?_
  refine Classical.byContradiction fun hno => ?_
  refine o11 (S.val j v hlt hPI) fun y hy ry => ?_
  have hymem : y ∈ its.l := List.mem_of_getElem? hy
  have hpl : IterPlain h' I := S.plain _ _ st'
  have step1 : StepX [I] s { s with heap := h', toks := tk } hc hc := StepX.one CA.step.inn (CA.out I IX) ⟨_, _, rfl⟩ (fun b o hb e => hk' b o (by simpa using hb) e) (by
   refine o11 hpl ?_; clear hpl; rintro o e _
   show (h'.get? I).isSome = true
   rw [e]; rfl)
  have step1X : StepX X s { s with heap := h', toks := tk } hc hc := step1.mono (all1 IX) hX
  have old1 : ∀ b o, b ≠ I -> s.heap.get? b = some o -> h'.get? b = some o := fun b o hb e => step1.old b o (fun h => hb (List.mem_singleton.mp h)) e
  refine o10 CA.ns fun m hn => ?_
  have hna : h'.Ns cenv.locals m := hn.at' fun o e => old1 _ o (Ne.symm hIC) e
  have hS1 : Sees w.params cenv hc h' ρ := CA.sees.turn (fun _ _ i => cell_ne_iter (S.plain _ _ st) i) (Ne.symm hIC) old1
  refine o21 CA.acc fun vs nD eD rD => ?_
  have hDC : D ≠ cenv.locals := list_ne_ns hn eD
  have eD1 := old1 D _ (list_ne_iter (S.plain _ _ st) eD) eD
  refine hno ?_
  clear hno eD hn
  show wpAny _ A (letOwnedTupleGo target (.ref I) v >>= _) _ _ _
  refine wpAny_bind (letGo_plain (s := { s with heap := h', toks := tk }) hpl ?_)
  refine wpAny_bind (bind_gives (s := { s with heap := h', toks := tk }) (hc := hc) (env := cenv) ao.handled O step1X.inn (CA.out _ CX) hS1 hk ht hna (ry.mono CA.step.le) fun sb me step2 hnd hS2 => ?_)
  have step2X : StepX X { s with heap := h', toks := tk } sb hc hc := step2.mono (all1 CX) step1X.live
  have step12 := CA.step.trans (step1X.trans step2X)
  have C2 : CompAt w env cenv X D t s₁ hc₁ (bindT target ⟨_, y⟩ ρ) (gone ++ (its.l.take j).flatMap f) sb hc := ⟨step12, CA.out, ⟨me, hnd⟩, hS2, vs, nD, step2.old D _ (fun h => hDC (List.mem_singleton.mp h)) eD1, rD⟩
  have stb : St (j + 1) sb.heap := frame (CA.step.trans step1X) st' (fun o e => step2.old I o (fun h => hIC (List.mem_singleton.mp h)) e) step2.inn
  have bf := base _ _ step12
  refine wpAny_bind (tests_gives te ct ifs true (cx_of C2 ao O bf.1 bf.2) (fun _ => okt y hymem) (htest y hymem) fun sd hV stc => ?_)
  rw [Bool.true_and]
  have C3 := C2.quiet step2X.live stc
  have hX3 := (stc.toX step2X.live).live
  have st3' : St (j + 1) sd.heap := frame step12 stb (fun o e => Keeps.old stc.keeps _ _ e) fun a o e => stc.inn a o (stc.le a o e)
  have htake : (its.l.take (j + 1)).flatMap f = (its.l.take j).flatMap f ++ f y := by
   rw [List.take_add_one, hy]; simp
  have less : its.l.length - (j + 1) < n := by lia
  clear C2 stb bf step12 step2X hS2 hnd step2 eD1 hDC hS1 hna old1 step1X step1 hpl st'
  by_cases hb : allT (te (bindT target ⟨_, y⟩ ρ)) ifs = true
  ·rw [if_pos hb]
   refine wpAny_bind (hemit y hymem hb _ _ _ C3 hX3 (hz j) _ _ fun se hW C4 eI4 lee hX4 => wpAny_pure (hQ _ _ ?_))
   refine ⟨rfl, _, less, j + 1, hW, rfl, hlt, ?_, hX4, frame C3.step st3' eI4 fun a o e => C4.step.inn a o (lee a o e)⟩
   rw [htake, show f y = body y from if_pos hb, <- List.append_assoc]
   exact ⟨C4.step, C4.out, C4.ns, sees_unbind hf C4.sees, C4.acc⟩
  ·rw [if_neg hb]
   refine wpAny_bind (wpAny_pure (wpAny_pure (hQ _ _ ?_)))
   refine ⟨rfl, _, less, j + 1, hV, rfl, hlt, ?_, hX3, st3'⟩
   rw [htake, show f y = [] from if_neg hb, List.append_nil]
   exact ⟨C3.step, C3.out, C3.ns, sees_unbind hf C3.sees, C3.acc⟩
 ·have hj' : j = its.l.length := Nat.le_antisymm hj hge
  refine (S.walks A ao.handled).done s _ _ (hj' ▸ st) fun h' tk hk' => wpAny_pure (hQ _ _ ?_)
  refine fin s hc h' tk ?_ hX (fun b o hb e => hk' b o (by simpa using hb) e) (S.plain _ _ st)
  rw [hj', List.take_length] at CA
  exact CA
end
end Mine
namespace Mine
theorem pk_not_set {U : Use} {n : Nat} {κ : Kinds} {ρ : Rho} {e : PySem.Expr} (h : pk U n κ ρ e) (env : Env) (x : Value) : foldedSetIterable e env x = pure x := by
 induction n with
 | zero => exact h.elim
 | succ n => rcases e with ⟨⟩ <;> first | rfl | exact False.elim h
section
variable {prog : Program} {w : World} {A : Around} {s : Shared} {hc : PH} {F : FA} {d : Nat} {env : Env} {ρ : Rho}
theorem comp_start {e : PySem.Expr} {scope : Scope} {cl : List (Str × Addr)} {I : Addr} {RR : Value -> Addr -> Result -> Shared -> Prop} {E : Value -> Shared -> Prop} (O : EnvOk env) (Fs : ScopeFits env scope)
  (hcl : ∀ y, (y, NameKind.free) ∈ scope.names -> cl.lookup y = env.cells.lookup y) (C0 : Cx F w d A env s hc ρ)
  (h : ∀ D C s₁ m, s.heap.get? D = none -> s.heap.get? C = none -> D ≠ C -> Step s s₁ hc hc -> s₁.heap.Ns C m -> s₁.heap.get? D = some { cls := .type "list", data := .seq (List.toArray []) 0 } ->
   Sees w.params (compEnvC scope cl C env) hc s₁.heap (ρ.clear scope) -> EnvOk (compEnvC scope cl C env) -> (compEnvC scope cl C env).locals = C ->
   codeAny (model prog w) A (.compStart e 0 (.ref I) (.ref D) (compEnvC scope cl C env)) (RR (.ref D) C) s₁) :
  wpAny (model prog w) A (newList []) (fun acc sd => wpAny (model prog w) A (newFunctionEnv scope env.globals cl [] env.qual none .none (some env)) (fun cenv se =>
   codeAny (model prog w) A (.compStart e 0 (.ref I) acc { cenv with scope := relabel scope env }) (RR acc cenv.locals) se) E sd) E s := by
 refine wpAny_newObj_type (wpAny_newFunctionEnv Fs.nocell (by intro y hy; rcases hy with ⟨⟩) (fun hB hns1 hsb1 => ?_) Fs.kind)
 dsimp only at hns1 hsb1 ⊢
 generalize hH2 : s.heap.push { cls := .type "list", dict := none, data := .seq ([] : List Value).toArray } = H2 at hns1 hsb1 ⊢
 have hC : H2.objs.size = s.heap.objs.size + 1 := by rw [<- hH2, Heap.size_push]
 have hDC : s.heap.objs.size ≠ H2.objs.size := by rw [hC]; exact Nat.ne_of_lt (Nat.lt_succ_self _)
 have old : ∀ b o, s.heap.get? b = some o -> hB.get? b = some o := fun b o e => hsb1.extBut b o (by rw [hC]; exact Nat.ne_of_lt (Nat.lt_succ_of_lt (Heap.lt_size e))) (Heap.get?_push_of_some _ (hH2 ▸ Heap.get?_push_of_some _ e))
 have st : Step s { s with heap := hB, toks := s.toks + ([] : List (Str × Value)).length } hc hc := Step.quiet C0.inn ⟨_, _, rfl, old⟩
 exact h s.heap.objs.size H2.objs.size _ _ (free_size _) (by rw [hC]; exact next_free _) hDC st hns1 (hsb1.extBut _ _ hDC (Heap.get?_push_of_some _ (hH2 ▸ Heap.get?_push_size _ rfl)))
  (comp_sees O Fs hcl (C0.sees.step st)) (comp_envOk O Fs hcl) rfl
noncomputable abbrev CompEnd (w : World) (s : Shared) (hc : PH) (t : Ty) (l : List t.den) (RR : Value -> Addr -> Result -> Shared -> Prop) : Prop :=
 ∀ D C s' hd m vs n, s.heap.get? D = none -> s.heap.get? C = none -> D ≠ C -> Step s s' hc hd -> hd D = none -> hd C = none -> s'.heap.Ns C m ->
  s'.heap.get? D = some { cls := .type "list", data := .seq (List.toArray vs) n } -> Rel2 (Rep w.params hd t) l vs -> RR (.ref D) C (.ok .next) s'
structure CFr (F : FA) (env cenv : Env) (scope : Scope) (I C D : Addr) (s₁ : Shared) (hc₁ : PH) : Prop where
 O : EnvOk cenv
 kk : cenv.kindOf = kindsIn env.kindOf scope
 hk : ∀ x, scope.names.lookup x = some .local -> cenv.kindOf x = some .local
 loc : cenv.locals = C
 DC : D ≠ C
 IC : I ≠ C
 ID : I ≠ D
 base : ∀ s' hc', StepX [I, C, D] s₁ s' hc₁ hc' -> Bas F s'.heap /\ Funs F s'.heap
noncomputable def emitLast (elt : PySem.Expr) (D : Addr) (cenv : Env) : Sem Unit := do let _ <- call (.builtin "list.append") [.ref D, <- eval elt cenv]
noncomputable abbrev Turned (w : World) (env cenv : Env) (I C D : Addr) (t : Ty) (s₁ : Shared) (hc₁ : PH) (ρ : Rho) (l : List t.den) (s : Shared) (hc : PH) (Q : Unit -> Shared -> Prop) : Prop :=
 ∀ s' hd, CompAt w env cenv [I, C, D] D t s₁ hc₁ ρ l s' hd -> (∀ o, s.heap.get? I = some o -> s'.heap.get? I = some o) -> hc.le hd -> (∀ b ∈ [I, C, D], (s'.heap.get? b).isSome = true) -> Q () s'
theorem emit_last {elt : PySem.Expr} {cenv : Env} {scope : Scope} {I C D : Addr} {t : Ty} {s₁ : Shared} {hc₁ : PH} {ρ : Rho} {x : t.den} (G : CFr F env cenv scope I C D s₁ hc₁) (ao : AOk A d)
  (ev : ∀ s hc, Cx F w d A cenv s hc ρ -> Gives prog w A (eval elt cenv) s hc t x) {gone : List t.den} {s : Shared} {hc : PH} (CA : CompAt w env cenv [I, C, D] D t s₁ hc₁ ρ gone s hc) (hX : ∀ b ∈ [I, C, D], (s.heap.get? b).isSome = true) (hz : gone.length <= 8000000)
  {Q : Unit -> Shared -> Prop} {E : Value -> Shared -> Prop} (h : Turned w env cenv I C D t s₁ hc₁ ρ (gone ++ [x]) s hc Q) : wpAny (model prog w) A (emitLast elt D cenv) Q E s := by
 have bf := G.base _ _ CA.step
 refine wpAny_bind (ev s hc (cx_of CA ao G.O bf.1 bf.2) _ _ fun sb hO v st r => ?_)
 have C2 := CA.quiet hX st
 have hX2 := (st.toX hX).live
 have DX : D ∈ [I, C, D] := .tail _ (.tail _ (.head _))
 refine o21 C2.acc fun vs n eD rD => ?_
 refine wpAny_bind (append_gives st.inn (C2.out D DX) eD (Nat.le_trans (Nat.le_of_eq rD.length.symm) hz) fun sd n' stc eD' => wpAny_pure ?_)
 have st3X := stc.mono (Y := [I, C, D]) (all1 DX) hX2
 have old : ∀ b o, b ≠ D -> sb.heap.get? b = some o -> sd.heap.get? b = some o := fun b o hb e => stc.old b o (fun h => hb (List.mem_singleton.mp h)) e
 have hL : cenv.locals ≠ D := fun e => G.DC (e ▸ G.loc)
 refine h sd hO ⟨C2.step.trans st3X, C2.out, ?_, C2.sees.turn (fun _ _ i => cell_ne_list eD i) hL old, vs ++ [v], n', eD', rD.snoc r⟩ (fun o e => old _ o G.ID (Keeps.old st.keeps _ _ e)) st.le st3X.live
 refine o10 C2.ns fun m hn => ?_
 exact ⟨m, hn.at' fun o e => old _ o hL e⟩
theorem Src.step {s s' : Shared} {hc hd : PH} {P : Params} {I : Addr} {its : Items} {fp : List Addr} {PI : Nat -> Value -> Prop} {St : Nat -> Heap -> Prop} (S : Src prog w P s hc I its fp PI St) (hh : A.handled = none) (hI : hc.In s.heap) (k : Step s s' hc hd) : Src prog w P s' hd I its fp PI St where
 fresh := k.out S.fresh (by refine o11 (S.plain _ _ S.start) fun o e _ => ?_; rw [e]; rfl)
 walks := S.walks
 start := (S.walks A hh).frame _ _ _ S.start fun b _ o e => Keeps.old k.keeps b o e
 foot := fun b hb => (S.foot b hb).imp id fun ⟨o, e⟩ => ⟨o, k.le _ _ e⟩
 plain := S.plain
 val := fun j v hj hv => let ⟨y, h1, h2⟩ := S.val j v hj hv; ⟨y, h1, h2.mono k.le⟩
theorem Step.thenI {X : List Addr} {I : Addr} {s s₁ sb : Shared} {hc hd he : PH} {h' : Heap} {tk : Nat} (x : Step s s₁ hc hd) (y : StepX X s₁ sb hd he) (hf : ∀ b ∈ X, s.heap.get? b = none) (IX : I ∈ X) (hI : he I = none)
  (k : ∀ b o, b ≠ I -> sb.heap.get? b = some o -> h'.get? b = some o) : Step s { sb with heap := h', toks := tk } hc he where
 keeps := by
  refine o21 x.keeps ?_; rintro h1 t1 rfl k1
  refine o20 y.same ?_; rintro h2 t2 rfl
  refine ⟨h', tk, rfl, fun b o e => ?_⟩
  have hb : b ∉ X := fun hb => by rw [hf b hb] at e; exact No.ns e
  exact k b o (fun h => hb (h ▸ IX)) (y.old b o hb (k1 b o e))
 le := x.le.trans y.le
 new := (x.then y hf).new
 inn := fun b o e => k b o (fun h => by subst h; rw [hI] at e; exact No.ns e) (y.inn b o e)
theorem Gives.cast {m : Sem Value} {v : TV} {t : Ty} (h : v.t = t) (g : Gives prog w A m s hc v.t v.v) : Gives prog w A m s hc t (v.as t) := by
 subst h
 have : v.as v.t = v.v := by rcases v with ⟨⟩; exact TV.as_self _ _
 rw [this]; exact g
theorem flatMap_le {α β : Type} {f : α -> List β} {k : Nat} : ∀ {l : List α}, (∀ x ∈ l, (f x).length <= k) -> (l.flatMap f).length <= l.length * k
 | [], _ => by simp
 | a :: l, h => by
  rw [List.flatMap_cons, List.length_append, List.length_cons, Nat.add_mul, Nat.one_mul]
  have := h a List.mem_cons_self
  have := flatMap_le (l := l) fun x hx => h x (List.mem_cons_of_mem _ hx)
  lia
theorem clear_target {scope : Scope} {tg : PySem.Expr} {t : Ty} (ht : targetOk scope t tg = true) : ∀ n ∈ tnames tg, (ρ.clear scope) n = none := by
 intro n hn
 have : scope.names.lookup n = some .local := by
  rcases tg_cases tg with e | ⟨a, p, rfl⟩ | ⟨a, p, b, q, k, r, rfl⟩
  ·unfold targetOk at ht
   rw [e] at ht
   exact No.ft ht
  ·rw [List.mem_singleton.mp hn]; exact eq_of_beq ht
  ·simp only [targetOk, tgOf, twoOf, nameOf, Option.bind, Option.map, Bool.and_eq_true, beq_iff_eq] at ht
   exact all2 (P := fun n => scope.names.lookup n = some .local) ht.1.1.1 ht.1.1.2 n hn
 simp [Rho.clear, this]
theorem items_len {x : TV} (h : x.itemsOk) : x.items.l.length <= 2000 := by
 obtain ⟨t, x⟩ := x
 rcases t with ⟨⟩ <;> try exact h.elim
 ·obtain ⟨a, b, c⟩ := x
  refine o02 h fun hc ha hb => ?_
  show (rangeOf a b c).length <= 2000
  rw [range_len]
  exact Nat.le_trans (Int.toNat_le.mpr Int.le_natAbs) (size_abs hc ha hb)
 ·exact Nat.le_trans (show (List.length x) <= 1000 from h) (by decide)
 ·exact Nat.le_trans (show (List.length x) <= 1000 from h) (by decide)
section
variable {U : Use} {n : Nat}
noncomputable abbrev EvAll (prog : Program) (w : World) (F : FA) (U : Use) (d n : Nat) : Prop := ∀ A env s hc ρ e, Cx F w d A env s hc ρ -> pk U n env.kindOf ρ e -> Gives prog w A (eval e env) s hc (pv n ρ e).t (pv n ρ e).v
noncomputable abbrev TeAll (prog : Program) (w : World) (F : FA) (U : Use) (d n : Nat) : Prop := ∀ A env s hc ρ e, Cx F w d A env s hc ρ -> tk U n env.kindOf ρ e -> GivesB prog w A (isTrue e env (eval e env)) s hc (tv n ρ e)
theorem comp_gen {elt target iter : PySem.Expr} {ifs : List PySem.Expr} {rest : List Comprehension} {scope : Scope} {pos : Pos} {t : Ty} (K : Nat) (emit : Addr -> Env -> Sem Unit) (body : (pv n ρ iter).items.t.den -> List t.den)
  (EV : EvAll prog w F U d n) (TE : TeAll prog w F U d n) (C0 : Cx F w d A env s hc ρ) (sc : scopeOk env.kindOf scope = true) (cki : pk U n env.kindOf ρ iter) (okit : (pv n ρ iter).itemsOk) (okt : targetOk scope (pv n ρ iter).items.t target = true)
  (hturn : ∀ (I D : Addr) cenv, (model prog w).den (.compLoop (.ListComp elt (⟨target, iter, ifs, 0⟩ :: rest) scope pos) 0 (.ref I) (.ref D) cenv) =
   (stdTurn target iter ifs (emit D cenv) (.compLoop (.ListComp elt (⟨target, iter, ifs, 0⟩ :: rest) scope pos) 0 (.ref I) (.ref D) cenv) (.ref I) cenv).onRaise (fun x => do noteFrame x cenv; theTreesLotGoes x))
  (okc : ∀ x ∈ (pv n ρ iter).items.l, testsOk (tk U n) (tv n) (kindsIn env.kindOf scope) (bindT target ⟨_, x⟩ (ρ.clear scope)) ifs)
  (hemit : ∀ {I C D : Addr} {cenv : Env} {s₁ : Shared} {hc₁ : PH}, CFr F env cenv scope I C D s₁ hc₁ -> ∀ x ∈ (pv n ρ iter).items.l, allT (tv n (bindT target ⟨_, x⟩ (ρ.clear scope))) ifs = true ->
   ∀ gone s hc, CompAt w env cenv [I, C, D] D t s₁ hc₁ (bindT target ⟨_, x⟩ (ρ.clear scope)) gone s hc -> (∀ b ∈ [I, C, D], (s.heap.get? b).isSome = true) -> gone.length <= K ->
   ∀ (Q : Unit -> Shared -> Prop) (E : Value -> Shared -> Prop), Turned w env cenv I C D t s₁ hc₁ (bindT target ⟨_, x⟩ (ρ.clear scope)) (gone ++ body x) s hc Q -> wpAny (model prog w) A (emit D cenv) Q E s)
  (hlen : ∀ j, (((pv n ρ iter).items.l.take j).flatMap fun x => if allT (tv n (bindT target ⟨_, x⟩ (ρ.clear scope))) ifs then body x else []).length <= K)
  {RR : Value -> Addr -> Result -> Shared -> Prop} {E : Value -> Shared -> Prop}
  (hRR : CompEnd w s hc t ((pv n ρ iter).items.l.flatMap fun x => if allT (tv n (bindT target ⟨_, x⟩ (ρ.clear scope))) ifs then body x else []) RR) :
  ∃ cl, closureFor scope env = pure cl /\ wpAny (model prog w) A (eval iter env) (fun x s₁ => wpAny (model prog w) A (pyIter x) (fun it sb => wpAny (model prog w) A (newList []) (fun acc sd =>
   wpAny (model prog w) A (newFunctionEnv scope env.globals cl [] env.qual none .none (some env)) (fun cenv se =>
    codeAny (model prog w) A (.compStart (.ListComp elt (⟨target, iter, ifs, 0⟩ :: rest) scope pos) 0 it acc { cenv with scope := relabel scope env }) (RR acc cenv.locals) se) E sd) E sb) E s₁) E s := by
 have Fs := scope_fits (env := env) sc
 refine o11 (closure_ok (env := env) fun y hy e => C0.env.cells _ (Fs.free y hy e).1) fun cl e1 e2 => ?_
 refine ⟨cl, e1, EV _ _ _ _ _ _ C0 cki _ _ fun s1 h1 v st1 r1 => src_gives st1.inn r1 okit fun s2 I fp PI St hI0 st2 hIl S => ?_⟩
 refine comp_start C0.env Fs e2 (C0.step (st1.trans st2)) fun D C s3 m hD hC hDC st3 hn3 eD hS3 O3 hloc => ?_
 have S3 := S.step C0.ao.handled st2.inn st3
 have st12 := st1.trans st2
 have hX : ∀ b ∈ [I, C, D], (s3.heap.get? b).isSome = true := by
  refine all3 ?_ ?_ (by rw [eD]; rfl)
  ·refine o10 (Option.isSome_iff_exists.mp hIl) fun o e => ?_
   rw [Keeps.old st3.keeps _ _ e]; rfl
  ·refine o31 hn3 fun o _ _ e _ => ?_; rw [e]; rfl
 have hout : ∀ b ∈ [I, C, D], h1 b = none := all3 S.fresh (st2.inn.none hC) (st2.inn.none hD)
 have hfr : ∀ b ∈ [I, C, D], s.heap.get? b = none := all3 (Keeps.fresh st1.keeps hI0) (Keeps.fresh st12.keeps hC) (Keeps.fresh st12.keeps hD)
 have st13 := st12.trans st3
 have G : CFr F env (compEnvC scope cl C env) scope I C D s3 h1 := ⟨O3, kinds_comp scope cl C C0.env, fun x hx => lookup_relabel_local hx, hloc, hDC, fun e => by rw [e, hC] at hIl; exact No.ft hIl, fun e => by rw [e, hD] at hIl; exact No.ft hIl,
  fun s' hc' x => have k := st13.then x hfr; ⟨C0.bas.keeps (Keeps.old k.keeps), C0.funs.keeps (Keeps.old k.keeps)⟩⟩
 have loop : codeAny (model prog w) A (.compLoop (.ListComp elt (⟨target, iter, ifs, 0⟩ :: rest) scope pos) 0 (.ref I) (.ref D) (compEnvC scope cl C env)) (RR (.ref D) C) s3 := by
  refine comp_loop (ρ := ρ.clear scope) (scope := scope) (X := [I, C, D]) (hc₁ := h1) (s₁ := s3) (D := D) K (tv n) (tk U n) body (hturn I D _) rfl (Around.under_of_weight rfl) C0.ao O3 (.head _) (hloc ▸ .tail _ (.head _)) (hloc ▸ G.IC) S3 G.base
   G.hk okt (clear_target okt) (G.kk ▸ okc) (fun x hx c hc s' hc' Cx' h => TE _ _ _ _ _ _ Cx' h) (hemit G) [] (fun j => hlen j) ⟨(Step.rfl' st3.inn).toX hX, hout, ⟨m, hn3⟩, hS3, [], 0, eD, .nil⟩ hX S3.start fun s' hd h' tk CA hX' hk' hpl => ?_
  refine o21 CA.acc fun vs nn eD' rD => ?_
  refine o10 CA.ns fun m' hn' => ?_
  exact hRR D C _ hd m' vs nn (hfr D (.tail _ (.tail _ (.head _)))) (hfr C (.tail _ (.head _))) hDC (st13.thenI CA.step hfr (.head _) (CA.out I (.head _)) hk') (CA.out D (.tail _ (.tail _ (.head _)))) (CA.out C (.tail _ (.head _)))
   (hn'.at' fun o e => hk' _ o (hloc ▸ Ne.symm G.IC) e) (hk' D _ (Ne.symm G.ID) eD') rD
 exact codeAny_compStart_list loop ((S3.walks A C0.ao.handled).self 0 _ _ _ S3.start loop)
theorem ifs_le {α β : Type} {b : α -> Bool} {f : α -> List β} {k : Nat} {l : List α} (h : ∀ x ∈ l, (f x).length <= k) (j : Nat) : ((l.take j).flatMap fun x => if b x then f x else []).length <= l.length * k :=
 Nat.le_trans (flatMap_le fun x hx => by split; exact h x (List.mem_of_mem_take hx); exact Nat.zero_le _) (Nat.mul_le_mul_right _ (by rw [List.length_take]; exact Nat.min_le_right _ _))
theorem comp_one {elt : PySem.Expr} {g : Comprehension} {scope : Scope} {pos : Pos} (EV : EvAll prog w F U d n) (TE : TeAll prog w F U d n) (C0 : Cx F w d A env s hc ρ)
  (ok : compOk (pk U n) (tk U n) (pv n) (tv n) env.kindOf scope elt ρ [g]) {RR : Value -> Addr -> Result -> Shared -> Prop} {E : Value -> Shared -> Prop}
  (hRR : CompEnd w s hc _ (compV (pv n) (tv n) elt (compT (pv n) elt [g] ρ (ρ.clear scope)) [g] ρ (ρ.clear scope)) RR) :
  ∃ cl, closureFor scope env = pure cl /\ wpAny (model prog w) A (eval g.iter env) (fun x s₁ => wpAny (model prog w) A (pyIter x) (fun it sb => wpAny (model prog w) A (newList []) (fun acc sd =>
   wpAny (model prog w) A (newFunctionEnv scope env.globals cl [] env.qual none .none (some env)) (fun cenv se =>
    codeAny (model prog w) A (.compStart (.ListComp elt [g] scope pos) 0 it acc { cenv with scope := relabel scope env }) (RR acc cenv.locals) se) E sd) E sb) E s₁) E s := by
 obtain ⟨target, iter, ifs, as⟩ := g
 obtain rfl : as = 0 := ok.2.2.2.2.1
 have okx := ok.2.2.2.2.2
 exact comp_gen 8000000 (emitLast elt) (fun x => [(pv n (bindT target ⟨_, x⟩ (ρ.clear scope)) elt).as _]) EV TE C0 ok.1 ok.2.1 ok.2.2.1 ok.2.2.2.1 (fun _ _ _ => rfl) (fun x hx => (okx x hx).1)
  (fun G x hx hall gone s hc CA hX hz Q E hQ => emit_last G C0.ao (fun s hc Cx' => Gives.cast ((okx x hx).2 hall).2 (EV _ _ _ _ _ _ Cx' (G.kk ▸ ((okx x hx).2 hall).1))) CA hX hz hQ)
  (fun j => Nat.le_trans (ifs_le (k := 1) (f := fun x => [(pv n (bindT target ⟨_, x⟩ (ρ.clear scope)) elt).as _]) (fun _ _ => Nat.le_refl 1) j) (Nat.le_trans (Nat.mul_le_mul_right 1 (items_len ok.2.2.1)) (by decide))) hRR
end
end
end Mine
namespace Mine
section
variable {prog : Program} {w : World} {A : Around} {s : Shared} {hc : PH} {F : FA} {d : Nat} {env : Env} {ρ : Rho} {U : Use} {n : Nat}
theorem codeAny_compStart1 {elt : PySem.Expr} {gc ge : Comprehension} {scope : Scope} {pos : Pos} {it acc : Value} {R : Result -> Shared -> Prop} (hg : ge.is_async = 0)
  (h0 : codeAny (model prog w) A (.compLoop (.ListComp elt [gc, ge] scope pos) 1 it acc env) R s)
  (h : wpAny (model prog w) A (pyIter it) (fun it' s' => codeAny (model prog w) A (.compLoop (.ListComp elt [gc, ge] scope pos) 1 it' acc env) R s')
   (notedBy (model prog w) A env fun x s' => R (.error x) s') s) :
  codeAny (model prog w) A (.compStart (.ListComp elt [gc, ge] scope pos) 1 it acc env) R s := by
 obtain ⟨t1, i1, f1, a1⟩ := ge
 simp only at hg
 subst hg
 refine codeAny_of_tree ?_
 show wpAny _ _ ((compStart (.ListComp elt [gc, ⟨t1, i1, f1, 0⟩] scope pos) 1 it acc env).onRaise (fun x => do noteFrame x env; standAt theWindowsPlace)) _ _ s
 refine wpAny_notedAt ?_
 unfold compStart
 show wpAny _ _ (ask >>= _) _ _ s
 refine wpAny_bind (wpAny_askSetting (wpAny_ite ?_))
 split
 ·first
   | exact wpAny_bind (wpAny_pure (wpAny_pure (And.intro rfl h0)))
   | exact wpAny_pure (And.intro rfl h0)
 ·first
   | exact wpAny_bind (wpAny_rule (wpAny_bind (wpAny_standAt (wpAny_bind (wpAny_mono h (fun it' s' h' => wpAny_pure (And.intro rfl h')) fun _ _ x => x)))))
   | (refine wpAny_bind (wpAny_rule ?_); show wpAny _ _ (standAt i1.pos >>= _) _ _ s; exact wpAny_bind (wpAny_standAt (wpAny_bind (wpAny_mono h (fun it' s' h' => wpAny_pure (And.intro rfl h')) fun _ _ x => x))))
theorem StepX.inner {X Y : List Addr} {I : Addr} {s s₁ sb : Shared} {hc hd he : PH} {h' : Heap} {tk : Nat} (x : Step s s₁ hc hd) (y : StepX (I :: X) s₁ sb hd he) (hf : s.heap.get? I = none) (hI : he I = none)
  (k : ∀ b o, b ≠ I -> sb.heap.get? b = some o -> h'.get? b = some o) (hY : ∀ b ∈ X, b ∈ Y) (hl : ∀ b ∈ Y, (s.heap.get? b).isSome = true) : StepX Y s { sb with heap := h', toks := tk } hc he where
 same := by
  refine o21 x.keeps ?_; rintro h1 t1 rfl _
  refine o20 y.same ?_; rintro h2 t2 rfl
  exact ⟨h', tk, rfl⟩
 old := fun b o hb e => by
  have hbI : b ≠ I := fun h => Option.some_ne_none o ((h ▸ e).symm.trans hf)
  exact k b o hbI (y.old b o (fun hx => (List.mem_cons.mp hx).elim hbI fun hx => hb (hY b hx)) (Keeps.old x.keeps _ _ e))
 le := x.le.trans y.le
 new := fun a o e => (y.new a o e).elim (x.new a o) fun e => .inr (Keeps.fresh x.keeps e)
 inn := fun b o e => k b o (fun h => Option.some_ne_none o ((h ▸ e).symm.trans hI)) (y.inn b o e)
 live := fun b hb => by
  refine o10 (Option.isSome_iff_exists.mp (hl b hb)) fun o e => ?_
  have hbI : b ≠ I := fun h => Option.some_ne_none o ((h ▸ e).symm.trans hf)
  show (h'.get? b).isSome = true
  by_cases hx : b ∈ X
  ·refine o10 (Option.isSome_iff_exists.mp (y.live b (List.mem_cons_of_mem _ hx))) fun o' e' => ?_
   rw [k b o' hbI e']; rfl
  ·rw [k b o hbI (y.old b o (fun h => (List.mem_cons.mp h).elim hbI hx) (Keeps.old x.keeps _ _ e))]; rfl
noncomputable def emitTwo (e : PySem.Expr) (iter : PySem.Expr) (D : Addr) (cenv : Env) : Sem Unit := do
 let x <- eval iter cenv
 standAt iter.pos
 let x <- foldedSetIterable iter cenv x
 let _ <- runOwn (.compStart e 1 (<- holding [x] (pyIter x)) (.ref D) cenv) cenv
theorem two_turn {elt target iter target' iter' : PySem.Expr} {ifs' : List PySem.Expr} {scope : Scope} {pos : Pos} (I D : Addr) (cenv : Env) : (model prog w).den (.compLoop (.ListComp elt [⟨target, iter, [], 0⟩, ⟨target', iter', ifs', 0⟩] scope pos) 0 (.ref I) (.ref D) cenv) =
  (stdTurn target iter [] (emitTwo (.ListComp elt [⟨target, iter, [], 0⟩, ⟨target', iter', ifs', 0⟩] scope pos) iter' D cenv) (.compLoop (.ListComp elt [⟨target, iter, [], 0⟩, ⟨target', iter', ifs', 0⟩] scope pos) 0 (.ref I) (.ref D) cenv) (.ref I) cenv).onRaise (fun x => do noteFrame x cenv; theTreesLotGoes x) := by
 show (compTurn _ _ _ _ _).onRaise _ = _
 unfold compTurn stdTurn emitTwo
 simp only [List.getElem?_cons_zero, List.getElem?_cons_succ, bind_assoc, pure_bind]
 rfl
theorem emit_two {elt target' iter' : PySem.Expr} {ifs' : List PySem.Expr} {g : Comprehension} {scope : Scope} {pos : Pos} {I C D : Addr} {cenv : Env} {s₁ : Shared} {hc₁ : PH} {t : Ty} {gone : List t.den} (EV : EvAll prog w F U d n) (TE : TeAll prog w F U d n) (ao : AOk A d)
  (G : CFr F env cenv scope I C D s₁ hc₁) (hf : ∀ x ∈ tnames target', ρ x = none) (ck2 : pk U n (kindsIn env.kindOf scope) ρ iter') (ok : compOk1 (pk U n) (tk U n) (pv n) (tv n) (kindsIn env.kindOf scope) scope elt t ⟨target', iter', ifs', 0⟩ ρ ρ)
  (CA : CompAt w env cenv [I, C, D] D t s₁ hc₁ ρ gone s hc) (hX : ∀ b ∈ [I, C, D], (s.heap.get? b).isSome = true) (hz : gone.length <= 4000000) {Q : Unit -> Shared -> Prop} {E : Value -> Shared -> Prop}
  (hQ : Turned w env cenv I C D t s₁ hc₁ ρ (gone ++ compV (pv n) (tv n) elt t [⟨target', iter', ifs', 0⟩] ρ ρ) s hc Q) : wpAny (model prog w) A (emitTwo (.ListComp elt [g, ⟨target', iter', ifs', 0⟩] scope pos) iter' D cenv) Q E s := by
 refine o03 ok fun oki okt _ okx => ?_
 have bf := G.base _ _ CA.step
 refine wpAny_bind (EV _ _ _ _ _ _ (cx_of CA ao G.O bf.1 bf.2) (G.kk ▸ ck2) _ _ fun s4 h4 v4 st4 r4 => ?_)
 refine wpAny_bind (wpAny_standAt (wpAny_bind (wpAny_of_eq (pk_not_set ck2 _ _) (wpAny_bind (wpAny_holding (src_gives st4.inn r4 oki fun s5 J fp' PI' St' hJ0 st5 hJl S5 => ?_))))))
 have st45 := st4.trans st5
 have hJf : s.heap.get? J = none := Keeps.fresh st4.keeps hJ0
 have CA5 := CA.quiet hX st45
 have hX5 := (st45.toX hX).live
 have ne : ∀ b ∈ [I, C, D], J ≠ b := fun b hb e => by
  have := hX b hb
  rw [<- e, hJf] at this; exact No.ft this
 have hXJ : ∀ b ∈ [J, C, D], (s5.heap.get? b).isSome = true := allc hJl fun b hb => hX5 b (.tail _ hb)
 have houtJ : ∀ b ∈ [J, C, D], h4 b = none := allc S5.fresh fun b hb => CA5.out b (.tail _ hb)
 have sub : ∀ b ∈ [C, D], b ∈ [I, C, D] := fun b hb => .tail _ hb
 have GJ : CFr F env cenv scope J C D s5 h4 := ⟨G.O, G.kk, G.hk, G.loc, G.DC, ne C (.tail _ (.head _)), ne D (.tail _ (.tail _ (.head _))), fun s6 h6 x =>
  G.base { s6 with heap := s6.heap, toks := s6.toks } _ (CA.step.trans (StepX.inner st45 x hJf (x.out S5.fresh hJl) (fun _ _ _ e => e) sub hX))⟩
 refine wpAny_bind (wpAny_runOwn ?_)
 have loop : codeAny (model prog w) A (.compLoop (.ListComp elt [g, ⟨target', iter', ifs', 0⟩] scope pos) 1 (.ref J) (.ref D) cenv) (fun r s' => match r with | .ok f => wpAny (model prog w) A (pure PUnit.unit) Q E s' | .error e => cameBackBy (model prog w) A cenv E e s') s5 := by
  refine comp_loop (env := env) (ρ := ρ) (scope := scope) (X := [J, C, D]) (hc₁ := h4) (s₁ := s5) (D := D) (emit := emitLast elt D cenv) 8000000 (tv n) (tk U n) (fun y => [(pv n (bindT target' ⟨_, y⟩ ρ) elt).as _]) rfl rfl (Around.under_of_weight rfl) ao G.O (.head _) (G.loc ▸ .tail _ (.head _)) (G.loc ▸ GJ.IC) S5 GJ.base
   G.hk okt hf (fun y hy => G.kk ▸ (okx y hy).1) (fun y hy c hc s' hc' Cx' h => TE _ _ _ _ _ _ Cx' h) (fun y hy hall gone s' hc' CA hX' hz Q E hQ => emit_last GJ ao (fun s hc Cx' => Gives.cast ((okx y hy).2 hall).2 (EV _ _ _ _ _ _ Cx' (G.kk ▸ ((okx y hy).2 hall).1))) CA hX' hz hQ)
   gone (fun j => ?_) ⟨(Step.rfl' st5.inn).toX hXJ, houtJ, CA5.ns, CA5.sees, CA5.acc⟩ hXJ S5.start fun s6 h6 h' tk CA6 hX6 hk' hpl => ?_
  ·rw [List.length_append]
   exact Nat.le_trans (Nat.add_le_add hz (Nat.le_trans (ifs_le (k := 1) (f := fun y => [(pv n (bindT target' ⟨_, y⟩ ρ) elt).as _]) (fun _ _ => Nat.le_refl 1) j) (Nat.mul_le_mul_right 1 (items_len oki)))) (by decide)
  ·have big : StepX [I, C, D] s { s6 with heap := h', toks := tk } hc h6 := StepX.inner st45 CA6.step hJf (CA6.out J (.head _)) hk' sub hX
   have hL : cenv.locals ≠ J := fun e => GJ.IC (e.symm.trans G.loc)
   refine o21 CA6.acc fun vs nn eD' rD => ?_
   refine o10 CA6.ns fun m' hn' => ?_
   refine wpAny_pure (hQ _ h6 ⟨CA.step.trans big, fun b hb => big.out (CA.out b hb) (hX b hb), ⟨m', hn'.at' fun o e => hk' _ o hL e⟩, CA6.sees.turn (fun _ _ i => cell_ne_iter hpl i) hL hk', vs, nn, hk' D _ (Ne.symm GJ.ID) eD', rD⟩ (fun o e => ?_) (st45.le.trans CA6.step.le) big.live)
   refine hk' I o (Ne.symm (ne I (.head _))) (CA6.step.old I o (fun h => ?_) (Keeps.old st45.keeps _ _ e))
   rcases List.mem_cons.mp h with h | h
   ·exact ne I (.head _) h.symm
   ·rcases List.mem_cons.mp h with h | h
    ·exact G.IC h
    ·exact G.ID (List.mem_singleton.mp h)
 exact codeAny_compStart1 rfl loop ((S5.walks A ao.handled).self 0 _ _ _ S5.start loop)
theorem comp_two {elt : PySem.Expr} {g g' : Comprehension} {scope : Scope} {pos : Pos} (EV : EvAll prog w F U d n) (TE : TeAll prog w F U d n) (C0 : Cx F w d A env s hc ρ)
  (ok : compOk (pk U n) (tk U n) (pv n) (tv n) env.kindOf scope elt ρ [g, g']) {RR : Value -> Addr -> Result -> Shared -> Prop} {E : Value -> Shared -> Prop}
  (hRR : CompEnd w s hc _ (compV (pv n) (tv n) elt (compT (pv n) elt [g, g'] ρ (ρ.clear scope)) [g, g'] ρ (ρ.clear scope)) RR) :
  ∃ cl, closureFor scope env = pure cl /\ wpAny (model prog w) A (eval g.iter env) (fun x s₁ => wpAny (model prog w) A (pyIter x) (fun it sb => wpAny (model prog w) A (newList []) (fun acc sd =>
   wpAny (model prog w) A (newFunctionEnv scope env.globals cl [] env.qual none .none (some env)) (fun cenv se =>
    codeAny (model prog w) A (.compStart (.ListComp elt [g, g'] scope pos) 0 it acc { cenv with scope := relabel scope env }) (RR acc cenv.locals) se) E sd) E sb) E s₁) E s := by
 obtain ⟨target, iter, ifs, as⟩ := g
 obtain ⟨target', iter', ifs', as'⟩ := g'
 obtain rfl : as = 0 := ok.2.2.2.2.1
 obtain rfl : ifs = [] := ok.2.2.2.2.2.1
 obtain rfl : as' = 0 := ok.2.2.2.2.2.2.1
 refine o08 ok fun sc cki okit okt _ _ _ hdis0 okx => ?_
 have hdis : ∀ y ∈ tnames target', y ∉ tnames target := fun y hy h => by
  have := List.all_eq_true.mp hdis0 y hy
  simp [List.contains_iff_mem, h] at this
 refine comp_gen 4000000 (emitTwo (.ListComp elt [⟨target, iter, [], 0⟩, ⟨target', iter', ifs', 0⟩] scope pos) iter') (fun x => compV (pv n) (tv n) elt _ [⟨target', iter', ifs', 0⟩] (bindT target ⟨_, x⟩ (ρ.clear scope)) (bindT target ⟨_, x⟩ (ρ.clear scope))) EV TE C0 sc cki okit okt (fun I D cenv => two_turn I D cenv) (fun _ _ => trivial)
  (fun G x hx _ gone s hc CA hX hz Q E hQ => emit_two EV TE C0.ao G (fun y hy => (bindT_other (hdis y hy)).trans (clear_target (okx x hx).2.2.1 y hy)) (okx x hx).1 (okx x hx).2 CA hX hz hQ)
  (fun j => Nat.le_trans (ifs_le (k := 2000) (fun x hx => ?_) j) (Nat.le_trans (Nat.mul_le_mul_right 2000 (items_len okit)) (by decide))) hRR
 exact Nat.le_trans (flatMap_le (k := 1) fun y _ => by split; exact Nat.le_refl 1; exact Nat.zero_le 1) (by rw [Nat.mul_one]; exact items_len (okx x hx).2.1)
end
end Mine
namespace Mine
section
variable {prog : Program} {w : World} {F : FA} {U : Use} {d : Nat}
noncomputable def HUser (prog : Program) (w : World) (F : FA) (U : Use) (d : Nat) : Prop :=
 ∀ (f : Fn) (A : Around) (s : Shared) (hc : PH) (xs : List TV) (vs : List Value), f.user = true -> AOk A d -> Bas F s.heap -> Funs F s.heap -> hc.In s.heap ->
  Rel2 (RepTV w.params hc) xs vs -> appOk U f xs -> Gives prog w A (call (f.val F) vs) s hc (app f xs).t (app f xs).v
theorem any_plain {pos : Pos} {env : Env} : ∀ {es : List PySem.Expr}, (∀ e ∈ es, plainOk e = true) -> (backTo pos (starEach es env)).any (·.1) = false
 | [], _ => rfl
 | e :: r, h => by
  rw [star_cons (h e List.mem_cons_self)]
  show (false || (backTo pos (starEach r env)).any (·.1)) = false
  rw [any_plain fun e he => h e (List.mem_cons_of_mem _ he)]; rfl
theorem rel_same {P : Params} {hd : PH} {t : Ty} : ∀ {xs : List TV} {vs : List Value}, (∀ x ∈ xs, x.t = t) -> Rel2 (RepTV P hd) xs vs -> Rel2 (Rep P hd t) (xs.map fun x => x.as t) vs
 | _, _, _, .nil => .nil
 | x :: xs, v :: vs, h, .cons r rs => by
  refine .cons ?_ (rel_same (fun y hy => h y (List.mem_cons_of_mem _ hy)) rs)
  obtain ⟨t', x⟩ := x
  have : t' = t := h ⟨t', x⟩ List.mem_cons_self
  subst this
  show Rep P hd t' (TV.as ⟨t', x⟩ t') v
  rw [TV.as_self]; exact r
theorem or_gives (te : Rho -> PySem.Expr -> Bool) (ct : Kinds -> Rho -> PySem.Expr -> Prop) {A : Around} {env : Env} {ρ : Rho} : ∀ (es : List PySem.Expr) {s : Shared} {hc : PH}, Cx F w d A env s hc ρ -> anyOk ct te env.kindOf ρ es ->
  (∀ e ∈ es, ∀ s' hc', Cx F w d A env s' hc' ρ -> ct env.kindOf ρ e -> GivesB prog w A (isTrue e env (eval e env)) s' hc' (te ρ e)) -> GivesB prog w A (allTrue .Or es env) s hc (anyT (te ρ) es)
 | [], s, hc, C, _, _ => fun Q E h => wpAny_allTrue_Or_nil (h _ _ (Step.rfl' C.inn))
 | e :: r, s, hc, C, ⟨ok1, ok2⟩, ht => fun Q E h => by
  refine wpAny_allTrue_Or_cons (ht e List.mem_cons_self s hc C ok1 _ _ fun s₁ hB st => ?_)
  rw [anyT_cons] at h
  generalize hb : te ρ e = zz; induction zz with
  | true =>
   rw [hb] at h
   exact h _ _ st
  | false =>
   rw [hb] at h
   exact or_gives te ct r (C.step st) (ok2 hb) (fun e he => ht e (List.mem_cons_of_mem _ he)) Q E fun sb hO stb => h _ _ (st.trans stb)
theorem and_gives (te : Rho -> PySem.Expr -> Bool) (ct : Kinds -> Rho -> PySem.Expr -> Prop) {A : Around} {env : Env} {ρ : Rho} : ∀ (es : List PySem.Expr) {s : Shared} {hc : PH}, Cx F w d A env s hc ρ -> testsOk ct te env.kindOf ρ es ->
  (∀ e ∈ es, ∀ s' hc', Cx F w d A env s' hc' ρ -> ct env.kindOf ρ e -> GivesB prog w A (isTrue e env (eval e env)) s' hc' (te ρ e)) -> GivesB prog w A (allTrue .And es env) s hc (allT (te ρ) es)
 | [], s, hc, C, _, _ => fun Q E h => wpAny_allTrue_And_nil (h _ _ (Step.rfl' C.inn))
 | e :: r, s, hc, C, ⟨ok1, ok2⟩, ht => fun Q E h => by
  refine wpAny_allTrue_And_cons (ht e List.mem_cons_self s hc C ok1 _ _ fun s₁ hB st => ?_)
  rw [allT_cons] at h
  generalize hb : te ρ e = zz; induction zz with
  | true =>
   rw [hb] at h
   exact and_gives te ct r (C.step st) (ok2 hb) (fun e he => ht e (List.mem_cons_of_mem _ he)) Q E fun sb hO stb => h _ _ (st.trans stb)
  | false =>
   rw [hb] at h
   exact h _ _ st
theorem cmpOk_op {op : CmpOp} {x y : TV} (h : x.cmpOk op y) : (op == .In || op == .NotIn) = false := by
 have two : ∀ {a b : CmpOp}, op = a \/ op = b -> (a == .In || a == .NotIn) = false -> (b == .In || b == .NotIn) = false -> (op == .In || op == .NotIn) = false := fun h ha hb => h.elim (fun e => e ▸ ha) fun e => e ▸ hb
 obtain ⟨t, x⟩ := x
 obtain ⟨u, y⟩ := y
 induction t using Ty.casesOn with
 | int => rcases op with ⟨⟩ <;> first | rfl | exact No.ft h.2
 | pair a b => rw [h.2.2.2]; rfl
 | none => exact two h.2 rfl rfl
 | byt => exact two h.2 rfl rfl
 | lst t => rcases u with ⟨⟩ <;> first | exact two h rfl rfl | exact two h.2.2 rfl rfl
 | _ => exact h.elim
theorem in_marks {op : CmpOp} {x y : TV} {r : PySem.Expr} (h : x.cmpOk op y) : behindInMarks op r = false := by
 rcases r with ⟨⟩
 case Set elts k p =>
  show (k == 0 && (op == .In || op == .NotIn) && _) = false
  rw [cmpOk_op h, Bool.and_false, Bool.false_and]
 all_goals rfl
theorem rel_two {α β : Type} {R : α -> β -> Prop} {a b : α} {vs : List β} (r : Rel2 R [a, b] vs) : ∃ x y, vs = [x, y] /\ R a x /\ R b y := by
 refine o22 (rel_more r) ?_; rintro x xs rfl ra r
 refine o11 (rel_one r) ?_; rintro y rfl rb
 exact ⟨_, _, rfl, ra, rb⟩
theorem tpl_new {P : Params} {hc : PH} {s s' : Shared} {t : Ty} {l : List t.den} {vs : List Value} (hI : hc.In s.heap) (k : Keeps s s') (hn : s.heap.get? s.heap.objs.size = none)
  {n : Nat} (ho : s'.heap.get? s.heap.objs.size = some { cls := .type "tuple", data := .seq vs.toArray n }) (r : Rel2 (Rep P hc t) l vs) :
  ∃ hd, Step s s' hc hd /\ Rep P hd (.tpl t) l (.ref s.heap.objs.size) :=
 ⟨_, Step.put hI k hn ho, _, vs, rfl, ⟨_, n, PH.put_self, rfl, rfl⟩, r.mono fun _ _ x => x.mono (PH.put_le (hI.none hn))⟩
theorem pv_sub {n : Nat} {ρ : Rho} {o i : PySem.Expr} {pos : Pos} (h : ∀ a b c d, i ≠ .Slice a b c d) : pv (n + 1) ρ (.Subscript o i pos) = (pv n ρ o).item (pv n ρ i) := by
 rcases i with ⟨⟩ <;> first | rfl | exact absurd rfl (h _ _ _ _)
theorem pv_tpl {n : Nat} {ρ : Rho} {a : PySem.Expr} {r : List PySem.Expr} {k : Nat} {pos : Pos} (h : ∀ b, r ≠ [b]) : pv (n + 1) ρ (.Tuple (a :: r) k pos) = ⟨.tpl (pv n ρ a).t, (pv n ρ a).v :: r.map fun e => (pv n ρ e).as (pv n ρ a).t⟩ := by
 match r, h with
 | [], _ => rfl
 | [b], h => exact absurd rfl (h b)
 | _ :: _ :: _, _ => rfl
theorem comp_post {A : Around} {s : Shared} {hc : PH} {t : Ty} {l : List t.den} {Q : Value -> Shared -> Prop} {E : Value -> Shared -> Prop}
  (h : ∀ s' hd cv, Step s s' hc hd -> Rep w.params hd (.lst t) l cv -> Q cv s') : CompEnd w s hc t l (compPost (model prog w) A E none Q) := by
 intro D C s' hd m vs n hD hC hDC st oD oC hns eD r
 refine ⟨m, hns, fun h' hs => ?_⟩
 have e' : h'.get? D = _ := hs.extBut D _ hDC eD
 have st2 : Step s { s' with heap := h' } hc hd := by
  refine o21 st.keeps ?_; rintro h1 tk rfl k
  refine ⟨⟨h', tk, rfl, fun b o e => hs.extBut b o (fun hb => by rw [hb, hC] at e; exact No.ns e) (k b o e)⟩, st.le, st.new, fun b o e => hs.extBut b o (fun hb => by rw [hb, oC] at e; exact No.ns e) (st.inn b o e)⟩
 let o : Obj := { cls := .type "list", data := .seq (List.toArray vs) n }
 have le2 : hd.le (hd.put D o) := PH.put_le oD
 refine h _ (hd.put D o) _ ⟨st2.keeps, st2.le.trans le2, fun b o' e => ?_, st2.inn.put e'⟩ ⟨D, vs, rfl, ⟨o, n, PH.put_self, rfl, rfl⟩, r.mono fun _ _ x => x.mono le2⟩
 unfold PH.put at e; split at e
 ·subst_vars; exact .inr hD
 ·exact st2.new b o' e
theorem call_user {A : Around} {s : Shared} {hc : PH} {f : Fn} {pos : Pos} {env : Env} {ρ : Rho} {es : List PySem.Expr} (ev : PySem.Expr -> TV) (HU : HUser prog w F U d) (hf : f.user = true) (C : Cx F w d A env s hc ρ) (hne : es ≠ [])
  (hp : ∀ e ∈ es, plainOk e = true) (hev : ∀ e ∈ es, ∀ s' hc', Cx F w d A env s' hc' ρ -> Gives prog w A (eval e env) s' hc' (ev e).t (ev e).v) (ok : appOk U f (es.map ev)) :
  Gives prog w A (callWith pos (f.val F) [] (backTo pos (starEach es env)) []) s hc (app f (es.map ev)).t (app f (es.map ev)).v := by
 intro Q E h
 refine o22 (C.funs.own f hf) fun o fd h1 h2 _ => ?_
 have hv : f.val F = .ref (f.addr F) := by rcases f with ⟨⟩ <;> first | rfl | (cases hf; done)
 induction es using List.casesOn with
 | nil => exact absurd rfl hne
 | cons e r =>
  rw [hv, star_cons (hp e List.mem_cons_self)]
  refine Calls.callWith_function (o := o) (fd := fdOf (topDef f.str) .none fd) (Calls.evalArgs_plain ?_)
  have := spliced_gives (pos := pos) ev (e :: r) C hp hev (Q := fun vs s₁ => (s₁.heap.get? (f.addr F) = some o /\ o.data = .func (fdOf (topDef f.str) .none fd)) /\ wpAny (model prog w) A (call (.ref (f.addr F)) ([] ++ vs) []) Q E s₁) (E := E) fun s₁ hB vs st r1 => by
   refine ⟨⟨Keeps.old st.keeps _ _ h1, h2⟩, ?_⟩
   have := HU f A s₁ hB _ vs hf C.ao (C.bas.keeps (Keeps.old st.keeps)) (C.funs.keeps (Keeps.old st.keeps)) st.inn r1 ok Q E fun sb hO cv stb rv => h _ _ _ (st.trans stb) rv
   rw [hv] at this
   exact this
  rw [star_cons (hp e List.mem_cons_self)] at this
  exact this
theorem call_own {A : Around} {s : Shared} {hc : PH} {f : Fn} {pos : Pos} {env : Env} {ρ : Rho} {es : List PySem.Expr} (ev : PySem.Expr -> TV) (hf : f.user = false) (C : Cx F w d A env s hc ρ) (hne : es ≠ [])
  (hp : ∀ e ∈ es, plainOk e = true) (hev : ∀ e ∈ es, ∀ s' hc', Cx F w d A env s' hc' ρ -> Gives prog w A (eval e env) s' hc' (ev e).t (ev e).v) (ok : appOk U f (es.map ev)) :
  Gives prog w A (callWith pos (f.val F) [] (backTo pos (starEach es env)) []) s hc (app f (es.map ev)).t (app f (es.map ev)).v := by
 intro Q E h
 have hpl := any_plain (pos := pos) (env := env) hp
 induction es using List.casesOn with
 | nil => exact absurd rfl hne
 | cons e r =>
  have key := spliced_gives (pos := pos) ev (e :: r) C hp hev (Q := fun vs s₁ => wpAny (model prog w) A (call (f.val F) vs) Q E s₁) (E := E) fun s₁ hB vs st r1 =>
   fn_gives (F := F) (U := U) hf (C.ao.mono (Nat.zero_le _)) st.inn r1 ok Q E fun sb hO cv stb rv => h _ _ _ (st.trans stb) rv
  rw [star_cons (hp e List.mem_cons_self)] at key hpl ⊢
  rcases f with ⟨⟩ <;> first
   | (cases hf; done)
   | exact Calls.callWith_builtin hpl (Calls.evalArgs_plain key)
   | exact callWith_type hpl (Calls.evalArgs_plain key)
   | exact PyProof.Rows.callWith_type hpl (Calls.evalArgs_plain key)
theorem slice_hi {s : Shared} {hc : PH} {x k : TV} {cc cg : Value} {Q : Value -> Shared -> Prop} (hI : hc.In s.heap) (re : RepTV w.params hc x cc) (rf : RepTV w.params hc k cg) (ok : x.sliceOk none (some k))
  (h : ∀ s' hd, Step s s' hc hd -> RepTV w.params hd (x.slice none (some k)) (.ref (s.heap.objs.size + 1)) -> Q (.ref (s.heap.objs.size + 1)) s') :
  ∃ l items lo hi, cc = .ref l /\ s.heap.IsList l items /\ items.size <= sizeLine /\ IsPart .none lo /\ IsPart cg hi /\
   Q (.ref (s.heap.objs.size + 1)) { s with heap := (s.heap.push { cls := .type "slice", data := .fields #[.none, cg, .none] }).push { cls := .type "list", data := .seq (slicePick items lo hi none) } } := by
 obtain ⟨t, x⟩ := x
 induction t using Ty.casesOn with
 | lst t =>
  obtain ⟨u, k⟩ := k
  induction u using Ty.casesOn with
  | int =>
   refine o22 re ?_; rintro a vs rfl oa ra
   refine o10 rf ?_; rintro tk rfl
   refine o01 ok fun h0 h1 => ?_
   have hl := ra.length
   have hsz : vs.toArray.size <= sizeLine := by
    have e : vs.toArray.size = vs.length := by simp
    have : List.length x <= 1000 := h1
    have hl : List.length x = vs.length := hl
    rw [e, sizeLine_eq]; lia
   have ek : (k : Int) = ((Int.toNat k : Nat) : Int) := (Int.toNat_of_nonneg h0).symm
   refine ⟨a, vs.toArray, none, some k, rfl, oa.isList hI, hsz, .none, .int _ _, ?_⟩
   have e : slicePick vs.toArray none (some k) none = (vs.take (Int.toNat k)).toArray := by
    have e2 : slicePick vs.toArray none (some ((Int.toNat k : Nat) : Int)) none = _ := slicePick_upto' vs.toArray (Int.toNat k)
    rw [<- ek] at e2
    rw [e2]
   rw [e]
   have k2 : Keeps s { s with heap := (s.heap.push { cls := .type "slice", data := .fields #[.none, (.int k tk), .none] }).push { cls := .type "list", data := .seq (vs.take (Int.toNat k)).toArray } } := ⟨_, _, rfl, fun _ _ e => Heap.get?_push_of_some _ (Heap.get?_push_of_some _ e)⟩
   have hg := Heap.get?_push_size (s.heap.push { cls := .type "slice", data := .fields #[.none, (.int k tk), .none] }) (o := { cls := .type "list", data := .seq (vs.take (Int.toNat k)).toArray }) rfl
   rw [Heap.size_push] at hg
   refine o11 (slice_obj (w := w) hI (next_free s.heap) (ra.take (Int.toNat k)) k2 hg) fun hd st rp => ?_
   exact h _ hd st rp
  | _ => exact ok.elim
 | _ => exact ok.elim
theorem slice_lo {s : Shared} {hc : PH} {x k : TV} {cc cg : Value} {Q : Value -> Shared -> Prop} (hI : hc.In s.heap) (re : RepTV w.params hc x cc) (rf : RepTV w.params hc k cg) (ok : x.sliceOk (some k) none)
  (h : ∀ s' hd, Step s s' hc hd -> RepTV w.params hd (x.slice (some k) none) (.ref (s.heap.objs.size + 1)) -> Q (.ref (s.heap.objs.size + 1)) s') :
  ∃ l items lo hi, cc = .ref l /\ s.heap.IsList l items /\ items.size <= sizeLine /\ IsPart cg lo /\ IsPart .none hi /\
   Q (.ref (s.heap.objs.size + 1)) { s with heap := (s.heap.push { cls := .type "slice", data := .fields #[cg, .none, .none] }).push { cls := .type "list", data := .seq (slicePick items lo hi none) } } := by
 obtain ⟨t, x⟩ := x
 induction t using Ty.casesOn with
 | lst t =>
  obtain ⟨u, k⟩ := k
  induction u using Ty.casesOn with
  | int =>
   refine o22 re ?_; rintro a vs rfl oa ra
   refine o10 rf ?_; rintro tk rfl
   refine o01 ok fun h0 h1 => ?_
   have hl := ra.length
   have hsz : vs.toArray.size <= sizeLine := by
    have e : vs.toArray.size = vs.length := by simp
    have : List.length x <= 1000 := h1
    have hl : List.length x = vs.length := hl
    rw [e, sizeLine_eq]; lia
   have ek : (k : Int) = ((Int.toNat k : Nat) : Int) := (Int.toNat_of_nonneg h0).symm
   refine ⟨a, vs.toArray, some k, none, rfl, oa.isList hI, hsz, .int _ _, .none, ?_⟩
   have e : slicePick vs.toArray (some k) none none = (vs.drop (Int.toNat k)).toArray := by
    have e2 : slicePick vs.toArray (some ((Int.toNat k : Nat) : Int)) none none = _ := slicePick_from' vs.toArray (Int.toNat k)
    rw [<- ek] at e2
    rw [e2]
   rw [e]
   have k2 : Keeps s { s with heap := (s.heap.push { cls := .type "slice", data := .fields #[(.int k tk), .none, .none] }).push { cls := .type "list", data := .seq (vs.drop (Int.toNat k)).toArray } } := ⟨_, _, rfl, fun _ _ e => Heap.get?_push_of_some _ (Heap.get?_push_of_some _ e)⟩
   have hg := Heap.get?_push_size (s.heap.push { cls := .type "slice", data := .fields #[(.int k tk), .none, .none] }) (o := { cls := .type "list", data := .seq (vs.drop (Int.toNat k)).toArray }) rfl
   rw [Heap.size_push] at hg
   refine o11 (slice_obj (w := w) hI (next_free s.heap) (ra.drop (Int.toNat k)) k2 hg) fun hd st rp => ?_
   exact h _ hd st rp
  | _ => exact ok.elim
 | _ => exact ok.elim
theorem get_gives {A : Around} {env : Env} {s : Shared} {hc : PH} {ρ : Rho} {n : Nat} {x : Str} {px apos pos : Pos} {k e : PySem.Expr} (EV : EvAll prog w F U d n) (C : Cx F w d A env s hc ρ) (k3 : plainOk k = true) (k4 : plainOk e = true) (k5 : (apos.endLine == pos.line) = true)
  (k6 : pk U n env.kindOf ρ (.Name x px)) (k7 : pk U n env.kindOf ρ k) (k8 : pk U n env.kindOf ρ e) (k9 : (pv n ρ (.Name x px)).dgetOk (pv n ρ k) (pv n ρ e)) :
  Gives prog w A (eval (.Call (.Attribute (.Name x px) "get" apos) [k, e] [] pos) env) s hc ((pv n ρ (.Name x px)).dget (pv n ρ k) (pv n ρ e)).t ((pv n ρ (.Name x px)).dget (pv n ρ k) (pv n ρ e)).v := by
 intro Q E h
 refine wpAny_Call_method (T := "dict") (id := "dict.get") (Q := Q) rfl ?_ k5 PySem.F.plainAttrs_dict PySem.F.slot_dict_get PySem.F.type_dict_get ?_
 ·rw [star_cons k3, star_cons k4]; rfl
 refine EV _ _ _ _ _ _ C k6 _ _ fun s₁ hB cc sta re => ?_
 have E1 := EV A env _ _ ρ k (C.step sta) k7
 have E2 := fun s hc C => EV A env s hc ρ e C k8
 generalize pv n ρ (.Name x px) = X at re k9 h
 generalize pv n ρ k = Kv at E1 k9 h
 generalize pv n ρ e = Ev at E2 k9 h
 obtain ⟨t, X⟩ := X
 obtain ⟨u, Kv⟩ := Kv
 obtain ⟨v, Ev⟩ := Ev
 rcases t with ⟨⟩ <;> try exact k9.elim
 rename_i t
 rcases u with ⟨⟩ <;> try exact k9.elim
 have : v = t := k9
 subst this
 refine o22 re ?_; rintro a g rfl od ra
 have low : (a == sysModules) = false := od.1
 have hm := od.mapOf (prog := prog) sta.inn
 refine ⟨hm.typeIs, hm.noDict, ?_⟩
 rw [star_cons k3, star_cons k4]
 refine wpAny_dict_get2 (knd := bytesKind prog w) low (E1 _ _ fun sb hO cg stb rf => E2 _ _ (C.step (sta.trans stb)) _ _ fun sd hV ch stc rh => ?_)
 refine o10 rf ?_; rintro tk rfl
 refine ⟨Kv, g, by simp [bytesKind, isBytes], (od.mono (stb.trans stc).le).mapOf stc.inn, ?_⟩
 refine h _ hV _ (((sta.trans stb).trans stc).trans (Step.tok stc.inn _)) ?_
 rcases ra Kv with ⟨e1, e2⟩ | ⟨y, cy, e1, e2, r⟩
 ·have e1 : X Kv = none := e1
  show Rep w.params hV v ((X Kv).getD (TV.as ⟨v, Ev⟩ v)) _
  rw [e1, e2, TV.as_self]; exact rh
 ·have e1 : X Kv = some y := e1
  show Rep w.params hV v ((X Kv).getD (TV.as ⟨v, Ev⟩ v)) _
  rw [e1, e2]; exact r.mono (stb.trans stc).le
theorem rel_disp {P : Params} {hd : PH} {ev : PySem.Expr -> TV} {a : PySem.Expr} {r : List PySem.Expr} {vs : List Value} (ht : ∀ e ∈ r, (ev e).t = (ev a).t) (re : Rel2 (RepTV P hd) ((a :: r).map ev) vs) :
  Rel2 (Rep P hd (ev a).t) ((ev a).v :: r.map fun e => (ev e).as (ev a).t) vs := by
 have rf := rel_same (t := (ev a).t) (fun x hx => ?_) re
 ·rw [List.map_map, List.map_cons] at rf
  have e2 : ((fun x => TV.as x (ev a).t) ∘ ev) a = (ev a).v := TV.as_self _ _
  rw [e2] at rf
  exact rf
 ·rw [List.map_cons] at hx
  rcases List.mem_cons.mp hx with h | h
  ·rw [h]
  ·refine o11 (List.mem_map.mp h) ?_; rintro e he rfl
   exact ht e he
theorem disp_len {P : Params} {hd : PH} {ev : PySem.Expr -> TV} {es : List PySem.Expr} {vs : List Value} (h : es.length <= 1001) (re : Rel2 (RepTV P hd) (es.map ev) vs) : vs.toArray.size <= sizeLine := by
 have hl := re.length
 rw [List.length_map] at hl
 rw [sizeLine_eq]
 exact Nat.le_trans (Nat.le_of_eq hl.symm) (Nat.le_trans h (by decide))
section
variable {n : Nat} {A : Around} {env : Env} {s : Shared} {hc : PH} {ρ : Rho}
theorem ev_const {c : Const} {k : Nat} {pos : Pos} (hI : hc.In s.heap) (ok : pk U (n + 1) env.kindOf ρ (.Constant c k pos)) : Gives prog w A (eval (.Constant c k pos) env) s hc (pv (n + 1) ρ (.Constant c k pos)).t (pv (n + 1) ρ (.Constant c k pos)).v := by
 intro Q E h
 induction c with
 | int i => exact wpAny_Constant_int (h _ _ _ (Step.tok hI _) ⟨s.toks, rfl⟩)
 | bool b => exact wpAny_Constant_bool (h _ _ _ (Step.rfl' hI) rfl)
 | none => exact wpAny_Constant_none (h _ _ _ (Step.rfl' hI) rfl)
 | _ => exact False.elim ok
theorem ev_name {x : Str} {p : Pos} (C : Cx F w d A env s hc ρ) (ok : pk U (n + 1) env.kindOf ρ (.Name x p)) : Gives prog w A (eval (.Name x p) env) s hc (pv (n + 1) ρ (.Name x p)).t (pv (n + 1) ρ (.Name x p)).v := by
 intro Q E h
 refine o02 ok fun k1 k2 k3 => ?_
 refine o10 (Option.isSome_iff_exists.mp k2) fun v hv => ?_
 refine o11 (C.sees x v k1 hv) fun cv rd rp => ?_
 refine wpAny_Name (rd.load C.env.kind (h _ _ _ (Step.rfl' C.inn) ?_)) k3
 show RepTV w.params hc ((ρ x).getD tv0) cv
 rw [hv]; exact rp
theorem ev_if {c a b : PySem.Expr} {pos : Pos} (EV : EvAll prog w F U d n) (TE : TeAll prog w F U d n) (C : Cx F w d A env s hc ρ) (ok : pk U (n + 1) env.kindOf ρ (.IfExp c a b pos)) : Gives prog w A (eval (.IfExp c a b pos) env) s hc (pv (n + 1) ρ (.IfExp c a b pos)).t (pv (n + 1) ρ (.IfExp c a b pos)).v := by
 intro Q E h
 refine o02 ok fun k1 k2 k3 => ?_
 refine wpAny_IfExp (TE _ _ _ _ _ _ C k1 _ _ fun s₁ hB sta => ?_)
 have e : pv (n + 1) ρ (.IfExp c a b pos) = ⟨(pv n ρ a).t, if tv n ρ c then (pv n ρ a).v else (pv n ρ b).as (pv n ρ a).t⟩ := rfl
 rw [e] at h
 generalize hb : tv n ρ c = zz; induction zz with
 | true =>
  rw [hb] at h
  exact EV _ _ _ _ _ _ (C.step sta) (k2 hb) _ _ fun sd hV ch stc rh => h _ _ _ (sta.trans stc) rh
 | false =>
  rw [hb] at h
  exact Gives.cast (k3 hb).2 (EV _ _ _ _ _ _ (C.step sta) (k3 hb).1) _ _ fun sd hV ch stc rh => h _ _ _ (sta.trans stc) rh
theorem ev_list {es : List PySem.Expr} {pos : Pos} (EV : EvAll prog w F U d n) (C : Cx F w d A env s hc ρ) (ok : pk U (n + 1) env.kindOf ρ (.List es pos)) : Gives prog w A (eval (.List es pos) env) s hc (pv (n + 1) ρ (.List es pos)).t (pv (n + 1) ρ (.List es pos)).v := by
 intro Q E h
 induction es using List.casesOn with
 | nil => exact wpAny_List_spliced (wpAny_pure ⟨by simp, h _ _ _ (Step.put C.inn ⟨_, _, rfl, fun _ _ e => Heap.get?_push_of_some _ e⟩ (free_size _) (Heap.get?_push_size _ rfl)) ⟨_, [], rfl, ⟨_, 0, PH.put_self, rfl, rfl⟩, .nil⟩⟩)
 | cons a r =>
  refine o03 ok fun k1 k2 k3 k4 => ?_
  replace k3 := k3.mem
  refine wpAny_List_spliced (spliced_gives (pv n ρ) (a :: r) C (allc k1 fun e he => (k3 e he).1) (allc (fun s' hc' C' => EV _ _ _ _ _ _ C' k2) fun e he s' hc' C' => EV _ _ _ _ _ _ C' (k3 e he).2.1) fun s₁ hB vs sta re => ⟨disp_len (es := a :: r) (Nat.succ_le_succ (of_decide_eq_true k4)) re, ?_⟩)
  refine o11 (lst_new (s := s₁) sta.inn (s' := { s₁ with heap := s₁.heap.push { cls := .type "list", data := .seq vs.toArray } }) ⟨_, _, rfl, fun _ _ e => Heap.get?_push_of_some _ e⟩ (free_size _) (Heap.get?_push_size _ rfl) (rel_disp (fun e he => (k3 e he).2.2) re)) fun hd st rp => ?_
  exact h _ _ _ (sta.trans st) rp
theorem ev_pair {a b : PySem.Expr} {k : Nat} {pos : Pos} (EV : EvAll prog w F U d n) (C : Cx F w d A env s hc ρ) (ok : pk U (n + 1) env.kindOf ρ (.Tuple [a, b] k pos)) : Gives prog w A (eval (.Tuple [a, b] k pos) env) s hc (pv (n + 1) ρ (.Tuple [a, b] k pos)).t (pv (n + 1) ρ (.Tuple [a, b] k pos)).v := by
 intro Q E h
 refine o03 ok fun k1 k2 k3 k4 => ?_
 refine wpAny_Tuple_spliced (spliced_gives (pv n ρ) [a, b] C (all2 k1 k2) (all2 (fun s' hc' C' => EV _ _ _ _ _ _ C' k3) fun s' hc' C' => EV _ _ _ _ _ _ C' k4) fun s₁ hB vs sta re => ?_)
 refine o22 (rel_two re) ?_; rintro va vb rfl ra rb
 have hn := free_size s₁.heap
 have le := PH.put_le (o := { cls := .type "tuple", data := .seq (List.toArray [va, vb]) }) (sta.inn.none hn)
 refine ⟨by rw [sizeLine_eq]; simp, h _ _ _ (sta.trans (Step.put sta.inn ⟨_, _, rfl, fun _ _ e => Heap.get?_push_of_some _ e⟩ hn (Heap.get?_push_size _ rfl))) ⟨_, _, _, rfl, ⟨_, 0, PH.put_self, rfl, rfl⟩, ra.mono le, rb.mono le⟩⟩
theorem ev_tpl {a : PySem.Expr} {r : List PySem.Expr} {k : Nat} {pos : Pos} (EV : EvAll prog w F U d n) (C : Cx F w d A env s hc ρ) (hr : ∀ b, r ≠ [b])
  (ok : plainOk a = true /\ pk U n env.kindOf ρ a /\ AllE (fun e => plainOk e = true /\ pk U n env.kindOf ρ e /\ (pv n ρ e).t = (pv n ρ a).t) r /\ decide (r.length <= 1000) = true) : Gives prog w A (eval (.Tuple (a :: r) k pos) env) s hc (pv (n + 1) ρ (.Tuple (a :: r) k pos)).t (pv (n + 1) ρ (.Tuple (a :: r) k pos)).v := by
 intro Q E h
 refine o03 ok fun k1 k2 k3 k4 => ?_
 replace k3 := k3.mem
 rw [pv_tpl hr] at h
 refine wpAny_Tuple_spliced (spliced_gives (pv n ρ) (a :: r) C (allc k1 fun e he => (k3 e he).1) (allc (fun s' hc' C' => EV _ _ _ _ _ _ C' k2) fun e he s' hc' C' => EV _ _ _ _ _ _ C' (k3 e he).2.1) fun s₁ hB vs sta re => ⟨disp_len (es := a :: r) (Nat.succ_le_succ (of_decide_eq_true k4)) re, ?_⟩)
 refine o11 (tpl_new (s := s₁) sta.inn (s' := { s₁ with heap := s₁.heap.push { cls := .type "tuple", data := .seq vs.toArray } }) ⟨_, _, rfl, fun _ _ e => Heap.get?_push_of_some _ e⟩ (free_size _) (Heap.get?_push_size _ rfl) (rel_disp (fun e he => (k3 e he).2.2) re)) fun hd st rp => ?_
 exact h _ _ _ (sta.trans st) rp
theorem ev_tuple {es : List PySem.Expr} {k : Nat} {pos : Pos} (EV : EvAll prog w F U d n) (C : Cx F w d A env s hc ρ) (ok : pk U (n + 1) env.kindOf ρ (.Tuple es k pos)) : Gives prog w A (eval (.Tuple es k pos) env) s hc (pv (n + 1) ρ (.Tuple es k pos)).t (pv (n + 1) ρ (.Tuple es k pos)).v := by
 rcases es with _ | ⟨a, _ | ⟨b, _ | ⟨c, r⟩⟩⟩
 ·exact False.elim ok
 ·exact ev_tpl EV C (fun _ h => nomatch h) ok
 ·exact ev_pair EV C ok
 ·exact ev_tpl EV C (fun _ h => nomatch h) ok
theorem pk_sub {x : Str} {p : Pos} {i : PySem.Expr} {pos : Pos} {κ : Kinds} (hs : ∀ a b c d, i ≠ .Slice a b c d) (ok : pk U (n + 1) κ ρ (.Subscript (.Name x p) i pos)) : pk U n κ ρ (.Name x p) /\ pk U n κ ρ i /\ (pv n ρ (.Name x p)).itemOk (pv n ρ i) := by
 rcases i with ⟨⟩ <;> first | exact ok | exact absurd rfl (hs _ _ _ _)
theorem is_slice (i : PySem.Expr) : (∃ a b c d, i = .Slice a b c d) \/ ∀ a b c d, i ≠ .Slice a b c d := by
 rcases i with ⟨⟩ <;> first | exact .inl ⟨_, _, _, _, rfl⟩ | exact .inr fun _ _ _ _ h => nomatch h
theorem ev_sub {o i : PySem.Expr} {pos : Pos} (EV : EvAll prog w F U d n) (C : Cx F w d A env s hc ρ) (ok : pk U (n + 1) env.kindOf ρ (.Subscript o i pos)) : Gives prog w A (eval (.Subscript o i pos) env) s hc (pv (n + 1) ρ (.Subscript o i pos)).t (pv (n + 1) ρ (.Subscript o i pos)).v := by
 intro Q E h
 have ho : ∃ x p, o = .Name x p := by rcases o with ⟨⟩ <;> first | exact ⟨_, _, rfl⟩ | exact False.elim ok
 refine o20 ho ?_; clear ho; rintro x p rfl
 rcases is_slice i with hi | hi
 ·refine o40 hi ?_; clear hi; rintro a b c e rfl
  rcases a with _ | a <;> rcases b with _ | b <;> rcases c with _ | c <;> try exact False.elim ok
  ·exact wpAny_Subscript_list_slice (EV _ _ _ _ _ _ C ok.1 _ _ fun s₁ hB cc sta re => wpAny_evalPart_none (wpAny_evalPart_some (EV _ _ _ _ _ _ (C.step sta) ok.2.1 _ _ fun sb hO cg stb rf =>
    slice_hi stb.inn (re.mono stb.le) rf ok.2.2 fun s' hd stc rh => h _ _ _ ((sta.trans stb).trans stc) rh))) (by intro _ _; rfl)
  ·exact wpAny_Subscript_list_slice (EV _ _ _ _ _ _ C ok.1 _ _ fun s₁ hB cc sta re => wpAny_evalPart_some (EV _ _ _ _ _ _ (C.step sta) ok.2.1 _ _ fun sb hO cg stb rf => wpAny_evalPart_none
    (slice_lo stb.inn (re.mono stb.le) rf ok.2.2 fun s' hd stc rh => h _ _ _ ((sta.trans stb).trans stc) rh))) (by intro _ _; rfl)
 ·have ok := pk_sub hi ok
  rw [pv_sub hi] at h
  exact Subscript_ (EV _ _ _ _ _ _ C ok.1 _ _ fun s₁ hB cc sta re => EV _ _ _ _ _ _ (C.step sta) ok.2.1 _ _ fun sb hO cg stb rf =>
   item_gives stb.inn (re.mono stb.le) rf ok.2.2 hi _ _ fun sd hV ch stc rh => h _ _ _ ((sta.trans stb).trans stc) rh)
theorem ev_call {x : Str} {p : Pos} {args : List PySem.Expr} {kws : List Keyword} {pos : Pos} (HU : HUser prog w F U d) (EV : EvAll prog w F U d n) (C : Cx F w d A env s hc ρ) (ok : pk U (n + 1) env.kindOf ρ (.Call (.Name x p) args kws pos)) :
  Gives prog w A (eval (.Call (.Name x p) args kws pos) env) s hc (pv (n + 1) ρ (.Call (.Name x p) args kws pos)).t (pv (n + 1) ρ (.Call (.Name x p) args kws pos)).v := by
 generalize hf : fnOf x = zz; induction zz with
 | none =>
  have ok : (match fnOf x with
   | some f => env.kindOf x = some .globalImplicit /\ (x == ("__debug__" : Str)) = false /\ kws.length = 0 /\ AllE (fun e => plainOk e = true /\ pk U n env.kindOf ρ e) args /\ appOk U f (args.map (pv n ρ))
   | none => False) := ok
  rw [hf] at ok
  exact ok.elim
 | some f =>
  have ok : (match fnOf x with
   | some f => env.kindOf x = some .globalImplicit /\ (x == ("__debug__" : Str)) = false /\ kws.length = 0 /\ AllE (fun e => plainOk e = true /\ pk U n env.kindOf ρ e) args /\ appOk U f (args.map (pv n ρ))
   | none => False) := ok
  have e : pv (n + 1) ρ (.Call (.Name x p) args kws pos) = (match fnOf x with | some f => app f (args.map (pv n ρ)) | none => tv0) := rfl
  rw [hf] at ok e
  rw [e]
  obtain rfl := fnOf_str hf
  refine o04 ok fun k1 k2 k3 k5 k6 => ?_
  obtain rfl := List.eq_nil_of_length_eq_zero k3
  replace k5 := k5.mem
  have hne : args ≠ [] := fun e => by
   rw [e] at k6
   rcases f with ⟨⟩ <;> first | exact k6.elim | exact k6.2.elim
  intro Q E h
  refine PyProof.Rows.Call_Name rfl (wpAny_Name (load_fn C.bas C.env k1 ?_) k2)
  by_cases hu : f.user = true
  ·exact call_user (pv n ρ) HU hu C hne (fun e he => (k5 e he).1) (fun e he s' hc' C' => EV _ _ _ _ _ _ C' (k5 e he).2) k6 Q E h
  ·exact call_own (pv n ρ) (Bool.eq_false_iff.mpr hu) C hne (fun e he => (k5 e he).1) (fun e he s' hc' C' => EV _ _ _ _ _ _ C' (k5 e he).2) k6 Q E h
theorem ev_get {o : PySem.Expr} {m : Str} {apos pos : Pos} {args : List PySem.Expr} {kws : List Keyword} (EV : EvAll prog w F U d n) (C : Cx F w d A env s hc ρ) (ok : pk U (n + 1) env.kindOf ρ (.Call (.Attribute o m apos) args kws pos)) :
  Gives prog w A (eval (.Call (.Attribute o m apos) args kws pos) env) s hc (pv (n + 1) ρ (.Call (.Attribute o m apos) args kws pos)).t (pv (n + 1) ρ (.Call (.Attribute o m apos) args kws pos)).v := by
 have ho : ∃ x p, o = .Name x p := by rcases o with ⟨⟩ <;> first | exact ⟨_, _, rfl⟩ | exact False.elim ok
 refine o20 ho ?_; rintro x p rfl
 rcases args with _ | ⟨k, _ | ⟨e, _ | ⟨_, _⟩⟩⟩ <;> try exact False.elim ok
 refine o08 ok ?_; rintro rfl k2 k3 k4 k5 k6 k7 k8 k9
 obtain rfl := List.eq_nil_of_length_eq_zero k2
 exact get_gives EV C k3 k4 k5 k6 k7 k8 k9
theorem ev_comp {elt : PySem.Expr} {gens : List Comprehension} {scope : Scope} {pos : Pos} (EV : EvAll prog w F U d n) (TE : TeAll prog w F U d n) (C : Cx F w d A env s hc ρ) (ok : pk U (n + 1) env.kindOf ρ (.ListComp elt gens scope pos)) :
  Gives prog w A (eval (.ListComp elt gens scope pos) env) s hc (pv (n + 1) ρ (.ListComp elt gens scope pos)).t (pv (n + 1) ρ (.ListComp elt gens scope pos)).v := by
 intro Q E h
 rw [eval_ListComp]
 rcases gens with _ | ⟨⟨gt, gi, gf, ga⟩, _ | ⟨g, _ | ⟨_, _⟩⟩⟩ <;> try exact False.elim ok
 ·obtain ⟨cl, e1, e2⟩ := comp_one (pos := pos) EV TE C ok (comp_post h)
  obtain rfl : ga = 0 := ok.2.2.2.2.1
  have Fs := scope_fits (env := env) ok.1
  exact wpAny_comprehension_free rfl (fun x => pk_not_set ok.2.1 env x) e1 Fs.kind (fun x hx hl => Fs.loc x hx hl) e2
 ·obtain ⟨cl, e1, e2⟩ := comp_two (pos := pos) EV TE C ok (comp_post h)
  obtain rfl : ga = 0 := ok.2.2.2.2.1
  have Fs := scope_fits (env := env) ok.1
  exact wpAny_comprehension_free rfl (fun x => pk_not_set ok.2.1 env x) e1 Fs.kind (fun x hx hl => Fs.loc x hx hl) e2
noncomputable def byValue : PySem.Expr -> Bool
 | .UnaryOp op _ _ => op != .Not
 | .BoolOp .. => false
 | .IfExp .. => false
 | .Compare .. => false
 | _ => true
theorem te_value {e : PySem.Expr} (hb : byValue e = true) (EV : EvAll prog w F U d n) (C : Cx F w d A env s hc ρ) (ok : tk U (n + 1) env.kindOf ρ e) : GivesB prog w A (isTrue e env (eval e env)) s hc (tv (n + 1) ρ e) := by
 intro Q E h
 have key : (pk U n env.kindOf ρ e /\ (pv n ρ e).truthOk) /\ tv (n + 1) ρ e = (pv n ρ e).truth /\ isTrue e env (eval e env) = (do let v <- eval e env; standAt e.pos; holding [v] (truthy v)) := by
  rcases e with ⟨⟩
  case UnaryOp op x p => rcases op with ⟨⟩ <;> first | exact No.ft hb | exact ⟨ok, rfl, rfl⟩
  all_goals first | exact No.ft hb | exact ⟨ok, rfl, rfl⟩
 rw [key.2.1] at h
 exact wpAny_isTrue_value (EV _ _ _ _ _ _ C key.1.1 _ _ fun s₁ hB cc sta re => truth_gives sta.inn re key.1.2 _ _ fun sb hO stb => h _ _ (sta.trans stb)) key.2.2
end
theorem pv_sound (HU : HUser prog w F U d) : ∀ n, EvAll prog w F U d n /\ TeAll prog w F U d n := by
 intro n
 induction n using Nat.strongRecOn with | _ n ih
 induction n with
 | zero => exact ⟨fun _ _ _ _ _ _ _ h => h.elim, fun _ _ _ _ _ _ _ h => h.elim⟩
 | succ n =>
  refine o01 (ih n (Nat.lt_succ_self _)) fun EV TE => ?_
  refine ⟨fun A env s hc ρ e C ok => ?_, fun A env s hc ρ e C ok => ?_⟩
  ·rcases e with ⟨⟩
   case Constant c k p => exact ev_const C.inn ok
   case Name x p => exact ev_name C ok
   case BinOp l op r p =>
    exact fun Q E h => wpAny_BinOp (EV _ _ _ _ _ _ C ok.1 _ _ fun s₁ hB cc sta re => EV _ _ _ _ _ _ (C.step sta) ok.2.1 _ _ fun sb hO cg stb rf =>
     bin_gives (C.ao.mono (Nat.zero_le _)) stb.inn (re.mono stb.le) rf ok.2.2 _ _ fun sd hV ch stc rh => h _ _ _ ((sta.trans stb).trans stc) rh)
   case UnaryOp op x p =>
    exact fun Q E h => wpAny_UnaryOp (EV _ _ _ _ _ _ C ok.1 _ _ fun s₁ hB cc sta re => un_gives sta.inn re ok.2 _ _ fun sd hV ch stc rh => h _ _ _ (sta.trans stc) rh)
   case IfExp c a b p => exact ev_if EV TE C ok
   case Compare l ops rs p =>
    rcases ops with _ | ⟨op, _ | ⟨_, _⟩⟩ <;> rcases rs with _ | ⟨r, _ | ⟨_, _⟩⟩ <;> try exact False.elim ok
    exact fun Q E h => wpAny_Compare1 (EV _ _ _ _ _ _ C ok.1 _ _ fun s₁ hB cc sta re => EV _ _ _ _ _ _ (C.step sta) ok.2.1 _ _ fun sb hO cg stb rf =>
     cmp_gives (C.ao.mono (Nat.zero_le _)) stb.inn (re.mono stb.le) rf ok.2.2 (h sb hO _ (sta.trans stb) rfl)) (in_marks ok.2.2)
   case List es p => exact ev_list EV C ok
   case Tuple es k p => exact ev_tuple EV C ok
   case Subscript o i p => exact ev_sub EV C ok
   case Call f args kws p =>
    rcases f with ⟨⟩
    case Name x q => exact ev_call HU EV C ok
    case Attribute o m q => exact ev_get EV C ok
    all_goals exact False.elim ok
   case ListComp elt gens scope p => exact ev_comp EV TE C ok
   all_goals exact False.elim ok
  ·generalize hb : byValue e = zz; induction zz with
   | true => exact te_value hb EV C ok
   | false =>
    rcases e with ⟨⟩
    case UnaryOp op x p => rcases op with ⟨⟩ <;> first | exact No.tf hb | exact fun Q E h => wpAny_isTrue_Not (TE _ _ _ _ _ _ C ok _ _ fun s₁ hB sta => h _ _ sta)
    case BoolOp op es p => induction op with
     | And => exact fun Q E h => wpAny_isTrue_BoolOp (and_gives (tv n) (tk U n) _ C ok (fun e _ s' hc' C' k => TE _ _ _ _ _ _ C' k) _ _ fun s₁ hB sta => h _ _ sta)
     | Or => exact fun Q E h => wpAny_isTrue_BoolOp (or_gives (tv n) (tk U n) _ C ok (fun e _ s' hc' C' k => TE _ _ _ _ _ _ C' k) _ _ fun s₁ hB sta => h _ _ sta)
    case Compare l ops rs p =>
     refine o01 (ok : pk U n env.kindOf ρ (.Compare l ops rs p) /\ (pv n ρ (.Compare l ops rs p)).truthOk) fun k1 k2 => ?_
     induction n with
     | zero => exact False.elim k1
     | succ m =>
      refine o01 (ih m (Nat.lt_succ_of_lt (Nat.lt_succ_self _))) fun EV1 _ => ?_
      rcases ops with _ | ⟨op, _ | ⟨_, _⟩⟩ <;> rcases rs with _ | ⟨r, _ | ⟨_, _⟩⟩ <;> try exact False.elim k1
      exact fun Q E h => wpAny_isTrue_Compare1 (EV1 _ _ _ _ _ _ C k1.1 _ _ fun s₁ hB cc sta re => EV1 _ _ _ _ _ _ (C.step sta) k1.2.1 _ _ fun sb hO cg stb rf =>
       cmp_gives (C.ao.mono (Nat.zero_le _)) stb.inn (re.mono stb.le) rf k1.2.2 (wpAny_truthy_bool (h _ _ (sta.trans stb)))) (in_marks k1.2.2)
    case IfExp c a b p => exact False.elim ok
    all_goals exact No.tf hb
end
end Mine
namespace Mine
noncomputable def MRep (prog : Program) (w : World) (hc : PH) (a : Addr) (o : Obj) : TV -> Prop
 | ⟨.lst t, l⟩ => ∃ items n, o = { cls := .type "list", data := .seq (List.toArray items) n } /\ Rel2 (Rep w.params hc t) l items
 | ⟨.dct t, f⟩ => (a == sysModules) = false /\ o.ExactDict /\ ∃ es ep, ∃ kvs : List (List UInt8 × Value), o.data = .dict es ep /\ KeysOf (bytesKind prog w) es /\ Pairs (bytesKind prog w) es.toList kvs /\ (kvs.map (·.1)).Nodup /\
   ∀ k, (f k = none /\ valueAt kvs k = none) \/ ∃ x y, f k = some x /\ valueAt kvs k = some y /\ Rep w.params hc t x y
 | _ => False
theorem MRep.mono {prog : Program} {w : World} {hc hd : PH} (h : hc.le hd) {a : Addr} {o : Obj} {v : TV} (x : MRep prog w hc a o v) : MRep prog w hd a o v := by
 obtain ⟨t, v⟩ := v
 rcases t with ⟨⟩ <;> try exact x.elim
 ·refine o21 x fun items n e r => ?_
  exact ⟨items, n, e, r.mono fun _ _ r => r.mono h⟩
 ·obtain ⟨low, e, es, ep, kvs, h1, h2, h3, h4, h5⟩ := x
  exact ⟨low, e, es, ep, kvs, h1, h2, h3, h4, fun k => (h5 k).imp id fun ⟨x, y, a, b, c⟩ => ⟨x, y, a, b, c.mono h⟩⟩
theorem MRep.rep {prog : Program} {w : World} {hc hd : PH} (h : hc.le hd) {o : Obj} {a : Addr} (ha : hd a = some o) {v : TV} (x : MRep prog w hc a o v) : Rep w.params hd v.t v.v (.ref a) := by
 obtain ⟨t, v⟩ := v
 rcases t with ⟨⟩ <;> try exact x.elim
 ·refine o21 x fun items n e r => ?_
  subst e
  exact ⟨a, items, rfl, ⟨_, n, ha, rfl, rfl⟩, r.mono fun _ _ r => r.mono h⟩
 ·obtain ⟨low, e, es, ep, kvs, h1, h2, h3, h4, h5⟩ := x
  refine ⟨a, valueAt kvs, rfl, ⟨low, o, es, ep, ha, e, h1, fun e he => h2 e he, fun k => ?_⟩, fun k => (h5 k).imp id fun ⟨x, y, a, b, c⟩ => ⟨x, y, a, b, c.mono h⟩⟩
  have := h3.find k
  rw [<- this]
  obtain ⟨l⟩ := es
  simp [findBy, bytesKind]
structure Ent where
 name : Str
 a : Addr
 v : TV
noncomputable def Own (env : Env) (hc : PH) (a : Addr) : Prop := hc a = none /\ a ≠ env.locals /\ ∀ x c, env.cells.lookup x = some c -> a ≠ c
noncomputable def Gd (F : FA) (hcb : PH) : Prop := ∀ h, hcb.In h -> Bas F h /\ Funs F h
structure Frm (F : FA) (w : World) (d : Nat) (A : Around) (env : Env) (s₁ : Shared) (hcb : PH) (gp : Array GenState -> Prop) (ρ : Rho) (s : Shared) (hc : PH) : Prop where
 ao : AOk A d
 envOk : EnvOk env
 inj : ∀ x y c, env.cells.lookup x = some c -> env.cells.lookup y = some c -> x = y
 gd : Gd F hcb
 same : ∃ h tk g, s = { s₁ with heap := h, toks := tk, gens := g }
 bare : gp s.gens
 le : hcb.le hc
 inn : hc.In s.heap
 sees : Sees w.params env hc s.heap ρ
 ns : ∃ m, s.heap.Ns env.locals m
 locout : hc env.locals = none
 cells : ∀ x c, env.kindOf x = some .cell -> env.cells.lookup x = some c -> hc c = none /\ ∃ v, s.heap.IsCell c v
 alive : ∀ x c, env.cells.lookup x = some c -> (s.heap.get? c).isSome = true
structure StH (prog : Program) (F : FA) (w : World) (d : Nat) (A : Around) (env : Env) (s₁ : Shared) (hcb : PH) (gp : Array GenState -> Prop) (ρ : Rho) (mu : List Ent) (lo : List (Addr × Obj)) (s : Shared) (hc : PH) : Prop extends Frm F w d A env s₁ hcb gp ρ s hc where
 muts : ∀ e ∈ mu, (∃ o, s.heap.get? e.a = some o /\ MRep prog w hc e.a o e.v) /\ Own env hc e.a /\ (kOk (env.kindOf e.name) = true -> ρ e.name = some ⟨.val, .ref e.a⟩)
 loose : ∀ p ∈ lo, s.heap.get? p.1 = some p.2 /\ Own env hc p.1
 nodup : (mu.map (·.a) ++ lo.map (·.1)).Nodup
section
variable {F : FA} {w : World} {d : Nat} {A : Around} {env : Env} {s₁ : Shared} {hcb : PH} {gp : Array GenState -> Prop} {ρ : Rho} {s s' : Shared} {hc hd : PH}
theorem Frm.move (S : Frm F w d A env s₁ hcb gp ρ s hc) (same : ∃ h tk g, s' = { s with heap := h, toks := tk, gens := g }) (gp' : gp s'.gens) (le : hc.le hd) (inn : hd.In s'.heap) (nsk : ∀ m, s.heap.Ns env.locals m -> s'.heap.Ns env.locals m)
  (ck : ∀ x c, env.cells.lookup x = some c -> c ≠ env.locals -> ∀ o, s.heap.get? c = some o -> s'.heap.get? c = some o) (ol : hd env.locals = none) (oc : ∀ x c, env.cells.lookup x = some c -> hc c = none -> hd c = none) : Frm F w d A env s₁ hcb gp ρ s' hd := by
 refine o10 S.ns fun m n => ?_
 have ik : ∀ x c v, env.cells.lookup x = some c -> s.heap.IsCell c v -> s'.heap.IsCell c v := fun x c v h i => cell_at i fun o => ck x c h (ns_not_cell n i) o
 refine ⟨S.ao, S.envOk, S.inj, S.gd, ?_, gp', S.le.trans le, inn, fun x v hk hv => ?_, ⟨m, nsk m n⟩, ol, fun x c h1 h2 => ?_, fun x c h => ?_⟩
 ·refine o30 S.same fun h t g e => ?_
  refine o30 same fun h2 t2 g2 e2 => ?_
  exact ⟨h2, t2, g2, by rw [e2, e]⟩
 ·refine o11 (S.sees x v hk hv) fun cv rd rp => ?_
  refine ⟨cv, ?_, rp.mono le⟩
  rcases rd with rd | rd | rd
  ·refine o01 rd fun h zz => o11 zz fun m' n' hm => ?_
   exact .inl ⟨h, m', nsk m' n', hm⟩
  ·refine o01 rd fun h zz => o11 zz fun c hcx i => ?_
   exact .inr (.inl ⟨h, c, hcx, ik x c _ hcx i⟩)
  ·refine o02 rd fun h g zz => o11 zz fun c hcx i => ?_
   exact .inr (.inr ⟨h, g, c, hcx, ik x c _ hcx i⟩)
 ·refine o01 (S.cells x c h1 h2) fun p zz => o10 zz fun v i => ?_
  exact ⟨oc x c h2 p, v, ik x c v h2 i⟩
 ·by_cases hcl : c = env.locals
  ·refine o31 (nsk m n) fun o _ _ e _ => ?_
   rw [hcl, e]; rfl
  ·refine o10 (Option.isSome_iff_exists.mp (S.alive x c h)) fun o e => ?_
   rw [ck x c h hcl o e]; rfl
theorem Frm.rho {ρ' : Rho} (S : Frm F w d A env s₁ hcb gp ρ s hc) (h : Sees w.params env hc s.heap ρ') : Frm F w d A env s₁ hcb gp ρ' s hc := ⟨S.ao, S.envOk, S.inj, S.gd, S.same, S.bare, S.le, S.inn, h, S.ns, S.locout, S.cells, S.alive⟩
theorem Frm.at {h1 : PH} (S : Frm F w d A env s₁ hcb gp ρ s hc) (h : h1.le hc) (g : Gd F h1) : Frm F w d A env s₁ h1 gp ρ s hc := ⟨S.ao, S.envOk, S.inj, g, S.same, S.bare, h, S.inn, S.sees, S.ns, S.locout, S.cells, S.alive⟩
theorem Frm.gens {gp' : Array GenState -> Prop} (S : Frm F w d A env s₁ hcb gp ρ s hc) (h : gp' s.gens) : Frm F w d A env s₁ hcb gp' ρ s hc := ⟨S.ao, S.envOk, S.inj, S.gd, S.same, h, S.le, S.inn, S.sees, S.ns, S.locout, S.cells, S.alive⟩
theorem Frm.turn {X : List Addr} (S : Frm F w d A env s₁ hcb gp ρ s hc) (ha : ∀ a ∈ X, Own env hc a) (same : ∃ h tk g, s' = { s with heap := h, toks := tk, gens := g }) (gp' : gp s'.gens) (k : ∀ b o, b ∉ X -> s.heap.get? b = some o -> s'.heap.get? b = some o) : Frm F w d A env s₁ hcb gp ρ s' hc :=
 S.move same gp' PH.le.rfl (fun b o e => k b o (fun hb => Option.some_ne_none o (e.symm.trans (ha b hb).1)) (S.inn b o e)) (fun m n => n.at' fun o => k _ o fun hb => (ha _ hb).2.1 rfl) (fun x c h _ o => k c o fun hb => (ha _ hb).2.2 x c h rfl) S.locout fun _ _ _ h => h
theorem Frm.grow (S : Frm F w d A env s₁ hcb gp ρ s hc) (le : hc.le hd) (inn : hd.In s.heap) (ol : hd env.locals = none) (oc : ∀ x c, env.cells.lookup x = some c -> hc c = none -> hd c = none) : Frm F w d A env s₁ hcb gp ρ s hd :=
 S.move ⟨_, _, _, rfl⟩ S.bare le inn (fun _ n => n) (fun _ _ _ _ _ e => e) ol oc
theorem Frm.put {T : Addr} {o : Obj} (S : Frm F w d A env s₁ hcb gp ρ s hc) (e : s.heap.get? T = some o) (own : Own env hc T) : Frm F w d A env s₁ hcb gp ρ s (hc.put T o) :=
 S.grow (PH.put_le own.1) (S.inn.put e) (by rw [PH.put_ne (Ne.symm own.2.1)]; exact S.locout) fun x c h k => by rw [PH.put_ne (Ne.symm (own.2.2 x c h))]; exact k
theorem same_more (h : ∃ h tk, s' = { s with heap := h, toks := tk }) : ∃ h tk g, s' = { s with heap := h, toks := tk, gens := g } := let ⟨a, b, e⟩ := h; ⟨a, b, s.gens, e⟩
theorem same_gens (h : ∃ h tk, s' = { s with heap := h, toks := tk }) : s'.gens = s.gens := let ⟨_, _, e⟩ := h; e ▸ rfl
end
section
variable {prog : Program} {F : FA} {w : World} {d : Nat} {A : Around} {env : Env} {s₁ : Shared} {hcb : PH} {gp : Array GenState -> Prop} {ρ : Rho} {mu : List Ent} {lo : List (Addr × Obj)} {s : Shared} {hc : PH} {U : Use} {n : Nat}
theorem StH.cx (S : StH prog F w d A env s₁ hcb gp ρ mu lo s hc) : Cx F w d A env s hc ρ :=
 let ⟨B, Fu⟩ := S.gd _ (S.inn.of_le S.le)
 ⟨S.ao, B, Fu, S.inn, S.sees, S.envOk⟩
theorem StH.step {s' : Shared} {hd : PH} (S : StH prog F w d A env s₁ hcb gp ρ mu lo s hc) (k : Step s s' hc hd) : StH prog F w d A env s₁ hcb gp ρ mu lo s' hd := by
 have old := Keeps.old k.keeps
 have live : ∀ {b o}, s.heap.get? b = some o -> hc b = none -> hd b = none := fun e h => k.out h (by rw [e]; rfl)
 refine o21 k.keeps fun h' tk' e _ => ?_
 refine o41 S.ns fun m oL _ _ eL _ => ?_
 refine ⟨S.toFrm.move ⟨h', tk', s.gens, e⟩ (by rw [e]; exact S.bare) k.le k.inn (fun m n => n.keeps old) (fun _ _ _ _ o e => old _ o e) (live eL S.locout) (fun x c h1 h2 => k.out h2 (S.alive x c h1)), fun e he => ?_, fun p hp => ?_, S.nodup⟩
 ·refine o02 (S.muts e he) ?_; rintro ⟨o, h1, h2⟩ ⟨h3, h4⟩ h6
  exact ⟨⟨o, old _ _ h1, h2.mono k.le⟩, ⟨live h1 h3, h4⟩, h6⟩
 ·refine o01 (S.loose p hp) ?_; rintro h1 ⟨h3, h4⟩
  exact ⟨old _ _ h1, ⟨live h1 h3, h4⟩⟩
noncomputable def see (mu : List Ent) (ρ : Rho) : Rho := fun x => match mu.find? (fun e => e.name == x) with | some e => some e.v | none => ρ x
open Classical in
noncomputable def PH.over (hc : PH) (l : List Addr) (h : Heap) : PH := fun b => if b ∈ l then h.get? b else hc b
open Classical in
noncomputable def PH.minus (hc : PH) (l : List Addr) : PH := fun b => if b ∈ l then none else hc b
theorem PH.le_over {hc : PH} {l : List Addr} {h : Heap} (k : ∀ b ∈ l, hc b = none) : hc.le (hc.over l h) := fun b o e => by
 unfold PH.over; split
 ·rename_i hb; rw [k b hb] at e; exact No.ns e
 ·exact e
theorem PH.In.over {hc : PH} {l : List Addr} {h : Heap} (k : hc.In h) : (hc.over l h).In h := fun b o e => by
 unfold PH.over at e; split at e
 ·exact e
 ·exact k b o e
theorem StH.view (S : StH prog F w d A env s₁ hcb gp ρ mu lo s hc) : Cx F w d A env s (hc.over (mu.map (·.a)) s.heap) (see mu ρ) := by
 have C := S.cx
 have hle : hc.le (hc.over (mu.map (·.a)) s.heap) := PH.le_over fun b hb => by
  refine o11 (List.mem_map.mp hb) ?_; rintro e he rfl
  exact (S.muts e he).2.1.1
 refine ⟨C.ao, C.bas, C.funs, S.inn.over, fun x v hk hv => ?_, C.env⟩
 unfold see at hv
 split at hv
 ·rename_i e he
  obtain rfl := Option.some.inj hv
  have hm := List.mem_of_find?_eq_some he
  have hx : e.name = x := by simpa using List.find?_some he
  refine o02 (S.muts e hm) ?_; rintro ⟨o, h1, h2⟩ ⟨h3, h4, h5⟩ h6
  refine o11 (S.sees x _ hk (by rw [<- hx]; exact h6 (by rw [hx]; exact hk))) fun cv rd rp => ?_
  refine ⟨cv, rd, ?_⟩
  have : cv = .ref e.a := rp
  subst this
  refine h2.rep hle ?_
  unfold PH.over
  rw [if_pos (List.mem_map.mpr ⟨e, hm, rfl⟩)]; exact h1
 ·refine o11 (S.sees x v hk hv) fun cv rd rp => ?_
  exact ⟨cv, rd, rp.mono hle⟩
noncomputable def Ty.flat : Ty -> Bool
 | .none | .bool | .int | .byt | .val => true
 | _ => false
theorem Rep.flat {P : Params} {hc hd : PH} {t : Ty} (ht : t.flat = true) {x : t.den} {v : Value} (r : Rep P hc t x v) : Rep P hd t x v := by
 rcases t with ⟨⟩ <;> first | (cases ht; done) | exact r
theorem StH.unview {s' : Shared} {hd : PH} (S : StH prog F w d A env s₁ hcb gp ρ mu lo s hc) (k : Step s s' (hc.over (mu.map (·.a)) s.heap) hd) : Step s s' hc (hd.minus (mu.map (·.a))) where
 keeps := k.keeps
 le := fun b o e => by
  have hb : b ∉ mu.map (·.a) := fun hb => by
   refine o11 (List.mem_map.mp hb) ?_; rintro e' he rfl
   rw [(S.muts e' he).2.1.1] at e; exact No.ns e
  unfold PH.minus
  rw [if_neg hb]
  refine k.le b o ?_
  unfold PH.over
  rw [if_neg hb]; exact e
 new := fun b o e => by
  unfold PH.minus at e
  split at e
  ·exact No.ns e
  ·rename_i hb
   rcases k.new b o e with e' | e'
   ·unfold PH.over at e'
    rw [if_neg hb] at e'
    exact .inl e'
   ·exact .inr e'
 inn := fun b o e => by
  unfold PH.minus at e
  split at e
  ·exact No.ns e
  ·exact k.inn b o e
section
variable (EV : EvAll prog w F U d n) (TE : TeAll prog w F U d n)
include EV in
theorem StH.eval {e : PySem.Expr} {Q : Value -> Shared -> Prop} {E : Value -> Shared -> Prop} (S : StH prog F w d A env s₁ hcb gp ρ mu lo s hc) (ok : pk U n env.kindOf ρ e)
  (h : ∀ s' hd cv, StH prog F w d A env s₁ hcb gp ρ mu lo s' hd -> hc.le hd -> RepTV w.params hd (pv n ρ e) cv -> Q cv s') : wpAny (model prog w) A (eval e env) Q E s :=
 EV _ _ _ _ _ _ S.cx ok _ _ fun s' hd cv st r => h s' hd cv (S.step st) st.le r
include EV in
theorem StH.evalV {e : PySem.Expr} {Q : Value -> Shared -> Prop} {E : Value -> Shared -> Prop} (S : StH prog F w d A env s₁ hcb gp ρ mu lo s hc) (ok : pk U n env.kindOf (see mu ρ) e) (hf : (pv n (see mu ρ) e).t.flat = true)
  (h : ∀ s' hd cv, StH prog F w d A env s₁ hcb gp ρ mu lo s' hd -> hc.le hd -> RepTV w.params hd (pv n (see mu ρ) e) cv -> Q cv s') : wpAny (model prog w) A (PySem.eval e env) Q E s :=
 EV _ _ _ _ _ _ S.view ok _ _ fun s' hd cv st r => h s' _ cv (S.step (S.unview st)) (S.unview st).le (r.flat hf)
include TE in
theorem StH.testV {e : PySem.Expr} {Q : Bool -> Shared -> Prop} {E : Value -> Shared -> Prop} (S : StH prog F w d A env s₁ hcb gp ρ mu lo s hc) (ok : tk U n env.kindOf (see mu ρ) e)
  (h : ∀ s' hd, StH prog F w d A env s₁ hcb gp ρ mu lo s' hd -> hc.le hd -> Q (tv n (see mu ρ) e) s') : wpAny (model prog w) A (isTrue e env (PySem.eval e env)) Q E s :=
 TE _ _ _ _ _ _ S.view ok _ _ fun s' hd st => h s' _ (S.step (S.unview st)) (S.unview st).le
end
theorem StH.live (S : StH prog F w d A env s₁ hcb gp ρ mu lo s hc) {a : Addr} (h : a ∈ mu.map (·.a) ++ lo.map (·.1)) : (s.heap.get? a).isSome = true /\ Own env hc a := by
 rcases List.mem_append.mp h with h | h
 ·refine o11 (List.mem_map.mp h) ?_; rintro e he rfl
  refine o02 (S.muts e he) ?_; rintro ⟨o, h1, _⟩ h2 _
  exact ⟨by rw [h1]; rfl, h2⟩
 ·refine o11 (List.mem_map.mp h) ?_; rintro e he rfl
  refine o01 (S.loose e he) fun h1 h2 => ?_
  exact ⟨by rw [h1]; rfl, h2⟩
theorem Sees.more {P : Params} {env : Env} {hc : PH} {h : Heap} {ρ : Rho} {x : Str} {t : Ty} {y : t.den} {cv : Value} (hS : ∀ z v, z ≠ x -> kOk (env.kindOf z) = true -> ρ z = some v -> ∃ cv, Rd env h z cv /\ Rep P hc v.t v.v cv) (rd : Rd env h x cv) (r : Rep P hc t y cv) : Sees P env hc h (ρ.upd x ⟨t, y⟩) := fun z v hz hv => by
 by_cases h : z = x
 ·rw [h] at hv ⊢
  have e : some (⟨t, y⟩ : TV) = some v := (if_pos rfl).symm.trans hv
  obtain rfl := Option.some.inj e
  exact ⟨cv, rd, r⟩
 ·exact hS z v h hz ((if_neg h).symm.trans hv)
theorem ns_same {h : Heap} {L : Addr} {m m' : Str -> Option Value} (a : h.Ns L m) (b : h.Ns L m') : m = m' := by
 refine o33 a fun o es ep a1 a2 _ a4 => ?_
 refine o33 b fun o' es' ep' b1 b2 _ b4 => ?_
 rw [a1] at b1
 obtain rfl := Option.some.inj b1
 rw [a2] at b2
 cases b2
 exact funext fun x => (a4 x).symm.trans (b4 x)
theorem StH.store {A' : Around} {x : Str} {t : Ty} {y : t.den} {cv : Value} {Q : Unit -> Shared -> Prop} {E : Value -> Shared -> Prop} (S : StH prog F w d A env s₁ hcb gp ρ mu lo s hc)
  (hk : env.kindOf x = some .local \/ env.kindOf x = some .cell) (hx : mu.all (fun e => !(e.name == x)) = true) (r : Rep w.params hc t y cv)
  (h : ∀ s', StH prog F w d A env s₁ hcb gp (ρ.upd x ⟨t, y⟩) mu lo s' hc -> Q () s') : wpAny (model prog w) A' (storeName env x cv) Q E s := by
 have hx' : ∀ e ∈ mu, e.name ≠ x := fun e he => by simpa using List.all_eq_true.mp hx e he
 have rest : ∀ {X : Addr} {h' : Heap} {tk : Nat}, (∀ b o, b ≠ X -> s.heap.get? b = some o -> h'.get? b = some o) -> (∀ a, Own env hc a -> a ≠ X) -> Frm F w d A env s₁ hcb gp (ρ.upd x ⟨t, y⟩) { s with heap := h', toks := tk } hc -> StH prog F w d A env s₁ hcb gp (ρ.upd x ⟨t, y⟩) mu lo { s with heap := h', toks := tk } hc := fun old nX Fr => by
  refine ⟨Fr, fun e he => ?_, fun p hp => ?_, S.nodup⟩
  ·refine o02 (S.muts e he) ?_; rintro ⟨o, h1, h2⟩ h3 h4
   exact ⟨⟨o, old _ _ (nX _ h3) h1, h2⟩, h3, fun hk => (if_neg (hx' e he)).trans (h4 hk)⟩
  ·refine o01 (S.loose p hp) fun h1 h3 => ?_
   exact ⟨old _ _ (nX _ h3) h1, h3⟩
 refine o30 S.same fun h0 tk0 g0 hs0 => ?_
 refine o10 S.ns fun m hn => ?_
 rcases hk with hk | hk
 ·refine wpAny_storeName_local hk hn (fun h' hn' hs' => h _ ?_) (by rw [S.envOk.kind]; rfl)
  have old : ∀ b o, b ≠ env.locals -> s.heap.get? b = some o -> h'.get? b = some o := fun b o hb e => hs'.extBut b o hb e
  have ck : ∀ {c v}, s.heap.IsCell c v -> h'.IsCell c v := fun i => i.sameBut hs' (ns_not_cell hn i)
  refine rest old (fun a h => h.2.1) ⟨S.ao, S.envOk, S.inj, S.gd, ⟨h', s.toks + 1, g0, by rw [hs0]⟩, S.bare, S.le, fun b o e => old b o (fun hb => by rw [hb, S.locout] at e; exact No.ns e) (S.inn b o e), ?_, ⟨_, hn'⟩, S.locout, fun z c h1 h2 => ?_, fun z c hz => ?_⟩
  ·refine Sees.more (fun z v hzx hz hv => ?_) (.inl ⟨hk, _, hn', if_pos rfl⟩) r
   refine o11 (S.sees z v hz hv) fun cv' rd rp => ?_
   refine ⟨cv', ?_, rp⟩
   rcases rd with rd | rd | rd
   ·refine o01 rd fun e zz => o11 zz fun md na hm => ?_
    exact .inl ⟨e, _, hn', (if_neg hzx).trans (ns_same hn na ▸ hm)⟩
   ·refine o01 rd fun e zz => o11 zz fun c hcl i => ?_
    exact .inr (.inl ⟨e, c, hcl, ck i⟩)
   ·refine o02 rd fun e g zz => o11 zz fun c hcl i => ?_
    exact .inr (.inr ⟨e, g, c, hcl, ck i⟩)
  ·refine o01 (S.cells z c h1 h2) fun a zz => o10 zz fun v b => ?_
   exact ⟨a, v, ck b⟩
  ·by_cases hcl : c = env.locals
   ·refine o31 hn' fun o _ _ e _ => ?_
    show (h'.get? c).isSome = true
    rw [hcl, e]; rfl
   ·refine o10 (Option.isSome_iff_exists.mp (S.alive z c hz)) fun o e => ?_
    show (h'.get? c).isSome = true
    rw [old _ _ hcl e]; rfl
 ·refine o10 (Option.isSome_iff_exists.mp (S.envOk.cells x (.inl hk))) fun c hcx => ?_
  refine o01 (S.cells x c hk hcx) fun hcn zz => o10 zz fun v0 hi => ?_
  refine wpAny_storeName_cell S.envOk.kind hk hcx hi fun h' hi' hs' => h _ ?_
  have hcl := ns_not_cell hn hi
  have old : ∀ b o, b ≠ c -> s.heap.get? b = some o -> h'.get? b = some o := fun b o hb e => hs'.extBut b o hb e
  refine rest (tk := s.toks) old (fun a h => h.2.2 x c hcx) ⟨S.ao, S.envOk, S.inj, S.gd, ⟨h', s.toks, g0, by rw [hs0]⟩, S.bare, S.le, fun b o e => old b o (fun hb => by rw [hb, hcn] at e; exact No.ns e) (S.inn b o e), ?_, ⟨_, hn.at' fun o e => old _ o (Ne.symm hcl) e⟩, S.locout, fun z c' h1 h2 => ?_, fun z c' hz => ?_⟩
  ·refine Sees.more (fun z v hzx hz hv => ?_) (.inr (.inl ⟨hk, c, hcx, hi'⟩)) r
   refine o11 (S.sees z v hz hv) fun cv' rd rp => ?_
   refine ⟨cv', ?_, rp⟩
   have nc : ∀ {c'}, env.cells.lookup z = some c' -> c' ≠ c := fun h q => hzx (S.inj z x c (q ▸ h) hcx)
   rcases rd with rd | rd | rd
   ·refine o01 rd fun e zz => o11 zz fun md na hm => ?_
    exact .inl ⟨e, md, na.at' fun o e => old _ o (Ne.symm hcl) e, hm⟩
   ·refine o01 rd fun e zz => o11 zz fun c' hcl' i => ?_
    exact .inr (.inl ⟨e, c', hcl', i.sameBut hs' (nc hcl')⟩)
   ·refine o02 rd fun e g zz => o11 zz fun c' hcl' i => ?_
    exact .inr (.inr ⟨e, g, c', hcl', i.sameBut hs' (nc hcl')⟩)
  ·refine o01 (S.cells z c' h1 h2) fun a zz => o10 zz fun v b => ?_
   by_cases hcc : c' = c
   ·exact ⟨a, _, hcc ▸ hi'⟩
   ·exact ⟨a, v, b.sameBut hs' hcc⟩
  ·by_cases hcc : c' = c
   ·refine o11 hi' fun o e _ => ?_
    show (h'.get? c').isSome = true
    rw [hcc, e]; rfl
   ·refine o10 (Option.isSome_iff_exists.mp (S.alive z c' hz)) fun o e => ?_
    show (h'.get? c').isSome = true
    rw [old _ _ hcc e]; rfl
end
end Mine
namespace Mine
structure Cf where
 prog : Program
 F : FA
 w : World
 d : Nat
 A : Around
 env : Env
 s₁ : Shared
 hcb : PH
 gp : Array GenState -> Prop
noncomputable abbrev Cf.H (K : Cf) (ρ : Rho) (mu : List Ent) (lo : List (Addr × Obj)) (s : Shared) (hc : PH) : Prop := StH K.prog K.F K.w K.d K.A K.env K.s₁ K.hcb K.gp ρ mu lo s hc
noncomputable def Cf.S (K : Cf) (ρ : Rho) (mu : List Ent) (lo : List (Addr × Obj)) (s : Shared) : Prop := ∃ hc, K.H ρ mu lo s hc
noncomputable abbrev Cf.wp {α : Type} (K : Cf) (m : Sem α) (Q : α -> Shared -> Prop) (E : Value -> Shared -> Prop) (s : Shared) : Prop := wpAny (model K.prog K.w) K.A m Q E s
theorem set_same {α : Type} {x : α} : ∀ {l : List α} {i : Nat}, l[i]? = some x -> l.set i x = l
 | [], _, _ => rfl
 | a :: l, 0, h => by simp at h; subst h; rfl
 | a :: l, i + 1, h => by
  simp at h
  rw [List.set_cons_succ, set_same h]
theorem nodup_inj {α : Type} {x : α} {l : List α} (h : l.Nodup) {i j : Nat} (hi : l[i]? = some x) (hj : l[j]? = some x) : i = j := by
 refine o10 (List.getElem?_eq_some_iff.mp hi) fun l1 h1 => ?_
 refine o10 (List.getElem?_eq_some_iff.mp hj) fun l2 h2 => ?_
 have := List.pairwise_iff_getElem.mp h
 rcases Nat.lt_trichotomy i j with hlt | heq | hlt
 ·exact absurd (h1.trans h2.symm) (this i j l1 l2 hlt)
 ·exact heq
 ·exact absurd (h2.trans h1.symm) (this j i l2 l1 hlt)
theorem nodup_le {α : Type} [DecidableEq α] : ∀ {l m : List α}, l.Nodup -> (∀ x ∈ l, x ∈ m) -> l.length <= m.length
 | [], _, _, _ => Nat.zero_le _
 | a :: l, m, h, hs => by
  rw [List.nodup_cons] at h
  have ha := hs a List.mem_cons_self
  have := nodup_le (l := l) (m := m.erase a) h.2 fun x hx => (List.mem_erase_of_ne (fun e => h.1 (by rw [<- e]; exact hx))).mpr (hs x (List.mem_cons_of_mem _ hx))
  rw [List.length_erase_of_mem ha] at this
  have := List.length_pos_of_mem ha
  rw [List.length_cons]; lia
section
variable {K : Cf} {ρ : Rho} {mu : List Ent} {lo : List (Addr × Obj)} {s s' : Shared} {hc : PH}
theorem set_map {α β : Type} {f : α -> β} {l : List α} {i : Nat} {x y : α} (hi : l[i]? = some x) (hf : f y = f x) : (l.set i y).map f = l.map f := by
 rw [List.map_set, hf]
 exact set_same (by rw [List.getElem?_map, hi]; rfl)
theorem set_all {α β : Type} {f : α -> β} {l : List α} {i : Nat} {x y : α} (hn : (l.map f).Nodup) (hi : l[i]? = some x) {P : α -> Prop} (hy : P y) (ho : ∀ z ∈ l, f z ≠ f x -> P z) : ∀ z ∈ l.set i y, P z := fun z hz => by
 refine o10 (List.mem_iff_getElem?.mp hz) fun j hj => ?_
 rw [List.getElem?_set] at hj
 by_cases h : i = j
 ·rw [if_pos h] at hj
  split at hj
  ·exact Option.some.inj hj ▸ hy
  ·exact No.ns hj
 ·rw [if_neg h] at hj
  exact ho z (List.mem_of_getElem? hj) fun e => h (nodup_inj (x := f x) hn (by rw [List.getElem?_map, hi]; rfl) (by rw [List.getElem?_map, hj, <- e]; rfl))
theorem Cf.H.outer {X : List Addr} (S : K.H ρ mu lo s hc) (same : ∃ h tk g, s' = { s with heap := h, toks := tk, gens := g }) (gp : K.gp s'.gens) (k : ∀ b o, b ∉ X -> s.heap.get? b = some o -> s'.heap.get? b = some o)
  (hX : ∀ a ∈ X, hc a = none /\ a ≠ K.env.locals /\ (∀ x c, K.env.cells.lookup x = some c -> a ≠ c) /\ a ∉ mu.map (·.a) ++ lo.map (·.1)) : K.H ρ mu lo s' hc := by
 refine ⟨S.toFrm.turn (fun a h => ⟨(hX a h).1, (hX a h).2.1, (hX a h).2.2.1⟩) same gp k, fun e he => ?_, fun p hp => ?_, S.nodup⟩
 ·refine o01 (S.muts e he) ?_; rintro ⟨o, a, b⟩ c
  exact ⟨⟨o, k _ _ (fun hb => (hX _ hb).2.2.2 (List.mem_append_left _ (List.mem_map.mpr ⟨e, he, rfl⟩))) a, b⟩, c⟩
 ·refine o01 (S.loose p hp) fun a b => ?_
  exact ⟨k _ _ (fun hb => (hX _ hb).2.2.2 (List.mem_append_right _ (List.mem_map.mpr ⟨p, hp, rfl⟩))) a, b⟩
theorem Cf.H.changeX {mu' : List Ent} {lo' : List (Addr × Obj)} {X : List Addr} (S : K.H ρ mu lo s hc) (ha : ∀ a ∈ X, Own K.env hc a) (same : ∃ h tk, s' = { s with heap := h, toks := tk }) (k : ∀ b o, b ∉ X -> s.heap.get? b = some o -> s'.heap.get? b = some o)
  (hm : ∀ e ∈ mu', (∃ o, s'.heap.get? e.a = some o /\ MRep K.prog K.w hc e.a o e.v) /\ Own K.env hc e.a /\ (kOk (K.env.kindOf e.name) = true -> ρ e.name = some ⟨.val, .ref e.a⟩))
  (hl : ∀ p ∈ lo', s'.heap.get? p.1 = some p.2 /\ Own K.env hc p.1) (hn : (mu'.map (·.a) ++ lo'.map (·.1)).Nodup) : K.H ρ mu' lo' s' hc :=
 ⟨S.toFrm.turn ha (same_more same) (by rw [same_gens same]; exact S.bare) k, hm, hl, hn⟩
theorem Cf.H.mutN {i : Nat} {e : Ent} {v' : TV} {o' : Obj} (S : K.H ρ mu lo s hc) (hi : mu[i]? = some e) (same : ∃ h tk, s' = { s with heap := h, toks := tk }) (k : ∀ b o, b ≠ e.a -> b ≠ K.env.locals -> s.heap.get? b = some o -> s'.heap.get? b = some o)
  (nsk : ∀ m, s.heap.Ns K.env.locals m -> s'.heap.Ns K.env.locals m) (ho : s'.heap.get? e.a = some o') (hm : MRep K.prog K.w hc e.a o' v') : K.H ρ (mu.set i ⟨e.name, e.a, v'⟩) lo s' hc := by
 have hmem := List.mem_of_getElem? hi
 refine o02 (S.muts e hmem) fun _ own hname => ?_
 have nd := List.nodup_append.mp S.nodup
 refine ⟨S.toFrm.move (same_more same) (by rw [same_gens same]; exact S.bare) PH.le.rfl (fun b o h => k b o (fun q => by rw [q, own.1] at h; exact No.ns h) (fun q => by rw [q, S.locout] at h; exact No.ns h) (S.inn b o h)) nsk (fun x c h hL o => k c o (Ne.symm (own.2.2 x c h)) hL) S.locout fun _ _ _ h => h,
  set_all (f := Ent.a) nd.1 hi ⟨⟨o', ho, hm⟩, own, hname⟩ fun z hz hne => ?_, fun p hp => ?_, by rw [set_map (f := Ent.a) (y := ⟨e.name, e.a, v'⟩) hi rfl]; exact S.nodup⟩
 ·refine o02 (S.muts z hz) ?_; rintro ⟨o, h1, h2⟩ h3 h4
  exact ⟨⟨o, k _ _ hne h3.2.1 h1, h2⟩, h3, h4⟩
 ·refine o01 (S.loose p hp) fun h1 h2 => ?_
  exact ⟨k _ _ (fun q => nd.2.2 e.a (List.mem_map.mpr ⟨e, hmem, rfl⟩) p.1 (List.mem_map.mpr ⟨p, hp, rfl⟩) q.symm) h2.2.1 h1, h2⟩
theorem Cf.H.mutate {i : Nat} {e : Ent} {v' : TV} {o' : Obj} (S : K.H ρ mu lo s hc) (hi : mu[i]? = some e) (same : ∃ h tk, s' = { s with heap := h, toks := tk }) (k : ∀ b o, b ≠ e.a -> s.heap.get? b = some o -> s'.heap.get? b = some o)
  (ho : s'.heap.get? e.a = some o') (hm : MRep K.prog K.w hc e.a o' v') : K.H ρ (mu.set i ⟨e.name, e.a, v'⟩) lo s' hc :=
 Cf.H.mutN S hi same (fun b o h _ => k b o h) (fun m n => n.at' fun o => k _ o (Ne.symm (S.muts e (List.mem_of_getElem? hi)).2.1.2.1)) ho hm
theorem Cf.H.freeze {i : Nat} {e : Ent} (S : K.H ρ mu lo s hc) (hi : mu[i]? = some e) (hn : (mu.eraseIdx i).all (fun e' => !(e'.name == e.name)) = true) : K.S (ρ.upd e.name e.v) (mu.eraseIdx i) lo s := by
 have hmem := List.mem_of_getElem? hi
 refine o02 (S.muts e hmem) ?_; rintro ⟨o, ho, hm⟩ own hname
 have hle : hc.le (hc.put e.a o) := PH.put_le own.1
 have nd := List.nodup_append.mp S.nodup
 have own' : ∀ a, a ≠ e.a -> Own K.env hc a -> Own K.env (hc.put e.a o) a := fun a ha h => ⟨by rw [PH.put_ne ha]; exact h.1, h.2⟩
 have Fr := S.toFrm.put ho own
 refine ⟨hc.put e.a o, Fr.rho fun z v hz hv => ?_, fun e' he' => ?_, fun p hp => ?_, S.nodup.sublist (List.Sublist.append ((List.eraseIdx_sublist mu i).map _) (List.Sublist.refl _))⟩
 ·by_cases h : z = e.name
  ·have e2 : some e.v = some v := (if_pos h).symm.trans hv
   refine o11 (S.sees z _ hz (h ▸ hname (h ▸ hz))) fun cv rd rp => ?_
   have e3 : cv = .ref e.a := rp
   exact ⟨cv, rd, Option.some.inj e2 ▸ e3 ▸ hm.rep hle PH.put_self⟩
  ·exact Fr.sees z v hz ((if_neg h).symm.trans hv)
 ·refine o02 (S.muts e' (List.mem_of_mem_eraseIdx he')) ?_; rintro ⟨o', h1, h2⟩ h3 h4
  refine ⟨⟨o', h1, h2.mono hle⟩, own' _ (fun hEq => ?_) h3, fun hk => (if_neg (by simpa using List.all_eq_true.mp hn e' he')).trans (h4 hk)⟩
  refine o11 (List.mem_eraseIdx_iff_getElem?.mp he') fun j hji hj => ?_
  exact hji (nodup_inj (x := e.a) nd.1 (by rw [List.getElem?_map, hj, <- hEq]; rfl) (by rw [List.getElem?_map, hi]; rfl))
 ·refine o01 (S.loose p hp) fun h1 h2 => ?_
  exact ⟨h1, own' _ (fun hEq => nd.2.2 e.a (List.mem_map.mpr ⟨e, hmem, rfl⟩) p.1 (List.mem_map.mpr ⟨p, hp, rfl⟩) hEq.symm) h2⟩
theorem Cf.H.addMut {x : Str} {a : Addr} {o : Obj} {v : TV} (S : K.H ρ mu lo s hc) (ho : s.heap.get? a = some o) (hm : MRep K.prog K.w hc a o v) (own : Own K.env hc a) (hfr : a ∉ mu.map (·.a) ++ lo.map (·.1))
  (hρ : kOk (K.env.kindOf x) = true -> ρ x = some ⟨.val, .ref a⟩) : K.H ρ (mu ++ [⟨x, a, v⟩]) lo s hc := by
 refine ⟨S.toFrm, fun e he => ?_, S.loose, ?_⟩
 ·rcases List.mem_append.mp he with he | he
  ·exact S.muts e he
  ·rw [List.mem_singleton.mp he]
   exact ⟨⟨o, ho, hm⟩, own, hρ⟩
 ·rw [List.map_append, List.append_assoc]
  exact List.perm_middle.symm.nodup (List.nodup_cons.mpr ⟨hfr, S.nodup⟩)
theorem Cf.H.addLooses {own : List (Addr × Obj)} (S : K.H ρ mu lo s hc) (h : ∀ p ∈ own, s.heap.get? p.1 = some p.2 /\ Own K.env hc p.1 /\ p.1 ∉ mu.map (·.a) ++ lo.map (·.1)) (hn : (own.map (·.1)).Nodup) : K.H ρ mu (lo ++ own) s hc := by
 refine ⟨S.toFrm, S.muts, fun p hp => ?_, ?_⟩
 ·rcases List.mem_append.mp hp with hp | hp
  ·exact S.loose p hp
  ·exact ⟨(h p hp).1, (h p hp).2.1⟩
 ·rw [List.map_append, <- List.append_assoc, List.nodup_append]
  refine ⟨S.nodup, hn, fun x hx y hy hEq => ?_⟩
  refine o11 (List.mem_map.mp hy) fun p hp e => ?_
  exact (h p hp).2.2 (e ▸ hEq ▸ hx)
theorem Cf.H.addLoose {a : Addr} {o : Obj} (S : K.H ρ mu lo s hc) (ho : s.heap.get? a = some o) (own : Own K.env hc a) (hfr : a ∉ mu.map (·.a) ++ lo.map (·.1)) : K.H ρ mu (lo ++ [(a, o)]) s hc :=
 Cf.H.addLooses S (all1 ⟨ho, own, hfr⟩) (List.nodup_cons.mpr ⟨List.not_mem_nil, List.nodup_nil⟩)
theorem Cf.H.dropLoose {p : Addr × Obj} (S : K.H ρ mu (lo ++ [p]) s hc) : K.H ρ mu lo s hc :=
 ⟨S.toFrm, S.muts, fun q hq => S.loose q (List.mem_append_left _ hq), S.nodup.sublist (List.Sublist.append (List.Sublist.refl _) (by rw [List.map_append]; exact List.sublist_append_left _ _))⟩
theorem Cf.H.others {own : List (Addr × Obj)} (S : K.H ρ mu (lo ++ own) s hc) (k : ∀ b o, b ∉ own.map (·.1) -> s.heap.get? b = some o -> s'.heap.get? b = some o) :
  (∀ a ∈ own.map (·.1), Own K.env hc a) /\ (∀ e ∈ mu, (∃ o, s'.heap.get? e.a = some o /\ MRep K.prog K.w hc e.a o e.v) /\ Own K.env hc e.a /\ (kOk (K.env.kindOf e.name) = true -> ρ e.name = some ⟨.val, .ref e.a⟩)) /\
   (∀ p ∈ lo, s'.heap.get? p.1 = some p.2 /\ Own K.env hc p.1) /\ (mu.map (·.a) ++ lo.map (·.1)).Nodup := by
 have h := S.nodup
 rw [List.map_append, <- List.append_assoc, List.nodup_append] at h
 refine ⟨fun a ha => ?_, fun e he => ?_, fun p hp => ?_, h.1⟩
 ·refine o11 (List.mem_map.mp ha) fun p hp e => ?_
  exact e ▸ (S.loose p (List.mem_append_right _ hp)).2
 ·refine o01 (S.muts e he) ?_; rintro ⟨o', h1, h2⟩ h3
  exact ⟨⟨o', k _ _ (fun hb => h.2.2 _ (List.mem_append_left _ (List.mem_map.mpr ⟨e, he, rfl⟩)) _ hb rfl) h1, h2⟩, h3⟩
 ·refine o01 (S.loose p (List.mem_append_left _ hp)) fun h1 h2 => ?_
  exact ⟨k _ _ (fun hb => h.2.2 _ (List.mem_append_right _ (List.mem_map.mpr ⟨p, hp, rfl⟩)) _ hb rfl) h1, h2⟩
theorem Cf.H.goneOwn {own : List (Addr × Obj)} (S : K.H ρ mu (lo ++ own) s hc) (same : ∃ h tk, s' = { s with heap := h, toks := tk }) (k : ∀ b o, b ∉ own.map (·.1) -> s.heap.get? b = some o -> s'.heap.get? b = some o) : K.H ρ mu lo s' hc := by
 refine o03 (Cf.H.others S k) fun h1 h2 h3 h4 => ?_
 exact Cf.H.changeX S h1 same k h2 h3 h4
theorem Cf.H.gone {p : Addr × Obj} (S : K.H ρ mu (lo ++ [p]) s hc) (same : ∃ h tk, s' = { s with heap := h, toks := tk }) (k : ∀ b o, b ≠ p.1 -> s.heap.get? b = some o -> s'.heap.get? b = some o) : K.H ρ mu lo s' hc :=
 Cf.H.goneOwn S same fun b o hb => k b o fun e => hb (List.mem_singleton.mpr e)
theorem Cf.H.lastOwn {own own' : List (Addr × Obj)} (S : K.H ρ mu (lo ++ own) s hc) (same : ∃ h tk, s' = { s with heap := h, toks := tk }) (k : ∀ b o, b ∉ own.map (·.1) -> s.heap.get? b = some o -> s'.heap.get? b = some o)
  (e : own'.map (·.1) = own.map (·.1)) (ho : ∀ p ∈ own', s'.heap.get? p.1 = some p.2) : K.H ρ mu (lo ++ own') s' hc := by
 refine o03 (Cf.H.others S k) fun h1 h2 h3 _ => ?_
 refine Cf.H.changeX S h1 same k h2 (fun q hq => ?_) (by rw [List.map_append, e, <- List.map_append]; exact S.nodup)
 rcases List.mem_append.mp hq with hq | hq
 ·exact h3 q hq
 ·exact ⟨ho q hq, h1 _ (e ▸ List.mem_map.mpr ⟨q, hq, rfl⟩)⟩
theorem Cf.H.last {p : Addr × Obj} {o : Obj} (S : K.H ρ mu (lo ++ [p]) s hc) (same : ∃ h tk, s' = { s with heap := h, toks := tk }) (k : ∀ b o, b ≠ p.1 -> s.heap.get? b = some o -> s'.heap.get? b = some o) (ho : s'.heap.get? p.1 = some o) :
  K.H ρ mu (lo ++ [(p.1, o)]) s' hc :=
 Cf.H.lastOwn S same (fun b o hb => k b o fun e => hb (List.mem_singleton.mpr e)) rfl (all1 ho)
theorem Cf.H.fresh {a : Addr} (S : K.H ρ mu lo s hc) (hn : s.heap.get? a = none) : a ∉ mu.map (·.a) ++ lo.map (·.1) /\ a ≠ K.env.locals /\ ∀ x c, K.env.cells.lookup x = some c -> a ≠ c := by
 have no : (s.heap.get? a).isSome ≠ true := fun h => by rw [hn] at h; exact No.ft h
 refine ⟨fun h => no (S.live h).1, fun h => ?_, fun x c h2 h => no (h ▸ S.alive x _ h2)⟩
 refine o41 S.ns fun _ o _ _ e _ => ?_
 exact no (by rw [h, e]; rfl)
end
end Mine
namespace Mine
section
variable {K : Cf} {ρ : Rho} {mu : List Ent} {lo : List (Addr × Obj)} {s : Shared} {hc : PH} {U : Use} {n : Nat} {Q : Flow -> Shared -> Prop} {E : Value -> Shared -> Prop}
noncomputable def Cf.G (K : Cf) (ρ : Rho) (mu : List Ent) (lo : List (Addr × Obj)) (m : Sem Value) (t : Ty) (y : t.den) : Prop :=
 ∀ s hc, K.H ρ mu lo s hc -> ∀ Q E, (∀ s' hd cv, K.H ρ mu lo s' hd -> hc.le hd -> Rep K.w.params hd t y cv -> Q cv s') -> K.wp m Q E s
noncomputable def Cf.GB (K : Cf) (ρ : Rho) (mu : List Ent) (lo : List (Addr × Obj)) (m : Sem Bool) (b : Bool) : Prop :=
 ∀ s hc, K.H ρ mu lo s hc -> ∀ Q E, (∀ s' hd, K.H ρ mu lo s' hd -> hc.le hd -> Q b s') -> K.wp m Q E s
noncomputable abbrev Cf.EV (K : Cf) (U : Use) (n : Nat) : Prop := EvAll K.prog K.w K.F U K.d n
noncomputable abbrev Cf.TE (K : Cf) (U : Use) (n : Nat) : Prop := TeAll K.prog K.w K.F U K.d n
theorem pure_g (EV : K.EV U n) {e : PySem.Expr} (ok : pk U n K.env.kindOf ρ e) : K.G ρ mu lo (eval e K.env) (pv n ρ e).t (pv n ρ e).v :=
 fun _ _ S _ _ h => S.eval EV ok h
theorem view_g (EV : K.EV U n) {e : PySem.Expr} (ok : pk U n K.env.kindOf (see mu ρ) e) (hf : (pv n (see mu ρ) e).t.flat = true) : K.G ρ mu lo (eval e K.env) (pv n (see mu ρ) e).t (pv n (see mu ρ) e).v :=
 fun _ _ S _ _ h => S.evalV EV ok hf h
theorem test_g (TE : K.TE U n) {e : PySem.Expr} (ok : tk U n K.env.kindOf (see mu ρ) e) : K.GB ρ mu lo (isTrue e K.env (eval e K.env)) (tv n (see mu ρ) e) :=
 fun _ _ S _ _ h => S.testV TE ok h
noncomputable def bound (env : Env) (x : Str) : Bool := env.kindOf x == some .local || env.kindOf x == some .cell
noncomputable def free (mu : List Ent) (x : Str) : Bool := mu.all fun e => !(e.name == x)
theorem bound_or {env : Env} {x : Str} (h : bound env x = true) : env.kindOf x = some .local \/ env.kindOf x = some .cell := by
 simpa [bound] using h
theorem st_assign {x : Str} {p pos : Pos} {e : PySem.Expr} {t : Ty} {y : t.den} (S : K.S ρ mu lo s) (he : K.G ρ mu lo (eval e K.env) t y) (hk : bound K.env x = true) (hx : free mu x = true)
  (hs : swapsWith e (some (.Name x p)) pos.line K.env = pure false) (h : ∀ s', K.S (ρ.upd x ⟨t, y⟩) mu lo s' -> Q .next s') : K.wp (exec (.Assign [.Name x p] e pos) K.env) Q E s := by
 refine o10 S ?_; clear S; rintro hc S
 exact wpAny_Assign_Name (he s hc S _ _ fun s' hd cv S' _ r => S'.store (bound_or hk) hx r fun s'' S'' => h s'' ⟨hd, S''⟩) hs
noncomputable def tgtOk (env : Env) (mu : List Ent) (t : Ty) (tg : PySem.Expr) : Bool := match tgOf tg with
 | some (n, none) => bound env n && free mu n
 | some (n, some m) => bound env n && free mu n && bound env m && free mu m && t.isPair
 | none => false
theorem assignT {tg : PySem.Expr} {t : Ty} {y : t.den} {cv : Value} {Q : Unit -> Shared -> Prop} (S : K.H ρ mu lo s hc) (ht : tgtOk K.env mu t tg = true) (r : Rep K.w.params hc t y cv)
  (h : ∀ s', K.H (bindT tg ⟨t, y⟩ ρ) mu lo s' hc -> Q () s') : K.wp (assign tg K.env cv) Q E s := by
 rcases tg_cases tg with e | ⟨n, pos, rfl⟩ | ⟨n, p1, m', p2, kk, p3, rfl⟩
 ·unfold tgtOk at ht
  rw [e] at ht
  exact No.ft ht
 ·refine o01 (Bool.and_eq_true_iff.mp ht) fun h1 h2 => ?_
  exact wpAny_assign_Name (S.store (bound_or h1) h2 r h)
 ·simp only [tgtOk, tgOf, twoOf, nameOf, Option.bind, Option.map, Bool.and_eq_true] at ht
  refine o01 ht ?_; rintro ⟨⟨⟨h1, h2⟩, h3⟩, h4⟩ h5
  refine o20 (isPair_inv h5) ?_; rintro ta tb rfl
  obtain ⟨ya, yb⟩ := y
  refine o33 r ?_; rintro a p q rfl oa ra rb
  refine wpAny_assign_Tuple S.ao.handled (oa.isTuple S.inn) rfl rfl fun h' hx => ?_
  have st : Step s { s with heap := h' } hc hc := Step.quiet S.inn ⟨h', s.toks, rfl, fun b o e => hx b o (Nat.ne_of_lt (Heap.lt_size e)) e⟩
  refine wpAny_assignInOrder_more (wpAny_assign_Name ((S.step st).store (bound_or h1) h2 ra fun s₁ Sa => ?_))
  refine wpAny_assignInOrder_more (wpAny_assign_Name (Sa.store (bound_or h3) h4 rb fun sb Sb => ?_))
  exact wpAny_assignInOrder_none (h sb Sb)
theorem st_unpack {elts : List PySem.Expr} {k : Nat} {p pos : Pos} {e : PySem.Expr} {t : Ty} {y : t.den} (S : K.S ρ mu lo s) (he : K.G ρ mu lo (eval e K.env) t y) (ht : tgtOk K.env mu t (.Tuple elts k p) = true)
  (hw : swappedStores [.Tuple elts k p] e K.env = pure none) (hs : swapsWithSole [.Tuple elts k p] e pos.line K.env = pure false)
  (h : ∀ s', K.S (bindT (.Tuple elts k p) ⟨t, y⟩ ρ) mu lo s' -> Q .next s') : K.wp (exec (.Assign [.Tuple elts k p] e pos) K.env) Q E s := by
 refine o10 S ?_; clear S; rintro hc S
 refine wpAny_Assign_stores (he s hc S _ _ fun s' hd cv S' _ r => ?_) hs hw
 show wpAny _ _ (assignAll cv [assign (.Tuple elts k p) K.env]) _ _ _
 exact assignT S' ht r fun s'' S'' => h s'' ⟨hd, S''⟩
theorem st_list {x : Str} {p pos lp : Pos} (t : Ty) (S : K.S ρ mu lo s) (hk : bound K.env x = true) (hx : free mu x = true)
  (h : ∀ s' a, K.S (ρ.upd x ⟨.val, .ref a⟩) (mu ++ [⟨x, a, ⟨.lst t, []⟩⟩]) lo s' -> Q .next s') : K.wp (exec (.Assign [.Name x p] (.List [] lp) pos) K.env) Q E s := by
 refine o10 S ?_; clear S; rintro hc S
 refine wpAny_Assign_Name (wpAny_List_spliced (wpAny_pure ⟨by simp, ?_⟩)) rfl
 have hn := free_size s.heap
 refine o02 (S.fresh hn) fun f1 f2 f3 => ?_
 have S' : K.H ρ mu lo _ hc := S.step (Step.quiet S.inn (s' := { s with heap := s.heap.push { cls := .type "list", data := .seq (List.toArray []) } }) ⟨_, _, rfl, fun _ _ e => Heap.get?_push_of_some _ e⟩)
 refine StH.store (Cf.H.addLoose S' (Heap.get?_push_size _ rfl) ⟨S.inn.none hn, f2, f3⟩ f1) (bound_or hk) hx (t := .val) (y := .ref s.heap.objs.size) rfl fun s'' S'' => h s'' s.heap.objs.size ⟨hc, ?_⟩
 refine o01 (S''.loose _ (List.mem_append_right _ (List.mem_singleton.mpr rfl))) fun ho own => ?_
 exact Cf.H.addMut (Cf.H.dropLoose S'') ho ⟨[], 0, rfl, .nil⟩ own f1 fun _ => by simp [Rho.upd]
theorem st_dict {x : Str} {p pos lp : Pos} (t : Ty) (S : K.S ρ mu lo s) (hk : bound K.env x = true) (hx : free mu x = true)
  (h : ∀ s' a, K.S (ρ.upd x ⟨.val, .ref a⟩) (mu ++ [⟨x, a, ⟨.dct t, fun _ => none⟩⟩]) lo s' -> Q .next s') : K.wp (exec (.Assign [.Name x p] (.Dict [] [] lp) pos) K.env) Q E s := by
 refine o10 S ?_; clear S; rintro hc S
 have low : (s.heap.objs.size == sysModules) = false := beq_eq_false_iff_ne.mpr (Nat.ne_of_gt (modules_low S.cx.bas.nolimit))
 refine wpAny_Assign_Name (wpAny_Dict_empty ?_) rfl
 have hn := free_size s.heap
 refine o02 (S.fresh hn) fun f1 f2 f3 => ?_
 have S' : K.H ρ mu lo _ hc := S.step (Step.quiet S.inn (s' := { s with heap := s.heap.push { cls := .type "dict", data := .dict #[] } }) ⟨_, _, rfl, fun _ _ e => Heap.get?_push_of_some _ e⟩)
 refine StH.store (Cf.H.addLoose S' (Heap.get?_push_size _ rfl) ⟨S.inn.none hn, f2, f3⟩ f1) (bound_or hk) hx (t := .val) (y := .ref s.heap.objs.size) rfl fun s'' S'' => h s'' s.heap.objs.size ⟨hc, ?_⟩
 refine o01 (S''.loose _ (List.mem_append_right _ (List.mem_singleton.mpr rfl))) fun ho own => ?_
 exact Cf.H.addMut (Cf.H.dropLoose S'') ho ⟨low, ⟨rfl, rfl, rfl⟩, #[], 0, [], rfl, fun _ he => by simp at he, Pairs.nil, List.nodup_nil, fun k => .inl ⟨rfl, rfl⟩⟩ own f1 fun _ => by simp [Rho.upd]
theorem name_g {x : Str} {p : Pos} {v : TV} (hk : kOk (K.env.kindOf x) = true) (hd : (x == ("__debug__" : Str)) = false) (hv : ρ x = some v) : K.G ρ mu lo (eval (.Name x p) K.env) v.t v.v := fun s hc S Q E h => by
 refine o11 (S.sees x v hk hv) fun cv rd rp => ?_
 exact wpAny_Name (rd.load S.envOk.kind (h s hc cv S PH.le.rfl rp)) hd
theorem st_append {x : Str} {p apos p1 pos : Pos} {e : PySem.Expr} {i : Nat} {a : Addr} {t : Ty} {l : List t.den} {y : t.den} (S : K.S ρ mu lo s) (hi : mu[i]? = some ⟨x, a, ⟨.lst t, l⟩⟩) (he : K.G ρ mu lo (eval e K.env) t y) (hz : l.length <= 8000000)
  (hk : kOk (K.env.kindOf x) = true) (hd : (x == ("__debug__" : Str)) = false) (hp : plainOk e = true) (hline : (apos.endLine == p1.line) = true) (hin : interactive K.env = false)
  (h : ∀ s', K.S ρ (mu.set i ⟨x, a, ⟨.lst t, l ++ [y]⟩⟩) lo s' -> Q .next s') : K.wp (exec (.Expr (.Call (.Attribute (.Name x p) "append" apos) [e] [] p1) pos) K.env) Q E s := by
 refine o10 S ?_; clear S; rintro hc S
 have hmem := List.mem_of_getElem? hi
 have hv := (S.muts _ hmem).2.2 hk
 refine wpAny_Expr_any ?_ hin rfl
 refine wpAny_Call_method (T := "list") (id := "list.append") (Q := fun _ => Q .next) rfl ?_ hline PySem.F.plainAttrs_list slot_list_append PySem.F.type_list_append ?_
 ·rw [star_cons hp]; rfl
 refine name_g hk hd hv s hc S _ _ fun s₁ hB cv Sa _ re => ?_
 have : cv = .ref a := re
 subst this
 refine o02 (Sa.muts _ hmem) ?_; rintro ⟨o, ho, items, nn, rfl, rl⟩ own _
 refine ⟨⟨_, ho, rfl⟩, fun b hb => by cases hb; exact ⟨_, ho, rfl⟩, ?_⟩
 rw [star_cons hp]
 refine Calls.callWith_builtin rfl (Calls.evalArgs_plain (Calls.spliced_cons (he s₁ hB Sa _ _ fun sb hO v Sb _ rf => Calls.spliced_nil ?_)))
 refine o02 (Sb.muts _ hmem) ?_; rintro ⟨o, ho, items, nn, rfl, rl⟩ own _
 have hl : l.length = items.length := rl.length
 refine append_gives Sb.inn own.1 ho (by lia) fun sd n' st ho' => ?_
 exact h sd ⟨hO, Sb.mutate hi st.same (fun b o hb e => st.old b o (by simpa using hb) e) ho' ⟨_, n', rfl, rl.snoc rf⟩⟩
theorem valueAt_stored {kvs : List (List UInt8 × Value)} (hn : (kvs.map (·.1)).Nodup) (k : List UInt8) (v : Value) (j : List UInt8) : valueAt (stored kvs k v) j = if j = k then some v else valueAt kvs j := by
 unfold stored
 split
 ·rename_i hany
  refine o11 (List.any_eq_true.mp hany) fun kv hkv hk => ?_
  have hk : kv.1 = k := by simpa using hk
  unfold valueAt
  rw [List.find?_map]
  have hc : ((fun kv : List UInt8 × Value => decide (kv.1 = j)) ∘ fun kv => if kv.1 = k then (kv.1, v) else kv) = fun kv => decide (kv.1 = j) := by
   funext kv'
   simp only [Function.comp]
   split <;> rfl
  rw [hc, Option.map_map]
  split
  ·rename_i hj
   have hs : (kvs.find? fun kv => decide (kv.1 = j)).isSome = true := by
    rw [List.find?_isSome]; exact ⟨kv, hkv, by simp [hk, hj]⟩
   refine o10 (Option.isSome_iff_exists.mp hs) fun z hz => ?_
   rw [hz]
   have hz1 : z.1 = j := by simpa using List.find?_some hz
   simp [hz1, hj]
  ·rename_i hj
   generalize hz : (kvs.find? fun kv => decide (kv.1 = j)) = zz; induction zz with
   | none => rfl
   | some z =>
    have hz1 : z.1 = j := by simpa using List.find?_some hz
    have : z.1 ≠ k := fun e => hj (hz1.symm.trans e)
    simp [this]
 ·rename_i hany
  unfold valueAt
  rw [List.find?_append]
  split
  ·rename_i hj
   have : (kvs.find? fun kv => decide (kv.1 = j)) = none := by
    rw [List.find?_eq_none]
    intro kv hkv hh
    apply hany
    rw [List.any_eq_true]
    exact ⟨kv, hkv, by rw [hj] at hh; exact hh⟩
   rw [this]
   simp [hj]
  ·rename_i hj
   have hkj : ¬ k = j := fun e => hj e.symm
   cases hz : kvs.find? fun kv => decide (kv.1 = j) <;> simp [hkj]
theorem set_gives {o : Obj} {d : Addr} {t : Ty} {f : List UInt8 -> Option t.den} {k : List UInt8} {y : t.den} {kv v : Value} {A : Around} {prog : Program} {w : World} {s : Shared} {hc : PH} {Q : Unit -> Shared -> Prop} {E : Value -> Shared -> Prop}
  (L : List (List UInt8)) (hL : L.length <= 100000) (hLf : ∀ j, f j ≠ none -> j ∈ L) (ho : s.heap.get? d = some o) (hm : MRep prog w hc d o ⟨.dct t, f⟩) (rk : Rep w.params hc .byt k kv) (rv : Rep w.params hc t y v)
  (h : ∀ s' o', (∃ h tk, s' = { s with heap := h, toks := tk }) -> (∀ b o, b ≠ d -> s.heap.get? b = some o -> s'.heap.get? b = some o) -> s'.heap.get? d = some o' -> MRep prog w hc d o' ⟨.dct t, fun j => if j = k then some y else f j⟩ -> Q () s') :
  wpAny (model prog w) A (setItem (.ref d) kv v) Q E s := by
 obtain ⟨low, hex, es, ep, kvs, h1, h2, h3, h4, h5⟩ := hm
 refine o10 rk ?_; rintro kt rfl
 have hD : s.heap.DictOf (bytesKind prog w) d kvs := ⟨o, es, ep, ho, hex, h1, h2, h3, h4⟩
 have hlen : kvs.length <= L.length := by
  rw [<- List.length_map (f := (·.1)) (as := kvs)]
  refine nodup_le h4 fun j hj => hLf j fun hf => ?_
  refine o11 (List.mem_map.mp hj) ?_; rintro ⟨j', v'⟩ hkv rfl
  refine o10 (List.mem_iff_getElem?.mp hkv) fun i hi => ?_
  rcases h5 j' with ⟨_, e⟩ | ⟨x, y, e, _⟩
  ·rw [valueAt_of_get h4 hi] at e; exact No.sn e
  ·exact absurd (hf : f j' = none) (by rw [e]; simp)
 refine wpAny_setItem_pairs (knd := bytesKind prog w) (k := k) (by simp [bytesKind, isBytes]) hD (fun h' hD' hs => ?_) (by rw [sizeLine_eq]; lia)
 refine o35 hD' fun o' es' ep' g0 g1 g2 g3 g4 g5 => ?_
 refine h _ o' ⟨_, _, rfl⟩ (fun b o hb e => hs.extBut b o hb e) g0 ⟨low, g1, es', ep', _, g2, g3, g4, g5, fun j => ?_⟩
 rw [valueAt_stored h4]
 by_cases hj : j = k
 ·simp only [if_pos hj]
  exact .inr ⟨y, v, rfl, rfl, rv⟩
 ·simp only [if_neg hj]
  exact h5 j
theorem st_set {x : Str} {p p1 pos : Pos} {ke ve : PySem.Expr} {i : Nat} {a : Addr} {t : Ty} {f : List UInt8 -> Option t.den} {k : List UInt8} {y : t.den} (L : List (List UInt8)) (hL : L.length <= 100000) (hLf : ∀ j, f j ≠ none -> j ∈ L)
  (S : K.S ρ mu lo s) (hi : mu[i]? = some ⟨x, a, ⟨.dct t, f⟩⟩) (hv : K.G ρ mu lo (eval ve K.env) t y) (hke : K.G ρ mu lo (eval ke K.env) .byt k)
  (hk : kOk (K.env.kindOf x) = true) (hd : (x == ("__debug__" : Str)) = false) (hs : swapsWith ve (some (.Subscript (.Name x p) ke p1)) pos.line K.env = pure false)
  (h : ∀ s', K.S ρ (mu.set i ⟨x, a, ⟨.dct t, fun j => if j = k then some y else f j⟩⟩) lo s' -> Q .next s') : K.wp (exec (.Assign [.Subscript (.Name x p) ke p1] ve pos) K.env) Q E s := by
 refine o10 S ?_; clear S; rintro hc S
 have hmem := List.mem_of_getElem? hi
 have hvx := (S.muts _ hmem).2.2 hk
 refine wpAny_Assign_Subscript (hv s hc S _ _ fun s₁ hB v Sa _ re => name_g hk hd hvx s₁ hB Sa _ _ fun sb hO dv Sb leb rf => hke sb hO Sb _ _ fun sd hV kv Sc lec rh => ?_) hs
 have : dv = .ref a := rf
 subst this
 refine o02 (Sc.muts _ hmem) ?_; rintro ⟨o, ho, hm⟩ own _
 refine set_gives L hL hLf ho hm rh (re.mono (leb.trans lec)) fun se o' same k ho' hm' => h se ⟨hV, Sc.mutate hi same k ho' hm'⟩
theorem st_if {c : PySem.Expr} {b o : List Stmt} {pos : Pos} {v : Bool} (S : K.S ρ mu lo s) (hb : K.GB ρ mu lo (isTrue c K.env (eval c K.env)) v)
  (ht : v = true -> ∀ s', K.S ρ mu lo s' -> K.wp (execs b K.env) Q E s') (hf : v = false -> ∀ s', K.S ρ mu lo s' -> K.wp (execs o K.env) Q E s') : K.wp (exec (.If c b o pos) K.env) Q E s := by
 refine o10 S ?_; clear S; rintro hc S
 refine wpAny_If (hb s hc S _ _ fun s' hd S' _ => ?_)
 induction v with
 | true => exact ht rfl s' ⟨hd, S'⟩
 | false => exact hf rfl s' ⟨hd, S'⟩
theorem st_ret {e : PySem.Expr} {pos : Pos} {t : Ty} {y : t.den} (S : K.S ρ mu lo s) (he : K.G ρ mu lo (eval e K.env) t y) (h : ∀ s' hd cv, K.H ρ mu lo s' hd -> Rep K.w.params hd t y cv -> Q (.ret cv) s') : K.wp (exec (.Return (some e) pos) K.env) Q E s := by
 refine o10 S ?_; clear S; rintro hc S
 exact wpAny_Return_some (he s hc S _ _ fun s' hd cv S' _ r => h s' hd cv S' r)
theorem st_cons {st : Stmt} {rest : List Stmt} (h : K.wp (exec st K.env) (fun f s' => match f with | .next => K.wp (execs rest K.env) Q E s' | f => Q f s') E s) : K.wp (execs (st :: rest) K.env) Q E s := wpAny_execs_cons h
noncomputable abbrev SqQ (K : Cf) (rest : List Stmt) (Q : Flow -> Shared -> Prop) (E : Value -> Shared -> Prop) : Flow -> Shared -> Prop := fun f s' => match f with | .next => K.wp (execs rest K.env) Q E s' | f => Q f s'
theorem sq_assign {rest : List Stmt} {x : Str} {p pos : Pos} {e : PySem.Expr} {t : Ty} {y : t.den} (S : K.S ρ mu lo s) (he : K.G ρ mu lo (eval e K.env) t y) (hk : bound K.env x = true) (hx : free mu x = true)
  (hs : swapsWith e (some (.Name x p)) pos.line K.env = pure false) (h : ∀ s', K.S (ρ.upd x ⟨t, y⟩) mu lo s' -> K.wp (execs rest K.env) Q E s') : K.wp (execs (.Assign [.Name x p] e pos :: rest) K.env) Q E s := st_cons (st_assign S he hk hx hs h)
theorem sq_unpack {rest : List Stmt} {elts : List PySem.Expr} {k : Nat} {p pos : Pos} {e : PySem.Expr} {t : Ty} {y : t.den} (S : K.S ρ mu lo s) (he : K.G ρ mu lo (eval e K.env) t y) (ht : tgtOk K.env mu t (.Tuple elts k p) = true)
  (hw : swappedStores [.Tuple elts k p] e K.env = pure none) (hs : swapsWithSole [.Tuple elts k p] e pos.line K.env = pure false)
  (h : ∀ s', K.S (bindT (.Tuple elts k p) ⟨t, y⟩ ρ) mu lo s' -> K.wp (execs rest K.env) Q E s') : K.wp (execs (.Assign [.Tuple elts k p] e pos :: rest) K.env) Q E s := st_cons (st_unpack S he ht hw hs h)
theorem sq_list {rest : List Stmt} {x : Str} {p pos lp : Pos} (t : Ty) (S : K.S ρ mu lo s) (hk : bound K.env x = true) (hx : free mu x = true)
  (h : ∀ s' a, K.S (ρ.upd x ⟨.val, .ref a⟩) (mu ++ [⟨x, a, ⟨.lst t, []⟩⟩]) lo s' -> K.wp (execs rest K.env) Q E s') : K.wp (execs (.Assign [.Name x p] (.List [] lp) pos :: rest) K.env) Q E s := st_cons (st_list t S hk hx h)
theorem sq_dict {rest : List Stmt} {x : Str} {p pos lp : Pos} (t : Ty) (S : K.S ρ mu lo s) (hk : bound K.env x = true) (hx : free mu x = true)
  (h : ∀ s' a, K.S (ρ.upd x ⟨.val, .ref a⟩) (mu ++ [⟨x, a, ⟨.dct t, fun _ => none⟩⟩]) lo s' -> K.wp (execs rest K.env) Q E s') : K.wp (execs (.Assign [.Name x p] (.Dict [] [] lp) pos :: rest) K.env) Q E s := st_cons (st_dict t S hk hx h)
theorem sq_append {rest : List Stmt} {x : Str} {p apos p1 pos : Pos} {e : PySem.Expr} {i : Nat} {a : Addr} {t : Ty} {l : List t.den} {y : t.den} (S : K.S ρ mu lo s) (hi : mu[i]? = some ⟨x, a, ⟨.lst t, l⟩⟩) (he : K.G ρ mu lo (eval e K.env) t y) (hz : l.length <= 8000000)
  (hk : kOk (K.env.kindOf x) = true) (hd : (x == ("__debug__" : Str)) = false) (hp : plainOk e = true) (hline : (apos.endLine == p1.line) = true) (hin : interactive K.env = false)
  (h : ∀ s', K.S ρ (mu.set i ⟨x, a, ⟨.lst t, l ++ [y]⟩⟩) lo s' -> K.wp (execs rest K.env) Q E s') : K.wp (execs (.Expr (.Call (.Attribute (.Name x p) "append" apos) [e] [] p1) pos :: rest) K.env) Q E s := st_cons (st_append S hi he hz hk hd hp hline hin h)
theorem sq_set {rest : List Stmt} {x : Str} {p p1 pos : Pos} {ke ve : PySem.Expr} {i : Nat} {a : Addr} {t : Ty} {f : List UInt8 -> Option t.den} {k : List UInt8} {y : t.den} (L : List (List UInt8)) (hL : L.length <= 100000) (hLf : ∀ j, f j ≠ none -> j ∈ L)
  (S : K.S ρ mu lo s) (hi : mu[i]? = some ⟨x, a, ⟨.dct t, f⟩⟩) (hv : K.G ρ mu lo (eval ve K.env) t y) (hke : K.G ρ mu lo (eval ke K.env) .byt k)
  (hk : kOk (K.env.kindOf x) = true) (hd : (x == ("__debug__" : Str)) = false) (hs : swapsWith ve (some (.Subscript (.Name x p) ke p1)) pos.line K.env = pure false)
  (h : ∀ s', K.S ρ (mu.set i ⟨x, a, ⟨.dct t, fun j => if j = k then some y else f j⟩⟩) lo s' -> K.wp (execs rest K.env) Q E s') : K.wp (execs (.Assign [.Subscript (.Name x p) ke p1] ve pos :: rest) K.env) Q E s := st_cons (st_set L hL hLf S hi hv hke hk hd hs h)
theorem sq_if {rest : List Stmt} {c : PySem.Expr} {b o : List Stmt} {pos : Pos} {v : Bool} (S : K.S ρ mu lo s) (hb : K.GB ρ mu lo (isTrue c K.env (eval c K.env)) v)
  (ht : v = true -> ∀ s', K.S ρ mu lo s' -> K.wp (execs b K.env) (SqQ K rest Q E) E s') (hf : v = false -> ∀ s', K.S ρ mu lo s' -> K.wp (execs o K.env) (SqQ K rest Q E) E s') : K.wp (execs (.If c b o pos :: rest) K.env) Q E s := st_cons (st_if S hb ht hf)
theorem st_nil (h : Q .next s) : K.wp (execs [] K.env) Q E s := wpAny_execs_nil h
end
end Mine
namespace Mine
noncomputable def Cf.at (K : Cf) (h : PH) : Cf := { K with hcb := h }
section
variable {K : Cf} {ρ : Rho} {mu : List Ent} {lo : List (Addr × Obj)} {s : Shared} {hc : PH} {U : Use} {n : Nat} {Q : Flow -> Shared -> Prop} {E : Value -> Shared -> Prop}
theorem Cf.H.down {h1 : PH} (S : (K.at h1).H ρ mu lo s hc) (hle : K.hcb.le h1) (g : Gd K.F K.hcb) : K.H ρ mu lo s hc :=
 ⟨S.toFrm.at (hle.trans S.le) g, S.muts, S.loose, S.nodup⟩
theorem Cf.S.down {h1 : PH} (S : (K.at h1).S ρ mu lo s) (hle : K.hcb.le h1) (g : Gd K.F K.hcb) : K.S ρ mu lo s := let ⟨hc, S⟩ := S; ⟨hc, Cf.H.down S hle g⟩
theorem Cf.H.up (S : K.H ρ mu lo s hc) : (K.at hc).H ρ mu lo s hc :=
 ⟨S.toFrm.at PH.le.rfl fun h x => S.gd h (x.of_le S.le), S.muts, S.loose, S.nodup⟩
noncomputable abbrev TurnWp (K : Cf) (J : Rho -> List Ent -> List (Addr × Obj) -> Prop) (body : List Stmt) (ex : List (Addr × Obj)) (Q : Flow -> Shared -> Prop) (s : Shared) : Prop :=
 ∀ (Q' : Flow -> Shared -> Prop) (E' : Value -> Shared -> Prop), (∀ f ρ mu lo s', (f = .next \/ f = .cont) -> J ρ mu lo -> K.S ρ mu (lo ++ ex) s' -> Q' f s') -> (∀ v s', Q (.ret v) s' -> Q' (.ret v) s') -> K.wp (execs body K.env) Q' E' s
noncomputable abbrev TurnWpF (K : Cf) (J : Rho -> List Ent -> List (Addr × Obj) -> PH -> Prop) (body : List Stmt) (ex : List (Addr × Obj)) (X : Value -> Shared -> Prop) (Q : Flow -> Shared -> Prop) (s : Shared) : Prop :=
 ∀ (Q' : Flow -> Shared -> Prop) (E' : Value -> Shared -> Prop), (∀ f ρ mu lo s' hc', (f = .next \/ f = .cont) -> J ρ mu lo hc' -> K.H ρ mu (lo ++ ex) s' hc' -> Q' f s') -> (∀ v s', Q (.ret v) s' -> Q' (.ret v) s') -> (∀ e s', X e s' -> E' e s') -> K.wp (execs body K.env) Q' E' s
theorem stF {tg iter : PySem.Expr} {body : List Stmt} {pos : Pos} (J : Nat -> Rho -> List Ent -> List (Addr × Obj) -> PH -> Prop) (X : Value -> Shared -> Prop) (EV : K.EV U n) (S : K.H ρ mu lo s hc) (ok : pk U n K.env.kindOf ρ iter) (oki : (pv n ρ iter).itemsOk)
  (ht : ∀ j ρ' mu' lo' hc', J j ρ' mu' lo' hc' -> tgtOk K.env mu' (pv n ρ iter).items.t tg = true) (h0 : ∀ h1, hc.le h1 -> J 0 ρ mu lo h1)
  (turn : ∀ h1, K.hcb.le h1 -> ∀ j x ρ' mu' lo' ex s hc', (pv n ρ iter).items.l[j]? = some x -> J j ρ' mu' lo' hc' -> (K.at h1).H (bindT tg ⟨_, x⟩ ρ') mu' (lo' ++ ex) s hc' -> TurnWpF (K.at h1) (J (j + 1)) body ex X Q s)
  (hX : ∀ e s', X e s' -> notedBy (model K.prog K.w) K.A K.env (cameBackBy (model K.prog K.w) K.A K.env E) e s')
  (fin : ∀ ρ' mu' lo' s' hc', J (pv n ρ iter).items.l.length ρ' mu' lo' hc' -> K.H ρ' mu' lo' s' hc' -> Q .next s') : K.wp (exec (.For tg iter body [] pos) K.env) Q E s := by
 refine wpAny_For (StH.eval EV S ok fun s1 h1 cv S1 le1 r1 => src_gives S1.inn r1 oki fun s2 I fp PI St hI0 st2 hIl S2 => ?_) (fun x => pk_not_set ok _ _)
 refine Classical.byContradiction fun hno => ?_
 have S3 : K.H ρ mu lo s2 h1 := S1.step st2
 have gd := S3.gd
 have hle : K.hcb.le h1 := S3.le
 refine o02 (Cf.H.fresh S1 hI0) fun f1 f2 f3 => ?_
 refine o11 (S2.plain _ _ S2.start) fun oI eI _ => ?_
 have hh := S3.ao.handled
 have S4 : (K.at h1).H ρ mu (lo ++ [(I, oI)]) s2 h1 := Cf.H.addLoose (Cf.H.up S3) eI ⟨S2.fresh, f2, f3⟩ f1
 refine hno ?_
 clear hno f1 f2 f3 S3 S1 S hI0 st2 hIl r1
 let len := (pv n ρ iter).items.l.length
 refine codeAny_forLoop_any (fun m s' => ∃ j hc ρ' mu' lo' o, m = len - j /\ j <= len /\ (K.at h1).H ρ' mu' (lo' ++ [(I, o)]) s' hc /\ St j s'.heap /\ J j ρ' mu' lo' hc) ?_ len ⟨0, h1, ρ, mu, lo, oI, rfl, Nat.zero_le _, S4, S2.start, h0 h1 le1⟩
 intro m s' hI
 refine hid fun Q' E' hQ => ?_
 obtain ⟨j, hd, ρ', mu', lo', o, hm, hj, S5, st, hJ⟩ := hI
 rcases Nat.lt_or_ge j len with hlt | hge
 ·refine (S2.walks K.A hh).item j s' _ _ hlt st fun v h' tk hPI st' hk' => hQ _ _ ?_
  refine Classical.byContradiction fun hno => ?_
  refine o11 (S2.val j v hlt hPI) fun y hy ry => ?_
  refine o11 (S2.plain _ _ st') fun oI' eI' _ => ?_
  have S6 : (K.at h1).H ρ' mu' (lo' ++ [(I, oI')]) { s' with heap := h', toks := tk } hd := Cf.H.last S5 ⟨_, _, rfl⟩ (fun b o hb e => hk' b o (by simpa using hb) e) eI'
  refine hno (letGo_plain (s := { s' with heap := h', toks := tk }) (S2.plain _ _ st') (assignT (K := K.at h1) S6 (ht j ρ' mu' lo' hd hJ) (ry.mono S6.le) fun s7 S7 => ?_))
  clear hno hQ
  have frame : ∀ {h h' : Heap}, St (j + 1) h -> h.get? I = some oI' -> h'.get? I = some oI' -> h1.In h -> h1.In h' -> St (j + 1) h' := fun st e1 e2 i1 i2 => S2.frame hh st (fun o e => Option.some.inj (e1.symm.trans e) ▸ e2) i1 i2
  have st7 : St (j + 1) s7.heap := frame st' eI' (S7.loose _ mem_snoc).1 (S6.inn.of_le S6.le) (S7.inn.of_le S7.le)
  refine turn h1 hle j y ρ' mu' lo' [(I, oI')] s7 hd hy hJ S7 _ _ (fun f ρ'' mu'' lo'' s8 hd8 hf hJ' S8 => ?_) (fun v s' h => h) (fun e s8 h8 => hX e s8 h8)
  have key : ∃ m', m' < m /\ ∃ j hc ρ' mu' lo' o, m' = len - j /\ j <= len /\ (K.at h1).H ρ' mu' (lo' ++ [(I, o)]) s8 hc /\ St j s8.heap /\ J j ρ' mu' lo' hc :=
   ⟨len - (j + 1), by lia, j + 1, hd8, ρ'', mu'', lo'', oI', rfl, hlt, S8, frame st7 (S7.loose _ mem_snoc).1 (S8.loose _ mem_snoc).1 (S7.inn.of_le S7.le) (S8.inn.of_le S8.le), hJ'⟩
  rcases hf with rfl | rfl <;> exact key
 ·obtain rfl : j = len := Nat.le_antisymm hj hge
  refine (S2.walks K.A hh).done s' _ _ st fun h' tk hk' => hQ _ _ (wpAny_execs_nil ?_)
  have S6 : (K.at h1).H ρ' mu' lo' { s' with heap := h', toks := tk } hd := Cf.H.gone S5 ⟨_, _, rfl⟩ (fun b o hb e => hk' b o (by simpa using hb) e)
  exact fin ρ' mu' lo' _ hd hJ (Cf.H.down S6 hle gd)
theorem st_for {tg iter : PySem.Expr} {body : List Stmt} {pos : Pos} (J : Nat -> Rho -> List Ent -> List (Addr × Obj) -> Prop) (EV : K.EV U n) (S : K.S ρ mu lo s) (ok : pk U n K.env.kindOf ρ iter) (oki : (pv n ρ iter).itemsOk)
  (ht : ∀ j ρ' mu' lo', J j ρ' mu' lo' -> tgtOk K.env mu' (pv n ρ iter).items.t tg = true) (h0 : J 0 ρ mu lo)
  (turn : ∀ h1, K.hcb.le h1 -> ∀ j x ρ' mu' lo' ex s, (pv n ρ iter).items.l[j]? = some x -> J j ρ' mu' lo' -> (K.at h1).S (bindT tg ⟨_, x⟩ ρ') mu' (lo' ++ ex) s -> TurnWp (K.at h1) (J (j + 1)) body ex Q s)
  (fin : ∀ ρ' mu' lo' s', J (pv n ρ iter).items.l.length ρ' mu' lo' -> K.S ρ' mu' lo' s' -> Q .next s') : K.wp (exec (.For tg iter body [] pos) K.env) Q E s := by
 refine o10 S ?_; clear S; rintro hc S
 exact stF (fun j ρ mu lo _ => J j ρ mu lo) (fun _ _ => False) EV S ok oki (fun j ρ' mu' lo' _ => ht j ρ' mu' lo') (fun _ _ => h0) (fun h1 hle j x ρ' mu' lo' ex s hc' hx hJ S Q' E' hQ hR _ => turn h1 hle j x ρ' mu' lo' ex s hx hJ ⟨hc', S⟩ Q' E' (fun f ρ mu lo s' hf hJ S' => S'.elim fun hd S' => hQ f ρ mu lo s' hd hf hJ S') hR)
  (fun _ _ h => h.elim) (fun ρ' mu' lo' s' hc' hJ S => fin ρ' mu' lo' s' hJ ⟨hc', S⟩)
theorem sq_for {tg iter : PySem.Expr} {body rest : List Stmt} {pos : Pos} (J : Nat -> Rho -> List Ent -> List (Addr × Obj) -> Prop) (EV : K.EV U n) (S : K.S ρ mu lo s) (ok : pk U n K.env.kindOf ρ iter) (oki : (pv n ρ iter).itemsOk)
  (ht : ∀ j ρ' mu' lo', J j ρ' mu' lo' -> tgtOk K.env mu' (pv n ρ iter).items.t tg = true) (h0 : J 0 ρ mu lo)
  (turn : ∀ h1, K.hcb.le h1 -> ∀ j x ρ' mu' lo' ex s, (pv n ρ iter).items.l[j]? = some x -> J j ρ' mu' lo' -> (K.at h1).S (bindT tg ⟨_, x⟩ ρ') mu' (lo' ++ ex) s -> TurnWp (K.at h1) (J (j + 1)) body ex Q s)
  (fin : ∀ ρ' mu' lo' s', J (pv n ρ iter).items.l.length ρ' mu' lo' -> K.S ρ' mu' lo' s' -> K.wp (execs rest K.env) Q E s') : K.wp (execs (.For tg iter body [] pos :: rest) K.env) Q E s := st_cons (st_for J EV S ok oki ht h0 turn fin)
theorem Cf.H.freezeNew {T : Addr} {oT : Obj} (S : K.H ρ mu lo s hc) (e : s.heap.get? T = some oT) (hT : hc T = none) (h1 : T ∉ mu.map (·.a) ++ lo.map (·.1)) (h2 : T ≠ K.env.locals /\ ∀ x c, K.env.cells.lookup x = some c -> T ≠ c) : K.H ρ mu lo s (hc.put T oT) := by
 have own' : ∀ a, a ∈ mu.map (·.a) ++ lo.map (·.1) -> Own K.env hc a -> Own K.env (hc.put T oT) a := fun a ha h => ⟨by rw [PH.put_ne (fun q : a = T => h1 (q ▸ ha))]; exact h.1, h.2⟩
 refine ⟨S.toFrm.put e ⟨hT, h2⟩, fun x hx => ?_, fun p hp => ?_, S.nodup⟩
 ·refine o02 (S.muts x hx) ?_; rintro ⟨o, a1, a2⟩ a3 a4
  exact ⟨⟨o, a1, a2.mono (PH.put_le hT)⟩, own' _ (List.mem_append_left _ (List.mem_map.mpr ⟨x, hx, rfl⟩)) a3, a4⟩
 ·refine o01 (S.loose p hp) fun a1 a2 => ?_
  exact ⟨a1, own' _ (List.mem_append_right _ (List.mem_map.mpr ⟨p, hp, rfl⟩)) a2⟩
theorem Cf.H.turnOwn {s' : Shared} {own : List (Addr × Obj)} (S : K.H ρ mu (lo ++ own) s hc) (same : ∃ h tk, s' = { s with heap := h, toks := tk }) (k : ∀ b o, b ∉ own.map (·.1) -> s.heap.get? b = some o -> s'.heap.get? b = some o)
  (hl : ∀ b ∈ own.map (·.1), (s'.heap.get? b).isSome = true) : ∃ own', own'.map (·.1) = own.map (·.1) /\ K.H ρ mu (lo ++ own') s' hc := by
 have e1 : (own.map fun p => (p.1, (s'.heap.get? p.1).getD p.2)).map (·.1) = own.map (·.1) := by rw [List.map_map]; rfl
 refine ⟨_, e1, Cf.H.lastOwn S same k e1 fun q hq => ?_⟩
 refine o11 (List.mem_map.mp hq) ?_; rintro p hp rfl
 refine o10 (Option.isSome_iff_exists.mp (hl p.1 (List.mem_map.mpr ⟨p, hp, rfl⟩))) fun o e => ?_
 show s'.heap.get? p.1 = some ((s'.heap.get? p.1).getD p.2)
 rw [e]; rfl
theorem forT {elts : List PySem.Expr} {kk : Nat} {tpos : Pos} {body : List Stmt} {a b : Ty} {its : List (a.den × b.den)} {I : Addr} {fp wr : List Addr} {Pt : Nat -> Array Value -> Prop} {StI : Nat -> Heap -> Prop} {Mid : Nat -> Addr -> Heap -> Prop} {h1 : PH}
  (J : Nat -> Rho -> List Ent -> List (Addr × Obj) -> Prop) (W : WalksT K.prog K.w K.A I fp wr its.length Pt StI Mid) {own : List (Addr × Obj)} (hown : own.map (·.1) = wr)
  (S : (K.at h1).H ρ mu (lo ++ own) s hc) (hst : StI 0 s.heap) (hfp : ∀ b ∈ fp, b ∈ wr \/ ∃ o, h1 b = some o) (hlS : ∀ i h, StI i h -> ∀ b ∈ wr, (h.get? b).isSome = true) (hlM : ∀ i T h, Mid i T h -> ∀ b ∈ wr, (h.get? b).isSome = true)
  (hPt : ∀ j vals, j < its.length -> Pt j vals -> ∃ p q x y, vals = #[p, q] /\ its[j]? = some (x, y) /\ Rep K.w.params h1 a x p /\ Rep K.w.params h1 b y q)
  (ht : ∀ j ρ' mu' lo', J j ρ' mu' lo' -> tgtOk K.env mu' (.pair a b) (.Tuple elts kk tpos) = true) (h0 : J 0 ρ mu lo)
  (turn : ∀ j x ρ' mu' lo' ex s, its[j]? = some x -> J j ρ' mu' lo' -> (K.at h1).S (bindT (.Tuple elts kk tpos) ⟨.pair a b, x⟩ ρ') mu' (lo' ++ ex) s -> TurnWp (K.at h1) (J (j + 1)) body ex Q s)
  (fin : ∀ ρ' mu' lo' s', J its.length ρ' mu' lo' -> (K.at h1).S ρ' mu' lo' s' -> Q .next s') :
  codeAny (model K.prog K.w) K.A (.forLoop (.Tuple elts kk tpos) (.ref I) body [] K.env) (fun r s' => match r with | .ok f => Q f s' | .error e => cameBackBy (model K.prog K.w) K.A K.env E e s') s := by
 let len := its.length
 refine codeAny_forLoop_any (fun m s' => ∃ j hc ρ' mu' lo' own', m = len - j /\ j <= len /\ own'.map (·.1) = wr /\ (K.at h1).H ρ' mu' (lo' ++ own') s' hc /\ StI j s'.heap /\ J j ρ' mu' lo') ?_ len ⟨0, hc, ρ, mu, lo, own, rfl, Nat.zero_le _, hown, S, hst, h0⟩
 have frame : ∀ {i : Nat} {h h' : Heap} {own' : List (Addr × Obj)}, own'.map (·.1) = wr -> StI i h -> h1.In h -> h1.In h' -> (∀ p ∈ own', h.get? p.1 = some p.2 /\ h'.get? p.1 = some p.2) -> StI i h' := fun {i h h' own'} hw st i1 i2 hp => by
  refine W.frame i h h' st fun b hb o e => ?_
  rcases hfp b hb with hb | hb
  ·rw [<- hw] at hb
   refine o11 (List.mem_map.mp hb) fun p hp1 hb => ?_
   refine o01 (hp p hp1) fun q1 q2 => ?_
   rw [hb] at q1 q2
   exact Option.some.inj (q1.symm.trans e) ▸ q2
  ·refine o10 hb fun o' e' => ?_
   exact i2 b o (Option.some.inj ((i1 b o' e').symm.trans e) ▸ e')
 clear h0 hst S hown hfp
 intro m s' hI
 refine hid fun Q' E' hQ => ?_
 obtain ⟨j, hd, ρ', mu', lo', own', hm, hj, hw, S5, st, hJ⟩ := hI
 rcases Nat.lt_or_ge j len with hlt | hge
 ·refine W.item j s' _ _ hlt st fun T vals h' tk hPI hTn hT hM hk' => hQ _ _ ?_
  refine Classical.byContradiction fun hno => ?_
  refine o43 (hPt j vals hlt hPI) fun p q x y hv hy rx ry => ?_
  rw [hv] at hT
  refine o11 (Cf.H.turnOwn (s' := { s' with heap := h', toks := tk }) S5 ⟨_, _, rfl⟩ (fun b o hb e => hk' b o (hw ▸ hb) e) (fun b hb => hlM j T h' hM b (hw ▸ hb))) fun own2 hw2 S6 => ?_
  refine hno (W.go elts kk tpos j T { s' with heap := h', toks := tk } _ _ hM fun h'' st'' hk'' => ?_)
  refine Classical.byContradiction fun hno => ?_
  refine o11 (Cf.H.turnOwn (s' := { s' with heap := h'', toks := tk }) S6 ⟨_, _, rfl⟩ (fun b o hb e => hk'' b o ((hw2.trans hw) ▸ hb) e) (fun b hb => hlS (j + 1) h'' st'' b ((hw2.trans hw) ▸ hb))) fun own3 hw3 S7 => ?_
  have hw3' : own3.map (·.1) = wr := hw3.trans (hw2.trans hw)
  refine o12 hT fun oT eT cT zz => o10 zz fun nT dT => ?_
  have hTs : s'.heap.get? T = none := Heap.get?_none_of_le hTn
  have hTd : hd T = none := S5.inn.none hTs
  refine o01 (Cf.H.fresh S5 hTs) fun a1 a2 => ?_
  rw [List.map_append, hw, <- hw3', <- List.map_append] at a1
  have S8 : (K.at h1).H ρ' mu' (lo' ++ own3) { s' with heap := h'', toks := tk } (hd.put T oT) := Cf.H.freezeNew S7 (hk'' T oT (W.apart j T h' hM) eT) hTd a1 a2
  have le8 : h1.le (hd.put T oT) := S5.le.trans (PH.put_le hTd)
  refine hno (assignT (K := K.at h1) (t := .pair a b) (y := (x, y)) S8 (ht j ρ' mu' lo' hJ) ⟨T, p, q, rfl, ⟨oT, nT, PH.put_self, cT, dT⟩, rx.mono le8, ry.mono le8⟩ fun s7 S9 => ?_)
  clear hno hQ
  have st7 : StI (j + 1) s7.heap := frame hw3' st'' (S8.inn.of_le S8.le) (S9.inn.of_le S9.le) fun p hp => ⟨(S8.loose p (List.mem_append_right _ hp)).1, (S9.loose p (List.mem_append_right _ hp)).1⟩
  refine turn j (x, y) ρ' mu' lo' own3 s7 hy hJ ⟨_, S9⟩ _ _ (fun f ρ'' mu'' lo'' s8 hf hJ' S8' => ?_) fun v s' h => h
  refine o10 S8' ?_; clear S8'; rintro hd8 S8'
  have key : ∃ m', m' < m /\ ∃ j hc ρ' mu' lo' own', m' = len - j /\ j <= len /\ own'.map (·.1) = wr /\ (K.at h1).H ρ' mu' (lo' ++ own') s8 hc /\ StI j s8.heap /\ J j ρ' mu' lo' :=
   ⟨len - (j + 1), by lia, j + 1, hd8, ρ'', mu'', lo'', own3, rfl, hlt, hw3', S8', frame hw3' st7 (S9.inn.of_le S9.le) (S8'.inn.of_le S8'.le) fun p hp => ⟨(S9.loose p (List.mem_append_right _ hp)).1, (S8'.loose p (List.mem_append_right _ hp)).1⟩, hJ'⟩
  rcases hf with rfl | rfl <;> exact key
 ·obtain rfl : j = len := Nat.le_antisymm hj hge
  refine W.done s' _ _ st fun h' tk hk' => hQ _ _ (wpAny_execs_nil ?_)
  exact fin ρ' mu' lo' _ hJ ⟨hd, Cf.H.goneOwn S5 ⟨_, _, rfl⟩ (fun b o hb e => hk' b o (hw ▸ hb) e)⟩
theorem st_comp {x : Str} {p pos cpos : Pos} {elt : PySem.Expr} {gens : List Comprehension} {scope : Scope} (EV : K.EV U n) (TE : K.TE U n) (S : K.S ρ mu lo s) (ok : pk U (n + 1) K.env.kindOf ρ (.ListComp elt gens scope cpos))
  (hk : bound K.env x = true) (hx : free mu x = true) (hs : swapsWith (.ListComp elt gens scope cpos) (some (.Name x p)) pos.line K.env = pure true)
  (h : ∀ s', K.S (ρ.upd x (pv (n + 1) ρ (.ListComp elt gens scope cpos))) mu lo s' -> Q .next s') : K.wp (exec (.Assign [.Name x p] (.ListComp elt gens scope cpos) pos) K.env) Q E s := by
 refine o10 S ?_; clear S; rintro hc S
 rw [exec_Assign_Name_used _ _ _ _ hs]
 have fin : ∀ {t : Ty} {l : List t.den}, pv (n + 1) ρ (.ListComp elt gens scope cpos) = ⟨.lst t, l⟩ -> CompEnd K.w s hc t l (compPost (model K.prog K.w) K.A E (some (assign (.Name x p) K.env)) fun _ s' => Q .next s') := by
  intro t l hv D C s' hd m vs nn hD hC hDC st oD oC hns eD r
  refine o02 (Cf.H.fresh S hC) fun c1 c2 c3 => ?_
  let o : Obj := { cls := .type "list", data := .seq (List.toArray vs) nn }
  have le2 : hd.le (hd.put D o) := PH.put_le oD
  have stp : Step s s' hc (hd.put D o) := ⟨st.keeps, st.le.trans le2, fun b o' e => by
   unfold PH.put at e; split at e
   ·subst_vars; exact .inr hD
   ·exact st.new b o' e, st.inn.put eD⟩
  have S1 : K.H ρ mu lo s' (hd.put D o) := S.step stp
  refine o32 hns fun oCo esC epC eC eC2 eC3 => ?_
  have S2 : K.H ρ mu (lo ++ [(C, oCo)]) s' (hd.put D o) := Cf.H.addLoose S1 eC ⟨by rw [PH.put_ne (Ne.symm hDC)]; exact oC, c2, c3⟩ c1
  show wpAny _ _ (assign (.Name x p) K.env (.ref D)) _ _ _
  refine wpAny_assign_Name (StH.store S2 (bound_or hk) hx (t := .lst t) (y := l) ⟨D, vs, rfl, ⟨o, nn, PH.put_self, rfl, rfl⟩, r.mono fun _ _ x => x.mono le2⟩ fun s'' S3 => ?_)
  refine o01 (S3.loose _ (List.mem_append_right _ (List.mem_singleton.mpr rfl))) fun eC4 _ => ?_
  refine ⟨m, ⟨oCo, esC, epC, eC4, eC2, eC3⟩, fun h' hs' => ?_⟩
  rw [hv] at h
  exact h _ ⟨_, Cf.H.gone S3 ⟨_, _, rfl⟩ fun b o hb e => hs'.extBut b o hb e⟩
 rcases gens with _ | ⟨⟨gt, gi, gf, ga⟩, _ | ⟨g, _ | ⟨_, _⟩⟩⟩ <;> try exact False.elim ok
 ·obtain rfl : ga = 0 := ok.2.2.2.2.1
  obtain ⟨cl, e1, e2⟩ := comp_one (pos := cpos) EV TE S.cx ok (fin rfl)
  have Fs := scope_fits (env := K.env) ok.1
  refine wpAny_bind (wpAny_standAt (wpAny_bind ?_))
  exact wpAny_bind (wpAny_mono (wpAny_comprehension_free (use := some (assign (.Name x p) K.env)) (Q := fun _ s' => Q .next s') rfl (fun x => pk_not_set ok.2.1 _ _) e1 Fs.kind (fun x hx hl => Fs.loc x hx hl) e2) (fun _ s' hq => wpAny_pure (wpAny_pure hq)) fun _ _ e => e)
 ·obtain rfl : ga = 0 := ok.2.2.2.2.1
  obtain ⟨cl, e1, e2⟩ := comp_two (pos := cpos) EV TE S.cx ok (fin rfl)
  have Fs := scope_fits (env := K.env) ok.1
  refine wpAny_bind (wpAny_standAt (wpAny_bind ?_))
  exact wpAny_bind (wpAny_mono (wpAny_comprehension_free (use := some (assign (.Name x p) K.env)) (Q := fun _ s' => Q .next s') rfl (fun x => pk_not_set ok.2.1 _ _) e1 Fs.kind (fun x hx hl => Fs.loc x hx hl) e2) (fun _ s' hq => wpAny_pure (wpAny_pure hq)) fun _ _ e => e)
theorem sq_comp {x : Str} {p pos cpos : Pos} {elt : PySem.Expr} {gens : List Comprehension} {scope : Scope} {rest : List Stmt} (EV : K.EV U n) (TE : K.TE U n) (S : K.S ρ mu lo s) (ok : pk U (n + 1) K.env.kindOf ρ (.ListComp elt gens scope cpos))
  (hk : bound K.env x = true) (hx : free mu x = true) (hs : swapsWith (.ListComp elt gens scope cpos) (some (.Name x p)) pos.line K.env = pure true)
  (h : ∀ s', K.S (ρ.upd x (pv (n + 1) ρ (.ListComp elt gens scope cpos))) mu lo s' -> K.wp (execs rest K.env) Q E s') : K.wp (execs (.Assign [.Name x p] (.ListComp elt gens scope cpos) pos :: rest) K.env) Q E s := st_cons (st_comp EV TE S ok hk hx hs h)
end
end Mine
namespace Mine
noncomputable def bindR : List Str -> List TV -> Rho -> Rho
 | n :: ns, v :: vs, ρ => bindR ns vs (ρ.upd n v)
 | _, _, ρ => ρ
noncomputable def BInv (P : Params) (hc : PH) (κ : Kinds) (m cm : Str -> Option Value) (ρ : Rho) : Prop :=
 ∀ x v, ρ x = some v -> (κ x = some .local /\ ∃ cv, m x = some cv /\ RepTV P hc v cv) \/ (κ x = some .cell /\ ∃ cv, cm x = some cv /\ RepTV P hc v cv)
theorem bind_inv {P : Params} {hc : PH} {κ : Kinds} : ∀ (ns : List Str) {xs : List TV} {vs : List Value} {m cm : Str -> Option Value} {ρ : Rho}, (ns.all fun n => κ n == some .local || κ n == some .cell) = true ->
  Rel2 (RepTV P hc) xs vs -> BInv P hc κ m cm ρ -> BInv P hc κ (bindL κ (ns.zip vs) m) (bindC κ (ns.zip vs) cm) (bindR ns xs ρ)
 | [], xs, vs, m, cm, ρ, _, r, h => by rcases r with ⟨⟩ <;> exact h
 | n :: ns, [], vs, m, cm, ρ, _, r, h => by rcases r with ⟨⟩; exact h
 | n :: ns, x :: xs, v :: vs, m, cm, ρ, hk, .cons r rs, h => by
  rw [List.all_cons, Bool.and_eq_true] at hk
  refine o01 hk ?_; clear hk; rintro hn hk
  show BInv P hc κ (bindL κ (ns.zip vs) _) (bindC κ (ns.zip vs) _) (bindR ns xs (ρ.upd n x))
  refine bind_inv ns hk rs fun y w hy => ?_
  unfold Rho.upd at hy
  have hn' : κ n = some .local \/ κ n = some .cell := by simpa using hn
  split at hy
  ·rename_i hyn
   subst hyn
   obtain rfl := Option.some.inj hy
   rcases hn' with hn' | hn'
   ·exact .inl ⟨hn', v, by simp [hn'], r⟩
   ·refine .inr ⟨hn', v, ?_, r⟩
    rw [if_neg (by rw [hn']; simp)]; simp
  ·rename_i hyn
   rcases h y w hy with ⟨a, cv, b, c⟩ | ⟨a, cv, b, c⟩
   ·refine .inl ⟨a, cv, ?_, c⟩
    by_cases hl : κ n = some .local
    ·rw [if_pos hl]; show (if y = n then _ else m y) = _; rw [if_neg hyn]; exact b
    ·rw [if_neg hl]; exact b
   ·refine .inr ⟨a, cv, ?_, c⟩
    by_cases hl : κ n = some .local
    ·rw [if_pos hl]; exact b
    ·rw [if_neg hl]; show (if y = n then _ else cm y) = _; rw [if_neg hyn]; exact b
noncomputable def ownScope (sc : Scope) : Bool := sc.kind == .function && sc.names.all fun y => y.2 != .free && (y.2 != .cell || ((cellsFrom 0 sc.names []).lookup y.1).isSome)
theorem cells_some {sc : Scope} (h : ownScope sc = true) (n : Nat) {x : Str} (hx : sc.names.lookup x = some .cell) : ((cellsFrom n sc.names []).lookup x).isSome = true := by
 unfold ownScope at h
 simp only [Bool.and_eq_true, List.all_eq_true] at h
 have := h.2 (x, .cell) (lookup_mem hx)
 have h1 : ((cellsFrom 0 sc.names []).lookup x).isSome = true := by
  have h2 := this.2
  simpa using h2
 refine o10 (Option.isSome_iff_exists.mp h1) fun c hc => ?_
 have hm : x ∈ (cellsFrom 0 sc.names []).map (·.1) := List.mem_map.mpr ⟨(x, c), lookup_mem hc, rfl⟩
 rw [cellsFrom_names sc.names 0 n [] [] rfl] at hm
 generalize e : (cellsFrom n sc.names []).lookup x = zz; induction zz with
 | some _ => rfl
 | none =>
  refine o11 (List.mem_map.mp hm) ?_; rintro ⟨x', c'⟩ hmem rfl
  rw [List.lookup_eq_none_iff] at e
  have := e _ hmem
  simp at this
theorem own_kind' {sc : Scope} (h : ownScope sc = true) : sc.kind = .function := by
 unfold ownScope at h
 simp only [Bool.and_eq_true] at h
 simpa using h.1
theorem own_nofree {sc : Scope} (h : ownScope sc = true) {x : Str} : sc.names.lookup x ≠ some .free := fun hx => by
 unfold ownScope at h
 simp only [Bool.and_eq_true, List.all_eq_true] at h
 have := (h.2 (x, .free) (lookup_mem hx)).1
 simp at this
noncomputable def heapAll (s : Shared) : PH := fun a => s.heap.get? a
noncomputable def frameCf (prog : Program) (F : FA) (w : World) (d : Nat) (A : Around) (gp : Array GenState -> Prop) (s : Shared) (hc : PH) (f : Stmt) (dfl : Value) (g : FuncData) (a : Addr) : Cf :=
 ⟨prog, F, w, d, A.deeper (callEnvC (fdOf f dfl g) s.heap.objs.size a), callEnvC (fdOf f dfl g) s.heap.objs.size a, s, hc, gp⟩
theorem call_cells' {prog : Program} {w : World} {A : Around} {s : Shared} {R : Result -> Shared -> Prop} {a : Addr} {o : Obj} {fd : FuncData} {body : List Stmt} {vals : List Value} {binds : List (Str × Value)}
  (hroom : A.depth < recursionLimit) (ho : s.heap.get? a = some o) (hdata : o.data = .func fd) (hlim : s.heap.NoLimit) (hcd : s.heap.CodeRec fd.code fd.qualname)
  (hbody : fd.body = .stmts body) (hbind : BindsTo s fd ⟨vals, []⟩ binds) (hclo : fd.closure = [])
  (hkind : ∀ x ∈ binds, fd.scope.names.lookup x.1 = some .local \/ (fd.scope.names.lookup x.1 = some .cell /\ ((cellsFrom (s.heap.objs.size + 1) fd.scope.names []).lookup x.1).isSome = true))
  (h : ∀ s₁, InCallC s (callEnvC fd s.heap.objs.size a).locals (bindL (callEnvC fd s.heap.objs.size a).kindOf binds fun _ => none) (callEnvC fd s.heap.objs.size a).cells
    (bindC (callEnvC fd s.heap.objs.size a).kindOf binds fun _ => none) s₁ ->
   wpAny (model prog w) (A.deeper (callEnvC fd s.heap.objs.size a)) (execs body (callEnvC fd s.heap.objs.size a)) (fun f s' => R (.ok (.ret (match f with | .ret v => v | _ => .none))) s')
    (fun e s' => wpAny (model prog w) (A.deeper (callEnvC fd s.heap.objs.size a)) (leaving (callEnvC fd s.heap.objs.size a) e) (fun _ s'' => R (.error e) s'') (fun e' s'' => R (.error e') s'') s') s₁)
  (hco : fd.scope.isCoroutine = false) (hgen : fd.scope.isGenerator = false) (hk : fd.scope.kind = .function) :
  codeAny (model prog w) A (.call (.ref a) ⟨vals, []⟩) R s := by
 refine codeAny_call_function hroom ho hdata hco hgen hbody hcd (hbind _ _ _ _ ?_)
 rw [hclo]
 refine wpAny_newFunctionEnv_cells hk hkind fun env he s' x => ?_
 subst he
 exact ⟨hlim.keeps x.toInCall.keep, codeAny_func (h s' x)⟩
theorem frame_st {prog : Program} {F : FA} {w : World} {d : Nat} {A' : Around} {gp : Array GenState -> Prop} {s s₁ : Shared} {hc h0 : PH} {f : Stmt} {dfl : Value} {g : FuncData} {a : Addr} {xs : List TV} {vs : List Value} (names : List Str) (lo : List (Addr × Obj))
  (ao : AOk A' d) (gd : Gd F h0) (hb : gp s.gens) (hI : hc.In s.heap) (hle : h0.le hc) (r : Rel2 (RepTV w.params hc) xs vs)
  (hl : ∀ p ∈ lo, s.heap.get? p.1 = some p.2 /\ hc p.1 = none) (hln : (lo.map (·.1)).Nodup) (hs : ownScope (defScope f) = true) (hn : (names.all fun n => (defScope f).names.lookup n == some .local || (defScope f).names.lookup n == some .cell) = true)
  (X : InCallC s (callEnvC (fdOf f dfl g) s.heap.objs.size a).locals (bindL (callEnvC (fdOf f dfl g) s.heap.objs.size a).kindOf (names.zip vs) fun _ => none) (callEnvC (fdOf f dfl g) s.heap.objs.size a).cells
    (bindC (callEnvC (fdOf f dfl g) s.heap.objs.size a).kindOf (names.zip vs) fun _ => none) s₁) :
  StH prog F w d A' (callEnvC (fdOf f dfl g) s.heap.objs.size a) s h0 gp (bindR names xs fun _ => none) [] lo s₁ hc := by
 have hk : (defScope f).kind = .function := own_kind' hs
 have hcs : ∀ x c, (callEnvC (fdOf f dfl g) s.heap.objs.size a).cells.lookup x = some c -> s₁.heap.IsCell c (bindC (callEnvC (fdOf f dfl g) s.heap.objs.size a).kindOf (names.zip vs) (fun _ => none) x) := fun x c e => X.cell x c e
 refine o21 X.done ?_; rintro h' tk rfl old
 have hL : s.heap.get? s.heap.objs.size = none := free_size _
 have hcL : ∀ x c, (callEnvC (fdOf f dfl g) s.heap.objs.size a).cells.lookup x = some c -> s.heap.get? c = none /\ s.heap.objs.size < c := fun x c e => by
  have h1 : s.heap.objs.size < c := X.above x c (lookup_mem e)
  refine ⟨?_, h1⟩
  generalize e2 : s.heap.get? c = zz; induction zz with
  | none => rfl
  | some o => exact absurd (Heap.lt_size e2) (Nat.not_lt.mpr (Nat.le_of_lt h1))
 have In' : hc.In h' := hI.keeps old
 refine ⟨⟨ao, ⟨hk, rfl, rfl, fun x hx => ?_⟩, fun x y c e1 e2 => name_of_addr X.apart (lookup_mem e1) (lookup_mem e2), gd, ⟨h', tk, s.gens, rfl⟩, hb, hle, In', fun x v hx hv => ?_, ⟨_, X.toInCall.ns⟩, hI.none hL, fun x c e1 e2 => ⟨hI.none (hcL x c e2).1, _, hcs x c e2⟩, fun x c e => ?_⟩, (fun e he => nomatch he), fun p hp => ?_, by simpa using hln⟩
 ·rcases hx with hx | hx
  ·exact cells_some hs _ hx
  ·exact absurd hx (own_nofree hs)
 ·have key := bind_inv (P := w.params) (hc := hc) (κ := (callEnvC (fdOf f dfl g) s.heap.objs.size a).kindOf) names (m := fun _ => none) (cm := fun _ => none) (ρ := fun _ => none) hn r (fun _ _ e => nomatch e) x v hv
  rcases key with ⟨k, cv, e1, rp⟩ | ⟨k, cv, e1, rp⟩
  ·exact ⟨cv, .inl ⟨k, _, X.toInCall.ns, e1⟩, rp⟩
  ·refine o10 (Option.isSome_iff_exists.mp (cells_some hs (s.heap.objs.size + 1) (show (defScope f).names.lookup x = some .cell from k))) fun c hc' => ?_
   refine ⟨cv, .inr (.inl ⟨k, c, hc', ?_⟩), rp⟩
   have := hcs x c hc'
   rw [e1] at this; exact this
 ·refine o11 (hcs x c e) fun o e1 _ => ?_
  rw [e1]; rfl
 ·refine o01 (hl p hp) fun h1 h2 => ?_
  refine ⟨old _ _ h1, h2, ?_, fun x c e => ?_⟩
  ·intro hEq
   have hEq : p.1 = s.heap.objs.size := hEq
   have h3 : s.heap.get? s.heap.objs.size = some p.2 := by rw [<- hEq]; exact h1
   rw [hL] at h3; exact No.ns h3
  ·intro hEq
   rw [hEq, (hcL x c e).1] at h1; exact No.ns h1
theorem enter_frameG {prog : Program} {F : FA} {w : World} {d : Nat} {A : Around} {gp : Array GenState -> Prop} {s : Shared} {hc h0 : PH} {f : Stmt} {dfl : Value} {a : Addr} {xs : List TV} {vs : List Value} {R : Result -> Shared -> Prop} {o : Obj} {g : FuncData} (names : List Str) (lo : List (Addr × Obj))
  (ho : s.heap.get? a = some o) (hd : o.data = .func (fdOf f dfl g)) (hcd : s.heap.CodeRec g.code g.qualname) (ao : AOk A (d + 1)) (gd : Gd F h0) (hb : gp s.gens) (hI : hc.In s.heap) (hle : h0.le hc) (r : Rel2 (RepTV w.params hc) xs vs)
  (hl : ∀ p ∈ lo, s.heap.get? p.1 = some p.2 /\ hc p.1 = none) (hln : (lo.map (·.1)).Nodup)
  (hbind : BindsTo s (fdOf f dfl g) ⟨vs, []⟩ (names.zip vs)) (hs : ownScope (defScope f) = true) (hplain : ((defScope f).isCoroutine || (defScope f).isGenerator) = false) (hn : (names.all fun n => (defScope f).names.lookup n == some .local || (defScope f).names.lookup n == some .cell) = true)
  (h : ∀ s', (frameCf prog F w d A gp s h0 f dfl g a).S (bindR names xs fun _ => none) [] lo s' ->
   wpAny (model prog w) (A.deeper (callEnvC (fdOf f dfl g) s.heap.objs.size a)) (execs (defBody f) (callEnvC (fdOf f dfl g) s.heap.objs.size a)) (fun f s' => R (.ok (.ret (match f with | .ret v => v | _ => .none))) s')
    (fun e s' => wpAny (model prog w) (A.deeper (callEnvC (fdOf f dfl g) s.heap.objs.size a)) (leaving (callEnvC (fdOf f dfl g) s.heap.objs.size a) e) (fun _ s'' => R (.error e) s'') (fun e' s'' => R (.error e') s'') s') s') :
  codeAny (model prog w) A (.call (.ref a) ⟨vs, []⟩) R s := by
 have hbase := (gd _ (hI.of_le hle)).1
 have hkn : ∀ n ∈ names, (defScope f).names.lookup n = some .local \/ (defScope f).names.lookup n = some .cell := fun n hn' => by simpa using List.all_eq_true.mp hn n hn'
 rw [Bool.or_eq_false_iff] at hplain
 refine call_cells' (fd := fdOf f dfl g) (by have := ao.depth; lia) ho hd hbase.nolimit hcd rfl hbind rfl (fun x hx => ?_) (fun s₁ X => h s₁ ⟨hc, frame_st names lo ao.deeper gd hb hI hle r hl hln hs hn X⟩) hplain.1 hplain.2 (own_kind' hs)
 have : x.1 ∈ names := (List.of_mem_zip hx).1
 rcases hkn _ this with h1 | h1
 ·exact .inl h1
 ·exact .inr ⟨h1, cells_some hs _ h1⟩
theorem enter_frame {prog : Program} {F : FA} {w : World} {d : Nat} {A : Around} {gp : Array GenState -> Prop} {s : Shared} {hc h0 : PH} {f : Stmt} {dfl : Value} {a : Addr} {xs : List TV} {vs : List Value} {R : Result -> Shared -> Prop} (names : List Str) (lo : List (Addr × Obj))
  (ha : FunAt s.heap a f dfl) (ao : AOk A (d + 1)) (gd : Gd F h0) (hb : gp s.gens) (hI : hc.In s.heap) (hle : h0.le hc) (r : Rel2 (RepTV w.params hc) xs vs)
  (hl : ∀ p ∈ lo, s.heap.get? p.1 = some p.2 /\ hc p.1 = none) (hln : (lo.map (·.1)).Nodup)
  (hbind : ∀ g, BindsTo s (fdOf f dfl g) ⟨vs, []⟩ (names.zip vs)) (hs : ownScope (defScope f) = true) (hplain : ((defScope f).isCoroutine || (defScope f).isGenerator) = false) (hn : (names.all fun n => (defScope f).names.lookup n == some .local || (defScope f).names.lookup n == some .cell) = true)
  (h : ∀ g s', (frameCf prog F w d A gp s h0 f dfl g a).S (bindR names xs fun _ => none) [] lo s' ->
   wpAny (model prog w) (A.deeper (callEnvC (fdOf f dfl g) s.heap.objs.size a)) (execs (defBody f) (callEnvC (fdOf f dfl g) s.heap.objs.size a)) (fun f s' => R (.ok (.ret (match f with | .ret v => v | _ => .none))) s')
    (fun e s' => wpAny (model prog w) (A.deeper (callEnvC (fdOf f dfl g) s.heap.objs.size a)) (leaving (callEnvC (fdOf f dfl g) s.heap.objs.size a) e) (fun _ s'' => R (.error e) s'') (fun e' s'' => R (.error e') s'') s') s') :
  codeAny (model prog w) A (.call (.ref a) ⟨vs, []⟩) R s := by
 refine o22 ha fun o g ho hd hcd => ?_
 exact enter_frameG names lo ho hd hcd ao gd hb hI hle r hl hln (hbind g) hs hplain hn (h g)
theorem helper_gives {prog : Program} {F : FA} {w : World} {d : Nat} {A : Around} {s : Shared} {hc : PH} {f : Stmt} {dfl : Value} {a : Addr} {xs : List TV} {vs : List Value} {t : Ty} {y : t.den} (names : List Str) (ht : t.flat = true)
  (ha : FunAt s.heap a f dfl) (ao : AOk A (d + 1)) (bas : Bas F s.heap) (fu : Funs F s.heap) (hI : hc.In s.heap) (r : Rel2 (RepTV w.params hc) xs vs)
  (hbind : ∀ g, BindsTo s (fdOf f dfl g) ⟨vs, []⟩ (names.zip vs)) (hs : ownScope (defScope f) = true) (hplain : ((defScope f).isCoroutine || (defScope f).isGenerator) = false) (hn : (names.all fun n => (defScope f).names.lookup n == some .local || (defScope f).names.lookup n == some .cell) = true)
  (h : ∀ g s', (frameCf prog F w d A (fun x => x = s.gens) s (heapAll s) f dfl g a).S (bindR names xs fun _ => none) [] [] s' ->
   ∀ Q E, (∀ s'' hd cv ρ mu lo, (frameCf prog F w d A (fun x => x = s.gens) s (heapAll s) f dfl g a).H ρ mu lo s'' hd -> Rep w.params hd t y cv -> Q (.ret cv) s'') -> (frameCf prog F w d A (fun x => x = s.gens) s (heapAll s) f dfl g a).wp (execs (defBody f) (callEnvC (fdOf f dfl g) s.heap.objs.size a)) Q E s') : Gives prog w A (call (.ref a) vs) s hc t y := by
 intro Q E hQ
 refine wpAny_call (enter_frame (gp := fun x => x = s.gens) (h0 := heapAll s) (hc := heapAll s) names [] ha ao (fun h x => ⟨bas.keeps x, fu.keeps x⟩) rfl (fun _ _ e => e) PH.le.rfl (r.mono fun _ _ x => x.mono hI) (fun p hp => nomatch hp) List.nodup_nil hbind hs hplain hn fun g s' S => ?_)
 refine h g s' S _ _ fun s'' hd cv ρ mu lo S' rp => ?_
 refine o30 S'.same fun h' tk g' e => ?_
 have hin : ∀ b o, s.heap.get? b = some o -> s''.heap.get? b = some o := fun b o eb => S'.inn b o (S'.le _ _ eb)
 have hg : s''.gens = s.gens := S'.bare
 have e2 : s'' = { s with heap := h', toks := tk } := by rw [e] at hg ⊢; exact congrArg (fun g => { s with heap := h', toks := tk, gens := g }) hg
 refine hQ s'' hc cv (Step.quiet hI ⟨h', tk, e2, fun b o eb => ?_⟩) (rp.flat ht)
 have := hin b o eb
 rw [e2] at this; exact this
noncomputable def ofL : List (Str × TV) -> Rho
 | [], _ => none
 | (n, v) :: r, x => if x = n then some v else ofL r x
noncomputable def rds (ρ : Rho) : List (Str × TV) -> List (Option TV)
 | [] => []
 | p :: r => ρ p.1 :: rds ρ r
noncomputable def vls : List (Str × TV) -> List (Option TV)
 | [] => []
 | p :: r => some p.2 :: vls r
noncomputable def AllR (ρ : Rho) (l : List (Str × TV)) : Prop := rds ρ l = vls l
theorem AllR.hd {ρ : Rho} {p : Str × TV} {r : List (Str × TV)} (h : AllR ρ (p :: r)) : ρ p.1 = some p.2 := (List.cons.inj h).1
theorem AllR.tl {ρ : Rho} {p : Str × TV} {r : List (Str × TV)} (h : AllR ρ (p :: r)) : AllR ρ r := (List.cons.inj h).2
theorem AllR.cons {ρ : Rho} {p : Str × TV} {r : List (Str × TV)} (h : ρ p.1 = some p.2) (k : AllR ρ r) : AllR ρ (p :: r) := (congr (congrArg List.cons h) k : ρ p.1 :: rds ρ r = some p.2 :: vls r)
theorem ofL_le {ρ : Rho} : ∀ {l : List (Str × TV)}, AllR ρ l -> ∀ x v, ofL l x = some v -> ρ x = some v
 | [], _, _, _, e => nomatch e
 | (n, w) :: r, h, x, v, e => by
  unfold ofL at e
  split at e
  ·subst_vars; obtain rfl := Option.some.inj e; exact h.hd
  ·exact ofL_le h.tl x v e
noncomputable def AllM (ρ : Rho) (l : List Ent) : Prop := l.map (fun e => ρ e.name) = l.map fun e => some ⟨.val, .ref e.a⟩
theorem allM_get {ρ : Rho} {l : List Ent} (h : AllM ρ l) : ∀ e ∈ l, ρ e.name = some ⟨.val, .ref e.a⟩ := List.map_inj_left.mp h
section
variable {K : Cf} {ρ : Rho} {mu : List Ent} {lo : List (Addr × Obj)} {s : Shared} {hc : PH}
theorem Cf.H.weak {ρ' : Rho} (S : K.H ρ mu lo s hc) (h : ∀ x v, ρ' x = some v -> ρ x = some v) (hm : ∀ e ∈ mu, kOk (K.env.kindOf e.name) = true -> ρ' e.name = some ⟨.val, .ref e.a⟩) : K.H ρ' mu lo s hc :=
 ⟨S.toFrm.rho fun x v hk hv => S.sees x v hk (h x v hv), fun e he => ⟨(S.muts e he).1, (S.muts e he).2.1, hm e he⟩, S.loose, S.nodup⟩
theorem Cf.S.to (S : K.S ρ mu lo s) (l : List (Str × TV)) (h : AllR ρ l) (hm : AllM (ofL l) mu) : K.S (ofL l) mu lo s :=
 let ⟨hc, S⟩ := S
 ⟨hc, Cf.H.weak S (ofL_le h) fun e he _ => allM_get hm e he⟩
end
end Mine
namespace Mine
theorem user_none {prog : Program} {w : World} {F : FA} {d : Nat} : HUser prog w F {} d := fun f A s hc xs vs hf _ _ _ _ _ ok => by
 rcases f with ⟨⟩ <;> first | (cases hf; done) | (have := ok.1; cases this; done)
theorem rangeOf_get {n : Nat} {j : Nat} {x : Int} (h : (rangeOf 0 n 1)[j]? = some x) : x = j /\ j < n := by
 unfold rangeOf at h
 rw [List.getElem?_map] at h
 generalize e : (List.range (Builtin.Range.rangeSize 0 n 1).toNat)[j]? = zz; induction zz with
 | none => rw [e] at h; exact No.ns h
 | some i =>
  rw [e] at h
  have hi := List.getElem?_eq_some_iff.mp e
  refine o10 hi ?_; clear hi; rintro hlt hi
  rw [List.length_range] at hlt
  rw [List.getElem_range] at hi
  obtain rfl := Option.some.inj h
  subst hi
  rw [rangeSize_one] at hlt
  refine ⟨by simp, ?_⟩
  split at hlt <;> (first | lia | omega)
theorem rangeOf_len (n : Nat) : (rangeOf 0 n 1).length = n := by
 rw [range_len, rangeSize_one]; split <;> (first | lia | omega)
theorem rangeOf_up (n : Nat) : rangeOf 0 n 1 = (List.range n).map (fun i : Nat => (i : Int)) := by
 unfold rangeOf
 rw [rangeSize_one]
 have : (if (0 : Int) < n then (n : Int) - 0 else 0).toNat = n := by split <;> (first | lia | omega)
 rw [this]; simp
section
variable {prog : Program} {w : World} {F : FA} {d : Nat} {A : Around} {s : Shared} {hc : PH}
theorem hl_abs {α : Type} {l : List α} (h : l.length <= 100) : Int.natAbs (l.length : Int) <= 1000 := Nat.le_trans h (by decide)
theorem ne_of_beq_false {a b : Int} (h : (a == b) = false) : ¬ a = b := fun e => by rw [e, beq_self_eq_true] at h; exact No.tf h
noncomputable def nextStep (found : Int) (roads : List Int) (out : Int) (k : Nat) : Int := if Builtin.bitAnd (found.fdiv (2 ^ k)) 1 = 1 then Builtin.bitOr out (roads.getD k 0) else out
theorem next_gives {found : Int} {roads : List Int} {vs : List Value} (ao : AOk A (d + 1)) (bas : Bas F s.heap) (fu : Funs F s.heap) (hI : hc.In s.heap) (r : Rel2 (RepTV w.params hc) [⟨.int, found⟩, ⟨.lst .int, roads⟩] vs) (hl : roads.length <= 100) :
  Gives prog w A (call (.ref F.next) vs) s hc .int (nextF found roads) := by
 have EV := fun n => (pv_sound (user_none (prog := prog) (w := w) (F := F) (d := d)) n).1
 have TE := fun n => (pv_sound (user_none (prog := prog) (w := w) (F := F) (d := d)) n).2
 refine o22 (rel_two r) ?_; rintro va vb rfl _ _
 refine helper_gives (f := topDef "_law_next") ["found", "roads"] rfl (fu.own .next rfl) ao bas fu hI r (fun g => BindsTo.of_eq rfl) rfl rfl rfl fun g s₁ S Q E hQ => ?_
 clear r bas fu hI ao
 let K : Cf := frameCf prog F w d A (fun x => x = s.gens) s (heapAll s) (topDef "_law_next") .none g F.next
 let N : Int -> List (Str × TV) := fun o => [("found", ⟨.int, found⟩), ("roads", ⟨.lst .int, roads⟩), ("out", ⟨.int, o⟩)]
 let P : Nat -> Int := fun j => (List.range j).foldl (nextStep found roads) 0
 refine sq_assign (K := K) (t := .int) (y := (0 : Int)) S (pure_g (n := 5) (U := {}) (EV 5) (by walk_at "pk")) (by rfl) (by rfl) (by rfl) fun sb Sb => ?_
 refine sq_for (K := K) (n := 6) (U := {}) (fun j ρ mu lo => ρ = ofL (N (P j)) /\ mu = [] /\ lo = []) (EV 6) (Cf.S.to Sb (N 0) rfl rfl) (by walk_at "pk") ⟨.inl rfl, by decide, hl_abs hl⟩ ?_ ⟨rfl, rfl, rfl⟩ ?_ ?_
 ·rintro j ρ mu lo ⟨rfl, rfl, rfl⟩; rfl
 ·intro h1 hle j x ρ mu lo ex se hx hJ Sd Q' E' hQ' _
  refine o02 hJ ?_; rintro rfl rfl rfl
  refine o01 (rangeOf_get hx) ?_; rintro rfl hj
  have e : P (j + 1) = nextStep found roads (P j) j := by
   show (List.range (j + 1)).foldl _ 0 = _
   rw [List.range_succ, List.foldl_append]; rfl
  unfold nextStep at e
  refine sq_if (v := Builtin.bitAnd (found.fdiv (2 ^ j)) 1 == 1) Sd (test_g (n := 6) (U := {}) (TE 6) (by walk_at "pk")) (fun hb sf Se => ?_) (fun hb sf Se => ?_)
  ·rw [if_pos (eq_of_beq hb)] at e
   exact sq_assign (t := .int) (y := Builtin.bitOr (P j) (roads.getD j 0)) Se (pure_g (n := 6) (U := {}) (EV 6) (by walk_at "pk")) (by rfl) (by rfl) (by rfl) fun sg Sf =>
    st_nil (st_nil (hQ' _ _ [] [] _ (.inl rfl) ⟨rfl, rfl, rfl⟩ (Cf.S.to Sf (N (P (j + 1))) (by rw [e]; rfl) rfl)))
  ·rw [if_neg (ne_of_beq_false hb)] at e
   exact st_nil (st_nil (hQ' _ _ [] [] _ (.inl rfl) ⟨rfl, rfl, rfl⟩ (Cf.S.to Se (N (P (j + 1))) (by rw [e]; rfl) rfl)))
 ·intro ρ mu lo se hJ Sd
  refine o02 hJ ?_; rintro rfl rfl rfl
  have e : P (rangeOf 0 roads.length 1).length = nextF found roads := by rw [rangeOf_len]; rfl
  exact st_cons (st_ret (K := K) (t := .int) (y := P (rangeOf 0 roads.length 1).length) Sd (pure_g (n := 6) (U := {}) (EV 6) (by walk_at "pk")) fun sf hd cv Se rj => hQ _ _ _ _ _ _ Se (e ▸ rj))
end
end Mine
namespace Mine
theorem rangeOf_down (n : Nat) : rangeOf ((n : Int) - 1) (-1) (-1) = (List.range n).reverse.map (fun i : Nat => (i : Int)) := by
 have h1 : (Builtin.Range.rangeSize ((n : Int) - 1) (-1) (-1)).toNat = n := by rw [rangeSize_down]; split <;> (first | lia | omega)
 unfold rangeOf
 rw [h1]
 apply List.ext_getElem
 ·simp
 ·intro i h1 h2
  simp only [List.length_map, List.length_range] at h1
  simp only [List.getElem_map, List.getElem_range, List.getElem_reverse, List.length_range]
  lia
theorem get_map {α β : Type} {f : α -> β} {l : List α} {j : Nat} {x : β} (h : (l.map f)[j]? = some x) : ∃ y, l[j]? = some y /\ f y = x := by
 rw [List.getElem?_map] at h
 generalize e : l[j]? = zz; induction zz with
 | none => rw [e] at h; exact No.ns h
 | some y => rw [e] at h; exact ⟨y, rfl, Option.some.inj h⟩
theorem fold_next {α β : Type} {f : β -> α -> β} {b : β} {l : List α} {j : Nat} {x : α} (h : l[j]? = some x) : (l.take (j + 1)).foldl f b = f ((l.take j).foldl f b) x := by
 rw [List.take_add_one, h]; simp
section
variable {prog : Program} {w : World} {F : FA} {d : Nat} {A : Around} {s : Shared} {hc : PH}
noncomputable def downStep (roads : List Int) (within f : Int) (k : Nat) : Int := if Builtin.bitAnd (f.fdiv (2 ^ k)) 1 = 1 then Builtin.bitOr f (Builtin.bitAnd (roads.getD k 0) within) else f
theorem down_gives {found within : Int} {roads : List Int} {vs : List Value} (ao : AOk A (d + 1)) (bas : Bas F s.heap) (fu : Funs F s.heap) (hI : hc.In s.heap) (r : Rel2 (RepTV w.params hc) [⟨.int, found⟩, ⟨.lst .int, roads⟩, ⟨.int, within⟩] vs) (hl : roads.length <= 100) :
  Gives prog w A (call (.ref F.down) vs) s hc .int (downF found roads within) := by
 have EV := fun n => (pv_sound (user_none (prog := prog) (w := w) (F := F) (d := d)) n).1
 have TE := fun n => (pv_sound (user_none (prog := prog) (w := w) (F := F) (d := d)) n).2
 refine o22 (rel_more r) ?_; rintro va _ rfl _ r'
 refine o22 (rel_two r') ?_; rintro vb vc rfl _ _
 refine helper_gives (f := topDef "_law_down") ["found", "roads", "within"] rfl (fu.own .down rfl) ao bas fu hI r (fun g => BindsTo.of_eq rfl) rfl rfl rfl fun g s₁ S Q E hQ => ?_
 clear r r' bas fu hI ao
 let K : Cf := frameCf prog F w d A (fun x => x = s.gens) s (heapAll s) (topDef "_law_down") .none g F.down
 let L := (List.range roads.length).reverse
 let N : Int -> List (Str × TV) := fun o => [("found", ⟨.int, o⟩), ("roads", ⟨.lst .int, roads⟩), ("within", ⟨.int, within⟩)]
 let P : Nat -> Int := fun j => (L.take j).foldl (downStep roads within) (Builtin.bitAnd found within)
 have hr : Int.natAbs ((roads.length : Int) - 1) <= 1000 := by lia
 refine sq_assign (K := K) (t := .int) (y := Builtin.bitAnd found within) S (pure_g (n := 5) (U := {}) (EV 5) (by walk_at "pk")) (by rfl) (by rfl) (by rfl) fun sb Sb => ?_
 refine sq_for (K := K) (n := 6) (U := {}) (fun j ρ mu lo => ρ = ofL (N (P j)) /\ mu = [] /\ lo = []) (EV 6) (Cf.S.to Sb (N (P 0)) rfl rfl) (by walk_at "pk"; all_goals first | exact hr | (show Int.natAbs (-1) <= 1000; decide)) ⟨.inr rfl, hr, by decide⟩ ?_ ⟨rfl, rfl, rfl⟩ ?_ ?_
 ·rintro j ρ mu lo ⟨rfl, rfl, rfl⟩; rfl
 ·intro h1 hle j x ρ mu lo ex se hx hJ Sd Q' E' hQ' _
  refine o02 hJ ?_; rintro rfl rfl rfl
  have hx : (rangeOf ((roads.length : Int) - 1) (-1) (-1))[j]? = some x := hx
  rw [rangeOf_down] at hx
  refine o11 (get_map hx) ?_; rintro k hk rfl
  have hj : k < roads.length := by
   have := List.mem_of_getElem? hk
   simpa using this
  have e : P (j + 1) = downStep roads within (P j) k := fold_next hk
  unfold downStep at e
  refine sq_if (v := Builtin.bitAnd ((P j).fdiv (2 ^ k)) 1 == 1) Sd (test_g (n := 6) (U := {}) (TE 6) (by walk_at "pk")) (fun hb sf Se => ?_) (fun hb sf Se => ?_)
  ·rw [if_pos (eq_of_beq hb)] at e
   exact sq_assign (t := .int) (y := Builtin.bitOr (P j) (Builtin.bitAnd (roads.getD k 0) within)) Se (pure_g (n := 6) (U := {}) (EV 6) (by walk_at "pk")) (by rfl) (by rfl) (by rfl) fun sg Sf =>
    st_nil (st_nil (hQ' _ _ [] [] _ (.inl rfl) ⟨rfl, rfl, rfl⟩ (Cf.S.to Sf (N (P (j + 1))) (by rw [e]; rfl) rfl)))
  ·rw [if_neg (ne_of_beq_false hb)] at e
   exact st_nil (st_nil (hQ' _ _ [] [] _ (.inl rfl) ⟨rfl, rfl, rfl⟩ (Cf.S.to Se (N (P (j + 1))) (by rw [e]; rfl) rfl)))
 ·intro ρ mu lo se hJ Sd
  refine o02 hJ ?_; rintro rfl rfl rfl
  have e : P (rangeOf ((roads.length : Int) - 1) (-1) (-1)).length = downF found roads within := by
   rw [rangeOf_down, List.length_map]
   show (L.take L.length).foldl _ _ = _
   rw [List.take_length]; rfl
  exact st_cons (st_ret (K := K) (t := .int) (y := P (rangeOf ((roads.length : Int) - 1) (-1) (-1)).length) Sd (pure_g (n := 6) (U := {}) (EV 6) (by walk_at "pk")) fun sf hd cv Se rj => hQ _ _ _ _ _ _ Se (e ▸ rj))
structure ZipNew (h h' : Heap) (z0 a1 a2 : Addr) : Prop where
 fr : ∀ i, h.get? (z0 + i) = none
 lt1 : a1 < z0
 lt2 : a2 < z0
 keep : ∀ b o, h.get? b = some o -> h'.get? b = some o
 zip : IsZip h' (z0 + 4) (z0 + 2) (z0 + 3) .none
 ti : IsPair h' (z0 + 2) (.ref z0) (.ref (z0 + 1))
 to : IsPair h' (z0 + 3) .none .none
 i1 : h'.IsListIter z0 a1 0
 i2 : h'.IsListIter (z0 + 1) a2 0
theorem zip_loop {K : Cf} {ρ : Rho} {mu : List Ent} {lo : List (Addr × Obj)} {s : Shared} {hc : PH} {Q : Flow -> Shared -> Prop} {E : Value -> Shared -> Prop} {elts : List PySem.Expr} {kk : Nat} {tpos : Pos} {body : List Stmt} {a b : Ty} {l : List a.den} {m : List b.den} {z0 a1 a2 : Addr} {vs us : List Value} {h' : Heap}
  (J : Nat -> Rho -> List Ent -> List (Addr × Obj) -> Prop) (S : K.H ρ mu lo s hc) (Z : ZipNew s.heap h' z0 a1 a2) (oa : LObj hc "list" a1 vs) (ob : LObj hc "list" a2 us) (ra : Rel2 (Rep K.w.params hc a) l vs) (rb : Rel2 (Rep K.w.params hc b) m us)
  (ht : ∀ j ρ' mu' lo', J j ρ' mu' lo' -> tgtOk K.env mu' (.pair a b) (.Tuple elts kk tpos) = true) (h0 : J 0 ρ mu lo)
  (turn : ∀ h1, K.hcb.le h1 -> ∀ j x ρ' mu' lo' ex s, (l.zip m)[j]? = some x -> J j ρ' mu' lo' -> (K.at h1).S (bindT (.Tuple elts kk tpos) ⟨.pair a b, x⟩ ρ') mu' (lo' ++ ex) s -> TurnWp (K.at h1) (J (j + 1)) body ex Q s)
  (fin : ∀ ρ' mu' lo' s', J (l.zip m).length ρ' mu' lo' -> K.S ρ' mu' lo' s' -> Q .next s') :
  codeAny (model K.prog K.w) K.A (.forLoop (.Tuple elts kk tpos) (.ref (z0 + 4)) body [] K.env) (fun r s' => match r with | .ok f => Q f s' | .error e => cameBackBy (model K.prog K.w) K.A K.env E e s') { s with heap := h' } := by
 have ne : ∀ i j : Nat, i ≠ j -> z0 + i ≠ z0 + j := fun i j h e => h (Nat.add_left_cancel e)
 have ne0 : ∀ j : Nat, 0 ≠ j -> z0 ≠ z0 + j := fun j h e => ne 0 j h e
 have S3 : K.H ρ mu lo { s with heap := h' } hc := S.step (Step.quiet S.inn ⟨_, _, rfl, Z.keep⟩)
 have ow : ∀ i, hc (z0 + i) = none := fun i => S.inn.none (Z.fr i)
 have f : ∀ i, (z0 + i) ∉ mu.map (·.a) ++ lo.map (·.1) /\ z0 + i ≠ K.env.locals /\ ∀ x c, K.env.cells.lookup x = some c -> z0 + i ≠ c := fun i => Cf.H.fresh S (Z.fr i)
 have S4 := Cf.H.freezeNew S3 Z.ti (ow 2) (f 2).1 (f 2).2
 have ti : (hc.put (z0 + 2) { cls := .type "tuple", data := .seq #[.ref z0, .ref (z0 + 1)] }) (z0 + 2) = some _ := PH.put_self
 have le1 : hc.le (hc.put (z0 + 2) { cls := .type "tuple", data := .seq #[.ref z0, .ref (z0 + 1)] }) := PH.put_le (ow 2)
 have out : ∀ i : Nat, i ≠ 2 -> (hc.put (z0 + 2) { cls := .type "tuple", data := .seq #[.ref z0, .ref (z0 + 1)] }) (z0 + i) = none := fun i hi => by rw [PH.put_ne (ne i 2 hi)]; exact ow i
 generalize hc.put (z0 + 2) { cls := .type "tuple", data := .seq #[.ref z0, .ref (z0 + 1)] } = h1 at S4 ti le1 out
 refine o11 (id Z.i1) fun o1 e1 _ => ?_
 refine o11 (id Z.i2) fun o2 e2 _ => ?_
 obtain ⟨oz, ez⟩ : ∃ o, h'.get? (z0 + 4) = some o := ⟨_, Z.zip⟩
 obtain ⟨oTO, eTO⟩ : ∃ o, h'.get? (z0 + 3) = some o := ⟨_, Z.to⟩
 have S5 : (K.at h1).H ρ mu (lo ++ [(z0 + 4, oz), (z0 + 3, oTO), (z0 + 0, o1), (z0 + 1, o2)]) { s with heap := h' } h1 :=
  Cf.H.addLooses (Cf.H.up S4) (allc ⟨ez, ⟨out 4 (by decide), (f 4).2⟩, (f 4).1⟩ (all3 ⟨eTO, ⟨out 3 (by decide), (f 3).2⟩, (f 3).1⟩ ⟨e1, ⟨out 0 (by decide), (f 0).2⟩, (f 0).1⟩ ⟨e2, ⟨out 1 (by decide), (f 1).2⟩, (f 1).1⟩)) (by
   simp only [List.map_cons, List.map_nil, List.nodup_cons, List.mem_cons, List.not_mem_nil, or_false, Nat.add_left_cancel_iff]
   decide)
 have n1 : ∀ i : Nat, a1 ≠ z0 + i := fun i => Nat.ne_of_lt (Nat.lt_of_lt_of_le Z.lt1 (Nat.le_add_right _ _))
 have n2 : ∀ i : Nat, a2 ≠ z0 + i := fun i => Nat.ne_of_lt (Nat.lt_of_lt_of_le Z.lt2 (Nat.le_add_right _ _))
 have W := WalksT.zip2 (prog := K.prog) (w := K.w) S4.ao.handled (z0 + 4) (z0 + 2) (z0 + 3) z0 (z0 + 1) a1 a2
  ⟨ne 2 4 (by decide), ne 3 4 (by decide), ne0 4 (by decide), ne 1 4 (by decide), ne 2 3 (by decide), (ne0 2 (by decide)).symm, ne 2 1 (by decide), (ne0 3 (by decide)).symm, ne 3 1 (by decide), ne0 1 (by decide), n1 4, n1 3, n1 0, n1 1, n2 4, n2 3, n2 0, n2 1⟩ vs.toArray us.toArray
 have hlen : min vs.toArray.size us.toArray.size = (l.zip m).length := by
  rw [List.length_zip, ra.length, rb.length]; rfl
 rw [hlen] at W
 refine o21 (id oa) fun p1 _ q1 _ => ?_
 refine o21 (id ob) fun p2 _ q2 _ => ?_
 have live : ∀ {h : Heap} {b : Addr} {o : Obj}, h.get? b = some o -> (h.get? b).isSome = true := fun e => by rw [e]; rfl
 refine forT (K := K) (its := l.zip m) J W (own := [(z0 + 4, oz), (z0 + 3, oTO), (z0 + 0, o1), (z0 + 1, o2)]) rfl S5 ⟨Z.zip, Z.ti, ⟨_, _, Z.to⟩, Z.i1, Z.i2, (oa.mono le1).isList S4.inn, (ob.mono le1).isList S4.inn⟩ ?_ (fun i h k => ?_) (fun i T h k => ?_) (fun j vals hj k => ?_) ht h0 (turn h1 S4.le)
  (fun ρ' mu' lo' s' hJ S' => fin ρ' mu' lo' s' hJ (Cf.S.down S' S4.le S4.gd))
 ·exact allc (.inl (.head _)) (allc (.inr ⟨_, ti⟩) (allc (.inl (.tail _ (.head _))) (allc (.inl (.tail _ (.tail _ (.head _)))) (all3 (.inl (.tail _ (.tail _ (.tail _ (.head _))))) (.inr ⟨_, le1 _ _ q1⟩) (.inr ⟨_, le1 _ _ q2⟩)))))
 ·refine o05 k ?_; rintro k1 _ ⟨_, _, k3⟩ ⟨_, k4, _⟩ ⟨_, k5, _⟩ _
  exact allc (live k1) (all3 (live k3) (live k4) (live k5))
 ·refine o05 k ?_; rintro k1 _ ⟨_, _, k3⟩ ⟨_, k4, _⟩ ⟨_, k5, _⟩ _
  exact allc (live k1) (all3 (live k3) (live k4) (live k5))
 ·refine o22 k ?_; rintro x y k1 k2 rfl
  refine o11 (ra.get' (by simpa using k1)) fun x' p1 p2 => ?_
  refine o11 (rb.get' (by simpa using k2)) fun y' p3 p4 => ?_
  exact ⟨x, y, x', y', rfl, by rw [List.getElem?_zip_eq_some]; exact ⟨p1, p3⟩, p2.mono le1, p4.mono le1⟩
theorem zip_for {K : Cf} {ρ : Rho} {mu : List Ent} {lo : List (Addr × Obj)} {s : Shared} {U : Use} {n : Nat} {Q : Flow -> Shared -> Prop} {E : Value -> Shared -> Prop} {elts : List PySem.Expr} {kk : Nat} {tpos p pos p3 : Pos} {ed ee : PySem.Expr} {body : List Stmt} {a b : Ty} {l : List a.den} {m : List b.den}
  (J : Nat -> Rho -> List Ent -> List (Addr × Obj) -> Prop) (EV : K.EV U n) (S : K.S ρ mu lo s) (hz : K.env.kindOf "zip" = some .globalImplicit) (hp1 : plainOk ed = true) (hp2 : plainOk ee = true) (ok1 : pk U n K.env.kindOf ρ ed) (ok2 : pk U n K.env.kindOf ρ ee)
  (v1 : pv n ρ ed = ⟨.lst a, l⟩) (v2 : pv n ρ ee = ⟨.lst b, m⟩)
  (ht : ∀ j ρ' mu' lo', J j ρ' mu' lo' -> tgtOk K.env mu' (.pair a b) (.Tuple elts kk tpos) = true) (h0 : J 0 ρ mu lo)
  (turn : ∀ h1, K.hcb.le h1 -> ∀ j x ρ' mu' lo' ex s, (l.zip m)[j]? = some x -> J j ρ' mu' lo' -> (K.at h1).S (bindT (.Tuple elts kk tpos) ⟨.pair a b, x⟩ ρ') mu' (lo' ++ ex) s -> TurnWp (K.at h1) (J (j + 1)) body ex Q s)
  (fin : ∀ ρ' mu' lo' s', J (l.zip m).length ρ' mu' lo' -> K.S ρ' mu' lo' s' -> Q .next s') :
  K.wp (exec (.For (.Tuple elts kk tpos) (.Call (.Name "zip" p) [ed, ee] [] p3) body [] pos) K.env) Q E s := by
 refine o10 S ?_; clear S; rintro hc S
 refine wpAny_For (PyProof.Rows.Call_Name rfl (wpAny_Name (load_more (p := ("zip", .type "zip")) S.cx.bas S.envOk (by simp [FA.more]) hz ?_) rfl)) (fun _ => rfl)
 have hpl := any_plain (pos := p3) (env := K.env) (es := [ed, ee]) (all2 hp1 hp2)
 rw [star_cons hp1] at hpl ⊢
 rw [star_cons hp2] at hpl ⊢
 refine PyProof.Rows.callWith_type hpl (Calls.evalArgs_plain (Calls.spliced_cons (StH.eval EV S ok1 fun s₁ hB cc Sa lea re => ?_)))
 refine Calls.spliced_cons (StH.eval EV Sa ok2 fun sb hO cg Sb leb rf => Calls.spliced_nil ?_)
 refine Classical.byContradiction fun hno => ?_
 rw [v1] at re
 rw [v2] at rf
 refine o22 re ?_; rintro a1 vs rfl oa ra
 refine o22 rf ?_; rintro a2 us rfl ob rb
 replace oa := oa.mono leb
 replace ra := ra.mono fun _ _ x => Rep.mono leb x
 have l1 := oa.isList Sb.inn
 have l2 := ob.isList Sb.inn
 have lt1 : a1 < sb.heap.objs.size := by refine o11 l1 fun o e _ => ?_; exact Heap.lt_size e
 have lt2 : a2 < sb.heap.objs.size := by refine o11 l2 fun o e _ => ?_; exact Heap.lt_size e
 refine hno (call_zip_2 l1 l2 fun h' hz5 hTI hTO hi1 hi2 hsz hk => wpAny_pyIter_zip hz5 (zip_loop J Sb ⟨fun i => ?_, lt1, lt2, hk, hz5, hTI, hTO, hi1, hi2⟩ oa ob ra rb ht h0 turn fin))
 generalize e : sb.heap.get? (sb.heap.objs.size + i) = zz; induction zz with
 | none => rfl
 | some o => exact absurd (Heap.lt_size e) (Nat.not_lt.mpr (Nat.le_add_right _ _))
theorem rises_gives {row : List (List UInt8)} {times : List UInt8 -> Option Int} {vs : List Value} (ao : AOk A (d + 1)) (bas : Bas F s.heap) (fu : Funs F s.heap) (hI : hc.In s.heap) (r : Rel2 (RepTV w.params hc) [⟨.lst .byt, row⟩, ⟨.dct .int, times⟩] vs) (hl : row.length <= 100) :
  Gives prog w A (call (.ref F.rises) vs) s hc .bool (risesF row times) := by
 have EV := fun n => (pv_sound (user_none (prog := prog) (w := w) (F := F) (d := d)) n).1
 have TE := fun n => (pv_sound (user_none (prog := prog) (w := w) (F := F) (d := d)) n).2
 refine o22 (rel_two r) ?_; rintro va vb rfl ra rb
 refine helper_gives (f := topDef "_law_rises") ["row", "times"] rfl (fu.own .rises rfl) ao bas fu hI r (fun g => BindsTo.of_eq rfl) rfl rfl rfl fun g s₁ S Q E hQ => ?_
 clear r bas fu hI ao
 let K : Cf := frameCf prog F w d A (fun x => x = s.gens) s (heapAll s) (topDef "_law_rises") .none g F.rises
 let N : List (Str × TV) := [("row", ⟨.lst .byt, row⟩), ("times", ⟨.dct .int, times⟩)]
 have Sb : K.S (ofL N) [] [] s₁ := Cf.S.to S N rfl rfl
 have hgd := Sb.choose_spec.gd
 let its := row.zip row.tail
 let ok : List UInt8 × List UInt8 -> Bool := fun p => !decide ((times p.1).getD 0 > (times p.2).getD 0)
 refine st_cons (zip_for (K := K) (n := 6) (U := {}) (fun j ρ mu lo => ρ = ofL N /\ mu = [] /\ lo = [] /\ ∀ p ∈ its.take j, ok p = true) (EV 6) Sb (a := .byt) (b := .byt) (l := row) (m := row.tail) (by rfl) (by rfl) (by rfl) (by walk_at "pk") (by walk_at "pk") (by rfl) (by show (⟨.lst .byt, row.drop 1⟩ : TV) = _; rw [List.drop_one]) ?_ ⟨rfl, rfl, rfl, fun p hp => by simp at hp⟩ ?_ ?_)
 ·rintro j ρ mu lo ⟨rfl, rfl, rfl, _⟩; rfl
 ·intro h1 hle j x ρ mu lo ex sd hx hJ Sc Q' E' hQ' hR
  refine o03 hJ ?_; rintro rfl rfl rfl hp
  obtain ⟨x, y⟩ := x
  refine sq_if (v := decide ((times y).getD 0 < (times x).getD 0)) Sc (test_g (n := 7) (U := {}) (TE 7) (by walk_at "pk")) (fun hb se Sd => ?_) (fun hb se Sd => ?_)
  ·refine st_cons (st_ret (t := .bool) (y := false) Sd (pure_g (n := 6) (U := {}) (EV 6) (by walk_at "pk")) fun sf hd cv Se rj => hR _ _ (hQ _ _ _ _ _ _ (Cf.H.down Se hle hgd) ?_))
   have e : risesF row times = false := by
    unfold risesF
    rw [Bool.eq_false_iff]
    intro h
    have := List.all_eq_true.mp h (x, y) (List.mem_of_getElem? hx)
    simp only [decide_eq_true_eq] at hb
    simp only [Bool.not_eq_true', decide_eq_false_iff_not] at this
    exact this hb
   rw [e]; exact rj
  ·refine st_nil (st_nil (hQ' _ (ofL N) [] [] _ (.inl rfl) ⟨rfl, rfl, rfl, fun p hp' => ?_⟩ (Cf.S.to Sd N rfl rfl)))
   rw [List.take_add_one, show its[j]? = some (x, y) from hx] at hp'
   rcases List.mem_append.mp hp' with hp' | hp'
   ·exact hp p hp'
   ·rw [List.mem_singleton.mp hp']
    exact congrArg (!·) hb
 ·intro ρ mu lo sd hJ Sc
  refine o03 hJ ?_; rintro rfl rfl rfl hp
  refine st_cons (st_ret (K := K) (t := .bool) (y := true) Sc (pure_g (n := 6) (U := {}) (EV 6) (by walk_at "pk")) fun sf hd cv Se rj => hQ _ _ _ _ _ _ Se ?_)
  have e : risesF row times = true := by
   unfold risesF
   rw [List.all_eq_true]
   intro p hp'
   refine hp p ?_
   show p ∈ its.take its.length
   rw [List.take_length]; exact hp'
  rw [e]; exact rj
end
end Mine
namespace Mine
section
variable {prog : Program} {w : World} {F : FA} {d : Nat}
theorem down_user {A : Around} {s : Shared} {hc : PH} {xs : List TV} {vs : List Value} (ao : AOk A (d + 1)) (bas : Bas F s.heap) (fu : Funs F s.heap) (hI : hc.In s.heap) (r : Rel2 (RepTV w.params hc) xs vs) (ok : okDown xs) :
  Gives prog w A (call (.ref F.down) vs) s hc (app .down xs).t (app .down xs).v := by
 obtain _ | ⟨a, _ | ⟨l, _ | ⟨b, _ | ⟨_, _⟩⟩⟩⟩ := xs <;> try exact ok.elim
 refine o11 (onInt.inv ok) ?_; rintro a rfl ok
 refine o11 (onInts.inv ok) ?_; rintro l rfl ok
 refine o11 (onInt.inv ok) ?_; rintro b rfl ok
 exact down_gives ao bas fu hI r ok
theorem next_user {A : Around} {s : Shared} {hc : PH} {xs : List TV} {vs : List Value} (ao : AOk A (d + 1)) (bas : Bas F s.heap) (fu : Funs F s.heap) (hI : hc.In s.heap) (r : Rel2 (RepTV w.params hc) xs vs) (ok : okNext xs) :
  Gives prog w A (call (.ref F.next) vs) s hc (app .next xs).t (app .next xs).v := by
 obtain _ | ⟨a, _ | ⟨l, _ | ⟨_, _⟩⟩⟩ := xs <;> try exact ok.elim
 refine o11 (onInt.inv ok) ?_; rintro a rfl ok
 refine o11 (onInts.inv ok) ?_; rintro l rfl ok
 exact next_gives ao bas fu hI r ok
theorem rises_user {A : Around} {s : Shared} {hc : PH} {xs : List TV} {vs : List Value} (ao : AOk A (d + 1)) (bas : Bas F s.heap) (fu : Funs F s.heap) (hI : hc.In s.heap) (r : Rel2 (RepTV w.params hc) xs vs) (ok : okRises xs) :
  Gives prog w A (call (.ref F.rises) vs) s hc (app .rises xs).t (app .rises xs).v := by
 obtain _ | ⟨a, _ | ⟨⟨u, f⟩, _ | ⟨_, _⟩⟩⟩ := xs <;> try exact ok.elim
 refine o10 (onLst.inv ok) ?_; rintro t zz; refine o11 zz ?_; rintro l rfl ok'
 refine o02 ok' ?_; clear ok'; rintro rfl e ok'
 obtain rfl : u = .dct .int := e
 exact rises_gives ao bas fu hI r ok'
theorem user_plain : HUser prog w F { plain := true } (d + 1) := fun f A s hc xs vs hf ao bas fu hI r ok => by
 induction f with
 | down => exact down_user ao bas fu hI r ok.2
 | next => exact next_user ao bas fu hI r ok.2
 | rises => exact rises_user ao bas fu hI r ok.2
 | passed => exact No.ft ok.1
 | _ => exact No.ft hf
variable {A : Around} {s : Shared} {hc : PH}
noncomputable def aheadStep (ranks : List Rank) (k : Nat) (a : Int) (j : Nat) : Int := if rankLt (ranks.getD j (0, [])) (ranks.getD k (0, [])) then Builtin.bitOr a (2 ^ j) else a
theorem passed_gives {k one two : Int} {roads : List Int} {ranks : List Rank} {vs : List Value} (ao : AOk A (d + 2)) (bas : Bas F s.heap) (fu : Funs F s.heap) (hI : hc.In s.heap)
  (r : Rel2 (RepTV w.params hc) [⟨.int, k⟩, ⟨.int, one⟩, ⟨.int, two⟩, ⟨.lst .int, roads⟩, ⟨.lst (.pair .int .byt), ranks⟩] vs) (hl : roads.length <= 100) (hl2 : ranks.length <= 100) (k0 : 0 <= k) (k1 : k.toNat < ranks.length) :
  Gives prog w A (call (.ref F.passed) vs) s hc .bool (passedF k one two roads ranks) := by
 have EV := fun n => (pv_sound (user_plain (prog := prog) (w := w) (F := F) (d := d)) n).1
 have TE := fun n => (pv_sound (user_plain (prog := prog) (w := w) (F := F) (d := d)) n).2
 refine o22 (rel_more r) ?_; rintro v1 _ rfl r1 r'
 refine o22 (rel_more r') ?_; rintro v2 _ rfl r2 r'
 refine o22 (rel_more r') ?_; rintro v3 _ rfl r3 r'
 refine o22 (rel_two r') ?_; rintro v4 v5 rfl r4 r5
 refine helper_gives (f := topDef "_law_passed") ["k", "one", "two", "roads", "ranks"] rfl (fu.own .passed rfl) ao bas fu hI r (fun g => BindsTo.of_eq rfl) rfl rfl rfl fun g s₁ S Q E hQ => ?_
 clear r r1 r2 r3 r4 r5 bas fu hI ao
 let K : Cf := frameCf prog F w (d + 1) A (fun x => x = s.gens) s (heapAll s) (topDef "_law_passed") .none g F.passed
 let N : Int -> List (Str × TV) := fun o => [("k", ⟨.int, k⟩), ("one", ⟨.int, one⟩), ("two", ⟨.int, two⟩), ("roads", ⟨.lst .int, roads⟩), ("ranks", ⟨.lst (.pair .int .byt), ranks⟩), ("ahead", ⟨.int, o⟩)]
 let P : Nat -> Int := fun j => (List.range j).foldl (aheadStep ranks k.toNat) 0
 refine sq_assign (K := K) (t := .int) (y := (0 : Int)) S (pure_g (n := 5) (U := { plain := true }) (EV 5) (by walk_at "pk")) (by rfl) (by rfl) (by rfl) fun sb Sb => ?_
 refine sq_for (K := K) (n := 6) (U := { plain := true }) (fun j ρ mu lo => ρ = ofL (N (P j)) /\ mu = [] /\ lo = []) (EV 6) (Cf.S.to Sb (N 0) rfl rfl) (by walk_at "pk") ⟨.inl rfl, by decide, hl_abs hl2⟩ ?_ ⟨rfl, rfl, rfl⟩ ?_ ?_
 ·rintro j ρ mu lo ⟨rfl, rfl, rfl⟩; rfl
 ·intro h1 hle j x ρ mu lo ex se hx hJ Sd Q' E' hQ' _
  refine o02 hJ ?_; rintro rfl rfl rfl
  refine o01 (rangeOf_get hx) ?_; rintro rfl hj
  have e : P (j + 1) = aheadStep ranks k.toNat (P j) j := by
   show (List.range (j + 1)).foldl _ 0 = _
   rw [List.range_succ, List.foldl_append]; rfl
  unfold aheadStep at e
  refine sq_if (v := rankLt (ranks.getD j (0, [])) (ranks.getD k.toNat (0, []))) Sd (test_g (n := 6) (U := { plain := true }) (TE 6) (by walk_at "pk")) (fun hb sf Se => ?_) (fun hb sf Se => ?_)
  ·rw [if_pos hb, <- Int.one_mul (2 ^ j)] at e
   exact sq_assign (t := .int) (y := Builtin.bitOr (P j) (1 * 2 ^ j)) Se (pure_g (n := 6) (U := { plain := true }) (EV 6) (by walk_at "pk")) (by rfl) (by rfl) (by rfl) fun sg Sf =>
    st_nil (st_nil (hQ' _ _ [] [] _ (.inl rfl) ⟨rfl, rfl, rfl⟩ (Cf.S.to Sf (N (P (j + 1))) (by rw [e]; rfl) rfl)))
  ·rw [if_neg (Bool.eq_false_iff.mp hb)] at e
   exact st_nil (st_nil (hQ' _ _ [] [] _ (.inl rfl) ⟨rfl, rfl, rfl⟩ (Cf.S.to Se (N (P (j + 1))) (by rw [e]; rfl) rfl)))
 ·intro ρ mu lo se hJ Sd
  refine o02 hJ ?_; rintro rfl rfl rfl
  have e : P (rangeOf 0 ranks.length 1).length = aheadF k.toNat ranks := by rw [rangeOf_len]; rfl
  have Sd := e ▸ Sd
  refine sq_assign (K := K) (t := .int) (y := Builtin.bitAnd (downF one roads (aheadF k.toNat ranks)) (downF two roads (aheadF k.toNat ranks))) Sd (pure_g (n := 6) (U := { plain := true }) (EV 6) (by walk_at "pk")) (by rfl) (by rfl) (by rfl) fun sf Se => ?_
  exact st_cons (st_ret (K := K) (t := .bool) (y := passedF k one two roads ranks) Se (pure_g (n := 8) (U := { plain := true }) (EV 8) (by walk_at "pk")) fun sf hd cv Se rj => hQ _ _ _ _ _ _ Se rj)
theorem user_all : HUser prog w F { plain := true, passed := true } (d + 2) := fun f A s hc xs vs hf ao bas fu hI r ok => by
 induction f with
 | down => exact down_user ao bas fu hI r ok.2
 | next => exact next_user ao bas fu hI r ok.2
 | rises => exact rises_user ao bas fu hI r ok.2
 | passed =>
  have ok : okPassed xs := ok.2
  obtain _ | ⟨k, _ | ⟨a, _ | ⟨b, _ | ⟨l, _ | ⟨c, _ | ⟨_, _⟩⟩⟩⟩⟩⟩ := xs <;> try exact ok.elim
  refine o11 (onInt.inv ok) ?_; rintro k rfl ok
  refine o11 (onInt.inv ok) ?_; rintro a rfl ok
  refine o11 (onInt.inv ok) ?_; rintro b rfl ok
  refine o11 (onInts.inv ok) ?_; rintro l rfl ok
  refine o10 (onLst.inv ok) ?_; rintro t zz; refine o11 zz ?_; rintro c rfl ok'
  refine o01 ok' ?_; clear ok'; rintro rfl ok'
  exact passed_gives ao bas fu hI r ok'.1 ok'.2.1 ok'.2.2.1 ok'.2.2.2
 | _ => exact No.ft hf
end
end Mine
namespace Mine
namespace Hq
theorem kind_push : builtinKind "_heapq.heappush" = none := by decide +kernel
theorem plain_push : plainId "_heapq.heappush" = true := by decide +kernel
theorem entry_push : entryFor table "_heapq.heappush" = some Builtin.«_heapq.heappush» := entryFor_of_tree (by kernel_rfl)
theorem args_push (a b : Value) : argsOk "_heapq.heappush" ⟨[a, b], []⟩ := by unfold argsOk; kernel_rfl
theorem kind_pop : builtinKind "_heapq.heappop" = none := by decide +kernel
theorem plain_pop : plainId "_heapq.heappop" = true := by decide +kernel
theorem entry_pop : entryFor table "_heapq.heappop" = some Builtin.«_heapq.heappop» := entryFor_of_tree (by kernel_rfl)
theorem args_pop (a : Value) : argsOk "_heapq.heappop" ⟨[a], []⟩ := by unfold argsOk; kernel_rfl
theorem entry_sift : entryFor table "_heapq.heapify.sift" = some Builtin.«_heapq.heapify.sift» := entryFor_of_tree (by kernel_rfl)
noncomputable def items (a : Addr) : Sem (Array Value) := do
 let some xs <- seqItems? (.ref a) | unsupported "internal:_heapq"
 return xs
noncomputable def at' (xs : Array Value) (i : Nat) : Sem Value := match xs[i]? with | some v => pure v | none => unsupported "internal:_heapq.index"
noncomputable def swap (a : Addr) (i j : Nat) : Sem Unit := do
 let xs <- items a
 let x <- at' xs i
 let y <- at' xs j
 updateSeq a fun xs => (xs.setIfInBounds i y).setIfInBounds j x
noncomputable def less (a : Addr) (size : Nat) (x y : Value) : Sem Bool := do
 let less <- holding [x, y] (do truthOfDropped (<- richCompare .Lt x y))
 if (<- items a).size != size then rule "_heapq.size-changed"; raiseError "RuntimeError" "list changed size during iteration"
 return less
noncomputable def sift (a : Addr) (down : Bool) (pos : Nat) (res : Value) : Code := .builtin "_heapq.heapify.sift" ⟨[.ref a, .bool false, .bool down, rawInt pos, rawInt 0, res, rawInt (-1)], []⟩
theorem sift_down (a : Addr) (pos : Nat) (res : Value) : Builtin.«_heapq.heapify.sift» ⟨[.ref a, .bool false, .bool true, rawInt pos, rawInt 0, res, rawInt (-1)], []⟩ = (do
  let xs <- items a
  if pos < xs.size / 2 then
   let left := 2 * pos + 1
   let mut child := left
   if left + 1 < xs.size then
    let l <- at' xs left
    let r <- at' xs (left + 1)
    if !(<- less a xs.size l r) then child := left + 1
   swap a child pos
   return <- again (sift a true child res)
  return <- again (sift a false pos res)) := by rfl
theorem sift_up (a : Addr) (pos : Nat) (res : Value) : Builtin.«_heapq.heapify.sift» ⟨[.ref a, .bool false, .bool false, rawInt pos, rawInt 0, res, rawInt (-1)], []⟩ = (do
  let xs <- items a
  if pos > 0 then
   let x <- at' xs pos
   let p <- at' xs ((pos - 1) / 2)
   if <- less a xs.size x p then
    swap a ((pos - 1) / 2) pos
    return <- again (sift a false ((pos - 1) / 2) res)
  return <- ret res) := by rfl
end Hq
end Mine
namespace Mine
noncomputable def rle (x y : Rank) : Prop := rankLt y x = false
theorem rankLt_iff {x y : Rank} : rankLt x y = true ↔ x.1 < y.1 \/ (x.1 = y.1 /\ bltb x.2 y.2 = true) := by
 unfold rankLt
 split
 ·rename_i h; simp [h]
 ·rename_i h; simp [h]
theorem rle_iff {x y : Rank} : rle x y ↔ x.1 < y.1 \/ (x.1 = y.1 /\ bltb y.2 x.2 = false) := by
 unfold rle
 rw [Bool.eq_false_iff, ne_eq, rankLt_iff]
 constructor
 ·intro h
  rcases Int.lt_trichotomy x.1 y.1 with h1 | h1 | h1
  ·exact .inl h1
  ·refine .inr ⟨h1, ?_⟩
   generalize hb : bltb y.2 x.2 = zz; induction zz with
   | false => rfl
   | true => exact absurd (.inr ⟨h1.symm, hb⟩) h
  ·exact absurd (.inl h1) h
 ·rintro (h | ⟨h, hb⟩) (h2 | ⟨h2, hb2⟩)
  ·lia
  ·lia
  ·lia
  ·rw [hb] at hb2; exact No.ft hb2
theorem rle_refl (x : Rank) : rle x x := rle_iff.mpr (.inr ⟨rfl, blt_irrefl _⟩)
theorem rle_trans {x y z : Rank} (h1 : rle x y) (h2 : rle y z) : rle x z := by
 rw [rle_iff] at *
 rcases h1 with h1 | ⟨h1, b1⟩ <;> rcases h2 with h2 | ⟨h2, b2⟩
 ·left; lia
 ·left; lia
 ·left; lia
 ·right
  refine ⟨by lia, ?_⟩
  generalize hb : bltb z.2 x.2 = zz; induction zz with
  | false => rfl
  | true =>
   rcases blt_neg (b := y.2) hb with h | h
   ·rw [b2] at h; exact No.ft h
   ·rw [b1] at h; exact No.ft h
theorem rle_antisymm {x y : Rank} (h1 : rle x y) (h2 : rle y x) : x = y := by
 rw [rle_iff] at *
 obtain ⟨a, b⟩ := x
 obtain ⟨c, d⟩ := y
 rcases h1 with h1 | ⟨h1, b1⟩ <;> rcases h2 with h2 | ⟨h2, b2⟩
 ·simp only at h1 h2; lia
 ·simp only at h1 h2; lia
 ·simp only at h1 h2; lia
 ·simp only at h1 b1 b2
  rw [h1, blt_total b2 b1]
theorem rle_of_lt {x y : Rank} (h : rankLt x y = true) : rle x y := by
 rw [rankLt_iff] at h
 rw [rle_iff]
 rcases h with h | ⟨h, b⟩
 ·exact .inl h
 ·refine .inr ⟨h, ?_⟩
  generalize hb : bltb y.2 x.2 = zz; induction zz with
  | false => rfl
  | true => have := blt_trans b hb; rw [blt_irrefl] at this; exact No.ft this
noncomputable abbrev qat (l : List Rank) (i : Nat) : Rank := l.getD i (0, [])
noncomputable def qswap (l : List Rank) (i j : Nat) : List Rank := (l.set i (qat l j)).set j (qat l i)
theorem qat_set {l : List Rank} {i j : Nat} {x : Rank} (h : i < l.length) : qat (l.set i x) j = if i = j then x else qat l j := by
 unfold qat
 rw [List.getD_eq_getElem?_getD, List.getElem?_set]
 split
 ·subst_vars
  first
   | (rw [if_pos h]; rfl)
   | rfl
 ·rw [<- List.getD_eq_getElem?_getD]
theorem qat_swap {l : List Rank} {i j k : Nat} (hi : i < l.length) (hj : j < l.length) : qat (qswap l i j) k = if j = k then qat l i else if i = k then qat l j else qat l k := by
 unfold qswap
 rw [qat_set (by simpa using hj), qat_set hi]
theorem qswap_len (l : List Rank) (i j : Nat) : (qswap l i j).length = l.length := by simp [qswap]
theorem perm_set1 : ∀ {t : List Rank} {k : Nat} {x y : Rank}, t[k]? = some y -> (y :: t.set k x).Perm (x :: t)
 | [], _, _, _, h => by simp at h
 | z :: t, 0, x, y, h => by
  simp at h; subst h
  exact .swap _ _ _
 | z :: t, k + 1, x, y, h => by
  simp at h
  rw [List.set_cons_succ]
  exact (List.Perm.swap z y _).trans ((List.Perm.cons z (perm_set1 h)).trans (.swap x z t))
theorem qswap_perm : ∀ {l : List Rank} {i j : Nat}, i < j -> j < l.length -> (qswap l i j).Perm l
 | [], _, _, _, h => by simp at h
 | a :: l, 0, j + 1, _, h => by
  have hj : j < l.length := by simpa using h
  have e : l[j]? = some (qat l j) := by
   unfold qat; rw [List.getD_eq_getElem?_getD, List.getElem?_eq_getElem hj]; rfl
  show ((qat l j) :: l.set j a).Perm (a :: l)
  exact perm_set1 e
 | a :: l, i + 1, j + 1, hij, h => by
  have := qswap_perm (l := l) (i := i) (j := j) (by lia) (by simpa using h)
  exact .cons a this
theorem qswap_comm_perm {l : List Rank} {i j : Nat} (hi : i < j) (hj : j < l.length) : (qswap l j i).Perm l := by
 have : qswap l j i = qswap l i j := by
  apply List.ext_getElem
  ·simp [qswap]
  ·intro k h1 h2
   have e1 : (qswap l j i)[k] = qat (qswap l j i) k := by unfold qat; rw [List.getD_eq_getElem?_getD, List.getElem?_eq_getElem h1]; rfl
   have e2 : (qswap l i j)[k] = qat (qswap l i j) k := by unfold qat; rw [List.getD_eq_getElem?_getD, List.getElem?_eq_getElem h2]; rfl
   rw [e1, e2, qat_swap hj (by lia), qat_swap (by lia) hj]
   by_cases hik : i = k <;> by_cases hjk : j = k <;> simp [hik, hjk] <;> omega
 rw [this]
 exact qswap_perm hi hj
noncomputable def isHeap (l : List Rank) : Prop := ∀ i, 0 < i -> i < l.length -> rle (qat l ((i - 1) / 2)) (qat l i)
noncomputable def UpAt (l : List Rank) (p : Nat) : Prop := (∀ i, 0 < i -> i < l.length -> i ≠ p -> rle (qat l ((i - 1) / 2)) (qat l i)) /\
 ∀ i, 0 < i -> i < l.length -> (i - 1) / 2 = p -> 0 < p -> rle (qat l ((p - 1) / 2)) (qat l i)
noncomputable def DownAt (l : List Rank) (p : Nat) : Prop := (∀ i, 0 < i -> i < l.length -> i ≠ p -> (i - 1) / 2 ≠ p -> rle (qat l ((i - 1) / 2)) (qat l i)) /\
 ∀ i, 0 < i -> i < l.length -> (i - 1) / 2 = p -> 0 < p -> rle (qat l ((p - 1) / 2)) (qat l i)
theorem UpAt.done {l : List Rank} {p : Nat} (h : UpAt l p) (hp : p = 0 \/ rle (qat l ((p - 1) / 2)) (qat l p)) : isHeap l := fun i h0 hl => by
 by_cases hi : i = p
 ·subst hi
  rcases hp with hp | hp
  ·lia
  ·exact hp
 ·exact h.1 i h0 hl hi
theorem UpAt.swap {l : List Rank} {p : Nat} (h : UpAt l p) (h0 : 0 < p) (hl : p < l.length) (hlt : rankLt (qat l p) (qat l ((p - 1) / 2)) = true) : UpAt (qswap l ((p - 1) / 2) p) ((p - 1) / 2) := by
 have hq : (p - 1) / 2 < l.length := by lia
 have hqp : (p - 1) / 2 < p := by lia
 refine ⟨fun i i0 il hi => ?_, fun i i0 il hpar hq0 => ?_⟩
 ·rw [qswap_len] at il
  rw [qat_swap hq hl, qat_swap hq hl]
  by_cases e1 : p = i
  ·subst e1
   rw [if_neg (by lia), if_pos rfl, if_pos rfl]
   exact rle_of_lt hlt
  ·rw [if_neg e1, if_neg (show ¬ (p - 1) / 2 = i by lia)]
   by_cases e2 : p = (i - 1) / 2
   ·rw [if_pos e2]
    exact h.2 i i0 il e2.symm h0
   ·rw [if_neg e2]
    by_cases e3 : (p - 1) / 2 = (i - 1) / 2
    ·rw [if_pos e3]
     have := h.1 i i0 il (fun h => e1 h.symm)
     rw [<- e3] at this
     exact rle_trans (rle_of_lt hlt) this
    ·rw [if_neg e3]
     exact h.1 i i0 il (fun h => e1 h.symm)
 ·rw [qswap_len] at il
  rw [qat_swap hq hl, qat_swap hq hl]
  rw [if_neg (show ¬ p = ((p - 1) / 2 - 1) / 2 by lia), if_neg (show ¬ (p - 1) / 2 = ((p - 1) / 2 - 1) / 2 by lia)]
  have hpp := h.1 ((p - 1) / 2) hq0 hq (by lia)
  by_cases e1 : p = i
  ·rw [if_pos e1]; exact hpp
  ·rw [if_neg e1, if_neg (show ¬ (p - 1) / 2 = i by lia)]
   have := h.1 i i0 il (fun h => e1 h.symm)
   rw [hpar] at this
   exact rle_trans hpp this
theorem DownAt.leaf {l : List Rank} {p : Nat} (h : DownAt l p) (hp : ¬ p < l.length / 2) : UpAt l p :=
 ⟨fun i i0 il hi => h.1 i i0 il hi (by lia), fun i i0 il hpar hp0 => h.2 i i0 il hpar hp0⟩
theorem DownAt.swap {l : List Rank} {p c : Nat} (h : DownAt l p) (hc : (c - 1) / 2 = p) (hc0 : 0 < c) (hl : c < l.length) (hs : ∀ i, 0 < i -> i < l.length -> (i - 1) / 2 = p -> rle (qat l c) (qat l i)) : DownAt (qswap l c p) c := by
 have hp : p < l.length := by lia
 have hpc : p < c := by lia
 refine ⟨fun i i0 il hi hpar => ?_, fun i i0 il hpar _ => ?_⟩
 ·rw [qswap_len] at il
  rw [qat_swap hl hp, qat_swap hl hp]
  by_cases e1 : p = i
  ·subst e1
   rw [if_neg (by lia), if_neg (by lia), if_pos rfl]
   exact h.2 c hc0 hl hc i0
  ·rw [if_neg e1, if_neg (show ¬ c = i from fun h => hi h.symm)]
   by_cases e2 : p = (i - 1) / 2
   ·rw [if_pos e2]
    exact hs i i0 il e2.symm
   ·rw [if_neg e2, if_neg (show ¬ c = (i - 1) / 2 from fun h => hpar h.symm)]
    exact h.1 i i0 il (fun h => e1 h.symm) (fun h => e2 h.symm)
 ·rw [qswap_len] at il
  rw [qat_swap hl hp, qat_swap hl hp]
  rw [if_pos hc.symm, if_neg (by lia), if_neg (by lia)]
  have := h.1 i i0 il (by lia) (by lia)
  rw [hpar] at this
  exact this
theorem qat_append {l : List Rank} {x : Rank} {i : Nat} : qat (l ++ [x]) i = if i < l.length then qat l i else if i = l.length then x else (0, []) := by
 unfold qat
 rw [List.getD_eq_getElem?_getD, List.getElem?_append]
 split
 ·rw [<- List.getD_eq_getElem?_getD]
 ·split
  ·subst_vars; simp
  ·rename_i h1 h2
   have : i - l.length ≠ 0 := by lia
   refine o10 (Nat.exists_eq_succ_of_ne_zero this) fun k hk => ?_
   rw [hk]; simp
theorem push_up {l : List Rank} {x : Rank} (h : isHeap l) : UpAt (l ++ [x]) l.length := by
 refine ⟨fun i i0 il hi => ?_, fun i i0 il hpar _ => ?_⟩
 ·simp at il
  rw [qat_append, qat_append, if_pos (by lia), if_pos (by lia)]
  exact h i i0 (by lia)
 ·simp at il; lia
theorem heap_min {l : List Rank} (h : isHeap l) : ∀ i, i < l.length -> rle (qat l 0) (qat l i) := by
 intro i
 induction i using Nat.strongRecOn with
 | _ i ih =>
  intro hi
  by_cases h0 : i = 0
  ·subst h0; exact rle_refl _
  ·exact rle_trans (ih ((i - 1) / 2) (by lia) (by lia)) (h i (by lia) hi)
theorem pop_down {l : List Rank} {x : Rank} (h : isHeap (l ++ [x])) (hl : l ≠ []) : DownAt (l.set 0 x) 0 := by
 have hlen : 0 < l.length := List.length_pos_iff.mpr hl
 refine ⟨fun i i0 il hi hpar => ?_, fun i i0 il hpar hp => by lia⟩
 simp at il
 rw [qat_set hlen, qat_set hlen, if_neg (by lia), if_neg (by lia)]
 have := h i i0 (by simp; lia)
 rw [qat_append, qat_append, if_pos (by lia), if_pos il] at this
 exact this
theorem pop_perm {l : List Rank} {x : Rank} (hl : l ≠ []) : (qat (l ++ [x]) 0 :: l.set 0 x).Perm (l ++ [x]) := by
 induction l using List.casesOn with
 | nil => exact absurd rfl hl
 | cons a t =>
  show (a :: x :: t).Perm (a :: (t ++ [x]))
  exact .cons a (List.perm_append_comm (l₁ := [x]) (l₂ := t))
end Mine
namespace Mine
theorem Rel2.set {α β : Type} {R : α -> β -> Prop} : ∀ {l : List α} {m : List β} (_ : Rel2 R l m) (i : Nat) {a : α} {b : β}, R a b -> Rel2 R (l.set i a) (m.set i b)
 | _, _, .nil, _, _, _, _ => .nil
 | _, _, .cons r rs, 0, _, _, h => .cons h rs
 | _, _, .cons r rs, i + 1, _, _, h => .cons r (Rel2.set rs i h)
section
variable {prog : Program} {w : World} {A : Around} {s : Shared} {hc : PH} {p : Addr}
noncomputable abbrev RR (w : World) (hc : PH) : List Rank -> List Value -> Prop := Rel2 (Rep w.params hc (.pair .int .byt))
noncomputable abbrev lobj (items : List Value) (n : Nat) : Obj := { cls := .type "list", data := .seq items.toArray n }
theorem rr_at {l : List Rank} {items : List Value} (r : RR w hc l items) {i : Nat} (h : i < l.length) : ∃ v, items[i]? = some v /\ Rep w.params hc (.pair .int .byt) (qat l i) v := by
 have e : l[i]? = some (qat l i) := by unfold qat; rw [List.getD_eq_getElem?_getD, List.getElem?_eq_getElem h]; rfl
 exact r.get e
theorem q_items {items : List Value} {n : Nat} {Q : Array Value -> Shared -> Prop} {E : Value -> Shared -> Prop} (ho : s.heap.get? p = some (lobj items n)) (h : Q items.toArray s) : wpAny (model prog w) A (Hq.items p) Q E s := by
 unfold Hq.items
 exact wpAny_bind (wpAny_seqItems ho rfl (wpAny_pure h))
theorem q_at {items : List Value} {i : Nat} {v : Value} {Q : Value -> Shared -> Prop} {E : Value -> Shared -> Prop} (hv : items[i]? = some v) (h : Q v s) : wpAny (model prog w) A (Hq.at' items.toArray i) Q E s := by
 unfold Hq.at'
 have : items.toArray[i]? = some v := by simpa using hv
 rw [this]; exact wpAny_pure h
theorem q_less {items : List Value} {n : Nat} {x y : Rank} {vx vy : Value} {Q : Bool -> Shared -> Prop} {E : Value -> Shared -> Prop} (hA : A.units < cLine) (hI : hc.In s.heap) (ho : s.heap.get? p = some (lobj items n)) (rx : Rep w.params hc (.pair .int .byt) x vx) (ry : Rep w.params hc (.pair .int .byt) y vy)
  (h : Q (rankLt x y) s) : wpAny (model prog w) A (Hq.less p items.toArray.size vx vy) Q E s := by
 obtain ⟨i, b⟩ := x
 obtain ⟨j, c⟩ := y
 refine o33 rx ?_; rintro a1 p1 q1 rfl oa ⟨k1, rfl⟩ ⟨k2, rfl⟩
 refine o33 ry ?_; rintro a2 p2 q2 rfl ob ⟨k3, rfl⟩ ⟨k4, rfl⟩
 unfold Hq.less
 refine wpAny_bind (wpAny_holding (wpAny_bind (rank_lt hA (oa.isTuple hI) (ob.isTuple hI) ?_)))
 refine wpAny_truthy_bool ?_
 refine wpAny_bind (q_items ho ?_)
 have e : (items.toArray.size != items.toArray.size) = false := by simp
 rw [e]
 simp only [Bool.false_eq_true, if_false]
 exact wpAny_bind (wpAny_pure (wpAny_pure h))
theorem q_swap {l : List Rank} {items : List Value} {n i j : Nat} {Q : Unit -> Shared -> Prop} {E : Value -> Shared -> Prop} (ho : s.heap.get? p = some (lobj items n)) (r : RR w hc l items) (hi : i < l.length) (hj : j < l.length) (hz : l.length <= 100000)
  (h : ∀ s' items' n', (∃ h tk, s' = { s with heap := h, toks := tk }) -> (∀ b o, b ≠ p -> s.heap.get? b = some o -> s'.heap.get? b = some o) -> s'.heap.get? p = some (lobj items' n') -> RR w hc (qswap l i j) items' -> Q () s') :
  wpAny (model prog w) A (Hq.swap p i j) Q E s := by
 refine o11 (rr_at r hi) fun vi e1 r1 => ?_
 refine o11 (rr_at r hj) fun vj e2 r2 => ?_
 unfold Hq.swap
 refine wpAny_bind (q_items ho (wpAny_bind (q_at e1 (wpAny_bind (q_at e2 ?_)))))
 have hl := r.length
 have hs : items.toArray.size = items.length := by simp
 refine wpAny_updateSeq ho rfl (h _ ((items.set i vj).set j vi) n ⟨_, _, rfl⟩ (fun b o hb e => ?_) ?_ ((r.set i r2).set j r1)) (by rw [hs, sizeLine_eq]; lia) (by simp only [Array.size_setIfInBounds]; rw [hs, sizeLine_eq]; lia)
 ·show (s.heap.update p _).get? b = some o
  rw [Heap.get?_update_other _ _ (Ne.symm hb)]; exact e
 ·show (s.heap.update p _).get? p = _
  rw [Heap.get?_update_self _ ho rfl]
  simp [Obj.mapSeq]
end
section
variable {prog : Program} {w : World} {hc : PH} {p : Addr}
noncomputable abbrev SiftEnd (w : World) (hc : PH) (p : Addr) (s : Shared) (l : List Rank) (T : Shared -> Prop) : Prop :=
 ∀ s' items' n' l', (∃ h tk, s' = { s with heap := h, toks := tk }) -> (∀ b o, b ≠ p -> s.heap.get? b = some o -> s'.heap.get? b = some o) -> s'.heap.get? p = some (lobj items' n') -> RR w hc l' items' -> l'.Perm l -> isHeap l' -> T s'
theorem sift_plain : plainId "_heapq.heapify.sift" = true := by decide +kernel
theorem sift_up_ends {A : Around} {R : Result -> Shared -> Prop} {res : Value} (hA : A.units + 10 < cLine) : ∀ (pos : Nat) (l : List Rank) (s : Shared) (items : List Value) (n : Nat), hc.In s.heap -> hc p = none -> s.heap.get? p = some (lobj items n) -> RR w hc l items -> l.length <= 100000 -> pos < l.length -> UpAt l pos ->
  SiftEnd w hc p s l (fun s' => R (.ok (.ret res)) s') -> codeAny (model prog w) A (Hq.sift p false pos res) R s := by
 intro pos
 induction pos using Nat.strongRecOn with
 | _ pos ih =>
  intro l s items n hI hp ho r hz hpos hU hend
  have hl := r.length
  refine codeAny_builtin Hq.entry_sift ?_
  rw [Around.under_plainId sift_plain, Hq.sift_up]
  refine wpAny_bind (q_items ho ?_)
  by_cases h0 : pos > 0
  ·rw [if_pos h0]
   refine o11 (rr_at r hpos) fun vx e1 r1 => ?_
   refine o11 (rr_at r (show (pos - 1) / 2 < l.length by (first | lia | omega))) fun vp e2 r2 => ?_
   refine wpAny_bind (q_at e1 (wpAny_bind (q_at e2 (wpAny_bind (q_less (hc := hc) (by simp only [Around.in1_units]; lia) hI ho r1 r2 ?_)))))
   generalize hb : rankLt (qat l pos) (qat l ((pos - 1) / 2)) = zz; induction zz with
   | true =>
    simp only [if_true]
    refine wpAny_bind (q_swap ho r (show (pos - 1) / 2 < l.length by lia) hpos hz fun s' items' n' same k ho' r' => ?_)
    refine wpAny_bind (wpAny_pure (wpAny_pure (And.intro (plainId_quiet sift_plain _) ?_)))
    have hI' : hc.In s'.heap := fun b o e => k b o (fun hb => by rw [hb, hp] at e; exact No.ns e) (hI b o e)
    refine ih ((pos - 1) / 2) (by lia) _ s' items' n' hI' hp ho' r' (by rw [qswap_len]; exact hz) (by rw [qswap_len]; lia) (hU.swap h0 hpos hb) fun s'' items'' n'' l'' same' k' ho'' r'' pm hh => ?_
    refine hend s'' items'' n'' l'' ?_ (fun b o hb e => k' b o hb (k b o hb e)) ho'' r'' (pm.trans (qswap_perm (by lia) hpos)) hh
    refine o20 same ?_; rintro h tk rfl
    refine o20 same' ?_; rintro h' tk' rfl
    exact ⟨h', tk', rfl⟩
   | false =>
    simp only [Bool.false_eq_true, if_false]
    have fin := hend s items n l ⟨_, _, rfl⟩ (fun _ _ _ e => e) ho r (List.Perm.refl _) (hU.done (.inr hb))
    exact wpAny_pure fin
  ·rw [if_neg h0]
   have fin := hend s items n l ⟨_, _, rfl⟩ (fun _ _ _ e => e) ho r (List.Perm.refl _) (hU.done (.inl (by lia)))
   exact wpAny_pure fin
theorem sift_down_ends {A : Around} {R : Result -> Shared -> Prop} {res : Value} (hA : A.units + 10 < cLine) : ∀ (m pos : Nat) (l : List Rank) (s : Shared) (items : List Value) (n : Nat), m = l.length - pos -> hc.In s.heap -> hc p = none -> s.heap.get? p = some (lobj items n) -> RR w hc l items -> l.length <= 100000 -> pos < l.length -> DownAt l pos ->
  SiftEnd w hc p s l (fun s' => R (.ok (.ret res)) s') -> codeAny (model prog w) A (Hq.sift p true pos res) R s := by
 intro m
 induction m using Nat.strongRecOn with
 | _ m ih =>
  intro pos l s items n hm hI hp ho r hz hpos hD hend
  have hl := r.length
  have hsz : items.toArray.size = l.length := by simp [hl]
  refine codeAny_builtin Hq.entry_sift ?_
  rw [Around.under_plainId sift_plain, Hq.sift_down]
  refine wpAny_bind (q_items ho ?_)
  dsimp only
  rw [hsz]
  by_cases h0 : pos < l.length / 2
  ·rw [if_pos h0]
   have go : ∀ c, (c - 1) / 2 = pos -> 0 < c -> c < l.length -> (∀ i, 0 < i -> i < l.length -> (i - 1) / 2 = pos -> rle (qat l c) (qat l i)) ->
     wpAny (model prog w) A.in1 (do Hq.swap p c pos; let x <- again (Hq.sift p true c res); pure x) (fun fin s' => match fin with | .done f => R (.ok f) s' | .again c' => c'.quiet = true /\ codeAny (model prog w) A c' R s') (fun e s' => R (.error e) s') s := by
    intro c hc1 hc0 hcl hmin
    refine wpAny_bind (q_swap ho r hcl hpos hz fun s' items' n' same k ho' r' => ?_)
    refine wpAny_bind (wpAny_pure (wpAny_pure (And.intro (plainId_quiet sift_plain _) ?_)))
    have hI' : hc.In s'.heap := fun b o e => k b o (fun hb => by rw [hb, hp] at e; exact No.ns e) (hI b o e)
    refine ih (l.length - c) (by lia) c _ s' items' n' (by rw [qswap_len]) hI' hp ho' r' (by rw [qswap_len]; exact hz) (by rw [qswap_len]; exact hcl) (hD.swap hc1 hc0 hcl hmin) fun s'' items'' n'' l'' same' k' ho'' r'' pm hh => ?_
    refine hend s'' items'' n'' l'' ?_ (fun b o hb e => k' b o hb (k b o hb e)) ho'' r'' (pm.trans (qswap_comm_perm (by lia) hcl)) hh
    refine o20 same ?_; rintro h tk rfl
    refine o20 same' ?_; rintro h' tk' rfl
    exact ⟨h', tk', rfl⟩
   by_cases h1 : 2 * pos + 1 + 1 < l.length
   ·rw [if_pos h1]
    refine o11 (rr_at r (show 2 * pos + 1 < l.length by (first | lia | omega))) fun vx e1 r1 => ?_
    refine o11 (rr_at r h1) fun vp e2 r2 => ?_
    refine wpAny_bind (q_at e1 (wpAny_bind (q_at e2 (wpAny_bind ?_))))
    rw [<- hsz]
    refine q_less (hc := hc) (by simp only [Around.in1_units]; lia) hI ho r1 r2 ?_
    generalize hb : rankLt (qat l (2 * pos + 1)) (qat l (2 * pos + 1 + 1)) = zz; induction zz with
    | true =>
     simp only [Bool.not_true, Bool.false_eq_true, if_false]
     refine go (2 * pos + 1) (by lia) (by lia) (by lia) fun i i0 il hpar => ?_
     have : i = 2 * pos + 1 \/ i = 2 * pos + 1 + 1 := by lia
     rcases this with rfl | rfl
     ·exact rle_refl _
     ·exact rle_of_lt hb
    | false =>
     simp only [Bool.not_false, if_true]
     refine go (2 * pos + 1 + 1) (by lia) (by lia) h1 fun i i0 il hpar => ?_
     have : i = 2 * pos + 1 \/ i = 2 * pos + 1 + 1 := by lia
     rcases this with rfl | rfl
     ·exact hb
     ·exact rle_refl _
   ·rw [if_neg h1]
    refine go (2 * pos + 1) (by lia) (by lia) (by lia) fun i i0 il hpar => ?_
    have : i = 2 * pos + 1 := by lia
    subst this; exact rle_refl _
  ·rw [if_neg h0]
   refine wpAny_pure (And.intro (plainId_quiet sift_plain _) ?_)
   exact sift_up_ends hA pos l s items n hI hp ho r hz hpos (hD.leaf h0) hend
end
end Mine
namespace Mine
namespace Hq
noncomputable def qlist (fname which : String) (v : Value) : Sem Addr := do
 if <- isInstance v (.type "list") then
  if let .ref a := v then return a
 rule "_heapq.not-a-list"
 let what <- if v == .none then pure "None" else typeNameOf v
 raiseError "TypeError" s!"{fname}() argument{which} must be list, not {what}"
theorem push_eq (a : Addr) (v : Value) : Builtin.«_heapq.heappush» ⟨[.ref a, v], []⟩ = (do
  let (heap, a, item) <- (do
   noKeywords "_heapq.heappush" ⟨[.ref a, v], []⟩
   checkCount "heappush" 2 2 2
   return (Value.ref a, <- qlist "heappush" " 1" (.ref a), v))
  updateSeq a (·.push item)
  let xs <- items a
  again (.builtin "_heapq.heapify.sift" ⟨[heap, .bool false, .bool false, rawInt ((xs.size - 1 : Nat) : Int), rawInt 0, .none, rawInt (-1)], []⟩)) := by rfl
theorem pop_eq (a : Addr) : Builtin.«_heapq.heappop» ⟨[.ref a], []⟩ = (do
  let (heap, a) <- (do
   let heap <- oneArg "_heapq.heappop" ⟨[.ref a], []⟩
   return (heap, <- qlist "heappop" "" heap))
  let xs <- items a
  let some last := xs.back? | (do rule "_heapq.empty"; raiseError "IndexError" "index out of range" : Sem Fin)
  updateSeq a (·.pop)
  if xs.size == 1 then return <- ret last
  let first <- at' xs 0
  updateSeq a (·.setIfInBounds 0 last)
  again (.builtin "_heapq.heapify.sift" ⟨[heap, .bool false, .bool true, rawInt ((0 : Nat) : Int), rawInt 0, first, rawInt (-1)], []⟩)) := by rfl
end Hq
section
variable {prog : Program} {w : World} {A : Around} {s : Shared} {hc : PH} {p : Addr}
theorem qlist_ok {fname which : String} {items : List Value} {n : Nat} {Q : Addr -> Shared -> Prop} {E : Value -> Shared -> Prop} (ho : s.heap.get? p = some (lobj items n)) (h : Q p s) : wpAny (model prog w) A (Hq.qlist fname which (.ref p)) Q E s := by
 unfold Hq.qlist
 refine wpAny_bind (wpAny_isInstance (T := "list") (b := true) ⟨_, ho, rfl⟩ (by rw [isSubtype_type]; kernel_rfl) ?_)
 simp only [if_true]
 exact wpAny_pure h
theorem push_wp {l : List Rank} {items : List Value} {n : Nat} {x : Rank} {v : Value} {Q : Value -> Shared -> Prop} {E : Value -> Shared -> Prop} (hA : A.units + 20 < cLine) (hI : hc.In s.heap) (hp : hc p = none) (ho : s.heap.get? p = some (lobj items n)) (r : RR w hc l items) (hz : l.length <= 90000) (hh : isHeap l)
  (rv : Rep w.params hc (.pair .int .byt) x v) (h : SiftEnd w hc p s (l ++ [x]) (fun s' => Q .none s')) : wpAny (model prog w) A (call (.builtin "_heapq.heappush") [.ref p, v]) Q E s := by
 have hl := r.length
 refine call_function_any Hq.kind_push Hq.plain_push Hq.entry_push (Hq.args_push _ _) ?_
 rw [Hq.push_eq]
 refine wpAny_bind (wpAny_bind (wpAny_pure (wpAny_bind (wpAny_pure (wpAny_bind (qlist_ok ho (wpAny_pure ?_)))))))
 dsimp only
 have hs : items.toArray.size = items.length := by simp
 refine wpAny_bind (wpAny_updateSeq ho rfl ?_ (by rw [hs, sizeLine_eq]; lia) (by simp only [Array.size_push]; rw [hs, sizeLine_eq]; lia))
 have ho' : (s.heap.update p (Obj.mapSeq (·.push v))).get? p = some (lobj (items ++ [v]) (n + 1)) := by
  rw [Heap.get?_update_self _ ho rfl]; simp [Obj.mapSeq]
 refine wpAny_bind (q_items (s := { s with heap := _ }) ho' ?_)
 have e : (items ++ [v]).toArray.size - 1 = l.length := by simp [hl]
 rw [e]
 refine wpAny_pure (And.intro (plainId_quiet sift_plain _) ?_)
 have k1 : ∀ b o, b ≠ p -> s.heap.get? b = some o -> (s.heap.update p (Obj.mapSeq (·.push v))).get? b = some o := fun b o hb e => by
  rw [Heap.get?_update_other _ _ (Ne.symm hb)]; exact e
 refine sift_up_ends (by lia) l.length (l ++ [x]) { s with heap := s.heap.update p (Obj.mapSeq (·.push v)) } (items ++ [v]) (n + 1) (fun b o e => k1 b o (fun hb => by rw [hb, hp] at e; exact No.ns e) (hI b o e)) hp ho' (r.snoc rv) (by simp; lia) (by simp) (push_up hh) fun s' items' n' l' same k ho2 r2 pm hh2 => ?_
 refine h s' items' n' l' ?_ (fun b o hb e => k b o hb (k1 b o hb e)) ho2 r2 pm hh2
 refine o20 same ?_; rintro h' tk' rfl
 exact ⟨h', tk', rfl⟩
theorem pop_wp {l : List Rank} {items : List Value} {n : Nat} {x : Rank} {Q : Value -> Shared -> Prop} {E : Value -> Shared -> Prop} (hA : A.units + 20 < cLine) (hI : hc.In s.heap) (hp : hc p = none) (ho : s.heap.get? p = some (lobj items n)) (r : RR w hc (l ++ [x]) items) (hz : l.length <= 90000) (hh : isHeap (l ++ [x]))
  (h : ∀ s' items' n' l' v, (∃ h tk, s' = { s with heap := h, toks := tk }) -> (∀ b o, b ≠ p -> s.heap.get? b = some o -> s'.heap.get? b = some o) -> s'.heap.get? p = some (lobj items' n') -> RR w hc l' items' ->
   (qat (l ++ [x]) 0 :: l').Perm (l ++ [x]) -> isHeap l' -> Rep w.params hc (.pair .int .byt) (qat (l ++ [x]) 0) v -> Q v s') : wpAny (model prog w) A (call (.builtin "_heapq.heappop") [.ref p]) Q E s := by
 have hl := r.length
 have hs : items.toArray.size = items.length := by simp
 rw [List.length_append, List.length_singleton] at hl
 refine o11 (rr_at r (i := l.length) (by simp)) fun vl e1 rl => ?_
 have ex : qat (l ++ [x]) l.length = x := by rw [qat_append]; simp
 rw [ex] at rl
 refine o11 (rr_at r (i := 0) (by simp)) fun v0 e0 r0 => ?_
 have ei : items = items.take l.length ++ [vl] := by
  have h1 : items.length = l.length + 1 := hl.symm
  apply List.ext_getElem?
  intro i
  rw [List.getElem?_append]
  split
  ·rename_i hi
   rw [List.length_take] at hi
   rw [List.getElem?_take, if_pos (by lia)]
  ·rename_i hi
   rw [List.length_take] at hi
   rw [List.length_take]
   by_cases hil : i = l.length
   ·subst hil
    rw [e1]
    have : l.length - min l.length items.length = 0 := by lia
    rw [this]; rfl
   ·rw [List.getElem?_eq_none (by lia)]
    have : i - min l.length items.length ≠ 0 := by lia
    refine o10 (Nat.exists_eq_succ_of_ne_zero this) fun k hk => ?_
    rw [hk]; rfl
 have rt : RR w hc l (items.take l.length) := by
  have := r.take l.length
  rwa [List.take_left'] at this
  rfl
 refine call_function_any Hq.kind_pop Hq.plain_pop Hq.entry_pop (Hq.args_pop _) ?_
 rw [Hq.pop_eq]
 refine wpAny_bind (wpAny_bind (wpAny_bind (wpAny_pure (wpAny_pure (wpAny_bind (qlist_ok ho (wpAny_pure ?_)))))))
 dsimp only
 refine wpAny_bind (q_items ho ?_)
 have eb : items.toArray.back? = some vl := by
  rw [ei]; simp
 rw [eb]
 dsimp only
 refine wpAny_bind (wpAny_updateSeq ho rfl ?_ (by rw [hs, sizeLine_eq]; lia) (by simp only [Array.size_pop]; rw [hs, sizeLine_eq]; lia))
 have ho' : ∃ n', (s.heap.update p (Obj.mapSeq (·.pop))).get? p = some (lobj (items.take l.length) n') := by
  refine ⟨if items.toArray.pop.size == items.toArray.size then n else n + 1, ?_⟩
  rw [Heap.get?_update_self _ ho rfl]
  have : items.toArray.pop = (items.take l.length).toArray := by
   conv => lhs; rw [ei]
   simp
  show some (⟨.type "list", none, .seq items.toArray.pop (if items.toArray.pop.size == items.toArray.size then n else n + 1), #[]⟩ : Obj) = some (⟨.type "list", none, .seq (items.take l.length).toArray _, #[]⟩ : Obj)
  rw [<- this]
 refine o10 ho' ?_; clear ho'; rintro n' ho'
 have k1 : ∀ b o, b ≠ p -> s.heap.get? b = some o -> (s.heap.update p (Obj.mapSeq (·.pop))).get? b = some o := fun b o hb e => by
  rw [Heap.get?_update_other _ _ (Ne.symm hb)]; exact e
 have i1 : hc.In (s.heap.update p (Obj.mapSeq (·.pop))) := fun b o e => k1 b o (fun hb => by rw [hb, hp] at e; exact No.ns e) (hI b o e)
 by_cases hone : l = []
 ·subst hone
  have : (items.toArray.size == 1) = true := by rw [hs, <- hl]; rfl
  rw [if_pos this]
  refine wpAny_pure ?_
  have rt' : RR w hc [] (items.take 0) := rt
  refine h _ _ n' [] vl ⟨_, _, rfl⟩ k1 ho' rt' (List.Perm.refl _) (fun i _ hi => by simp at hi) rl
 ·have hne : 0 < l.length := List.length_pos_iff.mpr hone
  have : ¬ (items.toArray.size == 1) = true := by rw [hs, <- hl]; simp [hone]
  rw [if_neg this]
  refine wpAny_bind (q_at (s := { s with heap := _ }) e0 ?_)
  have hz' : (items.take l.length).toArray.size <= sizeLine := by simp; rw [sizeLine_eq]; lia
  refine wpAny_bind (wpAny_updateSeq (s := { s with heap := _ }) ho' rfl ?_ hz' (by simp only [Array.size_setIfInBounds]; lia))
  have ho2 : ((s.heap.update p (Obj.mapSeq (·.pop))).update p (Obj.mapSeq (·.setIfInBounds 0 vl))).get? p = some (lobj ((items.take l.length).set 0 vl) n') := by
   rw [Heap.get?_update_self _ ho' rfl]
   simp [Obj.mapSeq]
  have k2 : ∀ b o, b ≠ p -> s.heap.get? b = some o -> ((s.heap.update p (Obj.mapSeq (·.pop))).update p (Obj.mapSeq (·.setIfInBounds 0 vl))).get? b = some o := fun b o hb e => by
   rw [Heap.get?_update_other _ _ (Ne.symm hb)]; exact k1 b o hb e
  refine wpAny_pure (And.intro (plainId_quiet sift_plain _) ?_)
  refine sift_down_ends (by lia) _ 0 (l.set 0 x) { s with heap := _ } _ n' rfl (fun b o e => k2 b o (fun hb => by rw [hb, hp] at e; exact No.ns e) (hI b o e)) hp ho2 (rt.set 0 rl) (by simp; lia) (by simp; exact hne) (pop_down hh hone) fun s' items' n2 l' same k ho3 r3 pm hh3 => ?_
  refine h s' items' n2 l' v0 ?_ (fun b o hb e => k b o hb (k2 b o hb e)) ho3 r3 ((List.Perm.cons _ pm).trans (pop_perm hone)) hh3 r0
  refine o20 same ?_; rintro h' tk' rfl
  exact ⟨h', tk', rfl⟩
end
end Mine
namespace Mine
noncomputable def stmtAt (l : List Stmt) (i : Nat) : Stmt := l.getD i (.Pass default)
noncomputable def stExpr (s : Stmt) : PySem.Expr := (stPt s).2.2.2.1
noncomputable def ifBody (s : Stmt) : List Stmt := (stPt s).2.2.1
noncomputable def exPt : PySem.Expr -> List PySem.Expr × List PySem.Expr × Arguments × Scope × Pos
 | .Call _ a ks _ => (a, ks.map (·.value), fN.2.1, default, default)
 | .Tuple a _ _ => (a, [], fN.2.1, default, default)
 | .List a _ => (a, [], fN.2.1, default, default)
 | .BoolOp _ a _ => (a, [], fN.2.1, default, default)
 | .Yield a _ => (a.toList, [], fN.2.1, default, default)
 | .IfExp a _ _ _ => ([a], [], fN.2.1, default, default)
 | .Lambda a b sc p => ([b], [], a, sc, p)
 | _ => ([], [], fN.2.1, default, default)
noncomputable def argAt (e : PySem.Expr) (i : Nat) : PySem.Expr := (exPt e).1.getD i cN
noncomputable def WAt (F : FA) (h : Heap) (x dx p : Addr) : Prop := h.get? x = some (instObj F.work dx) /\ ∃ hsh tk n, h.get? dx = some (dictOf [⟨hsh, .str "pq" tk, .ref p⟩] n)
theorem WAt.keeps {F : FA} {h h' : Heap} {x dx p : Addr} (W : WAt F h x dx p) (k : ∀ b o, b = x \/ b = dx -> h.get? b = some o -> h'.get? b = some o) : WAt F h' x dx p :=
 o01 W fun a q => o30 q fun b c n d => ⟨k _ _ (.inl rfl) a, b, c, n, k _ _ (.inr rfl) d⟩
section
variable {prog : Program} {w : World} {A : Around} {F : FA} {s : Shared} {env : Env}
theorem WAt.inst {h : Heap} {x dx p : Addr} (W : WAt F h x dx p) : ∃ es n, InstAt h x (instObj F.work dx) F.work (some (dictOf es n)) /\ getL "pq" es = some (some (.ref p)) /\ getL "add" es = some none /\ getL "get" es = some none /\ getL "iter" es = some none := by
 refine o01 W fun a zz => o30 zz fun hsh tk n b => ?_
 refine ⟨_, n, ⟨a, rfl, rfl, b⟩, ?_, ?_, ?_, ?_⟩ <;> rfl
theorem read_pq {x dx p : Addr} {expr : Bool} {Q : Value -> Shared -> Prop} {E : Value -> Shared -> Prop} (Fu : Funs F s.heap) (W : WAt F s.heap x dx p) (h : Q (.ref p) { s with toks := s.toks + 1 }) :
  wpAny (model prog w) A (getAttr (.ref x) "pq" expr) Q E s := by
 refine o22 W.inst fun es n I h1 _ => ?_
 exact get_value Fu.frag I Fu.wk.getattribute (findObj_own Fu.wk.hasDict Fu.wk.pq rfl h1) rfl h
theorem meth_add {x dx p : Addr} {pl : Sem Bool} {Q : Value × List Value -> Shared -> Prop} {E : Value -> Shared -> Prop} (Fu : Funs F s.heap) (W : WAt F s.heap x dx p) (h : Q (.ref F.wAdd, [.ref x]) s) :
  wpAny (model prog w) A (getMethod (.ref x) "add" pl) Q E s := by
 refine o23 W.inst fun es n I _ h1 _ => ?_
 exact method_fn Fu.frag I Fu.wk.getattribute Fu.wk.getattr Fu.wk.add Fu.wk.fAdd (by show (lookIn _ (dictOf es n)).map _ = _; rw [lookIn_dict, h1]; rfl) h
theorem meth_get {x dx p : Addr} {pl : Sem Bool} {Q : Value × List Value -> Shared -> Prop} {E : Value -> Shared -> Prop} (Fu : Funs F s.heap) (W : WAt F s.heap x dx p) (h : Q (.ref F.wGet, [.ref x]) s) :
  wpAny (model prog w) A (getMethod (.ref x) "get" pl) Q E s := by
 refine o24 W.inst fun es n I _ _ h1 _ => ?_
 exact method_fn Fu.frag I Fu.wk.getattribute Fu.wk.getattr Fu.wk.get Fu.wk.fGet (by show (lookIn _ (dictOf es n)).map _ = _; rw [lookIn_dict, h1]; rfl) h
theorem meth_iter {x dx p : Addr} {pl : Sem Bool} {Q : Value × List Value -> Shared -> Prop} {E : Value -> Shared -> Prop} (Fu : Funs F s.heap) (W : WAt F s.heap x dx p) (h : Q (.ref F.wIter, [.ref x]) s) :
  wpAny (model prog w) A (getMethod (.ref x) "iter" pl) Q E s := by
 refine o24 W.inst fun es n I _ _ _ h1 => ?_
 exact method_fn Fu.frag I Fu.wk.getattribute Fu.wk.getattr Fu.wk.iter Fu.wk.fIter (by show (lookIn _ (dictOf es n)).map _ = _; rw [lookIn_dict, h1]; rfl) h
theorem call_inst {o : PySem.Expr} {name : Str} {apos pos : Pos} {args : List PySem.Expr} {Q : Value -> Shared -> Prop} {E : Value -> Shared -> Prop}
  (hbase : attributeBase o name env (eval o env) = eval o env)
  (hfew : methodCallForm (args.length + 0) (backTo pos (starEach args env)) [] = true) (hline : (apos.endLine == pos.line) = true)
  (h : wpAny (model prog w) A (eval o env) (fun ov s₁ => ∀ pl, wpAny (model prog w) A (getMethod ov name pl) (fun r sb => wpAny (model prog w) A (callWith pos r.1 r.2 (backTo pos (starEach args env)) []) Q E sb) E s₁) E s) :
  wpAny (model prog w) A (eval (.Call (.Attribute o name apos) args [] pos) env) Q E s := by
 rw [arm_eval_Call, hbase]
 refine wpAny_bind (wpAny_mono h (fun ov s₁ hB => wpAny_bind (wpAny_standAt ?_)) fun _ _ e => e)
 have hform : methodCallForm (args.length + ([] : List Keyword).length) (backTo pos (starEach args env)) (backToKw pos (keywordEach [] env)) = true := hfew
 have hpos : methodCallPos true o env apos pos = pure pos := by unfold methodCallPos; simp [hline]
 unfold methodCall
 rw [hform]
 refine wpAny_bind (wpAny_holding ?_)
 unfold calleeOf
 rw [if_pos rfl]
 exact wpAny_mono (hB _) (fun r sb hO => wpAny_bind (wpAny_of_eq hpos hO)) fun _ _ e => e
end
noncomputable def allBut (s : Shared) (p : Addr) : PH := fun b => if b = p then none else s.heap.get? b
theorem allBut_in {s : Shared} {p : Addr} : (allBut s p).In s.heap := fun b o e => by
 unfold allBut at e; split at e
 ·exact No.ns e
 ·exact e
theorem le_allBut {s : Shared} {p : Addr} {hc : PH} (hI : hc.In s.heap) (hp : hc p = none) : hc.le (allBut s p) := fun b o e => by
 unfold allBut
 rw [if_neg (fun hb => by rw [hb, hp] at e; exact No.ns e)]
 exact hI b o e
section
variable {prog : Program} {w : World} {A : Around} {F : FA} {s : Shared} {d : Nat}
theorem self_pq {A' : Around} {K : Cf} {ρ : Rho} {mu : List Ent} {lo : List (Addr × Obj)} {s : Shared} {hc : PH} {x dx p : Addr} {n : Str} {np pos : Pos} {Q : Value -> Shared -> Prop} {E : Value -> Shared -> Prop} (S : K.H ρ mu lo s hc) (W : WAt K.F s.heap x dx p)
  (hk : kOk (K.env.kindOf n) = true) (hd : (n == ("__debug__" : Str)) = false) (hv : ρ n = some ⟨.val, .ref x⟩) (h : ∀ s', K.H ρ mu lo s' hc -> (∃ tk, s' = { s with toks := tk }) -> Q (.ref p) s') : wpAny (model K.prog K.w) A' (PySem.eval (.Attribute (.Name n np) "pq" pos) K.env) Q E s := by
 refine Attribute_Name_ ?_
 refine o11 (S.sees n _ hk hv) fun cv rd rp => ?_
 have : cv = .ref x := rp
 subst this
 refine wpAny_Name (rd.load S.envOk.kind ?_) hd
 exact read_pq S.cx.funs W (h _ (S.step (Step.tok S.inn _)) ⟨_, rfl⟩)
theorem gd_all {h0 : PH} (B : Bas F s.heap) (Fu : Funs F s.heap) (hx : ∀ b o, s.heap.get? b = some o -> h0 b = some o) : Gd F h0 := fun h i => ⟨B.keeps fun b o e => i b o (hx b o e), Fu.keeps fun b o e => i b o (hx b o e)⟩
theorem add_wp {hc : PH} {x dx p : Addr} {items : List Value} {n : Nat} {l : List Rank} {t : Int} {c : List UInt8} {item : Value} {Q : Value -> Shared -> Prop} {E : Value -> Shared -> Prop} (ao : AOk A (d + 1)) (B : Bas F s.heap) (Fu : Funs F s.heap) (gd : Gd F (allBut s p)) (W : WAt F s.heap x dx p)
  (hxp : x ≠ p) (hdp : dx ≠ p) (hI : hc.In s.heap) (hp : hc p = none) (ho : s.heap.get? p = some (lobj items n)) (r : RR w hc l items) (hz : l.length <= 90000) (hh : isHeap l) (ri : Rep w.params hc (.pair .int .byt) (t, c) item)
  (h : ∀ s' hd items' n' l', StepX [p] s s' hc hd -> s'.heap.get? p = some (lobj items' n') -> hd p = none -> RR w hd l' items' -> l'.Perm (l ++ [(-t, c)]) -> isHeap l' -> Q .none s') : wpAny (model prog w) A (call (.ref F.wAdd) [.ref x, item]) Q E s := by
 have hle := le_allBut hI hp
 have rx : Rel2 (RepTV w.params (allBut s p)) [⟨.val, .ref x⟩, ⟨.pair .int .byt, (t, c)⟩] [.ref x, item] := .cons rfl (.cons (ri.mono hle) .nil)
 refine wpAny_call (enter_frame (gp := fun g => g = s.gens) (h0 := allBut s p) (hc := allBut s p) ["self", "item"] [(p, lobj items n)] Fu.add ao gd rfl allBut_in PH.le.rfl rx (fun q hq => ?_) (by simp) (fun g => BindsTo.of_eq rfl) rfl rfl rfl fun g s₁ S => ?_)
 ·rw [List.mem_singleton.mp hq]
  exact ⟨ho, by simp [allBut]⟩
 let K := frameCf prog F w d A (fun g => g = s.gens) s (allBut s p) (workDef "add") .none g F.wAdd
 have EV := fun n => (pv_sound (user_none (prog := prog) (w := w) (F := F) (d := d)) n).1
 refine st_cons (st_unpack (K := K) (t := .pair .int .byt) (y := (t, c)) S (pure_g (n := 4) (U := {}) (EV 4) (by walk_at "pk")) (by rfl) (by rfl) (by rfl) fun sb Sb => ?_)
 refine o10 Sb ?_; clear Sb; rintro h2 Sb
 have old : ∀ {s' hd ρ mu lo}, K.H ρ mu lo s' hd -> ∀ b o, b ≠ p -> s.heap.get? b = some o -> s'.heap.get? b = some o := fun S b o hb e => S.inn b o (S.le b o (by show allBut s p b = _; unfold allBut; rw [if_neg hb]; exact e))
 refine st_cons (wpAny_Expr_any (PyProof.Rows.Call_Name rfl (wpAny_Name (load_more (p := ("heappush", .builtin "_heapq.heappush")) Sb.cx.bas Sb.envOk (by simp [FA.more]) (by rfl) ?_) (by rfl))) (by rfl) (by rfl))
 refine Calls.callWith_builtin (by rfl) (Calls.evalArgs_plain (Calls.spliced_cons ?_))
 refine self_pq Sb (W.keeps fun b o hb e => old Sb b o (by rcases hb with rfl | rfl <;> assumption) e) (by rfl) (by rfl) (by rfl) fun sd Sc _ => ?_
 show wpAny _ _ (spliced [(false, PySem.eval (argAt (stExpr (stmtAt (defBody (workDef "add")) 1)) 1) K.env)]) _ _ _
 refine Calls.spliced_cons (wpAny_Tuple_spliced ?_)
 show wpAny _ _ (spliced [(false, PySem.eval (argAt (argAt (stExpr (stmtAt (defBody (workDef "add")) 1)) 1) 0) K.env), (false, PySem.eval (argAt (argAt (stExpr (stmtAt (defBody (workDef "add")) 1)) 1) 1) K.env)]) _ _ _
 refine Calls.spliced_cons (StH.eval (n := 4) (U := {}) (EV 4) Sc (by walk_at "pk") fun se h4 vd Sd lee re => ?_)
 show wpAny _ _ (spliced [(false, PySem.eval (argAt (argAt (stExpr (stmtAt (defBody (workDef "add")) 1)) 1) 1) K.env)]) _ _ _
 refine Calls.spliced_cons (StH.eval (n := 4) (U := {}) (EV 4) Sd (by walk_at "pk") fun sf h5 vh Se lef rf => Calls.spliced_nil ?_)
 refine ⟨by rw [sizeLine_eq]; simp, Calls.spliced_nil ?_⟩
 refine o10 re ?_; rintro kc rfl
 refine o10 rf ?_; rintro kd rfl
 have hT : sf.heap.get? sf.heap.objs.size = none := free_size _
 obtain ⟨T, hTe⟩ : ∃ T, T = sf.heap.objs.size := ⟨_, rfl⟩
 rw [<- hTe] at hT ⊢
 have old5 : ∀ b o, b ≠ p -> s.heap.get? b = some o -> sf.heap.get? b = some o := fun b o hb e => old Se b o hb e
 refine o01 (Se.loose (p, lobj items n) (List.mem_singleton.mpr rfl)) fun ho5 own5 => ?_
 have hTp : T ≠ p := fun e => by rw [e, ho5] at hT; exact No.sn hT
 have hTs : s.heap.get? T = none := by
  generalize e : s.heap.get? T = zz; induction zz with
  | none => rfl
  | some o => have := old5 T o hTp e; rw [hT] at this; exact No.ns this
 let oT : Obj := { cls := .type "tuple", data := .seq (List.toArray [.int (-t) kc, .bytes c.toArray kd]) }
 have hin : (hc.put T oT).In (sf.heap.push oT) := by
  refine PH.In.put (fun b o e => Heap.get?_push_of_some _ (old5 b o (fun hb => by rw [hb, hp] at e; exact No.ns e) (hI b o e))) ?_
  rw [hTe]; exact Heap.get?_push_size _ rfl
 have hcT : hc T = none := hI.none hTs
 have le6 : hc.le (hc.put T oT) := PH.put_le hcT
 have rT : Rep w.params (hc.put T oT) (.pair .int .byt) (-t, c) (.ref T) := ⟨T, _, _, rfl, ⟨oT, 0, PH.put_self, rfl, rfl⟩, ⟨kc, rfl⟩, ⟨kd, rfl⟩⟩
 have hpT : (hc.put T oT) p = none := by rw [PH.put_ne (Ne.symm hTp)]; exact hp
 have hu : K.A.units + 20 < cLine := by have := Se.ao.units; lia
 refine push_wp (s := { sf with heap := sf.heap.push oT }) hu hin hpT (Heap.get?_push_of_some _ ho5) (r.mono fun _ _ x => x.mono le6) hz hh rT fun s' items' n' l' same k ho' r' pm hh' => ?_
 refine st_nil ?_
 show Q .none s'
 have sameS : ∃ h tk, s' = { s with heap := h, toks := tk } := by
  refine o20 same ?_; rintro h' tk' rfl
  refine o30 Se.same fun h5' tk5 g5 e5 => ?_
  have hg : sf.gens = s.gens := Se.bare
  refine ⟨h', tk', ?_⟩
  rw [e5] at hg ⊢
  simp only at hg
  subst hg
  rfl
 refine h s' (hc.put T oT) items' n' l' ⟨sameS, fun b o hb e => ?_, le6, fun b o e => ?_, fun b o e => ?_, fun b hb => ?_⟩ ho' hpT r' pm hh'
 ·have hb' : b ≠ p := by simpa using hb
  exact k b o hb' (Heap.get?_push_of_some _ (old5 b o hb' e))
 ·unfold PH.put at e; split at e
  ·subst_vars; exact .inr hTs
  ·exact .inl e
 ·exact k b o (fun hb => by rw [hb, hpT] at e; exact No.ns e) (hin b o e)
 ·rw [List.mem_singleton.mp hb, ho']; rfl
theorem get_wp {hc : PH} {x dx p : Addr} {items : List Value} {n : Nat} {l : List Rank} {y : Rank} {Q : Value -> Shared -> Prop} {E : Value -> Shared -> Prop} (ao : AOk A (d + 1)) (Fu : Funs F s.heap) (gd : Gd F (allBut s p)) (W : WAt F s.heap x dx p)
  (hxp : x ≠ p) (hdp : dx ≠ p) (hI : hc.In s.heap) (hp : hc p = none) (ho : s.heap.get? p = some (lobj items n)) (r : RR w hc (l ++ [y]) items) (hz : l.length <= 90000) (hh : isHeap (l ++ [y]))
  (h : ∀ s' hd items' n' l' v, StepX [p] s s' hc hd -> s'.heap.get? p = some (lobj items' n') -> hd p = none -> RR w hd l' items' -> (qat (l ++ [y]) 0 :: l').Perm (l ++ [y]) -> isHeap l' ->
   Rep w.params hd (.pair .int .byt) (-(qat (l ++ [y]) 0).1, (qat (l ++ [y]) 0).2) v -> Q v s') : wpAny (model prog w) A (call (.ref F.wGet) [.ref x]) Q E s := by
 have hle := le_allBut hI hp
 have rx : Rel2 (RepTV w.params (allBut s p)) [⟨.val, .ref x⟩] [.ref x] := .cons rfl .nil
 refine wpAny_call (enter_frame (gp := fun g => g = s.gens) (h0 := allBut s p) (hc := allBut s p) ["self"] [(p, lobj items n)] Fu.get ao gd rfl allBut_in PH.le.rfl rx (fun q hq => ?_) (by simp) (fun g => BindsTo.of_eq rfl) rfl rfl rfl fun g s₁ S => ?_)
 ·rw [List.mem_singleton.mp hq]
  exact ⟨ho, by simp [allBut]⟩
 let K := frameCf prog F w d A (fun g => g = s.gens) s (allBut s p) (workDef "get") .none g F.wGet
 have EV := fun n => (pv_sound (user_none (prog := prog) (w := w) (F := F) (d := d)) n).1
 have old : ∀ {s' hd ρ mu lo}, K.H ρ mu lo s' hd -> ∀ b o, b ≠ p -> s.heap.get? b = some o -> s'.heap.get? b = some o := fun S b o hb e => S.inn b o (S.le b o (by show allBut s p b = _; unfold allBut; rw [if_neg hb]; exact e))
 refine o10 S fun h1 Sa => ?_
 refine st_cons (wpAny_Assign_Name (PyProof.Rows.Call_Name rfl (wpAny_Name (load_more (p := ("heappop", .builtin "_heapq.heappop")) Sa.cx.bas Sa.envOk (by simp [FA.more]) (by rfl) ?_) (by rfl))) (by rfl))
 refine Calls.callWith_builtin (by rfl) (Calls.evalArgs_plain (Calls.spliced_cons ?_))
 refine self_pq (K := K) Sa (W.keeps fun b o hb e => old Sa b o (by rcases hb with rfl | rfl <;> assumption) e) (by rfl) (by rfl) (by rfl) fun sb Sb _ => Calls.spliced_nil ?_
 refine o01 (Sb.loose (p, lobj items n) (List.mem_singleton.mpr rfl)) fun ho2 own2 => ?_
 have hu : K.A.units + 20 < cLine := by have := Sb.ao.units; lia
 have in2 : hc.In sb.heap := fun b o e => old Sb b o (fun hb => by rw [hb, hp] at e; exact No.ns e) (hI b o e)
 refine pop_wp hu in2 hp ho2 r hz hh fun sd items' n' l' v same3 kg hoa rh pm hh' rv => ?_
 have Sc : K.H _ [] ([] ++ [(p, lobj items' n')]) sd h1 := Cf.H.last (p := (p, lobj items n)) Sb same3 kg hoa
 have leF : hc.le h1 := hle.trans Sc.le
 refine StH.store Sc (.inl (by rfl)) (by rfl) (t := .pair .int .byt) (y := qat (l ++ [y]) 0) (rv.mono leF) fun se Sd => ?_
 refine st_cons (wpAny_If (wpAny_isTrue_value (name_g (K := K) (v := ⟨.pair .int .byt, qat (l ++ [y]) 0⟩) (by rfl) (by rfl) (by rfl) se h1 Sd _ _ fun sf h5 cv Se lef rj => ?_) (by rfl)))
 generalize hm : qat (l ++ [y]) 0 = m at rj Se rv pm h
 obtain ⟨t, c⟩ := m
 have r5' := rj
 refine o33 rj ?_; rintro a q1 q2 rfl oa ⟨k1, rfl⟩ ⟨k2, rfl⟩
 refine truthy_tuple (oa.isTuple Se.inn) (show ((2 : Nat) : Int) < 2 ^ 63 by decide) ?_
 rw [show (!(List.toArray [Value.int t k1, .bytes c.toArray k2]).isEmpty) = true from rfl, if_pos rfl]
 have Sf : K.H _ [] [(p, lobj items' n')] { sf with toks := sf.toks + 1 + 1 } h5 := Se.step (Step.tok Se.inn _)
 refine st_cons (st_unpack (K := K) (t := .pair .int .byt) (y := (t, c)) ⟨h5, Sf⟩ (pure_g (n := 4) (U := {}) (EV 4) (by walk_at "pk")) (by rfl) (by rfl) (by rfl) fun si Sg => ?_)
 refine o10 Sg ?_; clear Sg; rintro h7 Sg
 refine st_cons (wpAny_Return_some (wpAny_Tuple_spliced ?_))
 show wpAny _ _ (spliced [(false, PySem.eval (argAt (stExpr (stmtAt (ifBody (stmtAt (defBody (workDef "get")) 1)) 1)) 0) K.env), (false, PySem.eval (argAt (stExpr (stmtAt (ifBody (stmtAt (defBody (workDef "get")) 1)) 1)) 1) K.env)]) _ _ _
 refine Calls.spliced_cons (StH.eval (n := 4) (U := {}) (EV 4) Sg (by walk_at "pk") fun sj h8 vd Si leg re => ?_)
 show wpAny _ _ (spliced [(false, PySem.eval (argAt (stExpr (stmtAt (ifBody (stmtAt (defBody (workDef "get")) 1)) 1)) 1) K.env)]) _ _ _
 refine Calls.spliced_cons (StH.eval (n := 4) (U := {}) (EV 4) Si (by walk_at "pk") fun sk h9 vh Sj leh rf => Calls.spliced_nil ?_)
 refine ⟨by rw [sizeLine_eq]; simp, ?_⟩
 refine o10 re ?_; rintro kc rfl
 refine o10 rf ?_; rintro kd rfl
 have hT : sk.heap.get? sk.heap.objs.size = none := free_size _
 obtain ⟨T, hTe⟩ : ∃ T, T = sk.heap.objs.size := ⟨_, rfl⟩
 rw [<- hTe] at hT ⊢
 have old9 : ∀ b o, b ≠ p -> s.heap.get? b = some o -> sk.heap.get? b = some o := fun b o hb e => old Sj b o hb e
 refine o01 (Sj.loose (p, lobj items' n') (List.mem_singleton.mpr rfl)) fun ho9 own9 => ?_
 have hTp : T ≠ p := fun e => by rw [e, ho9] at hT; exact No.sn hT
 have hTs : s.heap.get? T = none := by
  generalize e : s.heap.get? T = zz; induction zz with
  | none => rfl
  | some o => have := old9 T o hTp e; rw [hT] at this; exact No.ns this
 let oT : Obj := { cls := .type "tuple", data := .seq (List.toArray [.int (-t) kc, .bytes c.toArray kd]) }
 have hcT : hc T = none := hI.none hTs
 have le6 : hc.le (hc.put T oT) := PH.put_le hcT
 have rT : Rep w.params (hc.put T oT) (.pair .int .byt) (-t, c) (.ref T) := ⟨T, _, _, rfl, ⟨oT, 0, PH.put_self, rfl, rfl⟩, ⟨kc, rfl⟩, ⟨kd, rfl⟩⟩
 have hpT : (hc.put T oT) p = none := by rw [PH.put_ne (Ne.symm hTp)]; exact hp
 have sameS : ∃ h tk, { sk with heap := sk.heap.push oT } = { s with heap := h, toks := tk } := by
  refine o30 Sj.same fun h5' tk5 g5 e5 => ?_
  have hg : sk.gens = s.gens := Sj.bare
  refine ⟨sk.heap.push oT, sk.toks, ?_⟩
  rw [e5] at hg ⊢
  simp only at hg
  subst hg
  rfl
 refine h _ (hc.put T oT) items' n' l' (.ref T) ⟨sameS, fun b o hb e => ?_, le6, fun b o e => ?_, fun b o e => ?_, fun b hb => ?_⟩ (Heap.get?_push_of_some _ ho9) hpT (rh.mono fun _ _ x => x.mono le6) pm hh' rT
 ·exact Heap.get?_push_of_some _ (old9 b o (by simpa using hb) e)
 ·unfold PH.put at e; split at e
  ·subst_vars; exact .inr hTs
  ·exact .inl e
 ·unfold PH.put at e; split at e
  ·subst_vars; obtain rfl := Option.some.inj e; exact Heap.get?_push_size _ rfl
  ·exact Heap.get?_push_of_some _ (old9 b o (fun hb => by rw [hb, hp] at e; exact No.ns e) (hI b o e))
 ·rw [List.mem_singleton.mp hb]
  show Option.isSome (Heap.get? (sk.heap.push oT) p) = true
  rw [Heap.get?_push_of_some _ ho9]; rfl
end
end Mine
namespace Mine
theorem ao_typeCall {A : Around} {d : Nat} {C : Addr} (x : AOk A (d + 1)) : AOk (A.under (.builtin "type.__call__" ⟨[.ref C], []⟩)) d :=
 ⟨x.handled, by have := x.depth; show A.depth + 1 + d + 100 < _; lia, by have := x.units; show A.units + 1 + 10 * d + 300 < _; lia⟩
noncomputable def restOf (h : Heap) (L dx : Addr) : List (Addr × Obj) := (List.range h.objs.size).filterMap fun b => if b = L \/ b = dx then none else (h.get? b).map fun o => (b, o)
theorem restOf_mem {h : Heap} {L dx : Addr} {p : Addr × Obj} (hp : p ∈ restOf h L dx) : h.get? p.1 = some p.2 /\ p.1 ≠ L /\ p.1 ≠ dx := by
 refine o11 (List.mem_filterMap.mp hp) fun b _ hb => ?_
 split at hb
 ·exact No.ns hb
 ·rename_i hn
  rw [not_or] at hn
  generalize e : h.get? b = zz; induction zz with
  | none => rw [e] at hb; exact No.ns hb
  | some o => rw [e] at hb; obtain rfl := Option.some.inj hb; exact ⟨e, hn.1, hn.2⟩
theorem mem_restOf {h : Heap} {L dx b : Addr} {o : Obj} (e : h.get? b = some o) (h1 : b ≠ L) (h2 : b ≠ dx) : (b, o) ∈ restOf h L dx := by
 refine List.mem_filterMap.mpr ⟨b, List.mem_range.mpr (Heap.lt_size e), ?_⟩
 rw [if_neg (by rw [not_or]; exact ⟨h1, h2⟩), e]; rfl
section
variable {prog : Program} {w : World} {A : Around} {F : FA} {s : Shared} {d : Nat}
theorem store_pq {L x dx : Addr} {m : Str -> Option Value} {v : Value} {Q : Unit -> Shared -> Prop} {E : Value -> Shared -> Prop} (Fu : Funs F s.heap) (hx : s.heap.get? x = some (instObj F.work dx)) (hd : s.heap.get? dx = some (dictOf [] 0)) (hn : s.heap.Ns L m) (hdL : dx ≠ L)
  (h : ∀ h' tk hsh tk' n, (∀ b o, b ≠ L -> b ≠ dx -> s.heap.get? b = some o -> h'.get? b = some o) -> h'.get? dx = some (dictOf [⟨hsh, .str "pq" tk', v⟩] n) -> Q () { s with heap := h', toks := tk }) :
  wpAny (model prog w) A (setAttr (.ref x) "pq" v) Q E s := by
 have I : InstAt s.heap x (instObj F.work dx) F.work (some (dictOf [] 0)) := ⟨hx, rfl, rfl, hd⟩
 refine set_plain Fu.frag I Fu.wk.setattr ?_
 have FF : Fr {} L s.heap m := ⟨hn, (fun b o e => nomatch e), Nat.zero_le _⟩
 have NN : News {} L s.heap ([] ++ (dx, dictOf [] 0) :: restOf s.heap L dx) := fun p hp => by
  rcases List.mem_cons.mp hp with rfl | hp
  ·exact ⟨hd, hdL, rfl⟩
  ·refine o02 (restOf_mem hp) fun a b c => ?_
   exact ⟨a, b, rfl⟩
 refine osa_dict (s := { s with toks := s.toks + 1 }) (es := [⟨PyData.keyHash w.params "pq", .str "pq" (s.toks + 1), v⟩]) (n := 1) FF NN Fu.frag I rfl Fu.wk.plain (by unfold takerIn; rw [Fu.wk.pq]; rfl) Fu.wk.hasDict rfl (fun _ hp => nomatch hp) (fun p hp => (restOf_mem hp).2.2)
  (putName_dict _ _ _ _ _ _) rfl (by simp) fun h' F' N' => ?_
 refine h h' _ (PyData.keyHash w.params "pq") (s.toks + 1) 1 (fun b o h1 h2 e => (N' _ (List.mem_append_right _ (List.mem_cons_of_mem _ (mem_restOf e h1 h2)))).1) ?_
 exact (N' _ (List.mem_append_right _ List.mem_cons_self)).1
theorem work_wp {Q : Value -> Shared -> Prop} {E : Value -> Shared -> Prop} (ao : AOk A (d + 2)) (B : Bas F s.heap) (Fu : Funs F s.heap)
  (h : ∀ s' x dx p, Keeps s s' -> s.heap.get? x = none -> s.heap.get? dx = none -> s.heap.get? p = none -> x ≠ dx -> x ≠ p -> dx ≠ p -> WAt F s'.heap x dx p -> s'.heap.get? p = some (lobj [] 0) -> Q (.ref x) s') :
  wpAny (model prog w) A (call (.ref F.work) [] []) Q E s := by
 obtain ⟨h0, g, dr, tk, os⟩ := s
 refine wpAny_call (make_core (makes_of Fu.frag Fu.wk.makes) (looks_findIn Fu.frag Fu.wk.init) (fun self => bind_fn Fu.frag self Fu.wk.fInit) (.inl rfl) ?_)
 let s₁ : Shared := ⟨(h0.push emptyDict).push (instObj F.work h0.objs.size), g, dr, tk, os⟩
 have k1 : ∀ b o, h0.get? b = some o -> s₁.heap.get? b = some o := fun b o e => Heap.get?_push_of_some _ (Heap.get?_push_of_some _ e)
 have B1 := B.keeps k1
 have Fu1 := Fu.keeps k1
 obtain ⟨dx, hdx⟩ : ∃ dx, dx = h0.objs.size := ⟨_, rfl⟩
 have hdxO : s₁.heap.get? dx = some (dictOf [] 0) := by rw [hdx]; exact Heap.get?_push_of_some _ (Heap.get?_push_size _ rfl)
 have hxO : s₁.heap.get? (h0.objs.size + 1) = some (instObj F.work dx) := by
  have := Heap.get?_push_size (h0.push emptyDict) (o := instObj F.work h0.objs.size) rfl
  rw [Heap.size_push] at this
  rw [hdx]; exact this
 have hxs : h0.get? (h0.objs.size + 1) = none := next_free h0
 have hdxs : h0.get? dx = none := by rw [hdx]; exact free_size h0
 rw [<- hdx]
 obtain ⟨x, hx⟩ : ∃ x, x = h0.objs.size + 1 := ⟨_, rfl⟩
 have hxd : x ≠ dx := by rw [hx, hdx]; exact Nat.succ_ne_self _
 rw [hdx, <- hx]
 rw [<- hx] at hxO hxs
 have gd : Gd F (allBut s₁ dx) := fun h i => by
  have k : ∀ b o, h0.get? b = some o -> h.get? b = some o := fun b o e => i b o (by
   unfold allBut
   rw [if_neg (fun hb => by rw [hb, hdxs] at e; exact No.ns e)]
   exact k1 b o e)
  exact ⟨B.keeps k, Fu.keeps k⟩
 refine enter_frame (s := s₁) (d := d) (gp := fun g' => g' = g) (h0 := allBut s₁ dx) (hc := allBut s₁ dx) (xs := [⟨.val, .ref x⟩]) ["self"] [(dx, dictOf [] 0)] Fu1.init (ao_typeCall ao) gd rfl allBut_in PH.le.rfl (.cons rfl .nil) (fun q hq => ?_) (by simp) (fun g => BindsTo.of_eq rfl) rfl rfl rfl fun gg sb S => ?_
 ·rw [List.mem_singleton.mp hq]
  exact ⟨hdxO, by simp [allBut]⟩
 let K := frameCf prog F w d (A.under (.builtin "type.__call__" ⟨[.ref F.work], []⟩)) (fun g' => g' = g) s₁ (allBut s₁ dx) (workDef "__init__") .none gg F.wInit
 refine o10 S ?_; clear S; rintro h2 S
 have S : K.H _ [] [(dx, dictOf [] 0)] sb h2 := S
 have old : ∀ {s' hd ρ mu lo}, K.H ρ mu lo s' hd -> ∀ b o, b ≠ dx -> s₁.heap.get? b = some o -> s'.heap.get? b = some o := fun S b o hb e => S.inn b o (S.le b o (by show allBut s₁ dx b = _; unfold allBut; rw [if_neg hb]; exact e))
 refine st_cons (K := K) (plainObj_wpAny_Assign_Attribute (wpAny_List_spliced (wpAny_pure ⟨by simp, ?_⟩)) (by rfl))
 obtain ⟨P, hP⟩ : ∃ P, P = sb.heap.objs.size := ⟨_, rfl⟩
 have hPs : sb.heap.get? P = none := by rw [hP]; exact free_size _
 let sd : Shared := { sb with heap := sb.heap.push { cls := .type "list", data := .seq (List.toArray []) } }
 have Sc : K.H _ [] [(dx, dictOf [] 0)] sd h2 := S.step (Step.quiet S.inn ⟨_, _, rfl, fun _ _ e => Heap.get?_push_of_some _ e⟩)
 have hP3 : sd.heap.get? P = some (lobj [] 0) := by rw [hP]; exact Heap.get?_push_size _ rfl
 rw [<- hP]
 refine o11 (Sc.sees "self" ⟨.val, .ref x⟩ (by rfl) (by rfl)) fun cv rd rp => ?_
 have : cv = .ref x := rp
 subst this
 refine wpAny_Name (rd.load Sc.envOk.kind ?_) (by rfl)
 refine o10 Sc.ns fun m hns => ?_
 refine o01 (Sc.loose _ (List.mem_singleton.mpr rfl)) fun hd3 own3 => ?_
 refine store_pq Sc.cx.funs (old Sc x _ hxd hxO) hd3 hns own3.2.1 fun h' tk' hsh tk2 n k hdx' => st_nil ?_
 have hL : ∀ b, (h0.get? b).isSome = true -> b ≠ K.env.locals := fun b hb e => by
  have e : b = s₁.heap.objs.size := e
  refine o10 (Option.isSome_iff_exists.mp hb) fun o eo => ?_
  exact absurd (Heap.lt_size (k1 b o eo)) (by rw [e]; exact Nat.lt_irrefl _)
 have keep : ∀ b o, h0.get? b = some o -> h'.get? b = some o := fun b o e => by
  have hb : b ≠ dx := fun hb => by rw [hb, hdxs] at e; exact No.ns e
  exact k b o (hL b (by rw [e]; rfl)) hb (old Sc b o hb (k1 b o e))
 have hxL : x ≠ K.env.locals := fun e => by
  have e : x = s₁.heap.objs.size := e
  exact absurd (Heap.lt_size hxO) (by rw [e]; exact Nat.lt_irrefl _)
 have hPL : P ≠ K.env.locals := fun e => by
  refine o41 S.ns fun _ o _ _ e2 _ => ?_
  have e3 := hPs.symm.trans ((congrArg sb.heap.get? e).trans e2)
  exact No.ns e3
 have hPd : P ≠ dx := fun e => by
  refine o01 (S.loose _ (List.mem_singleton.mpr rfl)) fun e2 _ => ?_
  rw [e] at hPs; rw [hPs] at e2; exact No.ns e2
 have hPx : P ≠ x := fun e => by
  have := old S x _ hxd hxO
  rw [<- e, hPs] at this; exact No.ns this
 have hP0 : h0.get? P = none := by
  generalize e : h0.get? P = zz; induction zz with
  | none => rfl
  | some o =>
   have := old S P o hPd (k1 P o e)
   rw [hPs] at this; exact No.ns this
 refine o30 Sc.same fun h5 t5 g5 e5 => ?_
 have hg : sd.gens = g := Sc.bare
 refine ⟨rfl, h { sd with heap := h', toks := tk' } x dx P ⟨h', tk', ?_, keep⟩ hxs hdxs hP0 hxd (Ne.symm hPx) (Ne.symm hPd) ⟨k x _ hxL hxd (old Sc x _ hxd hxO), hsh, tk2, n, hdx'⟩ (k P _ hPL hPd hP3)⟩
 rw [e5] at hg ⊢
 simp only at hg
 subst hg
 rfl
end
end Mine
open Sem (wp)
namespace Mine
noncomputable def Cf.ar (K : Cf) (A : Around) : Cf := { K with A := A }
section
variable {K : Cf} {ρ : Rho} {mu : List Ent} {lo : List (Addr × Obj)} {s : Shared} {hc : PH}
theorem Cf.H.ar {A' : Around} (S : K.H ρ mu lo s hc) (ao : AOk A' K.d) : (K.ar A').H ρ mu lo s hc :=
 ⟨⟨ao, S.envOk, S.inj, S.gd, S.same, S.bare, S.le, S.inn, S.sees, S.ns, S.locout, S.cells, S.alive⟩, S.muts, S.loose, S.nodup⟩
theorem Cf.H.wake {s' : Shared} {X : Addr} (S : K.H ρ [] lo s hc) (same : ∃ h tk g, s' = { s with heap := h, toks := tk, gens := g }) (gp : K.gp s'.gens) (k : ∀ b o, b ≠ X -> s.heap.get? b = some o -> s'.heap.get? b = some o)
  (hX : hc X = none) (hL : X ≠ K.env.locals) (hcl : ∀ x c, K.env.cells.lookup x = some c -> X ≠ c) (hlo : ∀ p ∈ lo, p.1 ≠ X) : K.H ρ [] lo s' hc :=
 Cf.H.outer (X := [X]) S same gp (fun b o hb => k b o fun e => hb (List.mem_singleton.mpr e)) (all1 ⟨hX, hL, hcl, fun h => let ⟨p, hp, e⟩ := List.mem_map.mp h; hlo p hp e⟩)
theorem Cf.H.raiseC {hd : PH} (S : K.H ρ [] lo s hc) (hle : hc.le hd) (hin : hd.In s.heap) (hL : hd K.env.locals = none) (hcell : ∀ x c, K.env.cells.lookup x = some c -> hc c = none -> hd c = none) (hlo : ∀ p ∈ lo, hd p.1 = none) : K.H ρ [] lo s hd :=
 ⟨S.toFrm.grow hle hin hL hcell, (fun e he => nomatch he), fun p hp => ⟨(S.loose p hp).1, hlo p hp, (S.loose p hp).2.2⟩, S.nodup⟩
theorem Cf.H.raise {hd : PH} (S : K.H ρ [] lo s hc) (hle : hc.le hd) (hin : hd.In s.heap) (hL : hd K.env.locals = none) (hcell : ∀ x, K.env.kindOf x ≠ some .cell) (hlo : ∀ p ∈ lo, hd p.1 = none) : K.H ρ [] lo s hd :=
 ⟨⟨S.ao, S.envOk, S.inj, S.gd, S.same, S.bare, S.le.trans hle, hin, fun x v hk hv => let ⟨cv, rd, rp⟩ := S.sees x v hk hv; ⟨cv, rd, rp.mono hle⟩, S.ns, hL, fun x c h => absurd h (hcell x), S.alive⟩, (fun e he => nomatch he), fun p hp => ⟨(S.loose p hp).1, hlo p hp, (S.loose p hp).2.2⟩, S.nodup⟩
theorem Cf.H.dropHead {p : Addr × Obj} (S : K.H ρ mu (p :: lo) s hc) : K.H ρ mu lo s hc :=
 ⟨S.toFrm, S.muts, fun q hq => S.loose q (List.mem_cons_of_mem _ hq), S.nodup.sublist (List.Sublist.append (List.Sublist.refl _) (List.sublist_cons_self _ _))⟩
theorem Cf.H.perm {lo' : List (Addr × Obj)} (S : K.H ρ mu lo s hc) (h : lo.Perm lo') : K.H ρ mu lo' s hc :=
 ⟨S.toFrm, S.muts, fun q hq => S.loose q (h.mem_iff.mpr hq), (List.Perm.nodup_iff (List.Perm.append_left _ (h.map _))).mp S.nodup⟩
noncomputable def Cf.gpAny (K : Cf) : Cf := { K with gp := fun _ => True }
theorem Cf.H.anyp (S : K.H ρ mu lo s hc) : K.gpAny.H ρ mu lo s hc :=
 ⟨S.toFrm.gens trivial, S.muts, S.loose, S.nodup⟩
noncomputable def Cf.gpOf (K : Cf) (g : Array GenState) : Cf := { K with gp := fun x => x = g }
theorem Cf.H.regp (S : K.H ρ mu lo s hc) : (K.gpOf s.gens).H ρ mu lo s hc :=
 ⟨S.toFrm.gens rfl, S.muts, S.loose, S.nodup⟩
end
section
variable {M : Model} {A : Around} {R : GenEnd} {Y : Protocol} {n : Nat} {sa : Shared} {c : Code} {fs : List Frame} {s : Shared} {env : Env}
 {Kf : Flow -> Sem Fin} {H : Value -> Sem Fin} {gd : Bool -> Bool} {lv : List Value -> List Value}
noncomputable abbrev backF (env : Env) (Kf : Flow -> Sem Fin) (H : Value -> Sem Fin) (gd : Bool -> Bool) (lv : List Value -> List Value) (c : Code) (p : Pos) : Frame :=
 .ret (fun r => ((match r with | .ok f => (.pure f : Sem Flow) | .error e => .raise e).onRaise fun (x : Value) => do
  if (<- field x 1) == Value.none then unsupported "frame.own-activation:exception-without-traceback"
  setFlight x env.frame).wrap Kf H gd lv) none (gd false) (lv []) c p []
theorem gen_for {tg iter : PySem.Expr} {body : List Stmt} {pos : Pos}
  (h : wpAny M (A.over c fs) (eval iter env) (fun x s₁ => wpAny M (A.over c fs) (pyIter x) (fun it sb => ∀ p, Seg M A R Y n sa (.forLoop tg it body [] env) (M.den (.forLoop tg it body [] env)) (backF env Kf H gd lv c p :: fs) sb)
   (fun x s' => Seg M A R Y n sa c (H x) fs s') s₁) (fun x s' => Seg M A R Y n sa c (H x) fs s') s)
  (hs : ∀ x, foldedSetIterable iter env x = pure x) :
  Seg M A R Y n sa c ((exec (.For tg iter body [] pos) env).wrap Kf H gd lv) fs s := by
 rw [exec_For]
 refine seg_bind_wrap (wpAny_standAt (seg_bind_wrap (wpAny_mono h (fun x s₁ hB => ?_) fun _ _ e => e)))
 rw [hs]
 refine seg_bind_wrap (wpAny_pure (seg_bind_wrap (wpAny_standAt (seg_bind_wrap (wpAny_holding (wpAny_mono hB (fun it sb hO => ?_) fun _ _ e => e))))))
 exact seg_call hO
theorem ao_func {A : Around} {d : Nat} {body : List Stmt} {env : Env} (x : AOk A (d + 1)) : AOk (A.over (.func body env) []) d :=
 ⟨x.handled, by have := x.depth; show A.depth + 0 + 1 + d + 100 < _; lia, by have := x.units; first | (show A.units + 0 + 1 + 10 * d + 300 < _; omega) | (show A.units + 0 + 3 + 10 * d + 300 < _; lia) | (show A.units + 0 + 0 + 10 * d + 300 < _; omega) | (show A.units + 0 + 4 + 10 * d + 300 < _; omega)⟩
theorem ao_loop {A : Around} {d : Nat} {tg : PySem.Expr} {it : Value} {b b' o : List Stmt} {env env' : Env} {p : Pos} (x : AOk A (d + 1)) :
  AOk (A.over (.forLoop tg it b o env) [backF env' Kf H gd lv (.func b' env') p]) d := by
 refine ⟨x.handled, ?_, ?_⟩
 ·have := x.depth
  show A.depth + (1 + 0) + 0 + d + 100 < _
  lia
 ·have := x.units
  first | (show A.units + (1 + 0) + 0 + 10 * d + 300 < _; omega) | (show A.units + (3 + 0) + 0 + 10 * d + 300 < _; lia) | (show A.units + (1 + 0) + 1 + 10 * d + 300 < _; omega) | (show A.units + (3 + 0) + 1 + 10 * d + 300 < _; omega) | (show A.units + (3 + 0) + 3 + 10 * d + 300 < _; omega)
end
end Mine
open Sem (wp)
namespace Mine
noncomputable def forTg (s : Stmt) : PySem.Expr := (stPt s).2.2.2.2
noncomputable def iterFor : Stmt := stmtAt (defBody (workDef "iter")) 0
noncomputable def iterElt : PySem.Expr := argAt (stExpr (stmtAt (ifBody iterFor) 0)) 0
noncomputable def GS (L I : Addr) (sa s : Shared) : Prop := ∃ h tk, s = { sa with heap := h, toks := tk } /\ ∀ b o, b ≠ L -> b ≠ I -> sa.heap.get? b = some o -> h.get? b = some o
noncomputable def Yp (X L I : Addr) (l : List Rank) : Protocol := fun m sa v s kap =>
 (∃ y T t1 t2, l[l.length - 1 - m]? = some y /\ v = .ref T /\ s.heap.get? T = some { cls := .type "tuple", data := .seq (List.toArray [.int (-y.1) t1, .bytes y.2.toArray t2]) } /\ sa.heap.get? T = none /\ T ≠ I) /\ GS L I sa s /\ ((s.heap.get? L).isSome = true /\ (s.heap.get? I).isSome = true) /\
  ∀ s'', (∃ h tk g, s'' = { s with heap := h, toks := tk, gens := g }) -> (∀ b o, b ≠ X -> s.heap.get? b = some o -> s''.heap.get? b = some o) -> (s''.heap.get? X).isSome = true -> kap (.send .none) s''
noncomputable abbrev Rg (L I : Addr) : GenEnd := fun n sa r s₁ => r = .ok (.ret .none) /\ (n = 0 /\ GS L I sa s₁)
section
variable {K : Cf} {A : Around} {l : List Rank} {I X : Addr} {fp : List Addr} {PI : Nat -> Value -> Prop} {StI : Nat -> Heap -> Prop} {h1 : PH} {sI : Shared}
 {H : Value -> Sem Fin} {gd : Bool -> Bool} {lv : List Value -> List Value} {Kf : Flow -> Sem Fin} {b' : List Stmt} {p : Pos}
theorem gs_of {ρ : Rho} {mu : List Ent} {lo : List (Addr × Obj)} {sa s' : Shared} {hc hd : PH} {oX : Obj} (hs0 : ∃ h tk g, sa = { K.s₁ with heap := h, toks := tk, gens := g }) (hall : ∀ b o, b ≠ K.env.locals -> b ≠ I -> b ≠ X -> sa.heap.get? b = some o -> hc b = some o)
  (hX0 : sa.heap.get? X = some oX) (hle : hc.le hd) (S : (K.gpOf sa.gens).H ρ mu lo s' hd) (hXl : (X, oX) ∈ lo) : GS K.env.locals I sa s' := by
 refine o30 hs0 fun h0 tk0 g0 e0 => ?_
 refine o30 S.same fun h tk g e => ?_
 have hg : s'.gens = sa.gens := S.bare
 have hin : ∀ b o, hd b = some o -> s'.heap.get? b = some o := S.inn
 have hXs := (S.loose _ hXl).1
 refine ⟨s'.heap, tk, ?_, fun b o h1 h2 eb => ?_⟩
 ·rw [e] at hg ⊢
  rw [e0] at hg ⊢
  simp only at hg
  subst hg
  rfl
 ·by_cases hb : b = X
  ·subst hb
   rw [hX0] at eb; obtain rfl := Option.some.inj eb; exact hXs
  ·exact hin b o (hle _ _ (hall b o h1 h2 hb eb))
structure GInv (K : Cf) (h1 : PH) (I X : Addr) (StI : Nat -> Heap -> Prop) (j : Nat) (sa s : Shared) (hc : PH) (o oX : Obj) : Prop where
 s0 : ∃ h tk g, sa = { K.s₁ with heap := h, toks := tk, gens := g }
 all : ∀ b o, b ≠ K.env.locals -> b ≠ I -> b ≠ X -> sa.heap.get? b = some o -> hc b = some o
 x0 : sa.heap.get? X = some oX
 S : (K.gpOf sa.gens).H (fun _ => none) [] [(X, oX), (I, o)] s hc
 le : h1.le hc
 st : StI j s.heap
theorem gen_wakes {ρ : Rho} {sa s10 s'' : Shared} {h9 : PH} {o oX : Obj} {j : Nat} {its : Items} (hcell : ∀ x, K.env.kindOf x ≠ some .cell) (S : Src K.prog K.w K.w.params sI h1 I its fp PI StI) (hh : K.A.handled = none) (S10 : (K.gpOf sa.gens).H ρ [] [(X, oX), (I, o)] s10 h9) (le : h1.le h9) (st : StI j s10.heap)
  (same : ∃ h tk g, s'' = { s10 with heap := h, toks := tk, gens := g }) (k : ∀ b o, b ≠ X -> s10.heap.get? b = some o -> s''.heap.get? b = some o) (hXs : (s''.heap.get? X).isSome = true) : ∃ hc2 oX2, GInv K h1 I X StI j s'' s'' hc2 o oX2 := by
 refine o10 (Option.isSome_iff_exists.mp hXs) fun oX2 eX2 => ?_
 refine o01 (S10.loose (X, oX) (by simp)) fun eX9 ownX => ?_
 refine o01 (S10.loose (I, o) (by simp)) fun eI9 ownI => ?_
 have hIX : I ≠ X := fun e => by
  have := S10.nodup
  simp [e] at this
 have A1 : K.gpAny.H (fun _ => none) [] [(I, o)] s10 h9 := Cf.H.anyp (K := K.gpOf sa.gens) (Cf.H.dropHead (K := K.gpOf sa.gens) (p := (X, oX)) (lo := [(I, o)]) (Cf.H.weak (K := K.gpOf sa.gens) S10 (fun _ _ e => nomatch e) (fun e he => nomatch he)))
 have A2 : K.gpAny.H (fun _ => none) [] [(I, o)] s'' h9 := Cf.H.wake A1 same trivial k ownX.1 ownX.2.1 ownX.2.2 (all1 hIX)
 have A3 : (K.gpOf s''.gens).H (fun _ => none) [] [(I, o)] s'' h9 := Cf.H.regp (K := K.gpAny) A2
 let hc2 : PH := fun b => if b = K.env.locals \/ b = I \/ b = X then none else s''.heap.get? b
 have in2 : hc2.In s''.heap := fun b o e => by
  have e : (if b = K.env.locals \/ b = I \/ b = X then none else s''.heap.get? b) = some o := e
  split at e
  ·exact No.ns e
  ·exact e
 have at2 : ∀ b, b ≠ K.env.locals -> b ≠ I -> b ≠ X -> hc2 b = s''.heap.get? b := fun b h1 h2 h3 => if_neg fun h => h.elim h1 fun h => h.elim h2 h3
 have le2 : h9.le hc2 := fun b o e => by
  rw [at2 b (fun q => by rw [q, show h9 K.env.locals = none from A3.locout] at e; exact No.ns e) (fun q => by rw [q, ownI.1] at e; exact No.ns e) (fun q => by rw [q, ownX.1] at e; exact No.ns e)]
  exact A3.inn b o e
 have A4 : (K.gpOf s''.gens).H (fun _ => none) [] [(I, o)] s'' hc2 := Cf.H.raise A3 le2 in2 (if_pos (.inl rfl)) hcell (all1 (if_pos (.inr (.inl rfl))))
 have A5 : (K.gpOf s''.gens).H (fun _ => none) [] ([(I, o)] ++ [(X, oX2)]) s'' hc2 := Cf.H.addLoose A4 eX2 ⟨if_pos (.inr (.inr rfl)), ownX.2⟩ (by simp; exact fun h => hIX h.symm)
 exact ⟨hc2, oX2, A3.same, fun b o h1 h2 h3 e => (at2 b h1 h2 h3).trans e, eX2, Cf.H.perm A5 (List.Perm.swap _ _ _), le.trans le2, S.frame hh st (fun o' e => Option.some.inj (eI9.symm.trans e) ▸ k I o hIX eI9) (S10.inn.of_le le) (A4.inn.of_le (le.trans le2))⟩
theorem gen_elt {K : Cf} {y : Rank} {lo : List (Addr × Obj)} {hc : PH} {s7 : Shared} {Q : Value -> Shared -> Prop} {E : Value -> Shared -> Prop} (hk1 : kOk (K.env.kindOf "pr") = true) (hk2 : kOk (K.env.kindOf "cmt") = true) (EV : ∀ n, K.EV {} n)
  (S7 : K.H (bindT (forTg iterFor) ⟨.pair .int .byt, y⟩ fun _ => none) [] lo s7 hc)
  (h : ∀ T t1 t2 s9 s10 h9 ρ, K.H ρ [] lo s9 h9 -> s9.heap.get? T = none -> K.H ρ [] lo s10 h9 -> s10.heap.get? T = some { cls := .type "tuple", data := .seq (List.toArray [.int (-y.1) t1, .bytes y.2.toArray t2]) } -> hc.le h9 -> Q (.ref T) s10) : K.wp (eval iterElt K.env) Q E s7 := by
 refine wpAny_Tuple_spliced ?_
 show wpAny _ _ (spliced [(false, PySem.eval (argAt iterElt 0) K.env), (false, PySem.eval (argAt iterElt 1) K.env)]) _ _ _
 refine Calls.spliced_cons (StH.eval (n := 4) (U := {}) (EV 4) S7 (by walk_at "pk" <;> assumption) fun sj h8 vd Si leg re => ?_)
 show wpAny _ _ (spliced [(false, PySem.eval (argAt iterElt 1) K.env)]) _ _ _
 refine Calls.spliced_cons (StH.eval (n := 4) (U := {}) (EV 4) Si (by walk_at "pk" <;> assumption) fun sk h9 vh Sj leh rf => Calls.spliced_nil ?_)
 refine ⟨by rw [sizeLine_eq]; simp, ?_⟩
 refine o10 re fun kc e1 => ?_
 refine o10 rf fun kd e2 => ?_
 rw [e1, e2]
 exact h _ kc kd sk _ h9 _ Sj (free_size _) (Sj.step (Step.quiet Sj.inn ⟨_, _, rfl, fun _ _ e => Heap.get?_push_of_some _ e⟩)) (Heap.get?_push_size sk.heap rfl) (leg.trans leh)
theorem gen_loop (hK : K.env.scope.isCoroutine = false) (hint : interactive K.env = false) (hgd : gd false = false) (hk1 : kOk (K.env.kindOf "pr") = true) (hk2 : kOk (K.env.kindOf "cmt") = true) (hcell : ∀ x, K.env.kindOf x ≠ some .cell)
  (EV : ∀ n, K.EV {} n) (S : Src K.prog K.w K.w.params sI h1 I ⟨.pair .int .byt, l⟩ fp PI StI) (hKA : K.A = A.over (.forLoop (forTg iterFor) (.ref I) (ifBody iterFor) [] K.env) [backF K.env Kf H gd lv (.func b' K.env) p])
  (htg : tgtOk K.env [] (.pair .int .byt) (forTg iterFor) = true)
  (fin : ∀ sa s, GS K.env.locals I sa s -> Seg (model K.prog K.w) A (Rg K.env.locals I) (Yp X K.env.locals I l) 0 sa (.func b' K.env) (Kf .next) [] s) :
  ∀ (m j : Nat) (sa s : Shared) (hc : PH) (o oX : Obj), l.length - j = m -> j <= l.length -> GInv K h1 I X StI j sa s hc o oX ->
   Seg (model K.prog K.w) A (Rg K.env.locals I) (Yp X K.env.locals I l) m sa (.forLoop (forTg iterFor) (.ref I) (ifBody iterFor) [] K.env)
    ((model K.prog K.w).den (.forLoop (forTg iterFor) (.ref I) (ifBody iterFor) [] K.env)) [backF K.env Kf H gd lv (.func b' K.env) p] s := by
 intro m
 induction m with
 | zero =>
  intro j sa s hc o oX hm hj G
  have S5 := G.S
  have W := S.walks K.A S5.ao.handled
  show Seg _ _ _ _ _ _ _ ((forTurn (forTg iterFor) (.ref I) (ifBody iterFor) [] K.env).onRaise (fun x => do noteFrame x K.env; theTreesLotGoes x)) _ s
  rw [Sem.onRaise_eq_wrap]
  unfold forTurn
  refine seg_bind_wrap (wpAny_standAt ?_)
  refine seg_bind_wrap (wpAny_onRaise ?_)
  rw [hKA] at W
  refine W.done s _ _ (Nat.le_antisymm hj (Nat.sub_eq_zero_iff_le.mp hm) ▸ G.st) fun h' tk hk' => ?_
  refine seg_again rfl (seg_leaf (.ok .next) ?_)
  have S6 : (K.gpOf sa.gens).H (fun _ => none) [] [(X, oX)] { s with heap := h', toks := tk } hc := Cf.H.gone (lo := [(X, oX)]) (p := (I, o)) S5 ⟨_, _, rfl⟩ (fun b o hb e => hk' b o (by simpa using hb) e)
  exact fin sa _ (gs_of G.s0 G.all G.x0 PH.le.rfl S6 (List.mem_singleton.mpr rfl))
 | succ m ih =>
  intro j sa s hc o oX hm hj G
  have hlt : j < l.length := by lia
  have S5 := G.S
  have hh := S5.ao.handled
  have W := S.walks K.A hh
  show Seg _ _ _ _ _ _ _ ((forTurn (forTg iterFor) (.ref I) (ifBody iterFor) [] K.env).onRaise (fun x => do noteFrame x K.env; theTreesLotGoes x)) _ s
  rw [Sem.onRaise_eq_wrap]
  unfold forTurn
  refine seg_bind_wrap (wpAny_standAt ?_)
  refine seg_bind_wrap (wpAny_onRaise ?_)
  rw [hKA] at W
  refine W.item j s _ _ hlt G.st fun v h' tk hPI st' hk' => ?_
  refine Classical.byContradiction fun hno => ?_
  refine o11 (S.val j v hlt hPI) fun y hy ry => ?_
  refine o11 (S.plain _ _ st') fun oI' eI' _ => ?_
  have S6 : (K.gpOf sa.gens).H (fun _ => none) [] ([(X, oX)] ++ [(I, oI')]) { s with heap := h', toks := tk } hc := Cf.H.last (lo := [(X, oX)]) (p := (I, o)) S5 ⟨_, _, rfl⟩ (fun b o hb e => hk' b o (by simpa using hb) e) eI'
  refine hno (seg_bind_wrap (letGo_plain (s := { s with heap := h', toks := tk }) (S.plain _ _ st') ?_))
  clear hno
  refine seg_bind_wrap ?_
  rw [<- hKA]
  refine assignT (K := K.gpOf sa.gens) (t := .pair .int .byt) (y := y) S6 htg (ry.mono G.le) fun s7 S7 => ?_
  rw [Sem.bind_eq_wrap', Sem.wrap_wrap]
  show Seg _ _ _ _ _ _ _ ((execs (stmtAt (ifBody iterFor) 0 :: []) K.env).wrap _ _ _ _) _ _
  refine seg_execs_cons ?_
  refine seg_Expr_Yield (by rfl) (by rfl) (by simp [backF, Frame.guarded, hgd]) ?_ hK hint
  rw [<- hKA]
  refine gen_elt (K := K.gpOf sa.gens) hk1 hk2 EV S7 fun T t1 t2 s9 s10 h9 ρ S9 hT S10 hTO le9 => ?_
  intro kap hkap
  refine o21 (gs_of (I := I) G.s0 G.all G.x0 le9 S9 List.mem_cons_self) fun h9' tk9 e9 k9 => ?_
  have mI : (I, oI') ∈ [(X, oX)] ++ [(I, oI')] := List.mem_cons_of_mem _ List.mem_cons_self
  refine o41 S9.ns fun _ o' _ _ eL _ => ?_
  refine o41 S10.ns fun _ o2 _ _ eL2 _ => ?_
  have n1 : T ≠ K.env.locals := fun q => No.sn (((congrArg s9.heap.get? q).trans eL).symm.trans hT)
  have n2 : T ≠ I := fun q => No.sn (((congrArg s9.heap.get? q).trans (S9.loose _ mI).1).symm.trans hT)
  have hT0 : sa.heap.get? T = none := by
   generalize e : sa.heap.get? T = zz; induction zz with
   | none => rfl
   | some o =>
    have := k9 T o n1 n2 e
    rw [show h9' = s9.heap by rw [e9], hT] at this
    exact No.ns this
  refine ⟨⟨y, T, t1, t2, by rw [show l.length - 1 - m = j by lia]; exact hy, rfl, hTO, hT0, n2⟩, gs_of (I := I) G.s0 G.all G.x0 le9 S10 List.mem_cons_self, ⟨Option.isSome_iff_exists.mpr ⟨_, eL2⟩, Option.isSome_iff_exists.mpr ⟨_, (S10.loose _ mI).1⟩⟩, fun s'' same k hXs => hkap .none s'' ?_⟩
  show Seg _ _ _ _ _ _ _ ((execs [] K.env).wrap _ _ _ _) _ _
  have st10 : StI (j + 1) s10.heap := S.frame hh st' (fun o e => Option.some.inj (eI'.symm.trans e) ▸ (S10.loose _ mI).1) (S6.inn.of_le G.le) (S10.inn.of_le (G.le.trans le9))
  refine o20 (gen_wakes hcell S hh S10 (G.le.trans le9) st10 same k hXs) fun hc2 oX2 G2 => ?_
  exact seg_execs_nil (seg_again rfl (ih (j + 1) s'' s'' hc2 oI' oX2 (by lia) hlt G2))
end
end Mine
open Sem (wp)
namespace Mine
section
variable {prog : Program} {w : World} {A : Around} {s : Shared}
theorem next_gen {a : Addr} {g n : Nat} {gs : GenState} {L I X : Addr} {l : List Rank} {Q : Option Value -> Shared -> Prop} {E : Value -> Shared -> Prop} (hh : A.handled = none) (hl : s.heap.NoLimit) (hroom : A.depth < recursionLimit) (hg : s.heap.IsGen a g) (hgs : s.gens[g]? = some gs)
  (hgo : gs.Goes (model prog w) A.in1 (Rg L I) (Yp X L I l) n (.send .none) (s.setGen g .running))
  (hY : ∀ v s₁ gs', gs'.bare = true -> Yp X L I l (n - 1) (s.setGen g .running) v s₁ (fun r' s'' => match n with
    | 0 => False
    | m + 1 => gs'.Goes (model prog w) A.in1 (Rg L I) (Yp X L I l) m r' s'') -> Q (some v) (s₁.setGen g gs'))
  (hP : ∀ s₁, n = 0 -> GS L I (s.setGen g .running) s₁ -> ∀ h', (∀ b o, s₁.heap.get? b = some o -> h'.get? b = some o) -> Q none { s₁.setGen g .finished with heap := h' }) :
  wpAny (model prog w) A (pyNext (.ref a)) Q E s := by
 have wake : wpAny (model prog w) A.in1 (Builtin.Generator.genWake (.ref a) (.send .none)) (fun fin s' => ∃ v, fin = .done (.ret v) /\ Q (some v) s')
   (fun e s' => ∃ s₁ h' o, n = 0 /\ GS L I (s.setGen g .running) s₁ /\ (∀ b o, s₁.heap.get? b = some o -> h'.get? b = some o) /\ s' = { s₁.setGen g .finished with heap := h' } /\ (∃ x, e = .ref x /\ h'.get? x = some o /\ o.cls = .type "StopIteration")) s := by
  unfold Builtin.Generator.genWake
  refine wpAny_bind (wpAny_holding (wpAny_genNumber hg (wpAny_bind (wpAny_genState hgs ?_))))
  induction gs with
  | running => exact hgo.elim
  | finished => exact hgo.elim
  | _ =>
   refine wpAny_bind (wpAny_roomToWake hl hroom ?_)
   show wpAny _ A.in1 (.resume g (.send .none) [] _) _ _ s
   refine wpAny_resumeQ hgs hgo (fun x s₁ hx => ?_) (fun v s₁ gs' hb hv => wpAny_pure ⟨v, rfl, hY v s₁ gs' hb hv⟩)
   refine o02 hx ?_; rintro rfl h0 hp
   show wpAny _ A.in1 (newExc (.type "StopIteration") [] >>= _) _ _ _
   refine wpAny_bind ?_
   simp only [newExc, newTuple]
   refine wpAny_bind (wpAny_newObj_type ?_ (by size_fits))
   refine wpAny_bind (m := firstArgMember _ _) (wpAny_of_eq (a := Value.none) (by first | rfl | (simp only [firstArgMember]; rfl)) ?_)
   refine wpAny_newObj_type ?_ (by size_fits)
   simp only [raiseNew]
   refine wpAny_bind (wpAny_bind (wpAny_handled ?_))
   first | rw [show A.in1.handled = none from hh] | rw [hh]
   refine wpAny_throw ?_
   exact ⟨s₁, _, _, h0, hp, fun b o hb => Heap.get?_push_of_some _ (Heap.get?_push_of_some _ hb), rfl, _, rfl, Heap.get?_push_size _ rfl, rfl⟩
 unfold pyNext
 refine wpAny_bind (wpAny_attempt (wpAny_callSpecial?_slot (name := Str.ofString "__next__") hg.typeIs slot_gen_next
  (wpAny_call_entry slot_gen_next hg.typeIs entry_gen_next (wpAny_mono wake (fun fin s' ⟨v, e, q⟩ => ⟨v, e, wpAny_pure q⟩) fun e s' he => ?_) (args_gen_next _))))
 obtain ⟨s₁, h', o, h0, hp, k, rfl, x, rfl, hx, hc⟩ := he
 refine wpAny_bind (wpAny_isInstance (T := "StopIteration") (b := true) ⟨o, hx, hc⟩ isSubtype_stop ?_)
 exact wpAny_pure (hP s₁ h0 hp h' k)
end
end Mine
open Sem (wp)
namespace Mine
section
variable {K : Cf} {A : Around} {l : List Rank} {X x dx p : Addr} {s : Shared} {hc : PH}
theorem gen_fresh (hK : K.env.scope.isCoroutine = false) (hint : interactive K.env = false) (hks : kOk (K.env.kindOf "self") = true) (hk1 : kOk (K.env.kindOf "pr") = true) (hk2 : kOk (K.env.kindOf "cmt") = true) (hcell : ∀ x, K.env.kindOf x ≠ some .cell)
  (htg : tgtOk K.env [] (.pair .int .byt) (forTg iterFor) = true) (EV : ∀ n, K.EV {} n) (ao : AOk A (K.d + 1)) (S : K.gpAny.H (ofL [("self", ⟨.val, .ref x⟩)]) [] [] s hc) (W : WAt K.F s.heap x dx p) (rp : Rep K.w.params hc (.lst (.pair .int .byt)) l (.ref p))
  (hX : hc X = none) (hXs : (s.heap.get? X).isSome = true) (hXL : X ≠ K.env.locals) (hXc : ∀ x c, K.env.cells.lookup x = some c -> X ≠ c) :
  Seg (model K.prog K.w) A (Rg K.env.locals s.heap.objs.size) (Yp X K.env.locals s.heap.objs.size l) l.length s (.func (defBody (workDef "iter")) K.env) ((model K.prog K.w).den (.func (defBody (workDef "iter")) K.env)) [] s := by
 refine seg_func ?_
 show Seg _ _ _ _ _ _ _ ((execs (iterFor :: []) K.env).wrap _ _ _ _) _ _
 refine seg_execs_cons ?_
 show Seg _ _ _ _ _ _ _ ((exec (.For (forTg iterFor) (stExpr iterFor) (ifBody iterFor) [] _) K.env).wrap _ _ _ _) _ _
 refine o10 (Option.isSome_iff_exists.mp hXs) fun oX eX => ?_
 let L := K.env.locals
 let hc2 : PH := fun b => if b = L \/ b = X then none else s.heap.get? b
 have at2 : ∀ b, b ≠ L -> b ≠ X -> hc2 b = s.heap.get? b := fun b h1 h2 => if_neg fun h => h.elim h1 h2
 have in2 : hc2.In s.heap := fun b o e => by
  have e : (if b = L \/ b = X then none else s.heap.get? b) = some o := e
  split at e
  ·exact No.ns e
  ·exact e
 have le2 : hc.le hc2 := fun b o e => by
  rw [at2 b (fun q => by rw [q, show hc L = none from S.locout] at e; exact No.ns e) (fun q => by rw [q, hX] at e; exact No.ns e)]
  exact S.inn b o e
 have A1 : (K.gpOf s.gens).H (ofL [("self", ⟨.val, .ref x⟩)]) [] [] s hc := Cf.H.regp (K := K.gpAny) S
 have A2 : (K.gpOf s.gens).H (ofL [("self", ⟨.val, .ref x⟩)]) [] [] s hc2 := Cf.H.raise A1 le2 in2 (if_pos (.inl rfl)) hcell (fun p hp => nomatch hp)
 have A3 : (K.gpOf s.gens).H (ofL [("self", ⟨.val, .ref x⟩)]) [] [(X, oX)] s hc2 := Cf.H.addLoose A2 eX ⟨if_pos (.inr rfl), hXL, hXc⟩ (by simp)
 have A4 : ((K.gpOf s.gens).ar (A.over (.func (defBody (workDef "iter")) K.env) [])).H (ofL [("self", ⟨.val, .ref x⟩)]) [] [(X, oX)] s hc2 := Cf.H.ar A3 (ao_func ao)
 refine gen_for ?_ (fun _ => rfl)
 refine self_pq (K := (K.gpOf s.gens).ar (A.over (.func (defBody (workDef "iter")) K.env) [])) A4 W hks (by rfl) (by rfl) fun s3 S3 h3 => ?_
 refine o10 h3 ?_; rintro tk3 rfl
 refine src_list S3.inn (rp.mono le2) fun s4 fp PI StI hs4 st4 hI4 S4 => ?_
 intro pp
 refine o10 (Option.isSome_iff_exists.mp hI4) fun oI eI => ?_
 have B1 : ((K.gpOf s.gens).ar (A.over (.func (defBody (workDef "iter")) K.env) [])).H (ofL [("self", ⟨.val, .ref x⟩)]) [] [(X, oX)] s4 hc2 := S3.step st4
 have hIn : s4.heap.get? s.heap.objs.size = some oI := eI
 refine o02 (Cf.H.fresh S3 (free_size s.heap)) fun f1 f2 f3 => ?_
 have B2 : ((K.gpOf s.gens).ar (A.over (.func (defBody (workDef "iter")) K.env) [])).H (fun _ => none) [] ([(X, oX)] ++ [(s.heap.objs.size, oI)]) s4 hc2 :=
  Cf.H.weak (K := (K.gpOf s.gens).ar (A.over (.func (defBody (workDef "iter")) K.env) [])) (Cf.H.addLoose B1 hIn ⟨S4.fresh, f2, f3⟩ f1) (fun _ _ e => nomatch e) (fun e he => nomatch he)
 refine gen_loop (K := K.ar (A.over (.forLoop (forTg iterFor) (.ref s.heap.objs.size) (ifBody iterFor) [] K.env) [backF K.env _ _ _ _ (.func (defBody (workDef "iter")) K.env) pp])) hK hint (by rfl) hk1 hk2 hcell EV S4 rfl htg ?_ l.length 0 s s4 hc2 oI oX (Nat.sub_zero _) (Nat.zero_le _) ⟨S.same, fun b o h1 h2 h3 e => (at2 b h1 h3).trans e, eX,
  Cf.H.ar (K := (K.gpOf s.gens).ar (A.over (.func (defBody (workDef "iter")) K.env) [])) B2 (ao_loop ao), PH.le.rfl, S4.start⟩
 ·intro sa s' gs
  show Seg _ _ _ _ _ _ _ ((execs [] K.env).wrap _ _ _ _) _ _
  exact seg_execs_nil (seg_end (.ok (.ret .none)) ⟨rfl, rfl, gs⟩)
end
end Mine
open Sem (wp)
namespace Mine
noncomputable def genCf (prog : Program) (F : FA) (w : World) (d : Nat) (A : Around) (s : Shared) (X : Addr) (g : FuncData) : Cf :=
 ⟨prog, F, w, d, A.deeper (callEnvC (fdOf (workDef "iter") .none g) s.heap.objs.size F.wIter), callEnvC (fdOf (workDef "iter") .none g) s.heap.objs.size F.wIter, s, allBut s X, fun _ => True⟩
section
variable {prog : Program} {w : World} {A : Around} {F : FA} {s : Shared} {d : Nat} {x X : Addr}
theorem iter_wp {Q : Value -> Shared -> Prop} {E : Value -> Shared -> Prop} (ao : AOk A (d + 1)) (Fu : Funs F s.heap) (gd : Gd F (allBut s X)) (hXs : (s.heap.get? X).isSome = true)
  (h : ∀ g s' G, (∃ h tk, s' = { s with heap := h, toks := tk, gens := s.gens.push (.fresh (.func (defBody (workDef "iter")) (genCf prog F w d A s X g).env)) }) -> (∀ b o, s.heap.get? b = some o -> s'.heap.get? b = some o) -> s.heap.get? G = none -> G ≠ (genCf prog F w d A s X g).env.locals ->
   s'.heap.IsGen G s.gens.size -> (genCf prog F w d A s X g).H (ofL [("self", ⟨.val, .ref x⟩)]) [] [] s' (allBut s X) -> Q (.ref G) s') :
  wpAny (model prog w) A (call (.ref F.wIter) [.ref x]) Q E s := by
 refine o22 Fu.iter fun o g ho hd hcd => ?_
 have hs : ownScope (defScope (workDef "iter")) = true := by rfl
 have hn : ((["self"] : List Str).all fun n => (defScope (workDef "iter")).names.lookup n == some .local || (defScope (workDef "iter")).names.lookup n == some .cell) = true := by rfl
 have hbase := (gd _ allBut_in).1
 refine wpAny_call (codeAny_call_generator (fd := fdOf (workDef "iter") .none g) (by have := ao.depth; lia) ho hd (by rfl) (by rfl) rfl hcd ?_)
 refine (BindsTo.of_eq (s := s) (fd := fdOf (workDef "iter") .none g) (args := ⟨[.ref x], []⟩) (binds := (["self"] : List Str).zip [.ref x]) rfl) _ _ _ _ ?_
 refine wpAny_newFunctionEnv_cells (own_kind' hs) (fun y hy => .inl ?_) fun env he s₁ X1 => ?_
 ·rw [List.mem_singleton.mp hy]; rfl
 subst he
 have S : StH prog F w d (A.deeper (callEnvC (fdOf (workDef "iter") .none g) s.heap.objs.size F.wIter)) (callEnvC (fdOf (workDef "iter") .none g) s.heap.objs.size F.wIter) s (allBut s X) (fun _ => True) _ [] [] s₁ (allBut s X) :=
  frame_st (xs := [⟨.val, .ref x⟩]) (names := ["self"]) (vs := [.ref x]) [] ao.deeper gd trivial allBut_in PH.le.rfl (.cons rfl .nil) (fun p hp => nomatch hp) List.nodup_nil hs hn X1
 refine o21 X1.done ?_; rintro h' tk rfl old
 refine ⟨hbase.nolimit.keeps old, ?_⟩
 show Q (.ref h'.objs.size) _
 refine o41 S.ns fun oL oL1 _ _ eL _ => ?_
 refine h g _ h'.objs.size ⟨_, _, rfl⟩ (fun b o e => Heap.get?_push_of_some _ (old b o e)) ?_ (fun e => ?_) ⟨_, _, _, Heap.get?_push_size _ rfl, rfl, rfl, rfl⟩ ?_
 ·generalize e : s.heap.get? h'.objs.size = zz; induction zz with
  | none => rfl
  | some o => exact absurd (Heap.lt_size (old _ o e)) (Nat.lt_irrefl _)
 ·exact absurd e.symm (Nat.ne_of_lt (Heap.lt_size (h := h') eL))
 ·have S2 : (genCf prog F w d A s X g).H (ofL [("self", ⟨.val, .ref x⟩)]) [] [] _ (allBut s X) := Cf.H.weak (K := genCf prog F w d A s X g) S (fun y v e => e) (fun e he => nomatch he)
  refine Cf.H.wake (K := genCf prog F w d A s X g) (X := X) S2 ⟨_, _, _, rfl⟩ trivial (fun b o _ e => Heap.get?_push_of_some _ e) (by simp [allBut]) (fun e => ?_) (fun y c h => nomatch (show ([] : List (Str × Addr)).lookup y = some c from h)) (fun p hp => nomatch hp)
  have e : X = s.heap.objs.size := e
  refine o10 (Option.isSome_iff_exists.mp hXs) fun oX eX => ?_
  exact absurd e (Nat.ne_of_lt (Heap.lt_size eX))
end
end Mine
open Sem (wp)
namespace Mine
noncomputable def fdCl (f : Stmt) (cl : List (Str × Addr)) (g : FuncData) : FuncData := { fdOf f .none g with closure := cl }
noncomputable def inScope (sc : Scope) : Bool := sc.kind == .function && sc.names.all fun y => y.2 != .cell
structure ClosOk (sc : Scope) (cl : List (Str × Addr)) (h : Heap) : Prop where
 free : ∀ x, sc.names.lookup x = some .free -> (cl.lookup x).isSome = true
 inj : ∀ x y c, cl.lookup x = some c -> cl.lookup y = some c -> x = y
 alive : ∀ x c, cl.lookup x = some c -> (h.get? c).isSome = true
noncomputable def plCf (prog : Program) (F : FA) (w : World) (d : Nat) (A : Around) (gp : Array GenState -> Prop) (s : Shared) (h0 : PH) (fd : FuncData) (a : Addr) : Cf :=
 ⟨prog, F, w, d, A.deeper (callEnv fd s.heap.objs.size a), callEnv fd s.heap.objs.size a, s, h0, gp⟩
theorem frame_pl {prog : Program} {F : FA} {w : World} {d : Nat} {A : Around} {gp : Array GenState -> Prop} {s : Shared} {h₀ : Heap} {tk : Nat} {hc h0 : PH} {fd : FuncData} {a : Addr} {m : Str -> Option Value} (ρ : Rho)
  (ao : AOk A (d + 1)) (gd : Gd F h0) (hb : gp s.gens) (hI : hc.In s.heap) (hle : h0.le hc) (hs : inScope fd.scope = true) (hg : fd.globals = mainGlobals) (hbu : fd.builtins = builtinsNs) (hcl : ClosOk fd.scope fd.closure s.heap)
  (hns : h₀.Ns s.heap.objs.size m) (k : ∀ b o, s.heap.get? b = some o -> h₀.get? b = some o)
  (hρ : ∀ x v, ρ x = some v -> (fd.scope.names.lookup x = some .local /\ ∃ cv, m x = some cv /\ RepTV w.params hc v cv) \/
   (fd.scope.names.lookup x = some .free /\ (x == ("__classdict__" : Str)) = false /\ ∃ c cv, fd.closure.lookup x = some c /\ s.heap.IsCell c (some cv) /\ RepTV w.params hc v cv)) :
  (plCf prog F w d A gp s h0 fd a).H ρ [] [] { s with heap := h₀, toks := tk } hc := by
 unfold inScope at hs
 rw [Bool.and_eq_true, List.all_eq_true] at hs
 have hk : fd.scope.kind = .function := by simpa using hs.1
 refine ⟨⟨ao.deeper, ⟨hk, hg, hbu, fun x hx => ?_⟩, hcl.inj, gd, ⟨_, _, s.gens, rfl⟩, hb, hle, hI.keeps k, fun x v hx hv => ?_, ⟨m, hns⟩, hI.none (free_size _), fun x c h1 h2 => ?_, fun x c e => ?_⟩, (fun e he => nomatch he), (fun p hp => nomatch hp), by simp⟩
 ·rcases hx with hx | hx
  ·have := hs.2 (x, .cell) (lookup_mem hx)
   simp at this
  ·exact hcl.free x hx
 ·rcases hρ x v hv with ⟨h1, cv, h2, h3⟩ | ⟨h1, h4, c, cv, h2, h5, h3⟩
  ·exact ⟨cv, .inl ⟨h1, m, hns, h2⟩, h3⟩
  ·exact ⟨cv, .inr (.inr ⟨h1, h4, c, h2, h5.keeps k⟩), h3⟩
 ·have := hs.2 (x, .cell) (lookup_mem h1)
  simp at this
 ·refine o10 (Option.isSome_iff_exists.mp (hcl.alive x c e)) fun o e2 => ?_
  show (h₀.get? c).isSome = true
  rw [k _ _ e2]; rfl
end Mine
open Sem (wp)
namespace Mine
noncomputable def lcasDef : Stmt := topDef "_find_lcas"
noncomputable def hasDef : Stmt := ((defBody lcasDef).find? fun s => defName s == "_has_candidates").getD (.Pass default)
noncomputable abbrev Fl := List UInt8 -> Option Int
noncomputable def isCand (fl : Fl) (c : List UInt8) : Bool := match fl c with | none => false | some f => !(Builtin.bitAnd f 4 == 4)
noncomputable def hasC (l : List Rank) (fl : Fl) : Bool := l.any fun y => isCand fl y.2
noncomputable def HasAt (h : Heap) (fa : Addr) : Prop := ∃ o g cl c tk, h.get? fa = some o /\ o.data = .func (fdCl hasDef cl g) /\ h.CodeRec g.code g.qualname /\ ClosOk (defScope hasDef) cl h /\ cl.lookup ("_DNC" : Str) = some c /\ h.IsCell c (some (.int 4 tk))
section
variable {prog : Program} {w : World} {A : Around} {F : FA} {s : Shared} {d : Nat}
theorem letGo_gen {tg : PySem.Expr} {G : Addr} {v : Value} {g : Nat} {Q : Unit -> Shared -> Prop} {E : Value -> Shared -> Prop} (h : s.heap.IsGen G g) (hQ : Q () s) : wpAny (model prog w) A (letOwnedTupleGo tg (.ref G) v) Q E s := by
 refine o33 h ?_; rintro ⟨cls, dd, data, sl⟩ nm qn ho hcl hd _
 simp only at hcl hd
 subst hcl hd
 unfold letOwnedTupleGo
 rcases tg with ⟨⟩ <;> try exact wpAny_pure hQ
 all_goals
  rcases v with ⟨⟩ <;> try exact wpAny_pure hQ
  refine wpAny_bind (wpAny_load ho ?_)
  exact wpAny_pure hQ
theorem has_body {K : Cf} {wv : TV} {lo : List (Addr × Obj)} {fl : Fl} {c : List UInt8} {t : Int} {Q : Flow -> Shared -> Prop} {E : Value -> Shared -> Prop} (hk : ∀ x ∈ (["cmt", "cstates", "_DNC"] : List Str), kOk (K.env.kindOf x) = true) (EV : ∀ n, K.EV {} n) (TE : ∀ n, K.TE {} n)
  (S : K.S (ofL [("dt", ⟨.int, t⟩), ("cmt", ⟨.byt, c⟩), ("wlst", wv), ("cstates", ⟨.dct .int, fl⟩), ("_DNC", ⟨.int, (4 : Int)⟩)]) [] lo s)
  (hno : isCand fl c = false -> ∀ s', K.S (ofL [("dt", ⟨.int, t⟩), ("cmt", ⟨.byt, c⟩), ("wlst", wv), ("cstates", ⟨.dct .int, fl⟩), ("_DNC", ⟨.int, (4 : Int)⟩)]) [] lo s' -> Q .next s')
  (hyes : isCand fl c = true -> ∀ s' v hd, K.H (ofL [("dt", ⟨.int, t⟩), ("cmt", ⟨.byt, c⟩), ("wlst", wv), ("cstates", ⟨.dct .int, fl⟩), ("_DNC", ⟨.int, (4 : Int)⟩)]) [] lo s' hd -> v = .bool true -> Q (.ret v) s') :
  K.wp (execs (ifBody (stmtAt (defBody hasDef) 0)) K.env) Q E s := by
 refine o10 S ?_; clear S; rintro hc S
 refine st_cons (wpAny_If (wpAny_isTrue_Compare1 ?_ (by rfl)))
 refine name_g (K := K) (v := ⟨.byt, c⟩) (hk _ (by simp)) (by rfl) (by rfl) s hc S _ _ fun s1 h1 cv S1 _ r1 => ?_
 refine name_g (K := K) (v := ⟨.dct .int, fl⟩) (hk _ (by simp)) (by rfl) (by rfl) s1 h1 S1 _ _ fun s2 h2 dv S2 _ r2 => ?_
 refine o10 r1 ?_; rintro tk rfl
 refine o22 r2 ?_; rintro a g rfl od ra
 refine wpAny_in_of (knd := bytesKind K.prog K.w) (k := c) (by simp [bytesKind, isBytes]) od.1 (od.mapOf S2.inn) (wpAny_truthy_bool ?_)
 have S3 : K.H _ [] lo { s2 with toks := s2.toks + 1 } h2 := S2.step (Step.tok S2.inn _)
 rcases ra c with ⟨e1, e2⟩ | ⟨y, cy, e1, e2, ry⟩
 ·have e1 : fl c = none := e1
  rw [e2]
  exact st_nil (st_nil (hno (by simp [isCand, e1]) _ ⟨h2, S3⟩))
 ·have e1 : fl c = some y := e1
  rw [e2]
  have ev : ((fl c).getD 0) = y := by rw [e1]; rfl
  refine st_cons (st_if (K := K) (v := isCand fl c) ⟨h2, S3⟩ ?_ ?_ ?_)
  ·have := test_g (K := K) (ρ := ofL [("dt", ⟨.int, t⟩), ("cmt", ⟨.byt, c⟩), ("wlst", wv), ("cstates", ⟨.dct .int, fl⟩), ("_DNC", ⟨.int, (4 : Int)⟩)]) (mu := []) (lo := lo) (n := 8) (U := {}) (TE 8) (e := stExpr (stmtAt (ifBody (stmtAt (ifBody (stmtAt (defBody hasDef) 0)) 0)) 0)) (by
    walk_at "pk" <;> first | exact hk _ (by simp) | (show (fl c).isSome = true; rw [e1]; rfl))
   have e3 : tv 8 (see [] (ofL [("dt", ⟨.int, t⟩), ("cmt", ⟨.byt, c⟩), ("wlst", wv), ("cstates", ⟨.dct .int, fl⟩), ("_DNC", ⟨.int, (4 : Int)⟩)])) (stExpr (stmtAt (ifBody (stmtAt (ifBody (stmtAt (defBody hasDef) 0)) 0)) 0)) = isCand fl c := by
    show (!(Builtin.bitAnd ((fl c).getD 0) 4 == 4)) = isCand fl c
    simp [isCand, e1]
   rw [e3] at this
   exact this
  ·intro hb s4 S4
   refine st_cons (st_ret (K := K) (t := .bool) (y := true) S4 (pure_g (n := 3) (U := {}) (EV 3) (by walk_at "pk")) fun s5 hd v S5 r5 => ?_)
   exact hyes hb s5 v hd S5 r5
  ·intro hb s4 S4
   exact st_nil (st_nil (st_nil (hno hb s4 S4)))
end
end Mine
open Sem (wp)
namespace Mine
section
variable {prog : Program} {w : World} {A : Around} {F : FA} {s : Shared} {d : Nat}
theorem iter_nocell {env : Env} (h : env.scope = defScope (workDef "iter")) : ∀ x, env.kindOf x ≠ some .cell := fun x hx => by
 have h1 : ((defScope (workDef "iter")).names.all fun y => y.2 != .cell) = true := by rfl
 have h2 : (defScope (workDef "iter")).names.lookup x = some .cell := by rw [<- h]; exact hx
 have := List.all_eq_true.mp h1 _ (lookup_mem h2)
 simp at this
theorem has_nocell {env : Env} (h : env.scope = defScope hasDef) : ∀ x, env.kindOf x ≠ some .cell := fun x hx => by
 have h1 : ((defScope hasDef).names.all fun y => y.2 != .cell) = true := by rfl
 have h2 : (defScope hasDef).names.lookup x = some .cell := by rw [<- h]; exact hx
 have := List.all_eq_true.mp h1 _ (lookup_mem h2)
 simp at this
theorem bare_set {gens : Array GenState} {g : Nat} {y : GenState} (h : AllBare gens) (hy : y.bare = true) : AllBare (gens.setIfInBounds g y) := fun z hz => by
 refine o10 (Array.mem_iff_getElem.mp hz) fun i zz => o10 zz fun hi e => ?_
 have hi' : i < gens.size := by simpa using hi
 rw [Array.getElem_setIfInBounds hi'] at e
 split at e
 ·rw [<- e]; exact hy
 ·rw [<- e]; exact h _ (Array.getElem_mem hi')
theorem Cf.H.unregp {K : Cf} {ρ : Rho} {mu : List Ent} {lo : List (Addr × Obj)} {s : Shared} {hc : PH} {g : Array GenState} (S : (K.gpOf g).H ρ mu lo s hc) (h : K.gp g) : K.H ρ mu lo s hc := by
 have e : s.gens = g := S.bare
 have hb : K.gp s.gens := by rw [e]; exact h
 exact ⟨S.toFrm.gens hb, S.muts, S.loose, S.nodup⟩
noncomputable def GenOk (prog : Program) (w : World) (A : Around) (G gi Lg X : Addr) (l : List Rank) (If : Shared -> Addr) (j : Nat) (s : Shared) : Prop :=
 s.heap.IsGen G gi /\ ∃ gs, s.gens[gi]? = some gs /\ ∀ s'', (∃ h tk g, s'' = { s with heap := h, toks := tk, gens := g }) -> (∀ b o, b ≠ X -> s.heap.get? b = some o -> s''.heap.get? b = some o) -> (s''.heap.get? X).isSome = true ->
  gs.Goes (model prog w) A.in1 (Rg Lg (If s'')) (Yp X Lg (If s'') l) (l.length - j) (.send .none) s''
structure HD where
 prog : Program
 w : World
 F : FA
 d : Nat
 A : Around
 s : Shared
 cl : List (Str × Addr)
 g : FuncData
 fa : Addr
 x : Addr
 X : Addr
 Lg : Addr
 G : Addr
 gi : Nat
 l : List Rank
 fl : Fl
 oG : Obj
noncomputable abbrev HD.K (D : HD) : Cf := plCf D.prog D.F D.w (D.d + 2) D.A AllBare D.s (heapAll D.s) (fdCl hasDef D.cl D.g) D.fa
noncomputable def HD.hG (D : HD) : PH := (heapAll D.s).put D.G D.oG
noncomputable def HD.r (D : HD) : List (Str × TV) := [("wlst", ⟨.val, .ref D.x⟩), ("cstates", ⟨.dct .int, D.fl⟩), ("_DNC", ⟨.int, (4 : Int)⟩)]
structure HB (D : HD) : Prop where
 gd : Gd D.F (heapAll D.s)
 loc : D.K.env.locals = D.X
 lg : D.hG D.Lg = none
 lgX : D.Lg ≠ D.X
 lgG : D.Lg ≠ D.G
 cells : ∀ a, D.hG a = none -> ∀ y c, D.K.env.cells.lookup y = some c -> a ≠ c
 le : (heapAll D.s).le D.hG
structure HInv (D : HD) (If : Shared -> Addr) (j : Nat) (hc : PH) (s' : Shared) : Prop where
 jl : j <= D.l.length
 S : D.K.H (ofL D.r) [] [] s' hc
 le : D.hG.le hc
 lg : hc D.Lg = none
 ll : (s'.heap.get? D.Lg).isSome = true
 gen : GenOk D.prog D.w D.K.A D.G D.gi D.Lg D.X D.l If j s'
 it : (If = fun s'' => s''.heap.objs.size) \/ ∃ I, If = (fun _ => I) /\ hc I = none /\ (s'.heap.get? I).isSome = true /\ I ≠ D.Lg /\ I ≠ D.X
 no : ∀ y ∈ D.l.take j, isCand D.fl y.2 = false
structure HDr (D : HD) (I : Addr) (j : Nat) (hc : PH) (s1 : Shared) (gs' : GenState) (oL oI : Obj) (y : Rank) : Prop where
 S : D.K.H (ofL D.r) [] [] s1 hc
 le : D.hG.le hc
 lg : hc D.Lg = none
 I1 : hc I = none
 I2 : I ≠ D.Lg
 I3 : I ≠ D.X
 eL : s1.heap.get? D.Lg = some oL
 eI : s1.heap.get? I = some oI
 isG : s1.heap.IsGen D.G D.gi
 gs : s1.gens[D.gi]? = some gs'
 kap : ∀ s'', (∃ h tk g, s'' = { s1 with heap := h, toks := tk, gens := g }) -> (∀ b o, b ≠ D.X -> s1.heap.get? b = some o -> s''.heap.get? b = some o) -> (s''.heap.get? D.X).isSome = true ->
  gs'.Goes (model D.prog D.w) D.K.A.in1 (Rg D.Lg I) (Yp D.X D.Lg I D.l) (D.l.length - (j + 1)) (.send .none) s''
 hj : D.l[j]? = some y
 no : ∀ z ∈ D.l.take j, isCand D.fl z.2 = false
theorem same_via {a b c e : Shared} (h1 : ∃ h tk g, b = { a with heap := h, toks := tk, gens := g }) (h2 : ∃ h tk g, c = { a with heap := h, toks := tk, gens := g }) (h3 : ∃ h tk g, e = { c with heap := h, toks := tk, gens := g }) : ∃ h tk g, e = { b with heap := h, toks := tk, gens := g } := by
 refine o30 h1 ?_; rintro _ _ _ rfl
 refine o30 h2 ?_; rintro _ _ _ rfl
 refine o30 h3 ?_; rintro _ _ _ rfl
 exact ⟨_, _, _, rfl⟩
theorem old_none {h h' : Heap} {a : Addr} (k : ∀ b o, h.get? b = some o -> h'.get? b = some o) (n : h'.get? a = none) : h.get? a = none := by
 generalize e : h.get? a = zz; induction zz with
 | none => rfl
 | some o => rw [k a o e] at n; exact No.sn n
theorem ne_of_some {h : Heap} {a b : Addr} {o : Obj} (e : h.get? a = some o) (n : h.get? b = none) : b ≠ a := fun q => by rw [q, e] at n; exact No.sn n
theorem ne_of_live {h : Heap} {a b : Addr} (e : (h.get? a).isSome = true) (n : h.get? b = none) : b ≠ a := fun q => by rw [<- q, n] at e; exact No.ft e
section
variable {D : HD} {I : Addr} {j : Nat} {hc : PH} {s' s1 : Shared} {gs' : GenState} {oL oI : Obj} {y : Rank} {If : Shared -> Addr}
noncomputable def HD.h4 (D : HD) (I : Addr) (s1 : Shared) : PH := fun b => if b = D.X \/ b = D.Lg \/ b = I then none else s1.heap.get? b
theorem h4_of {b : Addr} (h1 : b ≠ D.X) (h2 : b ≠ D.Lg) (h3 : b ≠ I) : D.h4 I s1 b = s1.heap.get? b := if_neg fun h => h.elim h1 fun h => h.elim h2 h3
noncomputable abbrev HD.K2 (D : HD) (I : Addr) (s1 : Shared) : Cf := (D.K.gpOf s1.gens).at (D.h4 I s1)
theorem HB.cells' (B : HB D) (le : D.hG.le hc) {a : Addr} (ha : hc a = none) : ∀ y c, D.K.env.cells.lookup y = some c -> a ≠ c := B.cells a (by
 generalize e : D.hG a = zz; induction zz with
 | none => rfl
 | some o => rw [le a o e] at ha; exact No.sn ha)
theorem h_frozen (B : HB D) (R : HDr D I j hc s1 gs' oL oI y) : (D.K2 I s1).H (ofL D.r) [] [(D.Lg, oL), (I, oI)] s1 (D.h4 I s1) /\ hc.le (D.h4 I s1) := by
 have hX : hc D.X = none := B.loc ▸ R.S.locout
 have le4 : hc.le (D.h4 I s1) := fun b o e => by
  rw [h4_of (fun q => by rw [q, hX] at e; exact No.ns e) (fun q => by rw [q, R.lg] at e; exact No.ns e) (fun q => by rw [q, R.I1] at e; exact No.ns e)]
  exact R.S.inn b o e
 have in4 : (D.h4 I s1).In s1.heap := fun b o e => by
  unfold HD.h4 at e
  split at e
  ·exact No.ns e
  ·exact e
 have S5 : D.K.H (ofL D.r) [] [] s1 (D.h4 I s1) := Cf.H.raise R.S le4 in4 (if_pos (.inl B.loc)) (has_nocell rfl) (fun p hp => nomatch hp)
 have S6 : D.K.H (ofL D.r) [] [(D.Lg, oL)] s1 (D.h4 I s1) := Cf.H.addLoose (lo := []) S5 R.eL ⟨if_pos (.inr (.inl rfl)), by rw [B.loc]; exact B.lgX, B.cells' R.le R.lg⟩ (by simp)
 exact ⟨Cf.H.up (Cf.H.regp (Cf.H.addLoose S6 R.eI ⟨if_pos (.inr (.inr rfl)), by rw [B.loc]; exact R.I3, B.cells' R.le R.I1⟩ (by simp; exact R.I2))), le4⟩
theorem h_next {ρ : Rho} {s9 : Shared} {hd : PH} (B : HB D) (R : HDr D I j hc s1 gs' oL oI y) (le4 : hc.le (D.h4 I s1)) (S9 : (D.K2 I s1).H ρ [] [(D.Lg, oL), (I, oI)] s9 hd) (hρ : AllR ρ D.r) (hcand : isCand D.fl y.2 = false) : HInv D (fun _ => I) (j + 1) hd s9 := by
 have g9 : s9.gens = s1.gens := S9.bare
 have B1 : D.K.H ρ [] [(D.Lg, oL), (I, oI)] s9 hd := Cf.H.unregp (Cf.H.down (K := D.K.gpOf s1.gens) S9 ((B.le.trans R.le).trans le4) B.gd) R.S.bare
 refine o01 (B1.loose (D.Lg, oL) (by simp)) fun eL9 oL9 => ?_
 refine o01 (B1.loose (I, oI) (by simp)) fun eI9 oI9 => ?_
 have keep9 : ∀ b o, b ≠ D.X -> s1.heap.get? b = some o -> s9.heap.get? b = some o := fun b o hb e => by
  by_cases h1 : b = D.Lg
  ·rw [h1] at e ⊢
   rw [<- e, R.eL]; exact eL9
  ·by_cases h2 : b = I
   ·rw [h2] at e ⊢
    rw [<- e, R.eI]; exact eI9
   ·exact B1.inn b o (S9.le b o ((h4_of hb h1 h2).trans e))
 have hX : hc D.X = none := B.loc ▸ R.S.locout
 have hG := R.le _ _ (PH.put_self : D.hG D.G = some D.oG)
 refine o31 R.isG fun oG' a b e r => ?_
 exact ⟨(List.getElem?_eq_some_iff.mp R.hj).1, Cf.H.weak (Cf.H.dropHead (Cf.H.dropHead B1)) (ofL_le hρ) (fun e he => nomatch he), R.le.trans (le4.trans S9.le), oL9.1, Option.isSome_iff_exists.mpr ⟨_, eL9⟩,
  ⟨⟨oG', a, b, keep9 D.G oG' (fun q => by rw [q, hX] at hG; exact No.ns hG) e, r⟩, gs', by rw [g9]; exact R.gs, fun s'' same k'' hXl => R.kap s'' (same_via R.S.same S9.same same) (fun b o hb e => k'' b o hb (keep9 b o hb e)) hXl⟩,
  .inr ⟨I, rfl, oI9.1, Option.isSome_iff_exists.mpr ⟨_, eI9⟩, R.I2, R.I3⟩, fun z hz => by
   rw [List.take_add_one, R.hj] at hz
   rcases List.mem_append.mp hz with hz | hz
   ·exact R.no z hz
   ·rw [List.mem_singleton.mp hz]; exact hcand⟩
theorem h_item {T t1 t2 : Addr} {Q : Flow -> Shared -> Prop} {E E' : Value -> Shared -> Prop} (B : HB D) (R : HDr D I j hc s1 gs' oL oI y) (hT : s1.heap.get? T = some { cls := .type "tuple", data := .seq (List.toArray [.int (-y.1) t1, .bytes y.2.toArray t2]) }) (h1 : T ≠ D.X) (h2 : T ≠ D.Lg) (h3 : T ≠ I)
  (yes : ∀ s9 : Shared, (∃ h tk g, s9 = { D.s with heap := h, toks := tk, gens := g }) -> AllBare s9.gens -> (∀ b o, D.s.heap.get? b = some o -> s9.heap.get? b = some o) -> hasC D.l D.fl = true -> Q (.ret (.bool true)) s9)
  (no : ∀ s9 hd, HInv D (fun _ => I) (j + 1) hd s9 -> Q .next s9) : D.K.wp (assign (forTg (stmtAt (defBody hasDef) 0)) D.K.env (.ref T)) (fun _ s => D.K.wp (execs (ifBody (stmtAt (defBody hasDef) 0)) D.K.env) Q E s) E' s1 := by
 refine o01 (h_frozen B R) fun S7 le4 => ?_
 refine assignT (K := D.K2 I s1) (t := .pair .int .byt) (y := (-y.1, y.2)) S7 (by rfl) ⟨T, _, _, rfl, ⟨_, 0, (h4_of h1 h2 h3).trans hT, rfl, rfl⟩, ⟨t1, rfl⟩, ⟨t2, rfl⟩⟩ fun s8 S8 => ?_
 refine has_body (K := D.K2 I s1) (wv := ⟨.val, .ref D.x⟩) (fl := D.fl) (c := y.2) (t := -y.1) (lo := [(D.Lg, oL), (I, oI)]) (all3 (by rfl) (by rfl) (by rfl)) (fun n => (pv_sound user_none n).1) (fun n => (pv_sound user_none n).2) (Cf.S.to (K := D.K2 I s1) ⟨_, S8⟩ _ rfl rfl) (fun hcand s9 S9 => ?_) (fun hcand s9 v hd S9 hv => ?_)
 ·refine o10 S9 ?_; clear S9; rintro hd S9
  exact no s9 hd (h_next B R le4 S9 rfl hcand)
 ·rw [hv]
  have g9 : s9.gens = s1.gens := S9.bare
  exact yes s9 S9.same (by rw [g9]; exact R.S.bare) (fun b o e => S9.inn b o (S9.le b o (((B.le.trans R.le).trans le4) b o e))) (List.any_eq_true.mpr ⟨y, List.mem_of_getElem? R.hj, hcand⟩)
theorem h_turn {Q : Option Value -> Shared -> Prop} {E : Value -> Shared -> Prop} (B : HB D) (V : HInv D If j hc s')
  (item : ∀ I y s1 gs' oL oI T t1 t2, HDr D I j hc s1 gs' oL oI y -> s1.heap.get? T = some { cls := .type "tuple", data := .seq (List.toArray [.int (-y.1) t1, .bytes y.2.toArray t2]) } -> T ≠ D.X -> T ≠ D.Lg -> T ≠ I -> Q (some (.ref T)) s1)
  (fin : ∀ s4, hasC D.l D.fl = false -> D.K.H (ofL D.r) [] [] s4 hc -> Q none s4) : wpAny (model D.prog D.w) D.K.A (pyNext (.ref D.G)) Q E s' := by
 refine o01 V.gen fun isG' zz => o11 zz fun gs hgs hgo => ?_
 have S := V.S
 have hXlive : (s'.heap.get? D.X).isSome = true := by
  refine o41 S.ns fun _ o' _ _ e _ => ?_
  rw [<- B.loc, e]; rfl
 have hI : hc (If (s'.setGen D.gi .running)) = none /\ If (s'.setGen D.gi .running) ≠ D.Lg /\ If (s'.setGen D.gi .running) ≠ D.X := by
  rcases V.it with e | ⟨I', e, h1, h2, h3⟩
  ·rw [e]
   have hn : s'.heap.get? s'.heap.objs.size = none := free_size _
   exact ⟨S.inn.none hn, ne_of_live V.ll hn, ne_of_live hXlive hn⟩
  ·rw [e]
   exact ⟨h1, h3⟩
 have goes := hgo (s'.setGen D.gi .running) ⟨s'.heap, s'.toks, _, rfl⟩ (fun b o _ e => e) hXlive
 generalize If (s'.setGen D.gi .running) = I at hI goes
 have own : ∀ a ∈ [D.Lg, I], hc a = none /\ a ≠ D.K.env.locals /\ (∀ x c, D.K.env.cells.lookup x = some c -> a ≠ c) /\ a ∉ ([] : List Ent).map (·.a) ++ ([] : List (Addr × Obj)).map (·.1) := all2 ⟨V.lg, by rw [B.loc]; exact B.lgX, B.cells' V.le V.lg, by simp⟩ ⟨hI.1, by rw [B.loc]; exact hI.2.2, B.cells' V.le hI.1, by simp⟩
 refine next_gen (X := D.X) (L := D.Lg) (I := I) (l := D.l) (n := D.l.length - j) S.ao.handled S.cx.bas.nolimit (by have := S.ao.depth; lia) isG' hgs goes (fun v s1' gs' bare hv => ?_) (fun s1' h0 gsr h' kk => ?_)
 ·refine o03 hv ?_; clear hv; rintro ⟨y, T, t1, t2, hy, rfl, hT, hTf, hTI⟩ gsr ⟨hLl, hIl⟩ kap
  refine o21 gsr ?_; clear gsr; rintro h1 tk1 e1 k1
  have keepS : ∀ b o, b ∉ [D.Lg, I] -> s'.heap.get? b = some o -> s1'.heap.get? b = some o := fun b o hb e => by
   rw [e1]; exact k1 b o (fun e => hb (by simp [e])) (fun e => hb (by simp [e])) e
  refine o10 (Option.isSome_iff_exists.mp hXlive) fun oXs eXs => ?_
  have hX1 : s1'.heap.get? D.X = some oXs := keepS D.X oXs (by simp; exact ⟨fun e => B.lgX e.symm, fun e => hI.2.2 e.symm⟩) eXs
  have hlt : j < D.l.length := by
   rcases Nat.lt_or_ge j D.l.length with h1 | h1
   ·exact h1
   ·have := kap s1' ⟨_, _, _, rfl⟩ (fun _ _ _ e => e) (by rw [hX1]; rfl)
    rw [Nat.sub_eq_zero_of_le h1] at this
    exact this.elim
  rw [show D.l.length - j = D.l.length - (j + 1) + 1 by (first | lia | omega)] at kap hy
  refine o10 (Option.isSome_iff_exists.mp hLl) fun oL eL => ?_
  refine o10 (Option.isSome_iff_exists.mp hIl) fun oI eI => ?_
  have hG := V.le _ _ (PH.put_self : D.hG D.G = some D.oG)
  refine o31 isG' ?_; clear isG'; rintro oG' a b e r
  refine item I y _ gs' oL oI T t1 t2 ⟨Cf.H.outer (X := [D.Lg, I]) S (by rw [e1]; exact ⟨_, _, _, rfl⟩) (by rw [e1]; exact bare_set (bare_set S.bare rfl) bare) keepS own, V.le, V.lg, hI.1, hI.2.1, hI.2.2, eL, eI,
   ⟨oG', a, b, keepS D.G oG' (by
    simp only [List.mem_cons, List.not_mem_nil, or_false, not_or]
    exact ⟨fun e => B.lgG e.symm, fun e => by rw [e, hI.1] at hG; exact No.ns hG⟩) e, r⟩, ?_, fun s'' same k hX => kap s'' same k hX, ?_, V.no⟩ hT (fun q => ?_) (fun q => ?_) hTI
  ·have hsz := (Array.getElem?_eq_some_iff.mp hgs).1
   rw [e1]
   show ((s'.gens.setIfInBounds D.gi GenState.running).setIfInBounds D.gi gs')[D.gi]? = some gs'
   rw [Array.getElem?_setIfInBounds]
   simp [hsz]
  ·rw [<- hy]; congr 1; lia
  ·exact ne_of_some eXs (show s'.heap.get? T = none from hTf) q
  ·exact ne_of_live V.ll (show s'.heap.get? T = none from hTf) q
 ·refine o21 gsr ?_; clear gsr; rintro h1 tk1 e1 k1
  have hj2 := Nat.le_antisymm V.jl (by lia)
  have no := V.no
  rw [hj2, List.take_length] at no
  exact fin _ (List.any_eq_false.mpr fun y hy => by rw [no y hy]; simp) (Cf.H.outer (X := [D.Lg, I]) S (by rw [e1]; exact ⟨_, _, _, rfl⟩) (by rw [e1]; exact bare_set (bare_set S.bare rfl) rfl) (fun b o hb e => kk b o (by rw [e1]; exact k1 b o (fun e => hb (by simp [e])) (fun e => hb (by simp [e])) e)) own)
theorem h_loop {R : Result -> Shared -> Prop} (B : HB D) (V : HInv D If 0 hc s') (yes : ∀ s9 : Shared, (∃ h tk g, s9 = { D.s with heap := h, toks := tk, gens := g }) -> AllBare s9.gens -> (∀ b o, D.s.heap.get? b = some o -> s9.heap.get? b = some o) -> hasC D.l D.fl = true -> R (.ok (.ret (.bool true))) s9)
  (fin : ∀ s4 hd, hasC D.l D.fl = false -> D.K.H (ofL D.r) [] [] s4 hd -> R (.ok .next) s4) : codeAny (model D.prog D.w) D.K.A (.forLoop (forTg (stmtAt (defBody hasDef) 0)) (.ref D.G) (ifBody (stmtAt (defBody hasDef) 0)) [] D.K.env) R s' := by
 refine codeAny_forLoop_any (fun m s' => ∃ If j hc, m = D.l.length - j /\ HInv D If j hc s') (fun m s1 hI => ?_) D.l.length ⟨If, 0, hc, rfl, V⟩
 refine o31 hI ?_; clear hI; rintro If j hc hm V
 refine hid fun Q' E' hQ => ?_
 exact h_turn B V (fun I y s1 gs' oL oI T t1 t2 R h1 h2 h3 h4 => hQ _ _ (letGo_gen R.isG (h_item B R h1 h2 h3 h4 yes fun s9 hd V' => ⟨_, by have := (List.getElem?_eq_some_iff.mp R.hj).1; lia, _, _, _, rfl, V'⟩))) fun s4 hF S4 => hQ _ _ (wpAny_execs_nil (fin s4 _ hF S4))
end
theorem has_wp {hc : PH} {fa x dx p : Addr} {cv : Value} {l : List Rank} {fl : Fl} {Q : Value -> Shared -> Prop} {E : Value -> Shared -> Prop} (ao : AOk A (d + 3)) (B : Bas F s.heap) (Fu : Funs F s.heap) (hb : AllBare s.gens) (Hf : HasAt s.heap fa) (W : WAt F s.heap x dx p) (hI : hc.In s.heap)
  (rp : Rep w.params hc (.lst (.pair .int .byt)) l (.ref p)) (rc : Rep w.params hc (.dct .int) fl cv)
  (h : ∀ s', (∃ h tk g, s' = { s with heap := h, toks := tk, gens := g }) -> AllBare s'.gens -> (∀ b o, s.heap.get? b = some o -> s'.heap.get? b = some o) -> Q (.bool (hasC l fl)) s') : wpAny (model prog w) A (call (.ref fa) [.ref x, cv]) Q E s := by
 obtain ⟨o, g, cl, c, tk, ho, hd, hcd, hcl, hlk, hcell⟩ := Hf
 refine wpAny_call (codeAny_call_plain (fd := fdCl hasDef cl g) (binds := [("wlst", .ref x), ("cstates", cv)]) (by have := ao.depth; lia) ho hd B.nolimit hcd rfl (by rfl) (fun y hy => ?_) (fun y hy => ?_) (fun h₀ hns k => ?_) (by rfl) (by rfl) (by rfl))
 ·have h1 : ((defScope hasDef).names.all fun y => y.2 != .cell) = true := by rfl
  have := List.all_eq_true.mp h1 y hy
  simpa using this
 ·simp only [List.mem_cons, List.not_mem_nil, or_false] at hy
  rcases hy with rfl | rfl <;> rfl
 let s₁ : Shared := { s with heap := h₀, toks := s.toks + 2 }
 let ρ : Rho := ofL [("wlst", ⟨.val, .ref x⟩), ("cstates", ⟨.dct .int, fl⟩), ("_DNC", ⟨.int, (4 : Int)⟩)]
 let KC := plCf prog F w (d + 2) A AllBare s (heapAll s) (fdCl hasDef cl g) fa
 have hall : hc.le (heapAll s) := fun b o e => hI b o e
 have gd0 : Gd F (heapAll s) := gd_all B Fu (fun _ _ e => e)
 have S1 : KC.H ρ [] [] s₁ (heapAll s) := by
  refine frame_pl ρ ao gd0 hb (fun _ _ e => e) PH.le.rfl (by rfl) rfl rfl hcl hns k fun y v hv => ?_
  simp only [ρ, ofL] at hv
  split at hv
  ·subst_vars; obtain rfl := Option.some.inj hv
   exact .inl ⟨by rfl, _, rfl, rfl⟩
  ·split at hv
   ·subst_vars; obtain rfl := Option.some.inj hv
    exact .inl ⟨by rfl, _, rfl, rc.mono hall⟩
   ·split at hv
    ·subst_vars; obtain rfl := Option.some.inj hv
     exact .inr ⟨by rfl, by rfl, c, _, hlk, hcell, ⟨tk, rfl⟩⟩
    ·exact No.ns hv
 have X0 : s.heap.get? s.heap.objs.size = none := free_size _
 obtain ⟨X, hX⟩ : ∃ X, X = s.heap.objs.size := ⟨_, rfl⟩
 have hXL : KC.env.locals = X := hX.symm
 rw [<- hX] at X0
 have hXs1 : (s₁.heap.get? X).isSome = true := by
  refine o31 hns fun o' _ _ e _ => ?_
  rw [hX]
  show (h₀.get? s.heap.objs.size).isSome = true
  rw [e]; rfl
 have hallX : (heapAll s).le (allBut s₁ X) := fun b o e => by
  unfold allBut
  rw [if_neg (fun hb => by rw [hb] at e; exact absurd (X0.symm.trans e) (by simp))]
  exact k b o e
 have gdX : Gd F (allBut s₁ X) := fun h' i => gd0 h' (i.of_le hallX)
 have Fu1 : Funs F s₁.heap := Fu.keeps k
 have W1 : WAt F s₁.heap x dx p := W.keeps fun b o _ e => k b o e
 refine st_cons (K := KC) (wpAny_For (call_inst (by rfl) (by rfl) (by rfl) ?_) (fun _ => rfl))
 refine o11 (S1.sees "wlst" ⟨.val, .ref x⟩ (by rfl) (by rfl)) fun cw rd rw' => ?_
 have : cw = .ref x := rw'
 subst this
 refine wpAny_Name (rd.load S1.envOk.kind (fun pl => meth_iter Fu1 W1 ?_)) (by rfl)
 refine o22 (id Fu1.iter) fun oi gi' ei1 ei2 _ => ?_
 refine Calls.callWith_function (evalArgs_nil3 ⟨⟨ei1, ei2⟩, ?_⟩)
 have aoK : AOk KC.A (d + 2) := S1.ao
 refine iter_wp (d := d) (X := X) (aoK.mono (by lia)) Fu1 gdX hXs1 fun gg sb G same2 kd hG hGL isG SG => ?_
 refine wpAny_pyIter_gen isG ?_
 let KG := genCf prog F w d KC.A s₁ X gg
 have SG : KG.H _ [] [] sb (allBut s₁ X) := SG
 obtain ⟨Lg, hLg⟩ : ∃ Lg, Lg = KG.env.locals := ⟨_, rfl⟩
 obtain ⟨gi, hgi⟩ : ∃ gi, gi = s₁.gens.size := ⟨_, rfl⟩
 rw [<- hgi] at isG
 have hb2 : AllBare sb.gens := by
  refine o20 same2 fun h2 t2 e2 => ?_
  rw [e2]
  exact AllBare.push hb rfl
 have S2 : KC.H ρ [] [] sb (heapAll s) := Cf.H.outer (X := []) S1 (let ⟨h2, t2, e2⟩ := same2; ⟨h2, t2, _, e2⟩) hb2 (fun b o _ e => kd b o e) (fun a ha => nomatch ha)
 refine o31 (id isG) fun oG nmG qnG eG eG2 => ?_
 have hGs : s.heap.get? G = none := old_none k hG
 refine o02 (Cf.H.fresh S1 hG) fun fG1 fG2 fG3 => ?_
 have leG : (heapAll s).le ((heapAll s).put G oG) := PH.put_le hGs
 have hLg0 : s₁.heap.get? Lg = none := by rw [hLg]; exact free_size _
 have hLgG : Lg ≠ G := by rw [hLg]; exact fun e => hGL e.symm
 have hLgX : Lg ≠ X := ne_of_live hXs1 hLg0
 let D : HD := ⟨prog, w, F, d, A, s, cl, g, fa, x, X, Lg, G, gi, l, fl, oG⟩
 have hcGLg : D.hG Lg = none := (PH.put_ne hLgG).trans (old_none k hLg0)
 have BD : HB D := ⟨gd0, hXL, hcGLg, hLgX, hLgG, fun a ha y c' hy e => by
  refine o10 (Option.isSome_iff_exists.mp (hcl.alive y c' hy)) fun o' eo => ?_
  have := leG c' o' eo
  rw [<- e] at this
  exact No.ns (ha.symm.trans this), leG⟩
 have V0 : HInv D (fun s'' => s''.heap.objs.size) 0 D.hG sb := by
  refine ⟨Nat.zero_le _, Cf.H.freezeNew S2 eG hGs fG1 ⟨fG2, fG3⟩, PH.le.rfl, hcGLg, ?_, ⟨isG, .fresh (.func (defBody (workDef "iter")) KG.env), ?_, fun s'' same k'' hXs'' => ⟨rfl, ?_⟩⟩, .inl rfl, fun y hy => nomatch (show y ∈ [] from hy)⟩
  ·refine o41 SG.ns fun _ o' _ _ e _ => ?_
   exact Option.isSome_iff_exists.mpr ⟨_, by show sb.heap.get? Lg = _; rw [hLg]; exact e⟩
  ·refine o20 same2 fun h2 t2 e2 => ?_
   rw [e2]
   show (s₁.gens.push (GenState.fresh (Code.func (defBody (workDef "iter")) KG.env)))[gi]? = _
   rw [hgi]
   exact Array.getElem?_push_size
  ·have SG2 : KG.H _ [] [] s'' (allBut s₁ X) := Cf.H.wake (X := X) SG same trivial k'' (by simp [allBut]) (by rw [<- hLg]; exact fun e => hLgX e.symm) (fun y c h => nomatch (show ([] : List (Str × Addr)).lookup y = some c from h)) (fun p hp => nomatch hp)
   have W'' : WAt F s''.heap x dx p := W.keeps fun b o hb e => k'' b o (fun hb' => by rw [hb', X0] at e; exact No.ns e) (kd b o (k b o e))
   have := gen_fresh (K := KG) (A := KC.A.in1) (l := l) (X := X) (by rfl) (by rfl) (by rfl) (by rfl) (by rfl) (iter_nocell rfl) (by rfl) (fun n => (pv_sound user_none n).1) (AOk.in1 (aoK.mono (show d + 1 + 1 <= d + 2 from Nat.le_refl _))) SG2 W'' ((rp.mono hall).mono hallX) (by simp [allBut]) hXs'' (by rw [<- hLg]; exact fun e => hLgX e.symm) (fun y c h => nomatch (show ([] : List (Str × Addr)).lookup y = some c from h))
   rw [<- hLg] at this
   exact this
 refine h_loop BD V0 (fun s9 a b c e => by rw [e] at h; exact h s9 a b c) fun s4 hd hF S4 => ?_
 rw [hF] at h
 exact st_cons (K := KC) (st_ret (K := KC) (t := .bool) (y := false) ⟨hd, S4⟩ (pure_g (n := 3) (U := {}) (fun A env s hc ρ e C ok => (pv_sound user_none 3).1 A env s hc ρ e C ok) (by walk_at "pk")) fun s5 hd v S5 r5 => by
  rw [show v = .bool false from r5]
  exact h s5 S5.same S5.bare fun b o e => S5.inn b o (S5.le b o e))
end
end Mine
open Sem (wp)
namespace Mine
noncomputable def Kx (h base : Heap) (e : Addr) (fl : Value) : Prop :=
 ∃ oe vs T oT ts, h.get? e = some oe /\ oe.cls = .type "KeyError" /\ oe.data = .fields vs /\ vs[1]? = some (.ref T) /\ vs[2]? = some .none /\ base.get? T = none /\ T ≠ e /\ h.get? T = some oT /\ oT.data = .fields ts /\ ts[3]? = some fl
noncomputable def AirO (base : Heap) (l : List Env) (e : Addr) (h : Heap) : Prop := base.StaysIn h /\ base.get? e = none /\ h.FunFrames base l /\ Kx h base e .none
noncomputable def Air (base : Heap) (env : Env) (outer : List Env) (e : Addr) (h : Heap) : Prop :=
 base.StaysIn h /\ base.get? e = none /\ h.FunFrames base (env :: outer) /\ ∃ L fl, env.frame = some L /\ (fl = .none \/ fl = rawInt L) /\ Kx h base e fl
theorem AirO.here {base h : Heap} {env : Env} {outer : List Env} {e : Addr} (a : AirO base (env :: outer) e h) : Air base env outer e h :=
 let ⟨a1, a2, a3, a4⟩ := a
 let ⟨_, ⟨L, _, hf, _⟩, _⟩ := a3
 ⟨a1, a2, a3, L, .none, hf, .inl rfl, a4⟩
section
variable {M : Model} {A : Around} {E : Value -> Shared -> Prop} {s : Shared} {base : Heap} {env : Env} {outer : List Env} {e L : Addr}
theorem air_entry {oe : Obj} {vs : Array Value} {head : Value} {b : Bool} {Q : Unit -> Shared -> Prop} (hfr : A.frames = some (env :: outer)) (hl : s.heap.FunFrames base (env :: outer)) (hf : env.frame = some L)
  (he : s.heap.get? e = some oe) (hc : oe.cls = .type "KeyError") (hd : oe.data = .fields vs) (h1 : 1 < vs.size) (h2 : vs[2]? = some .none) (hk : base.StaysIn s.heap) (hen : base.get? e = none)
  (h : ∀ h', base.StaysIn h' -> h'.FunFrames base (env :: outer) -> Kx h' base e (rawInt L) -> s.heap.UpToSlots h' -> Q () { s with heap := h' }) :
  wpAny M A (do let a <- frameOf env; let pl <- entryPlaceOf L b; let x <- EntryCells.newEntry head a .none (rawInt L) .none pl; setField (.ref e) 1 x) Q E s := by
 have eout : e ∉ (env :: outer).filterMap (·.frame) := fun hm => by
  refine o01 (hl.mem hm) fun _ zz => o11 zz fun o ho hn => ?_
  rw [he] at ho; obtain rfl := Option.some.inj ho; exact hn vs hd
 refine wpAny_bind (wpAny_frameOf_fun hfr hl hf fun hB so => wpAny_bind (wpAny_entryPlaceOf fun pl hpl => ?_))
 refine o02 so fun _ so2 so3 => ?_
 have he1 : hB.get? e = some oe := (so2 e eout).trans he
 have k1 : base.StaysIn hB := fun b o hb => (so2 b fun hm => by rw [(hl.mem hm).1] at hb; exact No.ns hb).trans (hk b o hb)
 unfold EntryCells.newEntry newFields
 refine wpAny_bind (wpAny_newObj_type ?_ (hpl.sizeOk5 _ _ _ _ _))
 obtain ⟨oT, hoT⟩ : ∃ oT : Obj, oT = { cls := .type "traceback", dict := none, data := .fields ([head, .ref L, .none, rawInt L, .none] ++ (if pl.isEmpty then List.replicate 6 Value.none else pl)).toArray } := ⟨_, rfl⟩
 rw [<- hoT]
 have he2 : (hB.push oT).get? e = some oe := Heap.get?_push_of_some _ he1
 refine wpAny_setField he2 hd h1 ?_
 obtain ⟨T, hT⟩ : ∃ T, T = hB.objs.size := ⟨_, rfl⟩
 have hTn : hB.get? T = none := by rw [hT]; exact free_size _
 have hTe : T ≠ e := fun x => by rw [x, he1] at hTn; exact No.sn hTn
 have hT2 : (hB.push oT).get? T = some oT := by rw [hT]; exact Heap.get?_push_size _ (by rw [hoT]; rfl)
 rw [<- hT]
 have hd3 := Obj.data_mapFields hd (·.setIfInBounds 1 (Value.ref T))
 let h' := (hB.push oT).update e (Obj.mapFields (·.setIfInBounds 1 (Value.ref T)))
 have he3 : h'.get? e = some _ := Heap.get?_update_self _ he2 (Obj.isFreed_of_fields hd3)
 have other : ∀ b, b ≠ e -> h'.get? b = (hB.push oT).get? b := fun b hb => Heap.get?_update_other _ _ (Ne.symm hb)
 have keep : ∀ b o, b ≠ e -> hB.get? b = some o -> h'.get? b = some o := fun b o hb x => (other b hb).trans (Heap.get?_push_of_some _ x)
 have upto : s.heap.UpToSlots h' := fun b o hb hn => by
  refine o10 (so3 b o hb) fun sl hs => ?_
  exact ⟨sl, keep b _ (fun q => by rw [q, he] at hb; obtain rfl := Option.some.inj hb; exact hn vs hd) hs⟩
 refine h h' (fun b o hb => keep b o (fun q => by rw [q, hen] at hb; exact No.ns hb) (k1 b o hb)) (hl.of_keeps fun b o hb hn => let ⟨sl, x⟩ := upto b o hb hn; ⟨_, x, rfl⟩) ?_ upto
 refine ⟨_, _, T, oT, ([head, .ref L, .none, rawInt L, .none] ++ (if pl.isEmpty then List.replicate 6 Value.none else pl)).toArray, he3, (Obj.cls_mapFields _ _).trans hc, hd3, by simp [h1], ?_, ?_, hTe, (other T hTe).trans hT2, by rw [hoT], rfl⟩
 ·rw [Array.getElem?_setIfInBounds_ne (by decide)]; exact h2
 ·generalize x : base.get? T = zz; induction zz with
  | none => rfl
  | some o => have := k1 T o x; rw [hTn] at this; exact No.ns this
theorem air_set {fl x : Value} {T : Addr} {oe : Obj} {vs : Array Value} {Q : Unit -> Shared -> Prop} {oT : Obj} {ts : Array Value} (hl : s.heap.FunFrames base (env :: outer)) (hk : base.StaysIn s.heap)
  (he : s.heap.get? e = some oe) (hc : oe.cls = .type "KeyError") (hd : oe.data = .fields vs) (h1 : vs[1]? = some (.ref T)) (h2 : vs[2]? = some .none) (hTn : base.get? T = none) (hTe : T ≠ e) (hT : s.heap.get? T = some oT) (hdT : oT.data = .fields ts) (h3 : ts[3]? = some fl)
  (h : ∀ h', base.StaysIn h' -> h'.FunFrames base (env :: outer) -> Kx h' base e x -> s.heap.UpToSlots h' -> h'.get? e = some oe -> Q () { s with heap := h' }) : wpAny M A (setField (.ref T) 3 x) Q E s := by
 have sz : 3 < ts.size := (Array.getElem?_eq_some_iff.mp h3).1
 refine wpAny_setField hT hdT sz ?_
 have other : ∀ b, b ≠ T -> (s.heap.update T (Obj.mapFields (·.setIfInBounds 3 x))).get? b = s.heap.get? b := fun b hb => Heap.get?_update_other _ _ (Ne.symm hb)
 have upto : s.heap.UpToSlots (s.heap.update T (Obj.mapFields (·.setIfInBounds 3 x))) := fun b o hb hn =>
  ⟨o.slots, (other b fun q => by rw [q, hT] at hb; obtain rfl := Option.some.inj hb; exact hn ts hdT).trans hb⟩
 have he' := (other e (Ne.symm hTe)).trans he
 refine h _ (fun b o hb => (other b fun q => by rw [q, hTn] at hb; exact No.ns hb).trans (hk b o hb)) (hl.of_keeps fun b o hb hn => let ⟨sl, y⟩ := upto b o hb hn; ⟨_, y, rfl⟩) ?_ upto he'
 exact ⟨oe, vs, T, _, _, he', hc, hd, h1, h2, hTn, hTe, Heap.get?_update_self _ hT (Obj.isFreed_of_fields (Obj.data_mapFields hdT _)), Obj.data_mapFields hdT _, by simp [sz]⟩
theorem rawInt_ne {L : Addr} : (Value.none == rawInt L) = false := by simp [rawInt]
theorem air_note {Q : Unit -> Shared -> Prop} (hfr : A.frames = some (env :: outer)) (a : Air base env outer e s.heap) (h : ∀ h', Air base env outer e h' -> s.heap.UpToSlots h' -> Q () { s with heap := h' }) : wpAny M A (noteFrame (.ref e) env) Q E s := by
 obtain ⟨a1, a2, a3, L, fl, hf, hfl, oe, vs, T, oT, ts, he, hc, hd, h1, h2, hTn, hTe, hT, hdT, h3⟩ := id a
 unfold noteFrame
 simp only [hf]
 refine wpAny_bind (wpAny_field he hd h1 ?_)
 rw [if_pos (show (Value.ref T != Value.none) = true from by simp)]
 refine wpAny_bind (wpAny_field hT hdT h3 ?_)
 rcases hfl with rfl | rfl
 ·rw [if_neg (by rw [rawInt_ne]; simp)]
  refine wpAny_bind (air_set (env := env) (outer := outer) (x := .none) a3 a1 he hc hd h1 h2 hTn hTe hT hdT h3 fun h' b1 b2 b3 b4 b5 => ?_)
  exact air_entry (s := { s with heap := h' }) hfr b2 hf b5 hc hd (Array.getElem?_eq_some_iff.mp h1).1 h2 b1 a2 fun h'' c1 c2 c3 c4 => h h'' ⟨c1, a2, c2, L, _, hf, .inr rfl, c3⟩ (b4.trans c4)
 ·rw [if_pos (show (rawInt L == rawInt L) = true from by simp)]
  exact wpAny_pure (h _ a (.refl _))
theorem air_flight {Q : Unit -> Shared -> Prop} {fr : Option Addr} (hfr : fr = none \/ fr = env.frame) (a : Air base env outer e s.heap) (h : ∀ h', Air base env outer e h' -> (fr = none -> AirO base (env :: outer) e h') -> s.heap.UpToSlots h' -> Q () { s with heap := h' }) :
  wpAny M A (setFlight (.ref e) fr) Q E s := by
 obtain ⟨a1, a2, a3, L, fl, hf, hfl, oe, vs, T, oT, ts, he, hc, hd, h1, h2, hTn, hTe, hT, hdT, h3⟩ := a
 unfold setFlight
 refine wpAny_bind (wpAny_field he hd h1 ?_)
 rw [if_pos (show (Value.ref T != Value.none) = true from by simp)]
 refine air_set (env := env) (outer := outer) a3 a1 he hc hd h1 h2 hTn hTe hT hdT h3 fun h' b1 b2 b3 b4 b5 => h h' ⟨b1, a2, b2, L, _, hf, ?_, b3⟩ (fun q => ⟨b1, a2, b2, by rw [q] at b3; exact b3⟩) b4
 rcases hfr with rfl | rfl
 ·exact .inl rfl
 ·rw [hf]; exact .inr rfl
theorem air_leave {Q : Unit -> Shared -> Prop} (hfr : A.frames = some (env :: outer)) (a : Air base env outer e s.heap) (h : ∀ h', AirO base outer e h' -> s.heap.UpToSlots h' -> Q () { s with heap := h' }) : wpAny M A (leaving env (.ref e)) Q E s := by
 unfold leaving
 refine wpAny_bind (air_note hfr a fun h1 a1 u1 => ?_)
 refine air_flight (.inl rfl) a1 fun h2 _ a2 u2 => ?_
 refine o03 (a2 rfl) ?_; rintro b1 b2 ⟨_, _, b3⟩ b4
 exact h h2 ⟨b1, b2, b3, b4⟩ (u1.trans u2)
theorem air_noted (hfr : A.frames = some (env :: outer)) (a : Air base env outer e s.heap) (h : ∀ h', Air base env outer e h' -> s.heap.UpToSlots h' -> E (.ref e) { s with heap := h' }) : notedBy M A env E (.ref e) s :=
 air_note hfr a h
theorem air_back (a : Air base env outer e s.heap) (h : ∀ h', Air base env outer e h' -> s.heap.UpToSlots h' -> E (.ref e) { s with heap := h' }) : cameBackBy M A env E (.ref e) s := by
 obtain ⟨a1, a2, a3, L, fl, hf, hfl, oe, vs, T, oT, ts, he, hc, hd, h1, h2, hTn, hTe, hT, hdT, h3⟩ := id a
 unfold cameBackBy
 refine wpAny_bind (wpAny_field he hd h1 ?_)
 rw [if_neg (show ¬ ((Value.ref T == Value.none) = true) from by simp)]
 first
  | exact wpAny_bind (wpAny_pure (air_flight (.inr rfl) a fun h' b _ u => h h' b u))
  | exact air_flight (.inr rfl) a fun h' b _ u => h h' b u
theorem air_raise {α : Type} {pos : Pos} {Q : Flow -> Shared -> Prop} (hh : A.handled = some (.ref e)) (a : Air base env outer e s.heap) (h : ∀ h', Air base env outer e h' -> s.heap.UpToSlots h' -> E (.ref e) { s with heap := h' }) :
  wpAny M A (exec (.Raise none none pos) env) Q E s := by
 obtain ⟨a1, a2, a3, L, fl, hf, hfl, oe, vs, T, oT, ts, he, hc, hd, h1, h2, hTn, hTe, hT, hdT, h3⟩ := id a
 rw [arm_exec_Raise]
 refine wpAny_bind (wpAny_standAt ?_)
 simp only [Option.map]
 show wpAny M A (raiseStmt env none none) Q E s
 unfold raiseStmt
 refine wpAny_bind (wpAny_handled ?_)
 rw [hh]
 refine wpAny_bind (wpAny_rule ?_)
 refine wpAny_bind (wpAny_field he hd h1 ?_)
 rw [if_neg (show ¬ ((Value.ref T == Value.none) = true) from by simp)]
 first
  | exact wpAny_bind (wpAny_pure (wpAny_bind (air_flight (.inr rfl) a fun h' b _ u => wpAny_throw (h h' b u))))
  | exact wpAny_bind (air_flight (.inr rfl) a fun h' b _ u => wpAny_throw (h h' b u))
theorem air_made {h₀ : Heap} {Q : Unit -> Shared -> Prop} (hfr : A.frames = some (env :: outer)) (hf : env.frame = some L) (hk : base.StaysIn h₀) (hl : h₀.FunFrames base (env :: outer)) (x : Heap.NewExc h₀ s.heap e "KeyError")
  (h : ∀ h', AirO base outer e h' -> s.heap.UpToSlots h' -> Q () { s with heap := h' }) : wpAny M A (leaving env (.ref e)) Q E s := by
 refine o22 x.there fun oe t he hc hd => ?_
 have hk' : base.StaysIn s.heap := fun b o hb => x.keeps _ _ (hk b o hb)
 have hen : base.get? e = none := by
  generalize q : base.get? e = zz; induction zz with
  | none => rfl
  | some o => have := hk e o q; rw [x.new] at this; exact No.ns this
 unfold leaving noteFrame
 simp only [hf]
 refine wpAny_bind (wpAny_bind (wpAny_field he hd (x := .none) (by rfl) ?_))
 rw [if_neg (by decide)]
 refine air_entry (base := base) hfr (hl.of_keeps fun b o hb _ => ⟨o, x.keeps b o hb, rfl⟩) hf he hc hd (by simp) (by rfl) hk' hen fun h1 c1 c2 c3 c4 => ?_
 refine air_flight (s := { s with heap := h1 }) (base := base) (outer := outer) (.inl rfl) ⟨c1, hen, c2, L, _, hf, .inr rfl, c3⟩ fun h2 _ a2 u2 => ?_
 refine o03 (a2 rfl) ?_; rintro b1 b2 ⟨_, _, b3⟩ b4
 exact h h2 ⟨b1, b2, b3, b4⟩ (c4.trans u2)
end
end Mine
open Sem (wp)
namespace Mine
noncomputable def lamBody (e : PySem.Expr) : PySem.Expr := argAt e 0
noncomputable def lamParams (e : PySem.Expr) : Arguments := (exPt e).2.2.1
noncomputable def lamScope (e : PySem.Expr) : Scope := (exPt e).2.2.2.1
noncomputable def lamPos (e : PySem.Expr) : Pos := (exPt e).2.2.2.2
noncomputable def fdLam (lam : PySem.Expr) (cl : List (Str × Addr)) (g : FuncData) : FuncData :=
 { g with params := lamParams lam, body := .expr (lamBody lam), scope := lamScope lam, globals := mainGlobals, closure := cl, defaults := .none, kwdefaults := .none, builtins := builtinsNs }
noncomputable def LamAt (h : Heap) (fa : Addr) (lam : PySem.Expr) (cl : List (Str × Addr)) : Prop := ∃ o g, h.get? fa = some o /\ o.data = .func (fdLam lam cl g) /\ h.CodeRec g.code g.qualname /\ ClosOk (lamScope lam) cl h
structure SubLam (lam : PySem.Expr) (D x : Str) : Prop where
 body : ∃ p1 p2 p3, lamBody lam = .Subscript (.Name D p1) (.Name x p2) p3
 bind : ∀ cl g v, bindArgs (fdLam lam cl g) ⟨[v], []⟩ = pure [(x, v)]
 sc : inScope (lamScope lam) = true
 co : (lamScope lam).isCoroutine = false
 gen : (lamScope lam).isGenerator = false
 loc : (lamScope lam).names.lookup x = some .local
 fr : (lamScope lam).names.lookup D = some .free
 cd : (D == ("__classdict__" : Str)) = false
 db : (D == ("__debug__" : Str)) = false
 db' : (x == ("__debug__" : Str)) = false
noncomputable def FrOk (h : Heap) (l : List Env) : Prop := ∀ env ∈ l, env.scope.kind ≠ .module /\ ∃ L o, env.frame = some L /\ h.get? L = some o /\ ∀ vs, o.data ≠ .fields vs
noncomputable def baseOf (h : Heap) (l : List Env) : Heap := hideAll h (l.filterMap (·.frame))
theorem FrOk.fun {h : Heap} : ∀ {l : List Env} (as : List Addr), FrOk h l -> (∀ env ∈ l, ∀ a, env.frame = some a -> a ∈ as) -> h.FunFrames (hideAll h as) l
 | [], _, _, _ => trivial
 | env :: r, as, x, k => by
  refine o01 (x env List.mem_cons_self) fun hk zz => o22 zz fun L o hf ho hn => ?_
  exact ⟨hk, ⟨L, o, hf, hideAll_none _ (k env List.mem_cons_self L hf), ho, hn⟩, FrOk.fun as (fun e he => x e (List.mem_cons_of_mem _ he)) fun e he => k e (List.mem_cons_of_mem _ he)⟩
theorem FrOk.base {h : Heap} {l : List Env} (x : FrOk h l) : h.FunFrames (baseOf h l) l := x.fun _ fun env he a ha => List.mem_filterMap.mpr ⟨env, he, ha⟩
section
variable {prog : Program} {w : World} {A : Around} {F : FA} {s : Shared} {d : Nat}
theorem enter_lam {fa : Addr} {lam : PySem.Expr} {cl : List (Str × Addr)} {v : Value} {D x : Str} {R : Result -> Shared -> Prop} (hA : A.depth < recursionLimit) (B : s.heap.NoLimit) (La : LamAt s.heap fa lam cl) (Su : SubLam lam D x)
  (h : ∀ g h₀, h₀.Ns s.heap.objs.size (fun y => ([(x, v)] : List (Str × Value)).lookup y) -> (∀ b o, s.heap.get? b = some o -> h₀.get? b = some o) ->
   wpAny (model prog w) (A.deeper (callEnv (fdLam lam cl g) s.heap.objs.size fa)) (eval (lamBody lam) (callEnv (fdLam lam cl g) s.heap.objs.size fa)) (fun v s' => R (.ok (.ret v)) s')
    (fun e s' => wpAny (model prog w) (A.deeper (callEnv (fdLam lam cl g) s.heap.objs.size fa)) (leaving (callEnv (fdLam lam cl g) s.heap.objs.size fa) e) (fun _ s'' => R (.error e) s'') (fun e' s'' => R (.error e') s'') s')
    { s with heap := h₀, toks := s.toks + 1 }) : codeAny (model prog w) A (.call (.ref fa) ⟨[v], []⟩) R s := by
 refine o23 La fun o g ho hd hcd hcl => ?_
 have hsc := Su.sc
 unfold inScope at hsc
 rw [Bool.and_eq_true, List.all_eq_true] at hsc
 have hk : (lamScope lam).kind = .function := by simpa using hsc.1
 refine kla_callFunE (fd := fdLam lam cl g) hA ho hd Su.co Su.gen rfl hcd ?_
 rw [Su.bind]
 refine wpAny_pure (wpAny_newFunctionEnv (fun y hy => by simpa using hsc.2 y hy) (fun y hy => ?_) (fun h₀ hns hsb => ⟨B.fresh _ hsb, ?_⟩) hk)
 ·rw [List.mem_singleton.mp hy]; exact Su.loc
 ·exact kla_codeExpr (h g h₀ hns fun b o e => hsb.extBut b o (Nat.ne_of_lt (Heap.lt_size e)) (Heap.get?_push_of_some _ e))
theorem lam_frame {fa ca : Addr} {lam : PySem.Expr} {cl : List (Str × Addr)} {D x : Str} {dv kv : Value} {h₀ : Heap} {g : FuncData} (ao : AOk A (d + 1)) (B : Bas F s.heap) (Fu : Funs F s.heap) (Su : SubLam lam D x) (hcl : ClosOk (lamScope lam) cl s.heap)
  (hca : cl.lookup D = some ca) (hcell : s.heap.IsCell ca (some dv)) (hns : h₀.Ns s.heap.objs.size (fun y => ([(x, kv)] : List (Str × Value)).lookup y)) (kp : ∀ b o, s.heap.get? b = some o -> h₀.get? b = some o)
  {Q : Value -> Shared -> Prop} {E : Value -> Shared -> Prop} {p1 p2 p3 : Pos}
  (h : ∀ s', AOk (A.deeper (callEnv (fdLam lam cl g) s.heap.objs.size fa)) d -> (∃ tk, s' = { s with heap := h₀, toks := tk }) -> wpAny (model prog w) (A.deeper (callEnv (fdLam lam cl g) s.heap.objs.size fa)) (subscriptTail (.Name D p1) (.Name x p2) dv kv) Q E s') :
  wpAny (model prog w) (A.deeper (callEnv (fdLam lam cl g) s.heap.objs.size fa)) (eval (.Subscript (.Name D p1) (.Name x p2) p3) (callEnv (fdLam lam cl g) s.heap.objs.size fa)) Q E { s with heap := h₀, toks := s.toks + 1 } := by
 let KC := plCf prog F w d A (fun z => z = s.gens) s (heapAll s) (fdLam lam cl g) fa
 have S1 : KC.H (ofL [(x, ⟨.val, kv⟩), (D, ⟨.val, dv⟩)]) [] [] { s with heap := h₀, toks := s.toks + 1 } (heapAll s) := by
  refine frame_pl _ ao (gd_all B Fu (fun _ _ e => e)) rfl (fun _ _ e => e) PH.le.rfl Su.sc rfl rfl hcl hns kp fun y' v hv => ?_
  simp only [ofL] at hv
  split at hv
  ·rename_i e
   subst e; obtain rfl := Option.some.inj hv
   exact .inl ⟨Su.loc, kv, by simp, rfl⟩
  ·split at hv
   ·rename_i e
    subst e; obtain rfl := Option.some.inj hv
    exact .inr ⟨Su.fr, Su.cd, ca, dv, hca, hcell, rfl⟩
   ·exact No.ns hv
 have nx : x ≠ D := fun e => by
  have h1 := Su.loc; rw [e, Su.fr] at h1; cases h1
 refine o11 (S1.sees D ⟨.val, dv⟩ (by show kOk ((lamScope lam).names.lookup D) = true; rw [Su.fr]; rfl) (by simp [ofL, Ne.symm nx])) fun dv2 rd e2 => ?_
 refine o11 (S1.sees x ⟨.val, kv⟩ (by show kOk ((lamScope lam).names.lookup x) = true; rw [Su.loc]; rfl) (by simp [ofL])) fun kv2 rk e3 => ?_
 cases e2; cases e3
 exact Subscript_ (wpAny_Name (rd.load S1.envOk.kind (wpAny_Name (rk.load S1.envOk.kind (h _ S1.ao ⟨_, rfl⟩)) Su.db')) Su.db)
theorem sub_name {x : Str} {p2 : Pos} {o i : Value} : subscripted (.Name x p2) false o i = operate [o, i] (getItem o i) := rfl
theorem lam_gives {fa ca : Addr} {lam : PySem.Expr} {cl : List (Str × Addr)} {D x : Str} {hc : PH} {t : Ty} {f : List UInt8 -> Option t.den} {k : List UInt8} {y : t.den} {dv kv : Value} (ao : AOk A (d + 1)) (B : Bas F s.heap) (Fu : Funs F s.heap) (hI : hc.In s.heap)
  (La : LamAt s.heap fa lam cl) (Su : SubLam lam D x) (hca : cl.lookup D = some ca) (hcell : s.heap.IsCell ca (some dv)) (rd : Rep w.params hc (.dct t) f dv) (rk : Rep w.params hc .byt k kv) (hf : f k = some y) :
  Gives prog w A (call (.ref fa) [kv]) s hc t y := by
 intro Q E hQ
 refine wpAny_call (enter_lam (by have := ao.depth; lia) B.nolimit La Su fun g h₀ hns kp => ?_)
 refine o30 Su.body fun p1 p2 p3 hb => ?_
 rw [hb]
 refine o23 La fun _ _ _ _ _ hcl => ?_
 refine lam_frame ao B Fu Su hcl hca hcell hns kp fun s' ao' e' => ?_
 refine o10 e' ?_; rintro tk rfl
 refine o22 rd ?_; rintro a g rfl od ra
 refine o10 rk ?_; rintro kt rfl
 have hI' : hc.In h₀ := hI.keeps kp
 have hm := od.mapOf (prog := prog) hI'
 rcases ra k with ⟨e, _⟩ | ⟨y', cy, e1, e2, r⟩
 ·rw [show f k = none from e] at hf; exact No.ns hf
 ·rw [show f k = some y' from e1] at hf
  obtain rfl := Option.some.inj hf
  refine tail_any (s := { s with heap := h₀, toks := tk }) hm.typeIs slot_dict_getitem.lookup (wpAny_getItem_of (knd := bytesKind prog w) (k := k) (by simp [bytesKind, isBytes]) hm e2 (hQ _ hc _ ?_ r)) sub_name
  exact Step.quiet hI ⟨h₀, _, rfl, kp⟩
theorem lam_raises {fa ca : Addr} {lam : PySem.Expr} {cl : List (Str × Addr)} {D x : Str} {hc : PH} {t : Ty} {f : List UInt8 -> Option t.den} {k : List UInt8} {dv kv : Value} {l : List Env} {Q : Value -> Shared -> Prop} {E : Value -> Shared -> Prop} (ao : AOk A (d + 1)) (B : Bas F s.heap) (Fu : Funs F s.heap) (hI : hc.In s.heap)
  (La : LamAt s.heap fa lam cl) (Su : SubLam lam D x) (hca : cl.lookup D = some ca) (hcell : s.heap.IsCell ca (some dv)) (rd : Rep w.params hc (.dct t) f dv) (rk : Rep w.params hc .byt k kv) (hf : f k = none)
  (hfr : A.frames = some l) (hl : FrOk s.heap l) (hE : ∀ e h' tk, AirO (baseOf s.heap l) l e h' -> s.heap.UpToSlots h' -> E (.ref e) { s with heap := h', toks := tk }) :
  wpAny (model prog w) A (call (.ref fa) [kv]) Q E s := by
 refine wpAny_call (enter_lam (by have := ao.depth; lia) B.nolimit La Su fun g h₀ hns kp => ?_)
 refine o30 Su.body fun p1 p2 p3 hb => ?_
 rw [hb]
 refine o23 La fun _ _ _ _ _ hcl => ?_
 refine lam_frame ao B Fu Su hcl hca hcell hns kp fun s' ao' e' => ?_
 refine o10 e' ?_; rintro tk rfl
 refine o22 rd ?_; rintro a g' rfl od ra
 refine o10 rk ?_; rintro kt rfl
 have hI' : hc.In h₀ := hI.keeps kp
 have hm := od.mapOf (prog := prog) hI'
 have hlow := od.1
 rcases ra k with ⟨_, e⟩ | ⟨y', cy, e1, e2, r⟩
 ·refine tail_any (s := { s with heap := h₀, toks := tk }) hm.typeIs slot_dict_getitem.lookup (wpAny_getItem_missing_of (knd := bytesKind prog w) (k := k) (by simp [bytesKind, isBytes]) hlow ao'.handled hm e fun h' e' nx => ?_) sub_name
  have hL0 : s.heap.get? s.heap.objs.size = none := free_size _
  have kb : (baseOf s.heap l).StaysIn h₀ := fun b o hb => kp b o (of_hideAll _ hb)
  have hns' := hns
  refine o32 hns' fun oL es ep eL dL _ => ?_
  refine air_made (s := { s with heap := h', toks := tk + 1 }) (base := baseOf s.heap l) (L := s.heap.objs.size) (outer := l) (h₀ := h₀) (by show A.frames.map _ = _; rw [hfr]; rfl) rfl kb ⟨?_, ⟨_, oL, rfl, ?_, eL, fun vs q => by rw [dL] at q; cases q⟩, ?_⟩ nx fun h'' a1 u1 => hE e' h'' _ a1 fun b o hb hn => ?_
  ·show (lamScope lam).kind ≠ .module
   have hsc := Su.sc
   unfold inScope at hsc
   rw [Bool.and_eq_true] at hsc
   have hk : (lamScope lam).kind = .function := by simpa using hsc.1
   rw [hk]; exact nofun
  ·generalize q : (baseOf s.heap l).get? s.heap.objs.size = zz; induction zz with
   | none => rfl
   | some o => have := of_hideAll _ q; rw [hL0] at this; exact No.ns this
  ·exact hl.base.of_keeps fun b o hb _ => ⟨o, kp b o hb, rfl⟩
  ·exact u1 b o (nx.keeps b o (kp b o hb)) hn
 ·rw [show f k = some y' from e1] at hf; exact No.sn hf
end
end Mine
open Sem (wp)
namespace Mine
noncomputable def CodeIn (hc : PH) (v : Value) (q : Str) : Prop := ∃ c oc vs t, v = .ref c /\ hc c = some oc /\ oc.data = .fields vs /\ vs[1]? = some (.str q t)
theorem CodeIn.mk {hc : PH} {c : Addr} {oc : Obj} {vs : Array Value} {n : Str} {t : Nat} (h : hc c = some oc) (d : oc.data = .fields vs) (e : vs[1]? = some (.str n t)) : CodeIn hc (.ref c) n := ⟨c, oc, vs, t, rfl, h, d, e⟩
theorem CodeIn.mono {hc hd : PH} {v : Value} {q : Str} (x : CodeIn hc v q) (k : hc.le hd) : CodeIn hd v q := o42 x fun c oc vs t a b r => ⟨c, oc, vs, t, a, k _ _ b, r⟩
theorem CodeIn.rec {hc : PH} {h : Heap} {v : Value} {q : Str} (x : CodeIn hc v q) (k : hc.In h) : h.CodeRec v q := o42 x fun c oc vs t a b r => ⟨c, oc, vs, t, a, k _ _ b, r⟩
noncomputable def LamIn (hc : PH) (f : Addr) (lam : PySem.Expr) (cl : List (Str × Addr)) : Prop := ∃ o g, hc f = some o /\ o.data = .func (fdLam lam cl g) /\ CodeIn hc g.code g.qualname
theorem LamIn.mono {hc hd : PH} {f : Addr} {lam : PySem.Expr} {cl : List (Str × Addr)} (x : LamIn hc f lam cl) (k : hc.le hd) : LamIn hd f lam cl := o22 x fun o g a b c => ⟨o, g, k _ _ a, b, c.mono k⟩
theorem LamIn.at {hc : PH} {h : Heap} {f : Addr} {lam : PySem.Expr} {cl : List (Str × Addr)} (x : LamIn hc f lam cl) (k : hc.In h) (c : ClosOk (lamScope lam) cl h) : LamAt h f lam cl :=
 o22 x fun o g a b d => ⟨o, g, k _ _ a, b, d.rec k, c⟩
theorem clos_one {sc : Scope} {D : Str} {c : Addr} {h : Heap} (hsc : (sc.names.all fun y => y.2 != .free || y.1 == D) = true) (ha : (h.get? c).isSome = true) : ClosOk sc [(D, c)] h where
 free := fun x hx => by
  have := List.all_eq_true.mp hsc (x, .free) (lookup_mem hx)
  simp at this
  subst this
  simp
 inj := fun x y c' h1 h2 => by
  have h3 := lookup_mem h1
  have h4 := lookup_mem h2
  simp at h3 h4
  rw [h3.1, h4.1]
 alive := fun x c' h1 => by
  have h3 := lookup_mem h1
  simp at h3
  rw [h3.2]; exact ha
noncomputable abbrev Sites := List (Pos × Str)
noncomputable def Sites.ok (q : Sites) : Prop := ∀ a ∈ q, ∀ b ∈ q, a.1.line = b.1.line -> a.1.col = b.1.col -> a.2 = b.2
noncomputable def TabFor (hc : PH) (q : Sites) (ps : Array Value) : Prop := TriplesOk ps.toList /\ ∀ a ∈ q, codeAmong a.1 ps.toList = none \/ ∃ c, codeAmong a.1 ps.toList = some c /\ CodeIn hc c a.2
theorem TabFor.mono {hc hd : PH} {q : Sites} {ps : Array Value} (x : TabFor hc q ps) (k : hc.le hd) : TabFor hd q ps := ⟨x.1, fun a ha => (x.2 a ha).imp id fun ⟨c, b, d⟩ => ⟨c, b, d.mono k⟩⟩
theorem tabFor_nil {hc : PH} {q : Sites} : TabFor hc q #[] := ⟨trivial, fun _ _ => .inl rfl⟩
theorem codeAmong_app {pos p : Pos} {c : Value} : ∀ (l : List Value), TriplesOk l -> codeAmong pos (l ++ [rawInt p.line, rawInt p.col, c]) = (codeAmong pos l).or (if p.line = pos.line /\ p.col = pos.col then some c else none)
 | [], _ => by
  show (if (p.line : Int) == pos.line && (p.col : Int) == pos.col then some c else codeAmong pos []) = _
  by_cases h : p.line = pos.line /\ p.col = pos.col
  ·rw [if_pos (by simp [h.1, h.2]), if_pos h]; rfl
  ·rw [if_neg (by simp only [Bool.and_eq_true, beq_iff_eq]; exact fun ⟨a, b⟩ => h ⟨by lia, by lia⟩), if_neg h]; rfl
 | .int _ _ :: .int _ _ :: v :: r, h => by
  simp only [List.cons_append, codeAmong]
  split
  ·rfl
  ·exact codeAmong_app r h
theorem triples_app {p : Pos} {c : Value} : ∀ (l : List Value), TriplesOk l -> TriplesOk (l ++ [rawInt p.line, rawInt p.col, c])
 | [], _ => trivial
 | .int _ _ :: .int _ _ :: v :: r, h => triples_app r h
theorem TabFor.snoc {hc hd : PH} {q : Sites} {ps : Array Value} {p : Pos} {n : Str} {c : Value} (x : TabFor hc q ps) (k : hc.le hd) (ok : q.ok) (hp : (p, n) ∈ q) (hn : codeAmong p ps.toList = none) (hc' : CodeIn hd c n) :
  TabFor hd q (ps ++ #[rawInt p.line, rawInt p.col, c]) := by
 have e : (ps ++ #[rawInt p.line, rawInt p.col, c]).toList = ps.toList ++ [rawInt p.line, rawInt p.col, c] := by simp
 refine ⟨by rw [e]; exact triples_app _ x.1, fun a ha => ?_⟩
 rw [e, codeAmong_app _ x.1]
 rcases x.2 a ha with h | ⟨c', h, r⟩
 ·rw [h]
  by_cases hh : p.line = a.1.line /\ p.col = a.1.col
  ·rw [if_pos hh]
   refine .inr ⟨c, rfl, ?_⟩
   rw [<- ok (p, n) hp a ha hh.1 hh.2]; exact hc'
  ·rw [if_neg hh]; exact .inl rfl
 ·rw [h]; exact .inr ⟨c', rfl, r.mono k⟩
section
variable {K : Cf} {ρ : Rho} {mu : List Ent} {lo : List (Addr × Obj)} {s s' : Shared} {hc hd : PH}
theorem Cf.H.loSet {i : Nat} {p : Addr × Obj} {o' : Obj} (S : K.H ρ mu lo s hc) (hi : lo[i]? = some p) (same : ∃ h tk, s' = { s with heap := h, toks := tk }) (k : ∀ b o, b ≠ p.1 -> s.heap.get? b = some o -> s'.heap.get? b = some o) (ho : s'.heap.get? p.1 = some o') :
  K.H ρ mu (lo.set i (p.1, o')) s' hc := by
 have hmem := List.mem_of_getElem? hi
 have own := (S.loose p hmem).2
 have nd := List.nodup_append.mp S.nodup
 refine Cf.H.changeX S (all1 own) same (fun b o hb e => k b o (fun q => hb (List.mem_singleton.mpr q)) e) (fun e he => ?_) (set_all (f := Prod.fst) nd.2.1 hi ⟨ho, own⟩ fun z hz hne => ?_) (by rw [set_map (f := Prod.fst) (y := (p.1, o')) hi rfl]; exact S.nodup)
 ·refine o01 (S.muts e he) ?_; rintro ⟨o, h1, h2⟩ h3
  exact ⟨⟨o, k _ _ (nd.2.2 e.a (List.mem_map.mpr ⟨e, he, rfl⟩) p.1 (List.mem_map.mpr ⟨p, hmem, rfl⟩)) h1, h2⟩, h3⟩
 ·refine o01 (S.loose z hz) fun h1 h2 => ?_
  exact ⟨k _ _ hne h1, h2⟩
theorem Cf.H.putNew {i : Nat} {p : Addr × Obj} {o' oT : Obj} {T : Addr} (S : K.H ρ mu lo s hc) (hi : lo[i]? = some p) (S1 : K.H ρ mu (lo.set i (p.1, o')) s' hd) (e : s'.heap.get? T = some oT) (hT : hd T = none) (hf : s.heap.get? T = none) : K.H ρ mu (lo.set i (p.1, o')) s' (hd.put T oT) := by
 refine o01 (Cf.H.fresh S hf) fun f1 f2 => ?_
 exact Cf.H.freezeNew S1 e hT (by rw [set_map (f := Prod.fst) (y := (p.1, o')) hi rfl]; exact f1) f2
theorem ge_free {h : Heap} {a : Addr} (k : h.objs.size <= a) : h.get? a = none := Heap.get?_none_of_le k
theorem bmain_at {h : Heap} {P : Addr} {ps : Array Value} (B : BMain h) (hP : h.get? P = some (tabObj ps)) : ∃ mg, h.Ns mainGlobals mg /\ h.BuiltinsAt mg P /\ mainGlobals ≠ P := by
 obtain ⟨mg, bm, ob, hg, b1, b2, b3, b4, b5, b6⟩ := B
 refine ⟨mg, hg, ⟨bm, ob, b1, b2, fun q => ?_, fun q => ?_, b3, b4, b5, b6⟩, fun q => ?_⟩
 ·refine o32 hg fun o es ep e hd _ => ?_
  rw [q, e] at b3; obtain rfl := Option.some.inj b3; rw [hd] at b6; cases b6
 ·rw [q, hP] at b3; obtain rfl := Option.some.inj b3; cases b4
 ·refine o32 hg fun o es ep e hd _ => ?_
  rw [q, hP] at e; obtain rfl := Option.some.inj e; cases hd
theorem Cf.H.madeHit {i : Nat} {P : Addr} {oP oF : Obj} {h' : Heap} {tk : Nat} (S : K.H ρ mu lo s hc) (hi : lo[i]? = some (P, oP)) (k : ∀ b o, s.heap.get? b = some o -> h'.get? b = some o) (hsz : s.heap.objs.size <= h'.objs.size) (nf : oF.isFreed = false) :
  K.H ρ mu (lo.set i (P, oP)) { s with heap := h'.push oF, toks := tk } (hc.put h'.objs.size oF) /\ hc.le (hc.put h'.objs.size oF) := by
 have fn : hc h'.objs.size = none := S.inn.none (ge_free hsz)
 exact ⟨Cf.H.putNew S hi (Cf.H.loSet S hi ⟨_, _, rfl⟩ (fun b o _ e => Heap.get?_push_of_some _ (k b o e)) (Heap.get?_push_of_some _ (k _ _ (S.loose _ (List.mem_of_getElem? hi)).1))) (Heap.get?_push_size _ nf) fn (ge_free hsz), PH.put_le fn⟩
theorem Cf.H.madeNew {i : Nat} {P c' : Addr} {oP oP' oc oF : Obj} {h' : Heap} {tk : Nat} (S : K.H ρ mu lo s hc) (hi : lo[i]? = some (P, oP)) (k : ∀ b o, b ≠ P -> s.heap.get? b = some o -> h'.get? b = some o) (hP : h'.get? P = some oP') (ec : h'.get? c' = some oc) (hge : s.heap.objs.size <= c') (hlt : c' < h'.objs.size) (nf : oF.isFreed = false) :
  K.H ρ mu (lo.set i (P, oP')) { s with heap := h'.push oF, toks := tk } ((hc.put c' oc).put h'.objs.size oF) /\ hc.le ((hc.put c' oc).put h'.objs.size oF) /\ ((hc.put c' oc).put h'.objs.size oF) c' = some oc := by
 have hsz := Nat.le_of_lt (Nat.lt_of_le_of_lt hge hlt)
 have cn : hc c' = none := S.inn.none (ge_free hge)
 have fn : (hc.put c' oc) h'.objs.size = none := by rw [PH.put_ne (Nat.ne_of_gt hlt)]; exact S.inn.none (ge_free hsz)
 have l2 := PH.put_le (o := oF) fn
 exact ⟨Cf.H.putNew S hi (Cf.H.putNew S hi (Cf.H.loSet S hi ⟨_, _, rfl⟩ (fun b o hb e => Heap.get?_push_of_some _ (k b o hb e)) (Heap.get?_push_of_some _ hP)) (Heap.get?_push_of_some _ ec) cn (ge_free hge)) (Heap.get?_push_size _ nf) fn (ge_free hsz), (PH.put_le cn).trans l2, l2 _ _ PH.put_self⟩
theorem make_lam {params : Arguments} {body : PySem.Expr} {scope : Scope} {pos : Pos} {i : Nat} {q : Sites} {ps : Array Value} {c P : Addr} {clos : List (Str × Addr)} {Q : Value -> Shared -> Prop} {E : Value -> Shared -> Prop} (S : K.H ρ mu lo s hc) (hi : lo[i]? = some (P, tabObj ps))
  (hcode : K.env.code = .ref c) (C : CodeHd s.heap c P) (T : TabFor hc q ps) (hq : (pos, K.env.qual ++ "<lambda>") ∈ q) (hqs : q.ok) (hdef : defaultsOf params K.env = ([], [])) (hcl : closureFor scope K.env = pure clos)
  (h : ∀ s' hd f ps', K.H ρ mu (lo.set i (P, tabObj ps')) s' hd -> hc.le hd -> TabFor hd q ps' -> LamIn hd f (.Lambda params body scope pos) clos -> Q (.ref f) s') : K.wp (PySem.eval (.Lambda params body scope pos) K.env) Q E s := by
 have hP : s.heap.get? P = some (tabObj ps) := (S.loose _ (List.mem_of_getElem? hi)).1
 refine o12 (bmain_at S.cx.funs.bm hP) fun mg hg hb hgP => ?_
 refine kla_eval hdef ?_
 rcases T.2 _ hq with hn | ⟨cv, hs, hr⟩
 ·refine kla_makeFunction (mg := mg) hcl S.envOk.glob hg hcode C hP T.1 hn hgP hb fun c' ctv h' tk hx hge hlt hrec htb => ?_
  refine o43 hrec fun c2 oc vs t e2 hoc hd hv => ?_
  obtain rfl : c' = c2 := Value.ref.inj e2
  refine o02 (Cf.H.madeNew (tk := tk) (oF := kla_obj "<lambda>" (K.env.qual ++ "<lambda>") params body scope clos ((mg "__name__").getD .none) c' ctv) S hi hx htb hoc hge hlt rfl) fun S3 le ec => ?_
  have ci := CodeIn.mk (n := K.env.qual ++ "<lambda>") ec hd hv
  exact h _ _ _ _ S3 le (T.snoc le hqs hq hn ci) ⟨_, kla_fn "<lambda>" (K.env.qual ++ "<lambda>") params body scope clos ((mg "__name__").getD .none) (.ref c') ctv, PH.put_self, rfl, ci⟩
 ·refine o43 hr ?_; rintro c' oc vs t rfl hoc hd hv
  refine kla_makeFunctionHit (mg := mg) hcl S.envOk.glob hg hcode C hP T.1 hs hb fun ctv h' tk hk hsz => ?_
  refine o01 (Cf.H.madeHit (tk := tk) (oF := { cls := .type "function", data := .func (kla_fn "<lambda>" (K.env.qual ++ "<lambda>") params body scope clos ((mg "__name__").getD .none) (.ref c') ctv) }) S hi hk hsz rfl) fun S3 l2 => ?_
  exact h _ _ _ _ S3 l2 (T.mono l2) ⟨_, kla_fn "<lambda>" (K.env.qual ++ "<lambda>") params body scope clos ((mg "__name__").getD .none) (.ref c') ctv, PH.put_self, rfl, .mk (l2 _ _ hoc) hd hv⟩
theorem make_def {name : Str} {params : Arguments} {body : List Stmt} {scope : Scope} {pos : Pos} {i : Nat} {q : Sites} {ps : Array Value} {c P : Addr} {clos : List (Str × Addr)} {Q : Flow -> Shared -> Prop} {E : Value -> Shared -> Prop} (S : K.H ρ mu lo s hc) (hi : lo[i]? = some (P, tabObj ps))
  (hcode : K.env.code = .ref c) (C : CodeHd s.heap c P) (T : TabFor hc q ps) (hq : (pos, qualnameIn K.env name name) ∈ q) (hqs : q.ok) (hd0 : params.defaults = []) (hk0 : params.kw_defaults = []) (ha : annTrees params none K.env = []) (hcl : closureFor scope K.env = pure clos)
  (hk : bound K.env name = true) (hx : free mu name = true)
  (h : ∀ s' hd f ps', K.H (ρ.upd name ⟨.val, .ref f⟩) mu (lo.set i (P, tabObj ps')) s' hd -> hc.le hd -> TabFor hd q ps' ->
   (∃ o g, hd f = some o /\ o.data = .func (fdCl (.FunctionDef name params body [] none [] scope none name pos) clos g) /\ CodeIn hd g.code g.qualname) -> Q .next s') :
  K.wp (exec (.FunctionDef name params body [] none [] scope none name pos) K.env) Q E s := by
 have hP : s.heap.get? P = some (tabObj ps) := (S.loose _ (List.mem_of_getElem? hi)).1
 refine o12 (bmain_at S.cx.funs.bm hP) fun mg hg hb hgP => ?_
 refine nestDef_K hd0 hk0 ha ?_
 rcases T.2 _ hq with hn | ⟨cv, hs, hr⟩
 ·refine makeFunction_K (mg := mg) hcl S.envOk.glob hg hcode C hP T.1 hn hgP hb fun c' ctv doc h' tk hx' hge hlt hrec htb => ?_
  refine o43 hrec fun c2 oc vs t e2 hoc hd hv => ?_
  obtain rfl : c' = c2 := Value.ref.inj e2
  refine o02 (Cf.H.madeNew (tk := tk) (oF := fnMade name (qualnameIn K.env name name) params body scope clos doc ((mg "__name__").getD .none) c' ctv) S hi hx' htb hoc hge hlt rfl) fun S3 le ec => ?_
  have ci := CodeIn.mk (n := qualnameIn K.env name name) ec hd hv
  refine StH.store S3 (bound_or hk) hx (t := .val) (y := .ref h'.objs.size) rfl fun s'' S'' => ?_
  exact h _ _ _ _ S'' le (T.snoc le hqs hq hn ci) ⟨_, fnX name (qualnameIn K.env name name) params body scope clos .none .none doc ((mg "__name__").getD .none) none (.ref c') ctv, PH.put_self, rfl, ci⟩
 ·refine o43 hr ?_; rintro c' oc vs t rfl hoc hd hv
  refine makeFunction_hit (mg := mg) hcl S.envOk.glob hg hcode C hP T.1 hs hb fun ctv doc h' tk hk' hsz => ?_
  refine o01 (Cf.H.madeHit (tk := tk) (oF := { cls := .type "function", data := .func (fnX name (qualnameIn K.env name name) params body scope clos .none .none doc ((mg "__name__").getD .none) none (.ref c') ctv) }) S hi hk' hsz rfl) fun S3 l2 => ?_
  refine StH.store S3 (bound_or hk) hx (t := .val) (y := .ref h'.objs.size) rfl fun s'' S'' => ?_
  exact h _ _ _ _ S'' l2 (T.mono l2) ⟨_, fnX name (qualnameIn K.env name name) params body scope clos .none .none doc ((mg "__name__").getD .none) none (.ref c') ctv, PH.put_self, rfl, .mk (l2 _ _ hoc) hd hv⟩
end
end Mine
open Sem (wp)
namespace Mine
noncomputable abbrev Names := List (List UInt8)
structure Inp where
 P : List UInt8 -> Option Names
 T : List UInt8 -> Option Int
 ms : Int
 sh : Bool
noncomputable def ins (y : Rank) : List Rank -> List Rank
 | [] => [y]
 | z :: r => if rankLt y z then y :: z :: r else z :: ins y r
noncomputable def updF (fl : Fl) (c : List UInt8) (f : Int) : Fl := fun j => if j = c then some f else fl j
noncomputable def askM (I : Inp) (ls : List Rank) (c : List UInt8) : Option (Option (List Rank)) :=
 if ls.length < 80000 then (match I.T c with
  | some t => some (some (ins (-t, c) ls))
  | none => if I.sh then some (some (ins (-0, c) ls)) else some none) else none
noncomputable def seedM (I : Inp) : Names -> List Rank -> Fl -> Option (Option (List Rank × Fl))
 | [], ls, fl => some (some (ls, fl))
 | c :: r, ls, fl => match askM I ls c with
  | some (some ls') => seedM I r ls' (updF fl c (Builtin.bitOr ((fl c).getD 0) 2))
  | some none => some none
  | none => none
noncomputable def parM (I : Inp) (cf : Int) : Names -> List Rank -> Fl -> Option (Option (List Rank × Fl))
 | [], ls, fl => some (some (ls, fl))
 | p :: r, ls, fl =>
  if Builtin.bitAnd ((fl p).getD 0) cf = cf then parM I cf r ls fl
  else match I.T p with
   | none => if I.sh then parM I cf r ls fl else some none
   | some t => if t < I.ms then parM I cf r ls fl
    else if ls.length < 80000 then parM I cf r (ins (-t, p) ls) (updF fl p (Builtin.bitOr ((fl p).getD 0) cf)) else none
noncomputable abbrev Qst := List Rank × Fl × List Rank
noncomputable def markM (y : Rank) (f : Int) (fl : Fl) (cd : List Rank) : Fl × List Rank :=
 if Builtin.bitAnd f 7 = 3 /\ Builtin.bitAnd f 8 ≠ 8 then (updF fl y.2 (Builtin.bitOr f 8), cd ++ [(-y.1, y.2)]) else (fl, cd)
noncomputable def flagM (f : Int) : Int := if Builtin.bitAnd f 7 = 3 then Builtin.bitOr (Builtin.bitAnd f 7) 4 else Builtin.bitAnd f 7
noncomputable def turnM (I : Inp) (ls : List Rank) (fl : Fl) (cd : List Rank) : Option (Option Qst) :=
 match ls with
 | [] => none
 | y :: ls' => match fl y.2 with
  | none => none
  | some f =>
   if cd.length < 1000 then
    match I.P y.2 with
    | none => if I.sh then some (some (ls', markM y f fl cd)) else some none
    | some ps => match parM I (flagM f) ps ls' (markM y f fl cd).1 with
     | some (some (a, b)) => some (some (a, b, (markM y f fl cd).2))
     | some none => some none
     | none => none
   else none
noncomputable def runM (I : Inp) : Nat -> List Rank -> Fl -> List Rank -> Option (Option (Fl × List Rank))
 | 0, _, _, _ => none
 | n + 1, ls, fl, cd => if hasC ls fl then (match turnM I ls fl cd with
   | some (some (a, b, c)) => runM I n a b c
   | some none => some none
   | none => none) else some (some (fl, cd))
noncomputable def resM (fl : Fl) (cd : List Rank) : List Rank := cd.foldl (fun a y => if Builtin.bitAnd ((fl y.2).getD 0) 4 ≠ 4 /\ y ∉ a then a ++ [y] else a) []
noncomputable def insT (y : Rank) : List Rank -> List Rank
 | [] => [y]
 | z :: r => if y.1 < z.1 then y :: z :: r else z :: insT y r
noncomputable def sortT (l : List Rank) : List Rank := l.foldl (fun a y => insT y a) []
noncomputable def lcasM (I : Inp) (n : Nat) (c1 : List UInt8) (c2s : Names) : Option (Option Names) :=
 match askM I [] c1 with
 | none => none
 | some none => some none
 | some (some l1) => match seedM I c2s l1 (updF (fun _ => none) c1 1) with
  | none => none
  | some none => some none
  | some (some (ls, fl)) => match runM I n ls fl [] with
   | none => none
   | some none => some none
   | some (some (fl', cd)) => if cd.all (fun y => (fl' y.2).isSome) then some (some ((sortT (resM fl' cd)).map (·.2))) else none
end Mine
open Sem (wp)
namespace Mine
theorem entry_unchain : entryFor table "proto.unchain" = some Builtin.«proto.unchain» := entryFor_of_tree (by kernel_rfl)
theorem plain_unchain : plainId "proto.unchain" = true := by decide +kernel
noncomputable def Lone (h : Heap) (e : Addr) : Prop := ∃ o vs, h.get? e = some o /\ o.data = .fields vs /\ vs[2]? = some .none
theorem Lone.keeps {h h' : Heap} {e : Addr} (x : Lone h e) (k : ∀ o, h.get? e = some o -> h'.get? e = some o) : Lone h' e := let ⟨o, vs, a, b⟩ := x; ⟨o, vs, k _ a, b⟩
section
variable {prog : Program} {w : World} {A : Around} {E : Value -> Shared -> Prop} {s : Shared}
theorem raise_chain {α : Type} {h a : Addr} {oa : Obj} {ws : Array Value} {Q : α -> Shared -> Prop} (hh : A.handled = some (.ref h)) (hne : h ≠ a) (L : Lone s.heap h) (ha : s.heap.get? a = some oa) (hd : oa.data = .fields ws) (sz : 2 < ws.size)
  (hE : E (.ref a) { s with heap := s.heap.update a (Obj.mapFields (·.setIfInBounds 2 (.ref h))) }) : wpAny (model prog w) A (raiseNew (.ref a) : Sem α) Q E s := by
 refine o22 L fun o vs ho hdo h2 => ?_
 unfold raiseNew
 refine wpAny_bind (wpAny_handled ?_)
 rw [hh]
 have e1 : (Value.ref h != Value.ref a) = true := by simp [hne]
 simp only [e1, if_true]
 refine wpAny_bind (wpAny_holding (wpAny_runValue (codeAny_builtin entry_unchain ?_)))
 rw [Around.under_plainId plain_unchain]
 unfold Builtin.«proto.unchain»
 refine wpAny_bind (wpAny_field ho hdo h2 ?_)
 rw [if_pos (by simp)]
 refine wpAny_bind (wpAny_pure (wpAny_pure ?_))
 exact wpAny_bind (wpAny_setField (i := 2) ha hd sz (wpAny_throw hE))
theorem next_end {it t h : Addr} {i : Nat} {items : Array Value} {Q : Option Value -> Shared -> Prop} (hh : A.handled = some (.ref h)) (L : Lone s.heap h) (hit : s.heap.IsTupleIter it t i) (ht : s.heap.IsTuple t items) (hx : items[i]? = none) (hne : h ≠ it)
  (hQ : ∀ h', Heap.ExtBut it s.heap h' -> Q none { s with heap := h' }) : wpAny (model prog w) A (pyNext (.ref it)) Q E s := by
 refine o12 (id hit) fun o ho hc hd => ?_
 refine o12 ht fun ol hol _ zz => o10 zz fun nl hdl => ?_
 unfold pyNext
 refine wpAny_bind (wpAny_attempt (wpAny_callSpecial?_slot (name := Str.ofString "__next__") hit.typeIs F.slot_tuple_iterator_next
  (wpAny_call_entry F.slot_tuple_iterator_next hit.typeIs F.entry_tuple_iterator_next ?_ (F.args_tuple_iterator_next_1 _))))
 show wpAny _ _ (field (.ref it) 0 >>= _) _ _ s
 refine wpAny_bind (wpAny_field ho hd (x := .ref t) rfl ?_)
 show wpAny _ _ (if (Value.ref t == Value.none) = true then _ else _) _ _ s
 rw [if_neg (show ¬ ((Value.ref t == Value.none) = true) from Bool.false_ne_true)]
 show wpAny _ _ (field (.ref it) 1 >>= _) _ _ s
 refine wpAny_bind (wpAny_field ho hd (x := .int i 0) rfl ?_)
 show wpAny _ _ (seqItems? (.ref t) >>= _) _ _ s
 refine wpAny_bind (wpAny_seqItems hol hdl ?_)
 simp only [Int.toNat_natCast, hx]
 refine wpAny_bind (wpAny_rule (wpAny_bind (wpAny_setField ho hd (by simp) ?_)))
 show wpAny _ _ (newExc (.type "StopIteration") [] >>= _) _ _ _
 refine wpAny_bind ?_
 simp only [newExc, newTuple]
 refine wpAny_bind (wpAny_newObj_type ?_ (by size_fits))
 refine wpAny_bind (m := firstArgMember _ _) (wpAny_of_eq (a := Value.none) (by first | rfl | (simp only [firstArgMember]; rfl)) ?_)
 refine wpAny_newObj_type ?_ (by size_fits)
 obtain ⟨g, hg⟩ : ∃ g : Heap, g = (s.heap.update it (Obj.mapFields (·.setIfInBounds 0 .none))).push { cls := .type "tuple", data := .seq (List.toArray []) } := ⟨_, rfl⟩
 have old : ∀ b o, b ≠ it -> s.heap.get? b = some o -> g.get? b = some o := fun b o hb e => by
  rw [hg]; exact Heap.get?_push_of_some _ ((Heap.get?_update_other _ _ (Ne.symm hb)).trans e)
 have gsz : g.get? g.objs.size = none := free_size _
 have hL : Lone s.heap h := L
 refine o21 hL fun oh vs eh _ => ?_
 have hgh := old h oh hne eh
 have hneg : h ≠ g.objs.size := Nat.ne_of_lt (Heap.lt_size hgh)
 show wpAny _ _ (raiseNew (.ref ((s.heap.update it (Obj.mapFields (·.setIfInBounds 0 .none))).push { cls := .type "tuple", data := .seq (List.toArray []) }).objs.size)) _ _ ({ s with heap := ((s.heap.update it (Obj.mapFields (·.setIfInBounds 0 .none))).push { cls := .type "tuple", data := .seq (List.toArray []) }).push _ })
 rw [<- hg]
 refine raise_chain (oa := _) (by rw [Around.in1_handled]; exact hh) hneg (L.keeps fun o e => Heap.get?_push_of_some _ (old h o hne e)) (Heap.get?_push_size _ rfl) rfl (by show 2 < (#[_, Value.none, Value.none, Value.none, Value.bool false, Value.none] ++ ownMembersOf (.type "StopIteration") []).size; simp only [Array.size_append]; show 2 < 6 + _; lia) ?_
 refine wpAny_bind (wpAny_isInstance (T := "StopIteration") (b := true) ⟨_, Heap.get?_update_self _ (Heap.get?_push_size _ rfl) rfl, Obj.cls_mapFields _ _⟩ isSubtype_stop ?_)
 refine wpAny_pure (hQ _ fun b o hb e => ?_)
 have e1 := old b o hb e
 show (Heap.update _ g.objs.size _).get? b = some o
 rw [Heap.get?_update_other _ _ (fun q => by rw [<- q, gsz] at e1; exact No.ns e1)]
 exact Heap.get?_push_of_some _ e1
theorem assign_two {env : Env} {elts : List PySem.Expr} {x1} {pos : Pos} {t h : Addr} {items : Array Value} {Q : Unit -> Shared -> Prop} (hh : A.handled = some (.ref h)) (L : Lone s.heap h) (ht : s.heap.IsTuple t items)
  (hn : (assignEach elts env).length = items.size) (hstar : (assignEach elts env).findIdx? (·.1) = none)
  (k : ∀ h', Heap.ExtBut s.heap.objs.size s.heap h' -> wpAny (model prog w) A (assignInOrder ((assignEach elts env).map (·.2)) items.toList) Q E { s with heap := h' }) :
  wpAny (model prog w) A (assign (.Tuple elts x1 pos) env (.ref t)) Q E s := by
 rw [arm_assign_Tuple]
 refine wpAny_bind (wpAny_standAt ?_)
 unfold unpack
 rw [hn, hstar]
 refine wpAny_bind (wpAny_holding ?_)
 have hlt : t ≠ s.heap.objs.size := by refine o11 ht fun o ho _ => ?_; exact Nat.ne_of_lt (Heap.lt_size ho)
 refine o21 (id L) fun oh vs eh _ => ?_
 have hlh : h ≠ s.heap.objs.size := Nat.ne_of_lt (Heap.lt_size eh)
 unfold unpackItems
 refine wpAny_bind ?_
 unfold notIterableAtAll
 refine wpAny_bind (wpAny_specialOf ht.typeIs F.slot_tuple_iter.lookup (wpAny_pure ?_))
 simp only [Bool.false_eq_true, if_false]
 refine wpAny_bind (wpAny_holding (wpAny_pyIter_tuple ht ?_))
 refine wpAny_bind (wpAny_holding (wpAny_draw_tuple hlt items.size 0 _ _ ⟨_, Heap.get?_push_size _ rfl, rfl, rfl⟩ (ht.push _) (by lia) fun h1 hit1 hs1 => ?_))
 rw [show List.take items.size (List.drop 0 items.toList) = items.toList by rw [List.drop_zero]; exact List.take_of_length_le (by simp)]
 rw [if_neg (by simp)]
 refine wpAny_bind (wpAny_holding (next_end (h := h) hh (L.keeps fun o e => hs1.extBut h o hlh (Heap.get?_push_of_some _ e)) hit1 ((ht.push _).extBut hs1.extBut hlt) (by simp) hlh fun h2 he2 => ?_))
 simp only [Option.isSome_none, Bool.false_eq_true, if_false]
 exact wpAny_pure (k h2 fun b o hb e => he2 b o hb (hs1.extBut b o hb (Heap.get?_push_of_some _ e)))
end
end Mine
open Sem (wp)
namespace Mine
noncomputable def Around.bareOf (A : Around) : Around := { A with handled := none }
section
variable {prog : Program} {w : World} {A : Around} {F : FA} {s : Shared} {d : Nat}
theorem name_any {A' : Around} {K : Cf} {ρ : Rho} {mu : List Ent} {lo : List (Addr × Obj)} {s : Shared} {hc : PH} {x : Str} {p : Pos} {v : TV} {Q : Value -> Shared -> Prop} {E : Value -> Shared -> Prop} (S : K.H ρ mu lo s hc) (hk : kOk (K.env.kindOf x) = true) (hd : (x == ("__debug__" : Str)) = false) (hv : ρ x = some v)
  (h : ∀ cv, RepTV K.w.params hc v cv -> Q cv s) : wpAny (model K.prog K.w) A' (PySem.eval (.Name x p) K.env) Q E s := by
 refine o11 (S.sees x v hk hv) fun cv rd rp => ?_
 exact wpAny_Name (rd.load S.envOk.kind (h cv rp)) hd
theorem enter_frameA {gp : Array GenState -> Prop} {hc h0 : PH} {f : Stmt} {dfl : Value} {a : Addr} {xs : List TV} {vs : List Value} {R : Result -> Shared -> Prop} (names : List Str) (lo : List (Addr × Obj))
  (ha : FunAt s.heap a f dfl) (ao : AOk (Around.bareOf A) (d + 1)) (gd : Gd F h0) (hb : gp s.gens) (hI : hc.In s.heap) (hle : h0.le hc) (r : Rel2 (RepTV w.params hc) xs vs)
  (hl : ∀ p ∈ lo, s.heap.get? p.1 = some p.2 /\ hc p.1 = none) (hln : (lo.map (·.1)).Nodup)
  (hbind : ∀ g, BindsTo s (fdOf f dfl g) ⟨vs, []⟩ (names.zip vs)) (hs : ownScope (defScope f) = true) (hplain : ((defScope f).isCoroutine || (defScope f).isGenerator) = false) (hn : (names.all fun n => (defScope f).names.lookup n == some .local || (defScope f).names.lookup n == some .cell) = true)
  (h : ∀ g s', (frameCf prog F w d (Around.bareOf A) gp s h0 f dfl g a).S (bindR names xs fun _ => none) [] lo s' ->
   wpAny (model prog w) (A.deeper (callEnvC (fdOf f dfl g) s.heap.objs.size a)) (execs (defBody f) (callEnvC (fdOf f dfl g) s.heap.objs.size a)) (fun f s' => R (.ok (.ret (match f with | .ret v => v | _ => .none))) s')
    (fun e s' => wpAny (model prog w) (A.deeper (callEnvC (fdOf f dfl g) s.heap.objs.size a)) (leaving (callEnvC (fdOf f dfl g) s.heap.objs.size a) e) (fun _ s'' => R (.error e) s'') (fun e' s'' => R (.error e') s'') s') s') :
  codeAny (model prog w) A (.call (.ref a) ⟨vs, []⟩) R s := by
 refine o22 ha fun o g ho hd hcd => ?_
 have hbase := (gd _ (hI.of_le hle)).1
 have hkn : ∀ n ∈ names, (defScope f).names.lookup n = some .local \/ (defScope f).names.lookup n = some .cell := fun n hn' => by simpa using List.all_eq_true.mp hn n hn'
 rw [Bool.or_eq_false_iff] at hplain
 have hroom : A.depth < recursionLimit := by
  have : A.depth + (d + 1) + 100 < recursionLimit := ao.depth
  lia
 refine call_cells' (fd := fdOf f dfl g) hroom ho hd hbase.nolimit hcd rfl (hbind g) rfl (fun x hx => ?_) (fun s₁ X => h g s₁ ⟨hc, frame_st names lo ao.deeper gd hb hI hle r hl hln hs hn X⟩) hplain.1 hplain.2 (own_kind' hs)
 have : x.1 ∈ names := (List.of_mem_zip hx).1
 rcases hkn _ this with h1 | h1
 ·exact .inl h1
 ·exact .inr ⟨h1, cells_some hs _ h1⟩
theorem add_wpH {hc : PH} {x dx p e : Addr} {items : List Value} {n : Nat} {l : List Rank} {t : Int} {c : List UInt8} {item : Value} {Q : Value -> Shared -> Prop} {E : Value -> Shared -> Prop} (hh : A.handled = some (.ref e)) (Ln : Lone s.heap e) (hep : e ≠ p) (ao : AOk (Around.bareOf A) (d + 1)) (B : Bas F s.heap) (Fu : Funs F s.heap) (gd : Gd F (allBut s p)) (W : WAt F s.heap x dx p)
  (hxp : x ≠ p) (hdp : dx ≠ p) (hI : hc.In s.heap) (hp : hc p = none) (ho : s.heap.get? p = some (lobj items n)) (r : RR w hc l items) (hz : l.length <= 90000) (hhp : isHeap l) (ri : Rep w.params hc (.pair .int .byt) (t, c) item)
  (h : ∀ s' hd items' n' l', StepX [p] s s' hc hd -> s'.heap.get? p = some (lobj items' n') -> hd p = none -> RR w hd l' items' -> l'.Perm (l ++ [(-t, c)]) -> isHeap l' -> Q .none s') : wpAny (model prog w) A (call (.ref F.wAdd) [.ref x, item]) Q E s := by
 have hle := le_allBut hI hp
 have rx : Rel2 (RepTV w.params (allBut s p)) [⟨.val, .ref x⟩, ⟨.pair .int .byt, (t, c)⟩] [.ref x, item] := .cons rfl (.cons (ri.mono hle) .nil)
 refine wpAny_call (enter_frameA (gp := fun g => g = s.gens) (h0 := allBut s p) (hc := allBut s p) ["self", "item"] [(p, lobj items n)] Fu.add ao gd rfl allBut_in PH.le.rfl rx (fun q hq => ?_) (by simp) (fun g => BindsTo.of_eq rfl) rfl rfl rfl fun g s₁ S => ?_)
 ·rw [List.mem_singleton.mp hq]
  exact ⟨ho, by simp [allBut]⟩
 let K := frameCf prog F w d (Around.bareOf A) (fun g => g = s.gens) s (allBut s p) (workDef "add") .none g F.wAdd
 refine o10 S fun h1 Sa => ?_
 have old : ∀ {s' hd ρ mu lo}, K.H ρ mu lo s' hd -> ∀ b o, b ≠ p -> s.heap.get? b = some o -> s'.heap.get? b = some o := fun S b o hb e => S.inn b o (S.le b o (by show allBut s p b = _; unfold allBut; rw [if_neg hb]; exact e))
 refine wpAny_execs_cons ?_
 refine wpAny_Assign_stores (name_any (K := K) Sa (by rfl) (by rfl) (by rfl) fun cv re => ?_) (by rfl) (by rfl)
 refine o33 (id re) ?_; rintro a q1 q2 rfl oa ra rb
 have Ln1 : Lone s₁.heap e := Ln.keeps fun o eo => old Sa e o hep eo
 refine assign_two (x1 := 0) (h := e) (by show A.handled = _; exact hh) Ln1 (oa.isTuple Sa.inn) rfl rfl fun h' hx => ?_
 have st : Step s₁ { s₁ with heap := h' } h1 h1 := Step.quiet Sa.inn ⟨h', s₁.toks, rfl, fun b o e => hx b o (Nat.ne_of_lt (Heap.lt_size e)) e⟩
 refine wpAny_assignInOrder_more (wpAny_assign_Name (StH.store (Sa.step st) (.inl (by rfl)) (by rfl) ra fun sb Sb => ?_))
 refine wpAny_assignInOrder_more (wpAny_assign_Name (StH.store Sb (.inl (by rfl)) (by rfl) rb fun sb Sb => ?_))
 refine wpAny_assignInOrder_none ?_
 have Sb : K.H _ [] [(p, lobj items n)] sb h1 := Sb
 refine wpAny_execs_cons (wpAny_Expr_any (PyProof.Rows.Call_Name rfl (wpAny_Name (load_more (p := ("heappush", .builtin "_heapq.heappush")) Sb.cx.bas Sb.envOk (by simp [FA.more]) (by rfl) ?_) (by rfl))) (by rfl) (by rfl))
 refine Calls.callWith_builtin (by rfl) (Calls.evalArgs_plain (Calls.spliced_cons ?_))
 refine self_pq Sb (W.keeps fun b o hb e => old Sb b o (by rcases hb with rfl | rfl <;> assumption) e) (by rfl) (by rfl) (by rfl) fun sd Sc _ => ?_
 show wpAny _ _ (spliced [(false, PySem.eval (argAt (stExpr (stmtAt (defBody (workDef "add")) 1)) 1) K.env)]) _ _ _
 refine Calls.spliced_cons (wpAny_Tuple_spliced ?_)
 show wpAny _ _ (spliced [(false, PySem.eval (argAt (argAt (stExpr (stmtAt (defBody (workDef "add")) 1)) 1) 0) K.env), (false, PySem.eval (argAt (argAt (stExpr (stmtAt (defBody (workDef "add")) 1)) 1) 1) K.env)]) _ _ _
 refine Calls.spliced_cons (wpAny_UnaryOp (name_any (K := K) Sc (by rfl) (by rfl) (by rfl) fun cv rf => ?_))
 refine o10 rf ?_; rintro ka rfl
 refine PyProof.Rows.neg_int ?_
 have Se := Sc.step (Step.tok Sc.inn (sd.toks + 1))
 generalize sd.toks = kc at Se ⊢
 generalize { sd with toks := kc + 1 } = sf at Se ⊢
 show wpAny _ _ (spliced [(false, PySem.eval (argAt (argAt (stExpr (stmtAt (defBody (workDef "add")) 1)) 1) 1) K.env)]) _ _ _
 refine Calls.spliced_cons (name_any (K := K) Se (by rfl) (by rfl) (by rfl) fun cv rf => Calls.spliced_nil ?_)
 refine ⟨by rw [sizeLine_eq]; simp, Calls.spliced_nil ?_⟩
 refine o10 rf ?_; rintro kd rfl
 have hT : sf.heap.get? sf.heap.objs.size = none := free_size _
 obtain ⟨T, hTe⟩ : ∃ T, T = sf.heap.objs.size := ⟨_, rfl⟩
 rw [<- hTe] at hT ⊢
 have old5 : ∀ b o, b ≠ p -> s.heap.get? b = some o -> sf.heap.get? b = some o := fun b o hb e => old Se b o hb e
 refine o01 (Se.loose (p, lobj items n) (List.mem_singleton.mpr rfl)) fun ho5 own5 => ?_
 have hTp : T ≠ p := fun e => by rw [e, ho5] at hT; exact No.sn hT
 have hTs : s.heap.get? T = none := by
  generalize e : s.heap.get? T = zz; induction zz with
  | none => rfl
  | some o => have := old5 T o hTp e; rw [hT] at this; exact No.ns this
 let oT : Obj := { cls := .type "tuple", data := .seq (List.toArray [.int (-t) kc, .bytes c.toArray kd]) }
 have hin : (hc.put T oT).In (sf.heap.push oT) := by
  refine PH.In.put (fun b o e => Heap.get?_push_of_some _ (old5 b o (fun hb => by rw [hb, hp] at e; exact No.ns e) (hI b o e))) ?_
  rw [hTe]; exact Heap.get?_push_size _ rfl
 have hcT : hc T = none := hI.none hTs
 have le6 : hc.le (hc.put T oT) := PH.put_le hcT
 have rT : Rep w.params (hc.put T oT) (.pair .int .byt) (-t, c) (.ref T) := ⟨T, _, _, rfl, ⟨oT, 0, PH.put_self, rfl, rfl⟩, ⟨kc, rfl⟩, ⟨kd, rfl⟩⟩
 have hpT : (hc.put T oT) p = none := by rw [PH.put_ne (Ne.symm hTp)]; exact hp
 have hu : A.units + 3 + 20 < cLine := by
  have : A.units + 10 * (d + 1) + 300 < cLine := ao.units
  lia
 refine push_wp (s := { sf with heap := sf.heap.push oT }) hu hin hpT (Heap.get?_push_of_some _ ho5) (r.mono fun _ _ x => x.mono le6) hz hhp rT fun s' items' n' l' same k ho' r' pm hh' => ?_
 refine wpAny_execs_nil ?_
 show Q .none s'
 have sameS : ∃ h tk, s' = { s with heap := h, toks := tk } := by
  refine o20 same ?_; rintro h' tk' rfl
  refine o30 Se.same fun h5' tk5 g5 e5 => ?_
  have hg : sf.gens = s.gens := Se.bare
  refine ⟨h', tk', ?_⟩
  rw [e5] at hg ⊢
  simp only at hg
  subst hg
  rfl
 refine h s' (hc.put T oT) items' n' l' ⟨sameS, fun b o hb e => ?_, le6, fun b o e => ?_, fun b o e => ?_, fun b hb => ?_⟩ ho' hpT r' pm hh'
 ·have hb' : b ≠ p := by simpa using hb
  exact k b o hb' (Heap.get?_push_of_some _ (old5 b o hb' e))
 ·unfold PH.put at e; split at e
  ·subst_vars; exact .inr hTs
  ·exact .inl e
 ·exact k b o (fun hb => by rw [hb, hpT] at e; exact No.ns e) (hin b o e)
 ·rw [List.mem_singleton.mp hb, ho']; rfl
end
end Mine
open Sem (wp)
namespace Mine
theorem noBool_set : typeLookup (.type "set") "__bool__" = pure none := by rw [typeLookup_type, builtinLookup_eq_fast]; kernel_rfl
noncomputable def SetIn (hc : PH) (a : Addr) (n : Nat) : Prop := ∃ o es ep t, hc a = some o /\ o.ExactSet /\ o.data = .set es ep t /\ t.fits es.size = true /\ es.size = n
noncomputable def ShOk (hc : PH) (v : Value) (sh : Bool) : Prop := (v = .none /\ sh = false) \/ ∃ a n, v = .ref a /\ SetIn hc a n /\ n <= 1000 /\ sh = (n != 0)
theorem ShOk.mono {hc hd : PH} {v : Value} {sh : Bool} (x : ShOk hc v sh) (k : hc.le hd) : ShOk hd v sh :=
 x.imp id fun ⟨a, n, b, ⟨o, es, ep, t, c, r⟩, e⟩ => ⟨a, n, b, ⟨o, es, ep, t, k _ _ c, r⟩, e⟩
section
variable {prog : Program} {w : World} {A : Around} {s : Shared} {hc : PH} {E : Value -> Shared -> Prop}
theorem truthy_set {a : Addr} {n : Nat} {Q : Bool -> Shared -> Prop} (hI : hc.In s.heap) (S : SetIn hc a n) (hn : n <= 1000) (h : Q (n != 0) { s with toks := s.toks + 1 + 1 }) : wpAny (model prog w) A (truthy (.ref a)) Q E s := by
 refine o44 S ?_; rintro o es ep t ho hex hd hf rfl
 have ho := hI _ _ ho
 have hT : s.TypeIs (.ref a) "set" := ⟨o, ho, hex.1⟩
 have key : wpAny (model prog w) A (runValue (.builtin "len" ⟨[.ref a], []⟩)) (fun r s' => r = .int es.size (s.toks + 1) /\ Q (es.size != 0) s') E s := by
  refine wpAny_runValue (codeAny_builtin entry_len ?_)
  rw [Around.under_plainId plain_len _]
  exact wpAny_mono (wpAny_len_body_set (Q := fun r s' => r = .int es.size (s.toks + 1) /\ Q (es.size != 0) s') ho hex hd hf (by lia) ⟨rfl, h⟩)
   (fun fin s' h' => by refine o11 h' ?_; rintro r rfl hq; exact hq) fun _ _ e => e
 unfold truthy
 first
  | refine wpAny_bind (wpAny_callSpecial?_none (name := Str.ofString "__bool__") hT noBool_set ?_)
  | refine wpAny_bind (wpAny_pure (wpAny_bind (wpAny_callSpecial?_none (name := Str.ofString "__bool__") hT noBool_set ?_)))
 first
  | refine wpAny_bind (wpAny_specialOf (name := Str.ofString "__len__") hT F.slot_set_len.lookup ?_)
  | refine wpAny_bind (wpAny_pure (wpAny_bind (wpAny_specialOf (name := Str.ofString "__len__") hT F.slot_set_len.lookup ?_)))
 have e : ((es.size : Int) != 0) = (es.size != 0) := by
  generalize h0 : es.size = zz; induction zz with
  | zero => rfl
  | succ k => simp; lia
 first
  | exact wpAny_bind (wpAny_mono key (fun r s' h' => by refine o01 h' ?_; rintro rfl hq; rw [<- e] at hq; exact wpAny_pure hq) fun _ _ e => e)
  | exact wpAny_bind (wpAny_pure (wpAny_bind (wpAny_mono key (fun r s' h' => by obtain ⟨rfl, hq⟩ := h'; rw [<- e] at hq; exact wpAny_pure hq) fun _ _ e => e)))
theorem truthy_sh {v : Value} {sh : Bool} {Q : Bool -> Shared -> Prop} (hI : hc.In s.heap) (S : ShOk hc v sh) (h : ∀ tk, Q sh { s with toks := tk }) : wpAny (model prog w) A (truthy v) Q E s := by
 rcases S with ⟨rfl, rfl⟩ | ⟨a, n, rfl, S, hn, rfl⟩
 ·exact wpAny_pure (h s.toks)
 ·exact truthy_set hI S hn (h _)
end
section
variable {K : Cf} {ρ : Rho} {mu : List Ent} {lo : List (Addr × Obj)} {s : Shared} {hc : PH} {A : Around} {E : Value -> Shared -> Prop}
theorem sh_or {x : Str} {p1 p2 p3 p4 p5 p6 : Pos} {k : Nat} {v : Value} {sh : Bool} {whole : Sem Value} {Q : Bool -> Shared -> Prop} (S : K.H ρ mu lo s hc) (hk : kOk (K.env.kindOf x) = true) (hd : (x == ("__debug__" : Str)) = false) (hv : ρ x = some ⟨.val, v⟩) (Sh : ShOk hc v sh)
  (h : ∀ tk, K.H ρ mu lo { s with toks := tk } hc -> Q (!sh) { s with toks := tk }) :
  wpAny (model K.prog K.w) A (isTrue (.BoolOp .Or [.Compare (.Name x p1) [.Is] [.Constant .none k p2] p3, .UnaryOp .Not (.Name x p4) p5] p6) K.env whole) Q E s := by
 have hq : ∀ tk, Q (!sh) { s with toks := tk } := fun tk => h tk (S.step (Step.tok S.inn tk))
 refine isTrue_or (wpAny_isTrue_Compare1 (name_any S hk hd hv fun cv r => ?_) (by rfl))
 have : cv = v := r
 subst this
 refine wpAny_Constant_none ?_
 have two : wpAny (model K.prog K.w) A (isTrue (.BoolOp .Or [.UnaryOp .Not (.Name x p4) p5] p6) K.env whole) Q E s := by
  refine isTrue_or (isTrue_not (wpAny_isTrue_value (name_any S hk hd hv fun cv' r' => ?_) (by rfl)))
  have : cv' = cv := r'
  subst this
  refine truthy_sh S.inn Sh fun tk => ?_
  induction sh with
  | true => exact isTrue_or_nil (hq tk)
  | false => exact hq tk
 rcases Sh with ⟨rfl, rfl⟩ | ⟨a, n, rfl, Sh⟩
 ·exact wpAny_is_plain (by rfl) (wpAny_truthy_bool (hq s.toks))
 ·exact is_ref_none (wpAny_truthy_bool two)
theorem sh_and {x : Str} {p1 p2 p3 p4 p6 : Pos} {k : Nat} {v : Value} {sh : Bool} {whole : Sem Value} {Q : Bool -> Shared -> Prop} (S : K.H ρ mu lo s hc) (hk : kOk (K.env.kindOf x) = true) (hd : (x == ("__debug__" : Str)) = false) (hv : ρ x = some ⟨.val, v⟩) (Sh : ShOk hc v sh)
  (h : ∀ tk, K.H ρ mu lo { s with toks := tk } hc -> Q sh { s with toks := tk }) :
  wpAny (model K.prog K.w) A (isTrue (.BoolOp .And [.Compare (.Name x p1) [.IsNot] [.Constant .none k p2] p3, .Name x p4] p6) K.env whole) Q E s := by
 have hq : ∀ tk, Q sh { s with toks := tk } := fun tk => h tk (S.step (Step.tok S.inn tk))
 refine isTrue_and (wpAny_isTrue_Compare1 (name_any S hk hd hv fun cv r => ?_) (by rfl))
 have : cv = v := r
 subst this
 refine wpAny_Constant_none ?_
 have two : wpAny (model K.prog K.w) A (isTrue (.BoolOp .And [.Name x p4] p6) K.env whole) Q E s := by
  refine isTrue_and (wpAny_isTrue_value (name_any S hk hd hv fun cv' r' => ?_) (by rfl))
  have : cv' = cv := r'
  subst this
  refine truthy_sh S.inn Sh fun tk => ?_
  induction sh with
  | true => exact isTrue_and_nil (hq tk)
  | false => exact hq tk
 rcases Sh with ⟨rfl, rfl⟩ | ⟨a, n, rfl, Sh⟩
 ·exact wpAny_isNot_plain (by rfl) (wpAny_truthy_bool (hq s.toks))
 ·exact isnot_ref_none (wpAny_truthy_bool two)
theorem handle_key {base : Heap} {outer : List Env} {e : Addr} {b0 : Stmt} {suite : List Stmt} {pos kp : Pos} {Q : Flow -> Shared -> Prop} {ρ' : Rho} (hfr : K.A.frames = some (K.env :: outer)) (hkey : K.env.kindOf "KeyError" = some .globalImplicit) (a : AirO base (K.env :: outer) e s.heap)
  (air : ∀ h', Air base K.env outer e h' -> s.heap.UpToSlots h' -> ∃ mu lo hc, K.H ρ' mu lo { s with heap := h' } hc)
  (h : ∀ h', Air base K.env outer e h' -> s.heap.UpToSlots h' ->
   wpAny (model K.prog K.w) (K.A.mark (some (.ref e))) (execs (b0 :: suite) K.env) Q (notedBy (model K.prog K.w) (K.A.mark (some (.ref e))) K.env (cameBackBy (model K.prog K.w) K.A K.env E)) { s with heap := h' }) :
  wpAny (model K.prog K.w) K.A (noteFrame (.ref e) K.env) (fun _ sb => wpAny (model K.prog K.w) K.A (setFlight (.ref e) none) (fun _ sd => wpAny (model K.prog K.w) K.A (handleBy (.ref e) K.env [.ExceptHandler (some (.Name "KeyError" kp)) none (b0 :: suite) pos]) Q E sd) E sb) E s := by
 refine air_note hfr a.here fun h1 a1 u1 => ?_
 refine air_flight (s := { s with heap := h1 }) (.inl rfl) a1 fun h2 a2 _ u2 => ?_
 refine o30 (air h2 a2 (u1.trans u2)) fun mu lo hc S => ?_
 refine wpAny_handleBy_builtin (X := "KeyError") (T := "KeyError") (b := true) (by rw [isSubtype_type]; kernel_rfl) (by rw [isSubtype_type]; kernel_rfl) (by rw [isSubtype_type]; kernel_rfl) ?_
 refine wpAny_Name (load_more (p := ("KeyError", .type "KeyError")) S.cx.bas S.envOk (by simp [FA.more]) hkey ?_) (by rfl)
 obtain ⟨_, _, _, L, fl, _, _, oe, vs, T, oT, ts, he, hcl, _⟩ := id a2
 refine ⟨rfl, ⟨oe, he, hcl⟩, ?_⟩
 simp only [if_true]
 refine air_flight (s := { s with heap := h2 }) (.inl rfl) a2 fun h3 a3 _ u3 => ?_
 exact h h3 a3 ((u1.trans u2).trans u3)
end
end Mine
open Sem (wp)
namespace Mine
section
variable {K : Cf} {ρ : Rho} {mu : List Ent} {lo : List (Addr × Obj)} {s : Shared} {hc : PH}
theorem Cf.H.aired {i : Nat} {L : Addr} {oL : Obj} {h' : Heap} {tk : Nat} (S : K.H ρ mu lo s hc) (hi : lo[i]? = some (L, oL)) (hn : ∀ vs, oL.data ≠ .fields vs) (kb : ∀ b o, b ≠ K.env.locals -> b ≠ L -> s.heap.get? b = some o -> h'.get? b = some o) (u : s.heap.UpToSlots h') :
  ∃ sl, K.H ρ mu (lo.set i (L, { oL with slots := sl })) { s with heap := h', toks := tk } hc := by
 have hmem := List.mem_of_getElem? hi
 refine o01 (S.loose _ hmem) fun eL own => ?_
 refine o10 (u L oL eL hn) fun sl eL' => ?_
 have nd := List.nodup_append.mp S.nodup
 refine ⟨sl, S.toFrm.move ⟨h', tk, s.gens, rfl⟩ S.bare PH.le.rfl (fun b o e => kb b o (fun q => by rw [q, S.locout] at e; exact No.ns e) (fun q => by rw [q, own.1] at e; exact No.ns e) (S.inn b o e)) (fun _ n => u.ns n) (fun x c h hL o => kb c o hL (Ne.symm (own.2.2 x c h))) S.locout (fun _ _ _ h => h),
  fun e he => ?_, set_all (f := Prod.fst) nd.2.1 hi ⟨eL', own⟩ fun z hz hne => ?_, by rw [set_map (f := Prod.fst) (y := (L, { oL with slots := sl })) hi rfl]; exact S.nodup⟩
 ·refine o02 (S.muts e he) ?_; rintro ⟨o, h1, h2⟩ h3 h4
  exact ⟨⟨o, kb _ _ h3.2.1 (nd.2.2 e.a (List.mem_map.mpr ⟨e, he, rfl⟩) L (List.mem_map.mpr ⟨_, hmem, rfl⟩)) h1, h2⟩, h3, h4⟩
 ·refine o01 (S.loose z hz) fun h1 h2 => ?_
  exact ⟨kb _ _ h2.2.1 hne h1, h2⟩
end
structure LY where
 q : Sites
 el : Env
 L : Addr
 tL : Addr
 x : Addr
 dx : Addr
 p : Addr
 fP : Addr
 fT : Addr
 fh : Addr
 aC : Addr
 aS : Addr
 dL : Data
 shv : Value
structure LC (K : Cf) (I : Inp) (Y : LY) : Prop where
 fr : K.A.frames = some [K.env, Y.el]
 gp : K.gp = AllBare
 d : 4 <= K.d
 envf : K.env.frame = some K.env.locals
 sc : K.env.scope = defScope lcasDef
 elk : Y.el.scope.kind ≠ .module
 elf : Y.el.frame = some Y.L
 dLn : ∀ vs, Y.dL ≠ .fields vs
 W : ∀ h, K.hcb.In h -> WAt K.F h Y.x Y.dx Y.p
 wx : (K.hcb Y.x).isSome = true
 wd : (K.hcb Y.dx).isSome = true
 wa : ∃ o g, K.hcb K.F.wAdd = some o /\ o.data = .func (fdOf (workDef "add") .none g)
 lP : ∃ lam cl c dv, (∀ h, K.hcb.In h -> LamAt h Y.fP lam cl /\ h.IsCell c (some dv)) /\ SubLam lam "folk" "name" /\ cl.lookup ("folk" : Str) = some c /\ Rep K.w.params K.hcb (.dct (.lst .byt)) I.P dv
 lT : ∃ lam cl c dv, (∀ h, K.hcb.In h -> LamAt h Y.fT lam cl /\ h.IsCell c (some dv)) /\ SubLam lam "times" "name" /\ cl.lookup ("times" : Str) = some c /\ Rep K.w.params K.hcb (.dct .int) I.T dv
 has : ∃ cD o g, K.env.cells.lookup ("_DNC" : Str) = some cD /\ o.data = .func (fdCl hasDef [("_DNC", cD)] g) /\ ∀ h, K.hcb.In h -> h.get? Y.fh = some o /\ h.CodeRec g.code g.qualname
 sh : ShOk K.hcb Y.shv I.sh
theorem LC.up {K : Cf} {I : Inp} {Y : LY} {h1 : PH} (C : LC K I Y) (k : K.hcb.le h1) : LC (K.at h1) I Y :=
 ⟨C.fr, C.gp, C.d, C.envf, C.sc, C.elk, C.elf, C.dLn, fun h i => C.W h (i.of_le k), by refine o10 (Option.isSome_iff_exists.mp C.wx) fun o e => ?_; exact Option.isSome_iff_exists.mpr ⟨o, k _ _ e⟩, by refine o10 (Option.isSome_iff_exists.mp C.wd) fun o e => ?_; exact Option.isSome_iff_exists.mpr ⟨o, k _ _ e⟩, let ⟨o, g, a, b⟩ := C.wa; ⟨o, g, k _ _ a, b⟩,
  o43 C.lP fun lam cl c dv a b d e => ⟨lam, cl, c, dv, fun h i => a h (i.of_le k), b, d, e.mono k⟩, o43 C.lT fun lam cl c dv a b d e => ⟨lam, cl, c, dv, fun h i => a h (i.of_le k), b, d, e.mono k⟩,
  o32 C.has fun cD o g a b d => ⟨cD, o, g, a, b, fun h i => d h (i.of_le k)⟩, C.sh.mono k⟩
noncomputable def baseL (I : Inp) (Y : LY) : List (Str × TV) :=
 [("lookup_parents", ⟨.val, .ref Y.fP⟩), ("lookup_stamp", ⟨.val, .ref Y.fT⟩), ("min_stamp", ⟨.int, I.ms⟩), ("shallows", ⟨.val, Y.shv⟩), ("cands", ⟨.val, .ref Y.aC⟩), ("cstates", ⟨.val, .ref Y.aS⟩), ("_ANC_OF_1", ⟨.int, (1 : Int)⟩), ("_ANC_OF_2", ⟨.int, (2 : Int)⟩), ("_DNC", ⟨.int, (4 : Int)⟩),
  ("_LCA", ⟨.int, (8 : Int)⟩), ("_has_candidates", ⟨.val, .ref Y.fh⟩), ("wlst", ⟨.val, .ref Y.x⟩)]
noncomputable abbrev muL (aC aS : Addr) (cd : List Rank) (fl : Fl) : List Ent := [⟨"cands", aC, ⟨.lst (.pair .int .byt), cd⟩⟩, ⟨"cstates", aS, ⟨.dct .int, fl⟩⟩]
inductive LS (K : Cf) (Y : LY) (ρ : Rho) (ls : List Rank) (fl : Fl) (cd : List Rank) (ex : List (Addr × Obj)) (s : Shared) : Prop
 | mk (hc : PH) (ps : Array Value) (oL : Obj) (items : List Value) (n : Nat) (l : List Rank) (S : K.H ρ (muL Y.aC Y.aS cd fl) ([(Y.tL, tabObj ps), (Y.L, oL), (Y.p, lobj items n)] ++ ex) s hc) (T : TabFor hc Y.q ps) (hd : oL.data = Y.dL) (r : RR K.w hc l items) (hh : isHeap l) (pm : l.Perm ls)
theorem LS.out {K : Cf} {Y : LY} {ρ : Rho} {ls : List Rank} {fl : Fl} {cd : List Rank} {ex : List (Addr × Obj)} {s : Shared} {G : Prop} (S : LS K Y ρ ls fl cd ex s)
  (h : ∀ hc ps oL items n l, K.H ρ (muL Y.aC Y.aS cd fl) ([(Y.tL, tabObj ps), (Y.L, oL), (Y.p, lobj items n)] ++ ex) s hc -> TabFor hc Y.q ps -> oL.data = Y.dL -> RR K.w hc l items -> isHeap l -> l.Perm ls -> G) : G :=
 S.casesOn h
section
variable {K : Cf} {I : Inp} {Y : LY} {ρ : Rho} {ls : List Rank} {fl : Fl} {cd : List Rank} {ex : List (Addr × Obj)} {s : Shared} {hc : PH} {mu : List Ent} {lo : List (Addr × Obj)}
theorem LC.frOk (C : LC K I Y) {oL : Obj} (S : K.H ρ mu lo s hc) (hl : (Y.L, oL) ∈ lo) (hd : oL.data = Y.dL) : FrOk s.heap [K.env, Y.el] := fun env he => by
 rcases List.mem_cons.mp he with rfl | he
 ·refine o42 S.ns fun m o es ep e1 e2 _ => ?_
  exact ⟨by rw [S.envOk.kind]; exact nofun, _, o, C.envf, e1, fun vs z => by rw [e2] at z; cases z⟩
 ·rw [List.mem_singleton.mp he]
  exact ⟨C.elk, Y.L, oL, C.elf, (S.loose _ hl).1, fun vs z => C.dLn vs (hd ▸ z)⟩
theorem base_keep (C : LC K I Y) {h : Heap} {b : Addr} {o : Obj} (e : h.get? b = some o) (h1 : b ≠ K.env.locals) (h2 : b ≠ Y.L) : (baseOf h [K.env, Y.el]).get? b = some o := by
 refine hideAll_get _ e fun hm => ?_
 simp only [List.filterMap_cons, C.envf, C.elf, List.filterMap_nil, List.mem_cons, List.not_mem_nil, or_false] at hm
 rcases hm with rfl | rfl <;> contradiction
theorem lam_call {D : Str} {t : Ty} {f : List UInt8 -> Option t.den} {fa : Addr} {c : List UInt8} {fn X : Str} {p1 p2 pos : Pos} {Q : Value -> Shared -> Prop} {E : Value -> Shared -> Prop} {oL : Obj} (C : LC K I Y)
  (hl : ∃ lam cl ca dv, (∀ h, K.hcb.In h -> LamAt h fa lam cl /\ h.IsCell ca (some dv)) /\ SubLam lam D "name" /\ cl.lookup D = some ca /\ Rep K.w.params K.hcb (.dct t) f dv)
  (S : K.H ρ mu lo s hc) (hL : (Y.L, oL) ∈ lo) (hd : oL.data = Y.dL) (hkf : kOk (K.env.kindOf fn) = true) (hdf : (fn == ("__debug__" : Str)) = false) (hvf : ρ fn = some ⟨.val, .ref fa⟩) (hk : kOk (K.env.kindOf X) = true) (hd' : (X == ("__debug__" : Str)) = false) (hv : ρ X = some ⟨.byt, c⟩)
  (some_ : ∀ y, f c = some y -> ∀ s' hd cv, K.H ρ mu lo s' hd -> hc.le hd -> Rep K.w.params hd t y cv -> Q cv s')
  (none_ : f c = none -> ∀ e h' tk s₁, K.H ρ mu lo s₁ hc -> AirO (baseOf s₁.heap [K.env, Y.el]) [K.env, Y.el] e h' -> s₁.heap.UpToSlots h' -> E (.ref e) { s₁ with heap := h', toks := tk }) :
  K.wp (PySem.eval (.Call (.Name fn p1) [.Name X p2] [] pos) K.env) Q E s := by
 refine o43 hl ?_; clear hl; rintro lam cl c' dv h1 su h2 rp
 have hin := S.inn.of_le S.le
 refine o01 (h1 _ hin) fun la ce => ?_
 refine PyProof.Rows.Call_Name rfl (name_any S hkf hdf hvf fun cv r => ?_)
 have : cv = .ref fa := r
 subst this
 refine o22 (id la) fun o g ho hdo _ => ?_
 refine Calls.callWith_function (o := o) (fd := fdLam lam cl g) (Calls.evalArgs_plain ?_)
 show wpAny _ _ (spliced [(false, PySem.eval (.Name X p2) K.env)]) _ _ _
 refine Calls.spliced_cons (name_any S hk hd' hv fun kv rk => Calls.spliced_nil ?_)
 refine ⟨⟨ho, hdo⟩, ?_⟩
 have Cx := S.cx
 generalize hf : f c = zz; induction zz with
 | some y => exact lam_gives (d := K.d - 1) (by have := C.d; exact S.ao.mono (by lia)) Cx.bas Cx.funs S.inn la su h2 ce (rp.mono S.le) rk hf _ _ fun s' hd cv st r => some_ y hf s' hd cv (S.step st) st.le r
 | none => exact lam_raises (d := K.d - 1) (by have := C.d; exact S.ao.mono (by lia)) Cx.bas Cx.funs S.inn la su h2 ce (rp.mono S.le) rk hf C.fr (C.frOk S hL hd) fun e h' tk a u => none_ hf e h' tk s S a u
end
end Mine
open Sem (wp)
namespace Mine
theorem ins_perm (y : Rank) : ∀ l : List Rank, (ins y l).Perm (y :: l)
 | [] => .refl _
 | z :: r => by
  unfold ins
  split
  ·exact .refl _
  ·exact ((ins_perm y r).cons z).trans (List.Perm.swap y z r)
theorem Gd.mono {F : FA} {a b : PH} (g : Gd F a) (k : a.le b) : Gd F b := fun h i => g h (i.of_le k)
section
variable {K : Cf} {ρ : Rho} {mu : List Ent} {lo : List (Addr × Obj)} {s s' : Shared} {hc hd : PH}
theorem Cf.H.stepX1 {i : Nat} {p : Addr} {o o' : Obj} (S : K.H ρ mu lo s hc) (hi : lo[i]? = some (p, o)) (X : StepX [p] s s' hc hd) (ho : s'.heap.get? p = some o') : K.H ρ mu (lo.set i (p, o')) s' hd := by
 have hmem := List.mem_of_getElem? hi
 refine o01 (S.loose _ hmem) fun ep own => ?_
 have kb : ∀ b o, b ≠ p -> s.heap.get? b = some o -> s'.heap.get? b = some o := fun b o hb e => X.old b o (by simpa using hb) e
 have outd : ∀ {b o}, s.heap.get? b = some o -> hc b = none -> hd b = none := fun e h => X.out h (by rw [e]; rfl)
 have nd := List.nodup_append.mp S.nodup
 refine o41 S.ns fun m oL _ _ eL _ => ?_
 refine ⟨S.toFrm.move (same_more X.same) (by rw [same_gens X.same]; exact S.bare) X.le X.inn (fun m n => n.at' fun o e => kb _ o (fun q => own.2.1 q.symm) e) (fun x c h _ o => kb c o (Ne.symm (own.2.2 x c h))) (outd eL S.locout) (fun x c h k => X.out k (S.alive x c h)),
  fun e he => ?_, set_all (f := Prod.fst) nd.2.1 hi ⟨ho, outd ep own.1, own.2⟩ fun z hz hne => ?_, by rw [set_map (f := Prod.fst) (y := (p, o')) hi rfl]; exact S.nodup⟩
 ·refine o02 (S.muts e he) ?_; rintro ⟨o, h1, h2⟩ ⟨h3, h5⟩ h4
  exact ⟨⟨o, kb _ _ (nd.2.2 e.a (List.mem_map.mpr ⟨e, he, rfl⟩) p (List.mem_map.mpr ⟨_, hmem, rfl⟩)) h1, h2.mono X.le⟩, ⟨outd h1 h3, h5⟩, h4⟩
 ·refine o02 (S.loose z hz) fun h1 h2 h3 => ?_
  exact ⟨kb _ _ hne h1, outd h1 h2, h3⟩
end
noncomputable def AddOk (K : Cf) (A' : Around) (p : Addr) (h : Heap) : Prop := A' = K.A \/ ∃ e, A'.handled = some (.ref e) /\ Around.bareOf A' = Around.bareOf K.A /\ Lone h e /\ e ≠ p
section
variable {K : Cf} {I : Inp} {Y : LY} {ρ : Rho} {ls : List Rank} {fl : Fl} {cd : List Rank} {ex : List (Addr × Obj)} {s : Shared} {hc : PH} {mu : List Ent} {lo : List (Addr × Obj)}
theorem add_pair {A' : Around} {t : Int} {c : List UInt8} {tv kv : Value} {items : List Value} {n i : Nat} {l : List Rank} {Q : Value -> Shared -> Prop} {E : Value -> Shared -> Prop} (C : LC K I Y) (S : K.H ρ mu lo s hc) (hA : AddOk K A' Y.p s.heap)
  (hi : lo[i]? = some (Y.p, lobj items n)) (r : RR K.w hc l items) (hh : isHeap l) (hz : l.length <= 90000) (rt : Rep K.w.params hc .int t tv) (rc : Rep K.w.params hc .byt c kv)
  (h : ∀ s' hd items' n' l', K.H ρ mu (lo.set i (Y.p, lobj items' n')) s' hd -> hc.le hd -> RR K.w hd l' items' -> l'.Perm ((-t, c) :: l) -> isHeap l' -> Q .none s') :
  wpAny (model K.prog K.w) A' (call (.ref K.F.wAdd) [.ref Y.x, .ref s.heap.objs.size]) Q E { s with heap := s.heap.push { cls := .type "tuple", data := .seq (List.toArray [tv, kv]) } } := by
 refine o10 rt ?_; rintro kc rfl
 refine o10 rc ?_; rintro kd rfl
 have hT : s.heap.get? s.heap.objs.size = none := free_size _
 obtain ⟨T, hTe⟩ : ∃ T, T = s.heap.objs.size := ⟨_, rfl⟩
 rw [<- hTe] at hT ⊢
 let oT : Obj := { cls := .type "tuple", data := .seq (List.toArray [.int t kc, .bytes c.toArray kd]) }
 let s₁ : Shared := { s with heap := s.heap.push oT }
 have hT1 : s₁.heap.get? T = some oT := by rw [hTe]; exact Heap.get?_push_size _ rfl
 have st : Step s s₁ hc (hc.put T oT) := Step.put S.inn ⟨_, s.toks, rfl, fun _ _ e => Heap.get?_push_of_some _ e⟩ hT hT1
 have Sa : K.H ρ mu lo s₁ (hc.put T oT) := S.step st
 refine o01 (Sa.loose _ (List.mem_of_getElem? hi)) fun ho own => ?_
 have hp : (hc.put T oT) Y.p = none := own.1
 have Cx := Sa.cx
 have W := C.W _ (Sa.inn.of_le Sa.le)
 have hp0 : K.hcb Y.p = none := by
  generalize e : K.hcb Y.p = zz; induction zz with
  | none => rfl
  | some o => rw [Sa.le _ _ e] at hp; exact No.sn hp
 have hxp : Y.x ≠ Y.p := fun e => by have := C.wx; rw [e, hp0] at this; exact No.ft this
 have hdp : Y.dx ≠ Y.p := fun e => by have := C.wd; rw [e, hp0] at this; exact No.ft this
 have gd : Gd K.F (allBut s₁ Y.p) := S.gd.mono (Sa.le.trans (le_allBut Sa.inn hp))
 have rT : Rep K.w.params (hc.put T oT) (.pair .int .byt) (t, c) (.ref T) := ⟨T, _, _, rfl, ⟨oT, 0, PH.put_self, rfl, rfl⟩, ⟨kc, rfl⟩, ⟨kd, rfl⟩⟩
 have r' : RR K.w (hc.put T oT) l items := r.mono fun _ _ k => k.mono st.le
 have hd4 := C.d
 have fin : ∀ s' hd items' n' l', StepX [Y.p] s₁ s' (hc.put T oT) hd -> s'.heap.get? Y.p = some (lobj items' n') -> hd Y.p = none -> RR K.w hd l' items' -> l'.Perm (l ++ [(-t, c)]) -> isHeap l' -> Q .none s' := fun s' hd items' n' l' X ho' hp' rr pm hh' =>
  h s' hd items' n' l' (Cf.H.stepX1 Sa hi X ho') (st.le.trans X.le) rr (pm.trans (List.perm_append_singleton _ _)) hh'
 rcases hA with rfl | ⟨e, h1, h2, h3, h4⟩
 ·exact add_wp (d := K.d - 1) (S.ao.mono (by lia)) Cx.bas Cx.funs gd W hxp hdp Sa.inn hp ho r' hz hh rT fin
 ·refine add_wpH (d := K.d - 1) (e := e) h1 (h3.keeps fun o eo => Heap.get?_push_of_some _ eo) h4 ?_ Cx.bas Cx.funs gd W hxp hdp Sa.inn hp ho r' hz hh rT fin
  rw [h2]
  have := S.ao.mono (e := K.d - 1 + 1) (by lia)
  exact ⟨rfl, this.depth, this.units⟩
theorem wl_add {A' : Around} {c : List UInt8} {e1 : PySem.Expr} {X : Str} {p1 p2 p3 p5 p6 : Pos} {kk : Nat} {Q : Flow -> Shared -> Prop} {E : Value -> Shared -> Prop} (C : LC K I Y) (S : K.H ρ mu lo s hc)
  (hw : ρ "wlst" = some ⟨.val, .ref Y.x⟩) (hX : ρ X = some ⟨.byt, c⟩) (hkX : kOk (K.env.kindOf X) = true) (hdX : (X == ("__debug__" : Str)) = false) (hpl : plainOk e1 = true) (hkw : kOk (K.env.kindOf "wlst") = true) (hline : (p2.endLine == p5.line) = true) (hin : interactive K.env = false)
  (hsw : swapsWith (.Call (.Attribute (.Name "wlst" p1) "add" p2) [.Tuple [e1, .Name X p3] kk p6] [] p5) none p5.line K.env = pure false)
  (he : ∀ Q' : Value -> Shared -> Prop, (∀ t tv s₁ hd items n i l lo', K.H ρ mu lo' s₁ hd -> AddOk K A' Y.p s₁.heap -> lo'[i]? = some (Y.p, lobj items n) -> RR K.w hd l items -> isHeap l -> l.length <= 90000 -> Rep K.w.params hd .int t tv ->
   (∀ s' hd' items' n' l', K.H ρ mu (lo'.set i (Y.p, lobj items' n')) s' hd' -> hd.le hd' -> RR K.w hd' l' items' -> l'.Perm ((-t, c) :: l) -> isHeap l' -> Q .next s') -> Q' tv s₁) -> wpAny (model K.prog K.w) A' (PySem.eval e1 K.env) Q' E s) :
  wpAny (model K.prog K.w) A' (exec (.Expr (.Call (.Attribute (.Name "wlst" p1) "add" p2) [.Tuple [e1, .Name X p3] kk p6] [] p5) p5) K.env) Q E s := by
 refine wpAny_Expr_any ?_ hin hsw
 refine call_inst (by rfl) (by rfl) hline (name_any S hkw (by rfl) hw fun cv r => ?_)
 have : cv = .ref Y.x := r
 subst this
 intro pl
 have Cx := S.cx
 refine meth_add Cx.funs (C.W _ (S.inn.of_le S.le)) ?_
 refine o21 C.wa fun o g ho hdo => ?_
 refine Calls.callWith_function (o := o) (fd := fdOf (workDef "add") .none g) (Calls.evalArgs_plain ?_)
 show wpAny _ _ (spliced [(false, PySem.eval (.Tuple [e1, .Name X p3] kk p6) K.env)]) _ _ _
 refine Calls.spliced_cons (wpAny_Tuple_spliced ?_)
 show wpAny _ _ (spliced (backTo p6 (starEach (e1 :: [.Name X p3]) K.env))) _ _ _
 rw [star_cons hpl]
 refine Calls.spliced_cons (he _ fun t tv s₁ hd items n i l lo' Sa hA hi r hh hz rt fin => ?_)
 show wpAny _ _ (spliced [(false, PySem.eval (.Name X p3) K.env)]) _ _ _
 refine Calls.spliced_cons (name_any Sa hkX hdX hX fun kv rc => Calls.spliced_nil ?_)
 refine ⟨by rw [sizeLine_eq]; simp, Calls.spliced_nil ?_⟩
 exact ⟨⟨Heap.get?_push_of_some _ (Sa.inn _ _ (Sa.le _ _ ho)), hdo⟩, add_pair C Sa hA hi r hh hz rt rc fin⟩
end
end Mine
open Sem (wp)
namespace Mine
noncomputable def Fly (env el : Env) (hE : PH) (q : Sites) (L tL : Addr) (dL : Data) (sE : Shared) (e : Value) (s' : Shared) : Prop :=
 ∃ a base, e = .ref a /\ (∃ h tk g, s' = { sE with heap := h, toks := tk, gens := g }) /\ AllBare s'.gens /\ Air base env [el] a s'.heap /\ (∀ b o, hE b = some o -> base.get? b = some o) /\
  (∃ ps, base.get? tL = some (tabObj ps) /\ TabFor (fun b => base.get? b) q ps) /\ ∃ o, s'.heap.get? L = some o /\ o.data = dL
noncomputable abbrev FlyY (K : Cf) (Y : LY) (hE : PH) (e : Value) (s' : Shared) : Prop := Fly K.env Y.el hE Y.q Y.L Y.tL Y.dL K.s₁ e s'
section
variable {K : Cf} {I : Inp} {Y : LY} {ρ : Rho} {ls : List Rank} {fl : Fl} {cd : List Rank} {ex : List (Addr × Obj)} {s : Shared} {hc : PH} {mu : List Ent} {lo : List (Addr × Obj)} {hE : PH}
theorem fly_of {e : Addr} {h' : Heap} {tk : Nat} {ps : Array Value} {oL : Obj} {rest : List (Addr × Obj)} (C : LC K I Y) (hEk : hE.le K.hcb) (S : K.H ρ mu ((Y.tL, tabObj ps) :: (Y.L, oL) :: rest) s hc) (T : TabFor hc Y.q ps) (hd : oL.data = Y.dL)
  (a : Air (baseOf s.heap [K.env, Y.el]) K.env [Y.el] e h') (u : s.heap.UpToSlots h') : FlyY K Y hE (.ref e) { s with heap := h', toks := tk } := by
 refine o01 (S.loose (Y.tL, tabObj ps) List.mem_cons_self) fun eT ownT => ?_
 refine o01 (S.loose (Y.L, oL) (List.mem_cons_of_mem _ List.mem_cons_self)) fun eL ownL => ?_
 have kb : ∀ b o, hc b = some o -> (baseOf s.heap [K.env, Y.el]).get? b = some o := fun b o e => base_keep C (S.inn b o e) (fun z => by rw [z, S.locout] at e; exact No.ns e) (fun z => by rw [z, ownL.1] at e; exact No.ns e)
 have hne : Y.tL ≠ Y.L := by
  have := (List.nodup_append.mp S.nodup).2.1
  simp only [List.map_cons, List.nodup_cons, List.mem_cons, not_or] at this
  exact this.1.1
 refine ⟨e, _, rfl, ?_, ?_, a, fun b o eb => kb b o (S.le b o (hEk b o eb)), ⟨ps, base_keep C eT ownT.2.1 hne, T.mono kb⟩, ?_⟩
 ·refine o30 S.same fun h t g e => ?_
  exact ⟨h', tk, g, by rw [e]⟩
 ·have := S.bare
  rw [C.gp] at this
  exact this
 ·refine o10 (u Y.L oL eL (fun vs => by rw [hd]; exact C.dLn vs)) fun sl e => ?_
  exact ⟨_, e, hd⟩
theorem Cf.H.caught {h' : Heap} {tk : Nat} {oL : Obj} {i : Nat} (C : LC K I Y) (S : K.H ρ mu lo s hc) (hi : lo[i]? = some (Y.L, oL)) (hd : oL.data = Y.dL)
  (a : (baseOf s.heap [K.env, Y.el]).StaysIn h') (u : s.heap.UpToSlots h') : ∃ sl, K.H ρ mu (lo.set i (Y.L, { oL with slots := sl })) { s with heap := h', toks := tk } hc :=
 Cf.H.aired S hi (fun vs => by rw [hd]; exact C.dLn vs) (fun b o h1 h2 e => a b o (base_keep C e h1 h2)) u
theorem lone_of {base h : Heap} {env : Env} {outer : List Env} {e : Addr} (a : Air base env outer e h) : Lone h e := by
 obtain ⟨_, _, _, L, fl, _, _, oe, vs, T, oT, ts, he, _, hd, _, h2, _⟩ := a
 exact ⟨oe, vs, he, hd, h2⟩
theorem to_handler {e : Addr} {h' : Heap} {tk : Nat} {ps : Array Value} {oL : Obj} {rest : List (Addr × Obj)} {b0 : Stmt} {suite : List Stmt} {pos kp : Pos} {Q : Flow -> Shared -> Prop} {E : Value -> Shared -> Prop} (C : LC K I Y) (S : K.H ρ mu ((Y.tL, tabObj ps) :: (Y.L, oL) :: rest) s hc) (hd : oL.data = Y.dL)
  (a : AirO (baseOf s.heap [K.env, Y.el]) [K.env, Y.el] e h') (u : s.heap.UpToSlots h')
  (h : ∀ h'' oL', oL'.data = Y.dL -> Air (baseOf s.heap [K.env, Y.el]) K.env [Y.el] e h'' -> s.heap.UpToSlots h'' -> K.H ρ mu ((Y.tL, tabObj ps) :: (Y.L, oL') :: rest) { s with heap := h'', toks := tk } hc ->
   wpAny (model K.prog K.w) (K.A.mark (some (.ref e))) (execs (b0 :: suite) K.env) Q (notedBy (model K.prog K.w) (K.A.mark (some (.ref e))) K.env (cameBackBy (model K.prog K.w) K.A K.env E)) { s with heap := h'', toks := tk }) :
  wpAny (model K.prog K.w) K.A (noteFrame (.ref e) K.env) (fun _ sb => wpAny (model K.prog K.w) K.A (setFlight (.ref e) none) (fun _ sd => wpAny (model K.prog K.w) K.A (handleBy (.ref e) K.env [.ExceptHandler (some (.Name "KeyError" kp)) none (b0 :: suite) pos]) Q E sd) E sb) E { s with heap := h', toks := tk } := by
 have back : ∀ h'', Air (baseOf s.heap [K.env, Y.el]) K.env [Y.el] e h'' -> h'.UpToSlots h'' -> ∃ oL', oL'.data = Y.dL /\ K.H ρ mu ((Y.tL, tabObj ps) :: (Y.L, oL') :: rest) { s with heap := h'', toks := tk } hc := fun h'' a'' u'' => by
  refine o10 (Cf.H.caught (tk := tk) (i := 1) C S rfl hd a''.1 (u.trans u'')) fun sl S' => ?_
  exact ⟨{ oL with slots := sl }, hd, S'⟩
 have hkey : K.env.kindOf "KeyError" = some .globalImplicit := by
  show K.env.scope.names.lookup _ = _
  rw [C.sc]; rfl
 refine handle_key (s := { s with heap := h', toks := tk }) (ρ' := ρ) C.fr hkey a (fun h'' a'' u'' => ?_) fun h'' a'' u'' => ?_
 ·refine o11 (back h'' a'' u'') fun oL' _ S' => ?_
  exact ⟨_, _, _, S'⟩
 ·refine o11 (back h'' a'' u'') fun oL' hd' S' => ?_
  exact h h'' oL' hd' a'' (u.trans u'') S'
theorem fly_on {e : Addr} {h' : Heap} {tk : Nat} {ps : Array Value} {oL : Obj} {rest : List (Addr × Obj)} {pos : Pos} {Q : Flow -> Shared -> Prop} {E : Value -> Shared -> Prop} (C : LC K I Y) (hEk : hE.le K.hcb) (S : K.H ρ mu ((Y.tL, tabObj ps) :: (Y.L, oL) :: rest) s hc) (T : TabFor hc Y.q ps) (hd : oL.data = Y.dL)
  (a : Air (baseOf s.heap [K.env, Y.el]) K.env [Y.el] e h') (u : s.heap.UpToSlots h') (h : ∀ e' s', FlyY K Y hE e' s' -> E e' s') :
  wpAny (model K.prog K.w) (K.A.mark (some (.ref e))) (exec (.Raise none none pos) K.env) Q (notedBy (model K.prog K.w) (K.A.mark (some (.ref e))) K.env (cameBackBy (model K.prog K.w) K.A K.env E)) { s with heap := h', toks := tk } := by
 refine air_raise (α := Unit) (s := { s with heap := h', toks := tk }) (by rfl) a fun h1 a1 u1 => ?_
 refine air_noted (s := { s with heap := h1, toks := tk }) C.fr a1 fun h2 a2 u2 => ?_
 refine air_back (s := { s with heap := h2, toks := tk }) a2 fun h3 a3 u3 => ?_
 exact h _ _ (fly_of (s := s) (tk := tk) C hEk S T hd a3 (((u.trans u1).trans u2).trans u3))
theorem fly_pass {e : Value} {E : Value -> Shared -> Prop} (C : LC K I Y) (f : FlyY K Y hE e s) (h : ∀ e' s', FlyY K Y hE e' s' -> E e' s') : notedBy (model K.prog K.w) K.A K.env (cameBackBy (model K.prog K.w) K.A K.env E) e s := by
 obtain ⟨a, base, rfl, ⟨h0, tk0, g0, same⟩, bare, air, k, ⟨ps, eT, T⟩, o, eo, ho⟩ := f
 refine air_noted C.fr air fun h2 a2 u2 => ?_
 refine air_back (s := { s with heap := h2 }) a2 fun h3 a3 u3 => h _ _ ⟨a, base, rfl, ⟨h3, s.toks, g0, by rw [same]⟩, bare, a3, k, ⟨ps, eT, T⟩, ?_⟩
 refine o10 ((u2.trans u3) Y.L o eo (fun vs => by rw [ho]; exact C.dLn vs)) fun sl e => ?_
 exact ⟨_, e, ho⟩
end
end Mine
open Sem (wp)
namespace Mine
section
variable {K : Cf} {I : Inp} {Y : LY} {ρ : Rho} {ls : List Rank} {fl : Fl} {cd : List Rank} {ex : List (Addr × Obj)} {s : Shared} {hc : PH} {mu : List Ent} {lo : List (Addr × Obj)} {hE : PH}
theorem lkind (C : LC K I Y) {y : Str} (h : kOk ((defScope lcasDef).names.lookup y) = true) : kOk (K.env.kindOf y) = true := by
 show kOk (K.env.scope.names.lookup y) = true
 rw [C.sc]; exact h
theorem lbound (C : LC K I Y) {y : Str} (h : ((defScope lcasDef).names.lookup y == some .local || (defScope lcasDef).names.lookup y == some .cell) = true) : bound K.env y = true := by
 show (K.env.scope.names.lookup y == some .local || K.env.scope.names.lookup y == some .cell) = true
 rw [C.sc]; exact h
theorem try_add {c : List UInt8} {X : Str} {p1 p2 p3 p4 p5 p6 p7 p8 p9 p10 p11 p12 p13 p14 p15 p16 p17 p18 p19 p20 p21 p22 p23 p24 p25 : Pos} {kk k1 k2 k3 : Nat} {Q : Flow -> Shared -> Prop} {E : Value -> Shared -> Prop} (C : LC K I Y) (hEk : hE.le K.hcb)
  (S : LS K Y ρ ls fl cd ex s) (hX : ρ X = some ⟨.byt, c⟩) (hkX : kOk ((defScope lcasDef).names.lookup X) = true) (hdX : (X == ("__debug__" : Str)) = false) (hz : ls.length < 80000)
  (h1 : ρ "wlst" = some ⟨.val, .ref Y.x⟩) (h2 : ρ "lookup_stamp" = some ⟨.val, .ref Y.fT⟩) (h3 : ρ "shallows" = some ⟨.val, Y.shv⟩) (l1 : (p2.endLine == p7.line) = true) (l2 : (p16.endLine == p20.line) = true) (hin : interactive K.env = false)
  (s1 : swapsWith (.Call (.Attribute (.Name "wlst" p1) "add" p2) [.Tuple [.Call (.Name "lookup_stamp" p3) [.Name X p4] [] p5, .Name X p6] kk p8] [] p7) none p7.line K.env = pure false)
  (s2 : swapsWith (.Call (.Attribute (.Name "wlst" p15) "add" p16) [.Tuple [.Constant (.int 0) k1 p17, .Name X p18] k2 p19] [] p20) none p20.line K.env = pure false)
  (ok : ∀ ls', askM I ls c = some (some ls') -> ∀ s', LS K Y ρ ls' fl cd ex s' -> Q .next s')
  (bad : askM I ls c = some none -> ∀ e s', FlyY K Y hE e s' -> E e s') :
  K.wp (exec (.Try [.Expr (.Call (.Attribute (.Name "wlst" p1) "add" p2) [.Tuple [.Call (.Name "lookup_stamp" p3) [.Name X p4] [] p5, .Name X p6] kk p8] [] p7) p7]
   [.ExceptHandler (some (.Name "KeyError" p9)) none [.If (.BoolOp .Or [.Compare (.Name "shallows" p10) [.Is] [.Constant .none k3 p11] p12, .UnaryOp .Not (.Name "shallows" p13) p14] p21) [.Raise none none p22] [] p23,
    .Expr (.Call (.Attribute (.Name "wlst" p15) "add" p16) [.Tuple [.Constant (.int 0) k1 p17, .Name X p18] k2 p19] [] p20) p20] p24] [] [] p25) K.env) Q E s := by
 refine LS.out S fun hc ps oL items n l S T hd r hh pm => ?_
 have hlen : l.length < 80000 := by rw [pm.length_eq]; exact hz
 have kX := lkind C hkX
 have kw := lkind C (y := "wlst") (by rfl)
 have ks := lkind C (y := "lookup_stamp") (by rfl)
 have ksh := lkind C (y := "shallows") (by rfl)
 refine wpAny_Try_except (st_cons (K := K) ?_)
 refine wl_add C S h1 hX kX hdX (by rfl) kw l1 hin s1 fun Q' hQ => lam_call (oL := oL) C C.lT S (by simp) hd ks (by rfl) h2 kX hdX hX
  (fun t ht s' hd' cv S' le rt => hQ t cv s' hd' items n 2 l _ S' (.inl rfl) rfl (r.mono fun _ _ k => k.mono le) hh (by lia) rt fun s'' hd'' items' n' l' S'' le' rr pm' hh' => ?_) (fun hno e h' tk s₁ Sa a u => ?_)
 ·exact wpAny_execs_nil (wpAny_execs_nil (ok (ins (-t, c) ls) (by unfold askM; rw [if_pos hz, ht]) s'' ⟨hd'', ps, oL, items', n', l', S'', T.mono (le.trans le'), hd, rr, hh', (pm'.trans (pm.cons _)).trans (ins_perm _ _).symm⟩))
 ·-- it has no time
  have ea : askM I ls c = if I.sh then some (some (ins (-0, c) ls)) else some none := by
   unfold askM
   rw [if_pos hz, hno]
  refine to_handler C Sa hd a u fun h'' oL' hd' a'' u'' Sb => ?_
  refine wpAny_execs_cons (wpAny_If (sh_or (sh := I.sh) Sb ksh (by rfl) h3 (C.sh.mono Sb.le) fun tk' Sc => ?_))
  generalize hsh : I.sh = zz; induction zz with
  | false =>
   rw [hsh] at ea
   exact wpAny_execs_cons (fly_on (s := s₁) (tk := tk') C hEk Sa T hd a'' u'' (bad ea))
  | true =>
   rw [hsh] at ea
   refine wpAny_execs_nil (wpAny_execs_cons ?_)
   refine wl_add C Sc h1 hX kX hdX (by rfl) kw l2 hin s2 fun Q' hQ => wpAny_Constant_int (hQ 0 _ _ hc items n 2 l _ (Sc.step (Step.tok Sc.inn _)) (.inr ⟨e, rfl, rfl, lone_of a'', fun z => ?_⟩) rfl r hh (by lia) ⟨_, rfl⟩ fun s' hd'' items' n' l' S' le rr pm' hh' =>
    wpAny_execs_nil (ok _ ea s' ⟨hd'', ps, oL', items', n', l', S', T.mono le, hd', rr, hh', (pm'.trans (pm.cons _)).trans (ins_perm _ _).symm⟩))
   refine o01 (Sa.loose (Y.p, lobj items n) (by simp)) fun eP ownP => ?_
   have h5 := a''.2.1
   rw [z, base_keep C eP ownP.2.1 fun e => by
    have := (List.nodup_append.mp Sa.nodup).2.1
    simp only [List.map_append, List.map_cons, List.map_nil, List.cons_append, List.nil_append, List.nodup_cons, List.mem_cons, not_or] at this
    exact this.2.1.1 e.symm] at h5
   exact No.sn h5
end
end Mine
open Sem (wp)
namespace Mine
section
variable {K : Cf} {I : Inp} {Y : LY} {ρ : Rho} {ls : List Rank} {fl : Fl} {cd : List Rank} {ex : List (Addr × Obj)} {s : Shared} {hc : PH} {mu : List Ent} {lo : List (Addr × Obj)} {hE : PH}
theorem try_get {D : Str} {t : Ty} {f : List UInt8 -> Option t.den} {fa : Addr} {c : List UInt8} {V fn X : Str} {p1 p2 p3 p4 p5 p6 p7 p8 p9 p10 p11 p12 p13 p14 p15 p16 : Pos} {k1 : Nat} {Q : Flow -> Shared -> Prop} {E : Value -> Shared -> Prop} (C : LC K I Y) (hEk : hE.le K.hcb)
  (hl : ∃ lam cl ca dv, (∀ h, K.hcb.In h -> LamAt h fa lam cl /\ h.IsCell ca (some dv)) /\ SubLam lam D "name" /\ cl.lookup D = some ca /\ Rep K.w.params K.hcb (.dct t) f dv)
  (S : LS K Y ρ ls fl cd ex s) (hX : ρ X = some ⟨.byt, c⟩) (hkX : kOk ((defScope lcasDef).names.lookup X) = true) (hdX : (X == ("__debug__" : Str)) = false)
  (h2 : ρ fn = some ⟨.val, .ref fa⟩) (hkf : kOk ((defScope lcasDef).names.lookup fn) = true) (hdf : (fn == ("__debug__" : Str)) = false) (h3 : ρ "shallows" = some ⟨.val, Y.shv⟩)
  (hY : ((defScope lcasDef).names.lookup V == some .local || (defScope lcasDef).names.lookup V == some .cell) = true) (hYm : free (muL Y.aC Y.aS cd fl) V = true)
  (sw : swapsWith (.Call (.Name fn p2) [.Name X p3] [] p4) (some (.Name V p1)) p5.line K.env = pure false)
  (ok : ∀ y, f c = some y -> ∀ s', LS K Y (ρ.upd V ⟨t, y⟩) ls fl cd ex s' -> Q .next s')
  (skip : f c = none -> I.sh = true -> ∀ s', LS K Y ρ ls fl cd ex s' -> Q .cont s')
  (bad : f c = none -> I.sh = false -> ∀ e s', FlyY K Y hE e s' -> E e s') :
  K.wp (exec (.Try [.Assign [.Name V p1] (.Call (.Name fn p2) [.Name X p3] [] p4) p5]
   [.ExceptHandler (some (.Name "KeyError" p6)) none [.If (.BoolOp .And [.Compare (.Name "shallows" p7) [.IsNot] [.Constant .none k1 p8] p9, .Name "shallows" p10] p11) [.Continue p12] [] p13, .Raise none none p14] p15] [] [] p16) K.env) Q E s := by
 refine LS.out S fun hc ps oL items n l S T hd r hh pm => ?_
 have kX := lkind C hkX
 have kf := lkind C hkf
 have ksh := lkind C (y := "shallows") (by rfl)
 refine wpAny_Try_except (st_cons (K := K) ?_)
 refine wpAny_Assign_Name (lam_call (oL := oL) C hl S (by simp) hd kf hdf h2 kX hdX hX (fun y hy s' hd' cv S' le r' => ?_) (fun hno e h' tk s₁ Sa a u => ?_)) sw
 ·refine StH.store S' (bound_or (lbound C hY)) hYm r' fun s'' S'' => ?_
  exact wpAny_execs_nil (wpAny_execs_nil (ok y hy s'' ⟨hd', ps, oL, items, n, l, S'', T.mono le, hd, r.mono fun _ _ k => k.mono le, hh, pm⟩))
 ·refine to_handler C Sa hd a u fun h'' oL' hd' a'' u'' Sb => ?_
  refine wpAny_execs_cons (wpAny_If (sh_and (sh := I.sh) Sb ksh (by rfl) h3 (C.sh.mono Sb.le) fun tk' Sc => ?_))
  generalize hsh : I.sh = zz; induction zz with
  | false =>
   refine wpAny_execs_nil (wpAny_execs_cons ?_)
   exact fly_on (s := s₁) (tk := tk') C hEk Sa T hd a'' u'' (bad hno hsh)
  | true =>
   refine wpAny_execs_cons (wpAny_Continue ?_)
   exact skip hno hsh _ ⟨hc, ps, oL', items, n, l, Sc, T, hd', r, hh, pm⟩
end
end Mine
open Sem (wp)
namespace Mine
section
variable {K : Cf} {I : Inp} {Y : LY} {ρ : Rho} {ls : List Rank} {fl : Fl} {cd : List Rank} {ex : List (Addr × Obj)} {s : Shared} {hc : PH} {mu : List Ent} {lo : List (Addr × Obj)} {hE : PH} {Q : Flow -> Shared -> Prop} {E : Value -> Shared -> Prop} {n : Nat}
theorem LS.by {m : Sem Flow} (S : LS K Y ρ ls fl cd ex s)
  (h : ∀ (h1 : PH) (ps : Array Value) (oL : Obj) (items : List Value) (nn : Nat), K.hcb.le h1 -> Gd K.F K.hcb -> (K.at h1).S ρ (muL Y.aC Y.aS cd fl) ([(Y.tL, tabObj ps), (Y.L, oL), (Y.p, lobj items nn)] ++ ex) s ->
   (∀ s' ρ' fl' cd', (K.at h1).S ρ' (muL Y.aC Y.aS cd' fl') ([(Y.tL, tabObj ps), (Y.L, oL), (Y.p, lobj items nn)] ++ ex) s' -> LS K Y ρ' ls fl' cd' ex s') ->
   K.wp m Q E s) : K.wp m Q E s := by
 refine LS.out S fun hc ps oL items n l S T hd r hh pm => ?_
 refine h hc ps oL items n S.le S.gd ⟨hc, Cf.H.up S⟩ fun s' ρ' fl' cd' ⟨hc', S'⟩ => ?_
 exact ⟨hc', ps, oL, items, n, l, Cf.H.down S' S.le S.gd, T.mono S'.le, hd, r.mono fun _ _ k => k.mono S'.le, hh, pm⟩
noncomputable def lkinds : Kinds := fun x => (defScope lcasDef).names.lookup x
theorem lkinds_eq (C : LC K I Y) : K.env.kindOf = lkinds := funext fun y => by
 show K.env.scope.names.lookup y = _
 rw [C.sc]; rfl
noncomputable def lbnd (y : Str) : Bool := (defScope lcasDef).names.lookup y == some .local || (defScope lcasDef).names.lookup y == some .cell
theorem EV0 (K : Cf) (n : Nat) : K.EV {} n := (pv_sound user_none n).1
theorem TE0 (K : Cf) (n : Nat) : K.TE {} n := (pv_sound user_none n).2
theorem ls_assign {y : Str} {p1 pos : Pos} {e : PySem.Expr} {t : Ty} {v : t.den} (C : LC K I Y) (S : LS K Y ρ ls fl cd ex s) (ok : pk {} n lkinds (see (muL Y.aC Y.aS cd fl) ρ) e) (hv : pv n (see (muL Y.aC Y.aS cd fl) ρ) e = ⟨t, v⟩) (hf : t.flat = true)
  (hk : lbnd y = true) (hx : free (muL Y.aC Y.aS cd fl) y = true) (hs : swapsWith e (some (.Name y p1)) pos.line K.env = pure false) (h : ∀ s', LS K Y (ρ.upd y ⟨t, v⟩) ls fl cd ex s' -> Q .next s') :
  K.wp (exec (.Assign [.Name y p1] e pos) K.env) Q E s := by
 rw [<- lkinds_eq C] at ok
 refine S.by fun h1 ps oL items nn le gd S1 back => ?_
 refine st_assign (K := K.at h1) (t := t) (y := v) S1 ?_ (lbound C hk) hx hs fun s' S' => h s' (back s' _ _ _ S')
 have := view_g (K := K.at h1) (ρ := ρ) (mu := muL Y.aC Y.aS cd fl) (lo := [(Y.tL, tabObj ps), (Y.L, oL), (Y.p, lobj items nn)] ++ ex) (n := n) (U := {}) (EV0 K n) (e := e) ok (by rw [hv]; exact hf)
 rw [hv] at this
 exact this
theorem ls_if {c : PySem.Expr} {b o : List Stmt} {pos : Pos} {v : Bool} (C : LC K I Y) (S : LS K Y ρ ls fl cd ex s) (ok : tk {} n lkinds (see (muL Y.aC Y.aS cd fl) ρ) c) (hv : tv n (see (muL Y.aC Y.aS cd fl) ρ) c = v)
  (ht : v = true -> ∀ s', LS K Y ρ ls fl cd ex s' -> K.wp (execs b K.env) Q E s') (hf : v = false -> ∀ s', LS K Y ρ ls fl cd ex s' -> K.wp (execs o K.env) Q E s') : K.wp (exec (.If c b o pos) K.env) Q E s := by
 rw [<- lkinds_eq C] at ok
 refine S.by fun h1 ps oL items nn le gd S1 back => ?_
 refine st_if (K := K.at h1) (v := v) S1 ?_ (fun e s' S' => ht e s' (back s' _ _ _ S')) (fun e s' S' => hf e s' (back s' _ _ _ S'))
 have := test_g (K := K.at h1) (ρ := ρ) (mu := muL Y.aC Y.aS cd fl) (lo := [(Y.tL, tabObj ps), (Y.L, oL), (Y.p, lobj items nn)] ++ ex) (n := n) (U := {}) (TE0 K n) (e := c) ok
 rw [hv] at this
 exact this
theorem ls_set {p0 p1 pos : Pos} {ke ve : PySem.Expr} {k : List UInt8} {v : Int} (Ls : List (List UInt8)) (hL : Ls.length <= 100000) (hLf : ∀ j, fl j ≠ none -> j ∈ Ls) (C : LC K I Y) (S : LS K Y ρ ls fl cd ex s)
  (okv : pk {} n lkinds (see (muL Y.aC Y.aS cd fl) ρ) ve) (hv : pv n (see (muL Y.aC Y.aS cd fl) ρ) ve = ⟨.int, v⟩) (okk : pk {} n lkinds (see (muL Y.aC Y.aS cd fl) ρ) ke) (hk : pv n (see (muL Y.aC Y.aS cd fl) ρ) ke = ⟨.byt, k⟩)
  (hs : swapsWith ve (some (.Subscript (.Name "cstates" p0) ke p1)) pos.line K.env = pure false) (h : ∀ s', LS K Y ρ ls (updF fl k v) cd ex s' -> Q .next s') :
  K.wp (exec (.Assign [.Subscript (.Name "cstates" p0) ke p1] ve pos) K.env) Q E s := by
 rw [<- lkinds_eq C] at okv okk
 refine S.by fun h1 ps oL items nn le gd S1 back => ?_
 have gv := view_g (K := K.at h1) (ρ := ρ) (mu := muL Y.aC Y.aS cd fl) (lo := [(Y.tL, tabObj ps), (Y.L, oL), (Y.p, lobj items nn)] ++ ex) (n := n) (U := {}) (EV0 K n) (e := ve) okv (by rw [hv]; rfl)
 have gk := view_g (K := K.at h1) (ρ := ρ) (mu := muL Y.aC Y.aS cd fl) (lo := [(Y.tL, tabObj ps), (Y.L, oL), (Y.p, lobj items nn)] ++ ex) (n := n) (U := {}) (EV0 K n) (e := ke) okk (by rw [hk]; rfl)
 rw [hv] at gv
 rw [hk] at gk
 exact st_set (K := K.at h1) (i := 1) (t := .int) Ls hL hLf S1 rfl gv gk (lkind C (y := "cstates") (by rfl)) (by rfl) hs fun s' S' => h s' (back s' _ _ _ S')
theorem ls_weak {l' : List (Str × TV)} (S : LS K Y ρ ls fl cd ex s) (h : AllR ρ l') (h1 : ofL l' "cands" = some ⟨.val, .ref Y.aC⟩) (h2 : ofL l' "cstates" = some ⟨.val, .ref Y.aS⟩) : LS K Y (ofL l') ls fl cd ex s := by
 refine LS.out S fun hc ps oL items n l S T hd r hh pm => ?_
 refine ⟨hc, ps, oL, items, n, l, Cf.H.weak S (ofL_le h) fun e he _ => ?_, T, hd, r, hh, pm⟩
 simp only [List.mem_cons, List.not_mem_nil, or_false] at he
 rcases he with rfl | rfl
 ·exact h1
 ·exact h2
theorem allR_upd {y : Str} {v : TV} : ∀ {l : List (Str × TV)}, AllR ρ l -> (l.all fun p => !(p.1 == y)) = true -> AllR (ρ.upd y v) l
 | [], _, _ => rfl
 | p :: r, k, h => by
  rw [List.all_cons, Bool.and_eq_true] at h
  refine .cons ?_ (allR_upd k.tl h.2)
  unfold Rho.upd
  rw [if_neg (by simpa using h.1)]; exact k.hd
theorem allM_put {y : Str} {v : TV} {l : List (Str × TV)} {mu : List Ent} (h : AllM (ofL l) mu) (f : free mu y = true) : AllM (ofL ((y, v) :: l)) mu := List.map_inj_left.mpr fun e he => by
 rw [<- allM_get h e he]
 show (if e.name = y then some v else ofL l e.name) = _
 rw [if_neg fun q => by have := List.all_eq_true.mp f e he; simp [q] at this]
noncomputable def apart : List Ent -> Bool
 | [] => true
 | e :: r => (r.all fun e' => !(e'.name == e.name)) && apart r
theorem Cf.S.still : ∀ {mu : List Ent} {ρ : Rho}, K.S ρ mu lo s -> apart mu = true -> K.S (mu.foldl (fun ρ e => ρ.upd e.name e.v) ρ) [] lo s
 | [], _, S, _ => S
 | e :: r, ρ, S, h => by
  refine o10 S ?_; clear S; rintro hc S
  have h := Bool.and_eq_true_iff.mp h
  exact Cf.S.still (mu := r) (Cf.H.freeze (i := 0) S rfl h.1) h.2
noncomputable abbrev LsTurn (K : Cf) (Y : LY) (P : Rho -> List Rank -> Fl -> List Rank -> Prop) (body : List Stmt) (ex : List (Addr × Obj)) (X : Value -> Shared -> Prop) (Q : Flow -> Shared -> Prop) (s : Shared) : Prop :=
 ∀ (Q' : Flow -> Shared -> Prop) (E' : Value -> Shared -> Prop), (∀ f ρ ls fl cd s', (f = .next \/ f = .cont) -> P ρ ls fl cd -> LS K Y ρ ls fl cd ex s' -> Q' f s') -> (∀ v s', Q (.ret v) s' -> Q' (.ret v) s') -> (∀ e s', X e s' -> E' e s') -> K.wp (execs body K.env) Q' E' s
theorem ls_for {y : Str} {p1 pos : Pos} {iter : PySem.Expr} {body : List Stmt} {nsm : Names} (P : Nat -> Rho -> List Rank -> Fl -> List Rank -> Prop) (X : Value -> Shared -> Prop) (C : LC K I Y) (S : LS K Y ρ ls fl cd [] s)
  (ok : pk {} n lkinds ρ iter) (hv : pv n ρ iter = ⟨.lst .byt, nsm⟩) (hn : nsm.length <= 1000) (hy : lbnd y = true) (hym : ∀ cd fl, free (muL Y.aC Y.aS cd fl) y = true)
  (h0 : P 0 ρ ls fl cd)
  (turn : ∀ h1, K.hcb.le h1 -> ∀ j c ρ' ls' fl' cd' ex s, nsm[j]? = some c -> P j ρ' ls' fl' cd' -> LS (K.at h1) Y (ρ'.upd y ⟨.byt, c⟩) ls' fl' cd' ex s -> LsTurn (K.at h1) Y (P (j + 1)) body ex X Q s)
  (pass : ∀ e s', X e s' -> notedBy (model K.prog K.w) K.A K.env (cameBackBy (model K.prog K.w) K.A K.env E) e s')
  (fin : ∀ ρ' ls' fl' cd' s', P nsm.length ρ' ls' fl' cd' -> LS K Y ρ' ls' fl' cd' [] s' -> Q .next s') : K.wp (exec (.For (.Name y p1) iter body [] pos) K.env) Q E s := by
 rw [<- lkinds_eq C] at ok
 refine LS.out S fun hc ps oL items nn l S T hd r hh pm => ?_
 refine stF (n := n) (U := {}) (fun j ρ' mu' lo' hc' => ∃ ls' fl' cd' ps oL items nn l, mu' = muL Y.aC Y.aS cd' fl' /\ lo' = [(Y.tL, tabObj ps), (Y.L, oL), (Y.p, lobj items nn)] /\ TabFor hc' Y.q ps /\ oL.data = Y.dL /\ RR K.w hc' l items /\ isHeap l /\ l.Perm ls' /\ P j ρ' ls' fl' cd')
  X (EV0 K n) S ok (by rw [hv]; exact hn) (fun j ρ' mu' lo' hc' h => ?_) (fun h1 le => ⟨ls, fl, cd, ps, oL, items, nn, l, rfl, rfl, T.mono le, hd, r.mono fun _ _ k => k.mono le, hh, pm, h0⟩) (fun h1 le j c ρ' mu' lo' ex s hc' hj h S1 Q' E' hQ hR hE => ?_) pass (fun ρ' mu' lo' s' hc' h S1 => ?_)
 ·obtain ⟨ls', fl', cd', ps, oL, items, nn, l, em, _⟩ := h
  rw [hv, em]
  show (bound K.env y && free (muL Y.aC Y.aS cd' fl') y) = true
  rw [lbound C hy, hym]; rfl
 ·obtain ⟨ls', fl', cd', ps, oL, items, nn, l, em, eo, T, hd, r, hh, pm, hP⟩ := h
  rw [em, eo] at S1
  revert c
  rw [hv]
  intro c hj S1
  exact turn h1 le j c ρ' ls' fl' cd' ex s hj hP ⟨hc', ps, oL, items, nn, l, S1, T, hd, r, hh, pm⟩ Q' E' (fun f ρ'' ls'' fl'' cd'' s' hf hP' S2 => by
   refine LS.out S2 fun hc'' ps oL items nn l S2 T2 hd2 r2 hh2 pm2 => ?_
   exact hQ f ρ'' _ _ s' hc'' hf ⟨ls'', fl'', cd'', ps, oL, items, nn, l, rfl, rfl, T2, hd2, r2, hh2, pm2, hP'⟩ S2) hR hE
 ·obtain ⟨ls', fl', cd', ps, oL, items, nn, l, em, eo, T, hd, r, hh, pm, hP⟩ := h
  rw [em, eo] at S1
  rw [hv] at hP
  exact fin ρ' ls' fl' cd' s' hP ⟨hc', ps, oL, items, nn, l, S1, T, hd, r, hh, pm⟩
theorem sq_each {σ : Type} {y : Str} {p1 pos : Pos} {iter : PySem.Expr} {body rest : List Stmt} {t : Ty} {l : List t.den} {U : Use} (J : Nat -> σ -> Prop) (R : Nat -> σ -> List (Str × TV)) (M : Nat -> σ -> List Ent) (z : σ) (EV : K.EV U n) (S : K.S (ofL (R 0 z)) (M 0 z) lo s) (h0 : J 0 z) (hz : AllR (ofL (R 0 z)) (R 0 z))
  (ok : pk U n K.env.kindOf (ofL (R 0 z)) iter) (hv : (pv n (ofL (R 0 z)) iter).items = ⟨t, l⟩) (hl : (pv n (ofL (R 0 z)) iter).itemsOk) (hy : bound K.env y = true) (hm : ∀ j z, free (M j z) y = true) (hR : ∀ j z, ((R j z).all fun p => !(p.1 == y)) = true) (hM : ∀ j z, AllM (ofL (R j z)) (M j z))
  (turn : ∀ h1, K.hcb.le h1 -> ∀ j z x ex s, l[j]? = some x -> J j z -> (K.at h1).S (ofL ((y, ⟨t, x⟩) :: R j z)) (M j z) (lo ++ ex) s -> ∀ (Q' : Flow -> Shared -> Prop) (E' : Value -> Shared -> Prop), (∀ z' ρ s', J (j + 1) z' -> AllR ρ (R (j + 1) z') -> (K.at h1).S ρ (M (j + 1) z') (lo ++ ex) s' -> Q' .next s') -> (K.at h1).wp (execs body K.env) Q' E' s)
  (fin : ∀ z s', J l.length z -> K.S (ofL (R l.length z)) (M l.length z) lo s' -> K.wp (execs rest K.env) Q E s') : K.wp (execs (.For (.Name y p1) iter body [] pos :: rest) K.env) Q E s := by
 refine sq_for (n := n) (U := U) (fun j ρ' mu' lo' => ∃ z, J j z /\ AllR ρ' (R j z) /\ mu' = M j z /\ lo' = lo) EV S ok hl (fun j ρ' mu' lo' h => ?_) ⟨z, h0, hz, rfl, rfl⟩ (fun h1 le j x ρ' mu' lo' ex s hx h S Q' E' hQ _ => ?_) (fun ρ' mu' lo' s' h S => ?_)
 ·refine o13 h fun z _ _ em _ => ?_
  rw [em]
  show (bound K.env y && free (M j z) y) = true
  rw [hy, hm]; rfl
 ·refine o13 h fun z hJ hρ em el => ?_
  rw [em, el] at S
  revert x
  rw [hv]
  intro x hx S
  exact turn h1 le j z x ex s hx hJ (Cf.S.to S ((y, ⟨t, x⟩) :: R j z) (.cons (by simp [Rho.upd, bindT, tgOf]) (allR_upd hρ (hR j z))) (allM_put (hM j z) (hm j z))) Q' E' fun z' ρ s' hJ' hρ' S' => hQ _ ρ _ _ s' (.inl rfl) ⟨z', hJ', hρ', rfl, rfl⟩ S'
 ·refine o13 h fun z hJ hρ em el => ?_
  rw [em, el] at S
  rw [hv] at hJ hρ S
  exact fin z s' hJ (Cf.S.to S _ hρ (hM _ z))
end
end Mine
open Sem (wp)
namespace Mine
noncomputable def whileBody : List Stmt := ifBody (stmtAt (defBody lcasDef) 11)
noncomputable def parBody : List Stmt := ifBody (stmtAt (ifBody (stmtAt whileBody 6)) 0)
section
variable {K : Cf} {I : Inp} {Y : LY} {ρ : Rho} {ls : List Rank} {fl : Fl} {cd : List Rank} {ex : List (Addr × Obj)} {s : Shared} {hc : PH} {mu : List Ent} {lo : List (Addr × Obj)} {hE : PH} {Q : Flow -> Shared -> Prop} {E : Value -> Shared -> Prop} {n : Nat}
noncomputable def rhoP (I : Inp) (Y : LY) (cf : Int) : List (Str × TV) := ("cflags", ⟨.int, cf⟩) :: baseL I Y
theorem par_body {Nm : Names} {c : List UInt8} {cf : Int} {r : Option (List Rank × Fl)} (C : LC K I Y) (hEk : hE.le K.hcb) (hin : interactive K.env = false) (hN : Nm.length <= 100000) (hfl : ∀ j, fl j ≠ none -> j ∈ Nm)
  (S : LS K Y ((ofL (rhoP I Y cf)).upd "pcmt" ⟨.byt, c⟩) ls fl cd ex s) (tot : parM I cf [c] ls fl = some r)
  (ok : ∀ ls' fl', r = some (ls', fl') -> ∀ f s', (f = .next \/ f = .cont) -> LS K Y (ofL (rhoP I Y cf)) ls' fl' cd ex s' -> Q f s')
  (bad : r = none -> ∀ e s', FlyY K Y hE e s' -> E e s') :
  K.wp (execs parBody K.env) Q E s := by
 have weak : ∀ {ρ' ls fl s}, LS K Y ρ' ls fl cd ex s -> AllR ρ' (rhoP I Y cf) -> LS K Y (ofL (rhoP I Y cf)) ls fl cd ex s := fun S h => ls_weak S h rfl rfl
 refine st_cons (ls_assign (n := 8) (t := .int) (v := (fl c).getD 0) C S (by walk_at "pk") (by rfl) rfl (by rfl) (by rfl) (by rfl) fun s1 S1 => ?_)
 replace tot : (if Builtin.bitAnd ((fl c).getD 0) cf = cf then some (some (ls, fl)) else match I.T c with
   | none => if I.sh then some (some (ls, fl)) else some none
   | some t => if t < I.ms then some (some (ls, fl)) else if ls.length < 80000 then some (some (ins (-t, c) ls, updF fl c (Builtin.bitOr ((fl c).getD 0) cf))) else none) = some r := tot
 refine st_cons (ls_if (n := 8) (v := Builtin.bitAnd ((fl c).getD 0) cf == cf) C S1 (by walk_at "pk") (by rfl) (fun hb s2 S2 => ?_) fun hb s2 S2 => ?_)
 ·rw [if_pos (by simpa using hb)] at tot
  exact wpAny_execs_cons (wpAny_Continue (ok _ _ (Option.some.inj tot).symm .cont s2 (.inr rfl) (weak S2 rfl)))
 ·rw [if_neg (by simpa using hb)] at tot
  refine wpAny_execs_nil ?_
  refine st_cons (try_get C hEk C.lT S2 (c := c) (by rfl) (by rfl) (by rfl) (by rfl) (by rfl) (by rfl) (by rfl) (by rfl) (by rfl) (by rfl) (fun t ht s3 S3 => ?_) (fun hno hsh s3 S3 => ?_) (fun hno hsh e' s3 f => ?_))
  ·rw [ht] at tot
   replace tot : (if t < I.ms then some (some (ls, fl)) else if ls.length < 80000 then some (some (ins (-t, c) ls, updF fl c (Builtin.bitOr ((fl c).getD 0) cf))) else none) = some r := tot
   refine st_cons (ls_if (n := 8) (v := decide (t < I.ms)) C S3 (by walk_at "pk") (by rfl) (fun hb s4 S4 => ?_) fun hb s4 S4 => ?_)
   ·rw [if_pos (by simpa using hb)] at tot
    exact wpAny_execs_cons (wpAny_Continue (ok _ _ (Option.some.inj tot).symm .cont s4 (.inr rfl) (weak S4 rfl)))
   ·rw [if_neg (by simpa using hb)] at tot
    refine wpAny_execs_nil ?_
    refine st_cons (ls_set (n := 8) (k := c) (v := Builtin.bitOr ((fl c).getD 0) cf) Nm hN hfl C S4 (by walk_at "pk") (by rfl) (by walk_at "pk") (by rfl) (by rfl) fun s5 S5 => ?_)
    by_cases hz : ls.length < 80000
    ·rw [if_pos hz] at tot
     refine LS.out S5 fun hc ps oL items nn l S5 T5 hd r hh pm => ?_
     refine st_cons (wl_add (c := c) C S5 (by rfl) (by rfl) (lkind C (by rfl)) (by rfl) (by rfl) (lkind C (by rfl)) (by rfl) hin (by rfl) fun Q' hQ => ?_)
     refine name_any (v := ⟨.int, t⟩) S5 (lkind C (by rfl)) (by rfl) (by rfl) fun tv rt => ?_
     exact hQ t tv _ hc items nn 2 l _ S5 (.inl rfl) rfl r hh (by rw [pm.length_eq]; lia) rt fun s' hd' items' n' l' S' le rr pm' hh' => st_nil (ok _ _ (Option.some.inj tot).symm .next s' (.inl rfl) (weak ⟨hd', ps, oL, items', n', l', S', T5.mono le, hd, rr, hh', (pm'.trans (pm.cons _)).trans (ins_perm _ _).symm⟩ rfl))
    ·rw [if_neg hz] at tot
     exact No.ns tot
  ·rw [hno, hsh] at tot
   exact ok _ _ (Option.some.inj tot).symm .cont s3 (.inr rfl) (weak S3 rfl)
  ·rw [hno, hsh] at tot
   exact bad (Option.some.inj tot).symm e' s3 f
end
end Mine
open Sem (wp)
namespace Mine
theorem drop_at {α : Type} {l : List α} {j : Nat} {x : α} (h : l[j]? = some x) : l.drop j = x :: l.drop (j + 1) := by
 refine o10 (List.getElem?_eq_some_iff.mp h) fun hlt e => ?_
 rw [List.drop_eq_getElem_cons hlt, e]
theorem parM_cons (I : Inp) (cf : Int) (c : List UInt8) (r : Names) (ls : List Rank) (fl : Fl) : parM I cf (c :: r) ls fl = match parM I cf [c] ls fl with
  | some (some (a, b)) => parM I cf r a b
  | some none => some none
  | none => none := by
 have e1 : parM I cf (c :: r) ls fl = (if Builtin.bitAnd ((fl c).getD 0) cf = cf then parM I cf r ls fl else match I.T c with
   | none => if I.sh then parM I cf r ls fl else some none
   | some t => if t < I.ms then parM I cf r ls fl else if ls.length < 80000 then parM I cf r (ins (-t, c) ls) (updF fl c (Builtin.bitOr ((fl c).getD 0) cf)) else none) := rfl
 have e2 : parM I cf [c] ls fl = (if Builtin.bitAnd ((fl c).getD 0) cf = cf then some (some (ls, fl)) else match I.T c with
   | none => if I.sh then some (some (ls, fl)) else some none
   | some t => if t < I.ms then some (some (ls, fl)) else if ls.length < 80000 then some (some (ins (-t, c) ls, updF fl c (Builtin.bitOr ((fl c).getD 0) cf))) else none) := rfl
 rw [e1, e2]
 split
 ·rfl
 ·split
  ·split <;> rfl
  ·split
   ·rfl
   ·split <;> rfl
noncomputable def Keys (Nm : Names) (fl : Fl) : Prop := ∀ j, fl j ≠ none -> j ∈ Nm
theorem Keys.upd {Nm : Names} {fl : Fl} {c : List UInt8} {f : Int} (h : Keys Nm fl) (hc : c ∈ Nm) : Keys Nm (updF fl c f) := fun j hj => by
 unfold updF at hj
 split at hj
 ·subst_vars; exact hc
 ·exact h j hj
theorem par_keys {I : Inp} {cf : Int} {Nm : Names} : ∀ (ps : Names) {ls ls' : List Rank} {fl fl' : Fl}, Keys Nm fl -> (∀ c ∈ ps, c ∈ Nm) -> parM I cf ps ls fl = some (some (ls', fl')) -> Keys Nm fl'
 | [], ls, ls', fl, fl', h, _, e => by cases e; exact h
 | c :: r, ls, ls', fl, fl', h, hm, e => by
  have hr := fun d hd => hm d (List.mem_cons_of_mem _ hd)
  unfold parM at e
  split at e
  ·exact par_keys r h hr e
  ·split at e
   ·split at e
    ·exact par_keys r h hr e
    ·cases e
   ·split at e
    ·exact par_keys r h hr e
    ·split at e
     ·exact par_keys r (h.upd (hm c List.mem_cons_self)) hr e
     ·exact No.ns e
noncomputable abbrev Sorted (ls : List Rank) : Prop := ls.Pairwise rle
theorem ins_sorted (y : Rank) : ∀ {l : List Rank}, Sorted l -> Sorted (ins y l)
 | [], _ => by simp [ins, Sorted]
 | z :: r, h => by
  unfold ins
  split
  ·rename_i hlt
   refine List.pairwise_cons.mpr ⟨fun w hw => ?_, h⟩
   have h1 : rle y z := rle_of_lt hlt
   rcases List.mem_cons.mp hw with rfl | hw
   ·exact h1
   ·exact rle_trans h1 ((List.pairwise_cons.mp h).1 w hw)
  ·rename_i hlt
   have h1 : rle z y := by unfold rle; simpa using hlt
   refine o01 (List.pairwise_cons.mp h) fun h2 h3 => ?_
   refine List.pairwise_cons.mpr ⟨fun w hw => ?_, ins_sorted y h3⟩
   rcases List.mem_cons.mp ((ins_perm y r).mem_iff.mp hw) with rfl | hw
   ·exact h1
   ·exact h2 w hw
theorem par_sorted {I : Inp} {cf : Int} : ∀ (ps : Names) {ls ls' : List Rank} {fl fl' : Fl}, Sorted ls -> parM I cf ps ls fl = some (some (ls', fl')) -> Sorted ls'
 | [], ls, ls', fl, fl', h, e => by cases e; exact h
 | c :: r, ls, ls', fl, fl', h, e => by
  unfold parM at e
  split at e
  ·exact par_sorted r h e
  ·split at e
   ·split at e
    ·exact par_sorted r h e
    ·cases e
   ·split at e
    ·exact par_sorted r h e
    ·split at e
     ·exact par_sorted r (ins_sorted _ h) e
     ·exact No.ns e
theorem heap_head {l ls : List Rank} {y : Rank} (hh : isHeap l) (pm : l.Perm (y :: ls)) (hs : Sorted (y :: ls)) : qat l 0 = y := by
 have hl : 0 < l.length := by rw [pm.length_eq]; simp
 have hm : qat l 0 ∈ l := by
  unfold qat
  rw [List.getD_eq_getElem?_getD, List.getElem?_eq_getElem hl]
  exact List.getElem_mem hl
 have h1 : rle y (qat l 0) := by
  rcases List.mem_cons.mp (pm.mem_iff.mp hm) with e | e
  ·rw [e]; exact rle_refl _
  ·exact (List.pairwise_cons.mp hs).1 _ e
 have h2 : rle (qat l 0) y := by
  refine o10 (List.mem_iff_getElem.mp (pm.mem_iff.mpr (List.mem_cons_self (a := y) (l := ls)))) fun i zz => o10 zz fun hi e => ?_
  have := heap_min hh i hi
  have e2 : qat l i = y := by
   unfold qat
   rw [List.getD_eq_getElem?_getD, List.getElem?_eq_getElem hi, <- e]; rfl
  rw [e2] at this; exact this
 exact rle_antisymm h2 h1
section
variable {K : Cf} {I : Inp} {Y : LY} {ρ : Rho} {ls : List Rank} {fl : Fl} {cd : List Rank} {ex : List (Addr × Obj)} {s : Shared} {hc : PH} {mu : List Ent} {lo : List (Addr × Obj)} {hE : PH} {Q : Flow -> Shared -> Prop} {E : Value -> Shared -> Prop} {n : Nat}
theorem turn_pars {Nm : Names} {c : List UInt8} {cf : Int} {ps : Names} {ls' : List Rank} {fl' : Fl} {res : Option (List Rank × Fl)} (C : LC K I Y) (hEk : hE.le K.hcb) (hin : interactive K.env = false) (hN : Nm.length <= 100000) (hfl : Keys Nm fl)
  (hps : I.P c = some ps) (hpN : ∀ d ∈ ps, d ∈ Nm) (hpl : ps.length <= 1000)
  (S : LS K Y (ofL (("parents", ⟨.lst .byt, ps⟩) :: rhoP I Y cf)) ls fl cd [] s) (tot : parM I cf ps ls fl = some res)
  (ok : ∀ a b, res = some (a, b) -> ∀ s', LS K Y (ofL (baseL I Y)) a b cd [] s' -> Q .next s')
  (bad : res = none -> ∀ e s', FlyY K Y hE e s' -> E e s') :
  K.wp (exec (stmtAt whileBody 6) K.env) Q E s := by
 have weak : ∀ {ρ' ls fl s}, LS K Y ρ' ls fl cd [] s -> AllR ρ' (baseL I Y) -> LS K Y (ofL (baseL I Y)) ls fl cd [] s := fun S h => ls_weak S h rfl rfl
 refine ls_if (n := 8) (v := !ps.isEmpty) C S (by walk_at "pk") (by rfl) (fun hb s2 S2 => ?_) fun hb s2 S2 => ?_
 ·refine st_cons ?_
  refine ls_for (n := 8) (nsm := ps) (fun j ρ' ls' fl' cd' => AllR ρ' (rhoP I Y cf) /\ cd' = cd /\ Keys Nm fl' /\ parM I cf (ps.drop j) ls' fl' = some res) (fun e s' => FlyY K Y hE e s' /\ res = none) C (ls_weak (l' := ("parents", ⟨.lst .byt, ps⟩) :: rhoP I Y cf) S2 rfl rfl rfl) (by walk_at "pk") (by rfl) hpl (by rfl) (fun _ _ => by rfl) ?_ ?_ ?_ ?_
  ·exact ⟨rfl, rfl, hfl, tot⟩
  ·intro h1 le j d ρ' ls1 fl1 cd1 ex s3 hj ⟨hρ, ecd, hk, htot⟩ S3 Q' E' hQ hR hE'
   have S3 := ls_weak (l' := ("pcmt", ⟨.byt, d⟩) :: rhoP I Y cf) S3 (.cons (by simp [Rho.upd]) (allR_upd hρ (by rfl))) rfl rfl
   rw [drop_at hj, parM_cons] at htot
   have hmem : d ∈ Nm := hpN d (List.mem_of_getElem? hj)
   generalize hone : parM I cf [d] ls1 fl1 = zz; induction zz with
   | none => rw [hone] at htot; exact No.ns htot
   | some o =>
    rw [hone] at htot
    refine par_body (K := K.at h1) (r := o) (C.up le) (hEk.trans le) hin hN hk S3 hone (fun a b ho f s' hf S' => ?_) fun ho e s' f => hE' e s' ⟨f, by rw [ho] at htot; exact (Option.some.inj htot).symm⟩
    rw [ho] at htot hone
    exact hQ f _ a b cd1 s' hf ⟨by rfl, ecd, par_keys [d] hk (all1 hmem) hone, htot⟩ S'
  ·exact fun e s' h => fly_pass C h.1 (bad h.2)
  ·intro ρ' ls1 fl1 cd1 s3 ⟨hρ, ecd, hk, htot⟩ S3
   rw [List.drop_length] at htot
   rw [ecd] at S3
   exact st_nil (ok ls1 fl1 (Option.some.inj htot).symm s3 (weak S3 hρ.tl))
 ·have e : ps = [] := by simpa using hb
  rw [e] at tot
  exact st_nil (ok ls fl (Option.some.inj tot).symm s2 (weak S2 rfl))
end
end Mine
open Sem (wp)
namespace Mine
section
variable {K : Cf} {I : Inp} {Y : LY} {ρ : Rho} {ls : List Rank} {fl : Fl} {cd : List Rank} {ex : List (Addr × Obj)} {s : Shared} {hc : PH} {mu : List Ent} {lo : List (Addr × Obj)} {hE : PH} {Q : Flow -> Shared -> Prop} {E : Value -> Shared -> Prop} {n : Nat}
theorem wl_get {y : Rank} {ls0 : List Rank} {p1 p2 p3 p4 pos : Pos} (C : LC K I Y) (hso : Sorted (y :: ls0)) (hz : (y :: ls0).length <= 90000) (S : LS K Y ρ (y :: ls0) fl cd [] s)
  (hw : ρ "wlst" = some ⟨.val, .ref Y.x⟩) (hline : (p3.endLine == p4.line) = true) (hsw : swapsWith (.Call (.Attribute (.Name "wlst" p2) "get" p3) [] [] p4) (some (.Name "result" p1)) pos.line K.env = pure false)
  (h : ∀ s', LS K Y (ρ.upd "result" ⟨.pair .int .byt, (-y.1, y.2)⟩) ls0 fl cd [] s' -> Q .next s') :
  K.wp (exec (.Assign [.Name "result" p1] (.Call (.Attribute (.Name "wlst" p2) "get" p3) [] [] p4) pos) K.env) Q E s := by
 refine LS.out S fun hc ps oL items nn l S T hd r hh pm => ?_
 have Cx := S.cx
 have hin := S.inn.of_le S.le
 have kw := lkind C (y := "wlst") (by rfl)
 refine wpAny_Assign_Name (call_inst (by rfl) (by rfl) hline (name_any S kw (by rfl) hw fun cv rr => ?_)) hsw
 have : cv = .ref Y.x := rr
 subst this
 intro pl
 refine meth_get Cx.funs (C.W _ hin) ?_
 refine o22 Cx.funs.get fun o g ho hdo _ => ?_
 refine Calls.callWith_function (o := o) (fd := fdOf (workDef "get") .none g) (evalArgs_nil3 ⟨⟨ho, hdo⟩, ?_⟩)
 refine o01 (S.loose (Y.p, lobj items nn) (by simp)) fun eP own => ?_
 have hp := own.1
 have hp0 : K.hcb Y.p = none := by
  generalize e : K.hcb Y.p = zz; induction zz with
  | none => rfl
  | some o => rw [S.le _ _ e] at hp; exact No.sn hp
 have hxp : Y.x ≠ Y.p := fun e => by have := C.wx; rw [e, hp0] at this; exact No.ft this
 have hdp : Y.dx ≠ Y.p := fun e => by have := C.wd; rw [e, hp0] at this; exact No.ft this
 have gd : Gd K.F (allBut s Y.p) := S.gd.mono (S.le.trans (le_allBut S.inn hp))
 have hl : l ≠ [] := fun e => by rw [e] at pm; exact absurd pm.length_eq (by simp)
 obtain ⟨l0, z, hlz⟩ : ∃ l0 z, l = l0 ++ [z] := ⟨l.dropLast, l.getLast hl, (List.dropLast_concat_getLast hl).symm⟩
 have hy := heap_head hh pm hso
 have hlen : l0.length <= 90000 := by
  have := pm.length_eq
  rw [hlz, List.length_append, List.length_singleton] at this
  lia
 subst hlz
 have hd4 := C.d
 refine get_wp (d := K.d - 1) (S.ao.mono (by lia)) Cx.funs gd (C.W _ hin) hxp hdp S.inn hp eP r hlen hh fun s' hd' items' n' l' v X ho' hp' rr' pm' hh' rv => ?_
 rw [hy] at pm' rv
 have S' : K.H ρ (muL Y.aC Y.aS cd fl) ([(Y.tL, tabObj ps), (Y.L, oL), (Y.p, lobj items' n')] ++ []) s' hd' := Cf.H.stepX1 (i := 2) S rfl X ho'
 refine StH.store S' (bound_or (lbound C (by rfl))) (by rfl) rv fun s'' S'' => h s'' ⟨hd', ps, oL, items', n', l', S'', T.mono X.le, hd, rr', hh', ?_⟩
 exact (List.perm_cons y).mp (pm'.trans pm)
theorem not_none {a b : Ty} {v : a.den × b.den} {y : Str} {p1 p2 p3 pos : Pos} {k : Nat} {bd : List Stmt} (C : LC K I Y) (S : LS K Y ρ ls fl cd ex s) (hv : ρ y = some ⟨.pair a b, v⟩) (hk : kOk (lkinds y) = true) (hd : (y == ("__debug__" : Str)) = false)
  (h : Q .next s) : K.wp (exec (.If (.Compare (.Name y p1) [.Is] [.Constant .none k p2] p3) bd [] pos) K.env) Q E s := by
 refine LS.out S fun hc ps oL items nn l S _ _ _ _ _ => ?_
 have hk' : kOk (K.env.kindOf y) = true := by rw [lkinds_eq C]; exact hk
 refine wpAny_If (wpAny_isTrue_Compare1 (name_any S hk' hd hv fun cv rr => ?_) (by rfl))
 obtain ⟨v1, v2⟩ := v
 refine o31 rr ?_; rintro a u v rfl _
 exact wpAny_Constant_none (is_ref_none (wpAny_truthy_bool (wpAny_execs_nil h)))
theorem ls_unpack {y : Str} {p0 p1 p2 p3 pos : Pos} {k : Nat} {a : Int} {b : List UInt8} {n1 n2 : Str} (C : LC K I Y) (S : LS K Y ρ ls fl cd ex s) (hv : ρ y = some ⟨.pair .int .byt, (a, b)⟩) (hk : kOk (lkinds y) = true) (hd : (y == ("__debug__" : Str)) = false)
  (h1 : lbnd n1 = true) (h2 : lbnd n2 = true) (f1 : free (muL Y.aC Y.aS cd fl) n1 = true) (f2 : free (muL Y.aC Y.aS cd fl) n2 = true)
  (hw : swappedStores [.Tuple [.Name n1 p1, .Name n2 p2] k p3] (.Name y p0) K.env = pure none) (hs : swapsWithSole [.Tuple [.Name n1 p1, .Name n2 p2] k p3] (.Name y p0) pos.line K.env = pure false)
  (h : ∀ s', LS K Y ((ρ.upd n1 ⟨.int, a⟩).upd n2 ⟨.byt, b⟩) ls fl cd ex s' -> Q .next s') : K.wp (exec (.Assign [.Tuple [.Name n1 p1, .Name n2 p2] k p3] (.Name y p0) pos) K.env) Q E s := by
 have hk' : kOk (K.env.kindOf y) = true := by rw [lkinds_eq C]; exact hk
 refine S.by fun hx ps oL items nn le gd S1 back => ?_
 refine st_unpack (K := K.at hx) (t := .pair .int .byt) (y := (a, b)) S1 (name_g (v := ⟨.pair .int .byt, (a, b)⟩) hk' hd hv) ?_ hw hs fun s' S' => h s' (back s' _ _ _ S')
 show (bound K.env n1 && free _ n1 && bound K.env n2 && free _ n2 && true) = true
 rw [lbound C h1, lbound C h2, f1, f2]; rfl
theorem ls_cand {p1 p2 p3 p4 p5 pos : Pos} {k : Nat} {a : Int} {b : List UInt8} (C : LC K I Y) (S : LS K Y ρ ls fl cd ex s) (hin : interactive K.env = false) (h1 : ρ "dt" = some ⟨.int, a⟩) (h2 : ρ "cmt" = some ⟨.byt, b⟩) (hz : cd.length <= 8000000) (hline : (p2.endLine == p3.line) = true)
  (h : ∀ s', LS K Y ρ ls fl (cd ++ [(a, b)]) ex s' -> Q .next s') :
  K.wp (exec (.Expr (.Call (.Attribute (.Name "cands" p1) "append" p2) [.Tuple [.Name "dt" p4, .Name "cmt" p5] k p6] [] p3) pos) K.env) Q E s := by
 refine S.by fun hx ps oL items nn le gd S1 back => ?_
 have g := pure_g (K := K.at hx) (ρ := ρ) (mu := muL Y.aC Y.aS cd fl) (lo := [(Y.tL, tabObj ps), (Y.L, oL), (Y.p, lobj items nn)] ++ ex) (n := 4) (U := {}) (EV0 K 4) (e := .Tuple [.Name "dt" p4, .Name "cmt" p5] k p6) (by
  show pk {} 4 K.env.kindOf ρ _
  rw [lkinds_eq C]
  walk_at "pk" <;> first | (rw [h1]; rfl) | (rw [h2]; rfl))
 have e : pv 4 ρ (.Tuple [.Name "dt" p4, .Name "cmt" p5] k p6) = ⟨.pair .int .byt, (a, b)⟩ := by
  show (⟨.pair ((ρ "dt").getD tv0).t ((ρ "cmt").getD tv0).t, (((ρ "dt").getD tv0).v, ((ρ "cmt").getD tv0).v)⟩ : TV) = _
  rw [h1, h2]; rfl
 rw [e] at g
 exact st_append (K := K.at hx) (i := 0) (t := .pair .int .byt) (y := (a, b)) S1 rfl g hz (lkind C (y := "cands") (by rfl)) (by rfl) (by rfl) hline hin fun s' S' => h s' (back s' _ _ _ S')
end
end Mine
open Sem (wp)
namespace Mine
theorem bor12 : Builtin.bitOr 1 2 = 3 := by decide +kernel
theorem bor34 : Builtin.bitOr 3 4 = 7 := by decide +kernel
section
variable {K : Cf} {I : Inp} {Y : LY} {ρ : Rho} {ls : List Rank} {fl : Fl} {cd : List Rank} {ex : List (Addr × Obj)} {s : Shared} {hc : PH} {mu : List Ent} {lo : List (Addr × Obj)} {hE : PH} {Q : Flow -> Shared -> Prop} {E : Value -> Shared -> Prop} {n : Nat}
noncomputable def rhoT (I : Inp) (Y : LY) (cf : Int) (y : Rank) : List (Str × TV) := ("dt", ⟨.int, -y.1⟩) :: ("cmt", ⟨.byt, y.2⟩) :: rhoP I Y cf
theorem bitAnd7 : Builtin.bitOr (Builtin.bitOr 1 2) 4 = 7 := by rw [bor12, bor34]
theorem turn_mark {Nm : Names} {y : Rank} {f : Int} (C : LC K I Y) (hin : interactive K.env = false) (hN : Nm.length <= 100000) (hfl : Keys Nm fl) (hcd : cd.length < 1000) (hf : fl y.2 = some f)
  (S : LS K Y (ofL (rhoT I Y (Builtin.bitAnd f 7) y)) ls fl cd ex s)
  (h : ∀ s', LS K Y (ofL (rhoT I Y (flagM f) y)) ls (markM y f fl cd).1 (markM y f fl cd).2 ex s' -> Q .next s') :
  K.wp (exec (stmtAt whileBody 4) K.env) Q E s := by
 have weak : ∀ {ρ' ls fl cd s cf}, LS K Y ρ' ls fl cd ex s -> AllR ρ' (rhoT I Y cf y) -> LS K Y (ofL (rhoT I Y cf y)) ls fl cd ex s := fun S h => ls_weak S h rfl rfl
 refine ls_if (n := 8) (v := Builtin.bitAnd f 7 == 3) C S (by walk_at "pk") ?_ (fun hb s2 S2 => ?_) fun hb s2 S2 => ?_
 ·show (Builtin.bitAnd f 7 == Builtin.bitOr 1 2) = _
  rw [bor12]
 ·have hb : Builtin.bitAnd f 7 = 3 := by simpa using hb
  have e1 : flagM f = Builtin.bitOr (Builtin.bitAnd f 7) 4 := by unfold flagM; rw [if_pos hb]
  have e2 : ((fl y.2).getD 0) = f := by rw [hf]; rfl
  refine st_cons (ls_if (n := 8) (v := !(Builtin.bitAnd f 8 == 8)) C S2 ?_ ?_ (fun hb2 s3 S3 => ?_) fun hb2 s3 S3 => ?_)
  ·walk_at "pk"
   show (fl y.2).isSome = true
   rw [hf]; rfl
  ·show (!(Builtin.bitAnd ((fl y.2).getD 0) 8 == 8)) = _
   rw [e2]
  ·have hb2 : ¬ Builtin.bitAnd f 8 = 8 := by simpa using hb2
   have em : markM y f fl cd = (updF fl y.2 (Builtin.bitOr f 8), cd ++ [(-y.1, y.2)]) := by unfold markM; rw [if_pos ⟨hb, hb2⟩]
   rw [em] at h
   refine st_cons (ls_set (n := 8) (k := y.2) (v := Builtin.bitOr f 8) Nm hN hfl C S3 ?_ ?_ (by walk_at "pk") (by rfl) (by rfl) fun s4 S4 => ?_)
   ·walk_at "pk"
    show (fl y.2).isSome = true
    rw [hf]; rfl
   ·show (⟨.int, Builtin.bitOr ((fl y.2).getD 0) 8⟩ : TV) = _
    rw [e2]
   ·refine st_cons (ls_cand (a := -y.1) (b := y.2) C S4 hin (by rfl) (by rfl) (by lia) (by rfl) fun s5 S5 => st_nil ?_)
    refine st_cons (ls_assign (n := 8) (t := .int) (v := Builtin.bitOr (Builtin.bitAnd f 7) 4) C S5 (by walk_at "pk") (by rfl) rfl (by rfl) (by rfl) (by rfl) fun s6 S6 => st_nil ?_)
    refine h s6 (weak S6 (by rw [e1]; rfl))
  ·have hb2 : Builtin.bitAnd f 8 = 8 := by simpa using hb2
   have em : markM y f fl cd = (fl, cd) := by unfold markM; rw [if_neg (fun h => h.2 hb2)]
   rw [em] at h
   refine st_nil ?_
   refine st_cons (ls_assign (n := 8) (t := .int) (v := Builtin.bitOr (Builtin.bitAnd f 7) 4) C S3 (by walk_at "pk") (by rfl) rfl (by rfl) (by rfl) (by rfl) fun s6 S6 => st_nil ?_)
   refine h s6 (weak S6 (by rw [e1]; rfl))
 ·have hb : ¬ Builtin.bitAnd f 7 = 3 := by simpa using hb
  have e1 : flagM f = Builtin.bitAnd f 7 := by unfold flagM; rw [if_neg hb]
  have em : markM y f fl cd = (fl, cd) := by unfold markM; rw [if_neg (fun h => hb h.1)]
  rw [em, e1] at h
  exact st_nil (h s2 S2)
theorem turn_walk {Nm : Names} {y : Rank} {ls0 : List Rank} {res : Option Qst} (C : LC K I Y) (hEk : hE.le K.hcb) (hin : interactive K.env = false) (hN : Nm.length <= 100000) (hfl : Keys Nm fl)
  (hPN : ∀ c ps, I.P c = some ps -> (∀ d ∈ ps, d ∈ Nm) /\ ps.length <= 1000) (hso : Sorted (y :: ls0)) (hz : (y :: ls0).length <= 90000)
  (S : LS K Y (ofL (baseL I Y)) (y :: ls0) fl cd [] s) (tot : turnM I (y :: ls0) fl cd = some res)
  (ok : ∀ a b c, res = some (a, b, c) -> ∀ f s', (f = .next \/ f = .cont) -> LS K Y (ofL (baseL I Y)) a b c [] s' -> Q f s')
  (bad : res = none -> ∀ e s', FlyY K Y hE e s' -> E e s') :
  K.wp (execs whileBody K.env) Q E s := by
 unfold turnM at tot
 simp only at tot
 generalize hf : fl y.2 = zz; induction zz with
 | none => rw [hf] at tot; exact No.ns tot
 | some f =>
 rw [hf] at tot
 simp only at tot
 by_cases hcd : cd.length < 1000
 case neg => rw [if_neg hcd] at tot; exact No.ns tot
 rw [if_pos hcd] at tot
 have e2 : ((fl y.2).getD 0) = f := by rw [hf]; rfl
 refine st_cons (wl_get C hso hz S (by rfl) (by rfl) (by rfl) fun s1 S1 => ?_)
 refine st_cons (not_none (a := .int) (b := .byt) C S1 (by rfl) (by rfl) (by rfl) ?_)
 refine st_cons (ls_unpack (a := -y.1) (b := y.2) C S1 (by rfl) (by rfl) (by rfl) (by rfl) (by rfl) (by rfl) (by rfl) (by rfl) (by rfl) fun s2 S2 => ?_)
 refine st_cons (ls_assign (n := 8) (t := .int) (v := Builtin.bitAnd f 7) C S2 ?_ ?_ rfl (by rfl) (by rfl) (by rfl) fun s3 S3 => ?_)
 ·walk_at "pk"
  show (fl y.2).isSome = true
  rw [hf]; rfl
 ·show (⟨.int, Builtin.bitAnd ((fl y.2).getD 0) (Builtin.bitOr (Builtin.bitOr 1 2) 4)⟩ : TV) = _
  rw [e2, bitAnd7]
 have S3 := ls_weak (l' := rhoT I Y (Builtin.bitAnd f 7) y) S3 rfl rfl rfl
 refine st_cons (turn_mark C hin hN hfl hcd hf S3 fun s4 S4 => ?_)
 have hkeys : Keys Nm (markM y f fl cd).1 := by
  unfold markM
  split
  ·exact hfl.upd (hfl _ (by rw [hf]; exact nofun))
  ·exact hfl
 have hfm : free (muL Y.aC Y.aS (markM y f fl cd).2 (markM y f fl cd).1) "parents" = true := by rfl
 refine st_cons (try_get C hEk C.lP S4 (c := y.2) (by rfl) (by rfl) (by rfl) (by rfl) (by rfl) (by rfl) (by rfl) (by rfl) hfm (by rfl) (fun ps hps s5 S5 => ?_) (fun hno hsh s5 S5 => ?_) (fun hno hsh e' s5 fl5 => ?_))
 ·rw [hps] at tot
  simp only at tot
  refine o01 (hPN _ _ hps) fun hp1 hp2 => ?_
  have S5 := ls_weak (l' := ("parents", ⟨.lst .byt, ps⟩) :: rhoP I Y (flagM f)) S5 rfl rfl rfl
  generalize hpar : parM I (flagM f) ps ls0 (markM y f fl cd).1 = zz; induction zz with
  | none => rw [hpar] at tot; exact No.ns tot
  | some r =>
   rw [hpar] at tot
   refine st_cons (turn_pars (ls' := []) (fl' := fl) C hEk hin hN hkeys hps hp1 hp2 S5 hpar (fun a b hr s6 S6 => ?_) (fun hr e s6 fl6 => ?_))
   ·subst hr
    have : res = some (a, b, (markM y f fl cd).2) := by obtain rfl := Option.some.inj tot; rfl
    exact st_nil (ok a b _ this .next s6 (.inl rfl) S6)
   ·subst hr
    have : res = none := by obtain rfl := Option.some.inj tot; rfl
    exact bad this e s6 fl6
 ·rw [hno] at tot
  simp only [hsh, if_true] at tot
  have : res = some (ls0, markM y f fl cd) := by obtain rfl := Option.some.inj tot; rfl
  exact ok ls0 (markM y f fl cd).1 (markM y f fl cd).2 this .cont s5 (.inr rfl) (ls_weak S5 rfl rfl rfl)
 ·rw [hno] at tot
  simp only [hsh, Bool.false_eq_true, if_false] at tot
  have : res = none := by obtain rfl := Option.some.inj tot; rfl
  exact bad this e' s5 fl5
end
end Mine
open Sem (wp)
namespace Mine
theorem par_len {I : Inp} {cf : Int} : ∀ (ps : Names) {ls ls' : List Rank} {fl fl' : Fl}, ls.length <= 80000 -> parM I cf ps ls fl = some (some (ls', fl')) -> ls'.length <= 80000
 | [], ls, ls', fl, fl', h, e => by cases e; exact h
 | c :: r, ls, ls', fl, fl', h, e => by
  unfold parM at e
  split at e
  ·exact par_len r h e
  ·split at e
   ·split at e
    ·exact par_len r h e
    ·cases e
   ·split at e
    ·exact par_len r h e
    ·split at e
     ·exact par_len r (by rw [(ins_perm _ _).length_eq]; simp; lia) e
     ·exact No.ns e
theorem mark_keys {Nm : Names} {y : Rank} {f : Int} {fl : Fl} {cd : List Rank} (h : Keys Nm fl) (hf : fl y.2 = some f) : Keys Nm (markM y f fl cd).1 := by
 unfold markM
 split
 ·exact h.upd (h _ (by rw [hf]; exact nofun))
 ·exact h
theorem turn_keeps {I : Inp} {Nm : Names} {ls a : List Rank} {fl b : Fl} {cd c : List Rank} (hPN : ∀ c ps, I.P c = some ps -> (∀ d ∈ ps, d ∈ Nm) /\ ps.length <= 1000) (hk : Keys Nm fl) (hs : Sorted ls) (hl : ls.length <= 80000) (e : turnM I ls fl cd = some (some (a, b, c))) : Keys Nm b /\ Sorted a /\ a.length <= 80000 := by
 induction ls using List.casesOn with
 | nil => exact No.ns e
 | cons y ls0 =>
  unfold turnM at e
  simp only at e
  generalize hf : fl y.2 = zz; induction zz with
  | none => rw [hf] at e; exact No.ns e
  | some f =>
   rw [hf] at e
   simp only at e
   have hs0 := (List.pairwise_cons.mp hs).2
   have hl0 : ls0.length <= 80000 := by simp at hl; lia
   have hk' := mark_keys (cd := cd) hk hf
   split at e
   ·generalize hP : I.P y.2 = zz; induction zz with
    | none =>
     rw [hP] at e
     simp only at e
     split at e
     ·obtain ⟨rfl, h2⟩ : ls0 = a /\ markM y f fl cd = (b, c) := by simpa using e
      rw [h2] at hk'
      exact ⟨hk', hs0, hl0⟩
     ·cases e
    | some ps =>
     rw [hP] at e
     simp only at e
     generalize hpar : parM I (flagM f) ps ls0 (markM y f fl cd).1 = zz; induction zz with
     | none => rw [hpar] at e; exact No.ns e
     | some r =>
      rw [hpar] at e
      induction r with
      | none => cases e
      | some ab =>
       obtain ⟨a', b'⟩ := ab
       cases e
       exact ⟨par_keys ps hk' (hPN _ _ hP).1 hpar, par_sorted ps hs0 hpar, par_len ps hl0 hpar⟩
   ·exact No.ns e
section
variable {K : Cf} {I : Inp} {Y : LY} {ρ : Rho} {ls : List Rank} {fl : Fl} {cd : List Rank} {ex : List (Addr × Obj)} {s : Shared} {hc : PH} {mu : List Ent} {lo : List (Addr × Obj)} {hE : PH} {Q : Flow -> Shared -> Prop} {E : Value -> Shared -> Prop} {n : Nat}
theorem has_perm {l ls : List Rank} (pm : l.Perm ls) (fl : Fl) : hasC l fl = hasC ls fl := by
 unfold hasC
 rw [Bool.eq_iff_iff, List.any_eq_true, List.any_eq_true]
 exact ⟨fun ⟨x, hx, h⟩ => ⟨x, pm.mem_iff.mp hx, h⟩, fun ⟨x, hx, h⟩ => ⟨x, pm.mem_iff.mpr hx, h⟩⟩
theorem wl_test {p1 p2 p3 pos : Pos} {Q : Bool -> Shared -> Prop} (C : LC K I Y) (S : LS K Y ρ ls fl cd ex s)
  (h1 : ρ "_has_candidates" = some ⟨.val, .ref Y.fh⟩) (h2 : ρ "wlst" = some ⟨.val, .ref Y.x⟩) (h3 : ρ "cstates" = some ⟨.val, .ref Y.aS⟩) (h4 : ρ "_DNC" = some ⟨.int, (4 : Int)⟩)
  (h : ∀ s', LS K Y ρ ls fl cd ex s' -> Q (hasC ls fl) s') :
  K.wp (isTrue (.Call (.Name "_has_candidates" p1) [.Name "wlst" p2, .Name "cstates" p3] [] pos) K.env (PySem.eval (.Call (.Name "_has_candidates" p1) [.Name "wlst" p2, .Name "cstates" p3] [] pos) K.env)) Q E s := by
 refine LS.out S fun hc ps oL items nn l S T hd r hh pm => ?_
 have Cx := S.cx
 have hin := S.inn.of_le S.le
 refine wpAny_isTrue_value (PyProof.Rows.Call_Name rfl (name_any S (lkind C (y := "_has_candidates") (by rfl)) (by rfl) h1 fun cv rr => ?_)) (by rfl)
 have : cv = .ref Y.fh := rr
 subst this
 refine o32 C.has fun cD o g hcD hdo hgo => ?_
 refine o01 (hgo _ hin) fun ho hcode => ?_
 refine Calls.callWith_function (o := o) (fd := fdCl hasDef [("_DNC", cD)] g) (Calls.evalArgs_plain ?_)
 show wpAny _ _ (spliced [(false, PySem.eval (.Name "wlst" p2) K.env), (false, PySem.eval (.Name "cstates" p3) K.env)]) _ _ _
 refine Calls.spliced_cons (name_any S (lkind C (y := "wlst") (by rfl)) (by rfl) h2 fun cv rr => ?_)
 have : cv = .ref Y.x := rr
 subst this
 refine Calls.spliced_cons (name_any S (lkind C (y := "cstates") (by rfl)) (by rfl) h3 fun cv rr => Calls.spliced_nil ?_)
 have : cv = .ref Y.aS := rr
 subst this
 refine ⟨⟨ho, hdo⟩, ?_⟩
 refine o01 (S.loose (Y.p, lobj items nn) (by simp)) fun eP ownP => ?_
 refine o02 (S.muts ⟨"cstates", Y.aS, ⟨.dct .int, fl⟩⟩ (by simp)) ?_; rintro ⟨oS, eS, mS⟩ ownS _
 have hov : hc.le (hc.over [Y.aS, Y.p] s.heap) := PH.le_over fun b hb => by
  simp only [List.mem_cons, List.not_mem_nil, or_false] at hb
  rcases hb with rfl | rfl
  ·exact ownS.1
  ·exact ownP.1
 have atP : (hc.over [Y.aS, Y.p] s.heap) Y.p = some (lobj items nn) := by unfold PH.over; rw [if_pos (by simp)]; exact eP
 have atS : (hc.over [Y.aS, Y.p] s.heap) Y.aS = some oS := by unfold PH.over; rw [if_pos (by simp)]; exact eS
 have rp : Rep K.w.params (hc.over [Y.aS, Y.p] s.heap) (.lst (.pair .int .byt)) l (.ref Y.p) := ⟨Y.p, items, rfl, ⟨lobj items nn, nn, atP, rfl, rfl⟩, r.mono fun _ _ k => k.mono hov⟩
 have rc : Rep K.w.params (hc.over [Y.aS, Y.p] s.heap) (.dct .int) fl (.ref Y.aS) := mS.rep hov atS
 have bare : AllBare s.gens := by have := S.bare; rw [C.gp] at this; exact this
 refine o11 (S.sees "_DNC" ⟨.int, (4 : Int)⟩ (lkind C (y := "_DNC") (by rfl)) h4) fun cv rd rr4 => ?_
 refine o10 rr4 ?_; rintro tk4 rfl
 have hkD : K.env.kindOf "_DNC" = some .cell := by rw [lkinds_eq C]; rfl
 have cell : s.heap.IsCell cD (some (.int 4 tk4)) := by
  rcases rd with ⟨e, _⟩ | ⟨e, c, hc', i⟩ | ⟨e, _⟩
  ·rw [hkD] at e; cases e
  ·rw [hcD] at hc'; obtain rfl := Option.some.inj hc'; exact i
  ·rw [hkD] at e; cases e
 have Hf : HasAt s.heap Y.fh := ⟨o, g, [("_DNC", cD)], cD, tk4, ho, hdo, hcode, clos_one (by rfl) (by refine o11 cell fun oc e _ => ?_; rw [e]; rfl), by simp, cell⟩
 have hd4 := C.d
 refine has_wp (d := K.d - 3) (S.ao.mono (by lia)) Cx.bas Cx.funs bare Hf (C.W _ hin) S.inn.over rp rc fun s' same bare' keep => ?_
 rw [has_perm pm]
 refine wpAny_truthy_bool (h s' ⟨hc, ps, oL, items, nn, l, Cf.H.outer (X := []) S same (by rw [C.gp]; exact bare') (fun b o _ e => keep b o e) (fun a ha => nomatch ha), T, hd, r, hh, pm⟩)
theorem while_walk {Nm : Names} {res : Option (Fl × List Rank)} {m : Nat} (C : LC K I Y) (hEk : hE.le K.hcb) (hin : interactive K.env = false) (hN : Nm.length <= 100000) (hfl : Keys Nm fl)
  (hPN : ∀ c ps, I.P c = some ps -> (∀ d ∈ ps, d ∈ Nm) /\ ps.length <= 1000) (hso : Sorted ls) (hz : ls.length <= 80000)
  (S : LS K Y (ofL (baseL I Y)) ls fl cd [] s) (tot : runM I m ls fl cd = some res)
  (ok : ∀ b c, res = some (b, c) -> ∀ s' a, LS K Y (ofL (baseL I Y)) a b c [] s' -> Q .next s')
  (bad : res = none -> ∀ e s', FlyY K Y hE e s' -> E e s') :
  K.wp (exec (stmtAt (defBody lcasDef) 11) K.env) Q E s := by
 refine wpAny_While (codeAny_whileLoop (fun m s => ∃ ls fl cd, runM I m ls fl cd = some res /\ Sorted ls /\ ls.length <= 80000 /\ Keys Nm fl /\ LS K Y (ofL (baseL I Y)) ls fl cd [] s) ?_ m ⟨ls, fl, cd, tot, hso, hz, hfl, S⟩)
 rintro m s ⟨ls, fl, cd, tot, hso, hz, hfl, S⟩
 refine wl_test C S (by rfl) (by rfl) (by rfl) (by rfl) fun s' S' => ?_
 induction m with
 | zero => exact No.ns tot
 | succ m =>
  unfold runM at tot
  generalize hb : hasC ls fl = zz; induction zz with
  | false =>
   rw [hb] at tot
   simp only [Bool.false_eq_true, if_false] at tot ⊢
   have : res = some (fl, cd) := by obtain rfl := Option.some.inj tot; rfl
   exact wpAny_execs_nil (ok fl cd this s' ls S')
  | true =>
   rw [hb] at tot
   simp only [if_true] at tot ⊢
   generalize hls : ls = zz; induction zz with
   | nil => rw [hls] at hb; exact No.ft hb
   | cons y ls0 =>
    subst hls
    generalize ht : turnM I (y :: ls0) fl cd = zz; induction zz with
    | none => rw [ht] at tot; exact No.ns tot
    | some r =>
     rw [ht] at tot
     refine turn_walk (hE := hE) C hEk hin hN hfl hPN hso (by lia) S' ht (fun a b c hr f s3 hf S3 => ?_) (fun hr e s3 f => ?_)
     ·subst hr
      refine o02 (turn_keeps hPN hfl hso hz ht) fun k1 k2 k3 => ?_
      have tot : runM I m a b c = some res := tot
      have : ∃ m', m' < m + 1 /\ ∃ ls fl cd, runM I m' ls fl cd = some res /\ Sorted ls /\ ls.length <= 80000 /\ Keys Nm fl /\ LS K Y (ofL (baseL I Y)) ls fl cd [] s3 := ⟨m, Nat.lt_succ_self m, a, b, c, tot, k2, k3, k1, S3⟩
      rcases hf with rfl | rfl <;> exact this
     ·subst hr
      have hr : res = none := by obtain rfl := Option.some.inj tot; rfl
      exact fly_pass C f (bad hr)
end
end Mine
open Sem (wp)
namespace Mine
section
variable {prog : Program} {w : World} {A : Around} {s : Shared} {hc : PH} {E : Value -> Shared -> Prop}
open SeqAt in
theorem pair_eq (hu : A.units < cLine) (hI : hc.In s.heap) {x y : Rank} {cx cy : Value} (rx : Rep w.params hc (.pair .int .byt) x cx) (ry : Rep w.params hc (.pair .int .byt) y cy) : EqAt A s cx cy (decide (x = y)) := by
 obtain ⟨x1, x2⟩ := x
 obtain ⟨y1, y2⟩ := y
 refine o33 rx ?_; rintro a p q rfl oa ⟨t1, rfl⟩ ⟨t2, rfl⟩
 refine o33 ry ?_; rintro b p' q' rfl ob ⟨u1, rfl⟩ ⟨u2, rfl⟩
 by_cases hab : a = b
 ·subst hab
  have e : ((x1, x2) : Rank) = (y1, y2) := by
   refine o22 oa fun o1 n1 h1 h2 h3 => ?_
   refine o22 ob fun o2 n2 h4 h5 h6 => ?_
   rw [h1] at h4; injection h4 with h4; subst h4
   rw [h3] at h6; injection h6 with h6 _
   simp at h6
   refine o02 h6 ?_; rintro ⟨h7, _⟩ h8 _
   rw [h7, h8]
  rw [decide_eq_true e]
  exact EqAt.same _
 ·refine EqAt.of_refs hab ?_
  have key := RcAt.tuples (A := A) (s := s) (e := fun j => if j = 0 then decide (x1 = y1) else decide (x2 = y2)) (oa.isTuple hI) (ob.isTuple hI) hu (fun j h1 h2 => by
   match j, h1, h2 with
   | 0, _, _ => exact fun prog w E Q h => wpAny_eqBool_int h
   | 1, _, _ => exact fun prog w E Q h => eqBool_bytes (by simpa using h)
   | j + 2, h1, _ => exact absurd h1 (by simp))
  have e2 : ((List.range (min (List.toArray [Value.int x1 t1, .bytes x2.toArray t2]).size (List.toArray [Value.int y1 u1, .bytes y2.toArray u2]).size)).all (fun j => if j = 0 then decide (x1 = y1) else decide (x2 = y2)) && (List.toArray [Value.int x1 t1, .bytes x2.toArray t2]).size == (List.toArray [Value.int y1 u1, .bytes y2.toArray u2]).size) = decide (((x1, x2) : Rank) = (y1, y2)) := by
   rw [Bool.eq_iff_iff]
   simp [List.range_succ, List.range, List.range.loop]
  rw [<- e2]
  exact key
open SeqAt in
theorem notin_pairs {p : Addr} {l : List Rank} {items : List Value} {y : Rank} {v : Value} {Q : Value -> Shared -> Prop} (hu : A.units + 10 < cLine) (hI : hc.In s.heap) (hl : s.heap.IsList p items.toArray) (r : Rel2 (Rep w.params hc (.pair .int .byt)) l items) (ry : Rep w.params hc (.pair .int .byt) y v)
  (h : Q (.bool (decide (y ∉ l))) s) : wpAny (model prog w) A (compareOp .NotIn v (.ref p)) Q E s := by
 have : ∀ u, u ∈ items -> ∃ z ∈ l, Rep w.params hc (.pair .int .byt) z u := fun u hu => by
  refine o10 (List.mem_iff_getElem?.mp hu) fun i hi => ?_
  refine o11 (r.get' hi) fun z hz rz => ?_
  exact ⟨z, List.mem_of_getElem? hz, rz⟩
 have : ∃ e : Value -> Bool, (∀ u z, Rep w.params hc (.pair .int .byt) z u -> e u = decide (z = y)) := by
  classical
  refine ⟨fun u => decide (Rep w.params hc (.pair .int .byt) y u), fun u z rz => ?_⟩
  rw [decide_eq_decide]
  constructor
  ·intro ry'
   obtain ⟨z1, z2⟩ := z
   obtain ⟨y1, y2⟩ := y
   refine o33 rz ?_; rintro a p q rfl oa ⟨t1, rfl⟩ ⟨t2, rfl⟩
   refine o33 ry' ?_; rintro b p' q' e ob ⟨u1, rfl⟩ ⟨u2, rfl⟩
   cases e
   refine o22 oa fun o1 n1 h1 h2 h3 => ?_
   refine o22 ob fun o2 n2 h4 h5 h6 => ?_
   rw [h1] at h4; injection h4 with h4; subst h4
   rw [h3] at h6; injection h6 with h6 _
   simp at h6
   refine o02 h6 ?_; rintro ⟨h7, _⟩ h8 _
   rw [h7, h8]
  ·rintro rfl; exact rz
 refine o10 this fun e he => ?_
 clear this
 refine notIn_listAt e hl (fun u hu' => ?_) ?_
 ·have hu' : u ∈ items := by simpa using hu'
  refine o11 (this u hu') fun z hz rz => ?_
  rw [he u z rz]
  exact pair_eq (A := A.in1) (by simp only [Around.in1_units]; lia) hI rz ry
 ·have e2 : (!items.toArray.any e) = decide (y ∉ l) := by
   rw [Bool.eq_iff_iff]
   simp only [Bool.not_eq_true', decide_eq_true_eq, List.any_toArray, List.any_eq_false]
   constructor
   ·intro hall hy
    refine o10 (List.mem_iff_getElem?.mp hy) fun i hi => ?_
    refine o11 (r.get hi) fun u hu' ru => ?_
    have := hall u (List.mem_of_getElem? hu')
    rw [he u y ru] at this
    simp at this
   ·intro hy u hu'
    refine o11 (this u hu') fun z hz rz => ?_
    rw [he u z rz]
    simp only [decide_eq_true_eq]
    rintro rfl
    exact hy hz
  rw [e2]; exact h
end
noncomputable def sortLam : PySem.Expr := (exPt (stExpr (stmtAt (defBody lcasDef) 14))).2.1.getD 0 cN
section
variable {prog : Program} {w : World} {A : Around} {F : FA} {s : Shared} {hc : PH} {E : Value -> Shared -> Prop} {d : Nat}
theorem key_call {fa : Addr} {a : Int} {b : List UInt8} {v : Value} {Q : Value -> Shared -> Prop} (ao : AOk A (d + 1)) (B : Bas F s.heap) (Fu : Funs F s.heap) (hI : hc.In s.heap)
  (La : ∃ o g, s.heap.get? fa = some o /\ o.data = .func (fdLam sortLam [] g) /\ s.heap.CodeRec g.code g.qualname) (rv : Rep w.params hc (.pair .int .byt) (a, b) v)
  (h : ∀ h' tk k, (∀ b o, s.heap.get? b = some o -> h'.get? b = some o) -> Q (.int a k) { s with heap := h', toks := tk }) : wpAny (model prog w) A (call (.ref fa) [v]) Q E s := by
 refine o22 La fun o g ho hd hcd => ?_
 refine wpAny_call (kla_callFunE (fd := fdLam sortLam [] g) (by have := ao.depth; lia) ho hd (by rfl) (by rfl) rfl hcd ?_)
 show wpAny _ _ (bindArgs (fdLam sortLam [] g) ⟨[v], []⟩ >>= _) _ _ _
 have hb : bindArgs (fdLam sortLam [] g) ⟨[v], []⟩ = pure [(("x" : Str), v)] := by rfl
 rw [hb]
 have hnc : ∀ y ∈ (lamScope sortLam).names, y.2 ≠ .cell := fun y hy => by
  have h1 : ((lamScope sortLam).names.all fun y => y.2 != .cell) = true := by rfl
  simpa using List.all_eq_true.mp h1 y hy
 refine wpAny_pure (wpAny_newFunctionEnv (fun y hy => hnc y hy) (fun y hy => ?_) (fun h₀ hns hsb => ⟨B.nolimit.fresh _ hsb, ?_⟩) (by rfl))
 ·rw [List.mem_singleton.mp hy]; rfl
 have kp : ∀ b o, s.heap.get? b = some o -> h₀.get? b = some o := fun b o e => hsb.extBut b o (Nat.ne_of_lt (Heap.lt_size e)) (Heap.get?_push_of_some _ e)
 refine kla_codeExpr ?_
 have S1 : (plCf prog F w d A (fun z => z = s.gens) s (heapAll s) (fdLam sortLam [] g) fa).H (ofL [("x", ⟨.pair .int .byt, (a, b)⟩)]) [] [] { s with heap := h₀, toks := s.toks + 1 } (heapAll s) := by
  refine frame_pl _ ao (gd_all B Fu (fun _ _ e => e)) rfl (fun _ _ e => e) PH.le.rfl (by rfl) rfl rfl ⟨fun x hx => ?_, fun x y c e => (nomatch (show ([] : List (Str × Addr)).lookup x = some c from e)), fun x c e => (nomatch (show ([] : List (Str × Addr)).lookup x = some c from e))⟩ hns kp fun y' u hu => ?_
  ·have h1 : ((lamScope sortLam).names.all fun y => y.2 != .free) = true := by rfl
   have := List.all_eq_true.mp h1 (x, .free) (lookup_mem hx)
   simp at this
  ·simp only [ofL] at hu
   split at hu
   ·rename_i e
    subst e; obtain rfl := Option.some.inj hu
    exact .inl ⟨by rfl, v, by simp, rv.mono (fun b o e => hI b o e)⟩
   ·exact No.ns hu
 show wpAny _ _ (PySem.eval (lamBody sortLam) _) _ _ _
 refine Subscript_ (name_any (K := plCf prog F w d A (fun z => z = s.gens) s (heapAll s) (fdLam sortLam [] g) fa) S1 (by rfl) (by rfl) (by rfl) fun cv rr => ?_)
 refine o33 rr ?_; rintro T p q rfl oT ⟨t1, rfl⟩ ⟨t2, rfl⟩
 refine wpAny_Constant_int ?_
 have hT := oT.isTuple (h := h₀) (S1.inn)
 refine item_tupleT (s := { s with heap := h₀, toks := s.toks + 1 + 1 }) (l := [.int a t1, .bytes b.toArray t2]) (j := 0) hT (by decide) (by decide) (by rfl) rfl ?_ (by rfl)
 exact h h₀ _ t1 kp
end
end Mine
open Sem (wp)
namespace Mine
section
variable {prog : Program} {w : World} {A : Around} {env : Env} {E : Value -> Shared -> Prop} {s : Shared}
theorem call_kw {o : PySem.Expr} {name : Str} {apos pos : Pos} {kws : List Keyword} {Q : Value -> Shared -> Prop}
  (hbase : attributeBase o name env (eval o env) = eval o env)
  (hfew : methodCallForm (0 + kws.length) [] (backToKw pos (keywordEach kws env)) = true) (hline : (apos.endLine == pos.line) = true)
  (h : wpAny (model prog w) A (eval o env) (fun ov s₁ => ∀ pl, wpAny (model prog w) A (getMethod ov name pl) (fun r sb => wpAny (model prog w) A (callWith pos r.1 r.2 [] (backToKw pos (keywordEach kws env))) Q E sb) E s₁) E s) :
  wpAny (model prog w) A (eval (.Call (.Attribute o name apos) [] kws pos) env) Q E s := by
 rw [arm_eval_Call, hbase]
 refine wpAny_bind (wpAny_mono h (fun ov s₁ hB => wpAny_bind (wpAny_standAt ?_)) fun _ _ e => e)
 have hpos : methodCallPos true o env apos pos = pure pos := by unfold methodCallPos; simp [hline]
 have hform : methodCallForm (([] : List PySem.Expr).length + kws.length) (backTo pos (starEach [] env)) (backToKw pos (keywordEach kws env)) = true := hfew
 unfold methodCall
 rw [hform]
 refine wpAny_bind (wpAny_holding ?_)
 unfold calleeOf
 rw [if_pos rfl]
 exact wpAny_mono (hB _) (fun r sb hO => wpAny_bind (wpAny_of_eq hpos hO)) fun _ _ e => e
end
theorem perm_lift {α β : Type} {f : α -> β} : ∀ {qs : List β} {zs : List α}, qs.Perm (zs.map f) -> ∃ ws : List α, ws.Perm zs /\ ws.map f = qs
 | [], zs, h => by
  have : zs.map f = [] := h.nil_eq.symm
  have : zs = [] := by simpa using this
  subst this
  exact ⟨[], .refl _, rfl⟩
 | q :: qs, zs, h => by
  have hm : q ∈ zs.map f := h.mem_iff.mp List.mem_cons_self
  refine o11 (List.mem_map.mp hm) ?_; rintro z hz rfl
  refine o20 (List.append_of_mem hz) ?_; rintro s t rfl
  have e : ((s ++ z :: t).map f).Perm (f z :: (s ++ t).map f) := by
   have := (List.perm_middle (a := z) (l₁ := s) (l₂ := t)).map f
   simpa using this
  refine o11 (perm_lift (List.Perm.cons_inv (h.trans e))) fun ws w1 w2 => ?_
  exact ⟨z :: ws, (w1.cons z).trans List.perm_middle.symm, by rw [List.map_cons, w2]⟩
theorem rel2_zip {α β : Type} {R : α -> β -> Prop} {l : List α} {m : List β} (r : Rel2 R l m) : ∀ p ∈ l.zip m, R p.1 p.2 := by
 induction r with
 | nil => intro p hp; exact nomatch hp
 | cons r _ ih =>
  intro p hp
  rcases List.mem_cons.mp hp with rfl | hp
  ·exact r
  ·exact ih p hp
theorem rel2_of_all {α β : Type} {R : α -> β -> Prop} : ∀ {ws : List (α × β)}, (∀ p ∈ ws, R p.1 p.2) -> Rel2 R (ws.map (·.1)) (ws.map (·.2))
 | [], _ => .nil
 | p :: r, h => .cons (h p List.mem_cons_self) (rel2_of_all fun q hq => h q (List.mem_cons_of_mem _ hq))
noncomputable def TimeSorted (r : List Rank) : Prop := r.Pairwise fun a b => a.1 <= b.1
section
variable {K : Cf} {ρ : Rho} {mu : List Ent} {lo : List (Addr × Obj)} {s : Shared} {hc : PH} {Q : Value -> Shared -> Prop} {E : Value -> Shared -> Prop}
theorem sort_wp {i : Nat} {x : Str} {a fa : Addr} {l : List Rank} (hd1 : 2 <= K.d) (S : K.H ρ mu lo s hc) (hi : mu[i]? = some ⟨x, a, ⟨.lst (.pair .int .byt), l⟩⟩) (hf : LamIn hc fa sortLam []) (h64 : l.length < 64)
  (h : ∀ s' r, K.H ρ (mu.set i ⟨x, a, ⟨.lst (.pair .int .byt), r⟩⟩) lo s' hc -> r.Perm l -> TimeSorted r -> Q .none s') :
  K.wp (call (.builtin "list.sort") [.ref a] [(Str.ofString "key", .ref fa)]) Q E s := by
 have hmem := List.mem_of_getElem? hi
 refine o02 (S.muts _ hmem) ?_; rintro ⟨o, ho, items, n, rfl, rr⟩ own _
 refine o10 S.ns fun m hns => ?_
 have hlen := rr.length
 refine wpAny_call_entry_kw PyProof.Rows.slot_list_sort ⟨_, ho, rfl⟩ PyProof.Rows.entry_list_sort ?_ (ksk_l1 _ _)
 rw [ksk_t1]
 have FF : Fr {} K.env.locals s.heap m := ⟨hns, (fun b o e => nomatch e), Nat.zero_le _⟩
 have NN : News {} K.env.locals s.heap (restOf s.heap K.env.locals a) := fun p hp => let ⟨h1, h2, _⟩ := restOf_mem hp; ⟨h1, h2, rfl⟩
 have old : ∀ {g : Heap}, News {} K.env.locals g (restOf s.heap K.env.locals a) -> ∀ b o, b ≠ a -> b ≠ K.env.locals -> s.heap.get? b = some o -> g.get? b = some o := fun N b o h1 h2 e => (N _ (mem_restOf e h2 h1)).1
 refine ksk_sort (kz := l.map (·.1)) (vs := items) (n := n) FF NN ho own.2.1 rfl (fun p hp => (restOf_mem hp).2.2) (by simp [hlen]) (by lia) (fun j v k hv hk g tk ow F' N' => ?_) (fun g tk out c F' N' ko => ⟨_, rfl, ?_⟩)
 ·refine o11 (rr.get' hv) fun y hy ry => ?_
  have hk' : k = y.1 := by
   rw [List.getElem?_map, hy] at hk; obtain rfl := Option.some.inj hk <;> rfl
  subst hk'
  have hin : hc.In g := fun b o e => old (fun p hp => N' p (List.mem_append_left _ hp)) b o (fun q => by rw [q, own.1] at e; exact No.ns e) (fun q => by rw [q, S.locout] at e; exact No.ns e) (S.inn b o e)
  refine o01 (S.gd _ (hin.of_le S.le)) fun B Fu => ?_
  refine o22 hf fun oF gF e1 e2 e3 => ?_
  obtain ⟨y1, y2⟩ := y
  refine key_call (F := K.F) (d := K.d - 2) (hc := hc) (a := y1) (b := y2) ?_ B Fu hin ⟨oF, gF, hin _ _ e1, e2, e3.rec hin⟩ ry fun h' tk' k' kp => ?_
  ·have e : K.d - 2 + 1 + 1 = K.d := by lia
   have := S.ao
   rw [<- e] at this
   exact AOk.in1 this
  ·exact ⟨h', tk', k', rfl, rfl, ⟨F'.ns.keeps kp, (fun b o e => nomatch e), F'.above⟩, fun p hp => ⟨kp _ _ (N' p hp).1, (N' p hp).2⟩⟩
 ·refine o12 ko fun qs hp hout hs => ?_
  have : ∃ r : List Rank, Rel2 (Rep K.w.params hc (.pair .int .byt)) r out.toList /\ r.Perm l /\ TimeSorted r := by
   clear h N' F'
   have hz : (l.map (·.1)).zip items = (l.zip items).map (fun p => (p.1.1, p.2)) := by rw [List.zip_map_left]; rfl
   rw [hz] at hp
   refine o11 (perm_lift hp) fun ws w1 w2 => ?_
   have hall : ∀ p ∈ ws, Rep K.w.params hc (.pair .int .byt) p.1 p.2 := fun p hp' => rel2_zip rr p (w1.mem_iff.mp hp')
   refine ⟨ws.map (·.1), ?_, ?_, ?_⟩
   ·rw [hout, <- w2, List.map_map]
    exact rel2_of_all hall
   ·have := w1.map (·.1)
    rw [List.map_fst_zip (by lia)] at this
    exact this
   ·rw [<- w2] at hs
    unfold TimeSorted
    rw [List.pairwise_map] at hs ⊢
    refine hs.imp fun {a b} h1 => ?_
    simpa using h1
  refine o12 this fun r r1 r2 r3 => ?_
  have ho' : g.get? a = some { cls := .type "list", data := .seq (List.toArray out.toList) c } := by
   have := (N' (a, _) List.mem_cons_self).1
   rw [this, Array.toArray_toList]
  exact h { s with heap := g, toks := tk } r (Cf.H.mutN S hi ⟨_, _, rfl⟩ (old fun p hp => N' p (List.mem_cons_of_mem _ hp)) (fun m n => by rw [ns_same n hns]; exact F'.ns) ho' ⟨out.toList, c, rfl, r1⟩) r2 r3
end
end Mine
open Sem (wp)
namespace Mine
section
variable {K : Cf} {I : Inp} {Y : LY} {ρ : Rho} {ls : List Rank} {fl : Fl} {cd : List Rank} {ex : List (Addr × Obj)} {s : Shared} {hc : PH} {mu : List Ent} {lo : List (Addr × Obj)} {hE : PH} {Q : Flow -> Shared -> Prop} {E : Value -> Shared -> Prop} {n : Nat}
noncomputable def rhoR (fl : Fl) (cd : List Rank) (aR : Addr) : List (Str × TV) := [("cstates", ⟨.dct .int, fl⟩), ("cands", ⟨.lst (.pair .int .byt), cd⟩), ("_DNC", ⟨.int, (4 : Int)⟩), ("results", ⟨.val, .ref aR⟩)]
noncomputable def resStep (fl : Fl) (a : List Rank) (y : Rank) : List Rank := if Builtin.bitAnd ((fl y.2).getD 0) 4 ≠ 4 /\ y ∉ a then a ++ [y] else a
theorem and_notin {aR : Addr} {y : Rank} {a : List Rank} {e1 : PySem.Expr} {b1 : Bool} {k : Nat} {p1 p2 p3 p4 p5 p6 : Pos} {whole : Sem Value} (hK : K.env.kindOf = lkinds) (h1 : ρ "dt" = some ⟨.int, y.1⟩) (h2 : ρ "cmt" = some ⟨.byt, y.2⟩) (h3 : ρ "results" = some ⟨.val, .ref aR⟩)
  (g1 : K.GB ρ [⟨"results", aR, ⟨.lst (.pair .int .byt), a⟩⟩] lo (isTrue e1 K.env (PySem.eval e1 K.env)) b1) :
  K.GB ρ [⟨"results", aR, ⟨.lst (.pair .int .byt), a⟩⟩] lo (isTrue (.BoolOp .And [e1, .Compare (.Tuple [.Name "dt" p1, .Name "cmt" p2] k p3) [.NotIn] [.Name "results" p4] p5] p6) K.env whole) (b1 && decide (y ∉ a)) := by
 intro s hc S Q E h
 have hkk : ∀ z, kOk (lkinds z) = true -> kOk (K.env.kindOf z) = true := fun z hz => by rw [hK]; exact hz
 refine isTrue_and (g1 s hc S _ _ fun s1 h1' S1 le1 => ?_)
 induction b1 with
 | false => exact h s1 h1' S1 le1
 | true =>
  have g := pure_g (K := K) (ρ := ρ) (mu := [⟨"results", aR, ⟨.lst (.pair .int .byt), a⟩⟩]) (lo := lo) (n := 4) (U := {}) (EV0 K 4) (e := .Tuple [.Name "dt" p1, .Name "cmt" p2] k p3) (by
   rw [hK]
   walk_at "pk" <;> first | (rw [h1]; rfl) | (rw [h2]; rfl))
  have e : pv 4 ρ (.Tuple [.Name "dt" p1, .Name "cmt" p2] k p3) = ⟨.pair .int .byt, (y.1, y.2)⟩ := by
   show (⟨.pair ((ρ "dt").getD tv0).t ((ρ "cmt").getD tv0).t, (((ρ "dt").getD tv0).v, ((ρ "cmt").getD tv0).v)⟩ : TV) = _
   rw [h1, h2]; rfl
  rw [e] at g
  refine isTrue_and (wpAny_isTrue_Compare1 (g s1 h1' S1 _ _ fun s2 h2' cv S2 le2 r2 => ?_) (by rfl))
  refine name_any S2 (hkk _ (by rfl)) (by rfl) h3 fun rv rr => ?_
  have : rv = .ref aR := rr
  subst this
  refine o02 (S2.muts _ List.mem_cons_self) ?_; rintro ⟨o, ho, items, n, rfl, rel⟩ own _
  have hu := S2.ao.units
  refine notin_pairs (y := y) (l := a) (items := items) (by lia) S2.inn ⟨_, ho, rfl, n, rfl⟩ rel r2 (wpAny_truthy_bool ?_)
  have hh := h s2 h2' S2 (le1.trans le2)
  generalize hb : decide (y ∉ a) = zz; induction zz with
  | false => rw [hb] at hh; exact hh
  | true => rw [hb] at hh; exact isTrue_and_nil hh
theorem res_mem {fl : Fl} : ∀ {cd a : List Rank}, (cd.foldl (resStep fl) a).length <= a.length + cd.length
 | [], a => by simp
 | y :: r, a => by
  rw [List.foldl_cons]
  refine Nat.le_trans (res_mem (cd := r)) ?_
  unfold resStep
  split <;> simp <;> lia
theorem resM_eq (fl : Fl) (cd : List Rank) : resM fl cd = cd.foldl (resStep fl) [] := rfl
theorem tail_turn {h1 hc : PH} {aR : Addr} {y : Rank} {acc : List Rank} (C : LC K I Y) (hin : interactive K.env = false) (hlen : acc.length <= 1000) (hsome : (fl y.2).isSome = true)
  (S : ((K.at hc).at h1).S (ofL (("cmt", ⟨.byt, y.2⟩) :: ("dt", ⟨.int, y.1⟩) :: rhoR fl cd aR)) [⟨"results", aR, ⟨.lst (.pair .int .byt), acc⟩⟩] lo s)
  (h : ∀ s' ρ', ((K.at hc).at h1).S ρ' [⟨"results", aR, ⟨.lst (.pair .int .byt), resStep fl acc y⟩⟩] lo s' -> AllR ρ' (rhoR fl cd aR) -> Q .next s') :
  ((K.at hc).at h1).wp (execs (ifBody (stmtAt (defBody lcasDef) 13)) K.env) Q E s := by
 have hK := lkinds_eq C
 refine sq_if (K := (K.at hc).at h1) (v := (!(Builtin.bitAnd ((fl y.2).getD 0) 4 == 4)) && decide (y ∉ acc)) S (and_notin (K := (K.at hc).at h1) (y := y) hK (by rfl) (by rfl) (by rfl) ?_) (fun hb s5 S5 => ?_) (fun hb s5 S5 => ?_)
 ·have := test_g (K := (K.at hc).at h1) (ρ := ofL (("cmt", ⟨.byt, y.2⟩) :: ("dt", ⟨.int, y.1⟩) :: rhoR fl cd aR)) (mu := [⟨"results", aR, ⟨.lst (.pair .int .byt), acc⟩⟩]) (lo := lo) (n := 8) (U := {}) (TE0 K 8) (e := argAt (stExpr (stmtAt (ifBody (stmtAt (defBody lcasDef) 13)) 0)) 0) (by
   show tk {} 8 K.env.kindOf _ _
   rw [hK]
   walk_at "pk"
   exact hsome)
  exact this
 ·have hb' : Builtin.bitAnd ((fl y.2).getD 0) 4 ≠ 4 /\ y ∉ acc := by simpa using hb
  have e1 : resStep fl acc y = acc ++ [y] := if_pos hb'
  rw [e1] at h
  have g := pure_g (K := (K.at hc).at h1) (ρ := ofL (("cmt", ⟨.byt, y.2⟩) :: ("dt", ⟨.int, y.1⟩) :: rhoR fl cd aR)) (mu := [⟨"results", aR, ⟨.lst (.pair .int .byt), acc⟩⟩]) (lo := lo) (n := 4) (U := {}) (EV0 K 4) (e := argAt (stExpr (stmtAt (ifBody (stmtAt (ifBody (stmtAt (defBody lcasDef) 13)) 0)) 0)) 0) (by
   show pk {} 4 K.env.kindOf _ _
   rw [hK]
   walk_at "pk")
  exact sq_append (K := (K.at hc).at h1) (i := 0) (t := .pair .int .byt) (y := y) S5 rfl g (by lia) (lkind C (y := "results") (by rfl)) (by rfl) (by rfl) (by rfl) hin fun s6 S6 => st_nil (st_nil (h s6 _ S6 rfl))
 ·have e1 : resStep fl acc y = acc := if_neg (by simpa using hb)
  rw [e1] at h
  exact st_nil (st_nil (h s5 _ S5 rfl))
theorem tail_walk {cL : Addr} (C : LC K I Y) (hcode : K.env.code = .ref cL) (hCode : ∀ h, K.hcb.In h -> CodeHd h cL Y.tL) (hq : (lamPos sortLam, K.env.qual ++ "<lambda>") ∈ Y.q) (hqs : Y.q.ok) (hin : interactive K.env = false) (hcd : cd.length < 64)
  (hall : cd.all (fun y => (fl y.2).isSome) = true) (S : LS K Y (ofL (baseL I Y)) ls fl cd [] s)
  (h : ∀ s' hd v r ρ' ps' oL items n, r.Perm (resM fl cd) -> TimeSorted r -> K.H ρ' [] [(Y.tL, tabObj ps'), (Y.L, oL), (Y.p, lobj items n)] s' hd -> TabFor hd Y.q ps' -> oL.data = Y.dL -> Rep K.w.params hd (.lst .byt) (r.map (·.2)) v -> Q (.ret v) s') :
  K.wp (execs ((defBody lcasDef).drop 12) K.env) Q E s := by
 refine LS.out S fun hc ps oL items nn l S T hd r hh pm => ?_
 have hK := lkinds_eq C
 have Gd0 := S.gd
 have le0 := S.le
 refine o10 (Cf.H.freeze (K := K.at hc) (i := 1) (Cf.H.up S) rfl (by rfl)) fun hc1 S1 => ?_
 refine o10 (Cf.H.freeze (K := K.at hc) (i := 0) S1 rfl (by rfl)) fun hc2 S2 => ?_
 let lo : List (Addr × Obj) := [(Y.tL, tabObj ps), (Y.L, oL), (Y.p, lobj items nn)]
 have S2 : (K.at hc).H _ [] lo s hc2 := S2
 refine sq_list (K := K.at hc) (.pair .int .byt) ⟨hc2, S2⟩ (lbound C (y := "results") (by rfl)) (by rfl) fun s3 aR S3 => ?_
 have S3 : (K.at hc).S _ [⟨"results", aR, ⟨.lst (.pair .int .byt), []⟩⟩] lo s3 := S3
 have S3 := Cf.S.to S3 (rhoR fl cd aR) rfl rfl
 refine sq_for (K := K.at hc) (n := 6) (U := {}) (fun j ρ' mu' lo' => AllR ρ' (rhoR fl cd aR) /\ mu' = [⟨"results", aR, ⟨.lst (.pair .int .byt), (cd.take j).foldl (resStep fl) []⟩⟩] /\ lo' = lo) (EV0 K 6) S3 ?_ (by show cd.length <= 1000; lia) (fun j ρ' mu' lo' h => ?_) ⟨rfl, rfl, rfl⟩ (fun h1 le1 j y ρ' mu' lo' ex s4 hy h4 S4 Q' E' hQ' hR => ?_) (fun ρ' mu' lo' s4 h4 S4 => ?_)
 ·show pk {} 6 K.env.kindOf _ _
  rw [hK]
  walk_at "pk"
 ·rw [h.2.1]
  show (bound K.env "dt" && free _ "dt" && bound K.env "cmt" && free _ "cmt" && true) = true
  rw [lbound C (y := "dt") (by rfl), lbound C (y := "cmt") (by rfl)]; rfl
 ·refine o02 h4 fun hρ em eo => ?_
  rw [em, eo] at S4
  replace hy : cd[j]? = some y := hy
  replace S4 : ((K.at hc).at h1).S ((ρ'.upd "dt" ⟨.int, y.1⟩).upd "cmt" ⟨.byt, y.2⟩) [⟨"results", aR, ⟨.lst (.pair .int .byt), (cd.take j).foldl (resStep fl) []⟩⟩] (lo ++ ex) s4 := S4
  have ef : (cd.take (j + 1)).foldl (resStep fl) [] = resStep fl ((cd.take j).foldl (resStep fl) []) y := by rw [List.take_add_one, hy, List.foldl_append]; rfl
  exact tail_turn C hin (Nat.le_trans res_mem (by simp only [List.length_nil, List.length_take]; lia)) (List.all_eq_true.mp hall _ (List.mem_of_getElem? hy))
   (Cf.S.to S4 (("cmt", ⟨.byt, y.2⟩) :: ("dt", ⟨.int, y.1⟩) :: rhoR fl cd aR) (.cons (by rfl) <| .cons (by rfl) <| allR_upd (allR_upd hρ (by rfl)) (by rfl)) rfl)
   fun s' ρ'' S' hr => hQ' _ _ _ _ _ (.inl rfl) ⟨hr, congrArg (fun l => [Ent.mk "results" aR ⟨.lst (.pair .int .byt), l⟩]) ef.symm, rfl⟩ S'
 ·refine o02 h4 fun hρ em eo => ?_
  rw [em, eo] at S4
  have ek : (cd.take (pv 6 (ofL (rhoR fl cd aR)) (stExpr (stmtAt (defBody lcasDef) 13))).items.l.length).foldl (resStep fl) [] = resM fl cd := by
   show (cd.take cd.length).foldl (resStep fl) [] = _
   rw [List.take_length]; rfl
  have S4 : (K.at hc).S ρ' [⟨"results", aR, ⟨.lst (.pair .int .byt), resM fl cd⟩⟩] lo s4 := by rw [<- ek]; exact S4
  have hlen : (resM fl cd).length < 64 := by
   rw [resM_eq]
   have := res_mem (fl := fl) (cd := cd) (a := [])
   simp only [List.length_nil] at this
   lia
  generalize resM fl cd = rs at S4 h hlen
  clear ek
  refine o10 S4 ?_; clear S4; rintro hc4 S4
  have T4 : TabFor hc4 Y.q ps := T.mono S4.le
  refine st_cons (K := K) (wpAny_Expr_any (call_kw (by rfl) (by rfl) (by rfl) (name_any (K := K.at hc) S4 (lkind C (y := "results") (by rfl)) (by rfl) hρ.tl.tl.tl.hd fun cv rr => ?_)) hin (by rfl))
  have : cv = .ref aR := rr
  subst this
  intro pl
  refine o02 (S4.muts _ List.mem_cons_self) ?_; rintro ⟨oR, eR, itR, nR, rfl, relR⟩ ownR _
  refine getMethod_builtin ⟨_, eR, rfl⟩ PySem.F.plainAttrs_list PySem.F.slot_list_sort PySem.F.type_list_sort (fun a e => by cases e; exact ⟨_, eR, rfl⟩) ?_
  refine callWith_builtin_kwB (by rfl) (by rfl) (evalArgs_kw_nil (by rfl) (wpAny_evalAll_cons (wpAny_bind ?_)))
  show wpAny _ _ (PySem.eval (.Lambda (lamParams sortLam) (lamBody sortLam) (lamScope sortLam) (lamPos sortLam)) K.env) _ _ _
  refine make_lam (K := K.at hc) (i := 0) (clos := []) S4 rfl hcode (hCode _ (S4.inn.of_le (le0.trans S4.le))) T4 hq hqs (by rfl) (by rfl) fun s5 hc5 fk ps5 S5 le5 T5 L5 => ?_
  have S5 : (K.at hc).H ρ' [⟨"results", aR, ⟨.lst (.pair .int .byt), rs⟩⟩] [(Y.tL, tabObj ps5), (Y.L, oL), (Y.p, lobj items nn)] s5 hc5 := S5
  refine wpAny_bind (wpAny_standAt (wpAny_pure (wpAny_evalAll_nil ?_)))
  have hd4 := C.d
  refine sort_wp (K := K.at hc) (i := 0) (by show 2 <= K.d; lia) S5 rfl L5 hlen fun s6 r S6 pr ts => ?_
  have S6 : (K.at hc).H ρ' [⟨"results", aR, ⟨.lst (.pair .int .byt), r⟩⟩] [(Y.tL, tabObj ps5), (Y.L, oL), (Y.p, lobj items nn)] s6 hc5 := S6
  have hlr : r.length < 64 := by rw [pr.length_eq]; exact hlen
  refine o10 (Cf.H.freeze (K := (K.at hc).at hc5) (i := 0) (Cf.H.up S6) rfl (by rfl)) fun hc7 S7 => ?_
  have S7 : ((K.at hc).at hc5).H _ [] [(Y.tL, tabObj ps5), (Y.L, oL), (Y.p, lobj items nn)] s6 hc7 := S7
  have S7 : ((K.at hc).at hc5).S (ofL [("results", ⟨.lst (.pair .int .byt), r⟩)]) [] [(Y.tL, tabObj ps5), (Y.L, oL), (Y.p, lobj items nn)] s6 := Cf.S.to ⟨hc7, S7⟩ [("results", ⟨.lst (.pair .int .byt), r⟩)] rfl rfl
  have epv : pv 7 (ofL [("results", ⟨.lst (.pair .int .byt), r⟩)]) (stExpr (stmtAt (defBody lcasDef) 15)) = ⟨.lst .byt, r.map (·.2)⟩ := by
   show (⟨.lst .byt, r.flatMap fun z => [z.2]⟩ : TV) = _
   have : ∀ l : List Rank, (l.flatMap fun z => [z.2]) = l.map (·.2) := fun l => by
    induction l with
    | nil => rfl
    | cons a l ih => rw [List.flatMap_cons, ih]; rfl
   rw [this]
  have hsw : ∀ env : Env, env.scope = defScope lcasDef -> swapsWith (stExpr (stmtAt (defBody lcasDef) 15)) (some (.Name "lcas" ⟨90, 4, 90, 8⟩)) 90 env = pure true := by
   rintro ⟨sc, _, _, _, _, _, _, _, _⟩ rfl
   rfl
  refine sq_comp (K := (K.at hc).at hc5) (n := 6) (U := {}) (EV0 K 6) (TE0 K 6) S7 ?_ (lbound C (y := "lcas") (by rfl)) (by rfl) (hsw K.env C.sc) fun s8 S8 => ?_
  ·show pk {} 7 K.env.kindOf _ _
   rw [hK]
   refine ⟨by rfl, by walk_at "pk", ?_, by rfl, by rfl, fun z hz => ⟨trivial, fun _ => ⟨by walk_at "pk", by rfl⟩⟩⟩
   show r.length <= 1000
   lia
  ·have S8 : ((K.at hc).at hc5).S ((ofL [("results", ⟨.lst (.pair .int .byt), r⟩)]).upd "lcas" (pv 7 (ofL [("results", ⟨.lst (.pair .int .byt), r⟩)]) (stExpr (stmtAt (defBody lcasDef) 15)))) [] [(Y.tL, tabObj ps5), (Y.L, oL), (Y.p, lobj items nn)] s8 := S8
   rw [epv] at S8
   refine st_cons (K := K) (st_ret (K := (K.at hc).at hc5) (t := .lst .byt) (y := r.map (·.2)) S8 ?_ fun s9 hc9 v S9 rv => ?_)
   ·exact name_g (K := (K.at hc).at hc5) (ρ := (ofL [("results", ⟨.lst (.pair .int .byt), r⟩)]).upd "lcas" ⟨.lst .byt, r.map (·.2)⟩) (v := ⟨.lst .byt, r.map (·.2)⟩) (lkind C (y := "lcas") (by rfl)) (by rfl) (by rfl)
   ·exact h s9 hc9 v r _ ps5 oL items nn pr ts (Cf.H.down (Cf.H.down S9 S6.le (fun h i => Gd0 h (i.of_le le0))) le0 Gd0) (T5.mono S9.le) hd rv
end
end Mine
open Sem (wp)
namespace Mine
theorem ask_ok {I : Inp} {ls ls' : List Rank} {c : List UInt8} (h : askM I ls c = some (some ls')) (hs : Sorted ls) : ls.length < 80000 /\ Sorted ls' /\ ls'.length <= 80000 := by
 unfold askM at h
 split at h
 ·rename_i hz
  split at h
  ·cases h
   exact ⟨hz, ins_sorted _ hs, by rw [(ins_perm _ _).length_eq]; simp; lia⟩
  ·split at h
   ·cases h
    exact ⟨hz, ins_sorted _ hs, by rw [(ins_perm _ _).length_eq]; simp; lia⟩
   ·cases h
 ·exact No.ns h
theorem ask_lt {I : Inp} {ls : List Rank} {c : List UInt8} {r : Option (List Rank)} (h : askM I ls c = some r) : ls.length < 80000 := by
 unfold askM at h
 split at h
 ·assumption
 ·exact No.ns h
section
variable {K : Cf} {I : Inp} {Y : LY} {ρ : Rho} {ls : List Rank} {fl : Fl} {cd : List Rank} {ex : List (Addr × Obj)} {s : Shared} {hc : PH} {mu : List Ent} {lo : List (Addr × Obj)} {hE : PH} {Q : Flow -> Shared -> Prop} {E : Value -> Shared -> Prop} {n : Nat}
theorem seeds_walk {Nm c2s : Names} {res : Option (List Rank × Fl)} (C : LC K I Y) (hEk : hE.le K.hcb) (hin : interactive K.env = false) (hN : Nm.length <= 100000) (hfl : Keys Nm fl) (hc2 : ∀ c ∈ c2s, c ∈ Nm) (hl2 : c2s.length <= 1000) (hso : Sorted ls) (hz : ls.length <= 80000)
  (S : LS K Y (ofL (("c2s", ⟨.lst .byt, c2s⟩) :: baseL I Y)) ls fl [] [] s) (tot : seedM I c2s ls fl = some res)
  (ok : ∀ a b, res = some (a, b) -> Sorted a -> a.length <= 80000 -> Keys Nm b -> ∀ s', LS K Y (ofL (baseL I Y)) a b [] [] s' -> Q .next s')
  (bad : res = none -> ∀ e s', FlyY K Y hE e s' -> E e s') :
  K.wp (exec (stmtAt (defBody lcasDef) 10) K.env) Q E s := by
 refine ls_for (n := 8) (nsm := c2s) (fun j ρ' ls' fl' cd' => AllR ρ' (baseL I Y) /\ cd' = [] /\ Keys Nm fl' /\ Sorted ls' /\ ls'.length <= 80000 /\ seedM I (c2s.drop j) ls' fl' = some res) (fun e s' => FlyY K Y hE e s' /\ res = none) C S (by walk_at "pk") (by rfl) hl2 (by rfl) (fun _ _ => by rfl) ?_ ?_ ?_ ?_
 ·exact ⟨rfl, rfl, hfl, hso, hz, tot⟩
 ·intro h1 le j c ρ' ls1 fl1 cd1 ex s3 hj ⟨hρ, ecd, hk, hso1, hz1, htot⟩ S3 Q' E' hQ hR hE'
  have S3 := ls_weak (l' := ("c2", ⟨.byt, c⟩) :: baseL I Y) S3 (.cons (by rfl) (allR_upd hρ (by rfl))) rfl rfl
  have C1 := C.up le
  have hmem : c ∈ Nm := hc2 c (List.mem_of_getElem? hj)
  rw [drop_at hj] at htot
  unfold seedM at htot
  generalize hask : askM I ls1 c = zz; induction zz with
  | none => rw [hask] at htot; exact No.ns htot
  | some r =>
   have hzz := ask_lt hask
   rw [hask] at htot
   refine st_cons (ls_assign (K := K.at h1) (n := 8) (t := .int) (v := (fl1 c).getD 0) C1 S3 (by walk_at "pk") (by rfl) rfl (by rfl) (by rfl) (by rfl) fun s4 S4 => ?_)
   refine st_cons (ls_set (K := K.at h1) (n := 8) (k := c) (v := Builtin.bitOr ((fl1 c).getD 0) 2) Nm hN hk C1 S4 (by walk_at "pk") (by rfl) (by walk_at "pk") (by rfl) (by rfl) fun s5 S5 => ?_)
   refine st_cons (try_add (K := K.at h1) (hE := hE) (c := c) (X := "c2") C1 (hEk.trans le) S5 (by rfl) (by rfl) (by rfl) hzz (by rfl) (by rfl) (by rfl) (by rfl) (by rfl) hin (by rfl) (by rfl) (fun ls2 h2 s6 S6 => st_nil ?_) (fun h2 e s6 f => ?_))
   ·obtain rfl : r = some ls2 := Option.some.inj (hask.symm.trans h2)
    refine o02 (ask_ok hask hso1) fun _ k2 k3 => ?_
    exact hQ _ _ ls2 _ cd1 s6 (.inl rfl) ⟨by rfl, ecd, hk.upd hmem, k2, k3, htot⟩ S6
   ·obtain rfl : r = none := Option.some.inj (hask.symm.trans h2)
    exact hE' e s6 ⟨f, (Option.some.inj htot).symm⟩
 ·exact fun e s' h => fly_pass C h.1 (bad h.2)
 ·intro ρ' ls1 fl1 cd1 s3 ⟨hρ, ecd, hk, hso1, hz1, htot⟩ S3
  rw [List.drop_length] at htot
  rw [ecd] at S3
  exact ok ls1 fl1 (Option.some.inj htot).symm hso1 hz1 hk s3 (ls_weak S3 hρ rfl rfl)
theorem lcas_rest {Nm c2s : Names} {c1 : List UInt8} {m : Nat} {cL : Addr} (C : LC K I Y) (hEk : hE.le K.hcb) (hin : interactive K.env = false) (hN : Nm.length <= 100000) (h1 : c1 ∈ Nm) (hc2 : ∀ c ∈ c2s, c ∈ Nm) (hl2 : c2s.length <= 1000)
  (hPN : ∀ c ps, I.P c = some ps -> (∀ d ∈ ps, d ∈ Nm) /\ ps.length <= 1000)
  (hcode : K.env.code = .ref cL) (hCode : ∀ h, K.hcb.In h -> CodeHd h cL Y.tL) (hq : (lamPos sortLam, K.env.qual ++ "<lambda>") ∈ Y.q) (hqs : Y.q.ok)
  (S : LS K Y (ofL (("c1", ⟨.byt, c1⟩) :: ("c2s", ⟨.lst .byt, c2s⟩) :: baseL I Y)) [] (fun _ => none) [] [] s)
  (tot : ∃ o, lcasM I m c1 c2s = some o) (hcd : ∀ l1 ls fl fl' cd, askM I [] c1 = some (some l1) -> seedM I c2s l1 (updF (fun _ => none) c1 1) = some (some (ls, fl)) -> runM I m ls fl [] = some (some (fl', cd)) -> cd.length < 64)
  (ok : ∀ l1 ls fl fl' cd r, askM I [] c1 = some (some l1) -> seedM I c2s l1 (updF (fun _ => none) c1 1) = some (some (ls, fl)) -> runM I m ls fl [] = some (some (fl', cd)) -> r.Perm (resM fl' cd) -> TimeSorted r ->
   ∀ s' hd v ρ' ps' oL items n, K.H ρ' [] [(Y.tL, tabObj ps'), (Y.L, oL), (Y.p, lobj items n)] s' hd -> TabFor hd Y.q ps' -> oL.data = Y.dL -> Rep K.w.params hd (.lst .byt) (r.map (·.2)) v -> Q (.ret v) s')
  (bad : lcasM I m c1 c2s = some none -> ∀ e s', FlyY K Y hE e s' -> E e s') :
  K.wp (execs ((defBody lcasDef).drop 8) K.env) Q E s := by
 refine o10 tot ?_; clear tot; rintro o tot
 unfold lcasM at tot bad
 refine st_cons (ls_set (n := 8) (k := c1) (v := 1) Nm hN (fun j hj => absurd rfl hj) C S (by walk_at "pk") (by rfl) (by walk_at "pk") (by rfl) (by rfl) fun s1 S1 => ?_)
 have hk1 : Keys Nm (updF (fun _ => none) c1 1) := Keys.upd (fun j hj => absurd rfl hj) h1
 refine st_cons (try_add (hE := hE) (c := c1) (X := "c1") C hEk S1 (by rfl) (by rfl) (by rfl) (by simp) (by rfl) (by rfl) (by rfl) (by rfl) (by rfl) hin (by rfl) (by rfl) (fun l1 ha s2 S2 => ?_) (fun ha e s2 f => ?_))
 case refine_2 => exact bad (by rw [ha]) e s2 f
 refine o02 (ask_ok ha .nil) fun _ k2 k3 => ?_
 rw [ha] at tot bad
 simp only at tot bad
 generalize hs : seedM I c2s l1 (updF (fun _ => none) c1 1) = zz; induction zz with
 | none => rw [hs] at tot; exact No.ns tot
 | some r =>
  rw [hs] at tot bad
  have S2 := ls_weak (l' := ("c2s", ⟨.lst .byt, c2s⟩) :: baseL I Y) S2 rfl rfl rfl
  refine st_cons (seeds_walk C hEk hin hN hk1 hc2 hl2 k2 k3 S2 hs (fun ls fl hr k4 k5 k6 s3 S3 => ?_) (fun hr e s3 f => ?_))
  ·subst hr
   simp only at tot bad
   generalize hrun : runM I m ls fl [] = zz; induction zz with
   | none => rw [hrun] at tot; exact No.ns tot
   | some r2 =>
    rw [hrun] at tot bad
    refine st_cons (while_walk C hEk hin hN k6 hPN k4 k5 S3 hrun (fun fl' cd hr2 s4 ls' S4 => ?_) (fun hr2 e s4 f => ?_))
    ·subst hr2
     simp only at tot
     have hall : cd.all (fun y => (fl' y.2).isSome) = true := by
      split at tot
      ·assumption
      ·exact No.ns tot
     refine tail_walk C hcode hCode hq hqs hin (hcd l1 ls fl fl' cd ha hs hrun) hall S4 fun s5 hd v r ρ' ps' oL items n pr ts S5 T5 hd5 rv => ?_
     exact ok l1 ls fl fl' cd r ha hs hrun pr ts s5 hd v ρ' ps' oL items n S5 T5 hd5 rv
    ·subst hr2
     exact bad rfl e s4 f
  ·subst hr
   exact bad rfl e s3 f
end
end Mine
open Sem (wp)
namespace Mine
noncomputable def stPos : Stmt -> Pos
 | .FunctionDef _ _ _ _ _ _ _ _ _ p => p
 | _ => default
noncomputable def sitesL (qn : Str) : Sites := [(stPos hasDef, (qn ++ (".<locals>." : Str)) ++ ("_has_candidates" : Str)), (lamPos sortLam, (qn ++ (".<locals>." : Str)) ++ ("<lambda>" : Str))]
theorem sitesL_ok (qn : Str) : (sitesL qn).ok := by
 have hne : (stPos hasDef).line ≠ (lamPos sortLam).line := by decide +kernel
 intro a ha b hb h1 h2
 simp only [sitesL, List.mem_cons, List.not_mem_nil, or_false] at ha hb
 rcases ha with rfl | rfl <;> rcases hb with rfl | rfl
 ·rfl
 ·exact absurd h1 hne
 ·exact absurd h1.symm hne
 ·rfl
noncomputable abbrev lcasCf (prog : Program) (F : FA) (w : World) (d : Nat) (A : Around) (sa : Shared) (hE : PH) (g : FuncData) : Cf := frameCf prog F w d A AllBare sa hE lcasDef (.ref F.dLcas) g F.lcas
structure Giv (P : Params) (F : FA) (hE : PH) (I : Inp) (el : Env) (L fP fT : Addr) (dL : Data) (shv : Value) : Prop where
 elk : el.scope.kind ≠ .module
 elf : el.frame = some L
 dLn : ∀ vs, dL ≠ .fields vs
 wa : ∃ o g, hE F.wAdd = some o /\ o.data = .func (fdOf (workDef "add") .none g)
 lP : ∃ lam cl c dv, (∀ h, hE.In h -> LamAt h fP lam cl /\ h.IsCell c (some dv)) /\ SubLam lam "folk" "name" /\ cl.lookup ("folk" : Str) = some c /\ Rep P hE (.dct (.lst .byt)) I.P dv
 lT : ∃ lam cl c dv, (∀ h, hE.In h -> LamAt h fT lam cl /\ h.IsCell c (some dv)) /\ SubLam lam "times" "name" /\ cl.lookup ("times" : Str) = some c /\ Rep P hE (.dct .int) I.T dv
 sh : ShOk hE shv I.sh
 code : ∀ h, hE.In h -> CodeHd h F.cLcas F.tLcas
section
variable {prog : Program} {F : FA} {w : World} {d : Nat} {A : Around} {sa s : Shared} {hE : PH} {g : FuncData} {I : Inp} {el : Env} {L fP fT : Addr} {dL : Data} {shv : Value} {oL : Obj} {ps : Array Value} {Q : Flow -> Shared -> Prop} {E : Value -> Shared -> Prop}
theorem lcas_body {Nm c2s : Names} {c1 : List UInt8} {m : Nat} (G : Giv w.params F hE I el L fP fT dL shv) (hfr : A.frames = some [el]) (hd : 4 <= d) (hcode : g.code = .ref F.cLcas) (hN : Nm.length <= 100000) (h1 : c1 ∈ Nm) (hc2 : ∀ c ∈ c2s, c ∈ Nm) (hl2 : c2s.length <= 1000)
  (hPN : ∀ c ps, I.P c = some ps -> (∀ d ∈ ps, d ∈ Nm) /\ ps.length <= 1000) (T : TabFor hE (sitesL g.qualname) ps) (hdL : oL.data = dL)
  (S : (lcasCf prog F w d A sa hE g).S (bindR ["lookup_parents", "c1", "c2s", "lookup_stamp", "min_stamp", "shallows"] [⟨.val, .ref fP⟩, ⟨.byt, c1⟩, ⟨.lst .byt, c2s⟩, ⟨.val, .ref fT⟩, ⟨.int, I.ms⟩, ⟨.val, shv⟩] fun _ => none) [] [(F.tLcas, tabObj ps), (L, oL)] s)
  (tot : ∃ o, lcasM I m c1 c2s = some o) (hcd : ∀ l1 ls fl fl' cd, askM I [] c1 = some (some l1) -> seedM I c2s l1 (updF (fun _ => none) c1 1) = some (some (ls, fl)) -> runM I m ls fl [] = some (some (fl', cd)) -> cd.length < 64)
  (ok : ∀ l1 ls fl fl' cd r, askM I [] c1 = some (some l1) -> seedM I c2s l1 (updF (fun _ => none) c1 1) = some (some (ls, fl)) -> runM I m ls fl [] = some (some (fl', cd)) -> r.Perm (resM fl' cd) -> TimeSorted r ->
   ∀ s' hd v ρ' ps' oL p items n, (lcasCf prog F w d A sa hE g).H ρ' [] [(F.tLcas, tabObj ps'), (L, oL), (p, lobj items n)] s' hd -> TabFor hd (sitesL g.qualname) ps' -> oL.data = dL -> Rep w.params hd (.lst .byt) (r.map (·.2)) v -> Q (.ret v) s')
  (bad : lcasM I m c1 c2s = some none -> ∀ e s', Fly (lcasCf prog F w d A sa hE g).env el hE (sitesL g.qualname) L F.tLcas dL sa e s' -> E e s') :
  (lcasCf prog F w d A sa hE g).wp (execs (defBody lcasDef) (lcasCf prog F w d A sa hE g).env) Q E s := by
 let K := lcasCf prog F w d A sa hE g
 have EV := fun n => EV0 K n
 refine sq_list (K := K) (.pair .int .byt) S (by rfl) (by rfl) fun s1 aC S1 => ?_
 refine sq_dict (K := K) .int S1 (by rfl) (by rfl) fun s2 aS S2 => ?_
 refine sq_assign (K := K) (t := .int) (y := (1 : Int)) S2 (pure_g (n := 4) (U := {}) (EV 4) (by walk_at "pk")) (by rfl) (by rfl) (by rfl) fun s3 S3 => ?_
 refine sq_assign (K := K) (t := .int) (y := (2 : Int)) S3 (pure_g (n := 4) (U := {}) (EV 4) (by walk_at "pk")) (by rfl) (by rfl) (by rfl) fun s4 S4 => ?_
 refine sq_assign (K := K) (t := .int) (y := (4 : Int)) S4 (pure_g (n := 4) (U := {}) (EV 4) (by walk_at "pk")) (by rfl) (by rfl) (by rfl) fun s5 S5 => ?_
 refine sq_assign (K := K) (t := .int) (y := (8 : Int)) S5 (pure_g (n := 4) (U := {}) (EV 4) (by walk_at "pk")) (by rfl) (by rfl) (by rfl) fun s6 S6 => ?_
 refine o10 S6 ?_; clear S6; rintro hc6 S6
 refine st_cons (K := K) (make_def (K := K) (i := 0) (clos := [("_DNC", sa.heap.objs.size + 1)]) S6 rfl hcode (G.code _ (S6.inn.of_le S6.le)) (T.mono S6.le) (q := sitesL g.qualname) (List.mem_cons_self) (sitesL_ok _) (by rfl) (by rfl) (by rfl) (by rfl) (by rfl) (by rfl) fun s7 hc7 fh ps7 S7 le7 T7 F7 => ?_)
 have S7 : K.H _ [⟨"cands", aC, ⟨.lst (.pair .int .byt), []⟩⟩, ⟨"cstates", aS, ⟨.dct .int, fun _ => none⟩⟩] [(F.tLcas, tabObj ps7), (L, oL)] s7 hc7 := S7
 have hd4 : AOk K.A (d - 2 + 2) := by
  have e : d - 2 + 2 = d := by lia
  rw [e]; exact S7.ao
 refine st_cons (K := K) (wpAny_Assign_Name (PyProof.Rows.Call_Name rfl (wpAny_Name (load_more (p := ("WorkList", .ref F.work)) S7.cx.bas S7.envOk (by show _ ∈ F.more; simp [FA.more]) (by rfl) ?_) (by rfl))) (by rfl))
 refine callWith_K0 S7.cx.funs.frag S7.cx.funs.wk.keep ?_
 refine work_wp (d := d - 2) hd4 S7.cx.bas S7.cx.funs fun s8 x dx p kp fx fdx fp nxd nxp ndp W8 hp8 => ?_
 refine o01 (id W8) fun hx8 zz => o30 zz fun hsh tk nn hdx8 => ?_
 have S8 : K.H _ _ _ s8 hc7 := S7.step (Step.quiet S7.inn kp)
 have fr : ∀ a, s7.heap.get? a = none -> hc7 a = none /\ a ∉ [aC, aS] ++ [F.tLcas, L] /\ a ≠ K.env.locals /\ ∀ x c, K.env.cells.lookup x = some c -> a ≠ c := fun a ha => by
  refine o02 (Cf.H.fresh S7 ha) fun f1 f2 f3 => ?_
  exact ⟨S7.inn.none ha, f1, f2, f3⟩
 refine o02 (fr x fx) fun x1 x2 x3 => ?_
 refine o02 (fr dx fdx) fun y1 y2 y3 => ?_
 refine o02 (fr p fp) fun z1 z2 z3 => ?_
 have S9 := Cf.H.freezeNew S8 hx8 x1 x2 x3
 have S10 := Cf.H.freezeNew S9 hdx8 (by rw [PH.put_ne (Ne.symm nxd)]; exact y1) y2 y3
 let hcF := (hc7.put x (instObj F.work dx)).put dx (dictOf [⟨hsh, .str "pq" tk, .ref p⟩] nn)
 have hpF : hcF p = none := by
  show ((hc7.put x _).put dx _) p = none
  rw [PH.put_ne (Ne.symm ndp), PH.put_ne (Ne.symm nxp)]; exact z1
 have S11 : K.H _ [⟨"cands", aC, ⟨.lst (.pair .int .byt), []⟩⟩, ⟨"cstates", aS, ⟨.dct .int, fun _ => none⟩⟩] ([(F.tLcas, tabObj ps7), (L, oL)] ++ [(p, lobj [] 0)]) s8 hcF := Cf.H.addLoose S10 hp8 ⟨hpF, z3⟩ z2
 have leF : hc7.le hcF := (PH.put_le x1).trans (PH.put_le (by rw [PH.put_ne (Ne.symm nxd)]; exact y1))
 refine StH.store S11 (.inl (by rfl)) (by rfl) (t := .val) (y := .ref x) rfl fun s9 S12 => ?_
 have leE : hE.le hcF := S12.le
 have atx : hcF x = some (instObj F.work dx) := by
  show ((hc7.put x _).put dx _) x = _
  rw [PH.put_ne nxd]; exact PH.put_self
 have atd : hcF dx = some (dictOf [⟨hsh, .str "pq" tk, .ref p⟩] nn) := PH.put_self
 refine o22 F7 fun oF gF f1 f2 f3 => ?_
 let Y : LY := ⟨sitesL g.qualname, el, L, F.tLcas, x, dx, p, fP, fT, fh, aC, aS, dL, shv⟩
 have C : LC (K.at hcF) I Y := by
  refine ⟨?_, rfl, hd, rfl, rfl, G.elk, G.elf, G.dLn, fun h i => ⟨i _ _ atx, hsh, tk, nn, i _ _ atd⟩, by rw [show (K.at hcF).hcb x = some _ from atx]; rfl, by rw [show (K.at hcF).hcb dx = some _ from atd]; rfl, ?_, ?_, ?_, ?_, G.sh.mono leE⟩
  ·show A.frames.map _ = _
   rw [hfr]; rfl
  ·refine o21 G.wa fun o g a b => ?_
   exact ⟨o, g, leE _ _ a, b⟩
  ·refine o43 G.lP fun lam cl c dv a b e r => ?_
   exact ⟨lam, cl, c, dv, fun h i => a h (i.of_le leE), b, e, r.mono leE⟩
  ·refine o43 G.lT fun lam cl c dv a b e r => ?_
   exact ⟨lam, cl, c, dv, fun h i => a h (i.of_le leE), b, e, r.mono leE⟩
  ·exact ⟨sa.heap.objs.size + 1, oF, gF, by rfl, f2, fun h i => ⟨i _ _ (leF _ _ f1), (f3.mono leF).rec i⟩⟩
 have SL : LS (K.at hcF) Y (ofL (("c1", ⟨.byt, c1⟩) :: ("c2s", ⟨.lst .byt, c2s⟩) :: baseL I Y)) [] (fun _ => none) [] [] s9 := by
  refine ls_weak ⟨hcF, ps7, oL, [], 0, [], Cf.H.up S12, T7.mono leF, hdL, .nil, fun i _ hi => by simp at hi, .refl _⟩ rfl rfl rfl
 refine lcas_rest (K := K.at hcF) (hE := hE) (Nm := Nm) (m := m) (cL := F.cLcas) C leE (by rfl) hN h1 hc2 hl2 hPN hcode (fun h i => G.code h (i.of_le leE)) (List.mem_cons_of_mem _ List.mem_cons_self) (sitesL_ok _) SL tot hcd (fun l1 ls fl fl' cd r a1 a2 a3 a4 a5 s' hd v ρ' ps' oL' items n S' T' hd' rv => ?_) bad
 exact ok l1 ls fl fl' cd r a1 a2 a3 a4 a5 s' hd v ρ' ps' oL' p items n (Cf.H.down S' leE S12.gd) T' hd' rv
end
end Mine
open Sem (wp)
namespace Mine
noncomputable def allBut2 (h : Heap) (L P : Addr) : PH := fun b => if b = L \/ b = P then none else h.get? b
theorem allBut2_in {h : Heap} {L P : Addr} : (allBut2 h L P).In h := fun b o e => by
 unfold allBut2 at e; split at e
 ·exact No.ns e
 ·exact e
theorem allBut2_at {h : Heap} {L P b : Addr} {o : Obj} (e : h.get? b = some o) (h1 : b ≠ L) (h2 : b ≠ P) : allBut2 h L P b = some o := by
 unfold allBut2
 rw [if_neg (by rintro (q | q) <;> contradiction)]; exact e
section
variable {prog : Program} {F : FA} {w : World} {d : Nat} {A : Around} {s : Shared} {g : FuncData} {I : Inp} {el : Env} {L fP fT : Addr} {dL : Data} {shv : Value} {oL : Obj} {ps : Array Value} {Q : Value -> Shared -> Prop} {E : Value -> Shared -> Prop}
theorem lcas_wp {Nm c2s : Names} {c1 : List UInt8} {m : Nat} {o : Obj} {v1 v2 v3 : Value} (ao : AOk A (d + 1)) (hd4 : 4 <= d) (hfr : A.frames = some [el]) (gd : Gd F (allBut2 s.heap L F.tLcas)) (hb : AllBare s.gens) (hLT : L ≠ F.tLcas) (hL : s.heap.get? L = some oL) (hdL : oL.data = dL) (hT : s.heap.get? F.tLcas = some (tabObj ps))
  (ho : s.heap.get? F.lcas = some o) (hod : o.data = .func (fdOf lcasDef (.ref F.dLcas) g)) (hcr : s.heap.CodeRec g.code g.qualname) (hcode : g.code = .ref F.cLcas) {od : Obj} {nd : Nat} {tkd : Tok} (hdf : s.heap.get? F.dLcas = some od) (hddf : od.data = .seq #[.int 0 tkd, .none] nd)
  (G : Giv w.params F (allBut2 s.heap L F.tLcas) I el L fP fT dL shv) (T : TabFor (allBut2 s.heap L F.tLcas) (sitesL g.qualname) ps) (hN : Nm.length <= 100000) (h1 : c1 ∈ Nm) (hc2 : ∀ c ∈ c2s, c ∈ Nm) (hl2 : c2s.length <= 1000)
  (hPN : ∀ c ps, I.P c = some ps -> (∀ d ∈ ps, d ∈ Nm) /\ ps.length <= 1000)
  (r1 : Rep w.params (allBut2 s.heap L F.tLcas) .byt c1 v1) (r2 : Rep w.params (allBut2 s.heap L F.tLcas) (.lst .byt) c2s v2) (r3 : Rep w.params (allBut2 s.heap L F.tLcas) .int I.ms v3)
  (tot : ∃ o, lcasM I m c1 c2s = some o) (hcd : ∀ l1 ls fl fl' cd, askM I [] c1 = some (some l1) -> seedM I c2s l1 (updF (fun _ => none) c1 1) = some (some (ls, fl)) -> runM I m ls fl [] = some (some (fl', cd)) -> cd.length < 64)
  (ok : ∀ l1 ls fl fl' cd r, askM I [] c1 = some (some l1) -> seedM I c2s l1 (updF (fun _ => none) c1 1) = some (some (ls, fl)) -> runM I m ls fl [] = some (some (fl', cd)) -> r.Perm (resM fl' cd) -> TimeSorted r ->
   ∀ s' hd v ps' oL', (∃ h tk g, s' = { s with heap := h, toks := tk, gens := g }) -> AllBare s'.gens -> (allBut2 s.heap L F.tLcas).le hd -> hd.In s'.heap -> hd L = none -> hd F.tLcas = none -> s'.heap.get? F.tLcas = some (tabObj ps') -> TabFor hd (sitesL g.qualname) ps' ->
    s'.heap.get? L = some oL' -> oL'.data = dL -> Rep w.params hd (.lst .byt) (r.map (·.2)) v -> Q v s')
  (bad : lcasM I m c1 c2s = some none -> ∀ a s' base ps' oL', (∃ h tk g, s' = { s with heap := h, toks := tk, gens := g }) -> AllBare s'.gens -> AirO base [el] a s'.heap -> (∀ b o, allBut2 s.heap L F.tLcas b = some o -> base.get? b = some o) ->
   base.get? F.tLcas = some (tabObj ps') -> TabFor (fun b => base.get? b) (sitesL g.qualname) ps' -> s'.heap.get? L = some oL' -> oL'.data = dL -> E (.ref a) s') :
  wpAny (model prog w) A (call (.ref F.lcas) [.ref fP, v1, v2, .ref fT, v3, shv]) Q E s := by
 have hnL : (allBut2 s.heap L F.tLcas) L = none := by unfold allBut2; rw [if_pos (.inl rfl)]
 have hnT : (allBut2 s.heap L F.tLcas) F.tLcas = none := by unfold allBut2; rw [if_pos (.inr rfl)]
 refine wpAny_call (enter_frameG (gp := AllBare) (h0 := allBut2 s.heap L F.tLcas) (hc := allBut2 s.heap L F.tLcas) (f := lcasDef) (dfl := .ref F.dLcas) (xs := [⟨.val, .ref fP⟩, ⟨.byt, c1⟩, ⟨.lst .byt, c2s⟩, ⟨.val, .ref fT⟩, ⟨.int, I.ms⟩, ⟨.val, shv⟩])
  ["lookup_parents", "c1", "c2s", "lookup_stamp", "min_stamp", "shallows"] [(F.tLcas, tabObj ps), (L, oL)] ho hod hcr ao gd hb allBut2_in PH.le.rfl (.cons rfl (.cons r1 (.cons r2 (.cons rfl (.cons r3 (.cons rfl .nil))))))
  (fun q hq => ?_) (by simp; exact fun e => hLT e.symm) (BindsTo.of_defaults rfl hdf hddf rfl rfl) rfl rfl rfl fun s₁ S => ?_)
 ·simp only [List.mem_cons, List.not_mem_nil, or_false] at hq
  rcases hq with rfl | rfl
  ·exact ⟨hT, hnT⟩
  ·exact ⟨hL, hnL⟩
 refine lcas_body (m := m) G hfr hd4 hcode hN h1 hc2 hl2 hPN T hdL S tot hcd (fun l1 ls fl fl' cd r a1 a2 a3 a4 a5 s' hd v ρ' ps' oL' p items n S' T' hd' rv => ?_) (fun hbad e s' f => ?_)
 ·refine o01 (S'.loose (F.tLcas, tabObj ps') (by simp)) fun eT ownT => ?_
  refine o01 (S'.loose (L, oL') (by simp)) fun eL ownL => ?_
  exact ok l1 ls fl fl' cd r a1 a2 a3 a4 a5 s' hd v ps' oL' S'.same S'.bare S'.le S'.inn ownL.1 ownT.1 eT T' eL hd' rv
 ·obtain ⟨a, base, rfl, ⟨h0, tk0, g0, same⟩, bare, air, k, ⟨ps', eT, T'⟩, oL', eL, hL'⟩ := f
  refine air_leave (outer := [el]) (by show A.frames.map _ = _; rw [hfr]; rfl) air fun h' a' u => ?_
  refine o10 (u L oL' eL (fun vs => by rw [hL']; exact G.dLn vs)) fun sl eL' => ?_
  exact bad hbad a _ base ps' { oL' with slots := sl } ⟨h', s'.toks, g0, by rw [same]⟩ bare a' k eT T' eL' hL'
end
end Mine
open Sem (wp)
namespace Mine
noncomputable def lawDef : Stmt := topDef "law"
structure LZ where
 prog : Program
 F : FA
 w : World
 d : Nat
 A : Around
 sa : Shared
 hE : PH
 g : FuncData
 a : Addr
noncomputable abbrev lawCf (Z : LZ) : Cf := frameCf Z.prog Z.F Z.w Z.d Z.A AllBare Z.sa Z.hE lawDef .none Z.g Z.a
section
variable {K : Cf} {ρ : Rho} {mu : List Ent} {lo : List (Addr × Obj)} {s : Shared} {hc : PH} {Q : Flow -> Shared -> Prop} {E : Value -> Shared -> Prop}
theorem st_list2 {x : Str} {p pos lp p1 p2 : Pos} {a b : Int} {k1 k2 : Nat} (S : K.S ρ mu lo s) (hk : bound K.env x = true) (hx : free mu x = true)
  (h : ∀ s' ad, K.S (ρ.upd x ⟨.val, .ref ad⟩) (mu ++ [⟨x, ad, ⟨.lst .int, [a, b]⟩⟩]) lo s' -> Q .next s') : K.wp (exec (.Assign [.Name x p] (.List [.Constant (.int a) k1 p1, .Constant (.int b) k2 p2] lp) pos) K.env) Q E s := by
 refine o10 S ?_; clear S; rintro hc S
 refine wpAny_Assign_Name (wpAny_List_spliced ?_) rfl
 show wpAny _ _ (spliced [(false, PySem.eval (.Constant (.int a) k1 p1) K.env), (false, PySem.eval (.Constant (.int b) k2 p2) K.env)]) _ _ _
 refine Calls.spliced_cons (wpAny_Constant_int (Calls.spliced_cons (wpAny_Constant_int (Calls.spliced_nil ⟨by rw [sizeLine_eq]; simp, ?_⟩))))
 have S1 : K.H ρ mu lo { s with toks := s.toks + 1 + 1 } hc := S.step (Step.tok S.inn _)
 have hn := free_size s.heap
 refine o02 (S1.fresh hn) fun f1 f2 f3 => ?_
 let o : Obj := { cls := .type "list", data := .seq (List.toArray [.int a s.toks, .int b (s.toks + 1)]) }
 have S' : K.H ρ mu lo _ hc := S1.step (Step.quiet S1.inn (s' := { s with toks := s.toks + 1 + 1, heap := s.heap.push o }) ⟨_, _, rfl, fun _ _ e => Heap.get?_push_of_some _ e⟩)
 refine StH.store (Cf.H.addLoose S' (Heap.get?_push_size _ rfl) ⟨S1.inn.none hn, f2, f3⟩ f1) (bound_or hk) hx (t := .val) (y := .ref s.heap.objs.size) rfl fun s'' S'' => h s'' s.heap.objs.size ⟨hc, ?_⟩
 refine o01 (S''.loose _ (List.mem_append_right _ (List.mem_singleton.mpr rfl))) fun ho own => ?_
 exact Cf.H.addMut (Cf.H.dropLoose S'') ho ⟨_, 0, rfl, .cons ⟨_, rfl⟩ (.cons ⟨_, rfl⟩ .nil)⟩ own f1 fun _ => by simp [Rho.upd]
end
structure FigOk (l : List Int) : Prop where
 lo : 2 <= l.length
 hi : l.length <= 16
 rg : ∀ f ∈ l, 0 <= f /\ f < 4096
theorem FigOk.snoc {l : List Int} (h : FigOk l) (h16 : l.length < 16) (r : Int) : FigOk (l ++ [r.fmod 4096]) where
 lo := by have := h.lo; simp; lia
 hi := by simp; lia
 rg := fun f hf => by
  rcases List.mem_append.mp hf with hf | hf
  ·exact h.rg f hf
  ·rw [List.mem_singleton.mp hf]
   rw [Int.fmod_eq_emod_of_nonneg r (by decide)]
   exact ⟨Int.emod_nonneg _ (by decide), Int.emod_lt_of_pos _ (by decide)⟩
section
variable {Z : LZ} {s : Shared} {lo : List (Addr × Obj)} {Q : Flow -> Shared -> Prop} {E : Value -> Shared -> Prop}
noncomputable def rhoA (script numbers : List Int) (head total mode spin : Int) (holes : Bool) : List (Str × TV) :=
 [("script", ⟨.lst .int, script⟩), ("numbers", ⟨.lst .int, numbers⟩), ("head", ⟨.int, head⟩), ("total", ⟨.int, total⟩), ("mode", ⟨.int, mode⟩), ("spin", ⟨.int, spin⟩), ("holes", ⟨.bool, holes⟩)]
theorem law_a {script : List Int} (hl : script.length <= 63) (S : (lawCf Z).S (ofL [("script", ⟨.lst .int, script⟩)]) [] lo s)
  (h : ∀ s' numbers head total mode spin holes aF, numbers.length <= 24 -> (lawCf Z).S (ofL (("figures", ⟨.val, .ref aF⟩) :: rhoA script numbers head total mode spin holes)) [⟨"figures", aF, ⟨.lst .int, ([0, 4] : List Int)⟩⟩] lo s' ->
   (lawCf Z).wp (execs ((defBody lawDef).drop 7) (lawCf Z).env) Q E s') :
  (lawCf Z).wp (execs (defBody lawDef) (lawCf Z).env) Q E s := by
 let K := lawCf Z
 have EV := fun n => EV0 K n
 have TE := fun n => TE0 K n
 refine sq_assign (K := K) (t := .lst .int) (y := script.take 24) S (pure_g (n := 5) (U := {}) (EV 5) ?_) (by rfl) (by rfl) (by rfl) fun s1 S1 => ?_
 ·walk_at "pk"
 have hn : (script.take 24).length <= 24 := by simp; lia
 generalize script.take 24 = numbers at S1 hn
 refine sq_assign (K := K) (t := .int) (y := if (!numbers.isEmpty) = true then numbers.getD 0 0 else 0) S1 (pure_g (n := 5) (U := {}) (EV 5) ?_) (by rfl) (by rfl) (by rfl) fun s2 S2 => ?_
 ·refine ⟨⟨by walk_at "pk", ?_⟩, fun hb => ⟨by walk_at "pk", trivial, ?_⟩, fun _ => ⟨trivial, rfl⟩⟩
  ·show numbers.length <= 100000000
   lia
  ·have hb : (!numbers.isEmpty) = true := hb
   have : numbers ≠ [] := by simpa using hb
   have : 0 < numbers.length := List.length_pos_iff.mpr this
   exact ⟨by decide, this, by show numbers.length <= _; lia⟩
 generalize (if (!numbers.isEmpty) = true then numbers.getD 0 0 else 0) = head at S2
 refine sq_assign (K := K) (t := .int) (y := numbers.sum) S2 (pure_g (n := 5) (U := {}) (EV 5) ?_) (by rfl) (by rfl) (by rfl) fun s3 S3 => ?_
 ·walk_at "pk"
 generalize numbers.sum = total at S3
 refine sq_assign (K := K) (t := .int) (y := head.fmod 4) S3 (pure_g (n := 5) (U := {}) (EV 5) ?_) (by rfl) (by rfl) (by rfl) fun s4 S4 => ?_
 ·refine ⟨by walk_at "pk", by walk_at "pk", ?_⟩
  show (4 : Int) ≠ 0
  decide
 generalize head.fmod 4 = mode at S4
 refine sq_assign (K := K) (t := .bool) (y := ((head.fdiv 4).fmod 4 == 3)) S4 (pure_g (n := 6) (U := {}) (EV 6) ?_) (by rfl) (by rfl) (by rfl) fun s5 S5 => ?_
 ·refine ⟨⟨⟨by walk_at "pk", by walk_at "pk", ?_⟩, by walk_at "pk", ?_⟩, by walk_at "pk", rfl, rfl⟩
  ·show (4 : Int) ≠ 0 /\ _
   exact ⟨by decide, by decide⟩
  ·show (4 : Int) ≠ 0
   decide
 generalize ((head.fdiv 4).fmod 4 == 3) = holes at S5
 refine sq_assign (K := K) (t := .int) (y := (head.fdiv 16).fmod 4) S5 (pure_g (n := 6) (U := {}) (EV 6) ?_) (by rfl) (by rfl) (by rfl) fun s6 S6 => ?_
 ·refine ⟨⟨by walk_at "pk", by walk_at "pk", ?_⟩, by walk_at "pk", ?_⟩
  ·show (16 : Int) ≠ 0 /\ _
   exact ⟨by decide, by decide⟩
  ·show (4 : Int) ≠ 0
   decide
 generalize (head.fdiv 16).fmod 4 = spin at S6
 refine st_cons (st_list2 (K := K) (a := 0) (b := 4) S6 (by rfl) (by rfl) fun s7 aF S7 => ?_)
 exact h s7 numbers head total mode spin holes aF hn (Cf.S.to S7 _ rfl rfl)
end
end Mine
open Sem (wp)
namespace Mine
section
variable {Z : LZ} {s : Shared} {lo : List (Addr × Obj)} {Q : Flow -> Shared -> Prop} {E : Value -> Shared -> Prop}
noncomputable def numBody : List Stmt := ifBody (stmtAt (defBody lawDef) 7)
theorem num_body {script numbers : List Int} {head total mode spin : Int} {holes : Bool} {figs : List Int} {number : Int} {aF : Addr} {ex : List (Addr × Obj)} {K : Cf} (hK : ∃ h1, K = (lawCf Z).at h1) (hF : FigOk figs)
  (S : K.S (ofL (("number", ⟨.int, number⟩) :: ("figures", ⟨.val, .ref aF⟩) :: rhoA script numbers head total mode spin holes)) [⟨"figures", aF, ⟨.lst .int, figs⟩⟩] (lo ++ ex) s)
  (h : ∀ s' figs', FigOk figs' -> K.S (ofL (("figures", ⟨.val, .ref aF⟩) :: rhoA script numbers head total mode spin holes)) [⟨"figures", aF, ⟨.lst .int, figs'⟩⟩] (lo ++ ex) s' -> Q .next s') :
  K.wp (execs numBody K.env) Q E s := by
 refine o10 hK ?_; rintro h1 rfl
 let K := (lawCf Z).at h1
 have EV := fun n => EV0 K n
 have TE := fun n => TE0 K n
 refine sq_assign (K := K) (t := .int) (y := number) S (pure_g (n := 5) (U := {}) (EV 5) (by walk_at "pd")) (by rfl) (by rfl) (by rfl) fun s1 S1 => ?_
 have S1 := Cf.S.to S1 (("rest", ⟨.int, number⟩) :: ("figures", ⟨.val, .ref aF⟩) :: rhoA script numbers head total mode spin holes) rfl rfl
 refine st_cons (K := K) (wpAny_While (codeAny_whileLoop (fun m s => ∃ figs rest, m = 16 - figs.length /\ FigOk figs /\ K.S (ofL (("rest", ⟨.int, rest⟩) :: ("figures", ⟨.val, .ref aF⟩) :: rhoA script numbers head total mode spin holes)) [⟨"figures", aF, ⟨.lst .int, figs⟩⟩] (lo ++ ex) s) ?_ _ ⟨figs, number, rfl, hF, S1⟩))
 rintro m s2 ⟨figs, rest, rfl, hF, S2⟩
 have fin : ∀ {s rest figs}, FigOk figs -> K.S (ofL (("rest", ⟨.int, rest⟩) :: ("figures", ⟨.val, .ref aF⟩) :: rhoA script numbers head total mode spin holes)) [⟨"figures", aF, ⟨.lst .int, figs⟩⟩] (lo ++ ex) s -> Q .next s := fun hF S =>
  h _ _ hF (Cf.S.to S _ rfl rfl)
 refine o10 S2 ?_; clear S2; rintro hc2 S2
 refine StH.testV (n := 8) (U := {}) (TE 8) S2 ?_ fun s3 hc3 S3 _ => ?_
 ·have := hF.hi
  walk_at "pd"
 ·have e : tv 8 (see [⟨"figures", aF, ⟨.lst .int, figs⟩⟩] (ofL (("rest", ⟨.int, rest⟩) :: ("figures", ⟨.val, .ref aF⟩) :: rhoA script numbers head total mode spin holes))) (stExpr (stmtAt numBody 1)) = decide ((figs.length : Int) < 16) := rfl
  show if tv 8 (see [⟨"figures", aF, ⟨.lst .int, figs⟩⟩] (ofL (("rest", ⟨.int, rest⟩) :: ("figures", ⟨.val, .ref aF⟩) :: rhoA script numbers head total mode spin holes))) (stExpr (stmtAt numBody 1)) = true then _ else _
  rw [e]
  by_cases hlt : (figs.length : Int) < 16
  ·rw [if_pos (by simpa using hlt)]
   have h16 : figs.length < 16 := by lia
   refine sq_append (K := K) (i := 0) (t := .int) (y := rest.fmod 4096) ⟨hc3, S3⟩ rfl (pure_g (n := 5) (U := {}) (EV 5) ?_) (by have := hF.hi; lia) (by rfl) (by rfl) (by rfl) (by rfl) (by rfl) fun s4 S4 => ?_
   ·walk_at "pd"
   have hF' := hF.snoc h16 rest
   refine sq_assign (K := K) (t := .int) (y := rest.fdiv 4096) S4 (pure_g (n := 5) (U := {}) (EV 5) ?_) (by rfl) (by rfl) (by rfl) fun s5 S5 => ?_
   ·walk_at "pd"
   have S5 := Cf.S.to S5 (("rest", ⟨.int, rest.fdiv 4096⟩) :: ("figures", ⟨.val, .ref aF⟩) :: rhoA script numbers head total mode spin holes) rfl rfl
   generalize rest.fdiv 4096 = rest' at S5
   refine st_cons (st_if (K := K) (v := (rest' == 0) || (rest' == -1)) S5 (test_g (n := 8) (U := {}) (TE 8) ?_) (fun _ s6 S6 => ?_) fun _ s6 S6 => ?_)
   ·walk_at "pd"
   ·exact wpAny_execs_cons (wpAny_Break (wpAny_execs_nil (fin hF' S6)))
   ·refine st_nil (st_nil ⟨_, ?_, figs ++ [rest.fmod 4096], rest', rfl, hF', S6⟩)
    rw [List.length_append, List.length_singleton]
    lia
  ·rw [if_neg (by simpa using hlt)]
   exact wpAny_execs_nil (wpAny_execs_nil (fin hF ⟨hc3, S3⟩))
end
end Mine
open Sem (wp)
namespace Mine
section
variable {Z : LZ} {s : Shared} {lo : List (Addr × Obj)} {Q : Flow -> Shared -> Prop} {E : Value -> Shared -> Prop}
structure FigsOk (l : List Int) : Prop where
 lo : 4 <= l.length
 hi : l.length <= 18
 rg : ∀ f ∈ l, 0 <= f /\ f < 4096
noncomputable def rhoB (script figures : List Int) (head total mode spin : Int) (holes : Bool) (liar : Int) : List (Str × TV) :=
 [("script", ⟨.lst .int, script⟩), ("head", ⟨.int, head⟩), ("total", ⟨.int, total⟩), ("mode", ⟨.int, mode⟩), ("spin", ⟨.int, spin⟩), ("holes", ⟨.bool, holes⟩), ("figures", ⟨.lst .int, figures⟩), ("count", ⟨.int, (figures.length : Int)⟩),
  ("last", ⟨.int, (figures.length : Int) - 1⟩), ("liar", ⟨.int, liar⟩)]
structure Hl where
 kin : Addr
 clocks : Addr
 stamps : Addr
 names : Addr
 known : Addr
 whole : Addr
noncomputable def Hl.rho (H : Hl) : List (Str × TV) := [("kin", ⟨.val, .ref H.kin⟩), ("clocks", ⟨.val, .ref H.clocks⟩), ("stamps", ⟨.val, .ref H.stamps⟩), ("names", ⟨.val, .ref H.names⟩), ("known", ⟨.val, .ref H.known⟩), ("whole", ⟨.val, .ref H.whole⟩)]
noncomputable def Hl.mu (H : Hl) (kin : List (List Int)) (clocks stamps : List Int) (names : List (List UInt8)) (known whole : List Bool) : List Ent :=
 [⟨"kin", H.kin, ⟨.lst (.lst .int), kin⟩⟩, ⟨"clocks", H.clocks, ⟨.lst .int, clocks⟩⟩, ⟨"stamps", H.stamps, ⟨.lst .int, stamps⟩⟩, ⟨"names", H.names, ⟨.lst .byt, names⟩⟩, ⟨"known", H.known, ⟨.lst .bool, known⟩⟩, ⟨"whole", H.whole, ⟨.lst .bool, whole⟩⟩]
theorem law_b {script numbers : List Int} {head total mode spin : Int} {holes : Bool} {aF : Addr} (hl : numbers.length <= 24)
  (S : (lawCf Z).S (ofL (("figures", ⟨.val, .ref aF⟩) :: rhoA script numbers head total mode spin holes)) [⟨"figures", aF, ⟨.lst .int, ([0, 4] : List Int)⟩⟩] lo s)
  (h : ∀ s' figures liar (H : Hl), FigsOk figures -> (lawCf Z).S (ofL (H.rho ++ rhoB script figures head total mode spin holes liar)) (H.mu [] [] [] [] [] []) lo s' ->
   (lawCf Z).wp (execs ((defBody lawDef).drop 18) (lawCf Z).env) Q E s') :
  (lawCf Z).wp (execs ((defBody lawDef).drop 7) (lawCf Z).env) Q E s := by
 let K := lawCf Z
 have EV := fun n => EV0 K n
 have TE := fun n => TE0 K n
 refine sq_each (K := K) (n := 6) (U := {}) (t := .int) (l := numbers) (fun _ figs => FigOk figs) (fun _ _ => ("figures", ⟨.val, .ref aF⟩) :: rhoA script numbers head total mode spin holes) (fun _ figs => [⟨"figures", aF, ⟨.lst .int, figs⟩⟩]) [0, 4] (EV 6) S ⟨by simp, by simp, by simp⟩ rfl (by walk_at "pd") rfl (by show numbers.length <= 1000; lia) (by rfl) (fun _ _ => by rfl) (fun _ _ => by rfl) (fun _ _ => by rfl)
  (fun h1 le1 j figs x ex s1 hx hF S1 Q' E' hQ' => num_body ⟨h1, rfl⟩ hF S1 fun s2 figs' hF' S2 => hQ' _ _ _ hF' (by rfl) S2) (fun figs s1 hF S1 => ?_)
 ·have S2 := Cf.S.to (K := K) (Cf.S.still S1 (by rfl)) (("figures", ⟨.lst .int, figs⟩) :: rhoA script numbers head total mode spin holes) rfl rfl
  have h2 := hF.lo
  have h3 := hF.hi
  refine sq_assign (K := K) (t := .lst .int) (y := figs ++ [1, 1]) S2 (pure_g (n := 5) (U := {}) (EV 5) ?_) (by rfl) (by rfl) (by rfl) fun s3 S3 => ?_
  ·refine ⟨by walk_at "pd", by walk_at "pd", rfl, rfl, ?_⟩
   show figs.length + 2 <= 1000
   lia
  have hFo : FigsOk (figs ++ [1, 1]) := ⟨by simp; lia, by simp; lia, fun f hf => by
   rcases List.mem_append.mp hf with hf | hf
   ·exact hF.rg f hf
   ·simp at hf; subst hf; decide⟩
  generalize figs ++ [1, 1] = figures at S3 hFo
  have h4 := hFo.lo
  have h5 := hFo.hi
  refine sq_assign (K := K) (t := .int) (y := (figures.length : Int)) S3 (pure_g (n := 5) (U := {}) (EV 5) ?_) (by rfl) (by rfl) (by rfl) fun s4 S4 => ?_
  ·walk_at "pd"
  refine sq_assign (K := K) (t := .int) (y := (figures.length : Int) - 1) S4 (pure_g (n := 5) (U := {}) (EV 5) ?_) (by rfl) (by rfl) (by rfl) fun s5 S5 => ?_
  ·walk_at "pd"
  refine sq_assign (K := K) (t := .int) (y := total.fmod (figures.length : Int)) S5 (pure_g (n := 5) (U := {}) (EV 5) ?_) (by rfl) (by rfl) (by rfl) fun s6 S6 => ?_
  ·refine ⟨by walk_at "pd", by walk_at "pd", ?_⟩
   show (figures.length : Int) ≠ 0
   lia
  generalize total.fmod (figures.length : Int) = liar at S6
  have S6 := Cf.S.to S6 (rhoB script figures head total mode spin holes liar) rfl rfl
  refine sq_list (K := K) (.lst .int) S6 (by rfl) (by rfl) fun s7 a1 S7 => ?_
  refine sq_list (K := K) .int S7 (by rfl) (by rfl) fun s8 a2 S8 => ?_
  refine sq_list (K := K) .int S8 (by rfl) (by rfl) fun s9 a3 S9 => ?_
  refine sq_list (K := K) .byt S9 (by rfl) (by rfl) fun s10 a4 S10 => ?_
  refine sq_list (K := K) .bool S10 (by rfl) (by rfl) fun s11 a5 S11 => ?_
  refine sq_list (K := K) .bool S11 (by rfl) (by rfl) fun s12 a6 S12 => ?_
  exact h s12 figures liar ⟨a1, a2, a3, a4, a5, a6⟩ hFo (Cf.S.to S12 _ rfl rfl)
end
end Mine
open Sem (wp)
namespace Mine
noncomputable def tailB (mode : Int) (i : Nat) : UInt8 := if mode = 1 then UInt8.ofNat (122 - i) else UInt8.ofNat (97 + i)
structure Hs where
 kin : List (List Int)
 clocks : List Int
 stamps : List Int
 names : List (List UInt8)
 known : List Bool
 whole : List Bool
structure Hist (mode : Int) (j : Nat) (kin : List (List Int)) (clocks stamps : List Int) (names : List (List UInt8)) (known whole : List Bool) : Prop where
 lk : kin.length = j
 lc : clocks.length = j
 ls : stamps.length = j
 ln : names.length = j
 lkn : known.length = j
 lw : whole.length = j
 ok : ∀ i, i < j -> ∀ e ∈ kin.getD i [], 0 <= e /\ e < i
 kl : ∀ i, i < j -> (kin.getD i []).length <= 4
 nm : ∀ i, i < j -> (names.getD i [])[1]? = some (tailB mode i)
 wk : ∀ i, i < j -> whole.getD i false = true -> known.getD i false = true
theorem getD_snoc {α : Type} {l : List α} {x d : α} {i j : Nat} (hl : l.length = j) (hi : i < j + 1) : (l ++ [x]).getD i d = if i < j then l.getD i d else x := by
 rw [List.getD_eq_getElem?_getD, List.getElem?_append]
 split
 ·rw [if_pos (by lia), List.getD_eq_getElem?_getD]
 ·rw [if_neg (by lia)]
  have : i - l.length = 0 := by lia
  rw [this]; rfl
theorem Hist.snoc {mode : Int} {j : Nat} {kin : List (List Int)} {clocks stamps : List Int} {names : List (List UInt8)} {known whole : List Bool} (h : Hist mode j kin clocks stamps names known whole) {e : List Int} {c s : Int} {n : List UInt8} {k w : Bool}
  (he : ∀ x ∈ e, 0 <= x /\ x < j) (hl : e.length <= 4) (hn : n[1]? = some (tailB mode j)) (hw : w = true -> k = true) :
  Hist mode (j + 1) (kin ++ [e]) (clocks ++ [c]) (stamps ++ [s]) (names ++ [n]) (known ++ [k]) (whole ++ [w]) where
 lk := by simp [h.lk]
 lc := by simp [h.lc]
 ls := by simp [h.ls]
 ln := by simp [h.ln]
 lkn := by simp [h.lkn]
 lw := by simp [h.lw]
 ok := fun i hi x hx => by
  rw [getD_snoc h.lk hi] at hx
  split at hx
  ·rename_i hlt; exact h.ok i hlt x hx
  ·have : i = j := by lia
   subst this; exact he x hx
 kl := fun i hi => by
  rw [getD_snoc h.lk hi]
  split
  ·rename_i hlt; exact h.kl i hlt
  ·exact hl
 nm := fun i hi => by
  rw [getD_snoc h.ln hi]
  split
  ·rename_i hlt; exact h.nm i hlt
  ·have : i = j := by lia
   subst this; exact hn
 wk := fun i hi hw' => by
  rw [getD_snoc h.lw hi] at hw'
  rw [getD_snoc h.lkn hi]
  split at hw'
  ·rename_i hlt; rw [if_pos hlt]; exact h.wk i hlt hw'
  ·rename_i hlt; rw [if_neg hlt]; exact hw hw'
noncomputable def rhoH (H : Hl) (script figures : List Int) (head total mode spin : Int) (holes : Bool) (liar : Int) : List (Str × TV) := H.rho ++ rhoB script figures head total mode spin holes liar
noncomputable def eldersF (f k : Int) : List Int := ([(1, 2), (2, 3), (4, 1), (8, 5)] : List (Int × Int)).flatMap fun p => if ((f.fdiv p.1).fmod 2 == 1 && decide (p.2 <= k)) = true then [k - p.2] else []
theorem elders_ok (f : Int) (j : Nat) : (∀ x ∈ eldersF f j, 0 <= x /\ x < (j : Int)) /\ (eldersF f j).length <= 4 := by
 have key : ∀ p : Int × Int, 1 <= p.2 -> (∀ x ∈ (if ((f.fdiv p.1).fmod 2 == 1 && decide (p.2 <= (j : Int))) = true then [(j : Int) - p.2] else []), 0 <= x /\ x < (j : Int)) /\ (if ((f.fdiv p.1).fmod 2 == 1 && decide (p.2 <= (j : Int))) = true then [(j : Int) - p.2] else []).length <= 1 := fun p hp => by
  generalize h : ((f.fdiv p.1).fmod 2 == 1 && decide (p.2 <= (j : Int))) = zz; induction zz with
  | true =>
   simp only [Bool.and_eq_true, decide_eq_true_eq] at h
   exact ⟨fun x hx => by rw [List.mem_singleton.mp hx]; lia, Nat.le_refl _⟩
  | false => exact ⟨fun x hx => (nomatch hx), by simp⟩
 unfold eldersF
 refine ⟨fun x hx => ?_, ?_⟩
 ·refine o11 (List.mem_flatMap.mp hx) fun p hp hx => ?_
  refine (key p ?_).1 x hx
  simp only [List.mem_cons, List.not_mem_nil, or_false] at hp
  rcases hp with rfl | rfl | rfl | rfl <;> decide
 ·have h1 := (key (1, 2) (by decide)).2
  have h2 := (key (2, 3) (by decide)).2
  have h3 := (key (4, 1) (by decide)).2
  have h4 := (key (8, 5) (by decide)).2
  simp only [List.flatMap_cons, List.flatMap_nil, List.length_append, List.length_nil]
  simp only at h1 h2 h3 h4
  lia
noncomputable def mainBody : List Stmt := ifBody (stmtAt (defBody lawDef) 18)
section
variable {Z : LZ} {s : Shared} {lo : List (Addr × Obj)} {Q : Flow -> Shared -> Prop} {E : Value -> Shared -> Prop}
set_option maxHeartbeats 2000000 in
theorem main_body {script figures : List Int} {head total mode spin : Int} {holes : Bool} {liar : Int} {H : Hl} {j : Nat} {kin : List (List Int)} {clocks stamps : List Int} {names : List (List UInt8)} {known whole : List Bool} {ex : List (Addr × Obj)} {h1 : PH}
  (hF : FigsOk figures) (hj : j < figures.length) (hH : Hist mode j kin clocks stamps names known whole)
  (S : ((lawCf Z).at h1).S (ofL (("k", ⟨.int, (j : Int)⟩) :: rhoH H script figures head total mode spin holes liar)) (H.mu kin clocks stamps names known whole) (lo ++ ex) s)
  (h : ∀ s' kin' clocks' stamps' names' known' whole', Hist mode (j + 1) kin' clocks' stamps' names' known' whole' ->
   ((lawCf Z).at h1).S (ofL (rhoH H script figures head total mode spin holes liar)) (H.mu kin' clocks' stamps' names' known' whole') (lo ++ ex) s' -> Q .next s') :
  ((lawCf Z).at h1).wp (execs mainBody ((lawCf Z).at h1).env) Q E s := by
 let K := (lawCf Z).at h1
 have EV := fun n => EV0 K n
 have TE := fun n => TE0 K n
 have h4 := hF.lo
 have h5 := hF.hi
 refine sq_assign (K := K) (t := .int) (y := figures.getD j 0) S (pure_g (n := 5) (U := {}) (EV 5) ?_) (by rfl) (by rfl) (by rfl) fun s1 S1 => ?_
 ·walk_at "pd"
 have hfig : 0 <= figures.getD j 0 /\ figures.getD j 0 < 4096 := hF.rg _ (by
  rw [List.getD_eq_getElem?_getD, List.getElem?_eq_getElem hj]; exact List.getElem_mem hj)
 generalize figures.getD j 0 = figure at S1 hfig
 have S1 := Cf.S.to S1 (("figure", ⟨.int, figure⟩) :: ("k", ⟨.int, (j : Int)⟩) :: rhoH H script figures head total mode spin holes liar) rfl rfl
 have comp := fun {ρ : Rho} {mu : List Ent} {lo : List (Addr × Obj)} {s : Shared} (S : K.S ρ mu lo s) Q E x p pos cpos elt gens scope => @st_comp K ρ mu lo s {} 8 Q E x p pos cpos elt gens scope (EV 8) (TE 8) S
 have eel : pv 9 (ofL (("figure", ⟨.int, figure⟩) :: ("k", ⟨.int, (j : Int)⟩) :: rhoH H script figures head total mode spin holes liar)) (stExpr (stmtAt mainBody 1)) = ⟨.lst .int, eldersF figure j⟩ := by kernel_rfl
 refine wpAny_execs_cons ?_
 refine comp S1 _ _ _ _ _ _ _ _ _ ?_ ?_ ?_ ?_ ?_
 ·have hb : ∀ p : Int × Int, p ∈ ([(1, 2), (2, 3), (4, 1), (8, 5)] : List (Int × Int)) -> p.1 ≠ 0 /\ p.1.natAbs < 2 ^ 28 := fun p hp => by
   simp only [List.mem_cons, List.not_mem_nil, or_false] at hp
   rcases hp with rfl | rfl | rfl | rfl <;> decide
  refine ⟨by rfl, by walk_at "pd", by show (4 : Nat) <= 1000; decide, by rfl, by rfl, fun x hx => ⟨?_, fun _ => ⟨by walk_at "pd", by walk_at "pd"⟩⟩⟩
  obtain ⟨x1, x2⟩ := x
  have h2 := hb (x1, x2) hx
  refine ⟨⟨⟨⟨⟨⟨by walk_at "pd", by walk_at "pd", h2⟩, by walk_at "pd", ?_⟩, by walk_at "pd", by walk_at "pd"⟩, trivial⟩, fun _ => ⟨⟨⟨by walk_at "pd", by walk_at "pd", by walk_at "pd"⟩, trivial⟩, fun _ => trivial⟩⟩, fun _ => trivial⟩
  show (2 : Int) ≠ 0
  decide
 ·rfl
 ·rfl
 ·rfl
 intro s2 S2
 have S2 : K.S ((ofL (("figure", ⟨.int, figure⟩) :: ("k", ⟨.int, (j : Int)⟩) :: rhoH H script figures head total mode spin holes liar)).upd "elders" (pv 9 (ofL (("figure", ⟨.int, figure⟩) :: ("k", ⟨.int, (j : Int)⟩) :: rhoH H script figures head total mode spin holes liar)) (stExpr (stmtAt mainBody 1)))) (H.mu kin clocks stamps names known whole) (lo ++ ex) s2 := S2
 rw [eel] at S2
 refine o01 (elders_ok figure j) fun el1 el2 => ?_
 generalize eldersF figure j = elders at S2 el1 el2
 have S2 := Cf.S.to S2 (("elders", ⟨.lst .int, elders⟩) :: ("figure", ⟨.int, figure⟩) :: ("k", ⟨.int, (j : Int)⟩) :: rhoH H script figures head total mode spin holes liar) rfl rfl
 refine sq_assign (K := K) (t := .int) (y := (figure.fdiv 16 + figure * j).fmod 8) S2 (pure_g (n := 7) (U := {}) (EV 7) ?_) (by rfl) (by rfl) (by rfl) fun s3 S3 => ?_
 ·walk_at "pd"
 have hst : 0 <= (figure.fdiv 16 + figure * j).fmod 8 /\ (figure.fdiv 16 + figure * j).fmod 8 < 8 := by
  rw [Int.fmod_eq_emod_of_nonneg _ (by decide)]
  exact ⟨Int.emod_nonneg _ (by decide), Int.emod_lt_of_pos _ (by decide)⟩
 generalize (figure.fdiv 16 + figure * j).fmod 8 = step at S3 hst
 have S3 := Cf.S.to S3 (("step", ⟨.int, step⟩) :: ("elders", ⟨.lst .int, elders⟩) :: ("figure", ⟨.int, figure⟩) :: ("k", ⟨.int, (j : Int)⟩) :: rhoH H script figures head total mode spin holes liar) rfl rfl
 have hlc := hH.lc
 refine sq_assign (K := K) (t := .int) (y := (pv 10 (see (H.mu kin clocks stamps names known whole) (ofL (("step", ⟨.int, step⟩) :: ("elders", ⟨.lst .int, elders⟩) :: ("figure", ⟨.int, figure⟩) :: ("k", ⟨.int, (j : Int)⟩) :: rhoH H script figures head total mode spin holes liar))) (stExpr (stmtAt mainBody 3))).v) S3 (view_g (n := 10) (U := {}) (EV 10) ?_ rfl) (by rfl) (by rfl) (by rfl) fun s4 S4 => ?_
 ·refine ⟨⟨by rfl, by rfl, by rfl, ⟨⟨by rfl, ⟨by rfl, by walk_at "pd", ?_, by rfl, by rfl, fun x hx => ⟨trivial, fun _ => ⟨⟨by walk_at "pd", by walk_at "pd", ?_⟩, by rfl⟩⟩⟩, ⟨by rfl, trivial, trivial, by walk_at "pd"⟩, rfl, rfl, ?_⟩, trivial⟩, ?_⟩, ?_, trivial⟩
  ·show elders.length <= 1000
   lia
  ·refine o01 (el1 x hx) fun x1 x2 => ?_
   refine ⟨x1, ?_, ?_⟩
   ·show Int.toNat x < clocks.length
    lia
   ·show clocks.length <= 100000000
    lia
  ·show (elders.flatMap fun e => [clocks.getD e.toNat 0]).length + 1 <= 1000
   have : ∀ l : List Int, (l.flatMap fun e => [clocks.getD e.toNat 0]).length = l.length := fun l => by
    induction l with
    | nil => rfl
    | cons a l ih => rw [List.flatMap_cons, List.length_append, ih]; simp; lia
   rw [this]; lia
  ·show ((elders.flatMap fun e => [clocks.getD e.toNat 0]) ++ [(0 : Int)]) ≠ [] /\ ((elders.flatMap fun e => [clocks.getD e.toNat 0]) ++ [(0 : Int)]).length <= 100
   have : ∀ l : List Int, (l.flatMap fun e => [clocks.getD e.toNat 0]).length = l.length := fun l => by
    induction l with
    | nil => rfl
    | cons a l ih => rw [List.flatMap_cons, List.length_append, ih]; simp; lia
   refine ⟨by simp, ?_⟩
   rw [List.length_append, this, List.length_singleton]; lia
  ·walk_at "pd"
 have S4 : ∃ clock : Int, K.S (ofL (("clock", ⟨.int, clock⟩) :: ("step", ⟨.int, step⟩) :: ("elders", ⟨.lst .int, elders⟩) :: ("figure", ⟨.int, figure⟩) :: ("k", ⟨.int, (j : Int)⟩) :: rhoH H script figures head total mode spin holes liar)) (H.mu kin clocks stamps names known whole) (lo ++ ex) s4 := ⟨_, S4⟩
 refine o10 S4 ?_; clear S4; rintro clock S4
 refine sq_assign (K := K) (t := .int) (y := if holes = true then (step + 3 * j).fmod 8 else 0) S4 (pure_g (n := 7) (U := {}) (EV 7) ?_) (by rfl) (by rfl) (by rfl) fun s5 S5 => ?_
 ·walk_at "pd"
 generalize (if holes = true then (step + 3 * (j : Int)).fmod 8 else 0) = state at S5
 have S5 : K.S (ofL (("state", ⟨.int, state⟩) :: ("clock", ⟨.int, clock⟩) :: ("step", ⟨.int, step⟩) :: ("elders", ⟨.lst .int, elders⟩) :: ("figure", ⟨.int, figure⟩) :: ("k", ⟨.int, (j : Int)⟩) :: rhoH H script figures head total mode spin holes liar)) (H.mu kin clocks stamps names known whole) (lo ++ ex) s5 := S5
 have hlk := hH.lk
 have hls := hH.ls
 have hln := hH.ln
 have hlkn := hH.lkn
 have hlw := hH.lw
 refine sq_append (K := K) (i := 0) (t := .lst .int) (y := elders) S5 rfl (pure_g (n := 4) (U := {}) (EV 4) (by walk_at "pd")) (by lia) (by rfl) (by rfl) (by rfl) (by rfl) (by rfl) fun s6 S6 => ?_
 refine sq_append (K := K) (i := 1) (t := .int) (y := clock) S6 rfl (pure_g (n := 4) (U := {}) (EV 4) (by walk_at "pd")) (by lia) (by rfl) (by rfl) (by rfl) (by rfl) (by rfl) fun s7 S7 => ?_
 have S7 : K.S (ofL (("state", ⟨.int, state⟩) :: ("clock", ⟨.int, clock⟩) :: ("step", ⟨.int, step⟩) :: ("elders", ⟨.lst .int, elders⟩) :: ("figure", ⟨.int, figure⟩) :: ("k", ⟨.int, (j : Int)⟩) :: rhoH H script figures head total mode spin holes liar)) (H.mu (kin ++ [elders]) (clocks ++ [clock]) stamps names known whole) (lo ++ ex) s7 := S7
 have cont : ∀ s8 sv, K.S (ofL (("state", ⟨.int, state⟩) :: ("clock", ⟨.int, clock⟩) :: ("step", ⟨.int, step⟩) :: ("elders", ⟨.lst .int, elders⟩) :: ("figure", ⟨.int, figure⟩) :: ("k", ⟨.int, (j : Int)⟩) :: rhoH H script figures head total mode spin holes liar)) (H.mu (kin ++ [elders]) (clocks ++ [clock]) (stamps ++ [sv]) names known whole) (lo ++ ex) s8 ->
   K.wp (execs (mainBody.drop 8) K.env) Q E s8 := by
  intro s8 sv S8
  refine sq_append (K := K) (i := 3) (t := .byt) (y := if (mode == 1) = true then (([97, 122 - (j : Int)] : List Int).map fun i => UInt8.ofNat i.toNat) else (([97 + (figure.fdiv 128).fmod 4, 97 + (j : Int)] : List Int).map fun i => UInt8.ofNat i.toNat)) S8 rfl (pure_g (n := 9) (U := {}) (EV 9) ?_) (by lia) (by rfl) (by rfl) (by rfl) (by rfl) (by rfl) fun s9 S9 => ?_
  ·refine ⟨by walk_at "pd", fun _ => ⟨by rfl, by rfl, by rfl, ⟨⟨by rfl, by walk_at "pd"⟩, trivial⟩, ?_⟩, fun _ => ⟨⟨by rfl, by rfl, by rfl, ⟨⟨by rfl, by walk_at "pd"⟩, trivial⟩, ?_⟩, rfl⟩⟩
   ·show (2 : Nat) <= 100 /\ ∀ i ∈ ([97, 122 - (j : Int)] : List Int), 0 <= i /\ i < 256
    refine ⟨by decide, fun i hi => ?_⟩
    simp only [List.mem_cons, List.not_mem_nil, or_false] at hi
    rcases hi with rfl | rfl <;> (first | lia | omega)
   ·show (2 : Nat) <= 100 /\ ∀ i ∈ ([97 + (figure.fdiv 128).fmod 4, 97 + (j : Int)] : List Int), 0 <= i /\ i < 256
    refine ⟨by decide, fun i hi => ?_⟩
    have h7 : 0 <= (figure.fdiv 128).fmod 4 /\ (figure.fdiv 128).fmod 4 < 4 := by
     rw [Int.fmod_eq_emod_of_nonneg _ (by decide)]
     exact ⟨Int.emod_nonneg _ (by decide), Int.emod_lt_of_pos _ (by decide)⟩
    simp only [List.mem_cons, List.not_mem_nil, or_false] at hi
    rcases hi with rfl | rfl <;> (first | lia | omega)
  have hnm : (if (mode == 1) = true then (([97, 122 - (j : Int)] : List Int).map fun i => UInt8.ofNat i.toNat) else (([97 + (figure.fdiv 128).fmod 4, 97 + (j : Int)] : List Int).map fun i => UInt8.ofNat i.toNat))[1]? = some (tailB mode j) := by
   unfold tailB
   by_cases hm : mode = 1
   ·rw [if_pos (by simpa using hm), if_pos hm]
    simp only [List.map_cons, List.map_nil, List.getElem?_cons_succ, List.getElem?_cons_zero]
    congr 2 <;> lia
   ·rw [if_neg (by simpa using hm), if_neg hm]
    simp only [List.map_cons, List.map_nil, List.getElem?_cons_succ, List.getElem?_cons_zero]
    congr 2 <;> omega
  generalize (if (mode == 1) = true then (([97, 122 - (j : Int)] : List Int).map fun i => UInt8.ofNat i.toNat) else (([97 + (figure.fdiv 128).fmod 4, 97 + (j : Int)] : List Int).map fun i => UInt8.ofNat i.toNat)) = nm at S9 hnm
  refine sq_append (K := K) (i := 4) (t := .bool) (y := (state != 7)) S9 rfl (pure_g (n := 5) (U := {}) (EV 5) ?_) (by lia) (by rfl) (by rfl) (by rfl) (by rfl) (by rfl) fun s10 S10 => ?_
  ·walk_at "pd"
  refine sq_append (K := K) (i := 5) (t := .bool) (y := decide (state < 6)) S10 rfl (pure_g (n := 5) (U := {}) (EV 5) ?_) (by lia) (by rfl) (by rfl) (by rfl) (by rfl) (by rfl) fun s11 S11 => ?_
  ·walk_at "pd"
  have S11 : K.S _ (H.mu (kin ++ [elders]) (clocks ++ [clock]) (stamps ++ [sv]) (names ++ [nm]) (known ++ [state != 7]) (whole ++ [decide (state < 6)])) (lo ++ ex) s11 := S11
  refine st_nil (h s11 _ _ _ _ _ _ (hH.snoc el1 el2 hnm ?_) (Cf.S.to S11 _ rfl rfl))
  intro hw
  have : state < 6 := by simpa using hw
  have : state ≠ 7 := by lia
  simpa using this
 refine st_cons (st_if (K := K) (v := (mode == 2)) S7 (test_g (n := 6) (U := {}) (TE 6) (by walk_at "pd")) (fun _ s8 S8 => ?_) (fun _ s8 S8 => ?_))
 ·refine st_cons (st_append (K := K) (i := 2) (t := .int) (y := step) S8 rfl (pure_g (n := 4) (U := {}) (EV 4) (by walk_at "pd")) (by lia) (by rfl) (by rfl) (by rfl) (by rfl) (by rfl) fun s9 S9 => st_nil (cont s9 _ S9))
 ·refine st_cons (st_if (K := K) (v := (mode == 3) && ((j : Int) == liar)) S8 (test_g (n := 7) (U := {}) (TE 7) (by walk_at "pd")) (fun _ s9 S9 => ?_) (fun _ s9 S9 => ?_))
  ·refine st_cons (st_append (K := K) (i := 2) (t := .int) (y := head) S9 rfl (pure_g (n := 4) (U := {}) (EV 4) (by walk_at "pd")) (by lia) (by rfl) (by rfl) (by rfl) (by rfl) (by rfl) fun s10 S10 => st_nil (st_nil (cont s10 _ S10)))
  ·refine st_cons (st_append (K := K) (i := 2) (t := .int) (y := (if head < 0 then -head else head).fdiv 64 + clock) S9 rfl (pure_g (n := 7) (U := {}) (EV 7) ⟨⟨⟨by rfl, by rfl, by rfl, ⟨⟨by rfl, by walk_at "pd"⟩, trivial⟩, trivial⟩, trivial, ⟨by decide, by decide⟩⟩, by walk_at "pd", trivial⟩) (by lia) (by rfl) (by rfl) (by rfl) (by rfl) (by rfl) fun s10 S10 => st_nil (st_nil (cont s10 _ S10)))
end
end Mine
open Sem (wp)
namespace Mine
theorem flat_map {α β : Type} (f : α -> β) (l : List α) : (l.flatMap fun x => [f x]) = l.map f := by
 induction l with
 | nil => rfl
 | cons a l ih => rw [List.flatMap_cons, ih]; rfl
noncomputable def plansF (last : Int) : List (Int × List Int) := [(last, [last - 1]), (last, [last - 1, last - 2]), (last - 1, [last - 2, last - 3]), (last, [0, last - 1]), (last, [last - 1, last]), (last, []), (last, [last - 1, last - 1]), (2, [last])]
theorem plans_ok {last : Int} (h : 3 <= last) : ∀ p ∈ plansF last, (0 <= p.1 /\ p.1 <= last) /\ (∀ o ∈ p.2, 0 <= o /\ o <= last) /\ p.2.length <= 2 := by
 intro p hp
 unfold plansF at hp
 simp only [List.mem_cons, List.not_mem_nil, or_false] at hp
 rcases hp with rfl | rfl | rfl | rfl | rfl | rfl | rfl | rfl
 all_goals refine ⟨by constructor <;> (simp only; (first | lia | omega)), fun o ho => ?_, by simp⟩
 all_goals simp only [List.mem_cons, List.not_mem_nil, or_false] at ho
 all_goals (first | lia | omega)
structure Wd where
 n : Nat
 kin : List (List Int)
 stamps : List Int
 names : List (List UInt8)
 known : List Bool
 whole : List Bool
 first : Int
 others : List Int
 floor : Int
structure Wd.Good (W : Wd) : Prop where
 n4 : 4 <= W.n
 n18 : W.n <= 18
 lk : W.kin.length = W.n
 ls : W.stamps.length = W.n
 ln : W.names.length = W.n
 lkn : W.known.length = W.n
 lw : W.whole.length = W.n
 ok : ∀ i, i < W.n -> ∀ e ∈ W.kin.getD i [], 0 <= e /\ e < i
 kl : ∀ i, i < W.n -> (W.kin.getD i []).length <= 4
 nm : ∀ i j, i < W.n -> j < W.n -> W.names.getD i [] = W.names.getD j [] -> i = j
 wk : ∀ i, i < W.n -> W.whole.getD i false = true -> W.known.getD i false = true
 first : 0 <= W.first /\ W.first < W.n
 others : ∀ o ∈ W.others, 0 <= o /\ o < W.n
 ol : W.others.length <= 2
theorem tail_inj {mode : Int} {i j : Nat} (hi : i < 18) (hj : j < 18) (h : tailB mode i = tailB mode j) : i = j := by
 have key : ∀ a b : Nat, a < 256 -> b < 256 -> UInt8.ofNat a = UInt8.ofNat b -> a = b := fun a b ha hb h => by
  have := congrArg UInt8.toNat h
  simp only [UInt8.toNat_ofNat'] at this
  lia
 unfold tailB at h
 split at h
 ·have := key _ _ (by lia) (by lia) h
  lia
 ·have := key _ _ (by lia) (by lia) h
  lia
theorem Hist.good {mode : Int} {n : Nat} {kin : List (List Int)} {clocks stamps : List Int} {names : List (List UInt8)} {known whole : List Bool} (h : Hist mode n kin clocks stamps names known whole) {first : Int} {others : List Int} {floor : Int}
  (n4 : 4 <= n) (n18 : n <= 18) (hf : 0 <= first /\ first < n) (ho : ∀ o ∈ others, 0 <= o /\ o < (n : Int)) (hl : others.length <= 2) : Wd.Good ⟨n, kin, stamps, names, known, whole, first, others, floor⟩ where
 n4 := n4
 n18 := n18
 lk := h.lk
 ls := h.ls
 ln := h.ln
 lkn := h.lkn
 lw := h.lw
 ok := h.ok
 kl := h.kl
 nm := fun i j hi hj e => by
  have h1 := h.nm i hi
  have h2 := h.nm j hj
  rw [e, h2] at h1
  exact tail_inj (by show i < 18; have : i < n := hi; lia) (by show j < 18; have : j < n := hj; lia) (Option.some.inj h1.symm)
 wk := h.wk
 first := hf
 others := ho
 ol := hl
noncomputable def timesF (names : List (List UInt8)) (stamps : List Int) (known : List Bool) : Nat -> List UInt8 -> Option Int
 | 0 => fun _ => none
 | j + 1 => if known.getD j false = true then (fun c => if c = names.getD j [] then some (stamps.getD j 0) else timesF names stamps known j c) else timesF names stamps known j
noncomputable def folkF (names : List (List UInt8)) (kin : List (List Int)) (whole : List Bool) : Nat -> List UInt8 -> Option (List (List UInt8))
 | 0 => fun _ => none
 | j + 1 => if whole.getD j false = true then (fun c => if c = names.getD j [] then some ((kin.getD j []).map fun e => names.getD e.toNat []) else folkF names kin whole j c) else folkF names kin whole j
theorem times_keys {names : List (List UInt8)} {stamps : List Int} {known : List Bool} : ∀ {j : Nat}, j <= names.length -> ∀ c, timesF names stamps known j c ≠ none -> c ∈ names
 | 0, _, c, h => absurd rfl h
 | j + 1, hj, c, h => by
  unfold timesF at h
  split at h
  ·by_cases hc : c = names.getD j []
   ·rw [hc, List.getD_eq_getElem?_getD, List.getElem?_eq_getElem (by lia)]
    exact List.getElem_mem _
   ·simp only [if_neg hc] at h
    exact times_keys (by lia) c h
  ·exact times_keys (by lia) c h
theorem folk_keys {names : List (List UInt8)} {kin : List (List Int)} {whole : List Bool} : ∀ {j : Nat}, j <= names.length -> ∀ c, folkF names kin whole j c ≠ none -> c ∈ names
 | 0, _, c, h => absurd rfl h
 | j + 1, hj, c, h => by
  unfold folkF at h
  split at h
  ·by_cases hc : c = names.getD j []
   ·rw [hc, List.getD_eq_getElem?_getD, List.getElem?_eq_getElem (by lia)]
    exact List.getElem_mem _
   ·simp only [if_neg hc] at h
    exact folk_keys (by lia) c h
  ·exact folk_keys (by lia) c h
noncomputable def Wd.T (W : Wd) : List UInt8 -> Option Int := timesF W.names W.stamps W.known W.n
noncomputable def Wd.P (W : Wd) : List UInt8 -> Option (List (List UInt8)) := folkF W.names W.kin W.whole W.n
noncomputable def rhoC (script : List Int) (W : Wd) : List (Str × TV) :=
 [("script", ⟨.lst .int, script⟩), ("count", ⟨.int, (W.n : Int)⟩), ("kin", ⟨.lst (.lst .int), W.kin⟩), ("stamps", ⟨.lst .int, W.stamps⟩), ("names", ⟨.lst .byt, W.names⟩), ("known", ⟨.lst .bool, W.known⟩), ("whole", ⟨.lst .bool, W.whole⟩),
  ("first", ⟨.int, W.first⟩), ("others", ⟨.lst .int, W.others⟩), ("floor", ⟨.int, W.floor⟩)]
section
variable {Z : LZ} {s : Shared} {lo : List (Addr × Obj)} {Q : Flow -> Shared -> Prop} {E : Value -> Shared -> Prop}
theorem law_c2 {script figures : List Int} {head total mode spin : Int} {holes : Bool} {liar : Int} {kin : List (List Int)} {clocks stamps : List Int} {names : List (List UInt8)} {known whole : List Bool} (hF : FigsOk figures) (hH : Hist mode figures.length kin clocks stamps names known whole)
  (S7 : (lawCf Z).S (ofL (("whole", ⟨.lst .bool, whole⟩) :: ("known", ⟨.lst .bool, known⟩) :: ("names", ⟨.lst .byt, names⟩) :: ("stamps", ⟨.lst .int, stamps⟩) :: ("kin", ⟨.lst (.lst .int), kin⟩) :: rhoB script figures head total mode spin holes liar)) [] lo s)
  (h : ∀ s' W, Wd.Good W -> (lawCf Z).S (ofL (rhoC script W)) [] lo s' -> (lawCf Z).wp (execs ((defBody lawDef).drop 22) (lawCf Z).env) Q E s') :
  (lawCf Z).wp (execs ((defBody lawDef).drop 19) (lawCf Z).env) Q E s := by
 let K := lawCf Z
 have EV := fun n => EV0 K n
 have h4 := hF.lo
 have h5 := hF.hi
 refine sq_assign (K := K) (t := .lst (.pair .int (.lst .int))) (y := plansF ((figures.length : Int) - 1)) S7 (pure_g (n := 8) (U := {}) (EV 8) ?_) (by rfl) (by rfl) (by rfl) fun s2 S8 => ?_
 ·walk_at "pd"
 have h8 : 0 <= total.fmod 8 /\ total.fmod 8 < 8 := by
  rw [Int.fmod_eq_emod_of_nonneg _ (by decide)]
  exact ⟨Int.emod_nonneg _ (by decide), Int.emod_lt_of_pos _ (by decide)⟩
 have hp := plans_ok (last := (figures.length : Int) - 1) (by lia) ((plansF ((figures.length : Int) - 1)).getD (total.fmod 8).toNat (0, [])) (by
  rw [List.getD_eq_getElem?_getD, List.getElem?_eq_getElem (by show (total.fmod 8).toNat < 8; lia)]
  exact List.getElem_mem _)
 refine sq_unpack (K := K) (t := .pair .int (.lst .int)) (y := (plansF ((figures.length : Int) - 1)).getD (total.fmod 8).toNat (0, [])) S8 (pure_g (n := 6) (U := {}) (EV 6) ?_) (by rfl) (by rfl) (by rfl) fun s3 S9 => ?_
 ·refine ⟨by walk_at "pd", ⟨by walk_at "pd", by walk_at "pd", by show (8 : Int) ≠ 0; decide⟩, h8.1, ?_, ?_⟩
  ·show (total.fmod 8).toNat < 8
   lia
  ·show (8 : Nat) <= 100000000
   decide
 generalize (plansF ((figures.length : Int) - 1)).getD (total.fmod 8).toNat (0, []) = pq at S9 hp
 obtain ⟨first, others⟩ := pq
 refine o02 hp ?_; clear hp; rintro hf ho hol
 simp only at hf ho hol
 have S9 := Cf.S.to S9 (("first", ⟨.int, first⟩) :: ("others", ⟨.lst .int, others⟩) :: ("whole", ⟨.lst .bool, whole⟩) :: ("known", ⟨.lst .bool, known⟩) :: ("names", ⟨.lst .byt, names⟩) :: ("stamps", ⟨.lst .int, stamps⟩) :: ("kin", ⟨.lst (.lst .int), kin⟩) :: rhoB script figures head total mode spin holes liar)
  rfl rfl
 have hls := hH.ls
 refine sq_assign (K := K) (t := .int) (y := if (spin == 1) = true then stamps.getD ((figures.length : Int).fdiv 2).toNat 0 else if (spin == 3) = true then stamps.getD first.toNat 0 else 0) S9 (pure_g (n := 6) (U := {}) (EV 6) ?_) (by rfl) (by rfl) (by rfl) fun s4 S10 => ?_
 ·refine ⟨by walk_at "pd", fun _ => ⟨by walk_at "pd", ⟨by walk_at "pd", by walk_at "pd", ⟨by decide, by decide⟩⟩, ?_, ?_, ?_⟩, fun _ => ⟨⟨by walk_at "pd", fun _ => ⟨by walk_at "pd", by walk_at "pd", hf.1, ?_, ?_⟩, fun _ => ⟨trivial, rfl⟩⟩, rfl⟩⟩
  ·show 0 <= (figures.length : Int).fdiv 2
   rw [Int.fdiv_eq_ediv_of_nonneg _ (by decide)]; lia
  ·show ((figures.length : Int).fdiv 2).toNat < stamps.length
   rw [Int.fdiv_eq_ediv_of_nonneg _ (by decide)]; lia
  ·show stamps.length <= 100000000
   lia
  ·show first.toNat < stamps.length
   lia
  ·show stamps.length <= 100000000
   lia
 generalize (if (spin == 1) = true then stamps.getD ((figures.length : Int).fdiv 2).toNat 0 else if (spin == 3) = true then stamps.getD first.toNat 0 else 0) = floor at S10
 refine h s4 ⟨figures.length, kin, stamps, names, known, whole, first, others, floor⟩ (hH.good (by lia) h5 ⟨hf.1, by lia⟩ (fun o hx => ⟨(ho o hx).1, by have := (ho o hx).2; lia⟩) hol) (Cf.S.to S10 _ rfl rfl)
theorem law_c {script figures : List Int} {head total mode spin : Int} {holes : Bool} {liar : Int} {H : Hl} (hF : FigsOk figures)
  (S : (lawCf Z).S (ofL (H.rho ++ rhoB script figures head total mode spin holes liar)) (H.mu [] [] [] [] [] []) lo s)
  (h : ∀ s' W, Wd.Good W -> (lawCf Z).S (ofL (rhoC script W)) [] lo s' -> (lawCf Z).wp (execs ((defBody lawDef).drop 22) (lawCf Z).env) Q E s') :
  (lawCf Z).wp (execs ((defBody lawDef).drop 18) (lawCf Z).env) Q E s := by
 let K := lawCf Z
 have h5 := hF.hi
 refine sq_each (K := K) (n := 6) (U := {}) (t := .int) (l := rangeOf 0 figures.length 1) (fun j (z : Hs) => Hist mode j z.kin z.clocks z.stamps z.names z.known z.whole) (fun _ _ => rhoH H script figures head total mode spin holes liar) (fun _ z => H.mu z.kin z.clocks z.stamps z.names z.known z.whole) ⟨[], [], [], [], [], []⟩ (EV0 K 6) S
  ⟨rfl, rfl, rfl, rfl, rfl, rfl, fun i hi => by lia, fun i hi => by lia, fun i hi => by lia, fun i hi => by lia⟩ rfl (by walk_at "pd") rfl ⟨.inl rfl, by decide, by show Int.natAbs (figures.length : Int) <= 1000; lia⟩ (by rfl) (fun _ _ => by rfl) (fun _ _ => by rfl) (fun _ _ => by rfl)
  (fun h1 le1 j z x ex s1 hx hH S1 Q' E' hQ' => ?_) (fun z s1 hH S1 => ?_)
 ·refine o01 (rangeOf_get hx) fun hx hj => ?_
  rw [hx] at S1
  exact main_body hF hj hH S1 fun s2 kin clocks stamps names known whole hH' S2 => hQ' ⟨kin, clocks, stamps, names, known, whole⟩ _ _ hH' (by rfl) S2
 ·rw [rangeOf_len] at hH
  exact law_c2 hF hH (Cf.S.to (K := K) (Cf.S.still S1 (by rfl)) _ rfl rfl) h
end
end Mine
open Sem (wp)
namespace Mine
noncomputable def Wd.name (W : Wd) (k : Int) : List UInt8 := W.names.getD k.toNat []
noncomputable def rhoD (script : List Int) (W : Wd) : List (Str × TV) := ("times", ⟨.dct .int, W.T⟩) :: ("folk", ⟨.dct (.lst .byt), W.P⟩) :: ("asked", ⟨.lst .byt, W.others.map W.name⟩) :: rhoC script W
noncomputable def dictBody : List Stmt := ifBody (stmtAt (defBody lawDef) 24)
section
variable {Z : LZ} {s : Shared} {lo : List (Addr × Obj)} {Q : Flow -> Shared -> Prop} {E : Value -> Shared -> Prop}
noncomputable def muD (aT aP : Addr) (f : List UInt8 -> Option Int) (p : List UInt8 -> Option (List (List UInt8))) : List Ent := [⟨"times", aT, ⟨.dct .int, f⟩⟩, ⟨"folk", aP, ⟨.dct (.lst .byt), p⟩⟩]
theorem folk_g {K : Cf} {ρ : Rho} {mu : List Ent} {lo : List (Addr × Obj)} {script : List Int} {W : Wd} (G : W.Good) {j : Nat} (hj : j < W.n) {aT aP : Addr} (hK : ∃ h1, K = (lawCf Z).at h1) (hρ : ρ = ofL (("k", ⟨.int, (j : Int)⟩) :: ("times", ⟨.val, .ref aT⟩) :: ("folk", ⟨.val, .ref aP⟩) :: rhoC script W)) :
  K.G ρ mu lo (PySem.eval (stExpr (stmtAt (ifBody (stmtAt dictBody 1)) 0)) K.env) (.lst .byt) ((W.kin.getD j []).map W.name) := by
 refine o10 hK ?_; rintro h1 rfl
 subst hρ
 let K := (lawCf Z).at h1
 have g4 := G.n4
 have g18 := G.n18
 have glk := G.lk
 have gln := G.ln
 have gok := G.ok j hj
 have gkl := G.kl j hj
 have epv : pv 9 (ofL (("k", ⟨.int, (j : Int)⟩) :: ("times", ⟨.val, .ref aT⟩) :: ("folk", ⟨.val, .ref aP⟩) :: rhoC script W)) (stExpr (stmtAt (ifBody (stmtAt dictBody 1)) 0)) = ⟨.lst .byt, (W.kin.getD j []).map W.name⟩ := by
  rw [<- flat_map]
  kernel_rfl
 have gp := pure_g (K := K) (ρ := ofL (("k", ⟨.int, (j : Int)⟩) :: ("times", ⟨.val, .ref aT⟩) :: ("folk", ⟨.val, .ref aP⟩) :: rhoC script W)) (mu := mu) (lo := lo) (n := 9) (U := {}) (EV0 K 9) (e := stExpr (stmtAt (ifBody (stmtAt dictBody 1)) 0)) (by
  refine ⟨by rfl, ⟨by walk_at "pd", by walk_at "pd", by show (0 : Int) <= (j : Int); lia, ?_, ?_⟩, ?_, by rfl, by rfl, fun x hx => ⟨trivial, fun _ => ⟨⟨by walk_at "pd", by walk_at "pd", ?_⟩, by rfl⟩⟩⟩
  ·show j < W.kin.length
   lia
  ·show W.kin.length <= 100000000
   lia
  ·show (W.kin.getD j []).length <= 1000
   lia
  ·refine o01 (gok x hx) fun x1 x2 => ?_
   refine ⟨x1, ?_, ?_⟩
   ·show Int.toNat x < W.names.length
    lia
   ·show W.names.length <= 100000000
    lia)
 rw [epv] at gp
 exact gp
theorem dict_body {script : List Int} {W : Wd} (G : W.Good) {j : Nat} (hj : j < W.n) {aT aP : Addr} {ex : List (Addr × Obj)} {h1 : PH}
  (S : ((lawCf Z).at h1).S (ofL (("k", ⟨.int, (j : Int)⟩) :: ("times", ⟨.val, .ref aT⟩) :: ("folk", ⟨.val, .ref aP⟩) :: rhoC script W)) (muD aT aP (timesF W.names W.stamps W.known j) (folkF W.names W.kin W.whole j)) (lo ++ ex) s)
  (h : ∀ s', ((lawCf Z).at h1).S (ofL (("k", ⟨.int, (j : Int)⟩) :: ("times", ⟨.val, .ref aT⟩) :: ("folk", ⟨.val, .ref aP⟩) :: rhoC script W)) (muD aT aP (timesF W.names W.stamps W.known (j + 1)) (folkF W.names W.kin W.whole (j + 1))) (lo ++ ex) s' -> Q .next s') :
  ((lawCf Z).at h1).wp (execs dictBody ((lawCf Z).at h1).env) Q E s := by
 let K := (lawCf Z).at h1
 have EV := fun n => EV0 K n
 have TE := fun n => TE0 K n
 have g4 := G.n4
 have g18 := G.n18
 have gls := G.ls
 have gln := G.ln
 have glkn := G.lkn
 have glw := G.lw
 have nmlen : W.names.length <= 100000 := by lia
 have cont : ∀ s1, K.S (ofL (("k", ⟨.int, (j : Int)⟩) :: ("times", ⟨.val, .ref aT⟩) :: ("folk", ⟨.val, .ref aP⟩) :: rhoC script W)) (muD aT aP (timesF W.names W.stamps W.known (j + 1)) (folkF W.names W.kin W.whole j)) (lo ++ ex) s1 ->
   K.wp (execs (dictBody.drop 1) K.env) Q E s1 := by
  intro s1 S1
  refine wpAny_execs_cons ?_
  refine st_if (K := K) (v := W.whole.getD j false) S1 (test_g (n := 6) (U := {}) (TE 6) ?_) (fun hb s2 S2 => ?_) (fun hb s2 S2 => ?_)
  ·refine ⟨⟨by walk_at "pd", by walk_at "pd", by show (0 : Int) <= (j : Int); lia, ?_, ?_⟩, trivial⟩
   ·show j < W.whole.length
    lia
   ·show W.whole.length <= 100000000
    lia
  ·have e : folkF W.names W.kin W.whole (j + 1) = fun c => if c = W.names.getD j [] then some ((W.kin.getD j []).map W.name) else folkF W.names W.kin W.whole j c := by
    show (if W.whole.getD j false = true then _ else _) = _
    rw [if_pos hb]; rfl
   rw [e] at h
   refine sq_set (K := K) (i := 1) (t := .lst .byt) (k := W.names.getD j []) (y := (W.kin.getD j []).map W.name) W.names nmlen (folk_keys (by lia)) S2 rfl (folk_g G hj ⟨h1, rfl⟩ rfl) (pure_g (n := 5) (U := {}) (EV 5) ?_) (by rfl) (by rfl) (by rfl) fun s3 S3 => st_nil (st_nil (h s3 S3))
   refine ⟨by walk_at "pd", by walk_at "pd", by show (0 : Int) <= (j : Int); lia, ?_, ?_⟩
   ·show j < W.names.length
    lia
   ·show W.names.length <= 100000000
    lia
  ·have e : folkF W.names W.kin W.whole (j + 1) = folkF W.names W.kin W.whole j := by
    show (if W.whole.getD j false = true then _ else _) = _
    rw [if_neg (by rw [hb]; simp)]
   rw [e] at h
   exact st_nil (st_nil (h s2 S2))
 refine wpAny_execs_cons ?_
 refine st_if (K := K) (v := W.known.getD j false) S (test_g (n := 6) (U := {}) (TE 6) ?_) (fun hb s2 S2 => ?_) (fun hb s2 S2 => ?_)
 ·refine ⟨⟨by walk_at "pd", by walk_at "pd", by show (0 : Int) <= (j : Int); lia, ?_, ?_⟩, trivial⟩
  ·show j < W.known.length
   lia
  ·show W.known.length <= 100000000
   lia
 ·have e : timesF W.names W.stamps W.known (j + 1) = fun c => if c = W.names.getD j [] then some (W.stamps.getD j 0) else timesF W.names W.stamps W.known j c := by
   show (if W.known.getD j false = true then _ else _) = _
   rw [if_pos hb]
  rw [e] at cont
  refine sq_set (K := K) (i := 0) (t := .int) (k := W.names.getD j []) (y := W.stamps.getD j 0) W.names nmlen (times_keys (by lia)) S2 rfl (pure_g (n := 5) (U := {}) (EV 5) ?_) (pure_g (n := 5) (U := {}) (EV 5) ?_) (by rfl) (by rfl) (by rfl) fun s3 S3 => st_nil (cont s3 S3)
  ·refine ⟨by walk_at "pd", by walk_at "pd", by show (0 : Int) <= (j : Int); lia, ?_, ?_⟩
   ·show j < W.stamps.length
    lia
   ·show W.stamps.length <= 100000000
    lia
  ·refine ⟨by walk_at "pd", by walk_at "pd", by show (0 : Int) <= (j : Int); lia, ?_, ?_⟩
   ·show j < W.names.length
    lia
   ·show W.names.length <= 100000000
    lia
 ·have e : timesF W.names W.stamps W.known (j + 1) = timesF W.names W.stamps W.known j := by
   show (if W.known.getD j false = true then _ else _) = _
   rw [if_neg (by rw [hb]; simp)]
  rw [e] at cont
  exact st_nil (cont s2 S2)
theorem law_d {script : List Int} {W : Wd} (G : W.Good) (S : (lawCf Z).S (ofL (rhoC script W)) [] lo s)
  (h : ∀ s', (lawCf Z).S (ofL (rhoD script W)) [] lo s' -> (lawCf Z).wp (execs ((defBody lawDef).drop 26) (lawCf Z).env) Q E s') :
  (lawCf Z).wp (execs ((defBody lawDef).drop 22) (lawCf Z).env) Q E s := by
 let K := lawCf Z
 have EV := fun n => EV0 K n
 have TE := fun n => TE0 K n
 have g4 := G.n4
 have g18 := G.n18
 have gln := G.ln
 have gol := G.ol
 have goth := G.others
 refine sq_dict (K := K) .int S (by rfl) (by rfl) fun s1 aT S1 => ?_
 refine sq_dict (K := K) (.lst .byt) S1 (by rfl) (by rfl) fun s2 aP S2 => ?_
 have S2 : K.S _ (muD aT aP (fun _ => none) (fun _ => none)) lo s2 := S2
 have S2 := Cf.S.to S2 (("times", ⟨.val, .ref aT⟩) :: ("folk", ⟨.val, .ref aP⟩) :: rhoC script W) rfl rfl
 refine sq_each (K := K) (n := 6) (U := {}) (t := .int) (l := rangeOf 0 W.n 1) (fun _ (_ : Unit) => True) (fun _ _ => ("times", ⟨.val, .ref aT⟩) :: ("folk", ⟨.val, .ref aP⟩) :: rhoC script W) (fun j _ => muD aT aP (timesF W.names W.stamps W.known j) (folkF W.names W.kin W.whole j)) () (EV 6) S2 trivial rfl (by walk_at "pd") rfl ⟨.inl rfl, by decide, by show Int.natAbs (W.n : Int) <= 1000; lia⟩ (by rfl) (fun _ _ => by rfl) (fun _ _ => by rfl) (fun _ _ => by rfl)
  (fun h1 le1 j z x ex s3 hx _ S3 Q' E' hQ' => ?_) (fun z s3 _ S3 => ?_)
 ·refine o01 (rangeOf_get hx) fun hx hj => ?_
  rw [hx] at S3
  exact dict_body G hj S3 fun s4 S4 => hQ' () _ _ trivial (by rfl) S4
 ·rw [rangeOf_len] at S3
  have S5 := Cf.S.to (K := K) (Cf.S.still S3 (by rfl)) (("times", ⟨.dct .int, W.T⟩) :: ("folk", ⟨.dct (.lst .byt), W.P⟩) :: rhoC script W) rfl rfl
  have comp := fun {ρ : Rho} {mu : List Ent} {lo : List (Addr × Obj)} {s : Shared} (S : K.S ρ mu lo s) Q E x p pos cpos elt gens scope => @st_comp K ρ mu lo s {} 8 Q E x p pos cpos elt gens scope (EV 8) (TE 8) S
  have epv : pv 9 (ofL (("times", ⟨.dct .int, W.T⟩) :: ("folk", ⟨.dct (.lst .byt), W.P⟩) :: rhoC script W)) (stExpr (stmtAt (defBody lawDef) 25)) = ⟨.lst .byt, W.others.map W.name⟩ := by
   rw [<- flat_map]
   kernel_rfl
  refine wpAny_execs_cons ?_
  refine comp S5 _ _ _ _ _ _ _ _ _ ?_ ?_ ?_ ?_ ?_
  ·refine ⟨by rfl, by walk_at "pd", ?_, by rfl, by rfl, fun x hx => ⟨trivial, fun _ => ⟨⟨by walk_at "pd", by walk_at "pd", ?_⟩, by rfl⟩⟩⟩
   ·show W.others.length <= 1000
    lia
   ·refine o01 (goth x hx) fun x1 x2 => ?_
    refine ⟨x1, ?_, ?_⟩
    ·show Int.toNat x < W.names.length
     lia
    ·show W.names.length <= 100000000
     lia
  ·rfl
  ·rfl
  ·rfl
  intro s6 S6
  have S6 : K.S ((ofL (("times", ⟨.dct .int, W.T⟩) :: ("folk", ⟨.dct (.lst .byt), W.P⟩) :: rhoC script W)).upd "asked" (pv 9 (ofL (("times", ⟨.dct .int, W.T⟩) :: ("folk", ⟨.dct (.lst .byt), W.P⟩) :: rhoC script W)) (stExpr (stmtAt (defBody lawDef) 25)))) [] lo s6 := S6
  rw [epv] at S6
  exact h s6 (Cf.S.to S6 _ rfl rfl)
end
end Mine
open Sem (wp)
namespace Mine
theorem ns_data {h h' : Heap} {L : Addr} {o o' : Obj} {m : Str -> Option Value} (n : h.Ns L m) (e : h.get? L = some o) (e' : h'.get? L = some o') (hd : o'.data = o.data) : h'.Ns L m := by
 refine o33 n fun o1 es ep a1 a2 a3 a4 => ?_
 rw [e] at a1; obtain rfl := Option.some.inj a1
 exact ⟨o', es, ep, e', hd.trans a2, a3, a4⟩
section
variable {K : Cf} {ρ : Rho} {mu : List Ent} {lo : List (Addr × Obj)} {s s' : Shared} {hc hd : PH}
theorem Cf.H.after {T P : Addr} {oT oP oP' oL oL' : Obj} (S : K.H ρ [] [(T, oT), (P, oP)] s hc) (same : ∃ h tk g, s' = { s with heap := h, toks := tk, gens := g }) (gp : K.gp s'.gens) (k : ∀ b o, b ≠ K.env.locals -> b ≠ P -> s.heap.get? b = some o -> s'.heap.get? b = some o)
  (eL : s.heap.get? K.env.locals = some oL) (eL' : s'.heap.get? K.env.locals = some oL') (hd : oL'.data = oL.data) (eP : s'.heap.get? P = some oP') : K.H ρ [] [(T, oT), (P, oP')] s' hc := by
 refine o01 (S.loose (P, oP) (by simp)) fun _ ownP => ?_
 refine o01 (S.loose (T, oT) (by simp)) fun eT ownT => ?_
 have nd := S.nodup
 have hTP : T ≠ P := by
  simp only [List.map_nil, List.map_cons, List.nil_append, List.nodup_cons, List.mem_cons, List.not_mem_nil, or_false] at nd
  exact nd.1
 refine ⟨S.toFrm.move same gp PH.le.rfl (fun b o e => k b o (fun q => by rw [q, S.locout] at e; exact No.ns e) (fun q => by rw [q, ownP.1] at e; exact No.ns e) (S.inn b o e)) (fun m n => ns_data n eL eL' hd) (fun x c h hL o => k c o hL (Ne.symm (ownP.2.2 x c h))) S.locout (fun _ _ _ h => h),
  (fun e he => nomatch he), all2 ⟨k _ _ ownT.2.1 hTP eT, ownT⟩ ⟨eP, ownP⟩, S.nodup⟩
end
noncomputable def LW (K : Cf) (qW qL : Sites) (tW tL : Addr) (ρ : Rho) (s : Shared) : Prop := ∃ hc psW psL, K.H ρ [] [(tW, tabObj psW), (tL, tabObj psL)] s hc /\ TabFor hc qW psW /\ TabFor hc qL psL
section
variable {K : Cf} {qW qL : Sites} {tW tL : Addr} {ρ : Rho} {s : Shared} {Q : Flow -> Shared -> Prop} {E : Value -> Shared -> Prop}
theorem LW.by {m : Sem Flow} (S : LW K qW qL tW tL ρ s)
  (h : ∀ (h1 : PH) (lo : List (Addr × Obj)), K.hcb.le h1 -> Gd K.F K.hcb -> (K.at h1).S ρ [] lo s -> (∀ s' ρ', (K.at h1).S ρ' [] lo s' -> LW K qW qL tW tL ρ' s') -> K.wp m Q E s) : K.wp m Q E s := by
 refine o32 S ?_; clear S; rintro hc psW psL S T1 T2
 refine h hc _ S.le S.gd ⟨hc, Cf.H.up S⟩ fun s' ρ' ⟨hc', S'⟩ => ?_
 exact ⟨hc', psW, psL, Cf.H.down S' S.le S.gd, T1.mono S'.le, T2.mono S'.le⟩
theorem LW.to (S : LW K qW qL tW tL ρ s) (l : List (Str × TV)) (h : AllR ρ l) : LW K qW qL tW tL (ofL l) s := by
 refine o31 S ?_; clear S; rintro hc psW psL S T
 exact ⟨hc, psW, psL, Cf.H.weak S (ofL_le h) (fun e he => nomatch he), T⟩
end
theorem CodeIn.minus {hd : PH} {X : List Addr} {v : Value} {q : Str} (C : CodeIn hd v q) (hX : ∀ b ∈ X, ∀ o, hd b = some o -> (∃ c, o.data = .cell c) \/ ∃ ps : Array Value, o.data = .fields ps /\ TriplesOk ps.toList) : CodeIn (hd.minus X) v q := by
 refine o43 C ?_; rintro c oc vs t rfl hoc hdc hv
 refine ⟨c, oc, vs, t, rfl, ?_, hdc, hv⟩
 unfold PH.minus
 rw [if_neg]
 ·exact hoc
 ·intro hm
  rcases hX c hm oc hoc with ⟨c', e⟩ | ⟨ps, e, tr⟩
  ·rw [e] at hdc; cases hdc
  ·rw [e] at hdc
   cases hdc
   obtain ⟨l⟩ := vs
   induction l using List.casesOn with
   | nil => simp at hv
   | cons a l =>
    induction l using List.casesOn with
    | nil => simp at hv
    | cons b l =>
     have hv : b = .str q t := by simpa using hv
     subst hv
     rcases a with ⟨⟩ <;> exact tr
theorem TabFor.minus {hd : PH} {X : List Addr} {q : Sites} {ps : Array Value} (T : TabFor hd q ps) (hX : ∀ b ∈ X, ∀ o, hd b = some o -> (∃ c, o.data = .cell c) \/ ∃ ps : Array Value, o.data = .fields ps /\ TriplesOk ps.toList) : TabFor (hd.minus X) q ps :=
 ⟨T.1, fun a ha => (T.2 a ha).imp id fun ⟨c, b, d⟩ => ⟨c, b, d.minus hX⟩⟩
theorem Rep.minus {P : Params} {hd : PH} {X : List Addr} {l : List (List UInt8)} {v : Value} (r : Rep P hd (.lst .byt) l v) (hX : ∀ b ∈ X, ∀ o, hd b = some o -> (∃ c, o.data = .cell c) \/ ∃ ps : Array Value, o.data = .fields ps /\ TriplesOk ps.toList) : Rep P (hd.minus X) (.lst .byt) l v := by
 refine o22 r ?_; rintro a items rfl ⟨o, n, e1, e2, e3⟩ rel
 refine ⟨a, items, rfl, ⟨o, n, ?_, e2, e3⟩, rel.mono fun x y h => h⟩
 unfold PH.minus
 rw [if_neg]
 ·exact e1
 ·intro hm
  rcases hX a hm o e1 with ⟨c', e⟩ | ⟨ps, e, _⟩
  ·rw [e] at e3; cases e3
  ·rw [e] at e3; cases e3
end Mine
open Sem (wp)
namespace Mine
noncomputable def LcasOut (I : Inp) (c1 : List UInt8) (c2s : Names) : Option Names -> Prop
 | none => lcasM I 1000 c1 c2s = some none
 | some nm => ∃ l1 ls fl fl' cd r, askM I [] c1 = some (some l1) /\ seedM I c2s l1 (updF (fun _ => none) c1 1) = some (some (ls, fl)) /\ runM I 1000 ls fl [] = some (some (fl', cd)) /\ r.Perm (resM fl' cd) /\ TimeSorted r /\ nm = r.map (·.2)
structure LawC (K : Cf) (g : FuncData) : Prop where
 fr : K.A.frames = some [K.env]
 gp : K.gp = AllBare
 envf : K.env.frame = some K.env.locals
 code : K.env.code = .ref K.F.cLaw
 d : 6 <= K.d
 lc : ∃ o, K.hcb K.F.lcas = some o /\ o.data = .func (fdOf lcasDef (.ref K.F.dLcas) g)
 lcr : ∀ h, K.hcb.In h -> h.CodeRec g.code g.qualname
 lcode : g.code = .ref K.F.cLcas
 df : ∃ od n tk, K.hcb K.F.dLcas = some od /\ od.data = .seq #[.int 0 tk, .none] n
 wa : ∃ o g, K.hcb K.F.wAdd = some o /\ o.data = .func (fdOf (workDef "add") .none g)
 kf : K.env.kindOf "_find_lcas" = some .globalImplicit
 kfo : K.env.kindOf "folk" = some .cell
 kti : K.env.kindOf "times" = some .cell
 cells : ∀ y c, (y, c) ∈ K.env.cells -> K.env.kindOf y = some .cell /\ K.env.cells.lookup y = some c
section
variable {K : Cf} {g : FuncData} {qW : Sites} {ρ : Rho} {s : Shared} {hc : PH} {I : Inp} {Q : Value -> Shared -> Prop} {E : Value -> Shared -> Prop} {psW psL : Array Value}
theorem lam_given {D : Str} {lam : PySem.Expr} {fa cD : Addr} {t : Ty} {f : List UInt8 -> Option t.den} {tL : Addr} {oL : Obj} {lo : List (Addr × Obj)} (S : K.H ρ [] lo s hc) (htL : (tL, oL) ∈ lo) (hsc : ((lamScope lam).names.all fun y => y.2 != .free || y.1 == D) = true) (su : SubLam lam D "name")
  (hcD : K.env.cells.lookup D = some cD) (hk : K.env.kindOf D = some .cell) (hv : ρ D = some ⟨.dct t, f⟩) (L : LamIn hc fa lam [(D, cD)]) :
  ∃ lam cl c dv, (∀ h, (allBut2 s.heap K.env.locals tL).In h -> LamAt h fa lam cl /\ h.IsCell c (some dv)) /\ SubLam lam D "name" /\ cl.lookup D = some c /\ Rep K.w.params (allBut2 s.heap K.env.locals tL) (.dct t) f dv := by
 refine o11 (S.sees D ⟨.dct t, f⟩ (by rw [hk]; rfl) hv) fun cv rd rp => ?_
 have own := (S.loose _ htL).2
 have le : hc.le (allBut2 s.heap K.env.locals tL) := fun b o e => allBut2_at (S.inn b o e) (fun q => by rw [q, S.locout] at e; exact No.ns e) (fun q => by rw [q, own.1] at e; exact No.ns e)
 have cell : s.heap.IsCell cD (some cv) := by
  rcases rd with ⟨e, _⟩ | ⟨e, c, hc', i⟩ | ⟨e, _⟩
  ·rw [hk] at e; cases e
  ·rw [hcD] at hc'; obtain rfl := Option.some.inj hc'; exact i
  ·rw [hk] at e; cases e
 have cellA : ∀ h, (allBut2 s.heap K.env.locals tL).In h -> h.IsCell cD (some cv) := fun h i => by
  refine o10 S.ns fun m n => ?_
  have hne := ns_not_cell n cell
  refine o11 cell fun o eo d => ?_
  exact ⟨o, i _ _ (allBut2_at eo hne (Ne.symm (own.2.2 _ _ hcD))), d⟩
 exact ⟨lam, [(D, cD)], cD, cv, fun h i => ⟨(L.mono le).at i (clos_one hsc (by refine o11 (cellA h i) fun o e _ => ?_; rw [e]; rfl)), cellA h i⟩, su, by simp, rp.mono le⟩
theorem find_tail {Nm c2s : Names} {c1 : List UInt8} {fP fT : Addr} {v1 v2 v3 shv : Value} (C : LawC K g) (S : K.H ρ [] [(K.F.tLaw, tabObj psW), (K.F.tLcas, tabObj psL)] s hc) (T1 : TabFor hc qW psW) (T2 : TabFor hc (sitesL g.qualname) psL)
  (lP : ∃ lam cl c dv, (∀ h, (allBut2 s.heap K.env.locals K.F.tLcas).In h -> LamAt h fP lam cl /\ h.IsCell c (some dv)) /\ SubLam lam "folk" "name" /\ cl.lookup ("folk" : Str) = some c /\ Rep K.w.params (allBut2 s.heap K.env.locals K.F.tLcas) (.dct (.lst .byt)) I.P dv)
  (lT : ∃ lam cl c dv, (∀ h, (allBut2 s.heap K.env.locals K.F.tLcas).In h -> LamAt h fT lam cl /\ h.IsCell c (some dv)) /\ SubLam lam "times" "name" /\ cl.lookup ("times" : Str) = some c /\ Rep K.w.params (allBut2 s.heap K.env.locals K.F.tLcas) (.dct .int) I.T dv)
  (sh : ShOk hc shv I.sh) (r1 : Rep K.w.params hc .byt c1 v1) (r2 : Rep K.w.params hc (.lst .byt) c2s v2) (r3 : Rep K.w.params hc .int I.ms v3)
  (hN : Nm.length <= 100000) (h1 : c1 ∈ Nm) (hc2 : ∀ c ∈ c2s, c ∈ Nm) (hl2 : c2s.length <= 1000) (hPN : ∀ c ps, I.P c = some ps -> (∀ d ∈ ps, d ∈ Nm) /\ ps.length <= 1000)
  (tot : ∃ o, lcasM I 1000 c1 c2s = some o) (hcd : ∀ l1 ls fl fl' cd, askM I [] c1 = some (some l1) -> seedM I c2s l1 (updF (fun _ => none) c1 1) = some (some (ls, fl)) -> runM I 1000 ls fl [] = some (some (fl', cd)) -> cd.length < 64)
  (ok : ∀ nm, LcasOut I c1 c2s (some nm) -> ∀ s' hc' psL v, K.H ρ [] [(K.F.tLaw, tabObj psW), (K.F.tLcas, tabObj psL)] s' hc' -> TabFor hc' qW psW -> TabFor hc' (sitesL g.qualname) psL -> Rep K.w.params hc' (.lst .byt) nm v -> Q v s')
  (bad : LcasOut I c1 c2s none -> ∀ a s' base, AirO base [K.env] a s'.heap -> (∀ h', Air base K.env [] a h' -> s'.heap.UpToSlots h' -> LW K qW (sitesL g.qualname) K.F.tLaw K.F.tLcas ρ { s' with heap := h' }) -> E (.ref a) s') :
  K.wp (call (.ref K.F.lcas) [.ref fP, v1, v2, .ref fT, v3, shv]) Q E s := by
 refine o10 S.ns fun m hns => ?_
 refine o32 (id hns) fun oL es ep eL dL _ => ?_
 refine o01 (S.loose (K.F.tLcas, tabObj psL) (by simp)) fun eT ownT => ?_
 refine o01 (S.loose (K.F.tLaw, tabObj psW) (by simp)) fun eW ownW => ?_
 have le : hc.le (allBut2 s.heap K.env.locals K.F.tLcas) := fun b o e => allBut2_at (S.inn b o e) (fun q => by rw [q, S.locout] at e; exact No.ns e) (fun q => by rw [q, ownT.1] at e; exact No.ns e)
 have hin := S.inn.of_le S.le
 refine o11 C.lc fun o ho hod => ?_
 refine o31 C.df fun od nd tkd hdf hddf => ?_
 have bare : AllBare s.gens := by have := S.bare; rw [C.gp] at this; exact this
 have hd6 := C.d
 have nodup := S.nodup
 have hWL : K.F.tLaw ≠ K.F.tLcas := by
  simp only [List.map_nil, List.map_cons, List.nil_append, List.nodup_cons, List.mem_cons, List.not_mem_nil, or_false] at nodup
  exact nodup.1
 have G : Giv K.w.params K.F (allBut2 s.heap K.env.locals K.F.tLcas) I K.env K.env.locals fP fT oL.data shv :=
  ⟨by rw [S.envOk.kind]; exact nofun, C.envf, fun vs q => (by rw [dL] at q; cases q), by refine o21 C.wa fun o g a b => ?_; exact ⟨o, g, le _ _ (S.le _ _ a), b⟩, lP, lT, sh.mono le, fun h i => (S.gd h (i.of_le (S.le.trans le))).2.headLcas⟩
 let X : List Addr := K.F.tLaw :: K.F.tLcas :: K.env.cells.map (·.2)
 have special : ∀ {hd : PH} {h' : Heap}, hd.In h' -> (∀ b o, s.heap.get? b = some o -> b ≠ K.env.locals -> b ≠ K.F.tLcas -> h'.get? b = some o) -> ∀ {psL' : Array Value}, h'.get? K.F.tLcas = some (tabObj psL') -> TriplesOk psL'.toList ->
   ∀ b ∈ X, ∀ o, hd b = some o -> (∃ c, o.data = .cell c) \/ ∃ ps : Array Value, o.data = .fields ps /\ TriplesOk ps.toList := by
  intro hd h' hin' keep psL' eT' tr b hb o e
  have e2 := hin' b o e
  rcases List.mem_cons.mp hb with rfl | hb
  ·rw [keep _ _ eW ownW.2.1 hWL] at e2
   obtain rfl := Option.some.inj e2
   exact .inr ⟨psW, rfl, T1.1⟩
  ·rcases List.mem_cons.mp hb with rfl | hb
   ·rw [eT'] at e2; obtain rfl := Option.some.inj e2
    exact .inr ⟨psL', rfl, tr⟩
   ·refine o11 (List.mem_map.mp hb) ?_; rintro ⟨y, c⟩ hm rfl
    refine o01 (C.cells y c hm) fun k1 k2 => ?_
    refine o01 (S.cells y c k1 k2) fun _ zz => o10 zz fun v i => ?_
    have hne := ns_not_cell hns i
    refine o11 i fun oc eo dc => ?_
    rw [keep _ _ eo hne (Ne.symm (ownT.2.2 _ _ k2))] at e2
    obtain rfl := Option.some.inj e2
    exact .inl ⟨v, dc⟩
 have outX : ∀ b o, hc b = some o -> b ∉ X := fun b o e hb => by
  rcases List.mem_cons.mp hb with rfl | hb
  ·rw [ownW.1] at e; exact No.ns e
  ·rcases List.mem_cons.mp hb with rfl | hb
   ·rw [ownT.1] at e; exact No.ns e
   ·refine o11 (List.mem_map.mp hb) ?_; rintro ⟨y, c⟩ hm rfl
    refine o01 (C.cells y c hm) fun k1 k2 => ?_
    rw [(S.cells y c k1 k2).1] at e; exact No.ns e
 have minusNone : ∀ {hd : PH} {b : Addr}, b ∈ X -> (hd.minus X) b = none := fun hb => by unfold PH.minus; rw [if_pos hb]
 have minusAt : ∀ {hd : PH} {b : Addr} {o : Obj}, hd b = some o -> b ∉ X -> (hd.minus X) b = some o := fun e hb => by unfold PH.minus; rw [if_neg hb]; exact e
 have minusIn : ∀ {hd : PH} {h' : Heap}, hd.In h' -> (hd.minus X).In h' := fun i b o e => by
  unfold PH.minus at e; split at e
  ·exact No.ns e
  ·exact i b o e
 have cellX : ∀ y c, K.env.cells.lookup y = some c -> c ∈ X := fun y c e => List.mem_cons_of_mem _ (List.mem_cons_of_mem _ (List.mem_map.mpr ⟨(y, c), lookup_mem e, rfl⟩))
 refine lcas_wp (d := K.d - 1) (Nm := Nm) (m := 1000) (by have := S.ao.mono (e := K.d - 1 + 1) (by lia); exact this) (by lia) C.fr (S.gd.mono (S.le.trans le)) bare (Ne.symm ownT.2.1) eL rfl eT (hin _ _ ho) hod (C.lcr _ hin) C.lcode (hin _ _ hdf) hddf G (T2.mono le) hN h1 hc2 hl2 hPN (r1.mono le) (r2.mono le) (r3.mono le) tot hcd
  (fun l1 ls fl fl' cd r a1 a2 a3 a4 a5 s' hd v ps' oL' same bare' le' inn' hdL hdT eT' T' eL' hdat rv => ?_) (fun hb a s' base ps' oL' same bare' air keep eT' T' eL' hdat => ?_)
 ·have keep : ∀ b o, s.heap.get? b = some o -> b ≠ K.env.locals -> b ≠ K.F.tLcas -> s'.heap.get? b = some o := fun b o e h1 h2 => inn' _ _ (le' _ _ (allBut2_at e h1 h2))
  have S' := Cf.H.after S same (by rw [C.gp]; exact bare') (fun b o h1 h2 e => keep b o e h1 h2) eL eL' hdat eT'
  have sp := special inn' keep eT' T'.1
  have leM : hc.le (hd.minus X) := fun b o e => minusAt (le' _ _ (le _ _ e)) (outX b o e)
  have S'' := Cf.H.raiseC S' leM (minusIn inn') (by unfold PH.minus; split; rfl; exact hdL) (fun y c e _ => minusNone (cellX y c e)) (fun p hp => by
   simp only [List.mem_cons, List.not_mem_nil, or_false] at hp
   rcases hp with rfl | rfl
   ·exact minusNone List.mem_cons_self
   ·exact minusNone (List.mem_cons_of_mem _ List.mem_cons_self))
  exact ok (r.map (·.2)) ⟨l1, ls, fl, fl', cd, r, a1, a2, a3, a4, a5, rfl⟩ s' _ ps' v S'' (T1.mono leM) (T'.minus sp) (rv.minus sp)
 ·refine bad hb a s' base air fun h' a' u => ?_
  have keep' : ∀ b o, s.heap.get? b = some o -> b ≠ K.env.locals -> b ≠ K.F.tLcas -> h'.get? b = some o := fun b o e h1 h2 => a'.1 _ _ (keep _ _ (allBut2_at e h1 h2))
  refine o10 (u _ oL' eL' (fun vs q => by rw [hdat, dL] at q; cases q)) fun sl eL2 => ?_
  have eT2 : h'.get? K.F.tLcas = some (tabObj ps') := a'.1 _ _ eT'
  have S' := Cf.H.after (s' := { s' with heap := h' }) S (by refine o30 same ?_; rintro h0 t0 g0 rfl; exact ⟨h', t0, g0, rfl⟩) (by rw [C.gp]; exact bare') (fun b o h1 h2 e => keep' b o e h1 h2) eL eL2 hdat eT2
  have inB : PH.In (fun b => base.get? b) h' := fun b o e => a'.1 _ _ e
  have sp := special inB keep' eT2 T'.1
  have leM : hc.le (PH.minus (fun b => base.get? b) X) := fun b o e => minusAt (hd := fun b => base.get? b) (keep _ _ (le _ _ e)) (outX b o e)
  have hbL : base.get? K.env.locals = none := by
   refine o02 a'.2.2.1 ?_; rintro _ ⟨L', _, e1, e2, _⟩ _
   rw [C.envf] at e1; obtain rfl := Option.some.inj e1; exact e2
  have S'' := Cf.H.raiseC S' leM (minusIn inB) (by unfold PH.minus; split; rfl; exact hbL) (fun y c e _ => minusNone (cellX y c e)) (fun p hp => by
   simp only [List.mem_cons, List.not_mem_nil, or_false] at hp
   rcases hp with rfl | rfl
   ·exact minusNone List.mem_cons_self
   ·exact minusNone (List.mem_cons_of_mem _ List.mem_cons_self))
  exact ⟨_, psW, ps', S'', T1.mono leM, T'.minus sp⟩
end
end Mine
open Sem (wp)
namespace Mine
section
variable {K : Cf} {g : FuncData} {qW : Sites} {ρ : Rho} {s : Shared} {hc : PH} {I : Inp} {Q : Value -> Shared -> Prop} {E : Value -> Shared -> Prop} {psW psL : Array Value}
theorem find_call {Nm c2s : Names} {c1 : List UInt8} {n : Nat} {P1 P2 : Arguments} {B1 B2 e1 e2 e3 e4 : PySem.Expr} {S1 S2 : Scope} {q1 q2 p0 pos : Pos} {cF cT : Addr} (C : LawC K g) (S : LW K qW (sitesL g.qualname) K.F.tLaw K.F.tLcas ρ s) (hqs : qW.ok)
  (su1 : SubLam (.Lambda P1 B1 S1 q1) "folk" "name") (sc1 : (S1.names.all fun y => y.2 != .free || y.1 == ("folk" : Str)) = true) (cl1 : closureFor S1 K.env = pure [(("folk" : Str), cF)]) (hcF : K.env.cells.lookup ("folk" : Str) = some cF) (df1 : defaultsOf P1 K.env = ([], [])) (hq1 : (q1, K.env.qual ++ "<lambda>") ∈ qW)
  (su2 : SubLam (.Lambda P2 B2 S2 q2) "times" "name") (sc2 : (S2.names.all fun y => y.2 != .free || y.1 == ("times" : Str)) = true) (cl2 : closureFor S2 K.env = pure [(("times" : Str), cT)]) (hcT : K.env.cells.lookup ("times" : Str) = some cT) (df2 : defaultsOf P2 K.env = ([], [])) (hq2 : (q2, K.env.qual ++ "<lambda>") ∈ qW)
  (hP : ρ "folk" = some ⟨.dct (.lst .byt), I.P⟩) (hT : ρ "times" = some ⟨.dct .int, I.T⟩)
  (pl1 : plainOk e1 = true) (pk1 : pk {} n K.env.kindOf ρ e1) (v1 : pv n ρ e1 = ⟨.byt, c1⟩) (pl2 : plainOk e2 = true) (pk2 : pk {} n K.env.kindOf ρ e2) (v2 : pv n ρ e2 = ⟨.lst .byt, c2s⟩) (pl3 : plainOk e3 = true) (pk3 : pk {} n K.env.kindOf ρ e3) (v3 : pv n ρ e3 = ⟨.int, I.ms⟩)
  (pl4 : plainOk e4 = true) (he4 : ∀ s hc lo, K.H ρ [] lo s hc -> ∀ Q E, (∀ s' hd v, K.H ρ [] lo s' hd -> hc.le hd -> ShOk hd v I.sh -> Q v s') -> K.wp (PySem.eval e4 K.env) Q E s)
  (hN : Nm.length <= 100000) (h1 : c1 ∈ Nm) (hc2 : ∀ c ∈ c2s, c ∈ Nm) (hl2 : c2s.length <= 1000) (hPN : ∀ c ps, I.P c = some ps -> (∀ d ∈ ps, d ∈ Nm) /\ ps.length <= 1000)
  (tot : ∃ o, lcasM I 1000 c1 c2s = some o) (hcd : ∀ l1 ls fl fl' cd, askM I [] c1 = some (some l1) -> seedM I c2s l1 (updF (fun _ => none) c1 1) = some (some (ls, fl)) -> runM I 1000 ls fl [] = some (some (fl', cd)) -> cd.length < 64)
  (ok : ∀ nm, LcasOut I c1 c2s (some nm) -> ∀ s' hc' psW psL v, K.H ρ [] [(K.F.tLaw, tabObj psW), (K.F.tLcas, tabObj psL)] s' hc' -> TabFor hc' qW psW -> TabFor hc' (sitesL g.qualname) psL -> Rep K.w.params hc' (.lst .byt) nm v -> Q v s')
  (bad : LcasOut I c1 c2s none -> ∀ a s' base, AirO base [K.env] a s'.heap -> (∀ h', Air base K.env [] a h' -> s'.heap.UpToSlots h' -> LW K qW (sitesL g.qualname) K.F.tLaw K.F.tLcas ρ { s' with heap := h' }) -> E (.ref a) s') :
  K.wp (PySem.eval (.Call (.Name "_find_lcas" p0) [.Lambda P1 B1 S1 q1, e1, e2, .Lambda P2 B2 S2 q2, e3, e4] [] pos) K.env) Q E s := by
 refine o32 S ?_; clear S; rintro hc psW psL S T1 T2
 have EV := EV0 K n
 have hin : ∀ {s hc ρ lo}, K.H ρ [] lo s hc -> K.hcb.In s.heap := fun S => S.inn.of_le S.le
 refine o11 C.lc fun o ho hod => ?_
 refine PyProof.Rows.Call_Name rfl (wpAny_Name (load_more (p := ("_find_lcas", .ref K.F.lcas)) S.cx.bas S.envOk (by simp [FA.more]) C.kf ?_) (by rfl))
 refine Calls.callWith_function (o := o) (fd := fdOf lcasDef (.ref K.F.dLcas) g) (Calls.evalArgs_plain ?_)
 show wpAny _ _ (spliced (backTo pos (starEach (.Lambda P1 B1 S1 q1 :: [e1, e2, .Lambda P2 B2 S2 q2, e3, e4]) K.env))) _ _ _
 rw [star_cons (by rfl)]
 refine Calls.spliced_cons (make_lam (K := K) (i := 0) (clos := [("folk", cF)]) S rfl C.code (S.gd _ (hin S)).2.headLaw T1 hq1 hqs df1 cl1 fun s1 hd1 f1 ps1 S1' le1 T1' L1 => ?_)
 have S1' : K.H ρ [] [(K.F.tLaw, tabObj ps1), (K.F.tLcas, tabObj psL)] s1 hd1 := S1'
 show wpAny _ _ (spliced (backTo pos (starEach (e1 :: [e2, .Lambda P2 B2 S2 q2, e3, e4]) K.env))) _ _ _
 rw [star_cons pl1]
 refine Calls.spliced_cons (StH.eval EV S1' pk1 fun s2 hd2 cv1 S2' le2 r1 => ?_)
 rw [v1] at r1
 show wpAny _ _ (spliced (backTo pos (starEach (e2 :: [.Lambda P2 B2 S2 q2, e3, e4]) K.env))) _ _ _
 rw [star_cons pl2]
 refine Calls.spliced_cons (StH.eval EV S2' pk2 fun s3 hd3 cv2 S3' le3 r2 => ?_)
 rw [v2] at r2
 show wpAny _ _ (spliced (backTo pos (starEach (.Lambda P2 B2 S2 q2 :: [e3, e4]) K.env))) _ _ _
 rw [star_cons (by rfl)]
 refine Calls.spliced_cons (make_lam (K := K) (i := 0) (clos := [("times", cT)]) S3' rfl C.code (S.gd _ (hin S3')).2.headLaw (T1'.mono (le2.trans le3)) hq2 hqs df2 cl2 fun s4 hd4 f2 ps2 S4' le4 T4' L2 => ?_)
 have S4' : K.H ρ [] [(K.F.tLaw, tabObj ps2), (K.F.tLcas, tabObj psL)] s4 hd4 := S4'
 show wpAny _ _ (spliced (backTo pos (starEach (e3 :: [e4]) K.env))) _ _ _
 rw [star_cons pl3]
 refine Calls.spliced_cons (StH.eval EV S4' pk3 fun s5 hd5 cv3 S5' le5 r3 => ?_)
 rw [v3] at r3
 show wpAny _ _ (spliced (backTo pos (starEach (e4 :: []) K.env))) _ _ _
 rw [star_cons pl4]
 refine Calls.spliced_cons (he4 s5 hd5 _ S5' _ _ fun s6 hd6 shv S6' le6 sh => Calls.spliced_nil ?_)
 refine ⟨⟨S6'.inn _ _ (S6'.le _ _ ho), hod⟩, ?_⟩
 have tm : hd1.le hd6 := (le2.trans le3).trans ((le4.trans le5).trans le6)
 exact find_tail C S6' (T4'.mono (le5.trans le6)) (T2.mono (le1.trans tm))
  (lam_given (lam := .Lambda P1 B1 S1 q1) S6' (tL := K.F.tLcas) (oL := tabObj psL) (by simp) sc1 su1 hcF C.kfo hP (L1.mono tm))
  (lam_given (lam := .Lambda P2 B2 S2 q2) S6' (tL := K.F.tLcas) (oL := tabObj psL) (by simp) sc2 su2 hcT C.kti hT (L2.mono (le5.trans le6)))
  sh (r1.mono (le3.trans ((le4.trans le5).trans le6))) (r2.mono ((le4.trans le5).trans le6)) (r3.mono le6) hN h1 hc2 hl2 hPN tot hcd
  (fun nm hout s' hc' psL' v S' a b r => ok nm hout s' hc' ps2 psL' v S' a b r) bad
end
end Mine
open Sem (wp)
namespace Mine
section
variable {K : Cf} {ρ : Rho} {mu : List Ent} {lo : List (Addr × Obj)} {s : Shared} {hc : PH} {Q : Value -> Shared -> Prop} {E : Value -> Shared -> Prop}
theorem set_new {p pos : Pos} (S : K.H ρ [] lo s hc) (hk : K.env.kindOf "set" = some .globalImplicit) (h : ∀ s' hd v, K.H ρ [] lo s' hd -> hc.le hd -> ShOk hd v false -> Q v s') : K.wp (PySem.eval (.Call (.Name "set" p) [] [] pos) K.env) Q E s := by
 refine PyProof.Rows.Call_Name rfl (wpAny_Name (load_more (p := ("set", .type "set")) S.cx.bas S.envOk (by simp [FA.more]) hk ?_) (by rfl))
 refine PyProof.Rows.callWith_type (by rfl) (evalArgs_nil3 (call_set_0 fun led => ?_))
 have hn := free_size s.heap
 refine o02 (S.fresh hn) fun f1 f2 f3 => ?_
 let o : Obj := { cls := .type "set", dict := none, data := .set #[] 0 (.fresh 0 0 led) }
 have eo : (s.heap.push o).get? s.heap.objs.size = some o := Heap.get?_push_size _ rfl
 have st : Step s { s with heap := s.heap.push o } hc (hc.put s.heap.objs.size o) := Step.put S.inn ⟨_, s.toks, rfl, fun _ _ e => Heap.get?_push_of_some _ e⟩ hn eo
 exact h _ _ _ (S.step st) st.le (.inr ⟨_, 0, rfl, ⟨o, #[], 0, .fresh 0 0 led, PH.put_self, ⟨rfl, rfl, rfl⟩, rfl, rfl, rfl⟩, by decide, rfl⟩)
theorem set_lit {bs : List UInt8} {k1 : Nat} {c : Addr} {oc : Obj} {vs : Array Value} {p pos : Pos} (S : K.H ρ [] lo s hc) (hcode : K.env.code = .ref c) (hco : s.heap.get? c = some oc) (hcd : oc.data = .fields vs) (h : ∀ s' hd v, K.H ρ [] lo s' hd -> hc.le hd -> ShOk hd v true -> Q v s') :
  K.wp (PySem.eval (.Set [.Constant (.bytes bs) k1 p] 0 pos) K.env) Q E s := by
 rw [arm_eval_Set]
 refine wpAny_bind (wpAny_standAt ?_)
 have hmain : ∀ {Q : Bool -> Shared -> Prop}, (∀ b, Q b s) -> K.wp (inMainModule K.env) Q E s := fun hq => by
  refine kds_main (K := [(c, ⟨oc.cls, oc.dict, .fields vs, oc.slots⟩)]) (fun a o e => ?_) ?_ hq
  ·simp only [List.lookup_cons, List.lookup_nil] at e
   split at e
   ·rename_i hac
    have : a = c := by simpa using hac
    obtain rfl := Option.some.inj e
    rw [this, hco, <- hcd]
   ·exact No.ns e
  ·rw [hcode]; simp [kdsCode]
 refine wpAny_bind (hmain fun b => ?_)
 have hn := free_size s.heap
 refine o02 (S.fresh hn) fun f1 f2 f3 => ?_
 refine kds_core (road := .oneByOne) (ts := [do let v <- PySem.eval (.Constant (.bytes bs) k1 p) K.env; standAt pos; pure v]) (by rfl) (by rfl) (by show (1 : Nat) <= 30; decide) (by rfl) fun led => ?_
 refine wpAny_evalAll_cons (wpAny_bind ?_)
 have hbytes : ∀ {s : Shared} {Q : Value -> Shared -> Prop}, (∀ tk t, Q (.bytes bs.toArray t) { s with toks := tk }) -> K.wp (PySem.eval (.Constant (.bytes bs) k1 p) K.env) Q E s := fun {s Q} hq => by
  intro Γ p hΓ
  exact hq _ _
 refine hbytes fun tk t => wpAny_bind (wpAny_standAt (wpAny_pure (wpAny_evalAll_nil ?_)))
 let o : Obj := { cls := .type "set", dict := none, data := .set #[] 0 (.fresh 0 0 led) }
 obtain ⟨D, hD⟩ : ∃ D, D = s.heap.objs.size := ⟨_, rfl⟩
 have eo : (s.heap.push o).get? D = some o := by rw [hD]; exact Heap.get?_push_size _ rfl
 rw [<- hD] at hn f1 f2 f3 ⊢
 have hso : Obj.SetObjOf (bytesKind K.prog K.w) o (fun _ => false) 0 := setObjOf_fresh led
 refine kds_fill_cons ?_
 have hkey : (bytesKind K.prog K.w).is bs (.bytes bs.toArray t) = true := by simp [bytesKind, isBytes]
 unfold setAdd
 refine wpAny_holding (wpAny_bind ((bytesKind K.prog K.w).pyHash hkey ?_))
 refine wpAny_setAddHashed_of (s := { s with heap := s.heap.push o, toks := tk + 1 }) hkey (by rfl) (hso.setOf eo (by decide)) (by decide) fun h' hsb hS' => ?_
 refine kds_fill_nil (by rfl) ?_
 obtain ⟨o', es, ep, tt, ho', hex, hd', _, _, _, hf', hsz⟩ := hS'
 have kp : ∀ b o, s.heap.get? b = some o -> h'.get? b = some o := fun b o' e => hsb.extBut b o' (fun q => by rw [q, hn] at e; exact No.ns e) (Heap.get?_push_of_some _ e)
 have st : Step s { s with heap := h', toks := tk + 1 } hc (hc.put D o') := Step.put S.inn ⟨_, _, rfl, kp⟩ hn ho'
 exact h _ _ _ (S.step st) st.le (.inr ⟨D, 1, rfl, ⟨o', es, ep, tt, PH.put_self, hex, hd', hf', by rw [hsz]; rfl⟩, by decide, rfl⟩)
end
end Mine
open Sem (wp)
namespace Mine
noncomputable def lawBody : List Stmt := defBody lawDef
noncomputable def callA : PySem.Expr := stExpr (stmtAt (ifBody (stmtAt lawBody 26)) 0)
noncomputable def callB : PySem.Expr := stExpr (stmtAt lawBody 30)
noncomputable def sitesW (qn : Str) : Sites := [argAt callA 0, argAt callA 3, argAt callB 0, argAt callB 3].map fun e => (lamPos e, (qn ++ (".<locals>." : Str)) ++ ("<lambda>" : Str))
theorem sitesW_ok (qn : Str) : (sitesW qn).ok := by
 intro a ha b hb _ _
 refine o11 (List.mem_map.mp ha) ?_; rintro _ _ rfl
 refine o11 (List.mem_map.mp hb) ?_; rintro _ _ rfl
 rfl
theorem su_folkA : SubLam (argAt callA 0) "folk" "name" := ⟨⟨_, _, _, rfl⟩, fun _ _ _ => rfl, by rfl, by rfl, by rfl, by rfl, by rfl, by rfl, by rfl, by rfl⟩
theorem su_timesA : SubLam (argAt callA 3) "times" "name" := ⟨⟨_, _, _, rfl⟩, fun _ _ _ => rfl, by rfl, by rfl, by rfl, by rfl, by rfl, by rfl, by rfl, by rfl⟩
theorem su_folkB : SubLam (argAt callB 0) "folk" "name" := ⟨⟨_, _, _, rfl⟩, fun _ _ _ => rfl, by rfl, by rfl, by rfl, by rfl, by rfl, by rfl, by rfl, by rfl⟩
theorem su_timesB : SubLam (argAt callB 3) "times" "name" := ⟨⟨_, _, _, rfl⟩, fun _ _ _ => rfl, by rfl, by rfl, by rfl, by rfl, by rfl, by rfl, by rfl, by rfl⟩
noncomputable def Wd.inp (W : Wd) (sh : Bool) : Inp := ⟨W.P, W.T, W.floor, sh⟩
noncomputable def Wd.begin (W : Wd) : Int := if W.others.length = 1 then W.others.getD 0 0 else W.first
noncomputable def Wd.endsF (W : Wd) : List Int := (rangeOf 0 W.others.length 1).map fun j => W.others.getD ((W.others.length : Int) - 1 - j).toNat 0
noncomputable def Wd.ends (W : Wd) : List Int := if W.others.length = 1 then [W.first] else W.endsF
theorem folk_vals {W : Wd} (G : W.Good) : ∀ {j : Nat}, j <= W.n -> ∀ c ps, folkF W.names W.kin W.whole j c = some ps -> (∀ d ∈ ps, d ∈ W.names) /\ ps.length <= 1000
 | 0, _, c, ps, h => nomatch h
 | j + 1, hj, c, ps, h => by
  unfold folkF at h
  split at h
  ·by_cases hc : c = W.names.getD j []
   ·simp only [if_pos hc] at h
    obtain rfl := Option.some.inj h
    refine ⟨fun d hd => ?_, ?_⟩
    ·refine o11 (List.mem_map.mp hd) ?_; rintro e he rfl
     have h1 := G.ok j (by lia) e he
     have hlt : e.toNat < W.names.length := by rw [G.ln]; lia
     rw [List.getD_eq_getElem?_getD, List.getElem?_eq_getElem hlt]
     exact List.getElem_mem _
    ·have := G.kl j (by lia)
     simp only [List.length_map]; lia
   ·simp only [if_neg hc] at h
    exact folk_vals G (by lia) c ps h
  ·exact folk_vals G (by lia) c ps h
theorem Wd.Good.name_mem {W : Wd} (G : W.Good) {k : Int} (h : 0 <= k /\ k < W.n) : W.name k ∈ W.names := by
 have hlt : k.toNat < W.names.length := by rw [G.ln]; lia
 unfold Wd.name
 rw [List.getD_eq_getElem?_getD, List.getElem?_eq_getElem hlt]
 exact List.getElem_mem _
theorem Wd.Good.begin_ok {W : Wd} (G : W.Good) : 0 <= W.begin /\ W.begin < W.n := by
 unfold Wd.begin
 split
 ·rename_i h
  refine G.others _ ?_
  rw [List.getD_eq_getElem?_getD, List.getElem?_eq_getElem (by lia)]
  exact List.getElem_mem _
 ·exact G.first
theorem Wd.Good.endsF_ok {W : Wd} (G : W.Good) : (∀ o ∈ W.endsF, 0 <= o /\ o < W.n) /\ W.endsF.length <= 2 := by
 unfold Wd.endsF
 refine ⟨fun o ho => ?_, ?_⟩
 ·refine o11 (List.mem_map.mp ho) ?_; rintro x hx rfl
  refine o10 (List.mem_iff_getElem?.mp hx) fun j hj => ?_
  refine o01 (rangeOf_get hj) ?_; rintro rfl hlt
  refine G.others _ ?_
  have : ((W.others.length : Int) - 1 - (j : Int)).toNat < W.others.length := by lia
  rw [List.getD_eq_getElem?_getD, List.getElem?_eq_getElem this]
  exact List.getElem_mem _
 ·rw [List.length_map, rangeOf_len]; exact G.ol
theorem Wd.Good.ends_ok {W : Wd} (G : W.Good) : (∀ o ∈ W.ends, 0 <= o /\ o < W.n) /\ W.ends.length <= 2 := by
 unfold Wd.ends
 split
 ·exact ⟨fun o ho => by rw [List.mem_singleton.mp ho]; exact G.first, by simp⟩
 ·exact G.endsF_ok
noncomputable def toldTV : Option Names -> TV
 | none => ⟨.none, ()⟩
 | some nm => ⟨.lst .byt, nm⟩
section
variable {Z : LZ} {s : Shared} {gL : FuncData} {Q : Flow -> Shared -> Prop} {E : Value -> Shared -> Prop}
theorem law_told {script : List Int} {W : Wd} (G : W.Good) (hl : script.length <= 63) (C : LawC (lawCf Z) gL) (S : LW (lawCf Z) (sitesW Z.g.qualname) (sitesL gL.qualname) Z.F.tLaw Z.F.tLcas (ofL (rhoD script W)) s)
  (tot : ∃ o, lcasM (W.inp false) 1000 (W.name W.first) (W.others.map W.name) = some o) (hcd : ∀ l1 ls fl fl' cd, askM (W.inp false) [] (W.name W.first) = some (some l1) -> seedM (W.inp false) (W.others.map W.name) l1 (updF (fun _ => none) (W.name W.first) 1) = some (some (ls, fl)) -> runM (W.inp false) 1000 ls fl [] = some (some (fl', cd)) -> cd.length < 64)
  (h : ∀ told, LcasOut (W.inp false) (W.name W.first) (W.others.map W.name) told -> ∀ s', LW (lawCf Z) (sitesW Z.g.qualname) (sitesL gL.qualname) Z.F.tLaw Z.F.tLcas (ofL (("told", toldTV told) :: rhoD script W)) s' -> Q .next s') :
  (lawCf Z).wp (exec (stmtAt lawBody 26) (lawCf Z).env) Q E s := by
 let K := lawCf Z
 have EV := fun n => EV0 K n
 have TE := fun n => TE0 K n
 have g18 := G.n18
 have gln := G.ln
 have gf := G.first
 have gol := G.ol
 refine wpAny_Try_except (st_cons (K := K) (wpAny_Assign_Name ?_ (by rfl)))
 refine find_call (n := 8) (I := W.inp false) (Nm := W.names) (c1 := W.name W.first) (c2s := W.others.map W.name) (cF := (K.env.cells.lookup ("folk" : Str)).getD 0) (cT := (K.env.cells.lookup ("times" : Str)).getD 0) C S (sitesW_ok _) su_folkA (by rfl) (by rfl) (by rfl) (by rfl) (by exact List.mem_cons_self)
  su_timesA (by rfl) (by rfl) (by rfl) (by rfl) (by exact List.mem_cons_of_mem _ List.mem_cons_self) (by rfl) (by rfl) (by rfl) ?_ (by rfl) (by rfl) ?_ (by rfl) (by rfl) ?_ (by rfl) (by rfl) ?_ (by lia) (G.name_mem gf) (fun c hc => ?_) (by rw [List.length_map]; lia) (fun c ps hp => folk_vals G (Nat.le_refl _) c ps hp) tot hcd (fun nm hout s' hc' psW psL v S' T1 T2 r => ?_) (fun hout e s' base air back => ?_)
 ·refine ⟨by walk_at "pd", by walk_at "pd", gf.1, ?_, ?_⟩
  ·show W.first.toNat < W.names.length
   lia
  ·show W.names.length <= 100000000
   lia
 ·walk_at "pd"
 ·walk_at "pd"
 ·intro s1 hc1 lo1 S1 Q1 E1 hq
  have hseen : K.H (ofL (rhoD script W)) [] lo1 s1 hc1 := S1
  refine wpAny_IfExp (StH.testV (TE 8) hseen (e := lamBody (argAt callA 5)) ?_ fun s2 hd2 S2 le2 => ?_)
  ·refine ⟨⟨⟨⟨by rfl, by rfl, by rfl, ⟨⟨by rfl, by walk_at "pd"⟩, trivial⟩, ?_⟩, by walk_at "pd", ?_⟩, by walk_at "pd", by walk_at "pd"⟩, trivial⟩
   ·show script.length <= 100000000
    lia
   ·show (2 : Int) ≠ 0
    decide
  ·split
   ·exact wpAny_Constant_none (hq s2 hd2 .none S2 le2 (.inl ⟨rfl, rfl⟩))
   ·exact set_new (K := K) S2 (by rfl) fun s3 hd3 v S3 le3 sh => hq s3 hd3 v S3 (le2.trans le3) sh
 ·refine o11 (List.mem_map.mp hc) ?_; rintro k hk rfl
  exact G.name_mem (G.others k hk)
 ·refine StH.store S' (.inl (by rfl)) (by rfl) r fun s2 S2 => ?_
  refine wpAny_execs_nil (wpAny_execs_nil ?_)
  exact h (some nm) hout s2 (LW.to (K := K) ⟨hc', psW, psL, S2, T1, T2⟩ _ rfl)
 ·refine handle_key (K := K) (ρ' := ofL (rhoD script W)) C.fr (by rfl) air (fun h' a' u' => ?_) fun h' a' u' => ?_
  ·refine o31 (back h' a' u') fun hc' psW psL S' _ => ?_
   exact ⟨_, _, _, S'⟩
  ·refine o32 (back h' a' u') fun hc' psW psL S' T1 T2 => ?_
   refine wpAny_execs_cons (wpAny_Assign_Name (wpAny_Constant_none ?_) (by rfl))
   refine StH.store S' (.inl (by rfl)) (by rfl) (t := .none) (y := ()) rfl fun s2 S2 => ?_
   refine wpAny_execs_nil ?_
   exact h none hout s2 (LW.to (K := K) ⟨hc', psW, psL, S2, T1, T2⟩ _ rfl)
end
end Mine
open Sem (wp)
namespace Mine
section
variable {Z : LZ} {s : Shared} {gL : FuncData} {Q : Flow -> Shared -> Prop} {E : Value -> Shared -> Prop}
theorem law_sides {script : List Int} {W : Wd} (G : W.Good) {told : Option Names} {qW qL : Sites} (S : LW (lawCf Z) qW qL Z.F.tLaw Z.F.tLcas (ofL (("told", toldTV told) :: rhoD script W)) s)
  (h : ∀ s', LW (lawCf Z) qW qL Z.F.tLaw Z.F.tLcas (ofL (("begin", ⟨.int, W.begin⟩) :: ("ends", ⟨.lst .int, W.ends⟩) :: ("told", toldTV told) :: rhoD script W)) s' ->
   (lawCf Z).wp (execs (lawBody.drop 30) (lawCf Z).env) Q E s') :
  (lawCf Z).wp (execs (lawBody.drop 27) (lawCf Z).env) Q E s := by
 let K := lawCf Z
 have gol := G.ol
 have goth := G.others
 have EV := fun n => EV0 K n
 have TE := fun n => TE0 K n
 refine wpAny_execs_cons ?_
 refine LW.by (K := K) S fun h1 lo le gd S1 back => ?_
 refine st_assign (K := K.at h1) (t := .int) (y := W.first) S1 (pure_g (K := K.at h1) (n := 4) (U := {}) (EV 4) (by walk_at "pd")) (by rfl) (by rfl) (by rfl) fun s2 S2 => ?_
 have S2 := LW.to (back s2 _ S2) (("begin", ⟨.int, W.first⟩) :: ("told", toldTV told) :: rhoD script W) rfl
 clear S1 back
 refine wpAny_execs_cons ?_
 refine LW.by (K := K) S2 fun h1 lo le gd S1 back => ?_
 have epv : pv 9 (ofL (("begin", ⟨.int, W.first⟩) :: ("told", toldTV told) :: rhoD script W)) (stExpr (stmtAt lawBody 28)) = ⟨.lst .int, W.endsF⟩ := by
  unfold Wd.endsF
  rw [<- flat_map]
  kernel_rfl
 have comp := fun {ρ : Rho} {mu : List Ent} {lo : List (Addr × Obj)} {s : Shared} (S : (K.at h1).S ρ mu lo s) Q E x p pos cpos elt gens scope => @st_comp (K.at h1) ρ mu lo s {} 8 Q E x p pos cpos elt gens scope (EV 8) (TE 8) S
 refine comp S1 _ _ _ _ _ _ _ _ _ ?_ ?_ ?_ ?_ ?_
 ·refine ⟨by rfl, ⟨by rfl, by rfl, by rfl, ⟨⟨by rfl, by rfl, by rfl, by rfl, ⟨⟨by rfl, by walk_at "pd"⟩, trivial⟩, ?_⟩, trivial⟩, ?_⟩, ⟨.inl rfl, by decide, ?_⟩, by rfl, by rfl, fun x hx => ⟨trivial, fun _ => ⟨⟨by walk_at "pd", ⟨⟨⟨by rfl, by rfl, by rfl, ⟨⟨by rfl, by walk_at "pd"⟩, trivial⟩, ?_⟩, trivial, trivial⟩, by walk_at "pd", trivial⟩, ?_⟩, by rfl⟩⟩⟩
  ·show W.others.length <= 100000000
   lia
  ·show Int.natAbs (W.others.length : Int) <= 1000
   lia
  ·show Int.natAbs (W.others.length : Int) <= 1000
   lia
  ·show W.others.length <= 100000000
   lia
  ·have hx : x ∈ rangeOf 0 W.others.length 1 := hx
   refine o10 (List.mem_iff_getElem?.mp hx) fun j hj => ?_
   refine o01 (rangeOf_get hj) ?_; rintro rfl hlt
   refine ⟨?_, ?_, ?_⟩
   ·show (0 : Int) <= (W.others.length : Int) - 1 - (j : Int)
    lia
   ·show ((W.others.length : Int) - 1 - (j : Int)).toNat < W.others.length
    lia
   ·show W.others.length <= 100000000
    lia
 ·rfl
 ·rfl
 ·rfl
 intro s3 S3
 have S3 : (K.at h1).S ((ofL (("begin", ⟨.int, W.first⟩) :: ("told", toldTV told) :: rhoD script W)).upd "ends" (pv 9 (ofL (("begin", ⟨.int, W.first⟩) :: ("told", toldTV told) :: rhoD script W)) (stExpr (stmtAt lawBody 28)))) [] lo s3 := S3
 rw [epv] at S3
 have S3 := LW.to (back s3 _ S3) (("begin", ⟨.int, W.first⟩) :: ("ends", ⟨.lst .int, W.endsF⟩) :: ("told", toldTV told) :: rhoD script W) rfl
 clear S1 back comp
 refine wpAny_execs_cons ?_
 refine LW.by (K := K) S3 fun h1 lo le gd S1 back => ?_
 refine st_if (K := K.at h1) (v := ((W.others.length : Int) == 1)) S1 (test_g (K := K.at h1) (n := 7) (U := {}) (TE 7) ?_) (fun hb s4 S4 => ?_) (fun hb s4 S4 => ?_)
 ·refine ⟨⟨⟨by rfl, by rfl, by rfl, ⟨⟨by rfl, by walk_at "pd"⟩, trivial⟩, ?_⟩, by walk_at "pd", by walk_at "pd"⟩, trivial⟩
  show W.others.length <= 100000000
  lia
 ·have h1' : W.others.length = 1 := by
   have : (W.others.length : Int) = 1 := by simpa using hb
   lia
  have e1 : W.begin = W.others.getD 0 0 := by unfold Wd.begin; rw [if_pos h1']
  have e2 : W.ends = [W.first] := by unfold Wd.ends; rw [if_pos h1']
  refine sq_assign (K := K.at h1) (t := .int) (y := W.others.getD 0 0) S4 (pure_g (K := K.at h1) (n := 5) (U := {}) (EV 5) ?_) (by rfl) (by rfl) (by rfl) fun s5 S5 => ?_
  ·refine ⟨by walk_at "pd", trivial, by decide, ?_, ?_⟩
   ·show (0 : Nat) < W.others.length
    lia
   ·show W.others.length <= 100000000
    lia
  refine sq_assign (K := K.at h1) (t := .lst .int) (y := [W.first]) S5 (pure_g (K := K.at h1) (n := 5) (U := {}) (EV 5) (by walk_at "pd")) (by rfl) (by rfl) (by rfl) fun s6 S6 => st_nil ?_
  rw [e1, e2] at h
  exact h s6 (LW.to (back s6 _ S6) _ rfl)
 ·have h1' : ¬ W.others.length = 1 := by
   intro e
   rw [e] at hb
   exact absurd hb (by decide)
  have e1 : W.begin = W.first := by unfold Wd.begin; rw [if_neg h1']
  have e2 : W.ends = W.endsF := by unfold Wd.ends; rw [if_neg h1']
  rw [e1, e2] at h
  exact st_nil (h s4 (back s4 _ S4))
theorem law_again {script : List Int} {W : Wd} (G : W.Good) {told : Option Names} (C : LawC (lawCf Z) gL) (S : LW (lawCf Z) (sitesW Z.g.qualname) (sitesL gL.qualname) Z.F.tLaw Z.F.tLcas (ofL (("begin", ⟨.int, W.begin⟩) :: ("ends", ⟨.lst .int, W.ends⟩) :: ("told", toldTV told) :: rhoD script W)) s)
  (tot : ∃ o, lcasM (W.inp true) 1000 (W.name W.begin) (W.ends.map W.name) = some o) (hcd : ∀ l1 ls fl fl' cd, askM (W.inp true) [] (W.name W.begin) = some (some l1) -> seedM (W.inp true) (W.ends.map W.name) l1 (updF (fun _ => none) (W.name W.begin) 1) = some (some (ls, fl)) -> runM (W.inp true) 1000 ls fl [] = some (some (fl', cd)) -> cd.length < 64) (noraise : lcasM (W.inp true) 1000 (W.name W.begin) (W.ends.map W.name) ≠ some none)
  (h : ∀ again, LcasOut (W.inp true) (W.name W.begin) (W.ends.map W.name) (some again) -> ∀ s' psW psL, (lawCf Z).S (ofL (("again", ⟨.lst .byt, again⟩) :: ("told", toldTV told) :: rhoD script W)) [] [(Z.F.tLaw, tabObj psW), (Z.F.tLcas, tabObj psL)] s' -> Q .next s') :
  (lawCf Z).wp (exec (stmtAt lawBody 30) (lawCf Z).env) Q E s := by
 let K := lawCf Z
 have EV := fun n => EV0 K n
 have TE := fun n => TE0 K n
 have g18 := G.n18
 have gln := G.ln
 have gb := G.begin_ok
 refine o01 G.ends_ok fun ge1 ge2 => ?_
 have epv : pv 9 (ofL (("begin", ⟨.int, W.begin⟩) :: ("ends", ⟨.lst .int, W.ends⟩) :: ("told", toldTV told) :: rhoD script W)) (argAt callB 2) = ⟨.lst .byt, W.ends.map W.name⟩ := by
  rw [<- flat_map]
  kernel_rfl
 refine wpAny_Assign_Name ?_ (by rfl)
 refine find_call (n := 9) (I := W.inp true) (Nm := W.names) (c1 := W.name W.begin) (c2s := W.ends.map W.name) (cF := (K.env.cells.lookup ("folk" : Str)).getD 0) (cT := (K.env.cells.lookup ("times" : Str)).getD 0) C S (sitesW_ok _) su_folkB (by rfl) (by rfl) (by rfl) (by rfl) (by exact List.mem_cons_of_mem _ (List.mem_cons_of_mem _ List.mem_cons_self))
  su_timesB (by rfl) (by rfl) (by rfl) (by rfl) (by exact List.mem_cons_of_mem _ (List.mem_cons_of_mem _ (List.mem_cons_of_mem _ List.mem_cons_self))) (by rfl) (by rfl) (by rfl) ?_ (by rfl) (by rfl) ?_ epv (by rfl) ?_ (by rfl) (by rfl) ?_ (by lia) (G.name_mem gb) (fun c hc => ?_) (by rw [List.length_map]; lia) (fun c ps hp => folk_vals G (Nat.le_refl _) c ps hp) tot hcd (fun nm hout s' hc' psW psL v S' T1 T2 r => ?_) (fun hout e s' base air back => absurd hout noraise)
 ·refine ⟨by walk_at "pd", by walk_at "pd", gb.1, ?_, ?_⟩
  ·show W.begin.toNat < W.names.length
   lia
  ·show W.names.length <= 100000000
   lia
 ·refine ⟨by rfl, by walk_at "pd", ?_, by rfl, by rfl, fun x hx => ⟨trivial, fun _ => ⟨⟨by walk_at "pd", by walk_at "pd", ?_⟩, by rfl⟩⟩⟩
  ·show W.ends.length <= 1000
   lia
  ·refine o01 (ge1 x hx) fun x1 x2 => ?_
   refine ⟨x1, ?_, ?_⟩
   ·show Int.toNat x < W.names.length
    lia
   ·show W.names.length <= 100000000
    lia
 ·walk_at "pd"
 ·intro s1 hc1 lo1 S1 Q1 E1 hq
  obtain ⟨oc, vs, _, _, _, _, _, _, _, e1, _, e2, _⟩ := S1.cx.funs.headLaw
  exact set_lit (K := K) S1 C.code e1 e2 hq
 ·refine o11 (List.mem_map.mp hc) ?_; rintro k hk rfl
  exact G.name_mem (ge1 k hk)
 ·refine StH.store S' (.inl (by rfl)) (by rfl) r fun s2 S2 => ?_
  exact h nm hout s2 _ _ (Cf.S.to (K := K) ⟨hc', S2⟩ _ rfl rfl)
end
end Mine
open Sem (wp)
namespace Mine
theorem flat_filter {α : Type} (p : α -> Bool) (l : List α) : (l.flatMap fun x => if p x = true then [x] else []) = l.filter p := by
 induction l with
 | nil => rfl
 | cons a l ih =>
  rw [List.flatMap_cons, ih, List.filter_cons]
  split <;> rfl
noncomputable def Wd.every (W : Wd) : Int := 1 * 2 ^ W.n - 1
noncomputable def Wd.rank (W : Wd) (k : Int) : Rank := (if W.known.getD k.toNat false = true then -(W.stamps.getD k.toNat 0) else 0, W.names.getD k.toNat [])
noncomputable def Wd.ranks (W : Wd) : List Rank := (rangeOf 0 W.n 1).map W.rank
noncomputable def Wd.leads (W : Wd) (k e : Int) : Bool := W.whole.getD k.toNat false && (W.known.getD e.toNat false && decide (W.floor <= W.stamps.getD e.toNat 0))
noncomputable def Wd.roadStep (W : Wd) (k r e : Int) : Int := if W.leads k e = true then Builtin.bitOr r (1 * 2 ^ e.toNat) else r
noncomputable def Wd.lieStep (W : Wd) (k l e : Int) : Int := if W.leads k e = true then (if rankLt (W.ranks.getD e.toNat (0, [])) (W.ranks.getD k.toNat (0, [])) = true then Builtin.bitOr l (1 * 2 ^ k.toNat) else l) else l
noncomputable def Wd.road (W : Wd) (k : Nat) : Int := (W.kin.getD k []).foldl (W.roadStep k) 0
noncomputable def Wd.roads (W : Wd) : List Int := (List.range W.n).map W.road
noncomputable def Wd.liesTo (W : Wd) (j : Nat) : Int := (List.range j).foldl (fun l (k : Nat) => (W.kin.getD k []).foldl (W.lieStep k) l) 0
noncomputable def Wd.lies (W : Wd) : Int := W.liesTo W.n
noncomputable def rhoE (script : List Int) (W : Wd) (told : Option Names) (again : Names) : List (Str × TV) := ("every", ⟨.int, W.every⟩) :: ("ranks", ⟨.lst (.pair .int .byt), W.ranks⟩) :: ("again", ⟨.lst .byt, again⟩) :: ("told", toldTV told) :: rhoD script W
noncomputable def roadBody : List Stmt := ifBody (stmtAt lawBody 35)
noncomputable def roadIn : List Stmt := ifBody (stmtAt roadBody 1)
section
variable {Z : LZ} {s : Shared} {gL : FuncData} {lo : List (Addr × Obj)} {Q : Flow -> Shared -> Prop} {E : Value -> Shared -> Prop}
theorem ranks_len (W : Wd) : W.ranks.length = W.n := by unfold Wd.ranks; rw [List.length_map, rangeOf_len]
theorem law_ranks {script : List Int} {W : Wd} (G : W.Good) {told : Option Names} {again : Names} (S : (lawCf Z).S (ofL (("again", ⟨.lst .byt, again⟩) :: ("told", toldTV told) :: rhoD script W)) [] lo s)
  (h : ∀ s', (lawCf Z).S (ofL (rhoE script W told again)) [] lo s' -> (lawCf Z).wp (execs (lawBody.drop 33) (lawCf Z).env) Q E s') :
  (lawCf Z).wp (execs (lawBody.drop 31) (lawCf Z).env) Q E s := by
 let K := lawCf Z
 have EV := fun n => EV0 K n
 have TE := fun n => TE0 K n
 have g18 := G.n18
 have gls := G.ls
 have gln := G.ln
 have glkn := G.lkn
 refine sq_assign (K := K) (t := .int) (y := W.every) S (pure_g (n := 6) (U := {}) (EV 6) ?_) (by rfl) (by rfl) (by rfl) fun s1 S1 => ?_
 ·refine ⟨⟨by walk_at "pd", by walk_at "pd", by decide, ?_, ?_⟩, by walk_at "pd", trivial⟩
  ·show (0 : Int) <= (W.n : Int)
   lia
  ·show (W.n : Int) <= 1000000
   lia
 have S1 := Cf.S.to S1 (("every", ⟨.int, W.every⟩) :: ("again", ⟨.lst .byt, again⟩) :: ("told", toldTV told) :: rhoD script W) rfl rfl
 have epv : pv 9 (ofL (("every", ⟨.int, W.every⟩) :: ("again", ⟨.lst .byt, again⟩) :: ("told", toldTV told) :: rhoD script W)) (stExpr (stmtAt lawBody 32)) = ⟨.lst (.pair .int .byt), W.ranks⟩ := by
  unfold Wd.ranks
  rw [<- flat_map]
  kernel_rfl
 have comp := fun {ρ : Rho} {mu : List Ent} {lo : List (Addr × Obj)} {s : Shared} (S : K.S ρ mu lo s) Q E x p pos cpos elt gens scope => @st_comp K ρ mu lo s {} 8 Q E x p pos cpos elt gens scope (EV 8) (TE 8) S
 refine wpAny_execs_cons ?_
 refine comp S1 _ _ _ _ _ _ _ _ _ ?_ ?_ ?_ ?_ ?_
 ·have key : ∀ x ∈ rangeOf 0 W.n 1, 0 <= x /\ x.toNat < W.n := fun x hx => by
   refine o10 (List.mem_iff_getElem?.mp hx) fun j hj => ?_
   refine o01 (rangeOf_get hj) ?_; rintro rfl hlt
   exact ⟨by lia, by lia⟩
  refine ⟨by rfl, ⟨by rfl, by rfl, by rfl, ⟨⟨by rfl, by walk_at "pd"⟩, trivial⟩, ?_⟩, ⟨.inl rfl, by decide, ?_⟩, by rfl, by rfl, fun x hx => ⟨trivial, fun _ => ⟨⟨by rfl, by rfl, ⟨⟨⟨by walk_at "pd", by walk_at "pd", ?_⟩, trivial⟩, fun _ => ⟨⟨by walk_at "pd", by walk_at "pd", ?_⟩, rfl, .inl rfl⟩, fun _ => ⟨trivial, rfl⟩⟩, by walk_at "pd", by walk_at "pd", ?_⟩, by rfl⟩⟩⟩
  ·show Int.natAbs (W.n : Int) <= 1000
   lia
  ·show Int.natAbs (W.n : Int) <= 1000
   lia
  ·refine o01 (key x hx) fun x1 x2 => ?_
   refine ⟨x1, ?_, ?_⟩
   ·show Int.toNat x < W.known.length
    lia
   ·show W.known.length <= 100000000
    lia
  ·refine o01 (key x hx) fun x1 x2 => ?_
   refine ⟨x1, ?_, ?_⟩
   ·show Int.toNat x < W.stamps.length
    lia
   ·show W.stamps.length <= 100000000
    lia
  ·refine o01 (key x hx) fun x1 x2 => ?_
   refine ⟨x1, ?_, ?_⟩
   ·show Int.toNat x < W.names.length
    lia
   ·show W.names.length <= 100000000
    lia
 ·rfl
 ·rfl
 ·rfl
 intro s2 S2
 have S2 : K.S ((ofL (("every", ⟨.int, W.every⟩) :: ("again", ⟨.lst .byt, again⟩) :: ("told", toldTV told) :: rhoD script W)).upd "ranks" (pv 9 (ofL (("every", ⟨.int, W.every⟩) :: ("again", ⟨.lst .byt, again⟩) :: ("told", toldTV told) :: rhoD script W)) (stExpr (stmtAt lawBody 32)))) [] lo s2 := S2
 rw [epv] at S2
 exact h s2 (Cf.S.to S2 _ rfl rfl)
noncomputable def rhoF (road lies k : Int) (aR : Addr) (script : List Int) (W : Wd) (told : Option Names) (again : Names) : List (Str × TV) := ("road", ⟨.int, road⟩) :: ("lies", ⟨.int, lies⟩) :: ("k", ⟨.int, k⟩) :: ("roads", ⟨.val, .ref aR⟩) :: rhoE script W told again
theorem road_in {script : List Int} {W : Wd} (G : W.Good) {told : Option Names} {again : Names} {K : Cf} (hK : ∃ h1, K = (lawCf Z).at h1) {aR : Addr} {rs : List Int} {road lies e : Int} {k : Nat} (hk : k < W.n) (he : 0 <= e /\ e < k)
  (S : K.S (ofL (("e", ⟨.int, e⟩) :: rhoF road lies k aR script W told again)) [⟨"roads", aR, ⟨.lst .int, rs⟩⟩] lo s)
  (h : ∀ s', K.S (ofL (rhoF (W.roadStep k road e) (W.lieStep k lies e) k aR script W told again)) [⟨"roads", aR, ⟨.lst .int, rs⟩⟩] lo s' -> Q .next s') :
  K.wp (execs roadIn K.env) Q E s := by
 refine o10 hK ?_; clear hK; rintro h1 rfl
 let K := (lawCf Z).at h1
 have EV := fun n => EV0 K n
 have TE := fun n => TE0 K n
 have g18 := G.n18
 have gls := G.ls
 have glkn := G.lkn
 have glw := G.lw
 have grk := ranks_len W
 refine wpAny_execs_cons ?_
 refine st_if (K := K) (v := W.leads k e) S (test_g (K := K) (n := 7) (U := {}) (TE 7) ?_) (fun hb s2 S2 => ?_) (fun hb s2 S2 => ?_)
 ·refine ⟨⟨⟨by walk_at "pd", by walk_at "pd", ?_, ?_, ?_⟩, trivial⟩, fun _ => ⟨⟨⟨by walk_at "pd", by walk_at "pd", he.1, ?_, ?_⟩, trivial⟩, fun _ => ⟨⟨⟨⟨by walk_at "pd", by walk_at "pd", he.1, ?_, ?_⟩, by walk_at "pd", by walk_at "pd"⟩, trivial⟩, fun _ => trivial⟩⟩⟩
  ·show (0 : Int) <= (k : Int)
   lia
  ·show k < W.whole.length
   lia
  ·show W.whole.length <= 100000000
   lia
  ·show e.toNat < W.known.length
   lia
  ·show W.known.length <= 100000000
   lia
  ·show e.toNat < W.stamps.length
   lia
  ·show W.stamps.length <= 100000000
   lia
 ·have e1 : W.roadStep k road e = Builtin.bitOr road (1 * 2 ^ e.toNat) := by unfold Wd.roadStep; rw [if_pos hb]
  rw [e1] at h
  refine sq_assign (K := K) (t := .int) (y := Builtin.bitOr road (1 * 2 ^ e.toNat)) S2 (pure_g (K := K) (n := 6) (U := {}) (EV 6) ⟨by walk_at "pd", ⟨trivial, by walk_at "pd", by decide, he.1, ?_⟩, trivial⟩) (by rfl) (by rfl) (by rfl) fun s3 S3 => ?_
  ·show e <= 1000000
   lia
  have S3 := Cf.S.to S3 (("e", ⟨.int, e⟩) :: rhoF (Builtin.bitOr road (1 * 2 ^ e.toNat)) lies k aR script W told again) rfl rfl
  refine wpAny_execs_cons ?_
  refine st_if (K := K) (v := rankLt (W.ranks.getD e.toNat (0, [])) (W.ranks.getD k (0, []))) S3 (test_g (K := K) (n := 7) (U := {}) (TE 7) ?_) (fun hb2 s4 S4 => ?_) (fun hb2 s4 S4 => ?_)
  ·refine ⟨⟨⟨by walk_at "pd", by walk_at "pd", he.1, ?_, ?_⟩, ⟨by walk_at "pd", by walk_at "pd", ?_, ?_, ?_⟩, rfl, rfl, rfl, rfl⟩, trivial⟩
   ·show e.toNat < W.ranks.length
    lia
   ·show W.ranks.length <= 100000000
    lia
   ·show (0 : Int) <= (k : Int)
    lia
   ·show k < W.ranks.length
    lia
   ·show W.ranks.length <= 100000000
    lia
  ·have e2 : W.lieStep k lies e = Builtin.bitOr lies (1 * 2 ^ k) := by
    unfold Wd.lieStep
    rw [if_pos hb]
    exact if_pos hb2
   rw [e2] at h
   refine sq_assign (K := K) (t := .int) (y := Builtin.bitOr lies (1 * 2 ^ k)) S4 (pure_g (K := K) (n := 6) (U := {}) (EV 6) ⟨by walk_at "pd", ⟨trivial, by walk_at "pd", by decide, ?_, ?_⟩, trivial⟩) (by rfl) (by rfl) (by rfl) fun s5 S5 => ?_
   ·show (0 : Int) <= (k : Int)
    lia
   ·show (k : Int) <= 1000000
    lia
   exact st_nil (st_nil (st_nil (h s5 (Cf.S.to S5 _ rfl rfl))))
  ·have e2 : W.lieStep k lies e = lies := by
    unfold Wd.lieStep
    rw [if_pos hb]
    exact if_neg (by show ¬ rankLt (W.ranks.getD e.toNat (0, [])) (W.ranks.getD k (0, [])) = true; rw [hb2]; simp)
   rw [e2] at h
   exact st_nil (st_nil (st_nil (h s4 (Cf.S.to S4 _ rfl rfl))))
 ·have e1 : W.roadStep k road e = road := by unfold Wd.roadStep; rw [if_neg (by rw [hb]; simp)]
  have e2 : W.lieStep k lies e = lies := by unfold Wd.lieStep; rw [if_neg (by rw [hb]; simp)]
  rw [e1, e2] at h
  exact st_nil (st_nil (h s2 (Cf.S.to S2 _ rfl rfl)))
end
end Mine
open Sem (wp)
namespace Mine
noncomputable def Wd.seedStep (s k : Int) : Int := Builtin.bitOr s (1 * 2 ^ k.toNat)
noncomputable def Wd.seeds (W : Wd) : Int := W.others.foldl Wd.seedStep 0
noncomputable def rhoG (script : List Int) (W : Wd) (told : Option Names) (again : Names) : List (Str × TV) := ("seeds", ⟨.int, W.seeds⟩) :: ("lies", ⟨.int, W.lies⟩) :: ("roads", ⟨.lst .int, W.roads⟩) :: rhoE script W told again
section
variable {Z : LZ} {s : Shared} {gL : FuncData} {lo : List (Addr × Obj)} {Q : Flow -> Shared -> Prop} {E : Value -> Shared -> Prop}
theorem road_turn {script : List Int} {W : Wd} (G : W.Good) {told : Option Names} {again : Names} {h1 : PH} {aR : Addr} {k : Nat} (hk : k < W.n)
  (S : ((lawCf Z).at h1).S (ofL (("k", ⟨.int, (k : Int)⟩) :: ("lies", ⟨.int, W.liesTo k⟩) :: ("roads", ⟨.val, .ref aR⟩) :: rhoE script W told again)) [⟨"roads", aR, ⟨.lst .int, (List.range k).map W.road⟩⟩] lo s)
  (h : ∀ s', ((lawCf Z).at h1).S (ofL (("lies", ⟨.int, W.liesTo (k + 1)⟩) :: ("roads", ⟨.val, .ref aR⟩) :: rhoE script W told again)) [⟨"roads", aR, ⟨.lst .int, (List.range (k + 1)).map W.road⟩⟩] lo s' -> Q .next s') :
  ((lawCf Z).at h1).wp (execs roadBody ((lawCf Z).at h1).env) Q E s := by
 let K := (lawCf Z).at h1
 have EV := fun n => EV0 K n
 have TE := fun n => TE0 K n
 have g18 := G.n18
 have glk := G.lk
 have gkl := G.kl k hk
 have gok := G.ok k hk
 refine sq_assign (K := K) (t := .int) (y := (0 : Int)) S (pure_g (K := K) (n := 4) (U := {}) (EV 4) (by walk_at "pd")) (by rfl) (by rfl) (by rfl) fun s1 S1 => ?_
 have S1 := Cf.S.to S1 (rhoF 0 (W.liesTo k) k aR script W told again) rfl rfl
 let L := W.kin.getD k []
 refine sq_each (K := K) (n := 6) (U := {}) (t := .int) (l := L) (fun _ (_ : Unit) => True) (fun j _ => rhoF ((L.take j).foldl (W.roadStep k) 0) ((L.take j).foldl (W.lieStep k) (W.liesTo k)) k aR script W told again) (fun _ _ => [⟨"roads", aR, ⟨.lst .int, (List.range k).map W.road⟩⟩]) () (EV 6) S1 trivial rfl ?_ rfl (by show (W.kin.getD k []).length <= 1000; lia) (by rfl) (fun _ _ => by rfl) (fun _ _ => by rfl) (fun _ _ => by rfl)
  (fun h2 le2 j z e ex s2 he _ S2 Q' E' hQ' => ?_) (fun z s2 _ S2 => ?_)
 ·refine ⟨by walk_at "pd", by walk_at "pd", ?_, ?_, ?_⟩
  ·show (0 : Int) <= (k : Int)
   lia
  ·show k < W.kin.length
   lia
  ·show W.kin.length <= 100000000
   lia
 ·rw [List.take_add_one, he, List.foldl_append, List.foldl_append] at hQ'
  exact road_in (K := K.at h2) G ⟨h2, rfl⟩ hk (gok e (List.mem_of_getElem? he)) S2 fun s3 S3 => hQ' () _ _ trivial (by rfl) S3
 ·rw [List.take_length] at S2
  have el : W.liesTo (k + 1) = L.foldl (W.lieStep k) (W.liesTo k) := by
   unfold Wd.liesTo
   rw [List.range_succ, List.foldl_append]; rfl
  have er : (List.range (k + 1)).map W.road = (List.range k).map W.road ++ [L.foldl (W.roadStep k) 0] := by
   rw [List.range_succ, List.map_append]; rfl
  rw [el, er] at h
  refine sq_append (K := K) (i := 0) (t := .int) (y := L.foldl (W.roadStep k) 0) S2 rfl (pure_g (K := K) (n := 4) (U := {}) (EV 4) (by walk_at "pd")) (by simp; lia) (by rfl) (by rfl) (by rfl) (by rfl) (by rfl) fun s3 S3 => st_nil (h s3 ?_)
  exact Cf.S.to S3 _ rfl rfl
theorem law_roads {script : List Int} {W : Wd} (G : W.Good) {told : Option Names} {again : Names} (S : (lawCf Z).S (ofL (rhoE script W told again)) [] lo s)
  (h : ∀ s', (lawCf Z).S (ofL (rhoG script W told again)) [] lo s' -> (lawCf Z).wp (execs (lawBody.drop 38) (lawCf Z).env) Q E s') :
  (lawCf Z).wp (execs (lawBody.drop 33) (lawCf Z).env) Q E s := by
 let K := lawCf Z
 have EV := fun n => EV0 K n
 have TE := fun n => TE0 K n
 have g18 := G.n18
 have gol := G.ol
 have goth := G.others
 refine sq_list (K := K) .int S (by rfl) (by rfl) fun s1 aR S1 => ?_
 have S1 : K.S _ [⟨"roads", aR, ⟨.lst .int, []⟩⟩] lo s1 := S1
 refine sq_assign (K := K) (t := .int) (y := (0 : Int)) S1 (pure_g (K := K) (n := 4) (U := {}) (EV 4) (by walk_at "pd")) (by rfl) (by rfl) (by rfl) fun s2 S2 => ?_
 have S2 := Cf.S.to S2 (("lies", ⟨.int, (0 : Int)⟩) :: ("roads", ⟨.val, .ref aR⟩) :: rhoE script W told again) rfl rfl
 refine sq_each (K := K) (n := 6) (U := {}) (t := .int) (l := rangeOf 0 W.n 1) (fun _ (_ : Unit) => True) (fun j _ => ("lies", ⟨.int, W.liesTo j⟩) :: ("roads", ⟨.val, .ref aR⟩) :: rhoE script W told again) (fun j _ => [⟨"roads", aR, ⟨.lst .int, (List.range j).map W.road⟩⟩]) () (EV 6) S2 trivial rfl (by walk_at "pd") rfl ⟨.inl rfl, by decide, by show Int.natAbs (W.n : Int) <= 1000; lia⟩ (by rfl) (fun _ _ => by rfl) (fun _ _ => by rfl) (fun _ _ => by rfl)
  (fun h1 le1 j z x ex s3 hx _ S3 Q' E' hQ' => ?_) (fun z s3 _ S3 => ?_)
 ·refine o01 (rangeOf_get hx) fun hx hj => ?_
  rw [hx] at S3
  exact road_turn G hj S3 fun s4 S4 => hQ' () _ _ trivial (by rfl) S4
 ·rw [rangeOf_len] at S3
  have S4 := Cf.S.to (K := K) (Cf.S.still S3 (by rfl)) (("roads", ⟨.lst .int, W.roads⟩) :: ("lies", ⟨.int, W.lies⟩) :: rhoE script W told again) rfl rfl
  refine sq_assign (K := K) (t := .int) (y := (0 : Int)) S4 (pure_g (K := K) (n := 4) (U := {}) (EV 4) (by walk_at "pd")) (by rfl) (by rfl) (by rfl) fun s5 S5 => ?_
  have S5 := Cf.S.to S5 (("seeds", ⟨.int, (0 : Int)⟩) :: ("lies", ⟨.int, W.lies⟩) :: ("roads", ⟨.lst .int, W.roads⟩) :: rhoE script W told again) rfl rfl
  refine sq_each (K := K) (n := 6) (U := {}) (t := .int) (l := W.others) (fun _ (_ : Unit) => True) (fun j _ => ("seeds", ⟨.int, (W.others.take j).foldl Wd.seedStep 0⟩) :: ("lies", ⟨.int, W.lies⟩) :: ("roads", ⟨.lst .int, W.roads⟩) :: rhoE script W told again) (fun _ _ => []) () (EV 6) S5 trivial rfl (by walk_at "pd") rfl (by show W.others.length <= 1000; lia) (by rfl) (fun _ _ => by rfl) (fun _ _ => by rfl) (fun _ _ => by rfl)
   (fun h1 le1 j z x ex s6 hx _ S6 Q' E' hQ' => ?_) (fun z s6 _ S6 => h s6 (by rw [List.take_length] at S6; exact S6))
  have hxr := goth x (List.mem_of_getElem? hx)
  rw [List.take_add_one, hx, List.foldl_append] at hQ'
  refine sq_assign (K := K.at h1) (t := .int) (y := Wd.seedStep ((W.others.take j).foldl Wd.seedStep 0) x) S6 (pure_g (K := K.at h1) (n := 6) (U := {}) (EV 6) ⟨by walk_at "pd", ⟨trivial, by walk_at "pd", by decide, hxr.1, ?_⟩, trivial⟩) (by rfl) (by rfl) (by rfl) fun s7 S7 => st_nil (hQ' () _ _ trivial (by rfl) S7)
  show x <= 1000000
  lia
end
end Mine
open Sem (wp)
namespace Mine
noncomputable def Wd.one (W : Wd) : Int := downF (1 * 2 ^ W.first.toNat) W.roads W.every
noncomputable def Wd.two (W : Wd) : Int := downF W.seeds W.roads W.every
noncomputable def Wd.both (W : Wd) : Int := Builtin.bitAnd W.one W.two
noncomputable def Wd.below (W : Wd) : Int := nextF W.both W.roads
noncomputable def Wd.top (W : Wd) : Int := Builtin.bitAnd W.both (Builtin.bitNot W.below)
noncomputable def Wd.lost (W : Wd) : List Int := (W.first :: W.others).filter fun k => !W.known.getD k.toNat false
noncomputable def Wd.torn (W : Wd) (k : Int) : Bool := !W.whole.getD k.toNat false || !decide (((W.kin.getD k.toNat []).filter fun e => !W.known.getD e.toNat false) = [])
noncomputable def Wd.broken (W : Wd) : List Int := (rangeOf 0 W.n 1).filter W.torn
noncomputable def Wd.sure (W : Wd) : List Int := W.broken.filter fun k => Builtin.bitAnd ((Builtin.bitAnd (Builtin.bitOr W.one W.two) (Builtin.bitNot W.below)).fdiv (2 ^ k.toNat)) 1 == 1
noncomputable def Wd.might (W : Wd) : List Int := W.broken.filter fun k => Builtin.bitAnd ((Builtin.bitOr W.one W.two).fdiv (2 ^ k.toNat)) 1 == 1
noncomputable def rhoS (script : List Int) (W : Wd) (told : Option Names) (again : Names) : List (Str × TV) :=
 ("lost", ⟨.lst .int, W.lost⟩) :: ("sure", ⟨.lst .int, W.sure⟩) :: ("might", ⟨.lst .int, W.might⟩) :: ("one", ⟨.int, W.one⟩) :: ("two", ⟨.int, W.two⟩) :: ("both", ⟨.int, W.both⟩) :: ("top", ⟨.int, W.top⟩) :: rhoG script W told again
noncomputable abbrev U2 : Use := { plain := true, passed := true }
theorem EV2 (K : Cf) (n : Nat) (h : 2 <= K.d) : K.EV U2 n := by
 obtain ⟨d', e⟩ : ∃ d', K.d = d' + 2 := ⟨K.d - 2, by lia⟩
 unfold Cf.EV
 rw [e]; exact (pv_sound user_all n).1
theorem TE2 (K : Cf) (n : Nat) (h : 2 <= K.d) : K.TE U2 n := by
 obtain ⟨d', e⟩ : ∃ d', K.d = d' + 2 := ⟨K.d - 2, by lia⟩
 unfold Cf.TE
 rw [e]; exact (pv_sound user_all n).2
theorem roads_len (W : Wd) : W.roads.length = W.n := by unfold Wd.roads; rw [List.length_map, List.length_range]
theorem range_in {n : Nat} {x : Int} (hx : x ∈ rangeOf 0 n 1) : 0 <= x /\ x.toNat < n := by
 refine o10 (List.mem_iff_getElem?.mp hx) fun j hj => ?_
 refine o01 (rangeOf_get hj) ?_; rintro rfl hlt
 exact ⟨by lia, by lia⟩
theorem broken_in {W : Wd} {x : Int} (hx : x ∈ W.broken) : 0 <= x /\ x.toNat < W.n := range_in (List.mem_filter.mp hx).1
section
variable {Z : LZ} {s : Shared} {gL : FuncData} {lo : List (Addr × Obj)} {Q : Flow -> Shared -> Prop} {E : Value -> Shared -> Prop}
set_option maxHeartbeats 1000000 in
theorem law_sets {script : List Int} {W : Wd} (G : W.Good) (hd : 2 <= Z.d) {told : Option Names} {again : Names} (S : (lawCf Z).S (ofL (rhoG script W told again)) [] lo s)
  (h : ∀ s', (lawCf Z).S (ofL (rhoS script W told again)) [] lo s' -> (lawCf Z).wp (execs (lawBody.drop 47) (lawCf Z).env) Q E s') :
  (lawCf Z).wp (execs (lawBody.drop 38) (lawCf Z).env) Q E s := by
 let K := lawCf Z
 have EV := fun n => EV2 K n hd
 have TE := fun n => TE2 K n hd
 have g18 := G.n18
 have gol := G.ol
 have goth := G.others
 have gf := G.first
 have glkn := G.lkn
 have glw := G.lw
 have glk := G.lk
 have grl := roads_len W
 refine sq_assign (K := K) (t := .int) (y := W.one) S (pure_g (K := K) (n := 6) (U := U2) (EV 6) ⟨by rfl, by rfl, by rfl, ⟨⟨by rfl, trivial, by walk_at "pd", by decide, gf.1, ?_⟩, ⟨by rfl, by walk_at "pd"⟩, ⟨by rfl, by walk_at "pd"⟩, trivial⟩, rfl, ?_⟩) (by rfl) (by rfl) (by rfl) fun s1 S1 => ?_
 ·show W.first <= 1000000
  lia
 ·show W.roads.length <= 100
  lia
 refine sq_assign (K := K) (t := .int) (y := W.two) S1 (pure_g (K := K) (n := 6) (U := U2) (EV 6) ⟨by rfl, by rfl, by rfl, ⟨⟨by rfl, by walk_at "pd"⟩, ⟨by rfl, by walk_at "pd"⟩, ⟨by rfl, by walk_at "pd"⟩, trivial⟩, rfl, ?_⟩) (by rfl) (by rfl) (by rfl) fun s2 S2 => ?_
 ·show W.roads.length <= 100
  lia
 refine sq_assign (K := K) (t := .int) (y := W.both) S2 (pure_g (K := K) (n := 6) (U := U2) (EV 6) ⟨by walk_at "pd", by walk_at "pd", trivial⟩) (by rfl) (by rfl) (by rfl) fun s3 S3 => ?_
 refine sq_assign (K := K) (t := .int) (y := W.below) S3 (pure_g (K := K) (n := 6) (U := U2) (EV 6) ⟨by rfl, by rfl, by rfl, ⟨⟨by rfl, by walk_at "pd"⟩, ⟨by rfl, by walk_at "pd"⟩, trivial⟩, rfl, ?_⟩) (by rfl) (by rfl) (by rfl) fun s4 S4 => ?_
 ·show W.roads.length <= 100
  lia
 refine sq_assign (K := K) (t := .int) (y := W.top) S4 (pure_g (K := K) (n := 6) (U := U2) (EV 6) ⟨by walk_at "pd", ⟨by walk_at "pd", rfl, .inr rfl⟩, trivial⟩) (by rfl) (by rfl) (by rfl) fun s5 S5 => ?_
 let R5 : List (Str × TV) := ("top", ⟨.int, W.top⟩) :: ("below", ⟨.int, W.below⟩) :: ("both", ⟨.int, W.both⟩) :: ("one", ⟨.int, W.one⟩) :: ("two", ⟨.int, W.two⟩) :: rhoG script W told again
 have S5 := Cf.S.to S5 R5 rfl rfl
 have comp := fun {ρ : Rho} {mu : List Ent} {lo : List (Addr × Obj)} {s : Shared} (S : K.S ρ mu lo s) Q E x p pos cpos elt gens scope => @st_comp K ρ mu lo s U2 9 Q E x p pos cpos elt gens scope (EV 9) (TE 9) S
 have epv1 : pv 10 (ofL R5) (stExpr (stmtAt lawBody 43)) = ⟨.lst .int, W.lost⟩ := by
  unfold Wd.lost
  rw [<- flat_filter]
  kernel_rfl
 refine wpAny_execs_cons ?_
 refine comp S5 _ _ _ _ _ _ _ _ _ ?_ ?_ ?_ ?_ ?_
 ·have key : ∀ x ∈ W.first :: W.others, 0 <= x /\ x < W.n := fun x hx => by
   rcases List.mem_cons.mp hx with rfl | hx
   ·exact gf
   ·exact goth x hx
  refine ⟨by rfl, ⟨⟨by rfl, by walk_at "pd", trivial, by walk_at "pd"⟩, by walk_at "pd", rfl, rfl, ?_⟩, ?_, by rfl, by rfl, fun x hx => ⟨⟨⟨⟨by walk_at "pd", by walk_at "pd", ?_⟩, trivial⟩, fun _ => trivial⟩, fun _ => ⟨by walk_at "pd", by walk_at "pd"⟩⟩⟩
  ·show 1 + W.others.length <= 1000
   lia
  ·show (W.first :: W.others).length <= 1000
   simp only [List.length_cons]; lia
  ·refine o01 (key x hx) fun x1 x2 => ?_
   refine ⟨x1, ?_, ?_⟩
   ·show Int.toNat x < W.known.length
    lia
   ·show W.known.length <= 100000000
    lia
 ·rfl
 ·rfl
 ·rfl
 intro s6 S6
 have S6 : K.S ((ofL R5).upd "lost" (pv 10 (ofL R5) (stExpr (stmtAt lawBody 43)))) [] lo s6 := S6
 rw [epv1] at S6
 let R6 : List (Str × TV) := ("lost", ⟨.lst .int, W.lost⟩) :: R5
 have S6 := Cf.S.to S6 R6 rfl rfl
 have epv2 : pv 10 (ofL R6) (stExpr (stmtAt lawBody 44)) = ⟨.lst .int, W.broken⟩ := by
  have : W.torn = fun k => !W.whole.getD k.toNat false || !decide (((W.kin.getD k.toNat []).flatMap fun e => if (!W.known.getD e.toNat false) = true then [e] else []) = []) := by
   funext k
   rw [flat_filter]; rfl
  unfold Wd.broken
  rw [this, <- flat_filter]
  kernel_rfl
 refine wpAny_execs_cons ?_
 refine comp S6 _ _ _ _ _ _ _ _ _ ?_ ?_ ?_ ?_ ?_
 ·refine ⟨by rfl, ⟨by rfl, by rfl, by rfl, ⟨⟨by rfl, by walk_at "pd"⟩, trivial⟩, ?_⟩, ⟨.inl rfl, by decide, ?_⟩, by rfl, by rfl, fun x hx => ⟨⟨⟨⟨⟨by walk_at "pd", by walk_at "pd", ?_⟩, trivial⟩, fun _ => ⟨⟨⟨⟨by rfl, ⟨by walk_at "pd", by walk_at "pd", ?_⟩, ?_, by rfl, by rfl, fun y hy => ⟨⟨⟨⟨by walk_at "pd", by walk_at "pd", ?_⟩, trivial⟩, fun _ => trivial⟩, fun _ => ⟨by walk_at "pd", by walk_at "pd"⟩⟩⟩, trivial, rfl, rfl, .inr rfl⟩, trivial⟩, fun _ => trivial⟩⟩, fun _ => trivial⟩, fun _ => ⟨by walk_at "pd", by walk_at "pd"⟩⟩⟩
  ·show Int.natAbs (W.n : Int) <= 1000
   lia
  ·show Int.natAbs (W.n : Int) <= 1000
   lia
  ·refine o01 (range_in (n := W.n) hx) fun x1 x2 => ?_
   refine ⟨x1, ?_, ?_⟩
   ·show Int.toNat x < W.whole.length
    lia
   ·show W.whole.length <= 100000000
    lia
  ·refine o01 (range_in (n := W.n) hx) fun x1 x2 => ?_
   refine ⟨x1, ?_, ?_⟩
   ·show Int.toNat x < W.kin.length
    lia
   ·show W.kin.length <= 100000000
    lia
  ·refine o01 (range_in (n := W.n) hx) fun x1 x2 => ?_
   have := G.kl (Int.toNat x) x2
   show (W.kin.getD (Int.toNat x) []).length <= 1000
   lia
  ·refine o01 (range_in (n := W.n) hx) fun x1 x2 => ?_
   refine o01 (G.ok (Int.toNat x) x2 y hy) fun y1 y2 => ?_
   refine ⟨y1, ?_, ?_⟩
   ·show Int.toNat y < W.known.length
    lia
   ·show W.known.length <= 100000000
    lia
 ·rfl
 ·rfl
 ·rfl
 intro s7 S7
 have S7 : K.S ((ofL R6).upd "broken" (pv 10 (ofL R6) (stExpr (stmtAt lawBody 44)))) [] lo s7 := S7
 rw [epv2] at S7
 let R7 : List (Str × TV) := ("broken", ⟨.lst .int, W.broken⟩) :: R6
 have S7 := Cf.S.to S7 R7 rfl rfl
 have hbl : W.broken.length <= 1000 := by
  unfold Wd.broken
  refine Nat.le_trans (List.length_filter_le _ _) ?_
  rw [rangeOf_len]; lia
 have epv3 : pv 10 (ofL R7) (stExpr (stmtAt lawBody 45)) = ⟨.lst .int, W.sure⟩ := by
  unfold Wd.sure
  rw [<- flat_filter]
  kernel_rfl
 refine wpAny_execs_cons ?_
 refine comp S7 _ _ _ _ _ _ _ _ _ ?_ ?_ ?_ ?_ ?_
 ·refine ⟨by rfl, by walk_at "pd", hbl, by rfl, by rfl, fun x hx => ⟨⟨⟨⟨⟨⟨⟨⟨by walk_at "pd", by walk_at "pd", trivial⟩, ⟨by walk_at "pd", rfl, .inr rfl⟩, trivial⟩, by walk_at "pd", ?_⟩, trivial, trivial⟩, trivial, by walk_at "pd"⟩, trivial⟩, fun _ => trivial⟩, fun _ => ⟨by walk_at "pd", by walk_at "pd"⟩⟩⟩
  show (0 : Int) <= x
  exact (broken_in hx).1
 ·rfl
 ·rfl
 ·rfl
 intro s8 S8
 have S8 : K.S ((ofL R7).upd "sure" (pv 10 (ofL R7) (stExpr (stmtAt lawBody 45)))) [] lo s8 := S8
 rw [epv3] at S8
 let R8 : List (Str × TV) := ("sure", ⟨.lst .int, W.sure⟩) :: R7
 have S8 := Cf.S.to S8 R8 rfl rfl
 have epv4 : pv 10 (ofL R8) (stExpr (stmtAt lawBody 46)) = ⟨.lst .int, W.might⟩ := by
  unfold Wd.might
  rw [<- flat_filter]
  kernel_rfl
 refine wpAny_execs_cons ?_
 refine comp S8 _ _ _ _ _ _ _ _ _ ?_ ?_ ?_ ?_ ?_
 ·refine ⟨by rfl, by walk_at "pd", hbl, by rfl, by rfl, fun x hx => ⟨⟨⟨⟨⟨⟨⟨by walk_at "pd", by walk_at "pd", trivial⟩, by walk_at "pd", ?_⟩, trivial, trivial⟩, trivial, by walk_at "pd"⟩, trivial⟩, fun _ => trivial⟩, fun _ => ⟨by walk_at "pd", by walk_at "pd"⟩⟩⟩
  show (0 : Int) <= x
  exact (broken_in hx).1
 ·rfl
 ·rfl
 ·rfl
 intro s9 S9
 have S9 : K.S ((ofL R8).upd "might" (pv 10 (ofL R8) (stExpr (stmtAt lawBody 46)))) [] lo s9 := S9
 rw [epv4] at S9
 exact h s9 (Cf.S.to S9 _ rfl rfl)
end
end Mine
open Sem (wp)
namespace Mine
noncomputable def bitI (x k : Int) : Int := Builtin.bitAnd (x.fdiv (2 ^ k.toNat)) 1
noncomputable def Wd.spots (W : Wd) (again : Names) : List Int := again.flatMap fun nm => (rangeOf 0 W.n 1).filter fun k => W.names.getD k.toNat [] == nm
noncomputable def maskTo (l : List Int) : Int := l.foldl Wd.seedStep 0
noncomputable def Wd.tops (W : Wd) : List Int := (rangeOf 0 W.n 1).filter fun k => bitI W.top k == 1
structure Wd.Fine (W : Wd) (told : Option Names) (again : Names) : Prop where
 told : match told with
  | none => ¬ (W.lost = [] /\ W.might = [])
  | some nm => W.lost = [] /\ W.sure = [] /\ sortB nm = sortB again /\ risesF nm W.T = true /\ nm.length <= 60
 len : again.length <= 60
 spots : (W.spots again).length = again.length
 turn : ∀ j x, (W.spots again)[j]? = some x -> bitI (maskTo ((W.spots again).take j)) x ≠ 1 /\ bitI W.both x ≠ 0 /\ ¬ (bitI W.top x = 0 /\ passedF x (1 * 2 ^ W.first.toNat) W.seeds W.roads W.ranks = true)
 full : Builtin.bitAnd W.top (Builtin.bitNot (maskTo (W.spots again))) = 0
 anti : Builtin.bitAnd (maskTo (W.spots again)) (nextF (maskTo (W.spots again)) W.roads) = 0
 rises : risesF again W.T = true
 just : Builtin.bitAnd (Builtin.bitOr W.one W.two) W.lies = 0 -> sortI (W.spots again) = W.tops
 folk : ∀ k, k < W.n -> W.whole.getD k false = true -> W.P (W.names.getD k []) = some ((W.kin.getD k []).map W.name)
section
variable {Z : LZ} {s : Shared} {gL : FuncData} {lo : List (Addr × Obj)} {Q : Flow -> Shared -> Prop} {E : Value -> Shared -> Prop}
theorem spots_in {W : Wd} {again : Names} {x : Int} (hx : x ∈ W.spots again) : 0 <= x /\ x.toNat < W.n := by
 refine o11 (List.mem_flatMap.mp hx) fun nm _ hx => ?_
 exact range_in (List.mem_filter.mp hx).1
theorem law_ask {script : List Int} {W : Wd} (G : W.Good) (hd : 2 <= Z.d) {told : Option Names} {again : Names} (Fi : W.Fine told again) (S : (lawCf Z).S (ofL (rhoS script W told again)) [] lo s)
  (h : ∀ s', (lawCf Z).S (ofL (rhoS script W told again)) [] lo s' -> (lawCf Z).wp (execs (lawBody.drop 48) (lawCf Z).env) Q E s') :
  (lawCf Z).wp (execs (lawBody.drop 47) (lawCf Z).env) Q E s := by
 let K := lawCf Z
 have EV := fun n => EV2 K n hd
 have TE := fun n => TE2 K n hd
 refine wpAny_execs_cons ?_
 have hlen := Fi.len
 induction told with
 | none =>
  have hf : ¬ (W.lost = [] /\ W.might = []) := Fi.told
  refine st_if (K := K) (v := true) S (test_g (K := K) (n := 6) (U := U2) (TE 6) ⟨⟨by walk_at "pd", trivial, rfl, .inl rfl⟩, trivial⟩) (fun _ s2 S2 => ?_) (fun hb _ _ => nomatch hb)
  refine wpAny_execs_cons ?_
  refine st_if (K := K) (v := decide (W.lost = []) && decide (W.might = [])) S2 (test_g (K := K) (n := 6) (U := U2) (TE 6) ⟨⟨⟨by walk_at "pd", trivial, rfl, rfl, .inl rfl⟩, trivial⟩, fun _ => ⟨⟨⟨by walk_at "pd", trivial, rfl, rfl, .inl rfl⟩, trivial⟩, fun _ => trivial⟩⟩) (fun hb s3 S3 => ?_) (fun hb s3 S3 => st_nil (st_nil (h s3 S3)))
  simp only [Bool.and_eq_true, decide_eq_true_eq] at hb
  exact absurd hb hf
 | some nm =>
  obtain ⟨f1, f2, f3, f4, f5⟩ : W.lost = [] /\ W.sure = [] /\ sortB nm = sortB again /\ risesF nm W.T = true /\ nm.length <= 60 := Fi.told
  refine st_if (K := K) (v := false) S (test_g (K := K) (n := 6) (U := U2) (TE 6) ⟨⟨by walk_at "pd", trivial, .inl rfl⟩, trivial⟩) (fun hb _ _ => nomatch hb) (fun _ s2 S2 => ?_)
  refine wpAny_execs_cons ?_
  refine st_if (K := K) (v := (!decide (W.lost = [])) || ((!decide (W.sure = [])) || ((!decide (sortB nm = sortB again)) || !risesF nm W.T))) S2 (test_g (K := K) (n := 8) (U := U2) (TE 8) ?_) (fun hb s3 S3 => ?_) (fun hb s3 S3 => st_nil (st_nil (h s3 S3)))
  ·refine ⟨⟨⟨by walk_at "pd", trivial, rfl, rfl, .inr rfl⟩, trivial⟩, fun _ => ⟨⟨⟨by walk_at "pd", trivial, rfl, rfl, .inr rfl⟩, trivial⟩, fun _ => ⟨⟨⟨⟨by rfl, by rfl, by rfl, ⟨⟨by rfl, by walk_at "pd"⟩, trivial⟩, ?_⟩, ⟨by rfl, by rfl, by rfl, ⟨⟨by rfl, by walk_at "pd"⟩, trivial⟩, ?_⟩, rfl, rfl, .inr rfl⟩, trivial⟩, fun _ => ⟨⟨⟨by rfl, by rfl, by rfl, ⟨⟨by rfl, by walk_at "pd"⟩, ⟨by rfl, by walk_at "pd"⟩, trivial⟩, rfl, ?_⟩, trivial⟩, fun _ => trivial⟩⟩⟩⟩
   ·exact ⟨.inr rfl, by show nm.length < 64; lia⟩
   ·exact ⟨.inr rfl, by show again.length < 64; lia⟩
   ·exact ⟨rfl, rfl, by show nm.length <= 100; lia⟩
  ·rw [f1, f2, f3, f4] at hb
   simp at hb
theorem law_spots {script : List Int} {W : Wd} (G : W.Good) (hd : 2 <= Z.d) {told : Option Names} {again : Names} (Fi : W.Fine told again) (S : (lawCf Z).S (ofL (rhoS script W told again)) [] lo s)
  (h : ∀ s', (lawCf Z).S (ofL (("spots", ⟨.lst .int, W.spots again⟩) :: rhoS script W told again)) [] lo s' -> (lawCf Z).wp (execs (lawBody.drop 50) (lawCf Z).env) Q E s') :
  (lawCf Z).wp (execs (lawBody.drop 48) (lawCf Z).env) Q E s := by
 let K := lawCf Z
 have EV := fun n => EV2 K n hd
 have TE := fun n => TE2 K n hd
 have hlen := Fi.len
 have g18 := G.n18
 have gln := G.ln
 have hsp := Fi.spots
 have comp := fun {ρ : Rho} {mu : List Ent} {lo : List (Addr × Obj)} {s : Shared} (S : K.S ρ mu lo s) Q E x p pos cpos elt gens scope => @st_comp K ρ mu lo s U2 9 Q E x p pos cpos elt gens scope (EV 9) (TE 9) S
 have epv : pv 10 (ofL (rhoS script W told again)) (stExpr (stmtAt lawBody 48)) = ⟨.lst .int, W.spots again⟩ := by
  have e : W.spots again = again.flatMap fun nm => (rangeOf 0 W.n 1).flatMap fun k => if (W.names.getD k.toNat [] == nm) = true then [k] else [] := by
   unfold Wd.spots
   congr 1
   funext nm
   rw [flat_filter]
  rw [e]
  kernel_rfl
 refine wpAny_execs_cons ?_
 refine comp S _ _ _ _ _ _ _ _ _ ?_ ?_ ?_ ?_ ?_
 ·refine ⟨by rfl, by walk_at "pd", ?_, by rfl, by rfl, by rfl, by rfl, by rfl, fun x hx => ⟨⟨by rfl, by rfl, by rfl, ⟨⟨by rfl, by walk_at "pd"⟩, trivial⟩, ?_⟩, ⟨.inl rfl, by decide, ?_⟩, by rfl, by rfl, fun y hy => ⟨⟨⟨⟨⟨by walk_at "pd", by walk_at "pd", ?_⟩, by walk_at "pd", rfl, .inl rfl⟩, trivial⟩, fun _ => trivial⟩, fun _ => ⟨by walk_at "pd", by walk_at "pd"⟩⟩⟩⟩
  ·show again.length <= 1000
   lia
  ·show Int.natAbs (W.n : Int) <= 1000
   lia
  ·show Int.natAbs (W.n : Int) <= 1000
   lia
  ·refine o01 (range_in (n := W.n) hy) fun y1 y2 => ?_
   refine ⟨y1, ?_, ?_⟩
   ·show Int.toNat y < W.names.length
    lia
   ·show W.names.length <= 100000000
    lia
 ·rfl
 ·rfl
 ·rfl
 intro s1 S1
 have S1 : K.S ((ofL (rhoS script W told again)).upd "spots" (pv 10 (ofL (rhoS script W told again)) (stExpr (stmtAt lawBody 48)))) [] lo s1 := S1
 rw [epv] at S1
 have S1 : K.S (ofL (("spots", ⟨.lst .int, W.spots again⟩) :: rhoS script W told again)) [] lo s1 := S1
 refine wpAny_execs_cons ?_
 refine st_if (K := K) (v := (((W.spots again).length : Int) != (again.length : Int))) S1 (test_g (K := K) (n := 7) (U := U2) (TE 7) ⟨⟨⟨by rfl, by rfl, by rfl, ⟨⟨by rfl, by walk_at "pd"⟩, trivial⟩, ?_⟩, ⟨by rfl, by rfl, by rfl, ⟨⟨by rfl, by walk_at "pd"⟩, trivial⟩, ?_⟩, by walk_at "pd"⟩, trivial⟩) (fun hb s2 S2 => ?_) (fun hb s2 S2 => st_nil (h s2 S2))
 ·show (W.spots again).length <= 100000000
  lia
 ·show again.length <= 100000000
  lia
 ·rw [hsp] at hb
  simp at hb
end
end Mine
open Sem (wp)
namespace Mine
noncomputable def rhoM (mask : Int) (script : List Int) (W : Wd) (told : Option Names) (again : Names) : List (Str × TV) := ("mask", ⟨.int, mask⟩) :: ("spots", ⟨.lst .int, W.spots again⟩) :: rhoS script W told again
section
variable {Z : LZ} {s : Shared} {gL : FuncData} {lo : List (Addr × Obj)} {Q : Flow -> Shared -> Prop} {E : Value -> Shared -> Prop}
theorem mask_turn {script : List Int} {W : Wd} (G : W.Good) (hd : 2 <= Z.d) {told : Option Names} {again : Names} {h1 : PH} {mask x : Int} (hx : 0 <= x /\ x.toNat < W.n)
  (t1 : bitI mask x ≠ 1) (t2 : bitI W.both x ≠ 0) (t3 : ¬ (bitI W.top x = 0 /\ passedF x (1 * 2 ^ W.first.toNat) W.seeds W.roads W.ranks = true))
  (S : ((lawCf Z).at h1).S (ofL (("k", ⟨.int, x⟩) :: rhoM mask script W told again)) [] lo s)
  (h : ∀ s', ((lawCf Z).at h1).S (ofL (rhoM (Wd.seedStep mask x) script W told again)) [] lo s' -> Q .next s') :
  ((lawCf Z).at h1).wp (execs (ifBody (stmtAt lawBody 51)) ((lawCf Z).at h1).env) Q E s := by
 let K := (lawCf Z).at h1
 have EV := fun n => EV2 K n hd
 have TE := fun n => TE2 K n hd
 have g18 := G.n18
 have gf := G.first
 have grl := roads_len W
 have grk := ranks_len W
 refine wpAny_execs_cons ?_
 refine st_if (K := K) (v := (bitI mask x == 1) || (bitI W.both x == 0)) S (test_g (K := K) (n := 8) (U := U2) (TE 8) ⟨⟨⟨⟨⟨by walk_at "pd", by walk_at "pd", hx.1⟩, trivial, trivial⟩, trivial, by walk_at "pd"⟩, trivial⟩, fun _ => ⟨⟨⟨⟨⟨by walk_at "pd", by walk_at "pd", hx.1⟩, trivial, trivial⟩, trivial, by walk_at "pd"⟩, trivial⟩, fun _ => trivial⟩⟩) (fun hb s2 S2 => ?_) (fun hb s2 S2 => ?_)
 ·simp only [Bool.or_eq_true, beq_iff_eq] at hb
  rcases hb with hb | hb <;> contradiction
 refine st_nil ?_
 refine sq_assign (K := K) (t := .int) (y := Wd.seedStep mask x) S2 (pure_g (K := K) (n := 6) (U := U2) (EV 6) ⟨by walk_at "pd", ⟨trivial, by walk_at "pd", by decide, hx.1, ?_⟩, trivial⟩) (by rfl) (by rfl) (by rfl) fun s3 S3 => ?_
 ·show x <= 1000000
  lia
 have S3 : K.S (ofL (rhoM mask script W told again) |> fun _ => (ofL (("k", ⟨.int, x⟩) :: rhoM mask script W told again)).upd "mask" ⟨.int, Wd.seedStep mask x⟩) [] lo s3 := S3
 have S3 := Cf.S.to S3 (("k", ⟨.int, x⟩) :: rhoM (Wd.seedStep mask x) script W told again) rfl rfl
 refine wpAny_execs_cons ?_
 refine st_if (K := K) (v := (bitI W.top x == 0) && passedF x (1 * 2 ^ W.first.toNat) W.seeds W.roads W.ranks) S3 (test_g (K := K) (n := 8) (U := U2) (TE 8) ⟨⟨⟨⟨⟨by walk_at "pd", by walk_at "pd", hx.1⟩, trivial, trivial⟩, trivial, by walk_at "pd"⟩, trivial⟩, fun _ => ⟨⟨⟨by rfl, by rfl, by rfl, ⟨⟨by rfl, by walk_at "pd"⟩, ⟨by rfl, ⟨trivial, by walk_at "pd", by decide, gf.1, ?_⟩⟩, ⟨by rfl, by walk_at "pd"⟩, ⟨by rfl, by walk_at "pd"⟩, ⟨by rfl, by walk_at "pd"⟩, trivial⟩, rfl, rfl, ?_, ?_, hx.1, ?_⟩, trivial⟩, fun _ => trivial⟩⟩) (fun hb s4 S4 => ?_) (fun hb s4 S4 => ?_)
 ·show W.first <= 1000000
  lia
 ·show W.roads.length <= 100
  lia
 ·show W.ranks.length <= 100
  lia
 ·show x.toNat < W.ranks.length
  lia
 ·simp only [Bool.and_eq_true, beq_iff_eq] at hb
  exact absurd hb t3
 ·exact st_nil (st_nil (h s4 (Cf.S.to S4 _ rfl rfl)))
theorem law_mask {script : List Int} {W : Wd} (G : W.Good) (hd : 2 <= Z.d) {told : Option Names} {again : Names} (Fi : W.Fine told again) (S : (lawCf Z).S (ofL (("spots", ⟨.lst .int, W.spots again⟩) :: rhoS script W told again)) [] lo s)
  (h : ∀ s', (lawCf Z).S (ofL (rhoM (maskTo (W.spots again)) script W told again)) [] lo s' -> (lawCf Z).wp (execs (lawBody.drop 52) (lawCf Z).env) Q E s') :
  (lawCf Z).wp (execs (lawBody.drop 50) (lawCf Z).env) Q E s := by
 let K := lawCf Z
 have EV := fun n => EV2 K n hd
 have hlen := Fi.len
 have hsp := Fi.spots
 refine sq_assign (K := K) (t := .int) (y := (0 : Int)) S (pure_g (K := K) (n := 4) (U := U2) (EV 4) (by walk_at "pd")) (by rfl) (by rfl) (by rfl) fun s1 S1 => ?_
 have S1 := Cf.S.to S1 (rhoM 0 script W told again) rfl rfl
 refine sq_each (K := K) (n := 6) (U := U2) (t := .int) (l := W.spots again) (fun _ (_ : Unit) => True) (fun j _ => rhoM (maskTo ((W.spots again).take j)) script W told again) (fun _ _ => []) () (EV 6) S1 trivial rfl (by walk_at "pd") rfl (by show (W.spots again).length <= 1000; lia) (by rfl) (fun _ _ => by rfl) (fun _ _ => by rfl) (fun _ _ => by rfl)
  (fun h1 le1 j z x ex s2 hx _ S2 Q' E' hQ' => ?_) (fun z s2 _ S2 => h s2 (by rw [List.take_length] at S2; exact S2))
 refine o02 (Fi.turn j x hx) fun t1 t2 t3 => ?_
 have et : maskTo ((W.spots again).take (j + 1)) = Wd.seedStep (maskTo ((W.spots again).take j)) x := by
  unfold maskTo
  rw [List.take_add_one, hx, List.foldl_append]; rfl
 rw [et] at hQ'
 exact mask_turn G hd (spots_in (List.mem_of_getElem? hx)) t1 t2 t3 S2 fun s3 S3 => hQ' () _ _ trivial (by rfl) S3
theorem law_end {script : List Int} {W : Wd} (G : W.Good) (hd : 2 <= Z.d) {told : Option Names} {again : Names} (Fi : W.Fine told again) (S : (lawCf Z).S (ofL (rhoM (maskTo (W.spots again)) script W told again)) [] lo s)
  (h : ∀ s' hd, (lawCf Z).H (ofL (rhoM (maskTo (W.spots again)) script W told again)) [] lo s' hd -> Q (.ret (.bool true)) s') :
  (lawCf Z).wp (execs (lawBody.drop 52) (lawCf Z).env) Q E s := by
 let K := lawCf Z
 have EV := fun n => EV2 K n hd
 have TE := fun n => TE2 K n hd
 have hlen := Fi.len
 have hsp := Fi.spots
 have g18 := G.n18
 have gln := G.ln
 have glk := G.lk
 have glw := G.lw
 have gol := G.ol
 have goth := G.others
 have grl := roads_len W
 refine wpAny_execs_cons ?_
 refine st_if (K := K) (v := (Builtin.bitAnd W.top (Builtin.bitNot (maskTo (W.spots again))) != 0) || (Builtin.bitAnd (maskTo (W.spots again)) (nextF (maskTo (W.spots again)) W.roads) != 0)) S (test_g (K := K) (n := 8) (U := U2) (TE 8) ⟨⟨⟨⟨by walk_at "pd", ⟨by walk_at "pd", rfl, .inr rfl⟩, trivial⟩, trivial, by walk_at "pd"⟩, trivial⟩, fun _ => ⟨⟨⟨⟨by walk_at "pd", ⟨by rfl, by rfl, by rfl, ⟨⟨by rfl, by walk_at "pd"⟩, ⟨by rfl, by walk_at "pd"⟩, trivial⟩, rfl, ?_⟩, trivial⟩, trivial, by walk_at "pd"⟩, trivial⟩, fun _ => trivial⟩⟩) (fun hb s2 S2 => ?_) (fun hb s2 S2 => ?_)
 ·show W.roads.length <= 100
  lia
 ·rw [Fi.full, Fi.anti] at hb
  exact absurd hb (by decide)
 refine st_nil ?_
 refine wpAny_execs_cons ?_
 refine st_if (K := K) (v := !risesF again W.T) S2 (test_g (K := K) (n := 8) (U := U2) (TE 8) ⟨⟨by rfl, by rfl, by rfl, ⟨⟨by rfl, by walk_at "pd"⟩, ⟨by rfl, by walk_at "pd"⟩, trivial⟩, rfl, ?_⟩, trivial⟩) (fun hb s3 S3 => ?_) (fun hb s3 S3 => ?_)
 ·exact ⟨rfl, rfl, by show again.length <= 100; lia⟩
 ·rw [Fi.rises] at hb
  exact absurd hb (by decide)
 refine st_nil ?_
 have etv : tv 10 (see [] (ofL (rhoM (maskTo (W.spots again)) script W told again))) (stExpr (stmtAt lawBody 54)) = ((Builtin.bitAnd (Builtin.bitOr W.one W.two) W.lies == 0) && !decide (sortI (W.spots again) = W.tops)) := by
  unfold Wd.tops
  rw [<- flat_filter]
  kernel_rfl
 refine wpAny_execs_cons ?_
 refine st_if (K := K) (v := (Builtin.bitAnd (Builtin.bitOr W.one W.two) W.lies == 0) && !decide (sortI (W.spots again) = W.tops)) S3 (by
  have := test_g (K := K) (ρ := ofL (rhoM (maskTo (W.spots again)) script W told again)) (mu := []) (lo := lo) (n := 10) (U := U2) (TE 10) (e := stExpr (stmtAt lawBody 54)) ⟨⟨⟨⟨⟨by walk_at "pd", by walk_at "pd", trivial⟩, by walk_at "pd", trivial⟩, trivial, by walk_at "pd"⟩, trivial⟩, fun _ => ⟨⟨⟨⟨by rfl, by rfl, by rfl, ⟨⟨by rfl, by walk_at "pd"⟩, trivial⟩, ⟨.inl rfl, by show (W.spots again).length < 64; lia⟩⟩, ⟨by rfl, ⟨by rfl, by rfl, by rfl, ⟨⟨by rfl, by walk_at "pd"⟩, trivial⟩, (by show Int.natAbs (W.n : Int) <= 1000; lia)⟩, ⟨.inl rfl, by decide, (by show Int.natAbs (W.n : Int) <= 1000; lia)⟩, by rfl, by rfl, fun x hx => ⟨⟨⟨⟨⟨⟨by walk_at "pd", by walk_at "pd", (range_in (n := W.n) hx).1⟩, trivial, trivial⟩, trivial, by walk_at "pd"⟩, trivial⟩, fun _ => trivial⟩, fun _ => ⟨by walk_at "pd", by walk_at "pd"⟩⟩⟩, rfl, rfl, .inr rfl⟩, trivial⟩, fun _ => trivial⟩⟩
  rw [etv] at this
  exact this) (fun hb s4 S4 => ?_) (fun hb s4 S4 => ?_)
 ·simp only [Bool.and_eq_true, beq_iff_eq, Bool.not_eq_true', decide_eq_false_iff_not] at hb
  exact absurd (Fi.just hb.1) hb.2
 refine st_nil ?_
 have hfolk : ((rangeOf 0 W.n 1).flatMap fun k => if W.whole.getD k.toNat false = true then [(W.P (W.names.getD k.toNat [])).getD []] else []) = ((rangeOf 0 W.n 1).flatMap fun k => if W.whole.getD k.toNat false = true then [(W.kin.getD k.toNat []).flatMap fun e => [W.names.getD e.toNat []]] else []) := by
  rw [List.flatMap_def, List.flatMap_def]
  congr 1
  refine List.map_congr_left fun x hx => ?_
  generalize hw : W.whole.getD x.toNat false = zz; induction zz with
  | false => rfl
  | true =>
   refine o01 (range_in hx) fun x1 x2 => ?_
   rw [if_pos rfl, if_pos rfl, Fi.folk _ x2 hw, flat_map]
   rfl
 refine wpAny_execs_cons ?_
 refine st_if (K := K) (v := !decide (((rangeOf 0 W.n 1).flatMap fun k => if W.whole.getD k.toNat false = true then [(W.P (W.names.getD k.toNat [])).getD []] else []) = ((rangeOf 0 W.n 1).flatMap fun k => if W.whole.getD k.toNat false = true then [(W.kin.getD k.toNat []).flatMap fun e => [W.names.getD e.toNat []]] else []))) S4 (test_g (K := K) (n := 10) (U := U2) (TE 10) ?_) (fun hb s5 S5 => ?_) (fun hb s5 S5 => ?_)
 ·have iw : ∀ x ∈ rangeOf 0 W.n 1, (0 : Int) <= x /\ x.toNat < W.whole.length /\ W.whole.length <= 100000000 := fun x hx => by
   refine o01 (range_in hx) fun x1 x2 => ?_
   exact ⟨x1, by lia, by lia⟩
  have iN : ∀ x ∈ rangeOf 0 W.n 1, (0 : Int) <= x /\ x.toNat < W.names.length /\ W.names.length <= 100000000 := fun x hx => by
   refine o01 (range_in hx) fun x1 x2 => ?_
   exact ⟨x1, by lia, by lia⟩
  have ik : ∀ x ∈ rangeOf 0 W.n 1, (0 : Int) <= x /\ x.toNat < W.kin.length /\ W.kin.length <= 100000000 := fun x hx => by
   refine o01 (range_in hx) fun x1 x2 => ?_
   exact ⟨x1, by lia, by lia⟩
  refine ⟨⟨⟨by rfl, ⟨by rfl, by rfl, by rfl, ⟨⟨by rfl, by walk_at "pd"⟩, trivial⟩, ?_⟩, ⟨.inl rfl, by decide, ?_⟩, by rfl, by rfl, fun x hx => ⟨⟨⟨⟨by walk_at "pd", by walk_at "pd", iw x hx⟩, trivial⟩, fun _ => trivial⟩, fun hall => ⟨⟨by walk_at "pd", ⟨by walk_at "pd", by walk_at "pd", iN x hx⟩, ?_⟩, by rfl⟩⟩⟩,
   ⟨by rfl, ⟨by rfl, by rfl, by rfl, ⟨⟨by rfl, by walk_at "pd"⟩, trivial⟩, ?_⟩, ⟨.inl rfl, by decide, ?_⟩, by rfl, by rfl, fun x hx => ⟨⟨⟨⟨by walk_at "pd", by walk_at "pd", iw x hx⟩, trivial⟩, fun _ => trivial⟩, fun hall => ⟨⟨by rfl, ⟨by walk_at "pd", by walk_at "pd", ik x hx⟩, ?_, by rfl, by rfl, fun y hy => ⟨trivial, fun _ => ⟨⟨by walk_at "pd", by walk_at "pd", ?_⟩, by rfl⟩⟩⟩, by rfl⟩⟩⟩, rfl, rfl, .inr rfl⟩, trivial⟩
  ·show Int.natAbs (W.n : Int) <= 1000
   lia
  ·show Int.natAbs (W.n : Int) <= 1000
   lia
  ·have hw : W.whole.getD (Int.toNat x) false = true := hall
   refine o01 (range_in (n := W.n) hx) fun x1 x2 => ?_
   show (W.P (W.names.getD (Int.toNat x) [])).isSome = true
   rw [Fi.folk _ x2 hw]; rfl
  ·show Int.natAbs (W.n : Int) <= 1000
   lia
  ·show Int.natAbs (W.n : Int) <= 1000
   lia
  ·refine o01 (range_in (n := W.n) hx) fun x1 x2 => ?_
   have := G.kl (Int.toNat x) x2
   show (W.kin.getD (Int.toNat x) []).length <= 1000
   lia
  ·refine o01 (range_in (n := W.n) hx) fun x1 x2 => ?_
   refine o01 (G.ok (Int.toNat x) x2 y hy) fun y1 y2 => ?_
   refine ⟨y1, ?_, ?_⟩
   ·show Int.toNat y < W.names.length
    lia
   ·show W.names.length <= 100000000
    lia
 ·rw [decide_eq_true hfolk] at hb
  exact absurd hb (by decide)
 refine st_nil ?_
 have hothers : (W.others.map W.name) = (W.others.flatMap fun k => [W.names.getD k.toNat []]) := by rw [flat_map]; rfl
 refine wpAny_execs_cons ?_
 refine st_ret (K := K) (t := .bool) (y := decide ((W.others.map W.name) = (W.others.flatMap fun k => [W.names.getD k.toNat []]))) S5 (pure_g (K := K) (n := 10) (U := U2) (EV 10) ?_) fun s6 hd6 v S6 rv => ?_
 ·refine ⟨by walk_at "pd", ⟨by rfl, by walk_at "pd", ?_, by rfl, by rfl, fun x hx => ⟨trivial, fun _ => ⟨⟨by walk_at "pd", by walk_at "pd", ?_⟩, by rfl⟩⟩⟩, rfl, rfl, .inl rfl⟩
  ·show W.others.length <= 1000
   lia
  ·refine o01 (goth x hx) fun x1 x2 => ?_
   refine ⟨x1, ?_, ?_⟩
   ·show Int.toNat x < W.names.length
    lia
   ·show W.names.length <= 100000000
    lia
 ·have : v = .bool true := by
   have : v = .bool (decide ((W.others.map W.name) = (W.others.flatMap fun k => [W.names.getD k.toNat []]))) := rv
   rw [this, decide_eq_true hothers]
  subst this
  exact h s6 hd6 S6
end
end Mine
open Sem (wp)
namespace Mine
structure PlainOk (W : Wd) : Prop where
 t1 : ∃ o, lcasM (W.inp false) 1000 (W.name W.first) (W.others.map W.name) = some o
 c1 : ∀ l1 ls fl fl' cd, askM (W.inp false) [] (W.name W.first) = some (some l1) -> seedM (W.inp false) (W.others.map W.name) l1 (updF (fun _ => none) (W.name W.first) 1) = some (some (ls, fl)) -> runM (W.inp false) 1000 ls fl [] = some (some (fl', cd)) -> cd.length < 64
 t2 : ∃ o, lcasM (W.inp true) 1000 (W.name W.begin) (W.ends.map W.name) = some o
 c2 : ∀ l1 ls fl fl' cd, askM (W.inp true) [] (W.name W.begin) = some (some l1) -> seedM (W.inp true) (W.ends.map W.name) l1 (updF (fun _ => none) (W.name W.begin) 1) = some (some (ls, fl)) -> runM (W.inp true) 1000 ls fl [] = some (some (fl', cd)) -> cd.length < 64
 nr : lcasM (W.inp true) 1000 (W.name W.begin) (W.ends.map W.name) ≠ some none
 fine : ∀ told again, LcasOut (W.inp false) (W.name W.first) (W.others.map W.name) told -> LcasOut (W.inp true) (W.name W.begin) (W.ends.map W.name) (some again) -> W.Fine told again
section
variable {Z : LZ} {s : Shared} {gL : FuncData} {Q : Flow -> Shared -> Prop} {E : Value -> Shared -> Prop} {psW psL : Array Value}
theorem law_all {script : List Int} (hl : script.length <= 63) (hd : 6 <= Z.d) (C : LawC (lawCf Z) gL) (S : (lawCf Z).S (ofL [("script", ⟨.lst .int, script⟩)]) [] [(Z.F.tLaw, tabObj psW), (Z.F.tLcas, tabObj psL)] s)
  (T1 : TabFor Z.hE (sitesW Z.g.qualname) psW) (T2 : TabFor Z.hE (sitesL gL.qualname) psL) (HP : ∀ W : Wd, W.Good -> PlainOk W)
  (h : ∀ s' hd ρ psW psL, (lawCf Z).H ρ [] [(Z.F.tLaw, tabObj psW), (Z.F.tLcas, tabObj psL)] s' hd -> Q (.ret (.bool true)) s') :
  (lawCf Z).wp (execs (defBody lawDef) (lawCf Z).env) Q E s := by
 refine law_a hl S fun s1 numbers head total mode spin holes aF hn S1 => ?_
 refine law_b hn S1 fun s2 figures liar H hF S2 => ?_
 refine law_c hF S2 fun s3 W G S3 => ?_
 refine law_d G S3 fun s4 S4 => ?_
 have HW := HP W G
 refine o10 S4 ?_; clear S4; rintro hc4 S4
 have L4 : LW (lawCf Z) (sitesW Z.g.qualname) (sitesL gL.qualname) Z.F.tLaw Z.F.tLcas (ofL (rhoD script W)) s4 := ⟨hc4, psW, psL, S4, T1.mono S4.le, T2.mono S4.le⟩
 refine wpAny_execs_cons ?_
 refine law_told G hl C L4 HW.t1 HW.c1 fun told hout s5 L5 => ?_
 refine law_sides G L5 fun s6 L6 => ?_
 refine wpAny_execs_cons ?_
 refine law_again G C L6 HW.t2 HW.c2 HW.nr fun again hout2 s7 psW' psL' S7 => ?_
 have Fi := HW.fine told again hout hout2
 refine law_ranks G S7 fun s8 S8 => ?_
 refine law_roads G S8 fun s9 S9 => ?_
 refine law_sets G (by lia) S9 fun s10 S10 => ?_
 refine law_ask G (by lia) Fi S10 fun s11 S11 => ?_
 refine law_spots G (by lia) Fi S11 fun s12 S12 => ?_
 refine law_mask G (by lia) Fi S12 fun s13 S13 => ?_
 exact law_end G (by lia) Fi S13 fun s14 hd14 S14 => h s14 hd14 _ _ _ S14
end
end Mine
namespace Mine
noncomputable abbrev VL : List Int := [1, 2, 3, 7, 9, 10, 11, 15]
noncomputable abbrev VL0 : List Int := [0, 1, 2, 3, 7, 9, 10, 11, 15]
noncomputable abbrev CL : List Int := [1, 2, 7]
noncomputable abbrev Vf (f : Int) : Prop := f ∈ VL
noncomputable abbrev Vc (c : Int) : Prop := c ∈ CL
noncomputable def fv (fl : Fl) (x : List UInt8) : Int := (fl x).getD 0
noncomputable abbrev band := Builtin.bitAnd
noncomputable abbrev bor := Builtin.bitOr
noncomputable abbrev V0 (f : Int) : Prop := f ∈ VL0
theorem v0_zero : V0 0 := List.mem_cons_self
theorem v0_of {f : Int} (h : Vf f) : V0 f := List.mem_cons_of_mem _ h
theorem cf_valid : ∀ {f : Int}, Vf f -> Vc (flagM f) := fun {f} => (by decide +kernel : ∀ f ∈ VL, flagM f ∈ CL) f
theorem or_valid {f c : Int} (h : V0 f) (hc : Vc c) (hn : band f c ≠ c) : Vf (bor f c) := (by decide +kernel : ∀ f ∈ VL0, ∀ c ∈ CL, band f c ≠ c -> bor f c ∈ VL) f h c hc hn
theorem or8_valid {f : Int} (h : Vf f) : Vf (bor f 8) := (by decide +kernel : ∀ f ∈ VL, bor f 8 ∈ VL) f h
noncomputable abbrev has (i f : Int) : Prop := band f i = i
theorem im {i : Int} (hi : i = 1 \/ i = 2 \/ i = 4 \/ i = 8) : i ∈ ([1, 2, 4, 8] : List Int) := by rcases hi with h | h | h | h <;> simp [h]
theorem im3 {i : Int} (hi : i = 1 \/ i = 2 \/ i = 4) : i ∈ ([1, 2, 4] : List Int) := by rcases hi with h | h | h <;> simp [h]
theorem has_or {f c i : Int} (h : V0 f) (hc : Vc c) (hi : i = 1 \/ i = 2 \/ i = 4 \/ i = 8) : has i (bor f c) ↔ has i f \/ has i c := (by decide +kernel : ∀ f ∈ VL0, ∀ c ∈ CL, ∀ i ∈ ([1, 2, 4, 8] : List Int), has i (bor f c) ↔ has i f \/ has i c) f h c hc i (im hi)
theorem has_or8 {f i : Int} (h : Vf f) (hi : i = 1 \/ i = 2 \/ i = 4) : has i (bor f 8) ↔ has i f := (by decide +kernel : ∀ f ∈ VL, ∀ i ∈ ([1, 2, 4] : List Int), has i (bor f 8) ↔ has i f) f h i (im3 hi)
theorem has8_or8 {f : Int} (h : Vf f) : has 8 (bor f 8) := (by decide +kernel : ∀ f ∈ VL, has 8 (bor f 8)) f h
theorem flag_or8 {f : Int} (h : Vf f) : flagM (bor f 8) = flagM f := (by decide +kernel : ∀ f ∈ VL, flagM (bor f 8) = flagM f) f h
theorem core3 {f : Int} (h : Vf f) : band f 7 = 3 ↔ has 1 f /\ has 2 f /\ ¬ has 4 f := (by decide +kernel : ∀ f ∈ VL, band f 7 = 3 ↔ has 1 f /\ has 2 f /\ ¬ has 4 f) f h
theorem flag_has {f : Int} (h : Vf f) : (has 1 (flagM f) ↔ has 1 f) /\ (has 2 (flagM f) ↔ has 2 f) /\ (has 4 (flagM f) ↔ has 1 f /\ has 2 f) := (by decide +kernel : ∀ f ∈ VL, (has 1 (flagM f) ↔ has 1 f) /\ (has 2 (flagM f) ↔ has 2 f) /\ (has 4 (flagM f) ↔ has 1 f /\ has 2 f)) f h
theorem no8 {c : Int} (h : Vc c) : ¬ has 8 c := (by decide +kernel : ∀ c ∈ CL, ¬ has 8 c) c h
theorem sup_iff {f c : Int} (h : V0 f) (hc : Vc c) : band f c = c ↔ (has 1 c -> has 1 f) /\ (has 2 c -> has 2 f) /\ (has 4 c -> has 4 f) := (by decide +kernel : ∀ f ∈ VL0, ∀ c ∈ CL, band f c = c ↔ (has 1 c -> has 1 f) /\ (has 2 c -> has 2 f) /\ (has 4 c -> has 4 f)) f h c hc
theorem zero_has {i : Int} (hi : i = 1 \/ i = 2 \/ i = 4 \/ i = 8) : ¬ has i 0 := (by decide +kernel : ∀ i ∈ ([1, 2, 4, 8] : List Int), ¬ has i 0) i (im hi)
theorem vf_some {f : Int} (h : Vf f) : has 1 f \/ has 2 f := (by decide +kernel : ∀ f ∈ VL, has 1 f \/ has 2 f) f h
noncomputable def okP (I : Inp) (y : List UInt8) : Prop := ∃ t, I.T y = some t /\ ¬ t < I.ms
noncomputable def edge (I : Inp) (x y : List UInt8) : Prop := ∃ ps, I.P x = some ps /\ y ∈ ps /\ okP I y
noncomputable def rk (I : Inp) (x : List UInt8) : Rank := (match I.T x with | some t => -t | none => -0, x)
inductive Road (I : Inp) (p : List UInt8 -> Prop) (a : List UInt8) : List UInt8 -> Prop
 | here : p a -> Road I p a a
 | step {b c} : Road I p a b -> edge I b c -> p c -> Road I p a c
noncomputable def fromS (I : Inp) (p : List UInt8 -> Prop) (S : Names) (x : List UInt8) : Prop := ∃ a ∈ S, Road I p a x
noncomputable def anyN : List UInt8 -> Prop := fun _ => True
noncomputable def bothN (I : Inp) (c1 : List UInt8) (c2s : Names) (x : List UInt8) : Prop := fromS I anyN [c1] x /\ fromS I anyN c2s x
noncomputable def belowN (I : Inp) (c1 : List UInt8) (c2s : Names) (y : List UInt8) : Prop := ∃ x, bothN I c1 c2s x /\ edge I x y
noncomputable def passedN (I : Inp) (c1 : List UInt8) (c2s : Names) (x : List UInt8) : Prop :=
 ∃ m, edge I m x /\ fromS I (fun z => rankLt (rk I z) (rk I x) = true) [c1] m /\ fromS I (fun z => rankLt (rk I z) (rk I x) = true) c2s m
theorem fromS.step {I : Inp} {p : List UInt8 -> Prop} {S : Names} {x y : List UInt8} (h : fromS I p S x) (e : edge I x y) (hy : p y) : fromS I p S y := let ⟨a, ha, r⟩ := h; ⟨a, ha, r.step e hy⟩
structure ParR (I : Inp) (cf : Int) (ps : Names) (ls : List Rank) (fl : Fl) (ls' : List Rank) (fl' : Fl) : Prop where
 chg : ∀ z, fl' z = fl z \/ (z ∈ ps /\ okP I z /\ fl' z = some (bor (fv fl z) cf) /\ band (fv fl z) cf ≠ cf /\ rk I z ∈ ls')
 new : ∀ r ∈ ls', r ∈ ls \/ ∃ z, z ∈ ps /\ r = rk I z /\ fl' z ≠ none
 old : ∀ r ∈ ls, r ∈ ls'
 sup : ∀ p ∈ ps, okP I p -> band (fv fl' p) cf = cf
 seen : I.sh = false -> ∀ p ∈ ps, fl' p ≠ none \/ I.T p ≠ none
theorem or_sup {f c : Int} (h : V0 f) (hc : Vc c) : band (bor f c) c = c := (by decide +kernel : ∀ f ∈ VL0, ∀ c ∈ CL, band (bor f c) c = c) f h c hc
theorem upd_self (fl : Fl) (c : List UInt8) (f : Int) : updF fl c f c = some f := by simp [updF]
theorem upd_ne {fl : Fl} {c z : List UInt8} {f : Int} (h : z ≠ c) : updF fl c f z = fl z := by simp [updF, h]
noncomputable def Vfl (fl : Fl) : Prop := ∀ x f, fl x = some f -> Vf f
theorem Vfl.v0 {fl : Fl} (h : Vfl fl) (x : List UInt8) : V0 (fv fl x) := by
 unfold fv
 generalize e : fl x = zz; induction zz with
 | none => exact v0_zero
 | some f => exact v0_of (h x f e)
theorem Vfl.upd {fl : Fl} (h : Vfl fl) {c : List UInt8} {f : Int} (hf : Vf f) : Vfl (updF fl c f) := fun x g e => by
 unfold updF at e
 split at e
 ·obtain rfl := Option.some.inj e; exact hf
 ·exact h x g e
theorem parM_nil {I : Inp} {cf : Int} {ls : List Rank} {fl : Fl} : parM I cf [] ls fl = some (some (ls, fl)) := rfl
theorem parM_eq {I : Inp} {cf : Int} {c : List UInt8} {r : Names} {ls : List Rank} {fl : Fl} : parM I cf (c :: r) ls fl = (if band ((fl c).getD 0) cf = cf then parM I cf r ls fl else match I.T c with
   | none => if I.sh then parM I cf r ls fl else some none
   | some t => if t < I.ms then parM I cf r ls fl else if ls.length < 80000 then parM I cf r (ins (-t, c) ls) (updF fl c (bor ((fl c).getD 0) cf)) else none) := rfl
theorem par_rel {I : Inp} {cf : Int} (hc : Vc cf) : ∀ (ps : Names) {ls ls' : List Rank} {fl fl' : Fl}, Vfl fl -> parM I cf ps ls fl = some (some (ls', fl')) -> ParR I cf ps ls fl ls' fl' /\ Vfl fl'
 | [], ls, ls', fl, fl', hv, e => by
  rw [parM_nil] at e; cases e
  exact ⟨⟨fun z => .inl rfl, fun r h => .inl h, fun r h => h, fun p hp => (nomatch hp), fun _ p hp => (nomatch hp)⟩, hv⟩
 | c :: r, ls, ls', fl, fl', hv, e => by
  rw [parM_eq] at e
  have skip : ∀ (_ : okP I c -> band (fv fl c) cf = cf) (_ : I.sh = false -> fl c ≠ none \/ I.T c ≠ none), parM I cf r ls fl = some (some (ls', fl')) -> ParR I cf (c :: r) ls fl ls' fl' /\ Vfl fl' := by
   intro h1 h2 e
   refine o01 (par_rel hc r hv e) fun R hv' => ?_
   have keep : ∀ z, fl z ≠ none -> fl' z ≠ none := fun z hz => by
    rcases R.chg z with h | ⟨_, _, h, _⟩
    ·rw [h]; exact hz
    ·rw [h]; exact nofun
   refine ⟨⟨fun z => (R.chg z).imp id fun ⟨a, b⟩ => ⟨List.mem_cons_of_mem _ a, b⟩, fun q hq => (R.new q hq).imp id fun ⟨z, a, b⟩ => ⟨z, List.mem_cons_of_mem _ a, b⟩, R.old, fun p hp ho => ?_, fun hs p hp => ?_⟩, hv'⟩
   ·rcases List.mem_cons.mp hp with rfl | hp
    ·have h3 := h1 ho
     rcases R.chg p with h | ⟨_, _, h, hn, _⟩
     ·unfold fv; rw [h]; exact h3
     ·exact absurd h3 hn
    ·exact R.sup p hp ho
   ·rcases List.mem_cons.mp hp with rfl | hp
    ·exact (h2 hs).imp (keep p) id
    ·exact R.seen hs p hp
  by_cases h1 : band ((fl c).getD 0) cf = cf
  ·rw [if_pos h1] at e
   refine skip (fun _ => h1) (fun _ => .inl fun hn => ?_) e
   rw [hn] at h1
   have : (none : Option Int).getD 0 = 0 := rfl
   rw [this] at h1
   exact (by decide +kernel : ∀ c ∈ CL, band 0 c ≠ c) cf hc h1
  ·rw [if_neg h1] at e
   generalize hT : I.T c = zz; induction zz with
   | none =>
    rw [hT] at e
    simp only at e
    generalize hs : I.sh = zz; induction zz with
    | false => rw [hs] at e; simp at e
    | true =>
     rw [hs] at e
     simp only [if_true] at e
     exact skip (fun ⟨t, ht, _⟩ => by rw [hT] at ht; exact No.ns ht) (fun h => by rw [hs] at h; exact No.tf h) e
   | some t =>
    rw [hT] at e
    simp only at e
    by_cases h2 : t < I.ms
    ·rw [if_pos h2] at e
     exact skip (fun ⟨t', ht, hn⟩ => by rw [hT] at ht; obtain rfl := Option.some.inj ht; exact absurd h2 hn) (fun _ => .inr (by rw [hT]; exact nofun)) e
    ·rw [if_neg h2] at e
     by_cases h3 : ls.length < 80000
     ·rw [if_pos h3] at e
      have hok : okP I c := ⟨t, hT, h2⟩
      have erk : rk I c = (-t, c) := by unfold rk; rw [hT]
      refine o01 (par_rel hc r (hv.upd (or_valid (hv.v0 c) hc h1)) e) fun R hv' => ?_
      have hcin : fl' c = some (bor (fv fl c) cf) := by
       rcases R.chg c with h | ⟨_, _, _, hn, _⟩
       ·rw [h, upd_self]
       ·exfalso
        apply hn
        unfold fv
        rw [upd_self]
        exact or_sup (hv.v0 c) hc
      have hrk : rk I c ∈ ls' := R.old _ (by rw [erk]; exact (ins_perm _ _).mem_iff.mpr List.mem_cons_self)
      refine ⟨⟨fun z => ?_, fun q hq => ?_, fun q hq => R.old q ((ins_perm _ _).mem_iff.mpr (List.mem_cons_of_mem _ hq)), fun p hp ho => ?_, fun hs p hp => ?_⟩, hv'⟩
      ·by_cases hz : z = c
       ·subst hz
        exact .inr ⟨List.mem_cons_self, hok, hcin, h1, hrk⟩
       ·rcases R.chg z with h | ⟨a, b, h, hn, hr⟩
        ·rw [upd_ne hz] at h; exact .inl h
        ·refine .inr ⟨List.mem_cons_of_mem _ a, b, ?_, ?_, hr⟩
         ·rw [h]; unfold fv; rw [upd_ne hz]
         ·unfold fv at hn ⊢; rw [upd_ne hz] at hn; exact hn
      ·rcases R.new q hq with h | ⟨z, a, b⟩
       ·rcases List.mem_cons.mp ((ins_perm _ _).mem_iff.mp h) with h | h
        ·exact .inr ⟨c, List.mem_cons_self, by rw [h, erk], by rw [hcin]; exact nofun⟩
        ·exact .inl h
       ·exact .inr ⟨z, List.mem_cons_of_mem _ a, b⟩
      ·rcases List.mem_cons.mp hp with rfl | hp
       ·unfold fv; rw [hcin]
        exact or_sup (hv.v0 p) hc
       ·exact R.sup p hp ho
      ·rcases List.mem_cons.mp hp with rfl | hp
       ·exact .inl (by rw [hcin]; exact nofun)
       ·exact R.seen hs p hp
     ·rw [if_neg h3] at e; exact No.ns e
end Mine
namespace Mine
structure InvX (I : Inp) (c1 : List UInt8) (c2s : Names) (X : List UInt8 -> Prop) (ls : List Rank) (fl : Fl) (cd : List Rank) : Prop where
 vf : Vfl fl
 so : Sorted ls
 rkk : ∀ r ∈ ls, r = rk I r.2 /\ fl r.2 ≠ none
 b1 : ∀ x, has 1 (fv fl x) -> fromS I anyN [c1] x
 b2 : ∀ x, has 2 (fv fl x) -> fromS I anyN c2s x
 b4 : ∀ x, has 4 (fv fl x) -> belowN I c1 c2s x
 cl : ∀ x f, ¬ X x -> fl x = some f -> rk I x ∈ ls \/ (∀ y, edge I x y -> band (fv fl y) (flagM f) = flagM f) /\ (I.sh = false -> ∃ ps, I.P x = some ps /\ ∀ y ∈ ps, I.T y ≠ none)
 kn : I.sh = false -> ∀ x, fl x ≠ none -> I.T x ≠ none
 c8 : ∀ x f, fl x = some f -> has 8 f -> (-(rk I x).1, x) ∈ cd
 c3 : ∀ x f, fl x = some f -> band f 7 = 3 -> rk I x ∈ ls \/ has 8 f
 cdo : ∀ y ∈ cd, y.1 = -(rk I y.2).1 /\ bothN I c1 c2s y.2 /\ ¬ passedN I c1 c2s y.2 /\ has 1 (fv fl y.2) /\ has 2 (fv fl y.2)
 s1 : has 1 (fv fl c1)
 s2 : ∀ c ∈ c2s, has 2 (fv fl c)
noncomputable abbrev Inv (I : Inp) (c1 : List UInt8) (c2s : Names) (ls : List Rank) (fl : Fl) (cd : List Rank) : Prop := InvX I c1 c2s (fun _ => False) ls fl cd
theorem fv_some {fl : Fl} {x : List UInt8} {i : Int} (hi : i = 1 \/ i = 2 \/ i = 4 \/ i = 8) (h : has i (fv fl x)) : ∃ f, fl x = some f /\ fv fl x = f := by
 generalize e : fl x = zz; induction zz with
 | none =>
  unfold fv at h
  rw [e] at h
  exact absurd h (zero_has hi)
 | some f => exact ⟨f, rfl, by unfold fv; rw [e]; rfl⟩
section
variable {I : Inp} {c1 : List UInt8} {c2s : Names} {ls : List Rank} {fl : Fl} {cd : List Rank} {X : List UInt8 -> Prop}
theorem near_flag {y : Rank} {ls0 : List Rank} (J : Inv I c1 c2s (y :: ls0) fl cd) {i : Int} (hi : i = 1 \/ i = 2) {S : Names} (hS : ∀ a ∈ S, has i (fv fl a)) {z : List UInt8} (h : fromS I (fun z => rankLt (rk I z) y = true) S z) : has i (fv fl z) /\ rankLt (rk I z) y = true := by
 refine o11 h fun a ha r => ?_
 clear h
 induction r with
 | here hp => exact ⟨hS a ha, hp⟩
 | step r e hp ih =>
  rename_i b c
  refine o01 ih fun h1 h2 => ?_
  refine ⟨?_, hp⟩
  have hi4 : i = 1 \/ i = 2 \/ i = 4 \/ i = 8 := by rcases hi with h | h <;> simp [h]
  refine o11 (fv_some hi4 h1) fun f ef evf => ?_
  rcases J.cl b f (fun h => h) ef with hm | ⟨hcl, _⟩
  ·exfalso
   have hle : rle y (rk I b) := by
    rcases List.mem_cons.mp hm with h | h
    ·rw [h]; exact rle_refl _
    ·exact (List.pairwise_cons.mp J.so).1 _ h
   unfold rle at hle
   rw [h2] at hle; exact No.tf hle
  ·have vff := J.vf b f ef
   refine o02 ((sup_iff (J.vf.v0 c) (cf_valid vff)).mp (hcl c e)) fun k1 k2 k4 => ?_
   rw [evf] at h1
   rcases hi with rfl | rfl
   ·exact k1 ((flag_has vff).1.mpr h1)
   ·exact k2 ((flag_has vff).2.1.mpr h1)
theorem not_passed {y : Rank} {ls0 : List Rank} (J : Inv I c1 c2s (y :: ls0) fl cd) {f : Int} (hf : fl y.2 = some f) (h3 : band f 7 = 3) : ¬ passedN I c1 c2s y.2 := by
 rintro ⟨m, em, n1, n2⟩
 have ey : y = rk I y.2 := (J.rkk y List.mem_cons_self).1
 rw [<- ey] at n1 n2
 refine o01 (near_flag J (.inl rfl) (fun a ha => by rw [List.mem_singleton.mp ha]; exact J.s1) n1) fun m1 mlt => ?_
 refine o01 (near_flag J (.inr rfl) J.s2 n2) fun m2 _ => ?_
 refine o11 (fv_some (.inl rfl) m1) fun g eg evg => ?_
 have vg := J.vf m g eg
 rcases J.cl m g (fun h => h) eg with hm | ⟨hcl, _⟩
 ·have hle : rle y (rk I m) := by
   rcases List.mem_cons.mp hm with h | h
   ·rw [h]; exact rle_refl _
   ·exact (List.pairwise_cons.mp J.so).1 _ h
  unfold rle at hle
  rw [mlt] at hle; exact No.tf hle
 ·refine o02 ((sup_iff (J.vf.v0 y.2) (cf_valid vg)).mp (hcl y.2 em)) fun _ _ k4 => ?_
  rw [evg] at m1 m2
  have := k4 ((flag_has vg).2.2.mpr ⟨m1, m2⟩)
  have ev : fv fl y.2 = f := by unfold fv; rw [hf]; rfl
  rw [ev] at this
  exact ((core3 (J.vf y.2 f hf)).mp h3).2.2 this
theorem mark_inv {y : Rank} {ls0 : List Rank} {f : Int} (J : Inv I c1 c2s (y :: ls0) fl cd) (hf : fl y.2 = some f) :
  InvX I c1 c2s (fun z => z = y.2) ls0 (markM y f fl cd).1 (markM y f fl cd).2 /\ ∃ f1, (markM y f fl cd).1 y.2 = some f1 /\ flagM f1 = flagM f /\ Vf f1 := by
 have vff := J.vf y.2 f hf
 have ey : y = rk I y.2 := (J.rkk y List.mem_cons_self).1
 have evf : fv fl y.2 = f := by unfold fv; rw [hf]; rfl
 have key : (band f 7 = 3 /\ band f 8 ≠ 8 /\ markM y f fl cd = (updF fl y.2 (bor f 8), cd ++ [(-y.1, y.2)])) \/ ((band f 7 = 3 -> has 8 f) /\ markM y f fl cd = (fl, cd)) := by
  by_cases h : band f 7 = 3 /\ band f 8 ≠ 8
  ·exact .inl ⟨h.1, h.2, by unfold markM; rw [if_pos h]⟩
  ·refine .inr ⟨fun h3 => ?_, by unfold markM; rw [if_neg h]⟩
   by_cases h8 : band f 8 = 8
   ·exact h8
   ·exact absurd ⟨h3, h8⟩ h
 have so0 : Sorted ls0 := (List.pairwise_cons.mp J.so).2
 have inls : ∀ z, z ≠ y.2 -> rk I z ∈ y :: ls0 -> rk I z ∈ ls0 := fun z hz h => by
  rcases List.mem_cons.mp h with h | h
  ·exfalso
   apply hz
   have := congrArg Prod.snd h
   exact this
  ·exact h
 rcases key with ⟨h3, h8, em⟩ | ⟨h3, em⟩
 ·rw [em]
  show InvX I c1 c2s (fun z => z = y.2) ls0 (updF fl y.2 (bor f 8)) (cd ++ [(-y.1, y.2)]) /\ ∃ f1, updF fl y.2 (bor f 8) y.2 = some f1 /\ flagM f1 = flagM f /\ Vf f1
  have np := not_passed J hf h3
  refine o02 ((core3 vff).mp h3) fun q1 q2 q4 => ?_
  have hk : ∀ z i, (i = 1 \/ i = 2 \/ i = 4) -> (has i (fv (updF fl y.2 (bor f 8)) z) ↔ has i (fv fl z)) := fun z i hi => by
   by_cases hz : z = y.2
   ·subst hz
    have : fv (updF fl y.2 (bor f 8)) y.2 = bor f 8 := by unfold fv; rw [upd_self]; rfl
    rw [this, evf]
    exact has_or8 vff hi
   ·unfold fv; rw [upd_ne hz]
  have nn : ∀ z, fl z ≠ none -> updF fl y.2 (bor f 8) z ≠ none := fun z h => by
   unfold updF; split
   ·exact nofun
   ·exact h
  have v' := J.vf.upd (c := y.2) (or8_valid vff)
  refine ⟨⟨v', so0, fun r hr => ⟨(J.rkk r (List.mem_cons_of_mem _ hr)).1, nn _ (J.rkk r (List.mem_cons_of_mem _ hr)).2⟩, fun x h => J.b1 x ((hk x 1 (.inl rfl)).mp h), fun x h => J.b2 x ((hk x 2 (.inr (.inl rfl))).mp h), fun x h => J.b4 x ((hk x 4 (.inr (.inr rfl))).mp h),
   fun x g hx hg => ?_, fun hs x hx => ?_, fun x g hg h => ?_, fun x g hg h => ?_, fun q hq => ?_, (hk c1 1 (.inl rfl)).mpr J.s1, fun c hc => (hk c 2 (.inr (.inl rfl))).mpr (J.s2 c hc)⟩, bor f 8, upd_self _ _ _, flag_or8 vff, or8_valid vff⟩
  ·have hg' : fl x = some g := by rw [upd_ne hx] at hg; exact hg
   rcases J.cl x g (fun h => h) hg' with h | ⟨h, h'⟩
   ·exact .inl (inls x hx h)
   ·refine .inr ⟨fun z ez => ?_, h'⟩
    have vg := cf_valid (J.vf x g hg')
    refine o02 ((sup_iff (J.vf.v0 z) vg).mp (h z ez)) fun k1 k2 k4 => ?_
    exact (sup_iff (v'.v0 z) vg).mpr ⟨fun a => (hk z 1 (.inl rfl)).mpr (k1 a), fun a => (hk z 2 (.inr (.inl rfl))).mpr (k2 a), fun a => (hk z 4 (.inr (.inr rfl))).mpr (k4 a)⟩
  ·refine J.kn hs x fun h => hx ?_
   by_cases hz : x = y.2
   ·subst hz; rw [hf] at h; exact No.sn h
   ·rw [upd_ne hz]; exact h
  ·by_cases hz : x = y.2
   ·subst hz
    refine List.mem_append_right _ (List.mem_singleton.mpr ?_)
    rw [<- ey]
   ·rw [upd_ne hz] at hg
    exact List.mem_append_left _ (J.c8 x g hg h)
  ·by_cases hz : x = y.2
   ·subst hz
    rw [upd_self] at hg; obtain rfl := Option.some.inj hg
    exact .inr (has8_or8 vff)
   ·rw [upd_ne hz] at hg
    exact (J.c3 x g hg h).imp (inls x hz) id
  ·rcases List.mem_append.mp hq with hq | hq
   ·refine o04 (J.cdo q hq) fun a b c d d' => ?_
    exact ⟨a, b, c, (hk _ 1 (.inl rfl)).mpr d, (hk _ 2 (.inr (.inl rfl))).mpr d'⟩
   ·rw [List.mem_singleton.mp hq]
    refine ⟨by rw [<- ey], ⟨J.b1 _ (by rw [evf]; exact q1), J.b2 _ (by rw [evf]; exact q2)⟩, np, (hk _ 1 (.inl rfl)).mpr (by rw [evf]; exact q1), (hk _ 2 (.inr (.inl rfl))).mpr (by rw [evf]; exact q2)⟩
 ·rw [em]
  show InvX I c1 c2s (fun z => z = y.2) ls0 fl cd /\ ∃ f1, fl y.2 = some f1 /\ flagM f1 = flagM f /\ Vf f1
  refine ⟨⟨J.vf, so0, fun r hr => J.rkk r (List.mem_cons_of_mem _ hr), J.b1, J.b2, J.b4, fun x g hx hg => ?_, J.kn, J.c8, fun x g hg h => ?_, J.cdo, J.s1, J.s2⟩, f, hf, rfl, vff⟩
  ·exact (J.cl x g (fun h => h) hg).imp (inls x hx) id
  ·by_cases hz : x = y.2
   ·subst hz
    rw [hf] at hg; obtain rfl := Option.some.inj hg
    exact .inr (h3 h)
   ·exact (J.c3 x g hg h).imp (inls x hz) id
theorem par_inv {x : List UInt8} {ps : Names} {ls' : List Rank} {fl' : Fl} {f1 : Int} (J : InvX I c1 c2s (fun z => z = x) ls fl cd) (hx : fl x = some f1) (hP : I.P x = some ps) (R : ParR I (flagM f1) ps ls fl ls' fl') (hv : Vfl fl') (hs' : Sorted ls') : Inv I c1 c2s ls' fl' cd := by
 have vf1 := J.vf x f1 hx
 have hcf := cf_valid vf1
 have evx : fv fl x = f1 := by unfold fv; rw [hx]; rfl
 have nn : ∀ z, fl z ≠ none -> fl' z ≠ none := fun z h => by
  rcases R.chg z with e | ⟨_, _, e, _⟩
  ·rw [e]; exact h
  ·rw [e]; exact nofun
 have up : ∀ z i, (i = 1 \/ i = 2 \/ i = 4) -> has i (fv fl z) -> has i (fv fl' z) := fun z i hi h => by
  rcases R.chg z with e | ⟨_, _, e, _⟩
  ·unfold fv; rw [e]; exact h
  ·have : fv fl' z = bor (fv fl z) (flagM f1) := by
    show (fl' z).getD 0 = _
    rw [e]; rfl
   rw [this]
   exact (has_or (J.vf.v0 z) hcf (by rcases hi with h | h | h <;> simp [h])).mpr (.inl h)
 have down : ∀ z i, (i = 1 \/ i = 2 \/ i = 4) -> has i (fv fl' z) -> has i (fv fl z) \/ (edge I x z /\ has i (flagM f1)) := fun z i hi h => by
  rcases R.chg z with e | ⟨m, o, e, _⟩
  ·left
   have : fv fl z = fv fl' z := by unfold fv; rw [e]
   rw [this]; exact h
  ·have : fv fl' z = bor (fv fl z) (flagM f1) := by
    show (fl' z).getD 0 = _
    rw [e]; rfl
   rw [this] at h
   rcases (has_or (J.vf.v0 z) hcf (by rcases hi with h | h | h <;> simp [h])).mp h with h | h
   ·exact .inl h
   ·exact .inr ⟨⟨ps, hP, m, o⟩, h⟩
 refine o02 (flag_has vf1) fun g1 g2 g4 => ?_
 have kn' : I.sh = false -> ∀ z, fl' z ≠ none -> I.T z ≠ none := fun hs z hz => by
  rcases R.chg z with e | ⟨_, ⟨t, ht, _⟩, _⟩
  ·rw [e] at hz; exact J.kn hs z hz
  ·rw [ht]; exact nofun
 refine ⟨hv, hs', fun r hr => ?_, fun z h => ?_, fun z h => ?_, fun z h => ?_, fun z g _ hg => ?_, kn', fun z g hg h => ?_, fun z g hg h => ?_, fun q hq => ?_, up _ _ (.inl rfl) J.s1, fun c hc => up _ _ (.inr (.inl rfl)) (J.s2 c hc)⟩
 ·rcases R.new r hr with h | ⟨z, _, e, h⟩
  ·exact ⟨(J.rkk r h).1, nn _ (J.rkk r h).2⟩
  ·subst e
   exact ⟨rfl, h⟩
 ·rcases down z 1 (.inl rfl) h with h | ⟨e, h⟩
  ·exact J.b1 z h
  ·exact (J.b1 x (by rw [evx]; exact g1.mp h)).step e trivial
 ·rcases down z 2 (.inr (.inl rfl)) h with h | ⟨e, h⟩
  ·exact J.b2 z h
  ·exact (J.b2 x (by rw [evx]; exact g2.mp h)).step e trivial
 ·rcases down z 4 (.inr (.inr rfl)) h with h | ⟨e, h⟩
  ·exact J.b4 z h
  ·refine o01 (g4.mp h) fun a b => ?_
   exact ⟨x, ⟨J.b1 x (by rw [evx]; exact a), J.b2 x (by rw [evx]; exact b)⟩, e⟩
 ·rcases R.chg z with e | ⟨_, _, _, _, hr⟩
  ·rw [hg] at e
   by_cases hz : z = x
   ·subst hz
    rw [hx] at e; obtain rfl := Option.some.inj e
    refine .inr ⟨fun y ⟨ps', hp', hy, ho⟩ => ?_, fun hs => ⟨ps, hP, fun y hy => ?_⟩⟩
    ·rw [hP] at hp'; obtain rfl := Option.some.inj hp'
     exact R.sup y hy ho
    ·exact (R.seen hs y hy).elim (kn' hs y) id
   ·have vg := J.vf z g e.symm
    refine (J.cl z g hz e.symm).imp (R.old _) fun ⟨h, h'⟩ => ⟨fun y ey => ?_, h'⟩
    refine o02 ((sup_iff (J.vf.v0 y) (cf_valid vg)).mp (h y ey)) fun k1 k2 k4 => ?_
    exact (sup_iff (hv.v0 y) (cf_valid vg)).mpr ⟨fun a => up _ _ (.inl rfl) (k1 a), fun a => up _ _ (.inr (.inl rfl)) (k2 a), fun a => up _ _ (.inr (.inr rfl)) (k4 a)⟩
  ·exact .inl hr
 ·rcases R.chg z with e | ⟨_, _, e, _⟩
  ·rw [hg] at e; exact J.c8 z g e.symm h
  ·rw [hg] at e; obtain rfl := Option.some.inj e
   rcases (has_or (J.vf.v0 z) hcf (.inr (.inr (.inr rfl)))).mp h with h | h
   ·refine o11 (fv_some (.inr (.inr (.inr rfl))) h) fun g' eg evg => ?_
    rw [evg] at h
    exact J.c8 z g' eg h
   ·exact absurd h (no8 hcf)
 ·rcases R.chg z with e | ⟨_, _, _, _, hr⟩
  ·rw [hg] at e
   exact (J.c3 z g e.symm h).imp (R.old _) id
  ·exact .inl hr
 ·refine o04 (J.cdo q hq) fun a b c d d' => ?_
  exact ⟨a, b, c, up _ _ (.inl rfl) d, up _ _ (.inr (.inl rfl)) d'⟩
end
end Mine
namespace Mine
noncomputable def tornN (I : Inp) (c1 : List UInt8) (c2s : Names) : Prop := I.sh = false /\ ∃ x, (fromS I anyN [c1] x \/ fromS I anyN c2s x) /\ (I.P x = none \/ ∃ ps, I.P x = some ps /\ ∃ y ∈ ps, I.T y = none)
theorem par_bad {I : Inp} {cf : Int} : ∀ (ps : Names) {ls : List Rank} {fl : Fl}, parM I cf ps ls fl = some none -> I.sh = false /\ ∃ y ∈ ps, I.T y = none
 | [], ls, fl, e => by rw [parM_nil] at e; cases e
 | c :: r, ls, fl, e => by
  rw [parM_eq] at e
  have up : (I.sh = false /\ ∃ y ∈ r, I.T y = none) -> I.sh = false /\ ∃ y ∈ c :: r, I.T y = none := fun ⟨a, y, b, d⟩ => ⟨a, y, List.mem_cons_of_mem _ b, d⟩
  split at e
  ·exact up (par_bad r e)
  ·generalize hT : I.T c = zz; induction zz with
   | none =>
    rw [hT] at e
    simp only at e
    generalize hs : I.sh = zz; induction zz with
    | false => exact ⟨rfl, c, List.mem_cons_self, hT⟩
    | true =>
     rw [hs] at e
     have := (par_bad r e).1
     rw [hs] at this; exact No.tf this
   | some t =>
    rw [hT] at e
    simp only at e
    split at e
    ·exact up (par_bad r e)
    ·split at e
     ·exact up (par_bad r e)
     ·exact No.ns e
theorem turnM_eq {I : Inp} {y : Rank} {ls : List Rank} {fl : Fl} {cd : List Rank} {f : Int} (hf : fl y.2 = some f) : turnM I (y :: ls) fl cd = if cd.length < 1000 then (match I.P y.2 with
    | none => if I.sh then some (some (ls, markM y f fl cd)) else some none
    | some ps => match parM I (flagM f) ps ls (markM y f fl cd).1 with
     | some (some (a, b)) => some (some (a, b, (markM y f fl cd).2))
     | some none => some none
     | none => none) else none := by
 first | (simp only [turnM, hf]; done) | (simp only [turnM, hf]; rfl)
theorem runM_eq {I : Inp} {n : Nat} {ls : List Rank} {fl : Fl} {cd : List Rank} : runM I (n + 1) ls fl cd = if hasC ls fl then (match turnM I ls fl cd with
   | some (some (a, b, c)) => runM I n a b c
   | some none => some none
   | none => none) else some (some (fl, cd)) := rfl
section
variable {I : Inp} {c1 : List UInt8} {c2s : Names} {ls : List Rank} {fl : Fl} {cd : List Rank}
theorem turn_inv {o : Option Qst} (J : Inv I c1 c2s ls fl cd) (e : turnM I ls fl cd = some o) : match o with
  | some (a, b, c) => Inv I c1 c2s a b c
  | none => tornN I c1 c2s := by
 induction ls using List.casesOn with
 | nil => simp [turnM] at e
 | cons y ls =>
  generalize hf : fl y.2 = zz; induction zz with
  | none => simp only [turnM, hf] at e; exact No.ns e
  | some f =>
   rw [turnM_eq hf] at e
   refine o01 (mark_inv J hf) fun M zz => o12 zz fun f1 hf1 ef vf1 => ?_
   split at e
   ·have evf : fv fl y.2 = f := by unfold fv; rw [hf]; rfl
    have at_y : fromS I anyN [c1] y.2 \/ fromS I anyN c2s y.2 := by
     rcases vf_some (J.vf y.2 f hf) with h | h
     ·exact .inl (J.b1 _ (by rw [evf]; exact h))
     ·exact .inr (J.b2 _ (by rw [evf]; exact h))
    generalize hP : I.P y.2 = zz; induction zz with
    | none =>
     rw [hP] at e
     simp only at e
     generalize hs : I.sh = zz; induction zz with
     | false =>
      rw [hs] at e
      simp only [Bool.false_eq_true, if_false, Option.some.injEq] at e
      subst e
      exact ⟨hs, y.2, at_y, .inl hP⟩
     | true =>
      rw [hs] at e
      simp only [if_true, Option.some.injEq] at e
      subst e
      refine ⟨M.vf, M.so, M.rkk, M.b1, M.b2, M.b4, fun x g _ hg => ?_, M.kn, M.c8, M.c3, M.cdo, M.s1, M.s2⟩
      by_cases hx : x = y.2
      ·subst hx
       refine .inr ⟨fun z ⟨ps, hp, _⟩ => ?_, fun h => ?_⟩
       ·rw [hP] at hp; exact No.ns hp
       ·rw [hs] at h; exact No.tf h
      ·exact M.cl x g hx hg
    | some ps =>
     rw [hP] at e
     simp only at e
     generalize hp : parM I (flagM f) ps ls (markM y f fl cd).1 = zz; induction zz with
     | none => rw [hp] at e; exact No.ns e
     | some q =>
      rw [hp] at e
      induction q with
      | none =>
       simp only [Option.some.injEq] at e
       subst e
       refine o01 (par_bad ps hp) fun a b => ?_
       exact ⟨a, y.2, at_y, .inr ⟨ps, hP, b⟩⟩
      | some q =>
       obtain ⟨a, b⟩ := q
       simp only [Option.some.injEq] at e
       subst e
       have hc := cf_valid (J.vf y.2 f hf)
       refine o01 (par_rel hc ps M.vf hp) fun R hv' => ?_
       have ef' := ef
       rw [<- ef] at R
       exact par_inv M hf1 hP R hv' (par_sorted ps M.so hp)
   ·exact No.ns e
theorem run_inv : ∀ {n : Nat} {ls : List Rank} {fl : Fl} {cd : List Rank} {o : Option (Fl × List Rank)}, Inv I c1 c2s ls fl cd -> runM I n ls fl cd = some o -> match o with
  | some (a, b) => ∃ ls', Inv I c1 c2s ls' a b /\ hasC ls' a = false
  | none => tornN I c1 c2s
 | 0, _, _, _, _, _, e => nomatch e
 | n + 1, ls, fl, cd, o, J, e => by
  rw [runM_eq] at e
  split at e
  ·generalize ht : turnM I ls fl cd = zz; induction zz with
   | none => rw [ht] at e; exact No.ns e
   | some q =>
    rw [ht] at e
    have := turn_inv J ht
    induction q with
    | none =>
     simp only [Option.some.injEq] at e
     subst e
     exact this
    | some q =>
     obtain ⟨a, b, c⟩ := q
     exact run_inv (n := n) this e
  ·rename_i h
   simp only [Option.some.injEq] at e
   subst e
   exact ⟨ls, J, by simpa using h⟩
end
noncomputable def mis1 (i f : Int) : Nat := if band f i = i then 0 else 1
noncomputable def mis (f : Int) : Nat := mis1 1 f + mis1 2 f + mis1 4 f
noncomputable def misS (N : Names) (fl : Fl) : Nat := (N.map fun x => mis (fv fl x)).sum
theorem mis_or {f c : Int} (h : V0 f) (hc : Vc c) (hn : band f c ≠ c) : mis (bor f c) < mis f := (by decide +kernel : ∀ f ∈ VL0, ∀ c ∈ CL, band f c ≠ c -> mis (bor f c) < mis f) f h c hc hn
theorem mis_or8 {f : Int} (h : Vf f) : mis (bor f 8) = mis f := (by decide +kernel : ∀ f ∈ VL, mis (bor f 8) = mis f) f h
theorem mis_le (f : Int) : mis f <= 3 := by
 unfold mis mis1
 split <;> split <;> split <;> (first | lia | omega)
theorem misS_upd {fl : Fl} {c : List UInt8} {f : Int} : ∀ {N : Names}, N.Nodup -> c ∈ N -> misS N (updF fl c f) + mis (fv fl c) = misS N fl + mis f
 | [], _, h => nomatch h
 | x :: r, nd, h => by
  refine o01 (List.nodup_cons.mp nd) fun n1 n2 => ?_
  have e1 : fv (updF fl c f) c = f := by unfold fv; rw [upd_self]; rfl
  have e2 : ∀ z, z ≠ c -> fv (updF fl c f) z = fv fl z := fun z hz => by unfold fv; rw [upd_ne hz]
  unfold misS
  rw [List.map_cons, List.map_cons, List.sum_cons, List.sum_cons]
  by_cases hx : x = c
  ·subst hx
   rw [e1]
   have : (r.map fun y => mis (fv (updF fl x f) y)) = r.map fun y => mis (fv fl y) := List.map_congr_left fun y hy => by rw [e2 y fun q => n1 (q ▸ hy)]
   rw [this]; lia
  ·have hm : c ∈ r := (List.mem_cons.mp h).resolve_left fun q => hx q.symm
   have := misS_upd (fl := fl) (f := f) n2 hm
   unfold misS at this
   rw [e2 x hx]; lia
theorem misS_le (N : Names) (fl : Fl) : misS N fl <= 3 * N.length := by
 induction N with
 | nil => exact Nat.le_refl _
 | cons x r ih =>
  unfold misS at ih ⊢
  rw [List.map_cons, List.sum_cons, List.length_cons]
  have := mis_le (fv fl x)
  lia
structure Tot (N : Names) (ls : List Rank) (fl : Fl) (cd : List Rank) : Prop where
 vf : Vfl fl
 ent : ∀ r ∈ ls, r.2 ∈ N /\ fl r.2 ≠ none
 cds : ∀ r ∈ cd, fl r.2 ≠ none
 sz : cd.length + (ls.length + misS N fl) <= 63
theorem par_tot {I : Inp} {N : Names} {cf : Int} (nd : N.Nodup) (hc : Vc cf) {cd : List Rank} : ∀ (ps : Names) {ls : List Rank} {fl : Fl}, (∀ p ∈ ps, p ∈ N) -> Tot N ls fl cd -> ∃ o, parM I cf ps ls fl = some o /\ (o = none -> I.sh = false) /\ ∀ a b, o = some (a, b) -> Tot N a b cd /\ a.length + misS N b <= ls.length + misS N fl
 | [], ls, fl, _, J => ⟨_, rfl, fun h => (nomatch h), fun a b e => by cases e; exact ⟨J, Nat.le_refl _⟩⟩
 | c :: r, ls, fl, hN, J => by
  rw [parM_eq]
  have hr : ∀ p ∈ r, p ∈ N := fun p hp => hN p (List.mem_cons_of_mem _ hp)
  by_cases h1 : band ((fl c).getD 0) cf = cf
  ·rw [if_pos h1]; exact par_tot nd hc r hr J
  ·rw [if_neg h1]
   generalize hT : I.T c = zz; induction zz with
   | none =>
    generalize hs : I.sh = zz; induction zz with
    | false => exact ⟨none, by simp, fun _ => rfl, fun a b h => nomatch h⟩
    | true =>
     refine o12 (par_tot (I := I) nd hc r hr J) fun o h1 h2 h3 => ?_
     exact ⟨o, by simpa using h1, fun h => (by have := h2 h; rw [hs] at this; exact No.tf this), h3⟩
   | some t =>
    simp only
    by_cases h2 : t < I.ms
    ·rw [if_pos h2]; exact par_tot nd hc r hr J
    ·rw [if_neg h2]
     have hlen := J.sz
     rw [if_pos (show ls.length < 80000 by lia)]
     have v0 := J.vf.v0 c
     have hlt : mis (bor (fv fl c) cf) < mis (fv fl c) := mis_or v0 hc h1
     have hup := misS_upd (fl := fl) (f := bor (fv fl c) cf) nd (hN c List.mem_cons_self)
     have hil : (ins (-t, c) ls).length = ls.length + 1 := by rw [(ins_perm _ _).length_eq]; rfl
     have nn : ∀ z, fl z ≠ none -> updF fl c (bor (fv fl c) cf) z ≠ none := fun z h => by
      unfold updF; split
      ·exact nofun
      ·exact h
     have J' : Tot N (ins (-t, c) ls) (updF fl c (bor (fv fl c) cf)) cd := by
      refine ⟨J.vf.upd (or_valid v0 hc h1), fun q hq => ?_, fun q hq => nn _ (J.cds q hq), ?_⟩
      ·rcases List.mem_cons.mp ((ins_perm _ _).mem_iff.mp hq) with rfl | h
       ·exact ⟨hN _ List.mem_cons_self, by simp [updF]⟩
       ·exact ⟨(J.ent q h).1, nn _ (J.ent q h).2⟩
      ·lia
     refine o12 (par_tot (I := I) nd hc r hr J') fun o a1 a2 a3 => ?_
     exact ⟨o, a1, a2, fun a b e => ⟨(a3 a b e).1, by have := (a3 a b e).2; lia⟩⟩
theorem turn_tot {I : Inp} {N : Names} (nd : N.Nodup) (hPN : ∀ c ps, I.P c = some ps -> ∀ d ∈ ps, d ∈ N) {y : Rank} {ls : List Rank} {fl : Fl} {cd : List Rank} (J : Tot N (y :: ls) fl cd) : ∃ o, turnM I (y :: ls) fl cd = some o /\ (o = none -> I.sh = false) /\ ∀ a b c, o = some (a, b, c) -> Tot N a b c /\ a.length + misS N b < (y :: ls).length + misS N fl := by
 refine o01 (J.ent y List.mem_cons_self) fun hy hn => ?_
 generalize hf : fl y.2 = zz; induction zz with
 | none => exact absurd hf hn
 | some f =>
  have vff := J.vf y.2 f hf
  have evf : fv fl y.2 = f := by unfold fv; rw [hf]; rfl
  have hsz := J.sz
  rw [turnM_eq hf, if_pos (by lia)]
  have M : Tot N ls (markM y f fl cd).1 (markM y f fl cd).2 /\ misS N (markM y f fl cd).1 = misS N fl := by
   unfold markM
   split
   ·have hup := misS_upd (fl := fl) (f := bor f 8) nd hy
    rw [evf, mis_or8 vff] at hup
    have nn : ∀ z, fl z ≠ none -> updF fl y.2 (bor f 8) z ≠ none := fun z h => by
     unfold updF; split
     ·exact nofun
     ·exact h
    refine ⟨⟨J.vf.upd (or8_valid vff), fun r hr => ⟨(J.ent r (List.mem_cons_of_mem _ hr)).1, nn _ (J.ent r (List.mem_cons_of_mem _ hr)).2⟩, fun r hr => ?_, ?_⟩, ?_⟩
    ·rcases List.mem_append.mp hr with hr | hr
     ·exact nn _ (J.cds r hr)
     ·rw [List.mem_singleton.mp hr]; exact nn _ hn
    ·simp only [List.length_append, List.length_cons, List.length_nil] at hsz ⊢
     show cd.length + (0 + 1) + (ls.length + misS N (updF fl y.2 (bor f 8))) <= 63
     lia
    ·show misS N (updF fl y.2 (bor f 8)) = misS N fl
     lia
   ·refine ⟨⟨J.vf, fun r hr => J.ent r (List.mem_cons_of_mem _ hr), J.cds, ?_⟩, rfl⟩
    simp only [List.length_cons] at hsz
    show cd.length + (ls.length + misS N fl) <= 63
    lia
  refine o01 M ?_; clear M; rintro M em
  generalize hP : I.P y.2 = zz; induction zz with
  | none =>
   generalize hs : I.sh = zz; induction zz with
   | false => exact ⟨none, by simp, fun _ => rfl, fun a b c h => nomatch h⟩
   | true =>
    refine ⟨some (ls, markM y f fl cd), by simp, fun h => (nomatch h), fun a b c e => ?_⟩
    simp only [Option.some.injEq, Prod.mk.injEq] at e
    refine o01 e ?_; clear e; rintro rfl e
    have e1 : (markM y f fl cd).1 = b := by rw [e]
    have e2 : (markM y f fl cd).2 = c := by rw [e]
    rw [e1, e2] at M
    rw [e1] at em
    exact ⟨M, by rw [em, List.length_cons]; lia⟩
  | some ps =>
   refine o12 (par_tot (I := I) nd (cf_valid vff) ps (hPN _ _ hP) M) fun o a1 a2 a3 => ?_
   simp only [a1]
   induction o with
   | none => exact ⟨none, rfl, fun _ => a2 rfl, fun a b c h => nomatch h⟩
   | some q =>
    obtain ⟨a, b⟩ := q
    refine ⟨_, rfl, fun h => (nomatch h), fun a' b' c' e => ?_⟩
    cases e
    refine o01 (a3 a b rfl) fun b1 b2 => ?_
    exact ⟨b1, by rw [em] at b2; rw [List.length_cons]; lia⟩
theorem run_tot {I : Inp} {N : Names} (nd : N.Nodup) (hPN : ∀ c ps, I.P c = some ps -> ∀ d ∈ ps, d ∈ N) : ∀ {n : Nat} {ls : List Rank} {fl : Fl} {cd : List Rank}, Tot N ls fl cd -> ls.length + misS N fl < n -> ∃ o, runM I n ls fl cd = some o /\ (o = none -> I.sh = false) /\ ∀ a b, o = some (a, b) -> b.length < 64 /\ ∀ r ∈ b, a r.2 ≠ none
 | 0, _, _, _, _, h => by lia
 | n + 1, ls, fl, cd, J, h => by
  rw [runM_eq]
  split
  ·rename_i hh
   induction ls using List.casesOn with
   | nil => exact No.ft hh
   | cons y ls =>
    refine o12 (turn_tot (I := I) nd hPN J) fun o a1 a2 a3 => ?_
    simp only [a1]
    induction o with
    | none => exact ⟨none, rfl, fun _ => a2 rfl, fun a b h => nomatch h⟩
    | some q =>
     obtain ⟨a, b, c⟩ := q
     refine o01 (a3 a b c rfl) fun b1 b2 => ?_
     exact run_tot nd hPN b1 (by lia)
  ·refine ⟨_, rfl, fun h => (nomatch h), fun a b e => ?_⟩
   cases e
   have := J.sz
   exact ⟨by lia, J.cds⟩
end Mine
namespace Mine
theorem ask_rel {I : Inp} {ls ls' : List Rank} {c : List UInt8} (h : askM I ls c = some (some ls')) : ls' = ins (rk I c) ls /\ (I.sh = false -> I.T c ≠ none) := by
 unfold askM at h
 split at h
 ·generalize hT : I.T c = zz; induction zz with
  | some t =>
   rw [hT] at h
   simp only [Option.some.injEq] at h
   refine ⟨?_, fun _ => nofun⟩
   rw [<- h]; unfold rk; rw [hT]
  | none =>
   rw [hT] at h
   generalize hs : I.sh = zz; induction zz with
   | false => rw [hs] at h; simp at h
   | true =>
    rw [hs] at h
    simp only [if_true, Option.some.injEq] at h
    refine ⟨?_, fun h => nomatch h⟩
    rw [<- h]; unfold rk; rw [hT]
 ·exact No.ns h
theorem ask_tot {I : Inp} {ls : List Rank} {c : List UInt8} (h : ls.length < 80000) : ∃ o, askM I ls c = some o /\ (o = none -> I.sh = false /\ I.T c = none) := by
 unfold askM
 rw [if_pos h]
 generalize hT : I.T c = zz; induction zz with
 | some t => exact ⟨_, rfl, fun h => nomatch h⟩
 | none =>
  generalize hs : I.sh = zz; induction zz with
  | false => exact ⟨none, rfl, fun _ => ⟨rfl, rfl⟩⟩
  | true => exact ⟨_, rfl, fun h => nomatch h⟩
noncomputable def Low (fl : Fl) : Prop := ∀ z, fl z = none \/ fl z = some 1 \/ fl z = some 2 \/ fl z = some 3
theorem Low.upd {fl : Fl} (h : Low fl) (c : List UInt8) : Low (updF fl c (bor ((fl c).getD 0) 2)) := fun z => by
 unfold updF
 split
 ·rcases h c with e | e | e | e <;> rw [e] <;> decide +kernel
 ·exact h z
theorem seed_rel {I : Inp} : ∀ (c2s : Names) {ls ls' : List Rank} {fl fl' : Fl}, Low fl -> seedM I c2s ls fl = some (some (ls', fl')) -> ls'.Perm (c2s.map (rk I) ++ ls) /\ (Sorted ls -> Sorted ls') /\ (∀ z, fl' z = if z ∈ c2s then some (bor (fv fl z) 2) else fl z) /\ (I.sh = false -> ∀ c ∈ c2s, I.T c ≠ none) /\ Low fl'
 | [], ls, ls', fl, fl', hl, e => by
  cases e
  exact ⟨List.Perm.refl _, id, fun z => by simp, fun _ c hc => (nomatch hc), hl⟩
 | c :: r, ls, ls', fl, fl', hl, e => by
  unfold seedM at e
  generalize ha : askM I ls c = zz; induction zz with
  | none => rw [ha] at e; exact No.ns e
  | some q =>
   rw [ha] at e
   induction q with
   | none => cases e
   | some l2 =>
    simp only at e
    refine o01 (ask_rel ha) ?_; rintro rfl hk
    refine o04 (seed_rel r (hl.upd c) e) fun e1 e2 e3 e4 e5 => ?_
    refine ⟨?_, fun h => e2 (ins_sorted _ h), fun z => ?_, fun hs c' hc' => ?_, e5⟩
    ·refine e1.trans ?_
     rw [List.map_cons, List.cons_append]
     exact ((ins_perm _ _).append_left _).trans List.perm_middle
    ·rw [e3 z]
     by_cases hz : z = c
     ·subst hz
      have hv : fv (updF fl z (bor ((fl z).getD 0) 2)) z = bor (fv fl z) 2 := by unfold fv; rw [upd_self]; rfl
      have idem : bor (bor (fv fl z) 2) 2 = bor (fv fl z) 2 := by
       unfold fv
       rcases hl z with h | h | h | h <;> rw [h] <;> decide +kernel
      rw [hv, idem, upd_self, if_pos List.mem_cons_self]
      unfold fv
      split <;> rfl
     ·have hv : fv (updF fl c (bor ((fl c).getD 0) 2)) z = fv fl z := by unfold fv; rw [upd_ne hz]
      rw [hv, upd_ne hz]
      by_cases hm : z ∈ r
      ·rw [if_pos hm, if_pos (List.mem_cons_of_mem _ hm)]
      ·rw [if_neg hm, if_neg fun h => (List.mem_cons.mp h).elim hz hm]
    ·rcases List.mem_cons.mp hc' with rfl | h
     ·exact hk hs
     ·exact e4 hs c' h
theorem seed_tot {I : Inp} : ∀ (c2s : Names) {ls : List Rank} {fl : Fl}, ls.length + c2s.length <= 80000 -> ∃ o, seedM I c2s ls fl = some o /\ (o = none -> I.sh = false /\ ∃ c ∈ c2s, I.T c = none)
 | [], ls, fl, h => ⟨_, rfl, fun h => nomatch h⟩
 | c :: r, ls, fl, h => by
  rw [List.length_cons] at h
  refine o11 (ask_tot (I := I) (ls := ls) (c := c) (by (first | lia | omega))) fun o a1 a2 => ?_
  unfold seedM
  rw [a1]
  induction o with
  | none => exact ⟨none, rfl, fun _ => ⟨(a2 rfl).1, c, List.mem_cons_self, (a2 rfl).2⟩⟩
  | some l2 =>
   refine o01 (ask_rel a1) ?_; rintro rfl _
   have hl : (ins (rk I c) ls).length = ls.length + 1 := by rw [(ins_perm _ _).length_eq]; rfl
   refine o11 (seed_tot (I := I) r (ls := ins (rk I c) ls) (fl := updF fl c (Builtin.bitOr ((fl c).getD 0) 2)) (by (first | lia | omega))) fun o b1 b2 => ?_
   exact ⟨o, b1, fun h => ⟨(b2 h).1, let ⟨c', m, e⟩ := (b2 h).2; ⟨c', List.mem_cons_of_mem _ m, e⟩⟩⟩
noncomputable abbrev fl0 (c1 : List UInt8) : Fl := updF (fun _ => none) c1 1
theorem low0 (c1 : List UInt8) : Low (fl0 c1) := fun z => by
 unfold fl0 updF
 split
 ·exact .inr (.inl rfl)
 ·exact .inl rfl
section
variable {I : Inp} {c1 : List UInt8} {c2s : Names} {l1 ls : List Rank} {fl : Fl}
theorem start_rel (h1 : askM I [] c1 = some (some l1)) (h2 : seedM I c2s l1 (fl0 c1) = some (some (ls, fl))) :
  ls.Perm (c2s.map (rk I) ++ [rk I c1]) /\ Sorted ls /\ (∀ z, fl z = if z ∈ c2s then some (if z = c1 then 3 else 2) else if z = c1 then some 1 else none) /\ (I.sh = false -> I.T c1 ≠ none /\ ∀ c ∈ c2s, I.T c ≠ none) := by
 refine o01 (ask_rel h1) ?_; rintro rfl k1
 refine o04 (seed_rel c2s (low0 c1) h2) fun e1 e2 e3 e4 e5 => ?_
 refine ⟨e1, e2 (ins_sorted _ .nil), fun z => ?_, fun hs => ⟨k1 hs, e4 hs⟩⟩
 rw [e3 z]
 unfold fv fl0 updF
 by_cases hz : z = c1
 ·rw [if_pos hz, if_pos hz]
  have : bor ((some 1 : Option Int).getD 0) 2 = 3 := by decide +kernel
  rw [this]
 ·rw [if_neg hz, if_neg hz]
  have : bor ((none : Option Int).getD 0) 2 = 2 := by decide +kernel
  rw [this]
theorem start_inv (h1 : askM I [] c1 = some (some l1)) (h2 : seedM I c2s l1 (fl0 c1) = some (some (ls, fl))) : Inv I c1 c2s ls fl [] := by
 refine o03 (start_rel h1 h2) fun pm so cf kn => ?_
 have hv : Vfl fl := fun x f e => by
  rw [cf x] at e
  split at e
  ·obtain rfl := Option.some.inj e
   split <;> decide +kernel
  ·split at e
   ·obtain rfl := Option.some.inj e; decide +kernel
   ·exact No.ns e
 have hent : ∀ x, fl x ≠ none -> rk I x ∈ ls := fun x h => by
  refine pm.mem_iff.mpr (List.mem_append.mpr ?_)
  rw [cf x] at h
  by_cases hm : x ∈ c2s
  ·exact .inl (List.mem_map_of_mem hm)
  ·rw [if_neg hm] at h
   by_cases hz : x = c1
   ·exact .inr (by rw [hz]; exact List.mem_singleton.mpr rfl)
   ·rw [if_neg hz] at h; exact absurd rfl h
 have not : ∀ {i : Int} {p : Prop}, ¬ has i 3 -> ¬ has i 2 -> ¬ has i 1 -> ¬ has i 0 -> ∀ x, has i (fv fl x) -> p := fun {i p} a b c d x h => by
  exfalso
  unfold fv at h
  rw [cf x] at h
  by_cases hm : x ∈ c2s
  ·rw [if_pos hm] at h
   by_cases hz : x = c1
   ·rw [if_pos hz] at h; exact a h
   ·rw [if_neg hz] at h; exact b h
  ·rw [if_neg hm] at h
   by_cases hz : x = c1
   ·rw [if_pos hz] at h; exact c h
   ·rw [if_neg hz] at h; exact d h
 refine ⟨hv, so, fun r hr => ?_, fun x h => ?_, fun x h => ?_, fun x h => not (i := 4) (by decide +kernel) (by decide +kernel) (by decide +kernel) (by decide +kernel) x h, fun x f _ e => .inl (hent x (by rw [e]; exact nofun)), fun hs x h => ?_, fun x f e h => ?_, fun x f e _ => .inl (hent x (by rw [e]; exact nofun)), fun y hy => (nomatch hy), ?_, fun c hc => ?_⟩
 ·have : ∀ z, fl z ≠ none ↔ z ∈ c2s \/ z = c1 := fun z => by
   rw [cf z]
   by_cases hm : z ∈ c2s
   ·simp [hm]
   ·by_cases hz : z = c1
    ·rw [if_neg hm, if_pos hz]; exact ⟨fun _ => .inr hz, fun _ => nofun⟩
    ·simp [hm, hz]
  rcases List.mem_append.mp (pm.mem_iff.mp hr) with h | h
  ·refine o11 (List.mem_map.mp h) ?_; rintro c hc rfl
   exact ⟨rfl, (this c).mpr (.inl hc)⟩
  ·rw [List.mem_singleton.mp h]
   exact ⟨rfl, (this c1).mpr (.inr rfl)⟩
 ·have hz : x = c1 := by
   by_cases hz : x = c1
   ·exact hz
   ·exfalso
    unfold fv at h
    rw [cf x, if_neg hz, if_neg hz] at h
    split at h <;> revert h <;> decide +kernel
  exact ⟨c1, List.mem_singleton.mpr rfl, by rw [hz]; exact .here trivial⟩
 ·have hm : x ∈ c2s := by
   by_cases hm : x ∈ c2s
   ·exact hm
   ·exfalso
    unfold fv at h
    rw [cf x, if_neg hm] at h
    split at h <;> revert h <;> decide +kernel
  exact ⟨x, hm, .here trivial⟩
 ·refine o01 (kn hs) fun a b => ?_
  rw [cf x] at h
  by_cases hm : x ∈ c2s
  ·exact b x hm
  ·rw [if_neg hm] at h
   by_cases hz : x = c1
   ·rw [hz]; exact a
   ·rw [if_neg hz] at h; exact absurd rfl h
 ·exact not (i := 8) (by decide +kernel) (by decide +kernel) (by decide +kernel) (by decide +kernel) x (by unfold fv; rw [e]; exact h)
 ·unfold fv
  rw [cf c1]
  by_cases hm : c1 ∈ c2s
  ·rw [if_pos hm, if_pos rfl]; decide +kernel
  ·rw [if_neg hm, if_pos rfl]; decide +kernel
 ·unfold fv
  rw [cf c, if_pos hc]
  split <;> decide +kernel
theorem start_tot {N : Names} (h1 : askM I [] c1 = some (some l1)) (h2 : seedM I c2s l1 (fl0 c1) = some (some (ls, fl))) (hl : N.length <= 18) (hc1 : c1 ∈ N) (hc2 : ∀ c ∈ c2s, c ∈ N) (hl2 : c2s.length <= 2) : Tot N ls fl [] := by
 have J := start_inv h1 h2
 refine o01 (start_rel h1 h2) fun pm _ => ?_
 refine ⟨J.vf, fun r hr => ⟨?_, (J.rkk r hr).2⟩, fun r hr => (nomatch hr), ?_⟩
 ·rcases List.mem_append.mp (pm.mem_iff.mp hr) with h | h
  ·refine o11 (List.mem_map.mp h) ?_; rintro c hc rfl
   exact hc2 c hc
  ·rw [List.mem_singleton.mp h]; exact hc1
 ·have := pm.length_eq
  simp only [List.length_append, List.length_map, List.length_cons, List.length_nil] at this ⊢
  have := misS_le N fl
  lia
end
theorem lcas_tot {I : Inp} {N : Names} {c1 : List UInt8} {c2s : Names} (nd : N.Nodup) (hPN : ∀ c ps, I.P c = some ps -> ∀ d ∈ ps, d ∈ N) (hl : N.length <= 18) (hc1 : c1 ∈ N) (hc2 : ∀ c ∈ c2s, c ∈ N) (hl2 : c2s.length <= 2) :
  (∃ o, lcasM I 1000 c1 c2s = some o /\ (o = none -> I.sh = false /\ (I.T c1 = none \/ (∃ c ∈ c2s, I.T c = none) \/ tornN I c1 c2s))) /\
  ∀ l1 ls fl fl' cd, askM I [] c1 = some (some l1) -> seedM I c2s l1 (updF (fun _ => none) c1 1) = some (some (ls, fl)) -> runM I 1000 ls fl [] = some (some (fl', cd)) -> cd.length < 64 := by
 have run : ∀ l1 ls fl, askM I [] c1 = some (some l1) -> seedM I c2s l1 (updF (fun _ => none) c1 1) = some (some (ls, fl)) -> ∃ o, runM I 1000 ls fl [] = some o /\ (o = none -> I.sh = false) /\ ∀ a b, o = some (a, b) -> b.length < 64 /\ ∀ r ∈ b, a r.2 ≠ none := fun l1 ls fl h1 h2 => by
  have T := start_tot h1 h2 hl hc1 hc2 hl2
  have := T.sz
  exact run_tot nd hPN T (by lia)
 refine ⟨?_, fun l1 ls fl fl' cd h1 h2 h3 => ?_⟩
 ·refine o11 (ask_tot (I := I) (ls := []) (c := c1) (by simp)) fun o a1 a2 => ?_
  unfold lcasM
  rw [a1]
  induction o with
  | none => exact ⟨none, rfl, fun _ => ⟨(a2 rfl).1, .inl (a2 rfl).2⟩⟩
  | some l1 =>
   simp only
   have hll : l1.length = 1 := by
    refine o01 (ask_rel a1) ?_; rintro rfl _
    rfl
   refine o11 (seed_tot (I := I) c2s (ls := l1) (fl := updF (fun _ => none) c1 1) (by (first | lia | omega))) fun o b1 b2 => ?_
   rw [b1]
   induction o with
   | none => exact ⟨none, rfl, fun _ => ⟨(b2 rfl).1, .inr (.inl (b2 rfl).2)⟩⟩
   | some q =>
    obtain ⟨ls, fl⟩ := q
    simp only
    refine o12 (run l1 ls fl a1 b1) fun o r1 r2 r3 => ?_
    rw [r1]
    induction o with
    | none => exact ⟨none, rfl, fun _ => ⟨r2 rfl, .inr (.inr (run_inv (start_inv a1 b1) r1))⟩⟩
    | some q =>
     obtain ⟨fl', cd⟩ := q
     refine o01 (r3 fl' cd rfl) fun _ all => ?_
     simp only
     rw [if_pos (by
      rw [List.all_eq_true]
      intro y hy
      exact Option.isSome_iff_ne_none.mpr (all y hy))]
     exact ⟨_, rfl, fun h => nomatch h⟩
 ·refine o12 (run l1 ls fl h1 h2) fun o r1 _ r3 => ?_
  rw [r1] at h3
  exact (r3 fl' cd (Option.some.inj h3)).1
end Mine
namespace Mine
structure Sim (φ : Int -> Int) : Prop where
 z : φ 0 = 0
 sup : ∀ f c, V0 f -> Vc c -> (band (φ f) (φ c) = φ c ↔ band f c = c)
 orr : ∀ f c, V0 f -> Vc c -> band f c ≠ c -> bor (φ f) (φ c) = φ (bor f c)
 m3 : ∀ f, Vf f -> (band (φ f) 7 = 3 ↔ band f 7 = 3)
 m8 : ∀ f, Vf f -> (band (φ f) 8 = 8 ↔ band f 8 = 8)
 o8 : ∀ f, Vf f -> bor (φ f) 8 = φ (bor f 8)
 flg : ∀ f, Vf f -> flagM (φ f) = φ (flagM f)
 m4 : ∀ f, V0 f -> (band (φ f) 4 = 4 ↔ band f 4 = 4)
theorem sim_id : Sim id := ⟨rfl, fun _ _ _ _ => Iff.rfl, fun _ _ _ _ _ => rfl, fun _ _ => Iff.rfl, fun _ _ => Iff.rfl, fun _ _ => rfl, fun _ _ => rfl, fun _ _ => Iff.rfl⟩
noncomputable def sw (f : Int) : Int := if f = 1 then 2 else if f = 2 then 1 else if f = 9 then 10 else if f = 10 then 9 else f
theorem sim_sw : Sim sw where
 z := by decide +kernel
 sup := fun f c h hc => (by decide +kernel : ∀ f ∈ VL0, ∀ c ∈ CL, band (sw f) (sw c) = sw c ↔ band f c = c) f h c hc
 orr := fun f c h hc hn => (by decide +kernel : ∀ f ∈ VL0, ∀ c ∈ CL, band f c ≠ c -> bor (sw f) (sw c) = sw (bor f c)) f h c hc hn
 m3 := fun f h => (by decide +kernel : ∀ f ∈ VL, band (sw f) 7 = 3 ↔ band f 7 = 3) f h
 m8 := fun f h => (by decide +kernel : ∀ f ∈ VL, band (sw f) 8 = 8 ↔ band f 8 = 8) f h
 o8 := fun f h => (by decide +kernel : ∀ f ∈ VL, bor (sw f) 8 = sw (bor f 8)) f h
 flg := fun f h => (by decide +kernel : ∀ f ∈ VL, flagM (sw f) = sw (flagM f)) f h
 m4 := fun f h => (by decide +kernel : ∀ f ∈ VL0, band (sw f) 4 = 4 ↔ band f 4 = 4) f h
noncomputable def mapF (φ : Int -> Int) (fl : Fl) : Fl := fun z => (fl z).map φ
theorem map_upd (φ : Int -> Int) (fl : Fl) (c : List UInt8) (f : Int) : mapF φ (updF fl c f) = updF (mapF φ fl) c (φ f) := by
 funext z
 unfold mapF updF
 split <;> rfl
theorem map_fv {φ : Int -> Int} (h : Sim φ) (fl : Fl) (c : List UInt8) : ((mapF φ fl) c).getD 0 = φ ((fl c).getD 0) := by
 unfold mapF
 cases fl c with
 | none => exact h.z.symm
 | some f => rfl
section
variable {φ : Int -> Int} (H : Sim φ) {I : Inp} (hs : I.sh = false)
include H hs
theorem par_sim {cf : Int} (hc : Vc cf) : ∀ (ps : Names) {ls ls' : List Rank} {fl fl' : Fl}, Vfl fl -> parM I cf ps ls fl = some (some (ls', fl')) -> parM { I with sh := true } (φ cf) ps ls (mapF φ fl) = some (some (ls', mapF φ fl'))
 | [], ls, ls', fl, fl', hv, e => by rw [parM_nil] at e; cases e; rfl
 | c :: r, ls, ls', fl, fl', hv, e => by
  rw [parM_eq] at e ⊢
  rw [map_fv H]
  have h0 : band (φ ((fl c).getD 0)) (φ cf) = φ cf ↔ band ((fl c).getD 0) cf = cf := H.sup _ _ (hv.v0 c) hc
  by_cases h1 : band ((fl c).getD 0) cf = cf
  ·rw [if_pos h1] at e
   rw [if_pos (h0.mpr h1)]
   exact par_sim hc r hv e
  ·rw [if_neg h1] at e
   rw [if_neg fun q => h1 (h0.mp q)]
   generalize hT : I.T c = zz; induction zz with
   | none =>
    rw [hT, hs] at e
    simp at e
   | some t =>
    rw [hT] at e
    simp only at e ⊢
    by_cases h2 : t < I.ms
    ·rw [if_pos h2] at e
     rw [if_pos h2]
     exact par_sim hc r hv e
    ·rw [if_neg h2] at e
     rw [if_neg h2]
     by_cases h3 : ls.length < 80000
     ·rw [if_pos h3] at e
      rw [if_pos h3]
      have := par_sim hc r (hv.upd (or_valid (hv.v0 c) hc h1)) e
      rw [map_upd] at this
      rw [<- this]
      have e2 := H.orr _ _ (hv.v0 c) hc h1
      show parM _ _ _ _ (updF (mapF φ fl) c (bor (φ (fv fl c)) (φ cf))) = _
      rw [e2]
     ·rw [if_neg h3] at e; exact No.ns e
omit hs in
theorem mark_sim {y : Rank} {f : Int} {fl : Fl} {cd : List Rank} (hf : Vf f) : markM y (φ f) (mapF φ fl) cd = (mapF φ (markM y f fl cd).1, (markM y f fl cd).2) := by
 unfold markM
 have a := H.m3 f hf
 have b := H.m8 f hf
 by_cases h : Builtin.bitAnd f 7 = 3 /\ Builtin.bitAnd f 8 ≠ 8
 ·rw [if_pos h, if_pos ⟨a.mpr h.1, fun q => h.2 (b.mp q)⟩]
  show (_, _) = (mapF φ (updF fl y.2 (bor f 8)), _)
  rw [map_upd, <- H.o8 f hf]
 ·rw [if_neg h, if_neg fun q => h ⟨a.mp q.1, fun p => q.2 (b.mpr p)⟩]
omit hs in
theorem hasC_sim {ls : List Rank} {fl : Fl} (hv : Vfl fl) : hasC ls (mapF φ fl) = hasC ls fl := by
 unfold hasC
 congr 1
 funext y
 unfold isCand mapF
 generalize e : fl y.2 = zz; induction zz with
 | none => rfl
 | some f =>
  show (!(Builtin.bitAnd (φ f) 4 == 4)) = !(Builtin.bitAnd f 4 == 4)
  have := H.m4 f (v0_of (hv y.2 f e))
  congr 1
  rw [Bool.eq_iff_iff]
  simpa using this
theorem turn_sim {ls a : List Rank} {fl b : Fl} {cd c : List Rank} (hv : Vfl fl) (e : turnM I ls fl cd = some (some (a, b, c))) : turnM { I with sh := true } ls (mapF φ fl) cd = some (some (a, mapF φ b, c)) /\ Vfl b := by
 induction ls using List.casesOn with
 | nil => simp [turnM] at e
 | cons y ls =>
  generalize hf : fl y.2 = zz; induction zz with
  | none => simp only [turnM, hf] at e; exact No.ns e
  | some f =>
   have vff := hv y.2 f hf
   rw [turnM_eq hf] at e
   rw [turnM_eq (f := φ f) (by unfold mapF; rw [hf]; rfl)]
   have vm : Vfl (markM y f fl cd).1 := by
    unfold markM; split
    ·exact hv.upd (or8_valid vff)
    ·exact hv
   split at e
   ·rename_i hcl
    rw [if_pos hcl]
    generalize hP : I.P y.2 = zz; induction zz with
    | none => rw [hP, hs] at e; simp at e
    | some ps =>
     rw [hP] at e
     simp only at e ⊢
     generalize hp : parM I (flagM f) ps ls (markM y f fl cd).1 = zz; induction zz with
     | none => rw [hp] at e; exact No.ns e
     | some q =>
      rw [hp] at e
      induction q with
      | none => cases e
      | some q =>
       obtain ⟨a', b'⟩ := q
       simp only [Option.some.injEq, Prod.mk.injEq] at e
       refine o02 e ?_; rintro rfl rfl rfl
       have := par_sim H hs (cf_valid vff) ps vm hp
       refine ⟨?_, (par_rel (cf_valid vff) ps vm hp).2⟩
       rw [mark_sim H vff, H.flg f vff]
       simp only [this]
   ·exact No.ns e
theorem run_sim : ∀ {n : Nat} {ls : List Rank} {fl b : Fl} {cd c : List Rank}, Vfl fl -> runM I n ls fl cd = some (some (b, c)) -> runM { I with sh := true } n ls (mapF φ fl) cd = some (some (mapF φ b, c)) /\ Vfl b
 | 0, _, _, _, _, _, _, e => nomatch e
 | n + 1, ls, fl, b, cd, c, hv, e => by
  rw [runM_eq] at e ⊢
  rw [hasC_sim H hv]
  split at e
  ·rename_i hh
   rw [if_pos hh]
   generalize ht : turnM I ls fl cd = zz; induction zz with
   | none => rw [ht] at e; exact No.ns e
   | some q =>
    rw [ht] at e
    induction q with
    | none => cases e
    | some q =>
     obtain ⟨a1, b1, c1⟩ := q
     refine o01 (turn_sim H hs hv ht) fun h1 h2 => ?_
     rw [h1]
     exact run_sim h2 e
  ·rename_i hh
   rw [if_neg hh]
   cases e
   exact ⟨rfl, hv⟩
omit hs in
theorem res_sim {fl : Fl} {cd : List Rank} (hv : Vfl fl) : resM (mapF φ fl) cd = resM fl cd := by
 unfold resM
 congr 1
 funext a y
 rw [map_fv H]
 have := H.m4 _ (hv.v0 y.2)
 by_cases h : Builtin.bitAnd ((fl y.2).getD 0) 4 = 4
 ·rw [if_neg (fun q => q.1 (this.mpr h)), if_neg (fun q => q.1 h)]
 ·by_cases h2 : y ∈ a
  ·rw [if_neg fun q => q.2 h2, if_neg fun q => q.2 h2]
  ·rw [if_pos ⟨fun q => h (this.mp q), h2⟩, if_pos ⟨h, h2⟩]
end
theorem sorted_perm : ∀ {a b : List Rank}, Sorted a -> Sorted b -> a.Perm b -> a = b := fun ha hb p =>
 List.Perm.eq_of_pairwise (fun _ _ _ _ h1 h2 => rle_antisymm h1 h2) ha hb p
theorem swap_same {I : Inp} (hs : I.sh = false) {c1 b1 : List UInt8} {c2s b2s : Names} {told again : Names}
  (hab : (b1 = c1 /\ b2s.Perm c2s) \/ (c2s = [b1] /\ b2s = [c1]))
  (h1 : LcasOut I c1 c2s (some told)) (h2 : LcasOut { I with sh := true } b1 b2s (some again)) : told.Perm again := by
 obtain ⟨l1, ls, fl, fl', cd, r, a1, a2, a3, a4, _, rfl⟩ := h1
 obtain ⟨m1, ms, gl, gl', dd, q, d1, d2, d3, d4, _, rfl⟩ := h2
 refine o03 (start_rel a1 a2) fun p1 s1 f1 _ => ?_
 refine o03 (start_rel d1 d2) fun p2 s2 f2 _ => ?_
 have erk : rk { I with sh := true } = rk I := rfl
 rw [erk] at p2
 have hv := (start_inv a1 a2).vf
 have key : ∃ φ, Sim φ /\ ms.Perm ls /\ gl = mapF φ fl := by
  rcases hab with ⟨rfl, hp⟩ | ⟨rfl, rfl⟩
  ·refine ⟨id, sim_id, p2.trans (((hp.map (rk I)).append_right _).trans p1.symm), funext fun z => ?_⟩
   have : mapF id fl z = fl z := by unfold mapF; simp
   rw [this, f1 z, f2 z]
   have : z ∈ b2s ↔ z ∈ c2s := hp.mem_iff
   by_cases hz : z ∈ c2s
   ·rw [if_pos hz, if_pos (this.mpr hz)]
   ·rw [if_neg hz, if_neg fun q => hz (this.mp q)]
  ·refine ⟨sw, sim_sw, p2.trans ((List.Perm.swap _ _ []).trans p1.symm), funext fun z => ?_⟩
   unfold mapF
   rw [f1 z, f2 z]
   simp only [List.mem_singleton]
   by_cases h1 : z = c1
   ·by_cases h2 : z = b1
    ·simp only [if_pos h1, if_pos h2]; rfl
    ·simp only [if_pos h1, if_neg h2]; rfl
   ·by_cases h2 : z = b1
    ·simp only [if_neg h1, if_pos h2]; rfl
    ·simp only [if_neg h1, if_neg h2]; rfl
 refine o12 key ?_; rintro φ H pm rfl
 rw [sorted_perm s2 s1 pm] at d3
 refine o01 (run_sim H hs hv a3) fun b1 b2 => ?_
 rw [b1] at d3
 simp only [Option.some.injEq, Prod.mk.injEq] at d3
 refine o01 d3 ?_; rintro rfl rfl
 rw [res_sim H b2] at d4
 exact (a4.trans d4.symm).map _
end Mine
namespace Mine
theorem mem_res {fl : Fl} {cd : List Rank} : (∀ y, y ∈ resM fl cd ↔ y ∈ cd /\ ¬ has 4 (fv fl y.2)) /\ (resM fl cd).Nodup := by
 have key : ∀ (l a : List Rank), a.Nodup -> (∀ y ∈ a, ¬ has 4 (fv fl y.2)) -> (∀ y, y ∈ l.foldl (fun a y => if Builtin.bitAnd ((fl y.2).getD 0) 4 ≠ 4 /\ y ∉ a then a ++ [y] else a) a ↔ y ∈ a \/ (y ∈ l /\ ¬ has 4 (fv fl y.2))) /\ (l.foldl (fun a y => if Builtin.bitAnd ((fl y.2).getD 0) 4 ≠ 4 /\ y ∉ a then a ++ [y] else a) a).Nodup := by
  intro l
  induction l with
  | nil => exact fun a h _ => ⟨fun y => by simp, h⟩
  | cons x r ih =>
   intro a nd ha
   rw [List.foldl_cons]
   by_cases h : Builtin.bitAnd ((fl x.2).getD 0) 4 ≠ 4 /\ x ∉ a
   ·rw [if_pos h]
    refine o01 (ih (a ++ [x]) (List.nodup_append.mpr ⟨nd, by simp, fun p hp q hq => by rw [List.mem_singleton.mp hq]; exact fun e => h.2 (e ▸ hp)⟩) (fun y hy => by
     rcases List.mem_append.mp hy with hy | hy
     ·exact ha y hy
     ·rw [List.mem_singleton.mp hy]; exact h.1)) fun i1 i2 => ?_
    refine ⟨fun y => (i1 y).trans ⟨fun q => ?_, fun q => ?_⟩, i2⟩
    ·rcases q with q | ⟨q, q'⟩
     ·rcases List.mem_append.mp q with q | q
      ·exact .inl q
      ·rw [List.mem_singleton.mp q]; exact .inr ⟨List.mem_cons_self, h.1⟩
     ·exact .inr ⟨List.mem_cons_of_mem _ q, q'⟩
    ·rcases q with q | ⟨q, q'⟩
     ·exact .inl (List.mem_append_left _ q)
     ·rcases List.mem_cons.mp q with rfl | q
      ·exact .inl (List.mem_append_right _ List.mem_cons_self)
      ·exact .inr ⟨q, q'⟩
   ·rw [if_neg h]
    refine o01 (ih a nd ha) fun i1 i2 => ?_
    refine ⟨fun y => (i1 y).trans ⟨fun q => ?_, fun q => ?_⟩, i2⟩
    ·rcases q with q | ⟨q, q'⟩
     ·exact .inl q
     ·exact .inr ⟨List.mem_cons_of_mem _ q, q'⟩
    ·rcases q with q | ⟨q, q'⟩
     ·exact .inl q
     ·rcases List.mem_cons.mp q with rfl | q
      ·left
       by_cases hm : y ∈ a
       ·exact hm
       ·exact absurd ⟨q', hm⟩ h
      ·exact .inr ⟨q, q'⟩
 refine o01 (key cd [] List.nodup_nil (fun y hy => (nomatch hy))) fun a b => ?_
 exact ⟨fun y => (a y).trans (by simp), b⟩
structure Fin (I : Inp) (c1 : List UInt8) (c2s : Names) (R : List Rank) : Prop where
 tm : ∀ y ∈ R, y.1 = -(rk I y.2).1
 both : ∀ y ∈ R, bothN I c1 c2s y.2 /\ ¬ passedN I c1 c2s y.2
 full : ∀ x, bothN I c1 c2s x -> ¬ belowN I c1 c2s x -> (-(rk I x).1, x) ∈ R
 anti : ∀ y ∈ R, ∀ z ∈ R, ¬ edge I y.2 z.2
 sure : I.sh = false -> ∀ x, fromS I anyN [c1] x \/ fromS I anyN c2s x -> ¬ belowN I c1 c2s x -> ∃ ps, I.P x = some ps /\ ∀ y ∈ ps, I.T y ≠ none
 nd : R.Nodup
theorem below_step {I : Inp} {c1 : List UInt8} {c2s : Names} {b c : List UInt8} (e : edge I b c) (h : ¬ belowN I c1 c2s c) : ¬ belowN I c1 c2s b := fun ⟨_, ⟨m1, m2⟩, em⟩ => h ⟨b, ⟨m1.step em trivial, m2.step em trivial⟩, e⟩
theorem run_fin {I : Inp} {c1 : List UInt8} {c2s : Names} {ls : List Rank} {fl : Fl} {cd : List Rank} (J : Inv I c1 c2s ls fl cd) (hc : hasC ls fl = false) : Fin I c1 c2s (resM fl cd) := by
 refine o01 (mem_res (fl := fl) (cd := cd)) fun m1 m2 => ?_
 have inl : ∀ x f, fl x = some f -> rk I x ∈ ls -> has 4 f := fun x f hf h => by
  unfold hasC at hc
  rw [List.any_eq_false] at hc
  have := hc _ h
  unfold isCand at this
  have e2 : (rk I x).2 = x := rfl
  rw [e2, hf] at this
  have h4 : (Builtin.bitAnd f 4 == 4) = true := by
   generalize q : (Builtin.bitAnd f 4 == 4) = zz; induction zz with
   | true => rfl
   | false =>
    have this : ¬ (!(Builtin.bitAnd f 4 == 4)) = true := this
    rw [q] at this; exact absurd rfl this
  exact of_decide_eq_true h4
 have clos : ∀ x f, fl x = some f -> ¬ has 4 f -> (∀ y, edge I x y -> band (fv fl y) (flagM f) = flagM f) /\ (I.sh = false -> ∃ ps, I.P x = some ps /\ ∀ y ∈ ps, I.T y ≠ none) := fun x f hf h4 => (J.cl x f (fun h => h) hf).resolve_left fun h => h4 (inl x f hf h)
 have reach : ∀ {i : Int} {S : Names}, (i = 1 \/ i = 2) -> (∀ a ∈ S, has i (fv fl a)) -> ∀ x, fromS I anyN S x -> ¬ belowN I c1 c2s x -> has i (fv fl x) := by
  intro i S hi hS x ⟨a, ha, r⟩
  induction r with
  | here _ => exact fun _ => hS a ha
  | step r e hp ih =>
   rename_i b c
   intro hb
   have hb' := below_step e hb
   have h1 := ih hb'
   refine o11 (fv_some (by rcases hi with h | h <;> simp [h]) h1) fun f ef evf => ?_
   have h4 : ¬ has 4 f := fun h => hb' (J.b4 b (by rw [evf]; exact h))
   have vff := J.vf b f ef
   refine o02 ((sup_iff (J.vf.v0 c) (cf_valid vff)).mp ((clos b f ef h4).1 c e)) fun k1 k2 k4 => ?_
   rw [evf] at h1
   rcases hi with rfl | rfl
   ·exact k1 ((flag_has vff).1.mpr h1)
   ·exact k2 ((flag_has vff).2.1.mpr h1)
 have r1 := reach (i := 1) (S := [c1]) (.inl rfl) (fun a ha => by rw [List.mem_singleton.mp ha]; exact J.s1)
 have r2 := reach (i := 2) (S := c2s) (.inr rfl) J.s2
 refine ⟨fun y hy => (J.cdo y ((m1 y).mp hy).1).1, fun y hy => let ⟨_, a, b, _⟩ := J.cdo y ((m1 y).mp hy).1; ⟨a, b⟩, fun x hb hn => ?_, fun y hy z hz e => ?_, fun hs x hx hn => ?_, m2⟩
 ·have h1 := r1 x hb.1 hn
  have h2 := r2 x hb.2 hn
  refine o11 (fv_some (.inl rfl) h1) fun f ef evf => ?_
  have vff := J.vf x f ef
  have h4 : ¬ has 4 f := fun h => hn (J.b4 x (by rw [evf]; exact h))
  rw [evf] at h1 h2
  have h8 := (J.c3 x f ef ((core3 vff).mpr ⟨h1, h2, h4⟩)).resolve_left fun h => h4 (inl x f ef h)
  exact (m1 _).mpr ⟨J.c8 x f ef h8, by show ¬ has 4 (fv fl x); rw [evf]; exact h4⟩
 ·refine o01 ((m1 y).mp hy) fun a1 a4 => ?_
  refine o01 ((m1 z).mp hz) fun _ b4 => ?_
  refine o04 (J.cdo y a1) fun _ _ _ h1 h2 => ?_
  refine o11 (fv_some (.inl rfl) h1) fun f ef evf => ?_
  have vff := J.vf y.2 f ef
  rw [evf] at h1 h2 a4
  refine o02 ((sup_iff (J.vf.v0 z.2) (cf_valid vff)).mp ((clos y.2 f ef a4).1 z.2 e)) fun _ _ k4 => ?_
  exact b4 (k4 ((flag_has vff).2.2.mpr ⟨h1, h2⟩))
 ·have : ∃ f, fl x = some f /\ ¬ has 4 f := by
   rcases hx with hx | hx
   ·refine o11 (fv_some (.inl rfl) (r1 x hx hn)) fun f ef evf => ?_
    exact ⟨f, ef, fun h => hn (J.b4 x (by rw [evf]; exact h))⟩
   ·refine o11 (fv_some (.inr (.inl rfl)) (r2 x hx hn)) fun f ef evf => ?_
    exact ⟨f, ef, fun h => hn (J.b4 x (by rw [evf]; exact h))⟩
  refine o11 this fun f ef h4 => ?_
  exact (clos x f ef h4).2 hs
theorem rlt_of_rle {a b : Rank} (h : rle a b) (n : a.2 ≠ b.2) : rankLt a b = true := by
 generalize q : rankLt a b = zz; induction zz with
 | true => rfl
 | false => exact absurd (congrArg Prod.snd (rle_antisymm h q)) n
theorem rle_lt_trans {a b c : Rank} (h : rle a b) (k : rankLt b c = true) : rankLt a c = true := by
 generalize q : rankLt a c = zz; induction zz with
 | true => rfl
 | false =>
  have : rle c b := rle_trans (x := c) (y := a) (z := b) q h
  unfold rle at this
  rw [k] at this; exact No.tf this
theorem passed_below {I : Inp} {c1 : List UInt8} {c2s : Names} (ix : List UInt8 -> Nat) (hix : ∀ x y, edge I x y -> ix y < ix x) (hl : ∀ x y, fromS I anyN [c1] x \/ fromS I anyN c2s x -> edge I x y -> rle (rk I x) (rk I y)) {x : List UInt8} (h : belowN I c1 c2s x) : passedN I c1 c2s x := by
 refine o11 h ?_; rintro m ⟨m1, m2⟩ e
 have hm : rankLt (rk I m) (rk I x) = true := rlt_of_rle (hl m x (.inl m1) e) fun q => by
  have q : m = x := q
  have := hix m x e
  rw [q] at this; lia
 have key : ∀ S, (∀ z, fromS I anyN S z -> fromS I anyN [c1] z \/ fromS I anyN c2s z) -> fromS I anyN S m -> fromS I (fun z => rankLt (rk I z) (rk I x) = true) S m := fun S hS hr => by
  refine o11 hr fun a ha r => ?_
  clear hr
  refine ⟨a, ha, ?_⟩
  clear e
  have hxm := hm
  revert hxm
  clear hm m1 m2
  induction r with
  | here _ => exact fun h => .here h
  | step r e hp ih =>
   rename_i b c
   exact fun h => .step (ih (rle_lt_trans (hl b c (hS b ⟨a, ha, r⟩) e) h)) e h
 exact ⟨m, e, key [c1] (fun _ => .inl) m1, key c2s (fun _ => .inr) m2⟩
end Mine
namespace Mine
theorem nat_pp (a b : Nat) : Builtin.bitAnd (a : Int) (b : Int) = ((a &&& b : Nat) : Int) := by
 rw [bitAnd_pp (by lia) (by lia)]; simp
theorem nat_or (a b : Nat) : Builtin.bitOr (a : Int) (b : Int) = ((a ||| b : Nat) : Int) := by
 rw [bitOr_and, nat_pp]
 have := nat_or_add_and a b
 lia
theorem nat_diff (a b : Nat) : Builtin.bitAnd (a : Int) (Builtin.bitNot (b : Int)) = ((a ^^^ (a &&& b) : Nat) : Int) := by
 rw [bitAnd_not, nat_pp]
 have h := nat_or_add_and (a &&& b) (a ^^^ (a &&& b))
 have h1 : (a &&& b) ||| (a ^^^ (a &&& b)) = a := by
  apply Nat.eq_of_testBit_eq
  intro i
  simp only [Nat.testBit_or, Nat.testBit_and, Nat.testBit_xor]
  cases a.testBit i <;> cases b.testBit i <;> rfl
 have h2 : (a &&& b) &&& (a ^^^ (a &&& b)) = 0 := by
  apply Nat.eq_of_testBit_eq
  intro i
  simp only [Nat.testBit_and, Nat.testBit_xor, Nat.zero_testBit]
  cases a.testBit i <;> cases b.testBit i <;> rfl
 rw [h1, h2] at h
 omega
theorem diff_bit (a b i : Nat) : (a ^^^ (a &&& b)).testBit i = (a.testBit i && !b.testBit i) := by
 simp only [Nat.testBit_and, Nat.testBit_xor]
 cases a.testBit i <;> cases b.testBit i <;> rfl
theorem bit_val (m k : Nat) : Builtin.bitAnd ((m : Int).fdiv (2 ^ k)) 1 = if m.testBit k then 1 else 0 := by
 rw [bitAnd_m1, Int.fdiv_eq_ediv_of_nonneg _ (by exact Int.pow_nonneg (by decide))]
 have e : ((m : Int) / 2 ^ k) % 2 = ((m / 2 ^ k % 2 : Nat) : Int) := by push_cast; rfl
 rw [e, Nat.testBit_eq_decide_div_mod_eq]
 have : m / 2 ^ k % 2 = 0 \/ m / 2 ^ k % 2 = 1 := by lia
 rcases this with h | h <;> rw [h] <;> rfl
theorem bit_one (m k : Nat) : Builtin.bitAnd ((m : Int).fdiv (2 ^ k)) 1 = 1 ↔ m.testBit k = true := by
 rw [bit_val]
 cases m.testBit k <;> simp
theorem pow_cast (k : Nat) : (1 * 2 ^ k : Int) = ((2 ^ k : Nat) : Int) := by simp
theorem pow_cast' (k : Nat) : (2 ^ k : Int) = ((2 ^ k : Nat) : Int) := by simp
theorem pow_bit (k j : Nat) : (2 ^ k).testBit j = true ↔ j = k := by
 rw [Nat.testBit_two_pow]
 simp [eq_comm]
structure RdsOk (roads : List Int) (n : Nat) (R : Nat -> Nat -> Prop) : Prop where
 len : roads.length = n
 get : ∀ k, k < n -> ∃ m : Nat, roads.getD k 0 = m /\ ∀ j, m.testBit j = true ↔ R k j
 lt : ∀ k j, R k j -> j < k /\ k < n
inductive RdN (R : Nat -> Nat -> Prop) (p : Nat -> Prop) (a : Nat) : Nat -> Prop
 | here : p a -> RdN R p a a
 | step {b c} : RdN R p a b -> R b c -> p c -> RdN R p a c
section
variable {roads : List Int} {n : Nat} {R : Nat -> Nat -> Prop} (hR : RdsOk roads n R)
include hR
theorem next_spec (f : Nat) : ∃ m : Nat, nextF f roads = m /\ ∀ j, m.testBit j = true ↔ ∃ k, f.testBit k = true /\ R k j := by
 unfold nextF
 rw [hR.len]
 have key : ∀ k, k <= n -> ∃ m : Nat, (List.range k).foldl (fun out k => if Builtin.bitAnd ((f : Int).fdiv (2 ^ k)) 1 = 1 then Builtin.bitOr out (roads.getD k 0) else out) 0 = m /\ ∀ j, m.testBit j = true ↔ ∃ i, i < k /\ f.testBit i = true /\ R i j := by
  intro k
  induction k with
  | zero => exact fun _ => ⟨0, rfl, fun j => by simp⟩
  | succ k ih =>
   intro hk
   refine o11 (ih (by (first | lia | omega))) fun m e h => ?_
   rw [List.range_succ, List.foldl_append, e]
   refine o11 (hR.get k (by (first | lia | omega))) fun q eq hq => ?_
   simp only [List.foldl_cons, List.foldl_nil]
   by_cases hb : f.testBit k = true
   ·rw [if_pos ((bit_one f k).mpr hb), eq, nat_or]
    refine ⟨_, rfl, fun j => ?_⟩
    rw [Nat.testBit_or, Bool.or_eq_true, h j, hq j]
    constructor
    ·rintro (⟨i, a, b⟩ | a)
     ·exact ⟨i, by lia, b⟩
     ·exact ⟨k, by lia, hb, a⟩
    ·rintro ⟨i, a, b, c⟩
     by_cases hi : i = k
     ·subst hi; exact .inr c
     ·exact .inl ⟨i, by lia, b, c⟩
   ·rw [if_neg fun q => hb ((bit_one f k).mp q)]
    refine ⟨m, rfl, fun j => ?_⟩
    rw [h j]
    constructor
    ·rintro ⟨i, a, b⟩
     exact ⟨i, by lia, b⟩
    ·rintro ⟨i, a, b, c⟩
     refine ⟨i, ?_, b, c⟩
     have : i ≠ k := fun q => hb (q ▸ b)
     lia
 refine o11 (key n (Nat.le_refl _)) fun m e h => ?_
 exact ⟨m, e, fun j => (h j).trans ⟨fun ⟨i, _, a⟩ => ⟨i, a⟩, fun ⟨i, a, b⟩ => ⟨i, (hR.lt i j b).2, a, b⟩⟩⟩
theorem down_spec (f w : Nat) : ∃ m : Nat, downF f roads w = m /\ ∀ j, m.testBit j = true ↔ ∃ a, f.testBit a = true /\ RdN R (fun z => w.testBit z = true) a j := by
 unfold downF
 rw [hR.len, nat_pp]
 have key : ∀ k, k <= n -> ∀ f : Nat, (∀ i, k <= i -> f.testBit i = true -> ∀ j, R i j -> w.testBit j = true -> f.testBit j = true) ->
   ∃ m : Nat, (List.range k).reverse.foldl (fun f k => if Builtin.bitAnd (f.fdiv (2 ^ k)) 1 = 1 then Builtin.bitOr f (Builtin.bitAnd (roads.getD k 0) w) else f) (f : Int) = m /\
    (∀ j, f.testBit j = true -> m.testBit j = true) /\ (∀ i, m.testBit i = true -> ∀ j, R i j -> w.testBit j = true -> m.testBit j = true) /\ ∀ j, m.testBit j = true -> f.testBit j = true \/ ∃ i, m.testBit i = true /\ R i j /\ w.testBit j = true := by
  intro k
  induction k with
  | zero => exact fun _ f h => ⟨f, rfl, fun j h => h, fun i hi => h i (by lia) hi, fun j h => .inl h⟩
  | succ k ih =>
   intro hk f h
   rw [List.range_succ, List.reverse_append]
   simp only [List.reverse_cons, List.reverse_nil, List.nil_append, List.cons_append, List.foldl_cons]
   refine o11 (hR.get k (by (first | lia | omega))) fun q eq hq => ?_
   by_cases hb : f.testBit k = true
   ·rw [if_pos ((bit_one f k).mpr hb), eq, nat_pp, nat_or]
    have low : ∀ j, k <= j -> ((f ||| (q &&& w)).testBit j = true ↔ f.testBit j = true) := fun j hj => by
     rw [Nat.testBit_or, Nat.testBit_and]
     have : q.testBit j = false := by
      generalize hqq : q.testBit j = zz; induction zz with
      | false => rfl
      | true => have := (hR.lt k j ((hq j).mp hqq)).1; lia
     rw [this]; simp
    have up : ∀ j, f.testBit j = true -> (f ||| (q &&& w)).testBit j = true := fun j hj => by rw [Nat.testBit_or, hj]; rfl
    refine o13 (ih (by (first | lia | omega)) (f ||| (q &&& w)) fun i hi hbi j hr hw => by
     have hbi := (low i hi).mp hbi
     by_cases hik : i = k
     ·subst hik
      rw [Nat.testBit_or, Nat.testBit_and, (hq j).mpr hr, hw]; simp
     ·exact up j (h i (by (first | lia | omega)) hbi j hr hw)) fun m e h1 h2 h3 => ?_
    refine ⟨m, e, fun j hj => h1 j (up j hj), h2, fun j hj => ?_⟩
    rcases h3 j hj with h | h
    ·rw [Nat.testBit_or, Nat.testBit_and, Bool.or_eq_true, Bool.and_eq_true] at h
     rcases h with h | ⟨a, b⟩
     ·exact .inl h
     ·exact .inr ⟨k, h1 k (up k hb), (hq j).mp a, b⟩
    ·exact .inr h
   ·rw [if_neg fun q => hb ((bit_one f k).mp q)]
    exact ih (by lia) f fun i hi hbi => by
     by_cases hik : i = k
     ·subst hik; exact absurd hbi hb
     ·exact h i (by lia) hbi
 refine o13 (key n (Nat.le_refl _) (f &&& w) fun i hi _ j hr => by have := (hR.lt i j hr).2; lia) fun m e h1 h2 h3 => ?_
 refine ⟨m, e, fun j => ⟨fun hj => ?_, fun hr => ?_⟩⟩
 ·-- downwards from above
  have : ∀ t j, n - j <= t -> m.testBit j = true -> ∃ a, f.testBit a = true /\ RdN R (fun z => w.testBit z = true) a j := by
   intro t
   induction t with
   | zero =>
    intro j ht hj
    rcases h3 j hj with h | ⟨i, a, b, c⟩
    ·rw [Nat.testBit_and, Bool.and_eq_true] at h
     exact ⟨j, h.1, .here h.2⟩
    ·have := hR.lt i j b; lia
   | succ t ih =>
    intro j ht hj
    rcases h3 j hj with h | ⟨i, a, b, c⟩
    ·rw [Nat.testBit_and, Bool.and_eq_true] at h
     exact ⟨j, h.1, .here h.2⟩
    ·have := hR.lt i j b
     refine o11 (ih i (by (first | lia | omega)) a) fun x hx r => ?_
     exact ⟨x, hx, r.step b c⟩
  exact this _ j (Nat.le_refl _) hj
 ·refine o11 hr fun a ha r => ?_
  clear hr
  induction r with
  | here hp => exact h1 _ (by rw [Nat.testBit_and, ha, hp]; rfl)
  | step r e hp ih => exact h2 _ ih _ e hp
end
theorem ahead_spec (k : Nat) (ranks : List Rank) : ∃ m : Nat, aheadF k ranks = m /\ ∀ j, m.testBit j = true ↔ j < ranks.length /\ rankLt (ranks.getD j (0, [])) (ranks.getD k (0, [])) = true := by
 unfold aheadF
 have key : ∀ t, ∃ m : Nat, (List.range t).foldl (fun a j => if rankLt (ranks.getD j (0, [])) (ranks.getD k (0, [])) then Builtin.bitOr a (2 ^ j) else a) 0 = m /\ ∀ j, m.testBit j = true ↔ j < t /\ rankLt (ranks.getD j (0, [])) (ranks.getD k (0, [])) = true := by
  intro t
  induction t with
  | zero => exact ⟨0, rfl, fun j => by simp⟩
  | succ t ih =>
   refine o11 ih fun m e h => ?_
   rw [List.range_succ, List.foldl_append, e]
   simp only [List.foldl_cons, List.foldl_nil]
   split
   ·rename_i hb
    rw [pow_cast', nat_or]
    refine ⟨_, rfl, fun j => ?_⟩
    rw [Nat.testBit_or, Bool.or_eq_true, h j, pow_bit]
    constructor
    ·rintro (⟨a, b⟩ | rfl)
     ·exact ⟨by lia, b⟩
     ·exact ⟨by lia, hb⟩
    ·rintro ⟨a, b⟩
     by_cases hj : j = t
     ·exact .inr hj
     ·exact .inl ⟨by lia, b⟩
   ·rename_i hb
    refine ⟨m, rfl, fun j => (h j).trans ⟨fun ⟨a, b⟩ => ⟨by lia, b⟩, fun ⟨a, b⟩ => ⟨?_, b⟩⟩⟩
    have : j ≠ t := fun q => hb (q ▸ b)
    lia
 exact key _
theorem mask_spec (l : List Int) (h : ∀ x ∈ l, 0 <= x) : ∃ m : Nat, maskTo l = m /\ ∀ j : Nat, m.testBit j = true ↔ (j : Int) ∈ l := by
 unfold maskTo
 have key : ∀ (l : List Int) (a : Nat), (∀ x ∈ l, 0 <= x) -> ∃ m : Nat, l.foldl Wd.seedStep (a : Int) = m /\ ∀ j : Nat, m.testBit j = true ↔ a.testBit j = true \/ (j : Int) ∈ l := by
  intro l
  induction l with
  | nil => exact fun a _ => ⟨a, rfl, fun j => by simp⟩
  | cons x r ih =>
   intro a h
   have hx := h x List.mem_cons_self
   rw [List.foldl_cons]
   have : Wd.seedStep (a : Int) x = ((a ||| 2 ^ x.toNat : Nat) : Int) := by unfold Wd.seedStep; rw [pow_cast, nat_or]
   rw [this]
   refine o11 (ih (a ||| 2 ^ x.toNat) fun y hy => h y (List.mem_cons_of_mem _ hy)) fun m e hm => ?_
   refine ⟨m, e, fun j => ?_⟩
   rw [hm j, Nat.testBit_or, Bool.or_eq_true, pow_bit, List.mem_cons]
   have : j = x.toNat ↔ (j : Int) = x := by lia
   rw [this, or_assoc]
 refine o11 (key l 0 h) fun m e hm => ?_
 exact ⟨m, e, fun j => (hm j).trans (by simp)⟩
end Mine
namespace Mine
noncomputable def Wd.nm (W : Wd) (k : Nat) : List UInt8 := W.names.getD k []
noncomputable def Wd.R (W : Wd) (k j : Nat) : Prop := k < W.n /\ ∃ e ∈ W.kin.getD k [], e.toNat = j /\ W.leads k e = true
theorem Wd.name_nm (W : Wd) (k : Int) : W.name k = W.nm k.toNat := rfl
section
variable {W : Wd} (G : W.Good)
include G
theorem Wd.Good.T_nm {k : Nat} (hk : k < W.n) : W.T (W.nm k) = if W.known.getD k false = true then some (W.stamps.getD k 0) else none := by
 unfold Wd.T
 have key : ∀ m, m <= W.n -> timesF W.names W.stamps W.known m (W.nm k) = if k < m /\ W.known.getD k false = true then some (W.stamps.getD k 0) else none := by
  intro m
  induction m with
  | zero => exact fun _ => by simp [timesF]
  | succ m ih =>
   intro hm
   have ih := ih (by lia)
   unfold timesF
   by_cases hw : W.known.getD m false = true
   ·rw [if_pos hw]
    by_cases hc : W.nm k = W.names.getD m []
    ·have : k = m := G.nm k m hk (by lia) hc
     subst this
     simp only [if_pos hc]
     rw [if_pos ⟨by lia, hw⟩]
    ·simp only [if_neg hc]
     rw [ih]
     have : k ≠ m := fun q => hc (by rw [q]; rfl)
     by_cases h1 : k < m /\ W.known.getD k false = true
     ·rw [if_pos h1, if_pos ⟨by lia, h1.2⟩]
     ·rw [if_neg h1, if_neg fun q => h1 ⟨by lia, q.2⟩]
   ·rw [if_neg hw, ih]
    by_cases h1 : k < m /\ W.known.getD k false = true
    ·rw [if_pos h1, if_pos ⟨by lia, h1.2⟩]
    ·rw [if_neg h1, if_neg fun q => h1 ⟨by
      have : k ≠ m := fun h => hw (h ▸ q.2)
      lia, q.2⟩]
 rw [key W.n (Nat.le_refl _)]
 by_cases h : W.known.getD k false = true
 ·rw [if_pos ⟨hk, h⟩, if_pos h]
 ·rw [if_neg fun q => h q.2, if_neg h]
theorem Wd.Good.P_nm {k : Nat} (hk : k < W.n) : W.P (W.nm k) = if W.whole.getD k false = true then some ((W.kin.getD k []).map W.name) else none := by
 unfold Wd.P
 have key : ∀ m, m <= W.n -> folkF W.names W.kin W.whole m (W.nm k) = if k < m /\ W.whole.getD k false = true then some ((W.kin.getD k []).map W.name) else none := by
  intro m
  induction m with
  | zero => exact fun _ => by simp [folkF]
  | succ m ih =>
   intro hm
   have ih := ih (by lia)
   unfold folkF
   by_cases hw : W.whole.getD m false = true
   ·rw [if_pos hw]
    by_cases hc : W.nm k = W.names.getD m []
    ·have : k = m := G.nm k m hk (by lia) hc
     subst this
     simp only [if_pos hc]
     rw [if_pos ⟨by lia, hw⟩]
     rfl
    ·simp only [if_neg hc]
     rw [ih]
     have : k ≠ m := fun q => hc (by rw [q]; rfl)
     by_cases h1 : k < m /\ W.whole.getD k false = true
     ·rw [if_pos h1, if_pos ⟨by lia, h1.2⟩]
     ·rw [if_neg h1, if_neg fun q => h1 ⟨by lia, q.2⟩]
   ·rw [if_neg hw, ih]
    by_cases h1 : k < m /\ W.whole.getD k false = true
    ·rw [if_pos h1, if_pos ⟨by lia, h1.2⟩]
    ·rw [if_neg h1, if_neg fun q => h1 ⟨by
      have : k ≠ m := fun h => hw (h ▸ q.2)
      lia, q.2⟩]
 rw [key W.n (Nat.le_refl _)]
 by_cases h : W.whole.getD k false = true
 ·rw [if_pos ⟨hk, h⟩, if_pos h]
 ·rw [if_neg fun q => h q.2, if_neg h]
theorem Wd.Good.R_lt {k j : Nat} (h : W.R k j) : j < k /\ k < W.n := by
 refine o01 h ?_; rintro hk zz; refine o12 zz ?_; rintro e he rfl _
 have := G.ok k hk e he
 exact ⟨by lia, hk⟩
theorem Wd.Good.rds : RdsOk W.roads W.n W.R := by
 refine ⟨by simp [Wd.roads], fun k hk => ?_, fun k j h => G.R_lt h⟩
 have e1 : W.roads.getD k 0 = W.road k := by
  unfold Wd.roads
  rw [List.getD_eq_getElem?_getD, List.getElem?_map, List.getElem?_range hk]
  rfl
 rw [e1]
 unfold Wd.road
 have key : ∀ (l : List Int) (a : Nat), ∃ m : Nat, l.foldl (W.roadStep k) (a : Int) = m /\ ∀ j, m.testBit j = true ↔ a.testBit j = true \/ ∃ e ∈ l, e.toNat = j /\ W.leads k e = true := by
  intro l
  induction l with
  | nil => exact fun a => ⟨a, rfl, fun j => by simp⟩
  | cons x r ih =>
   intro a
   rw [List.foldl_cons]
   unfold Wd.roadStep
   by_cases hl : W.leads k x = true
   ·rw [if_pos hl, pow_cast, nat_or]
    refine o11 (ih (a ||| 2 ^ x.toNat)) fun m e hm => ?_
    refine ⟨m, e, fun j => ?_⟩
    rw [hm j, Nat.testBit_or, Bool.or_eq_true, pow_bit]
    constructor
    ·rintro ((h | h) | ⟨y, h1, h2⟩)
     ·exact .inl h
     ·exact .inr ⟨x, List.mem_cons_self, h.symm, hl⟩
     ·exact .inr ⟨y, List.mem_cons_of_mem _ h1, h2⟩
    ·rintro (h | ⟨y, h1, h2, h3⟩)
     ·exact .inl (.inl h)
     ·rcases List.mem_cons.mp h1 with rfl | h1
      ·exact .inl (.inr h2.symm)
      ·exact .inr ⟨y, h1, h2, h3⟩
   ·rw [if_neg hl]
    refine o11 (ih a) fun m e hm => ?_
    refine ⟨m, e, fun j => (hm j).trans ⟨fun h => h.imp id fun ⟨y, h1, h2⟩ => ⟨y, List.mem_cons_of_mem _ h1, h2⟩, fun h => h.imp id fun ⟨y, h1, h2⟩ => ?_⟩⟩
    rcases List.mem_cons.mp h1 with rfl | h1
    ·exact absurd h2.2 hl
    ·exact ⟨y, h1, h2⟩
 refine o11 (key (W.kin.getD k []) 0) fun m e hm => ?_
 exact ⟨m, e, fun j => (hm j).trans ⟨fun h => ⟨hk, h.resolve_left (by simp)⟩, fun h => .inr h.2⟩⟩
theorem Wd.Good.edge_nm {sh : Bool} {k : Nat} (hk : k < W.n) {y : List UInt8} : edge (W.inp sh) (W.nm k) y ↔ ∃ j, y = W.nm j /\ W.R k j := by
 have hok := G.ok k hk
 constructor
 ·rintro ⟨ps, hp, hy, t, ht, hm⟩
  have hp : W.P (W.nm k) = some ps := hp
  rw [G.P_nm hk] at hp
  split at hp
  ·rename_i hw
   obtain rfl := Option.some.inj hp
   refine o11 (List.mem_map.mp hy) ?_; rintro e he rfl
   have h1 := hok e he
   have ht : W.T (W.nm e.toNat) = some t := ht
   rw [G.T_nm (by lia)] at ht
   split at ht
   ·rename_i hkn
    obtain rfl := Option.some.inj ht
    refine ⟨e.toNat, rfl, hk, e, he, rfl, ?_⟩
    unfold Wd.leads
    have hm : ¬ W.stamps.getD e.toNat 0 < W.floor := hm
    rw [Int.toNat_natCast, hw, hkn, decide_eq_true (by lia)]
    rfl
   ·exact No.ns ht
  ·exact No.ns hp
 ·rintro ⟨j, rfl, _, e, he, rfl, hl⟩
  have h1 := hok e he
  unfold Wd.leads at hl
  simp only [Bool.and_eq_true, decide_eq_true_eq, Int.toNat_natCast] at hl
  refine o02 hl fun hw hkn hf => ?_
  refine ⟨(W.kin.getD k []).map W.name, ?_, List.mem_map_of_mem (f := W.name) he, W.stamps.getD e.toNat 0, ?_, ?_⟩
  ·show W.P (W.nm k) = _
   rw [G.P_nm hk, if_pos hw]
  ·show W.T (W.nm e.toNat) = _
   rw [G.T_nm (by lia), if_pos hkn]
  ·show ¬ W.stamps.getD e.toNat 0 < W.floor
   lia
theorem Wd.Good.rk_nm {sh : Bool} {k : Nat} (hk : k < W.n) : rk (W.inp sh) (W.nm k) = W.ranks.getD k (0, []) := by
 have e1 : W.ranks.getD k (0, []) = W.rank k := by
  unfold Wd.ranks
  rw [List.getD_eq_getElem?_getD, List.getElem?_map]
  have : (rangeOf 0 W.n 1)[k]? = some (k : Int) := by
   have hl : (rangeOf 0 W.n 1).length = W.n := rangeOf_len ..
   rw [List.getElem?_eq_getElem (by lia)]
   refine o01 (rangeOf_get (j := k) (x := (rangeOf 0 W.n 1)[k]) (n := W.n) (List.getElem?_eq_getElem (by (first | lia | omega)))) fun h1 _ => ?_
   rw [h1]
  rw [this]; rfl
 rw [e1]
 unfold rk Wd.rank
 have e2 : (W.inp sh).T (W.nm k) = _ := G.T_nm hk
 rw [e2, Int.toNat_natCast]
 by_cases h : W.known.getD k false = true
 ·rw [if_pos h, if_pos h]; rfl
 ·rw [if_neg h, if_neg h]; rfl
theorem Wd.Good.road_nm {sh : Bool} {p : List UInt8 -> Prop} {a : Nat} (ha : a < W.n) {y : List UInt8} (h : Road (W.inp sh) p (W.nm a) y) : ∃ j, j < W.n /\ y = W.nm j /\ RdN W.R (fun z => p (W.nm z)) a j := by
 induction h with
 | here hp => exact ⟨a, ha, rfl, .here hp⟩
 | step r e hp ih =>
  refine o12 ih ?_; rintro j hj rfl q
  refine o11 ((G.edge_nm hj).mp e) ?_; rintro i rfl hr
  have := G.R_lt hr
  exact ⟨i, by lia, rfl, q.step hr hp⟩
theorem Wd.Good.rd_nm {sh : Bool} {p : List UInt8 -> Prop} {p' : Nat -> Prop} {a j : Nat} (ha : a < W.n) (hp : ∀ z, z < W.n -> p' z -> p (W.nm z)) (h : RdN W.R p' a j) : j < W.n /\ Road (W.inp sh) p (W.nm a) (W.nm j) := by
 induction h with
 | here h => exact ⟨ha, .here (hp _ ha h)⟩
 | step r e h ih =>
  refine o01 ih fun hj q => ?_
  have := G.R_lt e
  exact ⟨by lia, q.step ((G.edge_nm hj).mpr ⟨_, rfl, e⟩) (hp _ (by lia) h)⟩
omit G in
theorem Wd.every_bit (W : Wd) : ∃ m : Nat, W.every = m /\ ∀ j, m.testBit j = true ↔ j < W.n := by
 refine ⟨2 ^ W.n - 1, ?_, fun j => ?_⟩
 ·unfold Wd.every
  have : 1 <= 2 ^ W.n := Nat.one_le_two_pow
  rw [pow_cast]
  lia
 ·rw [Nat.testBit_two_pow_sub_one]; simp
theorem Wd.Good.down_bit {sh : Bool} {S : List Nat} (hS : ∀ a ∈ S, a < W.n) {f w : Nat} (hf : ∀ j, f.testBit j = true ↔ j ∈ S) {p : List UInt8 -> Prop} (hw : ∀ j, j < W.n -> (w.testBit j = true ↔ p (W.nm j))) :
  ∃ m : Nat, downF f W.roads w = m /\ ∀ j, j < W.n -> (m.testBit j = true ↔ fromS (W.inp sh) p (S.map W.nm) (W.nm j)) := by
 refine o11 (down_spec G.rds f w) fun m e h => ?_
 refine ⟨m, e, fun j hj => (h j).trans ⟨fun ⟨a, ha, r⟩ => ?_, fun ⟨x, hx, r⟩ => ?_⟩⟩
 ·have ha := (hf a).mp ha
  exact ⟨W.nm a, List.mem_map_of_mem ha, (G.rd_nm (hS a ha) (fun z hz h => (hw z hz).mp h) r).2⟩
 ·refine o11 (List.mem_map.mp hx) ?_; rintro a ha rfl
  refine o12 (G.road_nm (hS a ha) r) fun i hi e q => ?_
  have : j = i := G.nm j i hj hi e
  subst this
  refine ⟨a, (hf a).mpr ha, ?_⟩
  have hlt : ∀ z, RdN W.R (fun z => p (W.nm z)) a z -> z < W.n /\ RdN W.R (fun z => w.testBit z = true) a z := fun z q => by
   induction q with
   | here h => exact ⟨hS a ha, .here ((hw _ (hS a ha)).mpr h)⟩
   | step r e h ih =>
    rename_i b c
    have hb := ih.1
    have := G.R_lt e
    exact ⟨by lia, ih.2.step e ((hw _ (by lia)).mpr h)⟩
  exact (hlt _ q).2
end
end Mine
namespace Mine
noncomputable def Same (c1 b1 : List UInt8) (c2s b2s : Names) : Prop := (b1 = c1 /\ b2s.Perm c2s) \/ (c2s = [b1] /\ b2s = [c1])
theorem fromS_perm {I : Inp} {p : List UInt8 -> Prop} {S S' : Names} (h : S.Perm S') (x : List UInt8) : fromS I p S x ↔ fromS I p S' x :=
 ⟨fun ⟨a, b, c⟩ => ⟨a, h.mem_iff.mp b, c⟩, fun ⟨a, b, c⟩ => ⟨a, h.mem_iff.mpr b, c⟩⟩
theorem Same.two {I : Inp} {c1 b1 : List UInt8} {c2s b2s : Names} (h : Same c1 b1 c2s b2s) (p : List UInt8 -> Prop) (x : List UInt8) : (fromS I p [b1] x /\ fromS I p b2s x) ↔ (fromS I p [c1] x /\ fromS I p c2s x) := by
 rcases h with ⟨rfl, h⟩ | ⟨rfl, rfl⟩
 ·rw [fromS_perm h]
 ·exact And.comm
theorem Same.or {I : Inp} {c1 b1 : List UInt8} {c2s b2s : Names} (h : Same c1 b1 c2s b2s) (p : List UInt8 -> Prop) (x : List UInt8) : (fromS I p [b1] x \/ fromS I p b2s x) ↔ (fromS I p [c1] x \/ fromS I p c2s x) := by
 rcases h with ⟨rfl, h⟩ | ⟨rfl, rfl⟩
 ·rw [fromS_perm h]
 ·exact Or.comm
theorem Same.fin {I : Inp} {c1 b1 : List UInt8} {c2s b2s : Names} {R : List Rank} (h : Same c1 b1 c2s b2s) (F : Fin I b1 b2s R) : Fin I c1 c2s R := by
 have e1 : ∀ x, bothN I b1 b2s x ↔ bothN I c1 c2s x := fun x => h.two anyN x
 have e2 : ∀ x, belowN I b1 b2s x ↔ belowN I c1 c2s x := fun x => ⟨fun ⟨m, a, b⟩ => ⟨m, (e1 m).mp a, b⟩, fun ⟨m, a, b⟩ => ⟨m, (e1 m).mpr a, b⟩⟩
 have e3 : ∀ x, passedN I b1 b2s x ↔ passedN I c1 c2s x := fun x => ⟨fun ⟨m, a, b⟩ => ⟨m, a, (h.two _ m).mp b⟩, fun ⟨m, a, b⟩ => ⟨m, a, (h.two _ m).mpr b⟩⟩
 exact ⟨F.tm, fun y hy => ⟨(e1 _).mp (F.both y hy).1, fun q => (F.both y hy).2 ((e3 _).mpr q)⟩, fun x a b => F.full x ((e1 x).mpr a) fun q => b ((e2 x).mp q), F.anti, fun hs x a b => F.sure hs x ((h.or anyN x).mpr a) fun q => b ((e2 x).mp q), F.nd⟩
section
variable {W : Wd} (G : W.Good)
include G
theorem Wd.Good.same : Same (W.name W.first) (W.name W.begin) (W.others.map W.name) (W.ends.map W.name) := by
 have hl := G.ol
 unfold Wd.begin Wd.ends
 by_cases h : W.others.length = 1
 ·rw [if_pos h, if_pos h]
  refine o10 (List.length_eq_one_iff.mp h) fun o ho => ?_
  rw [ho]
  exact .inr ⟨rfl, rfl⟩
 ·rw [if_neg h, if_neg h]
  refine .inl ⟨rfl, List.Perm.map _ ?_⟩
  unfold Wd.endsF
  revert h hl
  generalize W.others = l
  intro hl h
  match l with
  | [] => exact List.Perm.refl _
  | [a] => exact absurd rfl h
  | [a, b] =>
   rw [rangeOf_up]
   have e : (((List.range [a, b].length).map (fun i : Nat => (i : Int))).map fun j => [a, b].getD (([a, b].length : Int) - 1 - j).toNat 0) = [b, a] := rfl
   rw [e]; exact List.Perm.swap a b []
  | a :: b :: c :: r => simp at hl
noncomputable def Wd.c1 (W : Wd) : List UInt8 := W.name W.first
noncomputable def Wd.c2s (W : Wd) : Names := W.others.map W.name
structure MaskOk (W : Wd) (m1 m2 mb ml : Nat) : Prop where
 one : W.one = m1
 two : W.two = m2
 below : W.below = mb
 lies : W.lies = ml
 b1 : ∀ sh j, j < W.n -> (m1.testBit j = true ↔ fromS (W.inp sh) anyN [W.c1] (W.nm j))
 b2 : ∀ sh j, j < W.n -> (m2.testBit j = true ↔ fromS (W.inp sh) anyN W.c2s (W.nm j))
 bb : ∀ sh j, j < W.n -> (mb.testBit j = true ↔ belowN (W.inp sh) W.c1 W.c2s (W.nm j))
 bl : ∀ j, ml.testBit j = true ↔ j < W.n /\ ∃ e, W.R j e /\ rankLt (W.ranks.getD e (0, [])) (W.ranks.getD j (0, [])) = true
 hi : ∀ j, m1.testBit j = true -> j < W.n
omit G in
theorem RdN.last {R : Nat -> Nat -> Prop} {p : Nat -> Prop} {a j : Nat} (h : RdN R p a j) : p j := by
 rcases h with ⟨⟩ <;> assumption
omit G in
theorem Wd.lies_spec (W : Wd) : ∃ m : Nat, W.lies = m /\ ∀ j, m.testBit j = true ↔ j < W.n /\ ∃ e, W.R j e /\ rankLt (W.ranks.getD e (0, [])) (W.ranks.getD j (0, [])) = true := by
 unfold Wd.lies Wd.liesTo
 have inner : ∀ (k : Nat) (l : List Int) (a : Nat), ∃ m : Nat, l.foldl (W.lieStep k) (a : Int) = m /\ ∀ j, m.testBit j = true ↔ a.testBit j = true \/ (j = k /\ ∃ e ∈ l, W.leads k e = true /\ rankLt (W.ranks.getD e.toNat (0, [])) (W.ranks.getD k (0, [])) = true) := by
  intro k l
  induction l with
  | nil => exact fun a => ⟨a, rfl, fun j => by simp⟩
  | cons x r ih =>
   intro a
   rw [List.foldl_cons]
   have up : ∀ {j : Nat}, (j = k /\ ∃ e ∈ r, W.leads k e = true /\ rankLt (W.ranks.getD e.toNat (0, [])) (W.ranks.getD k (0, [])) = true) -> (j = k /\ ∃ e ∈ x :: r, W.leads k e = true /\ rankLt (W.ranks.getD e.toNat (0, [])) (W.ranks.getD k (0, [])) = true) := fun ⟨h, y, h1, h2⟩ => ⟨h, y, List.mem_cons_of_mem _ h1, h2⟩
   have skip : ¬ (W.leads k x = true /\ rankLt (W.ranks.getD x.toNat (0, [])) (W.ranks.getD k (0, [])) = true) -> W.lieStep k (a : Int) x = (a : Int) -> ∃ m : Nat, r.foldl (W.lieStep k) (W.lieStep k (a : Int) x) = m /\ ∀ j, m.testBit j = true ↔ a.testBit j = true \/ (j = k /\ ∃ e ∈ x :: r, W.leads k e = true /\ rankLt (W.ranks.getD e.toNat (0, [])) (W.ranks.getD k (0, [])) = true) := fun hn e => by
    rw [e]
    refine o11 (ih a) fun m e hm => ?_
    refine ⟨m, e, fun j => (hm j).trans ⟨fun h => h.imp id up, fun h => h.imp id fun ⟨h, y, h1, h2⟩ => ⟨h, ?_⟩⟩⟩
    rcases List.mem_cons.mp h1 with rfl | h1
    ·exact absurd h2 hn
    ·exact ⟨y, h1, h2⟩
   by_cases hl : W.leads k x = true
   ·by_cases hr : rankLt (W.ranks.getD x.toNat (0, [])) (W.ranks.getD k (0, [])) = true
    ·have e : W.lieStep k (a : Int) x = ((a ||| 2 ^ k : Nat) : Int) := by
      unfold Wd.lieStep
      rw [if_pos hl, Int.toNat_natCast, if_pos hr, pow_cast, nat_or]
     rw [e]
     refine o11 (ih (a ||| 2 ^ k)) fun m e hm => ?_
     refine ⟨m, e, fun j => ?_⟩
     rw [hm j, Nat.testBit_or, Bool.or_eq_true, pow_bit]
     constructor
     ·rintro ((h | h) | h)
      ·exact .inl h
      ·exact .inr ⟨h, x, List.mem_cons_self, hl, hr⟩
      ·exact .inr (up h)
     ·rintro (h | ⟨h, _⟩)
      ·exact .inl (.inl h)
      ·exact .inl (.inr h)
    ·exact skip (fun q => hr q.2) (by unfold Wd.lieStep; rw [if_pos hl, Int.toNat_natCast, if_neg hr])
   ·exact skip (fun q => hl q.1) (by unfold Wd.lieStep; rw [if_neg hl])
 have key : ∀ t, t <= W.n -> ∃ m : Nat, (List.range t).foldl (fun l (k : Nat) => (W.kin.getD k []).foldl (W.lieStep k) l) 0 = (m : Int) /\ ∀ j, m.testBit j = true ↔ j < t /\ ∃ e, W.R j e /\ rankLt (W.ranks.getD e (0, [])) (W.ranks.getD j (0, [])) = true := by
  intro t
  induction t with
  | zero => exact fun _ => ⟨0, rfl, fun j => by simp⟩
  | succ t ih =>
   intro ht
   refine o11 (ih (by (first | lia | omega))) fun m e hm => ?_
   rw [List.range_succ, List.foldl_append, e]
   simp only [List.foldl_cons, List.foldl_nil]
   refine o11 (inner t (W.kin.getD t []) m) fun m' e' hm' => ?_
   refine ⟨m', e', fun j => ?_⟩
   rw [hm' j, hm j]
   constructor
   ·rintro (⟨a, b⟩ | ⟨rfl, e, he, hl, hr⟩)
    ·exact ⟨by lia, b⟩
    ·exact ⟨by lia, e.toNat, ⟨by lia, e, he, rfl, hl⟩, hr⟩
   ·rintro ⟨a, e, hR, hr⟩
    by_cases hj : j = t
    ·subst hj
     refine o01 hR ?_; rintro _ zz; refine o12 zz ?_; rintro x hx rfl hl
     exact .inr ⟨rfl, x, hx, hl, hr⟩
    ·exact .inl ⟨by lia, e, hR, hr⟩
 exact key W.n (Nat.le_refl _)
theorem Wd.Good.seeds_spec : ∃ m : Nat, W.seeds = m /\ ∀ j, m.testBit j = true ↔ j ∈ W.others.map Int.toNat := by
 refine o11 (mask_spec W.others fun x hx => (G.others x hx).1) fun m e h => ?_
 refine ⟨m, e, fun j => (h j).trans ?_⟩
 rw [List.mem_map]
 constructor
 ·exact fun hj => ⟨_, hj, by simp⟩
 ·rintro ⟨x, hx, rfl⟩
  have := (G.others x hx).1
  rw [Int.toNat_of_nonneg this]; exact hx
omit G in
theorem Wd.one_seed (W : Wd) : ∀ j, (2 ^ W.first.toNat).testBit j = true ↔ j ∈ [W.first.toNat] := fun j => by
 rw [pow_bit, List.mem_singleton]
omit G in
theorem Wd.names2 (W : Wd) : (W.others.map Int.toNat).map W.nm = W.c2s := by
 unfold Wd.c2s
 rw [List.map_map]; rfl
theorem Wd.Good.masks : ∃ m1 m2 mb ml, MaskOk W m1 m2 mb ml := by
 refine o11 (Wd.every_bit W) fun ev eev hev => ?_
 refine o11 G.seeds_spec fun ms ems hms => ?_
 refine o11 W.lies_spec fun ml eml hml => ?_
 have gf := G.first
 have hf1 : ∀ a ∈ [W.first.toNat], a < W.n := fun a ha => by rw [List.mem_singleton.mp ha]; lia
 have hf2 : ∀ a ∈ W.others.map Int.toNat, a < W.n := fun a ha => by
  refine o11 (List.mem_map.mp ha) ?_; rintro x hx rfl
  have := G.others x hx
  lia
 have hw : ∀ j, j < W.n -> (ev.testBit j = true ↔ anyN (W.nm j)) := fun j hj => ⟨fun _ => trivial, fun _ => (hev j).mpr hj⟩
 refine o11 (down_spec G.rds (2 ^ W.first.toNat) ev) fun m1 e1 s1 => ?_
 refine o11 (down_spec G.rds ms ev) fun m2 e2 s2 => ?_
 have o1 : W.one = m1 := by unfold Wd.one; rw [pow_cast, eev]; exact e1
 have o2 : W.two = m2 := by unfold Wd.two; rw [ems, eev]; exact e2
 have b1 : ∀ sh j, j < W.n -> (m1.testBit j = true ↔ fromS (W.inp sh) anyN [W.c1] (W.nm j)) := fun sh j hj => by
  refine o11 (G.down_bit (sh := sh) hf1 W.one_seed hw) fun m e h => ?_
  have : m1 = m := by rw [e1] at e; lia
  rw [this]; exact h j hj
 have b2 : ∀ sh j, j < W.n -> (m2.testBit j = true ↔ fromS (W.inp sh) anyN W.c2s (W.nm j)) := fun sh j hj => by
  refine o11 (G.down_bit (sh := sh) hf2 hms hw) fun m e h => ?_
  have : m2 = m := by rw [e2] at e; lia
  rw [this, <- W.names2]; exact h j hj
 refine o11 (next_spec G.rds (m1 &&& m2)) fun mb eb hb => ?_
 have h1 : ∀ j, m1.testBit j = true -> j < W.n := fun j hj => by
  refine o11 ((s1 j).mp hj) fun a _ r => ?_
  exact (hev j).mp r.last
 refine ⟨m1, m2, mb, ml, o1, o2, ?_, eml, b1, b2, fun sh j hj => ?_, hml, h1⟩
 ·unfold Wd.below Wd.both
  rw [o1, o2, nat_pp]; exact eb
 ·rw [hb j]
  constructor
  ·rintro ⟨k, hk, hR⟩
   rw [Nat.testBit_and, Bool.and_eq_true] at hk
   have hkn := (G.R_lt hR).2
   exact ⟨W.nm k, ⟨(b1 sh k hkn).mp hk.1, (b2 sh k hkn).mp hk.2⟩, (G.edge_nm hkn).mpr ⟨j, rfl, hR⟩⟩
  ·rintro ⟨x, ⟨⟨a, ha, r⟩, h2⟩, e⟩
   have ha := List.mem_singleton.mp ha
   subst ha
   refine o12 (G.road_nm (a := W.first.toNat) (by (first | lia | omega)) r) ?_; rintro k hk rfl _
   refine o11 ((G.edge_nm hk).mp e) fun i hi hR => ?_
   have := G.R_lt hR
   have : j = i := G.nm j i hj (by lia) hi
   subst this
   exact ⟨k, by rw [Nat.testBit_and, (b1 sh k hk).mpr ⟨W.c1, List.mem_singleton.mpr rfl, r⟩, (b2 sh k hk).mpr h2]; rfl, hR⟩
theorem Wd.Good.reached {sh : Bool} {p : List UInt8 -> Prop} {x : List UInt8} (h : fromS (W.inp sh) p [W.c1] x \/ fromS (W.inp sh) p W.c2s x) : ∃ j, j < W.n /\ x = W.nm j := by
 have gf := G.first
 rcases h with ⟨a, ha, r⟩ | ⟨a, ha, r⟩
 ·have ha := List.mem_singleton.mp ha
  subst ha
  refine o12 (G.road_nm (a := W.first.toNat) (by (first | lia | omega)) r) fun j hj e _ => ?_
  exact ⟨j, hj, e⟩
 ·refine o11 (List.mem_map.mp ha) ?_; rintro o ho rfl
  have := G.others o ho
  refine o12 (G.road_nm (a := o.toNat) (by (first | lia | omega)) r) fun j hj e _ => ?_
  exact ⟨j, hj, e⟩
theorem Wd.Good.passed {sh : Bool} {x : Int} (hx : 0 <= x /\ x < W.n) (h : passedF x (1 * 2 ^ W.first.toNat) W.seeds W.roads W.ranks = true) : passedN (W.inp sh) W.c1 W.c2s (W.nm x.toNat) := by
 have gf := G.first
 refine o11 (ahead_spec x.toNat W.ranks) fun ma ea ha => ?_
 refine o11 G.seeds_spec fun ms ems hms => ?_
 have hf1 : ∀ a ∈ [W.first.toNat], a < W.n := fun a ha => by rw [List.mem_singleton.mp ha]; lia
 have hf2 : ∀ a ∈ W.others.map Int.toNat, a < W.n := fun a ha => by
  refine o11 (List.mem_map.mp ha) ?_; rintro x hx rfl
  have := G.others x hx
  lia
 have hw : ∀ j, j < W.n -> (ma.testBit j = true ↔ rankLt (rk (W.inp sh) (W.nm j)) (rk (W.inp sh) (W.nm x.toNat)) = true) := fun j hj => by
  rw [ha j, G.rk_nm hj, G.rk_nm (by lia), ranks_len]
  exact ⟨fun h => h.2, fun h => ⟨hj, h⟩⟩
 refine o11 (G.down_bit (sh := sh) (p := fun z => rankLt (rk (W.inp sh) z) (rk (W.inp sh) (W.nm x.toNat)) = true) hf1 W.one_seed hw) fun m1 e1 h1 => ?_
 refine o11 (G.down_bit (sh := sh) (p := fun z => rankLt (rk (W.inp sh) z) (rk (W.inp sh) (W.nm x.toNat)) = true) hf2 hms hw) fun m2 e2 h2 => ?_
 refine o11 (next_spec G.rds (m1 &&& m2)) fun mb eb hb => ?_
 have h : (Builtin.bitAnd ((nextF (Builtin.bitAnd (downF (1 * 2 ^ W.first.toNat) W.roads (aheadF x.toNat W.ranks)) (downF W.seeds W.roads (aheadF x.toNat W.ranks))) W.roads).fdiv (2 ^ x.toNat)) 1 == 1) = true := h
 rw [ea, pow_cast, ems, e1, e2, nat_pp, eb, beq_iff_eq, bit_one, hb] at h
 refine o11 h fun k hk hR => ?_
 rw [Nat.testBit_and, Bool.and_eq_true] at hk
 have hkn := (G.R_lt hR).2
 refine ⟨W.nm k, (G.edge_nm hkn).mpr ⟨_, rfl, hR⟩, (h1 k hkn).mp hk.1, ?_⟩
 rw [<- W.names2]
 exact (h2 k hkn).mp hk.2
end
end Mine
namespace Mine
theorem filter_one {α : Type} {p : α -> Bool} {a : α} : ∀ {l : List α}, l.Nodup -> a ∈ l -> (∀ x ∈ l, p x = true ↔ x = a) -> l.filter p = [a]
 | [], _, h, _ => nomatch h
 | x :: r, nd, h, hp => by
  refine o01 (List.nodup_cons.mp nd) fun n1 n2 => ?_
  have hx := hp x List.mem_cons_self
  have hr : ∀ y ∈ r, p y = true ↔ y = a := fun y hy => hp y (List.mem_cons_of_mem _ hy)
  by_cases e : x = a
  ·rw [List.filter_cons_of_pos (hx.mpr e)]
   subst e
   have : r.filter p = [] := List.filter_eq_nil_iff.mpr fun y hy q => n1 ((hr y hy).mp q ▸ hy)
   rw [this]
  ·rw [List.filter_cons_of_neg fun q => e (hx.mp q)]
   exact filter_one n2 ((List.mem_cons.mp h).resolve_left fun q => e q.symm) hr
theorem rises_of {T : List UInt8 -> Option Int} : ∀ {r : List Rank}, TimeSorted r -> (∀ y ∈ r, y.1 = (T y.2).getD 0) -> risesF (r.map (·.2)) T = true
 | [], _, _ => rfl
 | [a], _, _ => rfl
 | a :: b :: r, hs, ht => by
  refine o01 (List.pairwise_cons.mp hs) fun h1 h2 => ?_
  have ih := rises_of h2 fun y hy => ht y (List.mem_cons_of_mem _ hy)
  have h := h1 b List.mem_cons_self
  rw [ht a List.mem_cons_self, ht b (List.mem_cons_of_mem _ List.mem_cons_self)] at h
  unfold risesF at ih ⊢
  simp only [List.map_cons, List.tail_cons, List.zip_cons_cons, List.all_cons, Bool.and_eq_true] at ih ⊢
  refine ⟨?_, ih⟩
  rw [decide_eq_false (by lia)]; rfl
theorem mem_up {n : Nat} {x : Int} : x ∈ rangeOf 0 n 1 ↔ 0 <= x /\ x < n := by
 rw [rangeOf_up, List.mem_map]
 constructor
 ·rintro ⟨i, hi, rfl⟩
  have := List.mem_range.mp hi
  lia
 ·rintro ⟨a, b⟩
  exact ⟨x.toNat, List.mem_range.mpr (by lia), by lia⟩
theorem up_lt (n : Nat) : (rangeOf 0 n 1).Pairwise (· < ·) := by
 rw [rangeOf_up, List.pairwise_map]
 exact List.pairwise_lt_range.imp fun h => by lia
theorem up_nodup (n : Nat) : (rangeOf 0 n 1).Nodup := (up_lt n).imp fun h => by lia
theorem bitI_one (m : Nat) {k : Int} : bitI m k = 1 ↔ m.testBit k.toNat = true := by unfold bitI; exact bit_one m k.toNat
theorem bitI_zero (m : Nat) {k : Int} : bitI m k = 0 ↔ m.testBit k.toNat = false := by
 unfold bitI; rw [bit_val]
 cases m.testBit k.toNat <;> simp
theorem fromS_sh {W : Wd} {m1 m2 mb ml : Nat} (M : MaskOk W m1 m2 mb ml) {j : Nat} (hj : j < W.n) {sh : Bool} : ((m1 ||| m2).testBit j = true ↔ fromS (W.inp sh) anyN [W.c1] (W.nm j) \/ fromS (W.inp sh) anyN W.c2s (W.nm j)) := by
 rw [Nat.testBit_or, Bool.or_eq_true, M.b1 sh j hj, M.b2 sh j hj]
section
variable {W : Wd} (G : W.Good)
include G
theorem Wd.Good.spots_of {sh : Bool} {R r : List Rank} (F : Fin (W.inp sh) W.c1 W.c2s R) (hp : r.Perm R) : ∃ l : List Nat, r.map (·.2) = l.map W.nm /\ W.spots (r.map (·.2)) = l.map (fun i : Nat => (i : Int)) /\ l.Nodup /\ (∀ j ∈ l, j < W.n /\ bothN (W.inp sh) W.c1 W.c2s (W.nm j) /\ ¬ passedN (W.inp sh) W.c1 W.c2s (W.nm j) /\ ∃ y ∈ R, y.2 = W.nm j) := by
 have all : ∀ y ∈ r, ∃ j, j < W.n /\ y.2 = W.nm j := fun y hy => G.reached (.inl (F.both y (hp.mem_iff.mp hy)).1.1)
 have nd : r.Nodup := hp.nodup_iff.mpr F.nd
 have tm : ∀ y ∈ r, ∀ z ∈ r, y.2 = z.2 -> y = z := fun y hy z hz e => by
  have h1 := F.tm y (hp.mem_iff.mp hy)
  have h2 := F.tm z (hp.mem_iff.mp hz)
  exact Prod.ext (by rw [h1, h2, e]) e
 have key : ∀ r' : List Rank, (∀ y ∈ r', y ∈ r) -> r'.Nodup -> ∃ l : List Nat, r'.map (·.2) = l.map W.nm /\ W.spots (r'.map (·.2)) = l.map (fun i : Nat => (i : Int)) /\ l.Nodup /\ ∀ j ∈ l, j < W.n /\ ∃ y ∈ r', y.2 = W.nm j := by
  intro r'
  induction r' with
  | nil => exact fun _ _ => ⟨[], rfl, rfl, List.nodup_nil, fun j hj => (nomatch hj)⟩
  | cons y q ih =>
   intro hm nd'
   refine o01 (List.nodup_cons.mp nd') fun n1 n2 => ?_
   refine o13 (ih (fun z hz => hm z (List.mem_cons_of_mem _ hz)) n2) fun l e1 e2 e3 e4 => ?_
   refine o11 (all y (hm y List.mem_cons_self)) fun j hj ej => ?_
   have one : (rangeOf 0 W.n 1).filter (fun k => W.names.getD k.toNat [] == y.2) = [(j : Int)] := by
    refine filter_one (up_nodup _) (mem_up.mpr (by lia)) fun x hx => ?_
    have := mem_up.mp hx
    rw [beq_iff_eq, ej]
    constructor
    ·intro h
     have := G.nm x.toNat j (by lia) hj h
     lia
    ·rintro rfl
     rw [Int.toNat_natCast]; rfl
   refine ⟨j :: l, ?_, ?_, List.nodup_cons.mpr ⟨fun h => ?_, e3⟩, fun i hi => ?_⟩
   ·rw [List.map_cons, List.map_cons, e1, ej]
   ·unfold Wd.spots at e2 ⊢
    rw [List.map_cons, List.flatMap_cons, one, e2]; rfl
   ·refine o01 (e4 j h) fun _ zz => o11 zz fun z hz ez => ?_
    have : y = z := tm y (hm y List.mem_cons_self) z (hm z (List.mem_cons_of_mem _ hz)) (by rw [ej, ez])
    exact n1 (this ▸ hz)
   ·rcases List.mem_cons.mp hi with rfl | hi
    ·exact ⟨hj, y, List.mem_cons_self, ej⟩
    ·refine o01 (e4 i hi) fun a zz => o11 zz fun z b c => ?_
     exact ⟨a, z, List.mem_cons_of_mem _ b, c⟩
 refine o13 (key r (fun y hy => hy) nd) fun l e1 e2 e3 e4 => ?_
 refine ⟨l, e1, e2, e3, fun j hj => ?_⟩
 refine o01 (e4 j hj) fun a zz => o11 zz fun y hy ey => ?_
 have hR := hp.mem_iff.mp hy
 refine o01 (F.both y hR) fun b1 b2 => ?_
 rw [ey] at b1 b2
 exact ⟨a, b1, b2, y, hR, ey⟩
theorem Wd.Good.len_of {l : List Nat} (nd : l.Nodup) (h : ∀ j ∈ l, j < W.n) : l.length <= 18 := by
 have h1 : l.length <= (List.range W.n).length := List.Nodup.length_le_of_subset nd fun j hj => List.mem_range.mpr (h j hj)
 have := G.n18
 rw [List.length_range] at h1
 lia
omit G in
theorem rises_time {sh : Bool} {R r : List Rank} (F : Fin (W.inp sh) W.c1 W.c2s R) (hp : r.Perm R) (ht : TimeSorted r) : risesF (r.map (·.2)) W.T = true := by
 refine rises_of ht fun y hy => ?_
 rw [F.tm y (hp.mem_iff.mp hy)]
 unfold rk
 have : (W.inp sh).T = W.T := rfl
 rw [this]
 cases W.T y.2 with
 | none => rfl
 | some t => simp
theorem Wd.Good.torn_iff {j : Nat} (hj : j < W.n) {sh : Bool} : W.torn j = true ↔ ((W.inp sh).P (W.nm j) = none \/ ∃ ps, (W.inp sh).P (W.nm j) = some ps /\ ∃ y ∈ ps, (W.inp sh).T y = none) := by
 have eP : (W.inp sh).P (W.nm j) = _ := G.P_nm hj
 have eT : ∀ e, 0 <= e /\ e < (j : Int) -> (W.inp sh).T (W.name e) = if W.known.getD e.toNat false = true then some (W.stamps.getD e.toNat 0) else none := fun e he => G.T_nm (by lia)
 rw [eP]
 unfold Wd.torn
 rw [Int.toNat_natCast]
 by_cases hw : W.whole.getD j false = true
 ·rw [if_pos hw, hw]
  simp only [Bool.not_true, Bool.false_or, Bool.not_eq_true', decide_eq_false_iff_not, reduceCtorEq, false_or, Option.some.injEq, exists_eq_left']
  rw [List.filter_eq_nil_iff]
  constructor
  ·intro h
   refine Classical.byContradiction fun hn => h fun e he q => ?_
   apply hn
   refine ⟨W.name e, List.mem_map_of_mem he, ?_⟩
   rw [eT e (G.ok j hj e he), if_neg (by rw [Bool.not_eq_true'] at q; rw [q]; exact nofun)]
  ·rintro ⟨y, hy, h⟩ hf
   refine o11 (List.mem_map.mp hy) ?_; rintro e he rfl
   rw [eT e (G.ok j hj e he)] at h
   have := hf e he
   split at h
   ·exact No.sn h
   ·rename_i hk
    apply this
    rw [Bool.not_eq_true']
    simpa using hk
 ·rw [if_neg hw]
  have : W.whole.getD j false = false := by simpa using hw
  rw [this]; simp
theorem Wd.Good.lost_iff : W.lost = [] ↔ W.T W.c1 ≠ none /\ ∀ c ∈ W.c2s, W.T c ≠ none := by
 unfold Wd.lost
 rw [List.filter_eq_nil_iff]
 have key : ∀ k : Int, 0 <= k /\ k < W.n -> (¬ (!W.known.getD k.toNat false) = true ↔ W.T (W.name k) ≠ none) := fun k hk => by
  have : W.T (W.name k) = _ := G.T_nm (k := k.toNat) (by lia)
  rw [this]
  cases W.known.getD k.toNat false <;> simp
 constructor
 ·intro h
  refine ⟨(key _ G.first).mp (h _ List.mem_cons_self), fun c hc => ?_⟩
  refine o11 (List.mem_map.mp hc) ?_; rintro o ho rfl
  exact (key o (G.others o ho)).mp (h o (List.mem_cons_of_mem _ ho))
 ·rintro ⟨h1, h2⟩ k hk
  rcases List.mem_cons.mp hk with rfl | hk
  ·exact (key _ G.first).mpr h1
  ·exact (key k (G.others k hk)).mpr (h2 _ (List.mem_map_of_mem hk))
end
end Mine
namespace Mine
theorem bits_zero {m : Nat} (h : ∀ j, m.testBit j = false) : (m : Int) = 0 := by
 have : m = 0 := Nat.eq_of_testBit_eq fun i => by rw [h i]; simp
 rw [this]; rfl
section
variable {W : Wd} (G : W.Good)
include G
theorem Wd.Good.nodup : W.names.Nodup := by
 refine List.pairwise_iff_getElem.mpr fun i j hi hj hij he => ?_
 have hl := G.ln
 have := G.nm i j (by lia) (by lia) (by rw [List.getD_eq_getElem?_getD, List.getD_eq_getElem?_getD, List.getElem?_eq_getElem hi, List.getElem?_eq_getElem hj, he])
 lia
theorem fine_all {told : Option Names} {again : Names} (h1 : LcasOut (W.inp false) (W.name W.first) (W.others.map W.name) told) (h2 : LcasOut (W.inp true) (W.name W.begin) (W.ends.map W.name) (some again)) : W.Fine told again := by
 refine o40 G.masks fun m1 m2 mb ml M => ?_
 have hsame := G.same
 have h2' := h2
 obtain ⟨l1, ls, fl, fl', cd, r, a1, a2, a3, hp, hts, rfl⟩ := h2
 refine o11 (run_inv (start_inv a1 a2) a3) fun ls' J hc => ?_
 have F : Fin (W.inp true) W.c1 W.c2s (resM fl' cd) := hsame.fin (run_fin J hc)
 refine o13 (G.spots_of F hp) fun l el es lnd hl => ?_
 have lx : ∀ x : Int, x ∈ W.spots (r.map (·.2)) ↔ 0 <= x /\ x.toNat ∈ l := fun x => by
  rw [es, List.mem_map]
  constructor
  ·rintro ⟨i, hi, rfl⟩
   exact ⟨by lia, by rw [Int.toNat_natCast]; exact hi⟩
  ·rintro ⟨h0, hx⟩
   exact ⟨x.toNat, hx, by lia⟩
 refine o11 (mask_spec (W.spots (r.map (·.2))) fun x hx => ((lx x).mp hx).1) fun mk emk hmk => ?_
 have hmk : ∀ j : Nat, mk.testBit j = true ↔ j ∈ l := fun j => by
  rw [hmk j, lx]
  simp
 have llen := G.len_of lnd fun j hj => (hl j hj).1
 have eboth : W.both = ((m1 &&& m2 : Nat) : Int) := by unfold Wd.both; rw [M.one, M.two, nat_pp]
 have etop : W.top = (((m1 &&& m2) ^^^ ((m1 &&& m2) &&& mb) : Nat) : Int) := by unfold Wd.top; rw [eboth, M.below, nat_diff]
 have htop : ∀ j, ((m1 &&& m2) ^^^ ((m1 &&& m2) &&& mb)).testBit j = true ↔ j < W.n /\ bothN (W.inp true) W.c1 W.c2s (W.nm j) /\ ¬ belowN (W.inp true) W.c1 W.c2s (W.nm j) := fun j => by
  rw [diff_bit, Nat.testBit_and]
  simp only [Bool.and_eq_true, Bool.not_eq_true']
  constructor
  ·rintro ⟨⟨x1, x2⟩, x3⟩
   have hj := M.hi j x1
   refine ⟨hj, ⟨(M.b1 true j hj).mp x1, (M.b2 true j hj).mp x2⟩, fun q => ?_⟩
   rw [(M.bb true j hj).mpr q] at x3; exact No.tf x3
  ·rintro ⟨hj, ⟨x1, x2⟩, x3⟩
   refine ⟨⟨(M.b1 true j hj).mpr x1, (M.b2 true j hj).mpr x2⟩, ?_⟩
   generalize q : mb.testBit j = zz; induction zz with
   | false => rfl
   | true => exact absurd ((M.bb true j hj).mp q) x3
 have topin : ∀ j, j < W.n -> bothN (W.inp true) W.c1 W.c2s (W.nm j) -> ¬ belowN (W.inp true) W.c1 W.c2s (W.nm j) -> j ∈ l := fun j hj hb hn => by
  have hm := F.full _ hb hn
  have : W.nm j ∈ l.map W.nm := by
   rw [<- el]
   exact List.mem_map_of_mem (f := fun y : Rank => y.2) (hp.mem_iff.mpr hm)
  refine o11 (List.mem_map.mp this) fun i hi e => ?_
  have := G.nm i j (hl i hi).1 hj e
  rw [<- this]; exact hi
 have alen : (r.map (·.2)).length <= 60 := by rw [el, List.length_map]; lia
 refine ⟨?_, alen, ?_, ?_, ?_, ?_, rises_time F hp hts, ?_, fun k hk hw => ?_⟩
 ·-- what told tells
  induction told with
  | none =>
   rintro ⟨q1, q2⟩
   refine o01 (G.lost_iff.mp q1) fun k1 k2 => ?_
   refine o11 ((lcas_tot (I := W.inp false) (N := W.names) (c1 := W.c1) (c2s := W.c2s) G.nodup (fun c ps h => (folk_vals G (Nat.le_refl _) c ps h).1) (by rw [G.ln]; exact G.n18) (G.name_mem G.first) (fun c hc => by
    refine o11 (List.mem_map.mp hc) ?_; rintro x hx rfl
    exact G.name_mem (G.others x hx)) (by unfold Wd.c2s; rw [List.length_map]; exact G.ol)).1) fun o ho hraise => ?_
   have h1 : lcasM (W.inp false) 1000 W.c1 W.c2s = some none := h1
   rw [h1] at ho
   refine o01 (hraise (Option.some.inj ho).symm) ?_; rintro _ (h | ⟨c, hc, h⟩ | ⟨_, x, hx, h⟩)
   ·exact k1 h
   ·exact k2 c hc h
   ·refine o11 (G.reached hx) ?_; rintro j hj rfl
    have ht := (G.torn_iff hj (sh := false)).mpr h
    have hb : (j : Int) ∈ W.might := by
     unfold Wd.might Wd.broken
     refine List.mem_filter.mpr ⟨List.mem_filter.mpr ⟨mem_up.mpr (by lia), ht⟩, ?_⟩
     rw [M.one, M.two, nat_or, beq_iff_eq, bit_one, Int.toNat_natCast]
     exact (fromS_sh M hj).mpr hx
    rw [q2] at hb; (rcases hb with ⟨⟩)
  | some nm =>
   have hpm : nm.Perm (r.map (·.2)) := swap_same (I := W.inp false) rfl hsame h1 h2'
   obtain ⟨l1, ls, fl, fl', cd, q, b1, b2, b3, hq, hqs, rfl⟩ := h1
   refine o03 (start_rel b1 b2) fun _ _ _ kn => ?_
   refine o11 (run_inv (start_inv b1 b2) b3) fun ls' J hc => ?_
   have F1 : Fin (W.inp false) W.c1 W.c2s (resM fl' cd) := run_fin J hc
   refine ⟨G.lost_iff.mpr (kn rfl), ?_, ?_, rises_time F1 hq hqs, by rw [hpm.length_eq]; exact alen⟩
   ·unfold Wd.sure Wd.broken
    rw [List.filter_eq_nil_iff]
    intro x hx hbit
    refine o01 (List.mem_filter.mp hx) fun hx1 hx2 => ?_
    have hx1 := mem_up.mp hx1
    have hlt : x.toNat < W.n := by lia
    have ex : x = (x.toNat : Int) := by lia
    rw [M.one, M.two, M.below, nat_or, nat_diff, beq_iff_eq, bit_one, diff_bit, Bool.and_eq_true, Bool.not_eq_true'] at hbit
    have hre := (fromS_sh M hlt (sh := false)).mp hbit.1
    have hnb : ¬ belowN (W.inp false) W.c1 W.c2s (W.nm x.toNat) := fun q => by
     rw [(M.bb false _ hlt).mpr q] at hbit
     cases hbit.2
    refine o11 (F1.sure rfl _ hre hnb) fun ps e1 e2 => ?_
    rw [ex] at hx2
    rcases (G.torn_iff hlt (sh := false)).mp hx2 with h | ⟨ps', e1', y, hy, hn⟩
    ·rw [e1] at h; exact No.sn h
    ·rw [e1] at e1'; obtain rfl := Option.some.inj e1'
     exact e2 y hy hn
   ·exact sortB_unique ((sortB_perm _).trans hpm) (sortB_sorted _)
 ·rw [es, el, List.length_map, List.length_map]
 ·intro j x hx
  have hx : (l.map (fun i : Nat => (i : Int)))[j]? = some x := by rw [<- es]; exact hx
  rw [List.getElem?_map] at hx
  generalize hi : l[j]? = zz; induction zz with
  | none => rw [hi] at hx; exact No.ns hx
  | some i =>
   rw [hi] at hx
   obtain rfl := Option.some.inj hx
   refine o10 (List.getElem?_eq_some_iff.mp hi) fun hji eji => ?_
   have him : i ∈ l := eji ▸ List.getElem_mem hji
   refine o03 (hl i him) fun hin hb hnp _ => ?_
   refine ⟨?_, ?_, fun q => hnp ?_⟩
   ·rw [es, <- List.map_take]
    refine o11 (mask_spec ((l.take j).map (fun i : Nat => (i : Int))) fun x hx => by
     refine o11 (List.mem_map.mp hx) ?_; rintro y _ rfl
     lia) fun mt emt hmt => ?_
    rw [emt]
    intro q
    rw [bitI_one, Int.toNat_natCast, hmt, List.mem_map] at q
    refine o11 q ?_; clear q; rintro y hy e
    have e : y = i := by lia
    subst e
    refine o10 (List.mem_iff_getElem.mp hy) fun k zz => o10 zz fun hk ek => ?_
    rw [List.length_take] at hk
    rw [List.getElem_take] at ek
    have := (List.getElem_inj lnd).mp (ek.trans eji.symm)
    lia
   ·rw [eboth]
    intro q
    rw [bitI_zero, Int.toNat_natCast, Nat.testBit_and, (M.b1 true i hin).mpr hb.1, (M.b2 true i hin).mpr hb.2] at q
    exact No.tf q
   ·have := G.passed (sh := true) (x := (i : Int)) (by lia) q.2
    rw [Int.toNat_natCast] at this
    exact this
 ·rw [etop, emk, nat_diff]
  refine bits_zero fun j => ?_
  rw [diff_bit]
  generalize q : ((m1 &&& m2) ^^^ ((m1 &&& m2) &&& mb)).testBit j = zz; induction zz with
  | false => rfl
  | true =>
   refine o02 ((htop j).mp q) fun hj hb hn => ?_
   rw [(hmk j).mpr (topin j hj hb hn)]; rfl
 ·refine o11 (next_spec G.rds mk) fun mn emn hmn => ?_
  rw [emk, emn, nat_pp]
  refine bits_zero fun j => ?_
  rw [Nat.testBit_and]
  generalize q1 : mk.testBit j = zz; induction zz with
  | false => rfl
  | true =>
   generalize q2 : mn.testBit j = zz; induction zz with
   | false => rfl
   | true =>
    exfalso
    refine o11 ((hmn j).mp q2) fun k hk hR => ?_
    have hk := (hmk k).mp hk
    have hj := (hmk j).mp q1
    refine o03 (hl k hk) fun hkn _ _ zz => o11 zz fun y hy ey => ?_
    refine o03 (hl j hj) fun hjn _ _ zz => o11 zz fun z hz ez => ?_
    refine F.anti y hy z hz ?_
    rw [ey, ez]
    exact (G.edge_nm hkn).mpr ⟨j, rfl, hR⟩
 ·intro hlie
  rw [M.one, M.two, M.lies, nat_or, nat_pp] at hlie
  have hno : ∀ j, (m1 ||| m2).testBit j = true -> ml.testBit j = false := fun j hj => by
   have h0 : ((m1 ||| m2) &&& ml).testBit j = false := by
    have : ((m1 ||| m2) &&& ml) = 0 := by lia
    rw [this]; simp
   rw [Nat.testBit_and, hj] at h0
   simpa using h0
  have nolie : ∀ x y, fromS (W.inp true) anyN [W.c1] x \/ fromS (W.inp true) anyN W.c2s x -> edge (W.inp true) x y -> rle (rk (W.inp true) x) (rk (W.inp true) y) := fun x y hx e => by
   refine o11 (G.reached hx) ?_; rintro j hj rfl
   refine o11 ((G.edge_nm hj).mp e) ?_; rintro i rfl hR
   have hlt := G.R_lt hR
   rw [G.rk_nm hj, G.rk_nm (by lia)]
   have h0 := hno j ((fromS_sh M hj).mpr hx)
   generalize q : rankLt (W.ranks.getD i (0, [])) (W.ranks.getD j (0, [])) = zz; induction zz with
   | false => exact q
   | true =>
    rw [(M.bl j).mpr ⟨hj, i, hR, q⟩] at h0; exact No.tf h0
  let ix : List UInt8 -> Nat := fun x => W.names.idxOf x
  have hix : ∀ j, j < W.n -> ix (W.nm j) = j := fun j hj => by
   have hlt : j < W.names.length := by rw [G.ln]; exact hj
   have e : W.nm j = W.names[j] := by unfold Wd.nm; rw [List.getD_eq_getElem?_getD, List.getElem?_eq_getElem hlt]; rfl
   show W.names.idxOf (W.nm j) = j
   rw [e, G.nodup.idxOf_getElem]
  have nob : ∀ j ∈ l, ¬ belowN (W.inp true) W.c1 W.c2s (W.nm j) := fun j hj hb => by
   refine o03 (hl j hj) fun hjn _ hnp _ => ?_
   refine hnp ?_
   refine o11 hb ?_; clear hb; rintro m mb' e
   refine passed_below (fun x => if x ∈ W.names then ix x else 0) (fun x y hxy => ?_) nolie ⟨m, mb', e⟩
   refine o12 (id hxy) fun ps hP hy hok => ?_
   have hx : x ∈ W.names := folk_keys (by rw [G.ln]; exact Nat.le_refl _) x (by
    have hP : W.P x = some ps := hP
    unfold Wd.P at hP
    rw [hP]; exact nofun)
   refine o10 (List.mem_iff_getElem.mp hx) fun k zz => o10 zz fun hk ek => ?_
   have hkn : k < W.n := by rw [<- G.ln]; exact hk
   have exk : x = W.nm k := by unfold Wd.nm; rw [List.getD_eq_getElem?_getD, List.getElem?_eq_getElem hk]; exact ek.symm
   subst exk
   refine o11 ((G.edge_nm hkn).mp hxy) ?_; rintro i rfl hR
   have hlt := G.R_lt hR
   have mem : ∀ j, j < W.n -> W.nm j ∈ W.names := fun j hj => by
    have := G.name_mem (k := (j : Int)) (by lia)
    rw [Wd.name_nm, Int.toNat_natCast] at this
    exact this
   simp only [mem i (by lia), mem k hkn, if_true]
   rw [hix i (by lia), hix k hkn]
   exact hlt.1
  symm
  refine sortI_unique ?_ ?_
  ·refine (List.perm_ext_iff_of_nodup ?_ ?_).mpr fun x => ?_
   ·exact (up_nodup W.n).filter _
   ·rw [es]
    exact List.pairwise_map.mpr (lnd.imp fun h q => h (by lia))
   ·unfold Wd.tops
    rw [List.mem_filter, mem_up, lx, etop, beq_iff_eq, bitI_one, htop]
    constructor
    ·rintro ⟨a, b, c, d⟩
     exact ⟨a.1, topin _ b c d⟩
    ·rintro ⟨a, b⟩
     refine o02 (hl _ b) fun hn hb _ => ?_
     exact ⟨⟨a, by lia⟩, hn, hb, nob _ b⟩
  ·unfold Wd.tops
   exact ((up_lt W.n).imp fun h => Int.le_of_lt h).filter _
 ·have := G.P_nm hk
  rw [if_pos hw] at this
  exact this
theorem plain_ok : PlainOk W := by
 have hN := G.nodup
 have hPN : ∀ sh c ps, (W.inp sh).P c = some ps -> ∀ d ∈ ps, d ∈ W.names := fun sh c ps h => (folk_vals G (Nat.le_refl _) c ps h).1
 have hl : W.names.length <= 18 := by rw [G.ln]; exact G.n18
 have hnm : ∀ S : List Int, (∀ o ∈ S, 0 <= o /\ o < W.n) -> ∀ c ∈ S.map W.name, c ∈ W.names := fun S hS c hc => by
  refine o11 (List.mem_map.mp hc) ?_; rintro x hx rfl
  exact G.name_mem (hS x hx)
 refine o01 (lcas_tot (I := W.inp false) (c1 := W.name W.first) (c2s := W.others.map W.name) hN (hPN false) hl (G.name_mem G.first) (hnm _ G.others) (by rw [List.length_map]; exact G.ol)) ?_; rintro ⟨o1, t1, _⟩ c1
 refine o01 (lcas_tot (I := W.inp true) (c1 := W.name W.begin) (c2s := W.ends.map W.name) hN (hPN true) hl (G.name_mem G.begin_ok) (hnm _ G.ends_ok.1) (by rw [List.length_map]; exact G.ends_ok.2)) ?_; rintro ⟨o2, t2, n2⟩ c2
 exact ⟨⟨o1, t1⟩, c1, ⟨o2, t2⟩, c2, fun h => by
  rw [h] at t2
  exact absurd (n2 (Option.some.inj t2).symm).1 (by show ¬ true = false; decide), fun told again h1 h2 => fine_all G h1 h2⟩
end
end Mine
open Sem (wp)
namespace Mine
noncomputable def dPt : Data -> Option FuncData × Option (Array DictEntry) × Option (Array Value)
 | .func f => (some f, none, none)
 | .dict es _ => (none, some es, none)
 | .seq vs _ => (none, none, some vs)
 | _ => (none, none, none)
theorem dPt_f {d : Data} {x : FuncData} (h : (dPt d).1 = some x) : d = .func x := by
 rcases d with ⟨⟩ <;> first | exact No.ns h | exact congrArg _ (Option.some.inj h)
theorem dPt_d {d : Data} {x : Array DictEntry} (h : (dPt d).2.1 = some x) : ∃ n, d = .dict x n := by
 rcases d with ⟨⟩ <;> first | exact No.ns h | exact ⟨_, congrArg (Data.dict · _) (Option.some.inj h)⟩
theorem dPt_s {d : Data} {x : Array Value} (h : (dPt d).2.2 = some x) : ∃ n, d = .seq x n := by
 rcases d with ⟨⟩ <;> first | exact No.ns h | exact ⟨_, congrArg (Data.seq · _) (Option.some.inj h)⟩
theorem bind_some {α β : Type} {o : Option α} {f : α -> Option β} {x : β} (h : o.bind f = some x) : ∃ y, o = some y /\ f y = some x := Option.bind_eq_some_iff.mp h
noncomputable def fnIn (K : Frag) (a : Addr) : Option FuncData := (K.lookup a).bind fun o => (dPt o.data).1
noncomputable def recIn (K : Frag) (a : Addr) : Bool := match fnIn K a with
 | some fd => codeIn K fd.code fd.qualname
 | none => false
noncomputable def FnOk (K : Frag) (a : Addr) (f : Stmt) (dfl : Value) : Prop := fnIn K a = (fnIn K a).map (fdOf f dfl) /\ (fnIn K a).isSome = true /\ recIn K a = true
noncomputable def dcIn (K : Frag) : Option (Array DictEntry) := (K.lookup mainGlobals).bind fun o => (dPt o.data).2.1
noncomputable def nsAt (K : Frag) (x : Str) : Option (Option Value) := (dcIn K).map (nsFind · x)
noncomputable def sqIn (K : Frag) (a : Addr) : Option (Array Value) := (K.lookup a).bind fun o => (dPt o.data).2.2
noncomputable def tokOf : Value -> Nat
 | .int _ t => t
 | _ => 0
noncomputable def two (K : Frag) (a : Addr) : Option (Array Value) := some #[.int 0 (tokOf (((sqIn K a).getD #[]).toList.headD .none)), .none]
noncomputable def theFA (K : Frag) : FA := ⟨K, 90, 80, 56, 63, 70, 77, 97, 104, 111, 118, 89, 87, 122, 120, 85⟩
theorem fnIn_some {K : Frag} {a : Addr} {g : FuncData} (e : fnIn K a = some g) : ∃ o, K.lookup a = some o /\ o.data = .func g :=
 o11 (bind_some e) fun o h1 h2 => ⟨o, h1, dPt_f h2⟩
theorem FnOk.get {K : Frag} {a : Addr} {f : Stmt} {dfl : Value} (x : FnOk K a f dfl) : ∃ o g, fnIn K a = some g /\ K.lookup a = some o /\ o.data = .func (fdOf f dfl g) /\ codeIn K g.code g.qualname = true := by
 refine o02 x fun e1 e2 e3 => ?_
 refine o10 (Option.isSome_iff_exists.mp e2) fun g eg => ?_
 refine o11 (fnIn_some eg) fun o ho hd => ?_
 rw [eg] at e1
 have e1 : g = fdOf f dfl g := Option.some.inj e1
 unfold recIn at e3
 rw [eg] at e3
 exact ⟨o, g, eg, ho, e1 ▸ hd, e3⟩
theorem FnOk.at {K : Frag} {a : Addr} {f : Stmt} {dfl : Value} (x : FnOk K a f dfl) {h : Heap} (X : K.In h) : FunAt h a f dfl :=
 o23 x.get fun o g _ a b c =>
 ⟨o, g, X _ _ a, b, codeRec_of X c⟩
theorem nsAt_of {K : Frag} {h : Heap} {mg : Str -> Option Value} (X : K.In h) (G : h.Ns mainGlobals mg) {x : Str} {r : Option Value} (e : nsAt K x = some r) : mg x = r := by
 refine o33 G fun o es ep ho hd _ hf => ?_
 refine o11 (Option.map_eq_some_iff.mp e) fun d h1 h2 => ?_
 refine o11 (bind_some h1) fun q h3 h4 => ?_
 refine o10 (dPt_d h4) fun n h5 => ?_
 rw [<- Option.some.inj ((X _ _ h3).symm.trans ho)] at hd
 obtain ⟨rfl, _⟩ := Data.dict.inj (h5.symm.trans hd)
 exact (hf x).symm.trans h2
structure Facts (K : Frag) : Prop where
 down : FnOk K 97 (topDef "_law_down") .none
 next : FnOk K 104 (topDef "_law_next") .none
 passed : FnOk K 111 (topDef "_law_passed") .none
 rises : FnOk K 118 (topDef "_law_rises") .none
 init : FnOk K 56 (workDef "__init__") .none
 add : FnOk K 63 (workDef "add") .none
 get : FnOk K 70 (workDef "get") .none
 iter : FnOk K 77 (workDef "iter") .none
 lcas : FnOk K 90 lcasDef (.ref 85)
 law : FnOk K 123 lawDef .none
 clcas : (fnIn K 90).map (·.code) = some (.ref 89)
 claw : (fnIn K 123).map (·.code) = some (.ref 122)
 pair : sqIn K 85 = two K 85
 wk : Wk (theFA K)
 hdLcas : codeHdIn K 89 87 = true
 hdLaw : codeHdIn K 122 120 = true
 no1 : K.lookup 87 = none
 no2 : K.lookup 120 = none
 names : ∀ p ∈ [(("law" : Str), (123 : Addr)), ("_law_down", 97), ("_law_next", 104), ("_law_passed", 111), ("_law_rises", 118), ("_find_lcas", 90), ("WorkList", 80)], nsAt K p.1 = some (some (.ref p.2))
 push : nsAt K "heappush" = some (some (.builtin "_heapq.heappush"))
 pop : nsAt K "heappop" = some (some (.builtin "_heapq.heappop"))
 none : ∀ x ∈ (["len", "abs", "sum", "max", "range", "bytes", "sorted", "zip", "set", "KeyError"] : List Str), nsAt K x = some none
theorem pair_of {K : Frag} {a : Addr} (e : sqIn K a = two K a) : ∃ o n tk, K.lookup a = some o /\ o.data = .seq #[.int 0 tk, .none] n :=
 o11 (bind_some e) fun o h1 h2 => o10 (dPt_s h2) fun n h3 => ⟨o, n, _, h1, h3⟩
theorem boot_ok : bootBuiltins "len" = some (.builtin "len") /\ bootBuiltins "abs" = some (.builtin "abs") /\ bootBuiltins "sum" = some (.builtin "sum") /\ bootBuiltins "max" = some (.builtin "max") /\ bootBuiltins "range" = some (.type "range") /\ bootBuiltins "bytes" = some (.type "bytes") /\
  bootBuiltins "sorted" = some (.builtin "sorted") /\ bootBuiltins "zip" = some (.type "zip") /\ bootBuiltins "set" = some (.type "set") /\ bootBuiltins "KeyError" = some (.type "KeyError") := by
 refine ⟨?_, ?_, ?_, ?_, ?_, ?_, ?_, ?_, ?_, ?_⟩ <;> first | rfl | kernel_rfl
section
variable {K : Frag} {h : Heap} {mg mb : Str -> Option Value}
theorem facts_bas (FX : Facts K) (X : K.In h) (G : h.Ns mainGlobals mg) (B : h.Ns builtinsNs mb) (hb : ∀ x : Str, x ≠ "__name__" -> mb x = bootBuiltins x) (nl : h.NoLimit) : Bas (theFA K) h := by
 have own : ∀ x a, (x, a) ∈ [(("law" : Str), (123 : Addr)), ("_law_down", 97), ("_law_next", 104), ("_law_passed", 111), ("_law_rises", 118), ("_find_lcas", 90), ("WorkList", 80)] -> (mg x).or (mb x) = some (.ref a) := fun x a hm => by
  rw [nsAt_of X G (FX.names (x, a) hm)]; rfl
 have bui : ∀ x v, x ∈ (["len", "abs", "sum", "max", "range", "bytes", "sorted", "zip", "set", "KeyError"] : List Str) -> x ≠ "__name__" -> bootBuiltins x = some v -> (mg x).or (mb x) = some v := fun x v hm hx hv => by
  rw [nsAt_of X G (FX.none x hm), hb x hx, hv]; rfl
 obtain ⟨b1, b2, b3, b4, b5, b6, b7, b8, b9, b10⟩ := boot_ok
 refine ⟨⟨mg, mb, G, B, fun f => ?_, fun p hp => ?_⟩, nl⟩
 ·rcases f with ⟨⟩
  ·exact bui _ _ (by simp [Fn.str]) (by decide) b1
  ·exact bui _ _ (by simp [Fn.str]) (by decide) b2
  ·exact bui _ _ (by simp [Fn.str]) (by decide) b3
  ·exact bui _ _ (by simp [Fn.str]) (by decide) b4
  ·exact bui _ _ (by simp [Fn.str]) (by decide) b5
  ·exact bui _ _ (by simp [Fn.str]) (by decide) b6
  ·exact bui _ _ (by simp [Fn.str]) (by decide) b7
  ·exact own "_law_down" 97 (.tail _ (.head _))
  ·exact own "_law_next" 104 (.tail _ (.tail _ (.head _)))
  ·exact own "_law_passed" 111 (.tail _ (.tail _ (.tail _ (.head _))))
  ·exact own "_law_rises" 118 (.tail _ (.tail _ (.tail _ (.tail _ (.head _)))))
 ·unfold FA.more at hp
  simp only [List.mem_cons, List.not_mem_nil, or_false] at hp
  rcases hp with rfl | rfl | rfl | rfl | rfl | rfl | rfl
  ·exact bui _ _ (by simp) (by decide) b8
  ·exact bui _ _ (by simp) (by decide) b9
  ·exact bui _ _ (by simp) (by decide) b10
  ·exact own "_find_lcas" 90 (.tail _ (.tail _ (.tail _ (.tail _ (.tail _ (.head _))))))
  ·exact own "WorkList" 80 (.tail _ (.tail _ (.tail _ (.tail _ (.tail _ (.tail _ (.head _)))))))
  ·show (mg "heappush").or (mb "heappush") = _
   rw [nsAt_of X G FX.push]; rfl
  ·show (mg "heappop").or (mb "heappop") = _
   rw [nsAt_of X G FX.pop]; rfl
theorem facts_lcas (FX : Facts K) : ∃ o g, K.lookup 90 = some o /\ o.data = .func (fdOf lcasDef (.ref 85) g) /\ codeIn K g.code g.qualname = true /\ g.code = .ref 89 := by
 refine o23 FX.lcas.get fun o g e0 e1 e2 e3 => ?_
 refine ⟨o, g, e1, e2, e3, ?_⟩
 have := FX.clcas
 rw [e0] at this
 exact Option.some.inj this
theorem facts_funs (FX : Facts K) (X : K.In h) (bm : BMain h) : Funs (theFA K) h := by
 refine ⟨fun f hf => ?_, X, FX.wk, FX.init.at X, FX.add.at X, FX.get.at X, FX.iter.at X, bm, ?_, codeHd_of_K X FX.hdLcas, codeHd_of_K X FX.hdLaw⟩
 ·rcases f with ⟨⟩ <;> first | cases hf | skip
  ·exact FX.down.at X
  ·exact FX.next.at X
  ·exact FX.passed.at X
  ·exact FX.rises.at X
 ·refine o23 (facts_lcas FX) fun o g e1 e2 e3 e4 => ?_
  refine o31 (pair_of FX.pair) fun od n tk d1 d2 => ?_
  exact ⟨o, g, od, n, tk, X _ _ e1, e2, codeRec_of X e3, e4, X _ _ d1, d2⟩
end
theorem ints_rep {P : Params} {hc : PH} : ∀ {vs : List Value} {l : List Int}, IntsAre vs l -> Rel2 (Rep P hc .int) l vs
 | _, _, .nil => .nil
 | _, _, .cons n t r => .cons ⟨t, rfl⟩ (ints_rep r)
theorem ns_stays {h h' : Heap} {a L P : Addr} {m : Str -> Option Value} (G : h.Ns a m) (i : (allBut2 h L P).In h') (h1 : a ≠ L) (h2 : a ≠ P) : h'.Ns a m :=
 o31 G fun o es ep ho r => ⟨o, es, ep, i _ _ (allBut2_at ho h1 h2), r⟩
theorem law_top {prog : Program} {w : World} {K : Frag} {s : Shared} {mg mb : Str -> Option Value} {fa L : Addr} {vs : List Value} {l : List Int} {Q : Value -> Shared -> Prop} {E : Value -> Shared -> Prop}
  (FX : Facts K) (X : K.In s.heap) (G : s.heap.Ns mainGlobals mg) (B : s.heap.Ns builtinsNs mb) (hb : ∀ x : Str, x ≠ "__name__" -> mb x = bootBuiltins x) (nl : s.heap.NoLimit)
  (bm : ∃ bm ob, mg "__builtins__" = some (.ref bm) /\ bm ≠ builtinsNs /\ s.heap.get? bm = some ob /\ ob.cls = .type "module" /\ ob.dict = some builtinsNs /\ ob.data = .plain)
  (hT : ∀ P ∈ ([87, 120] : List Addr), s.heap.get? P = some (tabObj #[])) (hmg : mg "law" = some (.ref fa)) (hg : s.gens = #[]) (hL : s.heap.IsList L vs.toArray) (hI : IntsAre vs l) (hl : l.length <= 63)
  (h : ∀ s', OldK s.heap s'.heap -> s'.os = s.os -> AllBare s'.gens -> Q (.bool true) s') : wpAny (model prog w) callerA (call (.ref fa) [.ref L]) Q E s := by
 have t1 := hT 120 (by simp)
 have t2 := hT 87 (by simp)
 let hE : PH := allBut2 s.heap 120 87
 have hn1 : hE 120 = none := by show allBut2 s.heap 120 87 120 = none; unfold allBut2; rw [if_pos (.inl rfl)]
 have hn2 : hE 87 = none := by show allBut2 s.heap 120 87 87 = none; unfold allBut2; rw [if_pos (.inr rfl)]
 have inE : hE.In s.heap := allBut2_in
 have out : ∀ b o, s.heap.get? b = some o -> o.cls ≠ .none -> b ≠ 120 /\ b ≠ 87 := fun b o e hc => by
  refine ⟨fun q => ?_, fun q => ?_⟩
  ·rw [q, t1] at e; obtain rfl := Option.some.inj e; exact hc rfl
  ·rw [q, t2] at e; obtain rfl := Option.some.inj e; exact hc rfl
 have fragE : ∀ a o, K.lookup a = some o -> hE a = some o := fun a o e => allBut2_at (X a o e) (fun q => by rw [q, FX.no2] at e; exact No.ns e) (fun q => by rw [q, FX.no1] at e; exact No.ns e)
 have XE : ∀ h : Heap, hE.In h -> K.In h := fun h i a o e => i _ _ (fragE a o e)
 refine o25 bm fun bma bmo m1 m2 m3 m4 m5 m6 => ?_
 have bmn := out bma bmo m3 (by rw [m4]; exact nofun)
 have gd : Gd (theFA K) hE := fun h i => ⟨facts_bas FX (XE h i) (ns_stays G i (by decide) (by decide)) (ns_stays B i (by decide) (by decide)) hb (let ⟨mc, a, b⟩ := nl; ⟨mc, ns_stays a i (by decide) (by decide), b⟩),
  facts_funs FX (XE h i) ⟨mg, bma, bmo, ns_stays G i (by decide) (by decide), m1, m2, i _ _ (allBut2_at m3 bmn.1 bmn.2), m4, m5, m6⟩⟩
 have efa : fa = 123 := by
  have := nsAt_of X G (FX.names (("law" : Str), 123) (by simp))
  rw [hmg] at this
  cases this; rfl
 subst efa
 refine o23 FX.law.get fun o g e0 e1 e2 e3 => ?_
 have ecode : g.code = .ref 122 := by
  have := FX.claw
  rw [e0] at this
  exact Option.some.inj this
 refine o23 (facts_lcas FX) fun oL gL l1 l2 l3 l4 => ?_
 refine o12 hL fun ol hol hcl zz => o10 zz fun nl' hdl => ?_
 have hLn := out L ol hol (by rw [hcl]; exact nofun)
 have rL : Rep w.params hE (.lst .int) l (.ref L) := ⟨L, vs, rfl, ⟨ol, nl', allBut2_at hol hLn.1 hLn.2, hcl, hdl⟩, ints_rep hI⟩
 have ao : AOk callerA (10 + 1) := ⟨rfl, by decide, by decide⟩
 refine wpAny_call (enter_frameG (gp := AllBare) (h0 := hE) (hc := hE) (f := lawDef) (dfl := .none) (F := theFA K) (d := 10) (xs := [⟨.lst .int, l⟩]) ["script"] [(120, tabObj #[]), (87, tabObj #[])] (X _ _ e1) e2 (codeRec_of X e3) ao gd (by rw [hg]; exact .of_eq rfl) inE PH.le.rfl (.cons rL .nil)
  (fun q hq => ?_) (by simp) (BindsTo.of_eq rfl) (by rfl) (by rfl) (by rfl) fun s₁ S => ?_)
 ·simp only [List.mem_cons, List.not_mem_nil, or_false] at hq
  rcases hq with rfl | rfl
  ·exact ⟨t1, hn1⟩
  ·exact ⟨t2, hn2⟩
 let Kf := lawCf ⟨prog, theFA K, w, 10, callerA, s, hE, g, 123⟩
 have C : LawC Kf gL := by
  refine ⟨rfl, rfl, rfl, ecode, by show 6 <= 10; decide, ⟨oL, fragE _ _ l1, l2⟩, fun h i => codeRec_of (XE h i) l3, l4, ?_, ?_, by kernel_rfl, by kernel_rfl, by kernel_rfl, ?_⟩
  ·refine o31 (pair_of FX.pair) fun od n tk d1 d2 => ?_
   exact ⟨od, n, tk, fragE _ _ d1, d2⟩
  ·refine o23 FX.add.get fun oa ga _ a1 a2 _ => ?_
   exact ⟨oa, ga, fragE _ _ a1, a2⟩
  ·have cellsOk : ∀ n : Nat, ∀ p ∈ cellsFrom n (defScope lawDef).names [], (defScope lawDef).names.lookup p.1 = some .cell /\ (cellsFrom n (defScope lawDef).names []).lookup p.1 = some p.2 := fun n => by
    have e : cellsFrom n (defScope lawDef).names [] = ([("times", n + 15), ("folk", n + 14), ("top", n + 13), ("below", n + 12), ("two", n + 11), ("one", n + 10), ("others", n + 9), ("figure", n + 8), ("k", n + 7), ("whole", n + 6), ("known", n + 5), ("names", n + 4), ("stamps", n + 3), ("clocks", n + 2), ("kin", n + 1), ("count", n)] : List (Str × Addr)) := by kernel_rfl
    rw [e]
    simp only [List.forall_mem_cons, List.not_mem_nil, false_implies, implies_true, and_true]
    refine ⟨⟨?_, ?_⟩, ⟨?_, ?_⟩, ⟨?_, ?_⟩, ⟨?_, ?_⟩, ⟨?_, ?_⟩, ⟨?_, ?_⟩, ⟨?_, ?_⟩, ⟨?_, ?_⟩, ⟨?_, ?_⟩, ⟨?_, ?_⟩, ⟨?_, ?_⟩, ⟨?_, ?_⟩, ⟨?_, ?_⟩, ⟨?_, ?_⟩, ⟨?_, ?_⟩, ⟨?_, ?_⟩⟩ <;> kernel_rfl
   intro y c hm
   exact cellsOk _ (y, c) hm
 have S : Kf.S (ofL [("script", ⟨.lst .int, l⟩)]) [] [(120, tabObj #[]), (87, tabObj #[])] s₁ := Cf.S.to S _ rfl rfl
 refine law_all (Z := ⟨prog, theFA K, w, 10, callerA, s, hE, g, 123⟩) hl (by show 6 <= 10; decide) C S tabFor_nil tabFor_nil (fun W G => plain_ok G) fun s' hd ρ psW psL S' => ?_
 have hin := S'.inn.of_le S'.le
 refine o01 (S'.loose (120, tabObj psW) (.head _)) fun eW _ => ?_
 refine o01 (S'.loose (87, tabObj psL) (.tail _ (.head _))) fun eL _ => ?_
 have grown : ∀ (c P : Addr) (ps : Array Value), codeHdIn K c P = true -> s.heap.get? P = some (tabObj #[]) -> s'.heap.get? P = some (tabObj ps) -> ∀ o, s.heap.get? P = some o -> asItWas s.heap s'.heap P o := fun c P ps hh h0 h1 o ho => by
  rw [h0] at ho; obtain rfl := Option.some.inj ho
  obtain ⟨oc, vc, _, _, _, _, _, _, _, c1, c2, c3, c4, _⟩ := codeHd_of_K X hh
  refine .inr (.inl ⟨⟨c, oc, vc, c1, c2, c3, c4⟩, rfl, #[], ps, rfl, ?_⟩)
  rw [h1]
  simp [tabObj]
 have key : ∀ b o, s.heap.get? b = some o -> asItWas s.heap s'.heap b o := fun b o e => by
  by_cases h1 : b = 120
  ·subst h1; exact grown 122 120 psW FX.hdLaw t1 eW o e
  ·by_cases h2 : b = 87
   ·subst h2; exact grown 89 87 psL FX.hdLcas t2 eL o e
   ·exact .inl (hin b o (allBut2_at e h1 h2))
 refine h s' ⟨key, fun b o e => ?_⟩ ?_ S'.bare
 ·rcases key b o e with k | ⟨_, _, _, _, _, k⟩ | ⟨_, _, ⟨_, _, _, k, _⟩, _⟩
  ·exact ⟨_, k⟩
  ·exact ⟨_, k⟩
  ·exact ⟨_, k⟩
 ·refine o30 S'.same fun h' tk g' e => ?_
  rw [e]
  rfl
end Mine
theorem Mine.look_all {a b : Bool} (x : a = true) (y : b = true) : (a && b) = true := by rw [x, y]; rfl
theorem Mine.said : PySem.Challenge.rw_jq0005_01.wellSaid = true := by
 rw [PySem.W.Fast.te9446332074065402090]
 delta PySem.W.Fast.tw9446332074065402090
 dsimp only
 repeat' first
  | with_reducible refine Mine.look_all ?_ ?_
  | (delta PySem.W.Fast.tw17960256430627541270; try dsimp only)
  | (delta PySem.W.Fast.tw2436336058641802641; try dsimp only)
  | (delta PySem.W.Fast.tw12908688711261696721; try dsimp only)
 all_goals decide +kernel
set_option maxRecDepth 100000 in
set_option maxHeartbeats 8000000 in
theorem PySem.Challenge.cw_jq0005_01_holds : PySem.Challenge.rw_jq0005_01.Holds := by
 w_on
 refine holds_law Mine.said fun said => ?_
 k_head
 case hw => w_witness2
 k_fill
 intro w s0 s1 mg mb G Y fa o pm cd doc dV kV ho hd hcd hD hmg hg args vals as hpre hlay hrd hwl hlo
 have KX := km_in_of Y
 km_tabs Y
 refine Ground.open G ?_
 intro T B D TE TW
 clear D B TE TW Y
 wrow_args hpre hlay hrd hwl hlo
 rename_i hI _ hcond
 refine Mine.law_top ?_ KX T.g T.b T.builtins T.nolimit T.bmain hT8 hmg hg (by assumption) (by assumption) (by lia) fun s' k os bare => ?_
 ·refine ⟨⟨?_, ?_, ?_⟩, ⟨?_, ?_, ?_⟩, ⟨?_, ?_, ?_⟩, ⟨?_, ?_, ?_⟩, ⟨?_, ?_, ?_⟩, ⟨?_, ?_, ?_⟩, ⟨?_, ?_, ?_⟩, ⟨?_, ?_, ?_⟩, ⟨?_, ?_, ?_⟩, ⟨?_, ?_, ?_⟩, ?_, ?_, ?_, ⟨?_, ?_, ?_, ?_, ?_, ?_, ?_, ?_, ?_, ?_, ?_, ?_, ?_, ?_, ?_, ?_⟩, ?_, ?_, ?_, ?_, ?_, ?_, ?_, ?_⟩
  all_goals first
   | kernel_rfl
   | (simp only [List.forall_mem_cons, List.not_mem_nil, false_implies, implies_true, and_true]; refine ⟨?_, ?_, ?_, ?_, ?_, ?_, ?_⟩ <;> kernel_rfl)
   | (simp only [List.forall_mem_cons, List.not_mem_nil, false_implies, implies_true, and_true]; refine ⟨?_, ?_, ?_, ?_, ?_, ?_, ?_, ?_, ?_, ?_⟩ <;> kernel_rfl)
 ·exact ⟨.inl ⟨.bool true, .bool true, [], rfl, raisesW_false (by wrow_none_raised), .bool true, postW_of (by wrow_shape) (by wtm_val) (by w_fin), unshared_nil⟩, k, os, bare⟩
