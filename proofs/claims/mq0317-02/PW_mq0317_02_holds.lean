import PyProof.Rows.All
import Wide.All
import OpenK.AllK
import Wide.FinOn
import Lean
import PySem.Challenge.RW_mq0317_02
open PySem PySem.W PyProof.Rows
set_option Elab.async false
set_option maxRecDepth 100000
set_option linter.unusedVariables false
set_option linter.unusedSimpArgs false
section
set_option tactic.hygienic false
open PySem PySem.W PyProof.Rows PySem.Calls
namespace Mine
theorem nn {α : Type} {x : α} {P : Prop} (h : (none : Option α) = some x) : P := (Option.some_ne_none x h.symm).elim
theorem nf {P : Prop} (h : false = true) : P := (Bool.false_ne_true h).elim
theorem hide {P : Prop} (k : ∀ Q : Prop, (P → Q) → Q) : P := k P id
theorem bnd1 {α δ : Type} {x : Option α} {g : α → Option δ} {r : δ} {P : Prop} (h : x.bind g = some r) (k : ∀ a, x = some a → g a = some r → P) : P :=
  (Option.bind_eq_some_iff.mp h).elim fun a q => k a q.1 q.2
theorem bnd2 {α β δ : Type} {x : Option (α × β)} {g : α × β → Option δ} {r : δ} {P : Prop} (h : x.bind g = some r) (k : ∀ a b, x = some (a, b) → g (a, b) = some r → P) : P :=
  (Option.bind_eq_some_iff.mp h).elim fun a q => k a.1 a.2 q.1 q.2
theorem bnd3 {α β γ δ : Type} {x : Option (α × β × γ)} {g : α × β × γ → Option δ} {r : δ} {P : Prop} (h : x.bind g = some r) (k : ∀ a b c, x = some (a, b, c) → g (a, b, c) = some r → P) : P :=
  (Option.bind_eq_some_iff.mp h).elim fun a q => k a.1 a.2.1 a.2.2 q.1 q.2
inductive V where
  | none
  | bool (b : Bool)
  | int (i : Int)
  | tup (vs : List V)
  | ref (i : Nat)
  | ext (ns : List Int)
  | rng (a b c : Int)
  | view (items : Bool) (i : Nat)
inductive O where
  | list (vs : List V)
  | dict (kvs : List (Int × V))
  | set (xs : List Int)
  | inst (d : Nat)
  | attrs (fs : List (Option V))
  | node (d : Nat) (fs : List (Option V))
  | nxt (it : Nat)
  | iter (l : Nat) (pos : Nat)
  | dead
  | frz (o : O)
theorem exE1 {T0 : Type} {p : T0 → Prop} {P : Prop} (H : ∃ a, p a) (k : ∀ a, p a → P) : P := H.elim fun a H => k a H
theorem exE2 {T0 T1 : Type} {p : T0 → T1 → Prop} {P : Prop} (H : ∃ a b, p a b) (k : ∀ a b, p a b → P) : P := H.elim fun a H => H.elim fun b H => k a b H
theorem exI2 {T0 T1 : Type} {p : T0 → T1 → Prop} (a : T0) (b : T1) (H : p a b) : ∃ a b, p a b := ⟨a, b, H⟩
theorem exE3 {T0 T1 T2 : Type} {p : T0 → T1 → T2 → Prop} {P : Prop} (H : ∃ a b c, p a b c) (k : ∀ a b c, p a b c → P) : P := H.elim fun a H => H.elim fun b H => H.elim fun c H => k a b c H
theorem exI3 {T0 T1 T2 : Type} {p : T0 → T1 → T2 → Prop} (a : T0) (b : T1) (c : T2) (H : p a b c) : ∃ a b c, p a b c := ⟨a, b, c, H⟩
theorem exE4 {T0 T1 T2 T3 : Type} {p : T0 → T1 → T2 → T3 → Prop} {P : Prop} (H : ∃ a b c d, p a b c d) (k : ∀ a b c d, p a b c d → P) : P := H.elim fun a H => H.elim fun b H => H.elim fun c H => H.elim fun d H => k a b c d H
theorem exI4 {T0 T1 T2 T3 : Type} {p : T0 → T1 → T2 → T3 → Prop} (a : T0) (b : T1) (c : T2) (d : T3) (H : p a b c d) : ∃ a b c d, p a b c d := ⟨a, b, c, d, H⟩
theorem exE5 {T0 T1 T2 T3 T4 : Type} {p : T0 → T1 → T2 → T3 → T4 → Prop} {P : Prop} (H : ∃ a b c d e, p a b c d e) (k : ∀ a b c d e, p a b c d e → P) : P := H.elim fun a H => H.elim fun b H => H.elim fun c H => H.elim fun d H => H.elim fun e H => k a b c d e H
theorem exI5 {T0 T1 T2 T3 T4 : Type} {p : T0 → T1 → T2 → T3 → T4 → Prop} (a : T0) (b : T1) (c : T2) (d : T3) (e : T4) (H : p a b c d e) : ∃ a b c d e, p a b c d e := ⟨a, b, c, d, e, H⟩
theorem exE6 {T0 T1 T2 T3 T4 T5 : Type} {p : T0 → T1 → T2 → T3 → T4 → T5 → Prop} {P : Prop} (H : ∃ a b c d e f, p a b c d e f) (k : ∀ a b c d e f, p a b c d e f → P) : P := H.elim fun a H => H.elim fun b H => H.elim fun c H => H.elim fun d H => H.elim fun e H => H.elim fun f H => k a b c d e f H
theorem exI7 {T0 T1 T2 T3 T4 T5 T6 : Type} {p : T0 → T1 → T2 → T3 → T4 → T5 → T6 → Prop} (a : T0) (b : T1) (c : T2) (d : T3) (e : T4) (f : T5) (g : T6) (H : p a b c d e f g) : ∃ a b c d e f g, p a b c d e f g := ⟨a, b, c, d, e, f, g, H⟩
theorem exE8 {T0 T1 T2 T3 T4 T5 T6 T7 : Type} {p : T0 → T1 → T2 → T3 → T4 → T5 → T6 → T7 → Prop} {P : Prop} (H : ∃ a b c d e f g i, p a b c d e f g i) (k : ∀ a b c d e f g i, p a b c d e f g i → P) : P := H.elim fun a H => H.elim fun b H => H.elim fun c H => H.elim fun d H => H.elim fun e H => H.elim fun f H => H.elim fun g H => H.elim fun i H => k a b c d e f g i H
theorem exI8 {T0 T1 T2 T3 T4 T5 T6 T7 : Type} {p : T0 → T1 → T2 → T3 → T4 → T5 → T6 → T7 → Prop} (a : T0) (b : T1) (c : T2) (d : T3) (e : T4) (f : T5) (g : T6) (i : T7) (H : p a b c d e f g i) : ∃ a b c d e f g i, p a b c d e f g i := ⟨a, b, c, d, e, f, g, i, H⟩
theorem exE10 {T0 T1 T2 T3 T4 T5 T6 T7 T8 T9 : Type} {p : T0 → T1 → T2 → T3 → T4 → T5 → T6 → T7 → T8 → T9 → Prop} {P : Prop} (H : ∃ a b c d e f g i j l, p a b c d e f g i j l) (k : ∀ a b c d e f g i j l, p a b c d e f g i j l → P) : P := H.elim fun a H => H.elim fun b H => H.elim fun c H => H.elim fun d H => H.elim fun e H => H.elim fun f H => H.elim fun g H => H.elim fun i H => H.elim fun j H => H.elim fun l H => k a b c d e f g i j l H
theorem exI10 {T0 T1 T2 T3 T4 T5 T6 T7 T8 T9 : Type} {p : T0 → T1 → T2 → T3 → T4 → T5 → T6 → T7 → T8 → T9 → Prop} (a : T0) (b : T1) (c : T2) (d : T3) (e : T4) (f : T5) (g : T6) (i : T7) (j : T8) (l : T9) (H : p a b c d e f g i j l) : ∃ a b c d e f g i j l, p a b c d e f g i j l := ⟨a, b, c, d, e, f, g, i, j, l, H⟩
theorem andE2 {A0 A1 P : Prop} (h : A0 ∧ A1) (k : A0 → A1 → P) : P := k h.1 h.2
theorem andE3 {A0 A1 A2 P : Prop} (h : A0 ∧ A1 ∧ A2) (k : A0 → A1 → A2 → P) : P := k h.1 h.2.1 h.2.2
theorem andE4 {A0 A1 A2 A3 P : Prop} (h : A0 ∧ A1 ∧ A2 ∧ A3) (k : A0 → A1 → A2 → A3 → P) : P := k h.1 h.2.1 h.2.2.1 h.2.2.2
theorem andE5 {A0 A1 A2 A3 A4 P : Prop} (h : A0 ∧ A1 ∧ A2 ∧ A3 ∧ A4) (k : A0 → A1 → A2 → A3 → A4 → P) : P := k h.1 h.2.1 h.2.2.1 h.2.2.2.1 h.2.2.2.2
theorem andE6 {A0 A1 A2 A3 A4 A5 P : Prop} (h : A0 ∧ A1 ∧ A2 ∧ A3 ∧ A4 ∧ A5) (k : A0 → A1 → A2 → A3 → A4 → A5 → P) : P := k h.1 h.2.1 h.2.2.1 h.2.2.2.1 h.2.2.2.2.1 h.2.2.2.2.2
theorem andE7 {A0 A1 A2 A3 A4 A5 A6 P : Prop} (h : A0 ∧ A1 ∧ A2 ∧ A3 ∧ A4 ∧ A5 ∧ A6) (k : A0 → A1 → A2 → A3 → A4 → A5 → A6 → P) : P := k h.1 h.2.1 h.2.2.1 h.2.2.2.1 h.2.2.2.2.1 h.2.2.2.2.2.1 h.2.2.2.2.2.2
theorem andE8 {A0 A1 A2 A3 A4 A5 A6 A7 P : Prop} (h : A0 ∧ A1 ∧ A2 ∧ A3 ∧ A4 ∧ A5 ∧ A6 ∧ A7) (k : A0 → A1 → A2 → A3 → A4 → A5 → A6 → A7 → P) : P := k h.1 h.2.1 h.2.2.1 h.2.2.2.1 h.2.2.2.2.1 h.2.2.2.2.2.1 h.2.2.2.2.2.2.1 h.2.2.2.2.2.2.2
theorem andE10 {A0 A1 A2 A3 A4 A5 A6 A7 A8 A9 P : Prop} (h : A0 ∧ A1 ∧ A2 ∧ A3 ∧ A4 ∧ A5 ∧ A6 ∧ A7 ∧ A8 ∧ A9) (k : A0 → A1 → A2 → A3 → A4 → A5 → A6 → A7 → A8 → A9 → P) : P := k h.1 h.2.1 h.2.2.1 h.2.2.2.1 h.2.2.2.2.1 h.2.2.2.2.2.1 h.2.2.2.2.2.2.1 h.2.2.2.2.2.2.2.1 h.2.2.2.2.2.2.2.2.1 h.2.2.2.2.2.2.2.2.2
theorem iteS {α : Type} {c : Prop} [Decidable c] {x : Option α} {r : α} {P : Prop} (h : (if c then x else none) = some r) (k : c → x = some r → P) : P := by
  by_cases hc : c
  · exact k hc (by rwa [if_pos hc] at h)
  · rw [if_neg hc] at h; exact nn h
theorem iList {α : Type} {o : Option O} {f : List V → Option α} {r : α} {P : Prop} (h : (match o with | some (.list a) => f a | _ => none) = some r) (k : ∀ a, o = some (.list a) → f a = some r → P) : P := by
  cases o with
  | none => exact nn h
  | some o => cases o with
    | list a => exact k a rfl h
    | _ => exact nn h
theorem iDict {α : Type} {o : Option O} {f : List (Int × V) → Option α} {r : α} {P : Prop} (h : (match o with | some (.dict a) => f a | _ => none) = some r) (k : ∀ a, o = some (.dict a) → f a = some r → P) : P := by
  cases o with
  | none => exact nn h
  | some o => cases o with
    | dict a => exact k a rfl h
    | _ => exact nn h
theorem iSet {α : Type} {o : Option O} {f : List Int → Option α} {r : α} {P : Prop} (h : (match o with | some (.set a) => f a | _ => none) = some r) (k : ∀ a, o = some (.set a) → f a = some r → P) : P := by
  cases o with
  | none => exact nn h
  | some o => cases o with
    | set a => exact k a rfl h
    | _ => exact nn h
theorem iListB {o : Option O} {f : List V → Bool} {P : Prop} (h : (match o with | some (.list a) => f a | _ => false) = true) (k : ∀ a, o = some (.list a) → f a = true → P) : P := by
  cases o with
  | none => exact nf h
  | some o => cases o with
    | list a => exact k a rfl h
    | _ => exact nf h
theorem iDictB {o : Option O} {f : List (Int × V) → Bool} {P : Prop} (h : (match o with | some (.dict a) => f a | _ => false) = true) (k : ∀ a, o = some (.dict a) → f a = true → P) : P := by
  cases o with
  | none => exact nf h
  | some o => cases o with
    | dict a => exact k a rfl h
    | _ => exact nf h
theorem iSetB {o : Option O} {f : List Int → Bool} {P : Prop} (h : (match o with | some (.set a) => f a | _ => false) = true) (k : ∀ a, o = some (.set a) → f a = true → P) : P := by
  cases o with
  | none => exact nf h
  | some o => cases o with
    | set a => exact k a rfl h
    | _ => exact nf h
theorem iRefB {X : V} {f : Nat → Bool} {P : Prop} (h : (match X with | .ref i => f i | _ => false) = true) (k : ∀ i, X = .ref i → f i = true → P) : P := by
  cases X with
  | ref i => exact k i rfl h
  | _ => exact nf h
theorem iInt {α : Type} {X : V} {f : Int → Option α} {r : α} {P : Prop} (h : (match X with | .int i => f i | _ => none) = some r) (k : ∀ i, X = .int i → f i = some r → P) : P := by
  cases X with
  | int i => exact k i rfl h
  | _ => exact nn h
theorem iRefNil {α : Type} {X : V} {Ys : List V} {f : Nat → Option α} {r : α} {P : Prop} (h : (match X, Ys with | .ref i, [] => f i | _, _ => none) = some r) (k : ∀ i, X = .ref i → Ys = [] → f i = some r → P) : P := by
  cases X with
  | ref i => cases Ys with
    | nil => exact k i rfl rfl h
    | _ => exact nn h
  | _ => exact nn h
theorem iRefOne {α : Type} {X : V} {Ys : List V} {f : Nat → V → Option α} {r : α} {P : Prop} (h : (match X, Ys with | .ref i, [Y] => f i Y | _, _ => none) = some r) (k : ∀ i Y, X = .ref i → Ys = [Y] → f i Y = some r → P) : P := by
  cases X with
  | ref i => cases Ys with
    | nil => exact nn h
    | cons Y t => cases t with
      | nil => exact k i Y rfl rfl h
      | _ => exact nn h
  | _ => exact nn h
noncomputable abbrev AEnv := List (Option V)
noncomputable abbrev AHeap := List O
structure Gl where
  prog : Program
  w : World
  K : Frag
  hb : Heap
  C : Addr
  CN : Addr
  mg : Str → Option Value
  mb : Str → Option Value
noncomputable abbrev Gl.M (G : Gl) : Model := model G.prog G.w
noncomputable abbrev Rho := Nat → Option Addr
noncomputable def immT : List String := ["tuple", "range", "dict_items", "dict_values"]
noncomputable def Imm (o : Obj) : Prop := ∃ T, o.cls = .type T ∧ immT.contains T = true ∧ ((∃ xs n, o.data = .seq xs n) ∨ ∃ vs, o.data = .fields vs)
noncomputable abbrev tupObj (its : Array Value) (n : Nat) : Obj := { cls := .type "tuple", data := .seq its n }
noncomputable abbrev rngObj (a b c : Value) : Obj := { cls := .type "range", data := .fields #[a, b, c] }
noncomputable abbrev viewObj (items : Bool) (a : Addr) : Obj := { cls := .type (if items then "dict_items" else "dict_values"), data := .fields #[.ref a] }
theorem imm_tup (its : Array Value) (n : Nat) : Imm (tupObj its n) := ⟨_, rfl, by decide, .inl ⟨_, _, rfl⟩⟩
theorem imm_rng (a b c : Value) : Imm (rngObj a b c) := ⟨_, rfl, by decide, .inr ⟨_, rfl⟩⟩
theorem imm_view (b : Bool) (a : Addr) : Imm (viewObj b a) := ⟨_, rfl, by cases b <;> decide, .inr ⟨_, rfl⟩⟩
mutual
noncomputable def VR (G : Gl) (ρ : Rho) (h : Heap) : V → Value → Prop
  | .none, v => v = .none
  | .bool b, v => v = .bool b
  | .int i, v => ∃ t, v = .int i t
  | .tup vs, v => ∃ a its n, v = .ref a ∧ h.get? a = some (tupObj its n) ∧ VRs G ρ h vs its.toList
  | .ref i, v => ∃ a, ρ i = some a ∧ v = .ref a
  | .ext ns, v => ∃ a vs, v = .ref a ∧ G.hb.IsList a vs.toArray ∧ IntsAre vs ns
  | .rng a b c, v => ∃ r t u x, v = .ref r ∧ h.get? r = some (rngObj (.int a t) (.int b u) (.int c x))
  | .view k i, v => ∃ r a, v = .ref r ∧ ρ i = some a ∧ h.get? r = some (viewObj k a)
noncomputable def VRs (G : Gl) (ρ : Rho) (h : Heap) : List V → List Value → Prop
  | [], l => l = []
  | x :: r, l => ∃ v t, l = v :: t ∧ VR G ρ h x v ∧ VRs G ρ h r t
end
mutual
theorem VR.mono {G : Gl} {ρ ρ' : Rho} {h h' : Heap} (hr : ∀ i a, ρ i = some a → ρ' i = some a)
    (ht : ∀ a o, Imm o → h.get? a = some o → h'.get? a = some o) :
    ∀ (x : V) (v : Value), VR G ρ h x v → VR G ρ' h' x v
  | .none, _, q => by simpa only [VR] using q
  | .bool _, _, q => by simpa only [VR] using q
  | .int _, _, q => by simpa only [VR] using q
  | .tup vs, v, q => by
    simp only [VR] at q ⊢
    obtain ⟨a, its, n, e, g, r⟩ := q
    exact ⟨a, its, n, e, ht _ _ (imm_tup _ _) g, VRs.mono hr ht vs _ r⟩
  | .ref _, _, q => by
    simp only [VR] at q ⊢
    obtain ⟨a, e, r⟩ := q
    exact ⟨a, hr _ _ e, r⟩
  | .ext _, _, q => by simpa only [VR] using q
  | .rng _ _ _, _, q => by
    simp only [VR] at q ⊢
    obtain ⟨r, t, u, x, e, g⟩ := q
    exact ⟨r, t, u, x, e, ht _ _ (imm_rng _ _ _) g⟩
  | .view _ _, _, q => by
    simp only [VR] at q ⊢
    obtain ⟨r, a, e, f, g⟩ := q
    exact ⟨r, a, e, hr _ _ f, ht _ _ (imm_view _ _) g⟩
theorem VRs.mono {G : Gl} {ρ ρ' : Rho} {h h' : Heap} (hr : ∀ i a, ρ i = some a → ρ' i = some a)
    (ht : ∀ a o, Imm o → h.get? a = some o → h'.get? a = some o) :
    ∀ (x : List V) (v : List Value), VRs G ρ h x v → VRs G ρ' h' x v
  | [], _, q => by simpa only [VRs] using q
  | x :: r, l, q => by
    simp only [VRs] at q ⊢
    obtain ⟨v, t, e, q1, q2⟩ := q
    exact ⟨v, t, e, VR.mono hr ht x v q1, VRs.mono hr ht r t q2⟩
end
theorem VRs.length {G : Gl} {ρ : Rho} {h : Heap} : ∀ {x : List V} {l : List Value}, VRs G ρ h x l → l.length = x.length
  | [], _, q => by simp only [VRs] at q; subst q; rfl
  | x :: r, l, q => by
    simp only [VRs] at q
    obtain ⟨v, t, rfl, _, q2⟩ := q
    simp [VRs.length q2]
theorem VRs.append {G : Gl} {ρ : Rho} {h : Heap} : ∀ {x y : List V} {l k : List Value}, VRs G ρ h x l → VRs G ρ h y k → VRs G ρ h (x ++ y) (l ++ k)
  | [], _, _, _, q, p => by simp only [VRs] at q; subst q; exact p
  | x :: r, y, l, k, q, p => by
    simp only [VRs] at q
    obtain ⟨v, t, rfl, q1, q2⟩ := q
    simp only [List.cons_append, VRs]
    exact ⟨v, _, rfl, q1, VRs.append q2 p⟩
theorem VRs.get {G : Gl} {ρ : Rho} {h : Heap} : ∀ {x : List V} {l : List Value} {i : Nat} {a : V}, VRs G ρ h x l → x[i]? = some a → ∃ v, l[i]? = some v ∧ VR G ρ h a v
  | [], _, _, _, _, e => by simp at e
  | x :: r, l, 0, a, q, e => by
    simp only [VRs] at q
    obtain ⟨v, t, rfl, q1, q2⟩ := q
    simp at e; subst e
    exact ⟨v, rfl, q1⟩
  | x :: r, l, i + 1, a, q, e => by
    simp only [VRs] at q
    obtain ⟨v, t, rfl, q1, q2⟩ := q
    have := VRs.get (i := i) q2 (by simpa using e)
    simpa using this
theorem VRs.nil {G : Gl} {ρ : Rho} {h : Heap} : VRs G ρ h [] [] := by simp [VRs]
theorem VRs.cons {G : Gl} {ρ : Rho} {h : Heap} {x : V} {r : List V} {v : Value} {t : List Value} (a : VR G ρ h x v) (b : VRs G ρ h r t) : VRs G ρ h (x :: r) (v :: t) := by
  simp only [VRs]; exact ⟨v, t, rfl, a, b⟩
theorem VRs.one {G : Gl} {ρ : Rho} {h : Heap} {x : V} {v : Value} (a : VR G ρ h x v) : VRs G ρ h [x] [v] := VRs.cons a VRs.nil
theorem VR.int {G : Gl} {ρ : Rho} {h : Heap} (i : Int) (t : Tok) : VR G ρ h (.int i) (.int i t) := by simp [VR]
theorem VR.bool {G : Gl} {ρ : Rho} {h : Heap} (b : Bool) : VR G ρ h (.bool b) (.bool b) := by simp [VR]
theorem VR.none {G : Gl} {ρ : Rho} {h : Heap} : VR G ρ h .none .none := by simp [VR]
theorem VR.ref {G : Gl} {ρ : Rho} {h : Heap} {i : Nat} {a : Addr} (e : ρ i = some a) : VR G ρ h (.ref i) (.ref a) := by simp [VR, e]
noncomputable def KVR (G : Gl) (ρ : Rho) (h : Heap) : List (Int × V) → List (Int × Value) → Prop
  | [], l => l = []
  | x :: r, l => ∃ v t, l = (x.1, v) :: t ∧ VR G ρ h x.2 v ∧ KVR G ρ h r t
theorem KVR.mono {G : Gl} {ρ ρ' : Rho} {h h' : Heap} (hv : ∀ (x : V) (v : Value), VR G ρ h x v → VR G ρ' h' x v) :
    ∀ (x : List (Int × V)) (l : List (Int × Value)), KVR G ρ h x l → KVR G ρ' h' x l
  | [], _, q => q
  | x :: r, l, q => by
    obtain ⟨v, t, e, q1, q2⟩ := q
    exact ⟨v, t, e, hv _ _ q1, KVR.mono hv r t q2⟩
noncomputable def attrName : Nat → Str
  | 0 => "_node2info"
  | 1 => "_ready_nodes"
  | 2 => "_npassedout"
  | _ => "_nfinished"
noncomputable def OptR (G : Gl) (ρ : Rho) (h : Heap) : Option V → Option Value → Prop
  | none, v => v = none
  | some x, v => ∃ y, v = some y ∧ VR G ρ h x y
theorem OptR.mono {G : Gl} {ρ ρ' : Rho} {h h' : Heap} (hv : ∀ (x : V) (v : Value), VR G ρ h x v → VR G ρ' h' x v) :
    ∀ (x : Option V) (v : Option Value), OptR G ρ h x v → OptR G ρ' h' x v
  | none, _, q => q
  | some x, v, q => by obtain ⟨y, e, r⟩ := q; exact ⟨y, e, hv _ _ r⟩
noncomputable def OM (G : Gl) (ρ : Rho) (h : Heap) : O → Obj → Prop
  | .list vs, o => ∃ its n, o = { cls := .type "list", data := .seq its n } ∧ VRs G ρ h vs its.toList
  | .dict kvs, o => ∃ kvs', o.IsDictOf (PySem.intKind G.prog G.w) kvs' ∧ KVR G ρ h kvs kvs'
  | .set xs, o => ∃ es ep t, o.ExactSet ∧ o.data = .set es ep t ∧ ElemsOf (PySem.intKind G.prog G.w) es.toList ∧ (∀ k, decide (k ∈ xs) = true ↔ ∃ e ∈ es.toList, (PySem.intKind G.prog G.w).is k e.2 = true) ∧ es.size < scanBound ∧ t.fits es.size = true ∧ es.size = xs.length
  | .inst d, o => ∃ dx, o = instObj G.C dx ∧ ρ d = some dx
  | .attrs fs, o => ∃ es n, o = dictOf es n ∧ es.length ≤ (fs.filter Option.isSome).length ∧ ∀ (j : Nat) (x : Option V), fs[j]? = some x → ∃ y, getL (attrName j) es = some y ∧ OptR G ρ h x y
  | .node d fs, o => ∃ (sl : Array (Option Value)) (dx : Addr), o = { cls := .ref G.CN, dict := some dx, data := .plain, slots := sl } ∧ ρ d = some dx ∧ ∀ (j : Nat) (x : Option V), fs[j]? = some x → OptR G ρ h x ((sl[j]?).join)
  | .nxt it, o => ∃ a, ρ it = some a ∧ o = { cls := .type "method-wrapper", data := .fields #[.builtin "list_iterator.__next__", .ref a] }
  | .iter l pos, o => ∃ a, ρ l = some a ∧ o = { cls := .type "list_iterator", data := .fields #[.ref a, .int pos 0] }
  | .dead, o => ∃ vs, o = { cls := .type "list_iterator", data := .fields vs }
  | .frz x, o => OM G ρ h x o
theorem OM.mono {G : Gl} {ρ ρ' : Rho} {h h' : Heap} (hr : ∀ i a, ρ i = some a → ρ' i = some a) (hv : ∀ (x : V) (v : Value), VR G ρ h x v → VR G ρ' h' x v)
    (hvs : ∀ (x : List V) (v : List Value), VRs G ρ h x v → VRs G ρ' h' x v) : ∀ (x : O) (o : Obj), OM G ρ h x o → OM G ρ' h' x o
  | .list _, _, q => by obtain ⟨its, n, e, r⟩ := q; exact ⟨its, n, e, hvs _ _ r⟩
  | .dict _, _, q => by obtain ⟨k, e, r⟩ := q; exact ⟨k, e, KVR.mono hv _ _ r⟩
  | .set _, _, q => q
  | .inst _, _, q => by obtain ⟨d, e, r⟩ := q; exact ⟨d, e, hr _ _ r⟩
  | .attrs _, _, q => by
    obtain ⟨es, n, e, l, r⟩ := q
    exact ⟨es, n, e, l, fun j x hx => by obtain ⟨y, a, b⟩ := r j x hx; exact ⟨y, a, OptR.mono hv _ _ b⟩⟩
  | .node _ _, _, q => by
    obtain ⟨sl, dx, e, hd, r⟩ := q
    exact ⟨sl, dx, e, hr _ _ hd, fun j x hx => OptR.mono hv _ _ (r j x hx)⟩
  | .nxt _, _, q => by obtain ⟨a, e, r⟩ := q; exact ⟨a, hr _ _ e, r⟩
  | .iter _ _, _, q => by obtain ⟨a, e, r⟩ := q; exact ⟨a, hr _ _ e, r⟩
  | .dead, _, q => q
  | .frz x, o, q => OM.mono hr hv hvs x o q
noncomputable def O.frozen : O → Bool
  | .frz _ => true
  | _ => false
noncomputable def O.thaw : O → O
  | .frz o => o.thaw
  | o => o
theorem OM.thaw {G : Gl} {ρ : Rho} {h : Heap} : ∀ {x : O} {o : Obj}, OM G ρ h x o → OM G ρ h x.thaw o
  | .list _, _, q => q
  | .dict _, _, q => q
  | .set _, _, q => q
  | .inst _, _, q => q
  | .attrs _, _, q => q
  | .node _ _, _, q => q
  | .nxt _, _, q => q
  | .iter _ _, _, q => q
  | .dead, _, q => q
  | .frz x, _, q => OM.thaw (x := x) q
theorem imm_cls {o : Obj} (h : Imm o) {T : String} (e : o.cls = .type T) : immT.contains T = true := by
  obtain ⟨U, a, b, _⟩ := h
  rw [e] at a; cases a; exact b
theorem imm_ref {o : Obj} (h : Imm o) {C : Addr} (e : o.cls = .ref C) : False := by
  obtain ⟨U, a, _⟩ := h
  rw [e] at a; cases a
theorem OM.notImm {G : Gl} {ρ : Rho} {h : Heap} : ∀ {x : O} {o : Obj}, OM G ρ h x o → ¬ Imm o
  | .list _, _, q => by obtain ⟨_, _, rfl, _⟩ := q; intro e; exact absurd (imm_cls e rfl) (by decide)
  | .dict _, _, q => by obtain ⟨_, ⟨_, _, ⟨c, _⟩, _⟩, _⟩ := q; intro e; exact absurd (imm_cls e c) (by decide)
  | .set _, _, q => by obtain ⟨_, _, _, ⟨c, _⟩, _⟩ := q; intro e; exact absurd (imm_cls e c) (by decide)
  | .inst _, _, q => by obtain ⟨_, rfl, _⟩ := q; intro e; exact imm_ref e rfl
  | .attrs _, _, q => by obtain ⟨_, _, rfl, _⟩ := q; intro e; exact absurd (imm_cls e rfl) (by decide)
  | .node _ _, _, q => by obtain ⟨_, _, rfl, _⟩ := q; intro e; exact imm_ref e rfl
  | .nxt _, _, q => by obtain ⟨_, _, rfl⟩ := q; intro e; exact absurd (imm_cls e rfl) (by decide)
  | .iter _ _, _, q => by obtain ⟨_, _, rfl⟩ := q; intro e; exact absurd (imm_cls e rfl) (by decide)
  | .dead, _, q => by obtain ⟨_, rfl⟩ := q; intro e; exact absurd (imm_cls e rfl) (by decide)
  | .frz x, _, q => OM.notImm (x := x) q
end Mine
end
section
set_option tactic.hygienic false
open PySem PySem.W PyProof.Rows PySem.Calls
namespace Mine
structure Frm where
  env : Env
  slot : List (Str × Nat)
  priv : List Addr
  /-- the frames on the stack, the running one first -/
  fr : List Env
noncomputable def Frm.fa (Φ : Frm) : List Addr := Φ.fr.filterMap (·.frame)
noncomputable def CellR (G : Gl) (ρ : Rho) (h : Heap) (env : Env) (e : AEnv) (x : Str) (i : Nat) : Prop :=
  ∃ c o vo, env.cells.lookup x = some c ∧ h.get? c = some o ∧ o.data = .cell vo ∧ ∀ X, e[i]? = some (some X) → ∃ v, vo = some v ∧ VR G ρ h X v
noncomputable def NameR (G : Gl) (ρ : Rho) (h : Heap) (env : Env) (m : Str → Option Value) (e : AEnv) (x : Str) (i : Nat) : Prop :=
  (env.kindOf x = some .local → ∀ X, e[i]? = some (some X) → ∃ v, m x = some v ∧ VR G ρ h X v) ∧
  ((env.kindOf x = some .cell ∨ env.kindOf x = some .free) → CellR G ρ h env e x i)
noncomputable def FRel (G : Gl) (Φ : Frm) (ρ : Rho) (e : AEnv) (h : Heap) : Prop :=
  ∃ m, h.Ns Φ.env.locals m ∧ ∀ x i, Φ.slot.lookup x = some i → NameR G ρ h Φ.env m e x i
structure Rel (G : Gl) (Φ : Frm) (ρ : Rho) (e : AEnv) (H : AHeap) (s : Shared) : Prop where
  fr : FRel G Φ ρ e s.heap
  hp : ∀ i x, H[i]? = some x → ∃ a o, ρ i = some a ∧ s.heap.get? a = some o ∧ OM G ρ s.heap x o
  dom : ∀ i a, ρ i = some a → i < H.length
  inj : ∀ i j a, ρ i = some a → ρ j = some a → i = j
  lo : ∀ i a, ρ i = some a → G.hb.get? a = none ∧ (a == sysModules) = false
  pr : ∀ p ∈ Φ.priv, G.hb.get? p = none ∧ (∀ i, ρ i ≠ some p) ∧ ∃ o, s.heap.get? p = some o ∧ ¬ Imm o
  base : ∀ b o, G.hb.get? b = some o → s.heap.get? b = some o
  locp : Φ.env.locals ∈ Φ.priv
  stat : ∃ o, G.hb.get? cStatics = some o
  fas : ∀ f ∈ Φ.fa, G.hb.get? f = none ∧ (∀ i, ρ i ≠ some f) ∧ ∃ o es ep, s.heap.get? f = some o ∧ o.data = .dict es ep
noncomputable def Owned (ρ : Rho) (H : AHeap) (b : Addr) : Prop := ∃ i x, ρ i = some b ∧ H[i]? = some x ∧ x.frozen = false
structure Ext (Φ : Frm) (ρ : Rho) (H : AHeap) (s : Shared) (ρ' : Rho) (H' : AHeap) (s' : Shared) : Prop where
  rle : ∀ i a, ρ i = some a → ρ' i = some a
  new : ∀ b, Owned ρ' H' b → Owned ρ H b ∨ s.heap.get? b = none
  rnew : ∀ i a, ρ' i = some a → ρ i = some a ∨ s.heap.get? a = none
  keep : ∀ b o, ¬ Owned ρ H b → b ∉ Φ.priv → b ∉ Φ.fa → s.heap.get? b = some o → s'.heap.get? b = some o
  keepF : ∀ b o, ¬ Owned ρ H b → b ∉ Φ.priv → s.heap.get? b = some o → ∃ sl, s'.heap.get? b = some { o with slots := sl }
  ex : ∀ b o, s.heap.get? b = some o → ∃ o', s'.heap.get? b = some o'
  same : s' = { s with heap := s'.heap, toks := s'.toks }
theorem Ext.refl (Φ : Frm) (ρ : Rho) (H : AHeap) (s : Shared) : Ext Φ ρ H s ρ H s :=
  ⟨fun _ _ e => e, fun _ h => .inl h, fun _ _ e => .inl e, fun _ _ _ _ _ e => e, fun _ o _ _ e => ⟨o.slots, e⟩, fun _ o h => ⟨o, h⟩, rfl⟩
theorem keepF_of {P : Addr → Prop} {priv : List Addr} {h h' : Heap} (k : ∀ b o, P b → b ∉ priv → h.get? b = some o → h'.get? b = some o) :
    ∀ b o, P b → b ∉ priv → h.get? b = some o → ∃ sl, h'.get? b = some { o with slots := sl } := fun b o p q g => ⟨o.slots, k b o p q g⟩
theorem Ext.gone {Φ : Frm} {ρ ρ' : Rho} {H H' : AHeap} {s s' : Shared} (x : Ext Φ ρ H s ρ' H' s') {a : Addr} (h : s'.heap.get? a = none) : s.heap.get? a = none := by
  cases q : s.heap.get? a with
  | none => rfl
  | some o => obtain ⟨o', e⟩ := x.ex a o q; rw [h] at e; cases e
theorem Ext.trans {Φ : Frm} {ρ ρ' ρ'' : Rho} {H H' H'' : AHeap} {s s' s'' : Shared} (x : Ext Φ ρ H s ρ' H' s') (y : Ext Φ ρ' H' s' ρ'' H'' s'') : Ext Φ ρ H s ρ'' H'' s'' where
  rle := fun i a e => y.rle i a (x.rle i a e)
  new := fun b h => by
    rcases y.new b h with h | h
    · exact x.new b h
    · exact .inr (x.gone h)
  rnew := fun i a h => by
    rcases y.rnew i a h with h | h
    · exact x.rnew i a h
    · exact .inr (x.gone h)
  keep := fun b o hn hp hf e => by
    refine y.keep b o (fun h => ?_) hp hf (x.keep b o hn hp hf e)
    rcases x.new b h with h | h
    · exact hn h
    · rw [h] at e; cases e
  keepF := fun b o hn hp e => by
    obtain ⟨sl, g⟩ := x.keepF b o hn hp e
    obtain ⟨sl', g'⟩ := y.keepF b _ (fun h => by
      rcases x.new b h with h | h
      · exact hn h
      · rw [h] at e; cases e) hp g
    exact ⟨sl', g'⟩
  ex := fun b o h => by obtain ⟨o', h'⟩ := x.ex b o h; exact y.ex b o' h'
  same := by rw [y.same, x.same]
section
variable {G : Gl} {Φ : Frm} {ρ : Rho} {e : AEnv} {H : AHeap} {s : Shared}
theorem Rel.immFree (R : Rel G Φ ρ e H s) {a : Addr} {o : Obj} (im : Imm o) (g : s.heap.get? a = some o) : (∀ i, ρ i ≠ some a) ∧ a ∉ Φ.priv := by
  constructor
  · intro i hi
    have hl := R.dom i a hi
    refine exE2 (R.hp i H[i] (by simp [hl])) fun a' o' h2 => andE3 h2 fun e1 e2 e3 => ?_
    rw [hi] at e1; cases e1
    rw [g] at e2; cases e2
    exact e3.notImm im
  · intro hp
    refine andE3 (R.pr a hp) fun _ _ h3_2 => ?_
    obtain ⟨o', e2, e3⟩ := h3_2
    rw [g] at e2; cases e2
    exact e3 im
theorem Rel.immF (R : Rel G Φ ρ e H s) {a : Addr} {o : Obj} (im : Imm o) (g : s.heap.get? a = some o) : a ∉ Φ.fa := fun hf => by
  refine andE3 (R.fas a hf) fun _ _ h4_2 => ?_
  obtain ⟨o', es, ep, e2, e3⟩ := h4_2
  rw [g] at e2; cases e2
  rcases im with ⟨_, _, _, ⟨_, _, q⟩ | ⟨_, q⟩⟩ <;> rw [e3] at q <;> cases q
theorem Rel.fa_at (R : Rel G Φ ρ e H s) {f : Addr} (h : f ∈ Φ.fa) : ∃ o, s.heap.get? f = some o := by
  refine andE3 (R.fas f h) fun _ _ h5_2 => ?_
  obtain ⟨o, _, _, e2, _⟩ := h5_2
  exact ⟨o, e2⟩
theorem Rel.rhoF (R : Rel G Φ ρ e H s) {i : Nat} {a : Addr} (h : ρ i = some a) : a ∉ Φ.fa := fun hf => (R.fas a hf).2.1 i h
theorem Rel.freshF (R : Rel G Φ ρ e H s) {a : Addr} (h : s.heap.get? a = none) : a ∉ Φ.fa := fun hf => by
  obtain ⟨o, q⟩ := R.fa_at hf; rw [h] at q; cases q
theorem Rel.rho_at (R : Rel G Φ ρ e H s) {i : Nat} {a : Addr} (h : ρ i = some a) : ∃ o, s.heap.get? a = some o := by
  refine exE2 (R.hp i (H[i]'(R.dom i a h)) (by simp [R.dom i a h])) fun a' o h8 => andE3 h8 fun f1 f2 _ => ?_
  rw [h] at f1; cases f1
  exact ⟨_, f2⟩
theorem Rel.priv_at (R : Rel G Φ ρ e H s) {p : Addr} (h : p ∈ Φ.priv) : ∃ o, s.heap.get? p = some o := by
  refine andE3 (R.pr p h) fun _ _ h9_2 => ?_
  obtain ⟨o, e2, _⟩ := h9_2
  exact ⟨_, e2⟩
theorem Ext.imm {ρ' : Rho} {H' : AHeap} {s' : Shared} (R : Rel G Φ ρ e H s) (x : Ext Φ ρ H s ρ' H' s') : ∀ a o, Imm o → s.heap.get? a = some o → s'.heap.get? a = some o := fun a o im g => by
  have f := R.immFree im g
  exact x.keep a _ (fun ⟨i, _, hi, _⟩ => f.1 i hi) f.2 (R.immF im g) g
theorem Ext.vr {ρ' : Rho} {H' : AHeap} {s' : Shared} (R : Rel G Φ ρ e H s) (x : Ext Φ ρ H s ρ' H' s') {X : V} {v : Value} (h : VR G ρ s.heap X v) : VR G ρ' s'.heap X v :=
  VR.mono x.rle (x.imm R) X v h
theorem Ext.vrs {ρ' : Rho} {H' : AHeap} {s' : Shared} (R : Rel G Φ ρ e H s) (x : Ext Φ ρ H s ρ' H' s') {X : List V} {v : List Value} (h : VRs G ρ s.heap X v) : VRs G ρ' s'.heap X v :=
  VRs.mono x.rle (x.imm R) X v h
theorem NameR.mono {ρ' : Rho} {h h' : Heap} {env : Env} {m : Str → Option Value} {x : Str} {i : Nat} (hv : ∀ (x : V) (v : Value), VR G ρ h x v → VR G ρ' h' x v)
    (hc : ∀ c o vo, env.cells.lookup x = some c → h.get? c = some o → o.data = .cell vo → h'.get? c = some o) (q : NameR G ρ h env m e x i) : NameR G ρ' h' env m e x i := by
  refine ⟨fun hk X hX => ?_, fun hk => ?_⟩
  · refine exE1 (q.1 hk X hX) fun v h10 => andE2 h10 fun a b => ?_
    exact ⟨v, a, hv _ _ b⟩
  · refine exE3 (q.2 hk) fun c o vo h11 => andE4 h11 fun a1 a2 a3 a4 => ?_
    exact exI3 c o vo ⟨a1, hc c o vo a1 a2 a3, a3, fun X hX => by obtain ⟨v, b1, b2⟩ := a4 X hX; exact ⟨v, b1, hv _ _ b2⟩⟩
theorem Rel.junk (R : Rel G Φ ρ e H s) {h' : Heap} (tk : Nat) (hk : ∀ b o, s.heap.get? b = some o → h'.get? b = some o) :
    Rel G Φ ρ e H { s with heap := h', toks := tk } ∧ Ext Φ ρ H s ρ H { s with heap := h', toks := tk } := by
  have X : Ext Φ ρ H s ρ H { s with heap := h', toks := tk } := ⟨fun _ _ e => e, fun _ h => .inl h, fun _ _ h => .inl h, fun b o _ _ _ e => hk b o e, fun b o _ _ e => ⟨o.slots, hk b o e⟩, fun b o h => ⟨o, hk b o h⟩, rfl⟩
  have hv : ∀ (x : V) (v : Value), VR G ρ s.heap x v → VR G ρ h' x v := fun x v q => X.vr R q
  have hvs : ∀ (x : List V) (v : List Value), VRs G ρ s.heap x v → VRs G ρ h' x v := fun x v q => X.vrs R q
  refine ⟨⟨?_, fun i x hx => ?_, R.dom, R.inj, R.lo, fun p hp => ?_, fun b o h => hk b o (R.base b o h), R.locp, R.stat, fun f hf => ?_⟩, X⟩
  · refine exE1 (R.fr) fun m h12 => andE2 h12 fun hn hm => ?_
    exact ⟨m, hn.keeps hk, fun x i hi => (hm x i hi).mono hv fun c o _ _ g _ => hk c o g⟩
  · refine exE2 (R.hp i x hx) fun a o h13 => andE3 h13 fun e1 e2 e3 => ?_
    exact exI2 a o ⟨e1, hk a o e2, e3.mono (fun _ _ e => e) hv hvs⟩
  · refine andE3 (R.pr p hp) fun p1 p2 h14_2 => ?_
    obtain ⟨o, p3, p4⟩ := h14_2
    exact ⟨p1, p2, o, hk p o p3, p4⟩
  · refine andE3 (R.fas f hf) fun p1 p2 h15_2 => ?_
    obtain ⟨o, es, ep, p3, p4⟩ := h15_2
    exact ⟨p1, p2, o, es, ep, hk f o p3, p4⟩
theorem Rel.toks (R : Rel G Φ ρ e H s) (tk : Nat) : Rel G Φ ρ e H { s with toks := tk } ∧ Ext Φ ρ H s ρ H { s with toks := tk } :=
  R.junk (h' := s.heap) tk (fun _ _ e => e)
noncomputable def rhoAdd (ρ : Rho) (n : Nat) (a : Addr) : Rho := fun i => if i = n then some a else ρ i
theorem Rel.alloc (R : Rel G Φ ρ e H s) {h' : Heap} {a : Addr} {o : Obj} {x : O} (tk : Nat) (hsz : s.heap.objs.size ≤ a) (ho : h'.get? a = some o)
    (hk : ∀ b o, s.heap.get? b = some o → h'.get? b = some o)
    (hO : (∀ i b, ρ i = some b → rhoAdd ρ H.length a i = some b) → (∀ (x : V) (v : Value), VR G ρ s.heap x v → VR G (rhoAdd ρ H.length a) h' x v) → (∀ (x : List V) (v : List Value), VRs G ρ s.heap x v → VRs G (rhoAdd ρ H.length a) h' x v) → OM G (rhoAdd ρ H.length a) h' x o) :
    Rel G Φ (rhoAdd ρ H.length a) e (H ++ [x]) { s with heap := h', toks := tk } ∧ Ext Φ ρ H s (rhoAdd ρ H.length a) (H ++ [x]) { s with heap := h', toks := tk } ∧ rhoAdd ρ H.length a H.length = some a := by
  have ha : s.heap.get? a = none := by
    cases q : s.heap.get? a with
    | none => rfl
    | some ob => exact absurd (Heap.lt_size q) (Nat.not_lt.mpr hsz)
  have hmod : (a == sysModules) = false := by
    obtain ⟨o, q⟩ := R.stat
    have h1 := Nat.lt_of_lt_of_le (Heap.lt_size (R.base _ _ q)) hsz
    have h2 : sysModules < cStatics := by decide
    exact beq_false_of_ne (Nat.ne_of_gt (Nat.lt_trans h2 h1))
  have hr : ∀ i b, ρ i = some b → rhoAdd ρ H.length a i = some b := fun i b hi => by
    have : i ≠ H.length := Nat.ne_of_lt (R.dom i b hi)
    simp [rhoAdd, this, hi]
  have X : Ext Φ ρ H s (rhoAdd ρ H.length a) (H ++ [x]) { s with heap := h', toks := tk } := by
    refine ⟨hr, fun b hb => ?_, fun i b hb => ?_, fun b o _ _ _ e => hk b o e, fun b o _ _ e => ⟨o.slots, hk b o e⟩, fun b o h => ⟨o, hk b o h⟩, rfl⟩
    · refine exE2 hb fun i y h17 => andE3 h17 fun e1 e2 e3 => ?_
      by_cases hi : i = H.length
      · simp only [rhoAdd, hi, if_true] at e1; cases e1; exact .inr ha
      · simp only [rhoAdd, hi, if_false] at e1
        refine .inl ⟨i, y, e1, ?_, e3⟩
        rwa [List.getElem?_append_left (R.dom i b e1)] at e2
    · by_cases hi : i = H.length
      · simp only [rhoAdd, hi, if_true] at hb; cases hb; exact .inr ha
      · simp only [rhoAdd, hi, if_false] at hb; exact .inl hb
  have hv : ∀ (x : V) (v : Value), VR G ρ s.heap x v → VR G (rhoAdd ρ H.length a) h' x v := fun x v q => X.vr R q
  have hvs : ∀ (x : List V) (v : List Value), VRs G ρ s.heap x v → VRs G (rhoAdd ρ H.length a) h' x v := fun x v q => X.vrs R q
  have hself : rhoAdd ρ H.length a H.length = some a := by simp [rhoAdd]
  have hbase : G.hb.get? a = none := by
    cases q : G.hb.get? a with
    | none => rfl
    | some ob => have := R.base a ob q; rw [ha] at this; cases this
  refine ⟨⟨?_, fun i y hy => ?_, fun i b hb => ?_, fun i j b hi hj => ?_, fun i b hb => ?_, fun p hp => ?_, fun b o h => hk b o (R.base b o h), R.locp, R.stat, fun f hf => ?_⟩, X, hself⟩
  · refine exE1 (R.fr) fun m h18 => andE2 h18 fun hn hm => ?_
    exact ⟨m, hn.keeps hk, fun x i hi => (hm x i hi).mono hv fun c o _ _ g _ => hk c o g⟩
  · rcases Nat.lt_trichotomy i H.length with hi | hi | hi
    · rw [List.getElem?_append_left hi] at hy
      refine exE2 (R.hp i y hy) fun b o' h19 => andE3 h19 fun e1 e2 e3 => ?_
      exact exI2 b o' ⟨hr i b e1, hk b o' e2, e3.mono hr hv hvs⟩
    · subst hi
      simp at hy; subst hy
      exact exI2 a o ⟨hself, ho, hO hr hv hvs⟩
    · have : (H ++ [x])[i]? = none := List.getElem?_eq_none (by simp; (first | lia | omega))
      rw [this] at hy; cases hy
  · by_cases hi : i = H.length
    · simp [hi]
    · simp only [rhoAdd, hi, if_false] at hb
      have := R.dom i b hb
      simp; (first | lia | omega)
  · by_cases h1 : i = H.length <;> by_cases h2 : j = H.length
    · rw [h1, h2]
    · simp only [rhoAdd, h1, h2, if_true, if_false] at hi hj
      cases hi
      obtain ⟨ob, q⟩ := R.rho_at hj; rw [ha] at q; cases q
    · simp only [rhoAdd, h1, h2, if_true, if_false] at hi hj
      cases hj
      obtain ⟨ob, q⟩ := R.rho_at hi; rw [ha] at q; cases q
    · simp only [rhoAdd, h1, h2, if_false] at hi hj
      exact R.inj i j b hi hj
  · by_cases h1 : i = H.length
    · simp only [rhoAdd, h1, if_true] at hb; cases hb; exact ⟨hbase, hmod⟩
    · simp only [rhoAdd, h1, if_false] at hb; exact R.lo i b hb
  · refine andE3 (R.pr p hp) fun p1 p2 h20_2 => ?_
    obtain ⟨o', p3, p4⟩ := h20_2
    refine ⟨p1, fun i hi => ?_, o', hk p o' p3, p4⟩
    by_cases h1 : i = H.length
    · simp only [rhoAdd, h1, if_true] at hi; cases hi
      rw [ha] at p3; cases p3
    · simp only [rhoAdd, h1, if_false] at hi; exact p2 i hi
  · refine andE3 (R.fas f hf) fun p1 p2 h21_2 => ?_
    obtain ⟨o', es, ep, p3, p4⟩ := h21_2
    refine ⟨p1, fun i hi => ?_, o', es, ep, hk f o' p3, p4⟩
    by_cases h1 : i = H.length
    · simp only [rhoAdd, h1, if_true] at hi; cases hi
      rw [ha] at p3; cases p3
    · simp only [rhoAdd, h1, if_false] at hi; exact p2 i hi
theorem Rel.upd (R : Rel G Φ ρ e H s) {h' : Heap} {i : Nat} {a : Addr} {x x' : O} {o' : Obj} (tk : Nat) (hi : ρ i = some a) (hx : H[i]? = some x) (hfz : x.frozen = false) (hfz' : x'.frozen = false) (ho : h'.get? a = some o')
    (hk : ∀ b o, b ≠ a → s.heap.get? b = some o → h'.get? b = some o)
    (hO : (∀ (x : V) (v : Value), VR G ρ s.heap x v → VR G ρ h' x v) → (∀ (x : List V) (v : List Value), VRs G ρ s.heap x v → VRs G ρ h' x v) → OM G ρ h' x' o') :
    Rel G Φ ρ e (H.set i x') { s with heap := h', toks := tk } ∧ Ext Φ ρ H s ρ (H.set i x') { s with heap := h', toks := tk } := by
  have hown : Owned ρ H a := ⟨i, x, hi, hx, hfz⟩
  have X : Ext Φ ρ H s ρ (H.set i x') { s with heap := h', toks := tk } := by
    refine ⟨fun _ _ e => e, fun b hb => .inl ?_, fun _ _ h => .inl h, fun b o hn _ _ e => hk b o (fun q => hn (q ▸ hown)) e, fun b o hn _ e => ⟨o.slots, hk b o (fun q => hn (q ▸ hown)) e⟩, fun b o h => ?_, rfl⟩
    · refine exE2 hb fun j y h22 => andE3 h22 fun e1 e2 e3 => ?_
      by_cases hj : i = j
      · subst hj; rw [hi] at e1; cases e1; exact hown
      · rw [List.getElem?_set_ne hj] at e2; exact ⟨j, y, e1, e2, e3⟩
    · by_cases hba : b = a
      · subst hba; exact ⟨o', ho⟩
      · exact ⟨o, hk b o hba h⟩
  have hv : ∀ (x : V) (v : Value), VR G ρ s.heap x v → VR G ρ h' x v := fun x v q => X.vr R q
  have hvs : ∀ (x : List V) (v : List Value), VRs G ρ s.heap x v → VRs G ρ h' x v := fun x v q => X.vrs R q
  refine exE2 (R.hp i x hx) fun a₀ o₀ h23 => andE3 h23 fun f1 f2 f3 => ?_
  rw [hi] at f1; cases f1
  have npr : ∀ p ∈ Φ.priv, p ≠ a := fun p hp q => (R.pr p hp).2.1 i (q ▸ hi)
  refine ⟨⟨?_, fun j y hy => ?_, fun j b hb => by simpa using R.dom j b hb, R.inj, R.lo, fun p hp => ?_, fun b o h => hk b o (fun q => ?_) (R.base b o h), R.locp, R.stat, fun f hf => ?_⟩, X⟩
  · refine exE1 (R.fr) fun m h24 => andE2 h24 fun hn hm => ?_
    refine exE3 hn fun oL es ep h25 => andE3 h25 fun g1 g2 g3 => ?_
    refine ⟨m, ⟨oL, es, ep, hk _ _ (npr _ R.locp) g1, g2, g3⟩, fun z j hj => (hm z j hj).mono hv fun c o vo _ g hd => hk c o (fun q => ?_) g⟩
    subst q
    have hoo : o = o₀ := Option.some.inj (g.symm.trans f2)
    have : ∀ y : O, OM G ρ s.heap y o → False := by
      intro y
      induction y with
      | list => rintro ⟨_, _, rfl, _⟩; cases hd
      | dict => rintro ⟨_, ⟨_, _, _, q, _⟩, _⟩; rw [q] at hd; cases hd
      | set => rintro ⟨_, _, _, _, q, _⟩; rw [q] at hd; cases hd
      | inst => rintro ⟨_, rfl, _⟩; cases hd
      | attrs => rintro ⟨_, _, rfl, _⟩; cases hd
      | node => rintro ⟨_, _, rfl, _⟩; cases hd
      | nxt => rintro ⟨_, _, rfl⟩; cases hd
      | iter => rintro ⟨_, _, rfl⟩; cases hd
      | dead => rintro ⟨_, rfl⟩; cases hd
      | frz y ih => exact ih
    exact this x (hoo ▸ f3)
  · by_cases hj : i = j
    · subst hj
      have hl : i < H.length := (List.getElem?_eq_some_iff.mp hx).1
      rw [List.getElem?_set_self hl] at hy; cases hy
      exact exI2 a o' ⟨hi, ho, hO hv hvs⟩
    · rw [List.getElem?_set_ne hj] at hy
      refine exE2 (R.hp j y hy) fun b o h26 => andE3 h26 fun e1 e2 e3 => ?_
      exact exI2 b o ⟨e1, hk b o (fun q => hj (R.inj i j a hi (q ▸ e1))) e2, e3.mono (fun _ _ e => e) hv hvs⟩
  · refine andE3 (R.pr p hp) fun p1 p2 h27_2 => ?_
    obtain ⟨o, p3, p4⟩ := h27_2
    exact ⟨p1, p2, o, hk p o (npr p hp) p3, p4⟩
  · subst q
    rw [(R.lo i b hi).1] at h; cases h
  · refine andE3 (R.fas f hf) fun p1 p2 h28_2 => ?_
    obtain ⟨o, es, ep, p3, p4⟩ := h28_2
    exact ⟨p1, p2, o, es, ep, hk f o (fun q => p2 i (q ▸ hi)) p3, p4⟩
end
end Mine
end
section
set_option tactic.hygienic false
open PySem PySem.W PyProof.Rows PySem.Calls
namespace Mine
noncomputable abbrev PM (α : Type) := AEnv → AHeap → Option (α × AEnv × AHeap)
inductive Flw where
  | next | brk | cont
  | ret (v : V)
noncomputable def OkA (Φ : Frm) (d : Nat) (A : Around) : Prop := (0 < d → A.handled = none) ∧ A.depth + d < 900 ∧ A.units + 40 * d < 9000 ∧ A.frames = some Φ.fr ∧ ∀ env ∈ Φ.fr, env.scope.kind ≠ .module ∧ ∃ L, env.frame = some L
theorem OkA.le {Φ : Frm} {d d' : Nat} {A : Around} (h : OkA Φ d A) (q : d' ≤ d) : OkA Φ d' A := ⟨fun z => h.1 (by (first | lia | omega)), by have := h.2.1; (first | lia | omega), by have := h.2.2.1; (first | lia | omega), h.2.2.2⟩
noncomputable abbrev Post (G : Gl) (Φ : Frm) {α β : Type} (AR : Rho → Heap → α → β → Prop) (ρ : Rho) (H : AHeap) (s : Shared) (x : α) (e' : AEnv) (H' : AHeap) (y : β) (s' : Shared) : Prop :=
  ∃ ρ', Rel G Φ ρ' e' H' s' ∧ Ext Φ ρ H s ρ' H' s' ∧ AR ρ' s'.heap x y
noncomputable def Snd (G : Gl) (Φ : Frm) (d : Nat) {α β : Type} (AR : Rho → Heap → α → β → Prop) (t : Sem β) (f : PM α) : Prop :=
  ∀ e H x e' H', f e H = some (x, e', H') → ∀ ρ s, Rel G Φ ρ e H s → ∀ (A : Around) (E : Value → Shared → Prop), OkA Φ d A →
    wpAny G.M A t (Post G Φ AR ρ H s x e' H') E s
noncomputable abbrev SndE (G : Gl) (Φ : Frm) (d : Nat) (t : Sem Value) (f : PM V) : Prop := Snd G Φ d (fun ρ h X v => VR G ρ h X v) t f
noncomputable abbrev SndL (G : Gl) (Φ : Frm) (d : Nat) (t : Sem (List Value)) (f : PM (List V)) : Prop := Snd G Φ d (fun ρ h X v => VRs G ρ h X v) t f
noncomputable abbrev SndU (G : Gl) (Φ : Frm) (d : Nat) (t : Sem Unit) (f : PM Unit) : Prop := Snd G Φ d (fun _ _ _ _ => True) t f
noncomputable abbrev SndB (G : Gl) (Φ : Frm) (d : Nat) (t : Sem Bool) (f : PM Bool) : Prop := Snd G Φ d (fun _ _ x y => x = y) t f
noncomputable def FR (G : Gl) (ρ : Rho) (h : Heap) : Flw → Flow → Prop
  | .next, f => f = .next
  | .brk, f => f = .brk
  | .cont, f => f = .cont
  | .ret X, f => ∃ v, f = .ret v ∧ VR G ρ h X v
noncomputable abbrev SndF (G : Gl) (Φ : Frm) (d : Nat) (t : Sem Flow) (f : PM Flw) : Prop := Snd G Φ d (fun ρ h X v => FR G ρ h X v) t f
noncomputable def SndO (G : Gl) (d : Nat) {α β : Type} (AR : Rho → Heap → α → β → Prop) (P : Rho → Heap → Prop) (t : Sem β) (b : AHeap → Option (α × AHeap)) : Prop :=
  ∀ Φ e H x H', b H = some (x, H') → ∀ ρ s, Rel G Φ ρ e H s → P ρ s.heap → ∀ (A : Around) (E : Value → Shared → Prop), OkA Φ d A →
    wpAny G.M A t (Post G Φ AR ρ H s x e H') E s
noncomputable def mFail {α : Type} : PM α := fun _ _ => none
theorem snd_fail {G : Gl} {Φ : Frm} {d : Nat} {α β : Type} {AR : Rho → Heap → α → β → Prop} {t : Sem β} : Snd G Φ d AR t mFail := fun _ _ _ _ _ h => by cases h
section
variable {G : Gl} {Φ : Frm} {d : Nat} {α β : Type} {AR : Rho → Heap → α → β → Prop} {t : Sem β} {f : PM α} {e e' : AEnv} {H H' : AHeap} {x : α} {ρ : Rho} {s : Shared} {A : Around} {E : Value → Shared → Prop}
theorem Snd.run (S : Snd G Φ d AR t f) (hf : f e H = some (x, e', H')) (R : Rel G Φ ρ e H s) (ok : OkA Φ d A) {Q : β → Shared → Prop}
    (k : ∀ y ρ' s', Rel G Φ ρ' e' H' s' → Ext Φ ρ H s ρ' H' s' → AR ρ' s'.heap x y → Q y s') : wpAny G.M A t Q E s :=
  wpAny_mono (S e H x e' H' hf ρ s R A E ok) (fun y s' ⟨ρ', a, b, c⟩ => k y ρ' s' a b c) fun _ _ z => z
theorem SndO.run {P : Rho → Heap → Prop} {b : AHeap → Option (α × AHeap)} (S : SndO G d AR P t b) (hf : b H = some (x, H')) (R : Rel G Φ ρ e H s) (hP : P ρ s.heap) (ok : OkA Φ d A) {Q : β → Shared → Prop}
    (k : ∀ y ρ' s', Rel G Φ ρ' e H' s' → Ext Φ ρ H s ρ' H' s' → AR ρ' s'.heap x y → Q y s') : wpAny G.M A t Q E s :=
  wpAny_mono (S Φ e H x H' hf ρ s R hP A E ok) (fun y s' ⟨ρ', a, b, c⟩ => k y ρ' s' a b c) fun _ _ z => z
end
noncomputable def eVar (i : Nat) : PM V := fun e H => match e[i]? with
  | some (some v) => some (v, e, H)
  | _ => none
noncomputable def eInt (n : Int) : PM V := fun e H => some (.int n, e, H)
noncomputable def eNone : PM V := fun e H => some (.none, e, H)
noncomputable def eBool (b : Bool) : PM V := fun e H => some (.bool b, e, H)
structure FOk (Φ : Frm) : Prop where
  kind : Φ.env.scope.kind = .function
  inj : ∀ x y i, Φ.slot.lookup x = some i → Φ.slot.lookup y = some i → x = y
  cinj : ∀ x y c, Φ.env.cells.lookup x = some c → Φ.env.cells.lookup y = some c → x = y
section
variable {G : Gl} {Φ : Frm} {d : Nat}
set_option tactic.hygienic true in
theorem load_var (fo : FOk Φ) {x : Str} {i : Nat} (hs : Φ.slot.lookup x = some i) (hk : Φ.env.kindOf x = some .local ∨ Φ.env.kindOf x = some .cell ∨ Φ.env.kindOf x = some .free) (hn : (x == ("__classdict__" : Str)) = false) :
    SndE G Φ d (loadName Φ.env x) (eVar i) := by
  intro e H X e' H' hf ρ s R A E ok
  unfold eVar at hf
  split at hf
  · rename_i v hv
    simp only [Option.some.injEq, Prod.mk.injEq] at hf
    obtain ⟨rfl, rfl, rfl⟩ := hf
    refine exE1 (R.fr) fun m h1 => andE2 h1 fun hns hm => ?_
    have q := hm x i hs
    rcases hk with hk | hk
    · refine exE1 (q.1 hk v hv) fun y h2 => andE2 h2 fun a b => ?_
      exact wpAny_loadName_local fo.kind hk hns a ⟨ρ, R, Ext.refl .., b⟩
    · refine exE3 (q.2 hk) fun c o vo h3 => andE4 h3 fun a1 a2 a3 a4 => ?_
      obtain ⟨y, b1, b2⟩ := a4 v hv
      subst b1
      rcases hk with hk | hk
      · exact wpAny_loadName_cell fo.kind hk a1 ⟨o, a2, a3⟩ ⟨ρ, R, Ext.refl .., b2⟩
      · exact wpAny_loadName_free fo.kind hk a1 ⟨o, a2, a3⟩ ⟨ρ, R, Ext.refl .., b2⟩ hn
  · first | exact nn hf | exact nf hf | cases hf
theorem snd_name (fo : FOk Φ) {x : Str} {i : Nat} {pos : Pos} (hs : Φ.slot.lookup x = some i) (hk : Φ.env.kindOf x = some .local ∨ Φ.env.kindOf x = some .cell ∨ Φ.env.kindOf x = some .free)
    (hn : (x == ("__classdict__" : Str)) = false) (hd : (x == ("__debug__" : Str)) = false) : SndE G Φ d (eval (.Name x pos) Φ.env) (eVar i) :=
  fun e H X e' H' hf ρ s R A E ok => wpAny_Name (load_var fo hs hk hn e H X e' H' hf ρ s R A E ok) hd
theorem snd_int {n : Int} {k : Nat} {pos : Pos} : SndE G Φ d (eval (.Constant (.int n) k pos) Φ.env) (eInt n) := by
  intro e H X e' H' hf ρ s R A E ok
  cases hf
  refine andE2 (R.toks (s.toks + 1)) fun R' X' => ?_
  exact wpAny_Constant_int ⟨ρ, R', X', VR.int _ _⟩
theorem snd_none {k : Nat} {pos : Pos} : SndE G Φ d (eval (.Constant .none k pos) Φ.env) eNone := by
  intro e H X e' H' hf ρ s R A E ok
  cases hf
  exact wpAny_Constant_none ⟨ρ, R, Ext.refl .., VR.none⟩
end
noncomputable def mStore (i : Nat) (v : V) : PM Unit := fun e H => if i < e.length then some ((), e.set i (some v), H) else none
theorem not_imm_dict {o : Obj} {es : Array DictEntry} {ep : Nat} (g : o.data = .dict es ep) : ¬ Imm o := by
  rintro ⟨_, _, _, ⟨_, _, q⟩ | ⟨_, q⟩⟩ <;> rw [g] at q <;> cases q
theorem not_imm_cell {o : Obj} {v : Option Value} (g : o.data = .cell v) : ¬ Imm o := by
  rintro ⟨_, _, _, ⟨_, _, q⟩ | ⟨_, q⟩⟩ <;> rw [g] at q <;> cases q
section
variable {G : Gl} {Φ : Frm} {d : Nat} {ρ : Rho} {e : AEnv} {H : AHeap} {s : Shared}
theorem Rel.storeL (R : Rel G Φ ρ e H s) (fo : FOk Φ) {x : Str} {i : Nat} {v : Value} {X : V} {h' : Heap} {m : Str → Option Value} (tk : Nat) (hs : Φ.slot.lookup x = some i) (hm : ∀ y j, Φ.slot.lookup y = some j → NameR G ρ s.heap Φ.env m e y j)
    (hk : Φ.env.kindOf x = some .local) (hn : h'.Ns Φ.env.locals (fun y => if y = x then some v else m y)) (hsb : Heap.SameBut Φ.env.locals s.heap h') (hv : VR G ρ s.heap X v) :
    Rel G Φ ρ (e.set i (some X)) H { s with heap := h', toks := tk } ∧ Ext Φ ρ H s ρ H { s with heap := h', toks := tk } := by
  have hk' : ∀ b o, b ≠ Φ.env.locals → s.heap.get? b = some o → h'.get? b = some o := fun b o hb g => hsb.extBut b o hb g
  have X' : Ext Φ ρ H s ρ H { s with heap := h', toks := tk } := ⟨fun _ _ e => e, fun _ h => .inl h, fun _ _ h => .inl h, fun b o _ hp _ g => hk' b o (fun q => hp (q ▸ R.locp)) g, fun b o _ hp g => ⟨o.slots, hk' b o (fun q => hp (q ▸ R.locp)) g⟩, fun b o g => by
    by_cases hb : b = Φ.env.locals
    · subst hb; obtain ⟨oL, _, _, g1, _⟩ := hn; exact ⟨oL, g1⟩
    · exact ⟨o, hk' b o hb g⟩, rfl⟩
  have hvr : ∀ (x : V) (v : Value), VR G ρ s.heap x v → VR G ρ h' x v := fun x v q => X'.vr R q
  have hvs : ∀ (x : List V) (v : List Value), VRs G ρ s.heap x v → VRs G ρ h' x v := fun x v q => X'.vrs R q
  refine exE3 hn fun oL es ep h6 => andE3 h6 fun g1 g2 _ => ?_
  refine ⟨⟨⟨_, ⟨oL, es, ep, g1, g2, ‹_›⟩, fun y j hj => ⟨fun hky Y hY => ?_, fun hky => ?_⟩⟩, fun j y hy => ?_, R.dom, R.inj, R.lo, fun p hp => ?_, fun b o h => ?_, R.locp, R.stat, fun f hf => ?_⟩, X'⟩
  · by_cases hyx : y = x
    · subst hyx
      have hij : i = j := Option.some.inj (hs.symm.trans hj)
      subst hij
      by_cases hl : i < e.length
      · rw [List.getElem?_set_self hl] at hY
        cases hY
        exact ⟨v, by simp, hvr _ _ hv⟩
      · rw [List.getElem?_eq_none (by simpa using hl)] at hY; cases hY
    · have hij : i ≠ j := fun q => hyx (fo.inj y x i (q ▸ hj) hs)
      rw [List.getElem?_set_ne hij] at hY
      obtain ⟨u, a, b⟩ := (hm y j hj).1 hky Y hY
      exact ⟨u, by simpa [hyx] using a, hvr _ _ b⟩
  · have hyx : y ≠ x := fun q => by rw [q, hk] at hky; rcases hky with h | h <;> cases h
    have hij : i ≠ j := fun q => hyx (fo.inj y x i (q ▸ hj) hs)
    refine exE3 ((hm y j hj).2 hky) fun c o vo h8 => andE4 h8 fun a1 a2 a3 a4 => ?_
    refine exI3 c o vo ⟨a1, hk' c o (fun q => ?_) a2, a3, fun Y hY => ?_⟩
    · refine exE1 (R.fr) fun m0 h9 => andE2 h9 fun h9_0 _ => ?_
      obtain ⟨o0, es0, ep0, z1, z2, _⟩ := h9_0
      rw [q, z1] at a2
      cases a2
      rw [z2] at a3; cases a3
    · rw [List.getElem?_set_ne hij] at hY
      refine exE1 (a4 Y hY) fun u h10 => andE2 h10 fun b1 b2 => ?_
      exact ⟨u, b1, hvr _ _ b2⟩
  · refine exE2 (R.hp j y hy) fun a o h11 => andE3 h11 fun e1 e2 e3 => ?_
    exact exI2 a o ⟨e1, hk' a o (fun q => (R.pr _ R.locp).2.1 j (q ▸ e1)) e2, e3.mono (fun _ _ e => e) hvr hvs⟩
  · refine andE3 (R.pr p hp) fun p1 p2 h12_2 => ?_
    obtain ⟨o, p3, p4⟩ := h12_2
    by_cases hpl : p = Φ.env.locals
    · subst hpl
      exact ⟨p1, p2, oL, g1, not_imm_dict g2⟩
    · exact ⟨p1, p2, o, hk' p o hpl p3, p4⟩
  · refine hk' b o (fun q => ?_) (R.base b o h)
    rw [q, (R.pr _ R.locp).1] at h; cases h
  · refine andE3 (R.fas f hf) fun p1 p2 h13_2 => ?_
    obtain ⟨o, es', ep', p3, p4⟩ := h13_2
    by_cases hpl : f = Φ.env.locals
    · subst hpl
      exact ⟨p1, p2, oL, es, ep, g1, g2⟩
    · exact ⟨p1, p2, o, es', ep', hk' f o hpl p3, p4⟩
end
end Mine
end
section
set_option tactic.hygienic false
open PySem PySem.W PyProof.Rows PySem.Calls
namespace Mine
section
variable {G : Gl} {Φ : Frm} {d : Nat} {ρ : Rho} {e : AEnv} {H : AHeap} {s : Shared}
theorem OM.notCell {o : Obj} {h : Heap} {vo : Option Value} (hd : o.data = .cell vo) : ∀ y : O, ¬ OM G ρ h y o := by
  intro y
  induction y with
  | list => rintro ⟨_, _, rfl, _⟩; cases hd
  | dict => rintro ⟨_, ⟨_, _, _, q, _⟩, _⟩; rw [q] at hd; cases hd
  | set => rintro ⟨_, _, _, _, q, _⟩; rw [q] at hd; cases hd
  | inst => rintro ⟨_, rfl, _⟩; cases hd
  | attrs => rintro ⟨_, _, rfl, _⟩; cases hd
  | node => rintro ⟨_, _, rfl, _⟩; cases hd
  | nxt => rintro ⟨_, _, rfl⟩; cases hd
  | iter => rintro ⟨_, _, rfl⟩; cases hd
  | dead => rintro ⟨_, rfl⟩; cases hd
  | frz y ih => exact ih
theorem Rel.storeC (R : Rel G Φ ρ e H s) (fo : FOk Φ) {x : Str} {i : Nat} {c : Addr} {v : Value} {X : V} {h' : Heap} (hs : Φ.slot.lookup x = some i)
    (hk : Φ.env.kindOf x = some .cell) (hc : Φ.env.cells.lookup x = some c) (hcp : c ∈ Φ.priv) (hn : h'.IsCell c (some v)) (hsb : Heap.SameBut c s.heap h') (hv : VR G ρ s.heap X v) :
    Rel G Φ ρ (e.set i (some X)) H { s with heap := h' } ∧ Ext Φ ρ H s ρ H { s with heap := h' } := by
  have hk' : ∀ b o, b ≠ c → s.heap.get? b = some o → h'.get? b = some o := fun b o hb g => hsb.extBut b o hb g
  have X' : Ext Φ ρ H s ρ H { s with heap := h' } := ⟨fun _ _ e => e, fun _ h => .inl h, fun _ _ h => .inl h, fun b o _ hp _ g => hk' b o (fun q => hp (q ▸ hcp)) g, fun b o _ hp g => ⟨o.slots, hk' b o (fun q => hp (q ▸ hcp)) g⟩, fun b o g => by
    by_cases hb : b = c
    · subst hb; obtain ⟨oc', n1, _⟩ := hn; exact ⟨oc', n1⟩
    · exact ⟨o, hk' b o hb g⟩, rfl⟩
  have hvr : ∀ (x : V) (v : Value), VR G ρ s.heap x v → VR G ρ h' x v := fun x v q => X'.vr R q
  have hvs : ∀ (x : List V) (v : List Value), VRs G ρ s.heap x v → VRs G ρ h' x v := fun x v q => X'.vrs R q
  refine exE1 (R.fr) fun m h0 => andE2 h0 fun hns hm => ?_
  refine exE3 hns fun oL es ep h1 => andE3 h1 fun g1 g2 g3 => ?_
  refine exE3 ((hm x i hs).2 (.inl hk)) fun c0 oc vo0 h2 => andE4 h2 fun k1 k2 k3 _ => ?_
  obtain rfl : c = c0 := Option.some.inj (hc.symm.trans k1)
  have hLc : Φ.env.locals ≠ c := fun q => by rw [q, k2] at g1; cases g1; rw [k3] at g2; cases g2
  obtain ⟨oc', n1, n2⟩ := hn
  refine ⟨⟨⟨m, ⟨oL, es, ep, hk' _ _ hLc g1, g2, g3⟩, fun y j hj => ⟨fun hky Y hY => ?_, fun hky => ?_⟩⟩, fun j y hy => ?_, R.dom, R.inj, R.lo, fun p hp => ?_, fun b o h => ?_, R.locp, R.stat, fun f hf => ?_⟩, X'⟩
  · have hyx : y ≠ x := fun q => by rw [q, hk] at hky; cases hky
    have hij : i ≠ j := fun q => hyx (fo.inj y x i (q ▸ hj) hs)
    rw [List.getElem?_set_ne hij] at hY
    obtain ⟨u, a, b⟩ := (hm y j hj).1 hky Y hY
    exact ⟨u, a, hvr _ _ b⟩
  · by_cases hyx : y = x
    · subst hyx
      have hij : i = j := Option.some.inj (hs.symm.trans hj)
      subst hij
      refine exI3 c oc' (some v) ⟨hc, n1, n2, fun Y hY => ?_⟩
      by_cases hl : i < e.length
      · rw [List.getElem?_set_self hl] at hY
        cases hY
        exact ⟨v, rfl, hvr _ _ hv⟩
      · rw [List.getElem?_eq_none (by simpa using hl)] at hY; cases hY
    · have hij : i ≠ j := fun q => hyx (fo.inj y x i (q ▸ hj) hs)
      refine exE3 ((hm y j hj).2 hky) fun c1 o vo h5 => andE4 h5 fun a1 a2 a3 a4 => ?_
      refine exI3 c1 o vo ⟨a1, hk' c1 o (fun q => hyx (fo.cinj y x c (q ▸ a1) hc)) a2, a3, fun Y hY => ?_⟩
      rw [List.getElem?_set_ne hij] at hY
      refine exE1 (a4 Y hY) fun u h6 => andE2 h6 fun b1 b2 => ?_
      exact ⟨u, b1, hvr _ _ b2⟩
  · refine exE2 (R.hp j y hy) fun a o h7 => andE3 h7 fun e1 e2 e3 => ?_
    exact exI2 a o ⟨e1, hk' a o (fun q => (R.pr _ hcp).2.1 j (q ▸ e1)) e2, e3.mono (fun _ _ e => e) hvr hvs⟩
  · refine andE3 (R.pr p hp) fun p1 p2 h8_2 => ?_
    obtain ⟨o, p3, p4⟩ := h8_2
    by_cases hpl : p = c
    · subst hpl
      exact ⟨p1, p2, oc', n1, not_imm_cell n2⟩
    · exact ⟨p1, p2, o, hk' p o hpl p3, p4⟩
  · refine hk' b o (fun q => ?_) (R.base b o h)
    rw [q, (R.pr _ hcp).1] at h; cases h
  · refine andE3 (R.fas f hf) fun p1 p2 h9_2 => ?_
    obtain ⟨o, es', ep', p3, p4⟩ := h9_2
    exact ⟨p1, p2, o, es', ep', hk' f o (fun q => by rw [q, k2] at p3; cases p3; rw [k3] at p4; cases p4) p3, p4⟩
noncomputable def Sto (Φ : Frm) (x : Str) : Prop := Φ.env.kindOf x = some .local ∨ (Φ.env.kindOf x = some .cell ∧ ∀ c, Φ.env.cells.lookup x = some c → c ∈ Φ.priv)
theorem store_var (fo : FOk Φ) {x : Str} {i : Nat} {X : V} {v : Value} (hs : Φ.slot.lookup x = some i) (hst : Sto Φ x) {Q : Unit → Shared → Prop} {e' : AEnv} {H' : AHeap} {A : Around} {E : Value → Shared → Prop}
    (hf : mStore i X e H = some ((), e', H')) (R : Rel G Φ ρ e H s) (hv : VR G ρ s.heap X v) (k : ∀ s', Rel G Φ ρ e' H' s' → Ext Φ ρ H s ρ H' s' → Q () s') : wpAny G.M A (storeName Φ.env x v) Q E s := by
  unfold mStore at hf
  split at hf
  · simp only [Option.some.injEq, Prod.mk.injEq, true_and] at hf
    obtain ⟨rfl, rfl⟩ := hf
    rcases hst with hk | ⟨hk, hcp⟩
    · refine exE1 (R.fr) fun m h11 => andE2 h11 fun hns hm => ?_
      refine wpAny_storeName_local hk hns (fun h' hn hsb => ?_) (by rw [fo.kind]; rfl)
      refine andE2 (R.storeL fo (s.toks + 1) hs hm hk hn hsb hv) fun a b => ?_
      exact k _ a b
    · refine exE1 (R.fr) fun m h13 => andE2 h13 fun hns hm => ?_
      refine exE3 ((hm x i hs).2 (.inl hk)) fun c oc vo0 h14 => andE4 h14 fun k1 k2 k3 _ => ?_
      refine wpAny_storeName_cell fo.kind hk k1 ⟨oc, k2, k3⟩ fun h' hn hsb => ?_
      refine andE2 (R.storeC fo hs hk k1 (hcp c k1) hn hsb hv) fun a b => ?_
      exact k _ a b
  · first | exact nn hf | exact nf hf | cases hf
end
noncomputable abbrev Op2 := V → V → AHeap → Option (V × AHeap)
noncomputable abbrev Op1 := V → AHeap → Option (V × AHeap)
noncomputable def eBin (f g : PM V) (b : Op2) : PM V := fun e H => (f e H).bind fun r => (g r.2.1 r.2.2).bind fun q => (b r.1 q.1 q.2.2).bind fun z => some (z.1, q.2.1, z.2)
noncomputable def eUn (f : PM V) (b : Op1) : PM V := fun e H => (f e H).bind fun r => (b r.1 r.2.2).bind fun z => some (z.1, r.2.1, z.2)
noncomputable def Op2R (G : Gl) (d : Nat) (t : Value → Value → Sem Value) (b : Op2) : Prop :=
  ∀ X Y v w, SndO G d (fun ρ h x y => VR G ρ h x y) (fun ρ h => VR G ρ h X v ∧ VR G ρ h Y w) (t v w) (b X Y)
noncomputable def Op1R (G : Gl) (d : Nat) (t : Value → Sem Value) (b : Op1) : Prop :=
  ∀ X v, SndO G d (fun ρ h x y => VR G ρ h x y) (fun ρ h => VR G ρ h X v) (t v) (b X)
noncomputable abbrev Op2B := V → V → AHeap → Option Bool
noncomputable def Op2RB (G : Gl) (d : Nat) (t : Value → Value → Sem Value) (b : Op2B) : Prop :=
  ∀ X Y v w (Φ : Frm) e H x, b X Y H = some x → ∀ ρ s, Rel G Φ ρ e H s → VR G ρ s.heap X v → VR G ρ s.heap Y w → ∀ (A : Around) (E : Value → Shared → Prop), OkA Φ d A →
    wpAny G.M A (t v w) (fun y s' => Rel G Φ ρ e H s' ∧ Ext Φ ρ H s ρ H s' ∧ y = .bool x) E s
section
variable {G : Gl} {Φ : Frm} {d : Nat}
theorem run_two {l r : Expr} {f g : PM V} (h1 : SndE G Φ d (eval l Φ.env) f) (h2 : SndE G Φ d (eval r Φ.env) g) {e e₁ e₂ : AEnv} {H H₁ H₂ : AHeap} {X Y : V} (hf : f e H = some (X, e₁, H₁)) (hg : g e₁ H₁ = some (Y, e₂, H₂))
    {ρ : Rho} {s : Shared} (R : Rel G Φ ρ e H s) {A : Around} (ok : OkA Φ d A) {E : Value → Shared → Prop} {Q : Value → Value → Shared → Prop}
    (k : ∀ v w ρ' s', Rel G Φ ρ' e₂ H₂ s' → Ext Φ ρ H s ρ' H₂ s' → VR G ρ' s'.heap X v → VR G ρ' s'.heap Y w → Q v w s') :
    wpAny G.M A (eval l Φ.env) (fun a s₁ => wpAny G.M A (eval r Φ.env) (fun b s₂ => Q a b s₂) E s₁) E s :=
  h1.run hf R ok fun a ρ₁ s₁ R₁ X₁ v₁ => h2.run hg R₁ ok fun b ρ₂ s₂ R₂ X₂ v₂ => k a b ρ₂ s₂ R₂ (X₁.trans X₂) (X₂.vr R₁ v₁) v₂
theorem snd_bin {l r : Expr} {op : Operator} {pos : Pos} {f g : PM V} {b : Op2} (h1 : SndE G Φ d (eval l Φ.env) f) (h2 : SndE G Φ d (eval r Φ.env) g) (h3 : Op2R G d (binaryOp op) b) : SndE G Φ d (eval (.BinOp l op r pos) Φ.env) (eBin f g b) := by
  intro e H X e' H' hf ρ s R A E ok
  refine hide fun PQ hpq => ?_
  refine bnd3 hf fun X₁ e₁ H₁ f1 hf => ?_
  refine bnd3 hf fun X₂ e₂ H₂ f2 hf => ?_
  refine bnd2 hf fun X₃ H₃ f3 hf => ?_
  cases hf
  refine hpq ?_
  refine wpAny_BinOp (run_two h1 h2 f1 f2 R ok fun v w ρ₂ s₂ R₂ X₂ v₁ v₂ => ?_)
  exact (h3 _ _ v w).run f3 R₂ ⟨v₁, v₂⟩ ok fun y ρ₃ s₃ R₃ X₃ v₃ => ⟨ρ₃, R₃, X₂.trans X₃, v₃⟩
noncomputable def eCmp (f g : PM V) (b : Op2B) : PM V := fun e H => (f e H).bind fun r => (g r.2.1 r.2.2).bind fun q => (b r.1 q.1 q.2.2).bind fun z => some (.bool z, q.2.1, q.2.2)
theorem snd_cmp {l r : Expr} {op : CmpOp} {pos : Pos} {f g : PM V} {b : Op2B} (h1 : SndE G Φ d (eval l Φ.env) f) (h2 : SndE G Φ d (eval r Φ.env) g) (h3 : Op2RB G d (compareOp op) b) (hm : behindInMarks op r = false) : SndE G Φ d (eval (.Compare l [op] [r] pos) Φ.env) (eCmp f g b) := by
  intro e H X e' H' hf ρ s R A E ok
  refine hide fun PQ hpq => ?_
  refine bnd3 hf fun X₁ e₁ H₁ f1 hf => ?_
  refine bnd3 hf fun X₂ e₂ H₂ f2 hf => ?_
  refine bnd1 hf fun z f3 hf => ?_
  cases hf
  refine hpq ?_
  refine wpAny_Compare1 (run_two h1 h2 f1 f2 R ok fun v w ρ₂ s₂ R₂ X₂ v₁ v₂ => ?_) hm
  refine wpAny_mono (h3 _ _ v w Φ _ _ _ f3 ρ₂ s₂ R₂ v₁ v₂ A E ok) (fun y s₃ h => ?_) fun _ _ z => z
  refine andE3 h fun R₃ X₃ e16_2 => ?_
  subst e16_2
  exact ⟨ρ₂, R₃, X₂.trans X₃, VR.bool _⟩
noncomputable def tCmp (f g : PM V) (b : Op2B) : PM Bool := fun e H => (f e H).bind fun r => (g r.2.1 r.2.2).bind fun q => (b r.1 q.1 q.2.2).bind fun z => some (z, q.2.1, q.2.2)
theorem tst_cmp {l r : Expr} {op : CmpOp} {pos : Pos} {whole : Sem Value} {f g : PM V} {b : Op2B} (h1 : SndE G Φ d (eval l Φ.env) f) (h2 : SndE G Φ d (eval r Φ.env) g) (h3 : Op2RB G d (compareOp op) b) (hm : behindInMarks op r = false) : SndB G Φ d (isTrue (.Compare l [op] [r] pos) Φ.env whole) (tCmp f g b) := by
  intro e H X e' H' hf ρ s R A E ok
  refine hide fun PQ hpq => ?_
  refine bnd3 hf fun X₁ e₁ H₁ f1 hf => ?_
  refine bnd3 hf fun X₂ e₂ H₂ f2 hf => ?_
  refine bnd1 hf fun z f3 hf => ?_
  cases hf
  refine hpq ?_
  refine wpAny_isTrue_Compare1 (run_two h1 h2 f1 f2 R ok fun v w ρ₂ s₂ R₂ X₂ v₁ v₂ => ?_) hm
  refine wpAny_mono (h3 _ _ v w Φ _ _ _ f3 ρ₂ s₂ R₂ v₁ v₂ A E ok) (fun y s₃ h => ?_) fun _ _ z => z
  refine andE3 h fun R₃ X₃ e17_2 => ?_
  subst e17_2
  exact wpAny_truthy_bool ⟨ρ₂, R₃, X₂.trans X₃, rfl⟩
noncomputable def vTruth : V → AHeap → Option Bool
  | .none, _ => some false
  | .bool b, _ => some b
  | .int i, _ => some (decide (i ≠ 0))
  | .tup vs, _ => if vs.length ≤ 100000 then some (!vs.isEmpty) else none
  | .ref i, H => match (H[i]?).map O.thaw with
    | some (.list vs) => if vs.length ≤ 100000 then some (!vs.isEmpty) else none
    | _ => none
  | _, _ => none
noncomputable def TruthR (G : Gl) (d : Nat) : Prop := ∀ X v (Φ : Frm) e H x, vTruth X H = some x → ∀ ρ s, Rel G Φ ρ e H s → VR G ρ s.heap X v → ∀ (A : Around) (E : Value → Shared → Prop), OkA Φ d A →
    wpAny G.M A (truthy v) (fun y s' => Rel G Φ ρ e H s' ∧ Ext Φ ρ H s ρ H s' ∧ y = x) E s
noncomputable def tVal (f : PM V) : PM Bool := fun e H => (f e H).bind fun r => (vTruth r.1 r.2.2).bind fun z => some (z, r.2.1, r.2.2)
theorem tst_val {x : Expr} {whole : Sem Value} {f : PM V} (ht : TruthR G d) (h1 : SndE G Φ d whole f) (he : isTrue x Φ.env whole = (do let v ← whole; standAt x.pos; holding [v] (truthy v))) : SndB G Φ d (isTrue x Φ.env whole) (tVal f) := by
  intro e H X e' H' hf ρ s R A E ok
  refine hide fun PQ hpq => ?_
  refine bnd3 hf fun X₁ e₁ H₁ f1 hf => ?_
  refine bnd1 hf fun z f3 hf => ?_
  cases hf
  refine hpq ?_
  refine wpAny_isTrue_value (h1.run f1 R ok fun v ρ₁ s₁ R₁ X₁ v₁ => ?_) he
  refine wpAny_mono (ht _ v Φ _ _ _ f3 ρ₁ s₁ R₁ v₁ A E ok) (fun y s₃ h => ?_) fun _ _ z => z
  refine andE3 h fun R₃ X₃ e18_2 => ?_
  subst e18_2
  exact ⟨ρ₁, R₃, X₁.trans X₃, rfl⟩
noncomputable def tAnd (f g : PM Bool) : PM Bool := fun e H => (f e H).bind fun r => match r.1 with
  | true => g r.2.1 r.2.2
  | false => some (false, r.2.1, r.2.2)
noncomputable def tTrue : PM Bool := fun e H => some (true, e, H)
noncomputable def tFalse : PM Bool := fun e H => some (false, e, H)
noncomputable def tOr (f g : PM Bool) : PM Bool := fun e H => (f e H).bind fun r => match r.1 with
  | false => g r.2.1 r.2.2
  | true => some (true, r.2.1, r.2.2)
theorem all_and {x : Expr} {rest : List Expr} {f g : PM Bool} (h1 : SndB G Φ d (isTrue x Φ.env (eval x Φ.env)) f) (h2 : SndB G Φ d (allTrue .And rest Φ.env) g) : SndB G Φ d (allTrue .And (x :: rest) Φ.env) (tAnd f g) := by
  intro e H X e' H' hf ρ s R A E ok
  refine hide fun PQ hpq => ?_
  refine bnd3 hf fun b e₁ H₁ f1 hf => ?_
  refine hpq ?_
  refine wpAny_allTrue_And_cons (h1.run f1 R ok fun v ρ₁ s₁ R₁ X₁ v₁ => ?_)
  subst v₁
  cases b with
  | true => exact h2.run hf R₁ ok fun y ρ₂ s₂ R₂ X₂ v₂ => ⟨ρ₂, R₂, X₁.trans X₂, v₂⟩
  | false => cases hf; exact ⟨ρ₁, R₁, X₁, rfl⟩
theorem all_and0 : SndB G Φ d (allTrue .And [] Φ.env) tTrue := by
  intro e H X e' H' hf ρ s R A E ok
  cases hf
  exact wpAny_allTrue_And_nil ⟨ρ, R, Ext.refl .., rfl⟩
theorem tst_bool {op : BoolOp} {values : List Expr} {pos : Pos} {whole : Sem Value} {f : PM Bool} (h : SndB G Φ d (allTrue op values Φ.env) f) : SndB G Φ d (isTrue (.BoolOp op values pos) Φ.env whole) f :=
  fun e H X e' H' hf ρ s R A E ok => wpAny_isTrue_BoolOp (h e H X e' H' hf ρ s R A E ok)
noncomputable def eAnd (f g : PM V) : PM V := fun e H => (f e H).bind fun r => (vTruth r.1 r.2.2).bind fun b => match b with
  | true => g r.2.1 r.2.2
  | false => some r
noncomputable def eOr (f g : PM V) : PM V := fun e H => (f e H).bind fun r => (vTruth r.1 r.2.2).bind fun b => match b with
  | false => g r.2.1 r.2.2
  | true => some r
theorem snd_and {x y : Expr} {pos : Pos} {f g : PM V} (ht : TruthR G d) (h1 : SndE G Φ d (eval x Φ.env) f) (h2 : SndE G Φ d (eval y Φ.env) g) : SndE G Φ d (eval (.BoolOp .And [x, y] pos) Φ.env) (eAnd f g) := by
  intro e H X e' H' hf ρ s R A E ok
  refine hide fun PQ hpq => ?_
  refine bnd3 hf fun X₁ e₁ H₁ f1 hf => ?_
  refine bnd1 hf fun z f3 hf => ?_
  refine hpq ?_
  refine wpAny_And2 (h1.run f1 R ok fun v ρ₁ s₁ R₁ X₁ v₁ => ?_)
  refine wpAny_mono (ht _ v Φ _ _ _ f3 ρ₁ s₁ R₁ v₁ A E ok) (fun y s₃ h => ?_) fun _ _ z => z
  refine andE3 h fun R₃ X₃ e19_2 => ?_
  subst e19_2
  cases y with
  | true => exact h2.run hf R₃ ok fun y ρ₂ s₂ R₂ X₂ v₂ => ⟨ρ₂, R₂, (X₁.trans X₃).trans X₂, v₂⟩
  | false => cases hf; exact ⟨ρ₁, R₃, X₁.trans X₃, X₃.vr R₁ v₁⟩
theorem snd_or {x y : Expr} {pos : Pos} {f g : PM V} (ht : TruthR G d) (h1 : SndE G Φ d (eval x Φ.env) f) (h2 : SndE G Φ d (eval y Φ.env) g) : SndE G Φ d (eval (.BoolOp .Or [x, y] pos) Φ.env) (eOr f g) := by
  intro e H X e' H' hf ρ s R A E ok
  refine hide fun PQ hpq => ?_
  refine bnd3 hf fun X₁ e₁ H₁ f1 hf => ?_
  refine bnd1 hf fun z f3 hf => ?_
  refine hpq ?_
  refine wpAny_Or2 (h1.run f1 R ok fun v ρ₁ s₁ R₁ X₁ v₁ => ?_)
  refine wpAny_mono (ht _ v Φ _ _ _ f3 ρ₁ s₁ R₁ v₁ A E ok) (fun y s₃ h => ?_) fun _ _ z => z
  refine andE3 h fun R₃ X₃ e20_2 => ?_
  subst e20_2
  cases y with
  | false => exact h2.run hf R₃ ok fun y ρ₂ s₂ R₂ X₂ v₂ => ⟨ρ₂, R₂, (X₁.trans X₃).trans X₂, v₂⟩
  | true => cases hf; exact ⟨ρ₁, R₃, X₁.trans X₃, X₃.vr R₁ v₁⟩
end
end Mine
end
section
set_option tactic.hygienic false
open PySem PySem.W PyProof.Rows PySem.Calls
namespace Mine
theorem named {α : Sort _} (x : α) {P : Prop} (k : ∀ y, y = x → P) : P := k x rfl
noncomputable def mNil : PM Flw := fun e H => some (.next, e, H)
noncomputable def mCons (f g : PM Flw) : PM Flw := fun e H => (f e H).bind fun r => match r.1 with
  | .next => g r.2.1 r.2.2
  | .brk => some (.brk, r.2.1, r.2.2)
  | .cont => some (.cont, r.2.1, r.2.2)
  | .ret v => some (.ret v, r.2.1, r.2.2)
noncomputable def mAssign (i : Nat) (f : PM V) : PM Flw := fun e H => (f e H).bind fun r => (mStore i r.1 r.2.1 r.2.2).bind fun q => some (.next, q.2.1, q.2.2)
noncomputable def mExprS (f : PM V) : PM Flw := fun e H => (f e H).bind fun r => some (.next, r.2.1, r.2.2)
noncomputable def mIf (t : PM Bool) (f g : PM Flw) : PM Flw := fun e H => (t e H).bind fun r => match r.1 with
  | true => f r.2.1 r.2.2
  | false => g r.2.1 r.2.2
noncomputable def mRet (f : PM V) : PM Flw := fun e H => (f e H).bind fun r => some (.ret r.1, r.2.1, r.2.2)
noncomputable def mBrk : PM Flw := fun e H => some (.brk, e, H)
noncomputable def mCont : PM Flw := fun e H => some (.cont, e, H)
noncomputable def mWhile : Nat → PM Bool → PM Flw → PM Flw → PM Flw
  | 0, _, _, _ => mFail
  | n + 1, t, b, o => fun e H => (t e H).bind fun r => match r.1 with
    | true => (b r.2.1 r.2.2).bind fun q => match q.1 with
      | .next => mWhile n t b o q.2.1 q.2.2
      | .cont => mWhile n t b o q.2.1 q.2.2
      | .brk => some (.next, q.2.1, q.2.2)
      | .ret v => some (.ret v, q.2.1, q.2.2)
    | false => o r.2.1 r.2.2
section
variable {G : Gl} {Φ : Frm} {d : Nat}
theorem seq_nil : SndF G Φ d (execs [] Φ.env) mNil := by
  intro e H X e' H' hf ρ s R A E ok
  cases hf
  exact wpAny_execs_nil ⟨ρ, R, Ext.refl .., rfl⟩
theorem seq_cons {st : Stmt} {rest : List Stmt} {f g : PM Flw} (h1 : SndF G Φ d (exec st Φ.env) f) (h2 : SndF G Φ d (execs rest Φ.env) g) : SndF G Φ d (execs (st :: rest) Φ.env) (mCons f g) := by
  intro e H X e' H' hf ρ s R A E ok
  refine hide fun PQ hpq => ?_
  refine bnd3 hf fun b e₁ H₁ f1 hf => ?_
  refine hpq ?_
  refine wpAny_execs_cons (h1.run f1 R ok fun v ρ₁ s₁ R₁ X₁ v₁ => ?_)
  cases b with
  | next => cases v₁; exact h2.run hf R₁ ok fun y ρ₂ s₂ R₂ X₂ v₂ => ⟨ρ₂, R₂, X₁.trans X₂, v₂⟩
  | brk => cases v₁; cases hf; exact ⟨ρ₁, R₁, X₁, rfl⟩
  | cont => cases v₁; cases hf; exact ⟨ρ₁, R₁, X₁, rfl⟩
  | ret w =>
    cases hf
    obtain ⟨v', rfl, q⟩ := v₁
    exact ⟨ρ₁, R₁, X₁, v', rfl, q⟩
theorem st_assign (fo : FOk Φ) {x : Str} {i : Nat} {pos' pos : Pos} {value : Expr} {f : PM V} (hs : Φ.slot.lookup x = some i) (hst : Sto Φ x) (h1 : SndE G Φ d (eval value Φ.env) f)
    (hw : swapsWith value (some (.Name x pos')) pos.line Φ.env = pure false) : SndF G Φ d (exec (.Assign [.Name x pos'] value pos) Φ.env) (mAssign i f) := by
  intro e H X e' H' hf ρ s R A E ok
  refine hide fun PQ hpq => ?_
  refine bnd3 hf fun X₁ e₁ H₁ f1 hf => ?_
  refine bnd3 hf fun u e₂ H₂ f2 hf => ?_
  cases hf
  refine hpq ?_
  refine wpAny_Assign_Name (h1.run f1 R ok fun v ρ₁ s₁ R₁ X₁ v₁ => ?_) hw
  exact store_var fo hs hst f2 R₁ v₁ fun s₂ R₂ X₂ => ⟨ρ₁, R₂, X₁.trans X₂, rfl⟩
theorem st_expr {x : Expr} {pos : Pos} {f : PM V} (h1 : SndE G Φ d (eval x Φ.env) f) (hi : interactive Φ.env = false) (hs : swapsWith x none pos.line Φ.env = pure false) : SndF G Φ d (exec (.Expr x pos) Φ.env) (mExprS f) := by
  intro e H X e' H' hf ρ s R A E ok
  refine hide fun PQ hpq => ?_
  refine bnd3 hf fun X₁ e₁ H₁ f1 hf => ?_
  cases hf
  refine hpq ?_
  exact wpAny_Expr_any (h1.run f1 R ok fun v ρ₁ s₁ R₁ X₁ v₁ => ⟨ρ₁, R₁, X₁, rfl⟩) hi hs
theorem st_if {test : Expr} {body orelse : List Stmt} {pos : Pos} {t : PM Bool} {f g : PM Flw} (h1 : SndB G Φ d (isTrue test Φ.env (eval test Φ.env)) t) (h2 : SndF G Φ d (execs body Φ.env) f) (h3 : SndF G Φ d (execs orelse Φ.env) g) :
    SndF G Φ d (exec (.If test body orelse pos) Φ.env) (mIf t f g) := by
  intro e H X e' H' hf ρ s R A E ok
  refine hide fun PQ hpq => ?_
  refine bnd3 hf fun b e₁ H₁ f1 hf => ?_
  refine hpq ?_
  refine wpAny_If (h1.run f1 R ok fun v ρ₁ s₁ R₁ X₁ v₁ => ?_)
  subst v₁
  cases b with
  | true => exact h2.run hf R₁ ok fun y ρ₂ s₂ R₂ X₂ v₂ => ⟨ρ₂, R₂, X₁.trans X₂, v₂⟩
  | false => exact h3.run hf R₁ ok fun y ρ₂ s₂ R₂ X₂ v₂ => ⟨ρ₂, R₂, X₁.trans X₂, v₂⟩
theorem st_ret {x : Expr} {pos : Pos} {f : PM V} (h1 : SndE G Φ d (eval x Φ.env) f) : SndF G Φ d (exec (.Return (some x) pos) Φ.env) (mRet f) := by
  intro e H X e' H' hf ρ s R A E ok
  refine hide fun PQ hpq => ?_
  refine bnd3 hf fun X₁ e₁ H₁ f1 hf => ?_
  cases hf
  refine hpq ?_
  exact wpAny_Return_some (h1.run f1 R ok fun v ρ₁ s₁ R₁ X₁ v₁ => ⟨ρ₁, R₁, X₁, v, rfl, v₁⟩)
theorem st_brk {pos : Pos} : SndF G Φ d (exec (.Break pos) Φ.env) mBrk := by
  intro e H X e' H' hf ρ s R A E ok
  cases hf
  exact wpAny_Break ⟨ρ, R, Ext.refl .., rfl⟩
theorem st_cont {pos : Pos} : SndF G Φ d (exec (.Continue pos) Φ.env) mCont := by
  intro e H X e' H' hf ρ s R A E ok
  cases hf
  exact wpAny_Continue ⟨ρ, R, Ext.refl .., rfl⟩
theorem st_while (n : Nat) {test : Expr} {body orelse : List Stmt} {pos : Pos} {t : PM Bool} {f g : PM Flw} (h1 : SndB G Φ d (isTrue test Φ.env (eval test Φ.env)) t) (h2 : SndF G Φ d (execs body Φ.env) f) (h3 : SndF G Φ d (execs orelse Φ.env) g) :
    SndF G Φ d (exec (.While test body orelse pos) Φ.env) (mWhile n t f g) := by
  intro e H X e' H' hf ρ s R A E ok
  refine wpAny_While (codeAny_whileLoop (fun k s' => ∃ ρ' e₁ H₁, Rel G Φ ρ' e₁ H₁ s' ∧ Ext Φ ρ H s ρ' H₁ s' ∧ mWhile k t f g e₁ H₁ = some (X, e', H')) ?_ n ⟨ρ, e, H, R, Ext.refl .., hf⟩)
  rintro k s₁ ⟨ρ₁, e₁, H₁, R₁, X₁, hk⟩
  cases k with
  | zero => cases hk
  | succ k =>
    refine bnd3 hk fun b e₂ H₂ f1 hk => ?_
    refine h1.run f1 R₁ ok fun v ρ₂ s₂ R₂ X₂ v₂ => ?_
    subst v₂
    cases b with
    | true =>
      refine bnd3 hk fun fl e₃ H₃ f2 hk => ?_
      refine h2.run f2 R₂ ok fun v ρ₃ s₃ R₃ X₃ v₃ => ?_
      cases fl with
      | next => cases v₃; exact ⟨k, Nat.lt_succ_self _, ρ₃, e₃, H₃, R₃, (X₁.trans X₂).trans X₃, hk⟩
      | cont => cases v₃; exact ⟨k, Nat.lt_succ_self _, ρ₃, e₃, H₃, R₃, (X₁.trans X₂).trans X₃, hk⟩
      | brk => cases v₃; cases hk; exact ⟨ρ₃, R₃, (X₁.trans X₂).trans X₃, rfl⟩
      | ret w => cases hk; obtain ⟨v', rfl, q⟩ := v₃; exact ⟨ρ₃, R₃, (X₁.trans X₂).trans X₃, v', rfl, q⟩
    | false => exact h3.run hk R₂ ok fun y ρ₃ s₃ R₃ X₃ v₃ => ⟨ρ₃, R₃, (X₁.trans X₂).trans X₃, v₃⟩
end
noncomputable def frzAt : Option Nat → AHeap → AHeap
  | none, H => H
  | some i, H => match H[i]? with
    | some o => H.set i (.frz o)
    | none => H
noncomputable def unfrz : Option Nat → AHeap → AHeap → AHeap
  | none, _, H => H
  | some i, H₀, H => match H₀[i]? with
    | some o => H.set i o
    | none => H
section
variable {G : Gl} {Φ : Frm} {ρ ρ' : Rho} {e e' : AEnv} {H H' : AHeap} {s s' : Shared}
theorem frz_some {i : Nat} {o : O} (h : H[i]? = some o) : frzAt (some i) H = H.set i (.frz o) := by
  unfold frzAt; simp only [h]
theorem frz_none {i : Nat} (h : H[i]? = none) : frzAt (some i) H = H := by
  unfold frzAt; simp only [h]
theorem Rel.frz (R : Rel G Φ ρ e H s) (i : Option Nat) : Rel G Φ ρ e (frzAt i H) s := by
  cases i with
  | none => exact R
  | some i =>
    cases ho : H[i]? with
    | some o =>
      rw [frz_some ho]
      refine ⟨R.fr, fun j x hx => ?_, fun j a h => by simpa using R.dom j a h, R.inj, R.lo, R.pr, R.base, R.locp, R.stat, R.fas⟩
      by_cases hj : i = j
      · subst hj
        have hl : i < H.length := (List.getElem?_eq_some_iff.mp ho).1
        rw [List.getElem?_set_self hl] at hx; cases hx
        exact R.hp i o ho
      · rw [List.getElem?_set_ne hj] at hx; exact R.hp j x hx
    | none => rw [frz_none ho]; exact R
theorem owned_frz {i : Option Nat} {b : Addr} (h : Owned ρ (frzAt i H) b) : Owned ρ H b := by
  cases i with
  | none => exact h
  | some i =>
    cases ho : H[i]? with
    | some o =>
      rw [frz_some ho] at h
      refine exE2 h fun j x h1 => andE3 h1 fun e1 e2 e3 => ?_
      by_cases hj : i = j
      · subst hj
        have hl : i < H.length := (List.getElem?_eq_some_iff.mp ho).1
        rw [List.getElem?_set_self hl] at e2; cases e2; cases e3
      · rw [List.getElem?_set_ne hj] at e2; exact ⟨j, x, e1, e2, e3⟩
    | none => rw [frz_none ho] at h; exact h
theorem frz_free (R : Rel G Φ ρ e H s) {i : Nat} {a : Addr} (hi : ρ i = some a) : ¬ Owned ρ (frzAt (some i) H) a := by
  rintro ⟨j, x, e1, e2, e3⟩
  obtain rfl := R.inj i j a hi e1
  have hl := R.dom i a hi
  rw [frz_some (List.getElem?_eq_getElem hl), List.getElem?_set_self hl] at e2
  cases e2; cases e3
theorem Rel.unfrz (R : Rel G Φ ρ e H s) (i : Option Nat) (R' : Rel G Φ ρ' e' H' s') (X : Ext Φ ρ (frzAt i H) s ρ' H' s') : Rel G Φ ρ' e' (unfrz i H H') s' ∧ Ext Φ ρ H s ρ' (Mine.unfrz i H H') s' := by
  have hkeep : ∀ b o, ¬ Owned ρ H b → b ∉ Φ.priv → b ∉ Φ.fa → s.heap.get? b = some o → s'.heap.get? b = some o := fun b o hb => X.keep b o fun q => hb (owned_frz q)
  have hkeepF : ∀ b o, ¬ Owned ρ H b → b ∉ Φ.priv → s.heap.get? b = some o → ∃ sl, s'.heap.get? b = some { o with slots := sl } := fun b o hb => X.keepF b o fun q => hb (owned_frz q)
  cases i with
  | none => exact ⟨R', X⟩
  | some i =>
    cases hi : H[i]? with
    | none =>
      have e1 : frzAt (some i) H = H := frz_none hi
      have e2 : Mine.unfrz (some i) H H' = H' := by unfold Mine.unfrz; simp only [hi]
      rw [e2]; rw [e1] at X
      exact ⟨R', X⟩
    | some o =>
      have e2 : Mine.unfrz (some i) H H' = H'.set i o := by unfold Mine.unfrz; simp only [hi]
      rw [e2]
      refine exE2 (R.hp i o hi) fun a ob h2 => andE3 h2 fun r1 r2 r3 => ?_
      have r1' := X.rle i a r1
      have hl := R'.dom i a r1'
      have hfree := frz_free R r1
      have r2' : s'.heap.get? a = some ob := X.keep a ob hfree (fun hp => (R.pr a hp).2.1 i r1) (R.rhoF r1) r2
      have r3' : OM G ρ' s'.heap o ob := r3.mono X.rle (fun x v q => X.vr (R.frz (some i)) q) (fun x v q => X.vrs (R.frz (some i)) q)
      refine ⟨⟨R'.fr, fun j x hx => ?_, fun j a h => by simpa using R'.dom j a h, R'.inj, R'.lo, R'.pr, R'.base, R'.locp, R'.stat, R'.fas⟩, X.rle, fun b hb => ?_, X.rnew, hkeep, hkeepF, X.ex, X.same⟩
      · by_cases hj : i = j
        · subst hj
          rw [List.getElem?_set_self hl] at hx; cases hx
          exact exI2 a ob ⟨r1', r2', r3'⟩
        · rw [List.getElem?_set_ne hj] at hx; exact R'.hp j x hx
      · refine exE2 hb fun j x h3 => andE3 h3 fun e1 e2 e3 => ?_
        by_cases hj : i = j
        · subst hj
          rw [List.getElem?_set_self hl] at e2; cases e2
          rw [r1'] at e1; cases e1
          exact .inl ⟨i, _, r1, hi, e3⟩
        · rw [List.getElem?_set_ne hj] at e2
          rcases X.new b ⟨j, x, e1, e2, e3⟩ with h | h
          · exact .inl (owned_frz h)
          · exact .inr h
theorem Rel.other (R : Rel G Φ ρ e H s) {h' : Heap} {I : Addr} (tk : Nat) (hI : ∀ i, ρ i ≠ some I) (hp : I ∉ Φ.priv) (hIf : I ∉ Φ.fa) (hb : G.hb.get? I = none) (hobj : ∀ o, s.heap.get? I = some o → ¬ Imm o ∧ ∀ vo, o.data ≠ .cell vo)
    (hk : ∀ b o, b ≠ I → s.heap.get? b = some o → h'.get? b = some o) : Rel G Φ ρ e H { s with heap := h', toks := tk } ∧ ∀ a o, Imm o → s.heap.get? a = some o → h'.get? a = some o := by
  have him : ∀ a o, Imm o → s.heap.get? a = some o → h'.get? a = some o := fun a o im g => hk a o (fun q => (hobj o (q ▸ g)).1 im) g
  have hv : ∀ (x : V) (v : Value), VR G ρ s.heap x v → VR G ρ h' x v := VR.mono (fun _ _ e => e) him
  have hvs : ∀ (x : List V) (v : List Value), VRs G ρ s.heap x v → VRs G ρ h' x v := VRs.mono (fun _ _ e => e) him
  refine ⟨⟨?_, fun i x hx => ?_, R.dom, R.inj, R.lo, fun p hpp => ?_, fun b o h => hk b o (fun q => ?_) (R.base b o h), R.locp, R.stat, fun f hf => ?_⟩, him⟩
  · refine exE1 (R.fr) fun m h4 => andE2 h4 fun h4_0 hm => ?_
    obtain ⟨oL, es, ep, g1, g2, g3⟩ := h4_0
    exact ⟨m, ⟨oL, es, ep, hk _ _ (fun q => hp (q ▸ R.locp)) g1, g2, g3⟩, fun x i hi => (hm x i hi).mono hv fun c o vo _ g hd => hk c o (fun q => (hobj o (q ▸ g)).2 vo hd) g⟩
  · refine exE2 (R.hp i x hx) fun a o h5 => andE3 h5 fun e1 e2 e3 => ?_
    exact exI2 a o ⟨e1, hk a o (fun q => hI i (q ▸ e1)) e2, e3.mono (fun _ _ e => e) hv hvs⟩
  · refine andE3 (R.pr p hpp) fun p1 p2 h6_2 => ?_
    obtain ⟨o, p3, p4⟩ := h6_2
    exact ⟨p1, p2, o, hk p o (fun q => hp (q ▸ hpp)) p3, p4⟩
  · rw [q, hb] at h; cases h
  · refine andE3 (R.fas f hf) fun p1 p2 h7_2 => ?_
    obtain ⟨o, es, ep, p3, p4⟩ := h7_2
    exact ⟨p1, p2, o, es, ep, hk f o (fun q => hIf (q ▸ hf)) p3, p4⟩
end
end Mine
end
section
set_option tactic.hygienic false
open PySem PySem.W PyProof.Rows PySem.Calls
namespace Mine
noncomputable def ItOk (G : Gl) (Φ : Frm) (ρ : Rho) (H : AHeap) (A : Around) (items : List V) (s₀ : Shared) (I : Addr) (h : Heap) : Prop :=
  ∃ (fp wr : List Addr) (P : Nat → Value → Prop) (St : Nat → Heap → Prop), Walks G.prog G.w A I fp wr items.length P St ∧ St 0 h ∧ (∀ b ∈ wr, b = I) ∧ s₀.heap.get? I = none ∧
    (∀ b ∈ fp, b = I ∨ ((∃ o, s₀.heap.get? b = some o) ∧ ¬ Owned ρ H b ∧ b ∉ Φ.priv ∧ b ∉ Φ.fa)) ∧ (∀ i h, St i h → ∃ o, h.get? I = some o ∧ ¬ Imm o ∧ ∀ vo, o.data ≠ .cell vo) ∧
    (∀ (i : Nat) v X, items[i]? = some X → P i v → VR G ρ s₀.heap X v)
noncomputable def mForL (j : Nat) (b : PM Flw) : List V → PM Flw
  | [] => fun e H => some (.next, e, H)
  | X :: r => fun e H => (mStore j X e H).bind fun q => (b q.2.1 q.2.2).bind fun z => match z.1 with
    | .next => mForL j b r z.2.1 z.2.2
    | .cont => mForL j b r z.2.1 z.2.2
    | .brk => some (.next, z.2.1, z.2.2)
    | .ret v => some (.ret v, z.2.1, z.2.2)
section
variable {G : Gl} {Φ : Frm} {d : Nat} {ρ ρ' : Rho} {e e' : AEnv} {H H' : AHeap} {s s' s₀ : Shared}
theorem Ext.other {h' : Heap} {I : Addr} (X : Ext Φ ρ H s₀ ρ' H' s') (tk : Nat) (hI : s₀.heap.get? I = none) (hk : ∀ b o, b ≠ I → s'.heap.get? b = some o → h'.get? b = some o) : Ext Φ ρ H s₀ ρ' H' { s' with heap := h', toks := tk } where
  rle := X.rle
  new := X.new
  rnew := X.rnew
  keep := fun b o hn hp hf g => hk b o (fun q => by rw [q, hI] at g; cases g) (X.keep b o hn hp hf g)
  keepF := fun b o hn hp g => by
    obtain ⟨sl, g'⟩ := X.keepF b o hn hp g
    exact ⟨sl, hk b _ (fun q => by rw [q, hI] at g; cases g) g'⟩
  ex := fun b o g => by
    obtain ⟨o', g'⟩ := X.ex b o g
    exact ⟨o', hk b o' (fun q => by rw [q, hI] at g; cases g) g'⟩
  same := by rw [X.same]
theorem Ext.nref (X : Ext Φ ρ H s ρ' H' s') {a : Addr} (h : ∀ q, ρ q ≠ some a) {o : Obj} (g : s.heap.get? a = some o) : ∀ q, ρ' q ≠ some a := fun q hq => (X.rnew q a hq).elim (h q) fun z => nomatch z.symm.trans g
noncomputable abbrev FpOk (Φ : Frm) (ρ : Rho) (H : AHeap) (s : Shared) (fp : List Addr) (I : Addr) : Prop := ∀ b ∈ fp, b = I ∨ ((∃ o, s.heap.get? b = some o) ∧ ¬ Owned ρ H b ∧ b ∉ Φ.priv ∧ b ∉ Φ.fa)
theorem fp_keep {ρ₃ : Rho} {H₁ H₃ : AHeap} {sh s₃ : Shared} {fp : List Addr} {I : Addr} (hfp : FpOk Φ ρ H s₀ fp I) (X' : Ext Φ ρ H s₀ ρ' H₁ s') (X : Ext Φ ρ' H₁ sh ρ₃ H₃ s₃) (hI' : ∀ q, ρ' q ≠ some I) (hIc : I ∉ Φ.priv) (hIf : I ∉ Φ.fa) :
    ∀ c ∈ fp, ∀ o, sh.heap.get? c = some o → s₃.heap.get? c = some o := fun c hc o g => by
  rcases hfp c hc with h | ⟨⟨oc, hc1⟩, hc2, hc3, hc4⟩
  · subst h
    exact X.keep c o (fun ⟨q, _, hq, _⟩ => hI' q hq) hIc hIf g
  · exact X.keep c o (fun hq => (X'.new c hq).elim hc2 fun h => nomatch hc1.symm.trans h) hc3 hc4 g
theorem FpOk.of {Φc : Frm} {fp : List Addr} {I : Addr} (hfp : FpOk Φ ρ H s fp I) (hpc : ∀ p ∈ Φc.priv, s.heap.get? p = none) (hf : ∀ b, b ∉ Φ.fa → b ∉ Φc.fa) : FpOk Φc ρ H s fp I := fun c hc => (hfp c hc).imp id fun ⟨⟨o, h1⟩, h2, _, h4⟩ => ⟨⟨o, h1⟩, h2, fun hp => (nomatch h1.symm.trans (hpc c hp)), hf c h4⟩
theorem hideW {α : Type} {M : Model} {A : Around} {t : Sem α} {E : Value → Shared → Prop} {Q : α → Shared → Prop} {s : Shared} (h : ∀ Q' : α → Shared → Prop, (∀ y s', Q y s' → Q' y s') → wpAny M A t Q' E s) : wpAny M A t Q E s := h Q fun _ _ q => q
theorem hideC {M : Model} {A : Around} {c : Code} {R : Result → Shared → Prop} {s : Shared} (h : ∀ R' : Result → Shared → Prop, (∀ y s', R y s' → R' y s') → codeAny M A c R' s) : codeAny M A c R s := h R fun _ _ q => q
theorem post_of {ρ₁ : Rho} {fl fl₂ : Flw} {e₂ : AEnv} {H₂ : AHeap} {f : Flow} (hm : some (fl₂, e₂, H₂) = some (fl, e', H')) (R : Rel G Φ ρ₁ e₂ H₂ s') (X : Ext Φ ρ H s₀ ρ₁ H₂ s') (v : FR G ρ₁ s'.heap fl₂ f) :
    ∃ ρ', Rel G Φ ρ' e' H' s' ∧ Ext Φ ρ H s₀ ρ' H' s' ∧ FR G ρ' s'.heap fl f := by
  cases hm; exact ⟨ρ₁, R, X, v⟩
theorem for_loop (fo : FOk Φ) {x : Str} {px : Pos} {j : Nat} {body : List Stmt} {b : PM Flw} (hs : Φ.slot.lookup x = some j) (hst : Sto Φ x) (hb : SndF G Φ d (execs body Φ.env) b)
    {items : List V} {fl : Flw} (hf : mForL j b items e H = some (fl, e', H')) (R : Rel G Φ ρ e H s₀) {A : Around} (ok : OkA Φ d A) {E : Value → Shared → Prop} {I : Addr} {h₁ : Heap} {tk₁ : Nat}
    (it : ItOk G Φ ρ H A items s₀ I h₁) (hk₁ : ∀ b o, s₀.heap.get? b = some o → h₁.get? b = some o) :
    codeAny G.M A (.forLoop (.Name x px) (.ref I) body [] Φ.env) (fun r s' => match r with
      | .ok f => ∃ ρ', Rel G Φ ρ' e' H' s' ∧ Ext Φ ρ H s₀ ρ' H' s' ∧ FR G ρ' s'.heap fl f
      | .error x => cameBackBy G.M A Φ.env E x s') { s₀ with heap := h₁, toks := tk₁ } := by
  refine hideC fun RR hRR => ?_
  have hOk : ∀ f s', (∃ ρ', Rel G Φ ρ' e' H' s' ∧ Ext Φ ρ H s₀ ρ' H' s' ∧ FR G ρ' s'.heap fl f) → RR (.ok f) s' := fun f s' => hRR (.ok f) s'
  refine exE4 it fun fp wr P St h2 => andE7 h2 fun W st0 hwr hIn hfp hobj hP => ?_
  refine andE2 (R.junk tk₁ hk₁) fun R₁ X₁ => ?_
  have hIpriv : I ∉ Φ.priv := fun hp => by obtain ⟨o, g⟩ := R.priv_at hp; rw [hIn] at g; cases g
  have hIf : I ∉ Φ.fa := R.freshF hIn
  have hIb : G.hb.get? I = none := by
    cases q : G.hb.get? I with
    | none => rfl
    | some o => have := R.base I o q; rw [hIn] at this; cases this
  have hI0 : ∀ q, ρ q ≠ some I := fun q hq => by obtain ⟨o, g⟩ := R.rho_at hq; rw [hIn] at g; cases g
  refine named (fun (k : Nat) (s' : Shared) => ∃ i ρ' e₁ H₁, i ≤ items.length ∧ k = items.length + 1 - i ∧ Rel G Φ ρ' e₁ H₁ s' ∧ Ext Φ ρ H s₀ ρ' H₁ s' ∧ (∀ q, ρ' q ≠ some I) ∧ St i s'.heap ∧ mForL j b (items.drop i) e₁ H₁ = some (fl, e', H'))
    fun Inv hInv => ?_
  have fin := fun k s' => Eq.mpr (congrFun (congrFun hInv k) s')
  refine codeAny_forLoop Inv ?_ (items.length + 1) (fin _ _ ⟨0, ρ, e, H, Nat.zero_le _, rfl, R₁, X₁, hI0, st0, hf⟩)
  intro k s' hi0
  refine hideW fun K hK => ?_
  refine exE4 (Eq.mp (congrFun (congrFun hInv k) s') hi0) fun i ρ' e₁ H₁ h4 => andE7 h4 fun hi e4_1 R' X' hI' sti hm => ?_
  subst e4_1
  rcases Nat.lt_or_ge i items.length with hlt | hge
  · refine W.item i s' _ _ hlt sti fun v h' tk hPv st' hk' => ?_
    have hk2 : ∀ b o, b ≠ I → s'.heap.get? b = some o → h'.get? b = some o := fun b o hbI g => hk' b o (fun hw => hbI (hwr b hw)) g
    refine andE2 (R'.other tk hI' hIpriv hIf hIb (fun o g => by obtain ⟨o', g', q⟩ := hobj i _ sti; rw [g] at g'; cases g'; exact q) hk2) fun R2 him => ?_
    have X2 := X'.other tk hIn hk2
    have hX : items[i]? = some items[i] := List.getElem?_eq_getElem hlt
    have hv : VR G ρ' h' items[i] v := VR.mono (fun _ _ q => q) him _ _ (X'.vr R (hP i v _ hX hPv))
    rw [List.drop_eq_getElem_cons hlt] at hm
    refine bnd3 hm fun u e₂ H₂ f1 hm => ?_
    refine bnd3 hm fun fl₂ e₃ H₃ f2 hm => ?_
    refine hK _ _ (hideW fun K2 hK2 => ?_)
    refine wpAny_assign_Name (store_var fo hs hst f1 R2 hv fun s₂ R₂ X₂ => ?_)
    refine hK2 _ _ ?_
    refine hb.run f2 R₂ ok fun y ρ₃ s₃ R₃ X₃ v₃ => ?_
    have X23 := X₂.trans X₃
    have hI3 : ∀ q, ρ₃ q ≠ some I := by obtain ⟨o, g, _⟩ := hobj _ _ st'; exact X23.nref hI' g
    have hfp3 := fp_keep hfp X' X23 hI' hIpriv hIf
    have next : mForL j b (items.drop (i + 1)) e₃ H₃ = some (fl, e', H') → ∃ m, m < items.length + 1 - i ∧ Inv m s₃ :=
      fun hh => ⟨items.length + 1 - (i + 1), by (first | lia | omega), fin _ _ ⟨i + 1, ρ₃, e₃, H₃, hlt, rfl, R₃, X2.trans X23, hI3, W.frame _ _ _ st' hfp3, hh⟩⟩
    cases fl₂ with
    | next => cases v₃; exact next hm
    | cont => cases v₃; exact next hm
    | brk => cases v₃; exact hOk _ _ (post_of hm R₃ (X2.trans X23) rfl)
    | ret w => obtain ⟨v', rfl, q⟩ := v₃; exact hOk _ _ (post_of hm R₃ (X2.trans X23) ⟨v', rfl, q⟩)
  · have hie : i = items.length := Nat.le_antisymm hi hge
    refine W.done s' _ _ (hie ▸ sti) fun h' tk hk' => ?_
    have hk2 : ∀ b o, b ≠ I → s'.heap.get? b = some o → h'.get? b = some o := fun b o hbI g => hk' b o (fun hw => hbI (hwr b hw)) g
    refine andE2 (R'.other tk hI' hIpriv hIf hIb (fun o g => by obtain ⟨o', g', q⟩ := hobj _ _ sti; rw [g] at g'; cases g'; exact q) hk2) fun R2 him => ?_
    have X2 := X'.other tk hIn hk2
    rw [List.drop_eq_nil_of_le hge] at hm
    exact hK _ _ (wpAny_execs_nil (hOk _ _ (post_of hm R2 X2 rfl)))
end
noncomputable def rngL (a : Int) (c : Int) : Nat → Nat → List V
  | _, 0 => []
  | i, n + 1 => .int (a + (i : Int) * c) :: rngL a c (i + 1) n
noncomputable def vItems : V → AHeap → Option (List V × Option Nat)
  | .ref i, H => match (H[i]?).map O.thaw with
    | some (.list vs) => some (vs, some i)
    | some (.dict kvs) => some (kvs.map (fun p => .int p.1), some i)
    | _ => none
  | .tup vs, _ => some (vs, none)
  | .rng a b c, _ => if Builtin.Range.small a b c then some (rngL a c 0 (Builtin.Range.rangeSize a b c).toNat, none) else none
  | .view false i, H => match (H[i]?).map O.thaw with
    | some (.dict kvs) => some (kvs.map (·.2), some i)
    | _ => none
  | _, _ => none
theorem rngL_get (a c : Int) : ∀ (n i j : Nat), j < n → (rngL a c i n)[j]? = some (.int (a + ((i + j : Nat) : Int) * c))
  | n + 1, i, 0, _ => by simp [rngL]
  | n + 1, i, j + 1, h => by
    simp only [rngL, List.getElem?_cons_succ]
    rw [rngL_get a c n (i + 1) j (by (first | lia | omega))]
    have : i + 1 + j = i + (j + 1) := by (first | lia | omega)
    rw [this]
theorem rngL_len (a c : Int) : ∀ (n i : Nat), (rngL a c i n).length = n
  | 0, _ => rfl
  | n + 1, i => by simp [rngL, rngL_len a c n (i + 1)]
theorem KVR.length {G : Gl} {ρ : Rho} {h : Heap} : ∀ {x : List (Int × V)} {l : List (Int × Value)}, KVR G ρ h x l → l.length = x.length
  | [], _, q => by cases q; rfl
  | x :: r, l, q => by obtain ⟨v, t, rfl, _, q2⟩ := q; simp [KVR.length q2]
theorem KVR.get {G : Gl} {ρ : Rho} {h : Heap} : ∀ {x : List (Int × V)} {l : List (Int × Value)} {i : Nat} {k : Int} {a : V}, KVR G ρ h x l → x[i]? = some (k, a) → ∃ v, l[i]? = some (k, v) ∧ VR G ρ h a v
  | [], _, _, _, _, _, e => by simp at e
  | x :: r, l, 0, k, a, q, e => by
    refine exE2 q fun v t h7 => andE3 h7 fun e7_0 q1 q2 => ?_
    subst e7_0
    simp at e; subst e
    exact ⟨v, rfl, q1⟩
  | x :: r, l, i + 1, k, a, q, e => by
    refine exE2 q fun v t h8 => andE3 h8 fun e8_0 q1 q2 => ?_
    subst e8_0
    simpa using KVR.get (i := i) q2 (by simpa using e)
theorem KVR.keys {G : Gl} {ρ : Rho} {h : Heap} : ∀ {x : List (Int × V)} {l : List (Int × Value)}, KVR G ρ h x l → l.map (·.1) = x.map (·.1)
  | [], _, q => by cases q; rfl
  | x :: r, l, q => by obtain ⟨v, t, rfl, _, q2⟩ := q; simp [KVR.keys q2]
end Mine
end
section
set_option tactic.hygienic false
open PySem PySem.W PyProof.Rows PySem.Calls
namespace Mine
structure GOk (G : Gl) : Prop where
  inK : G.K.In G.hb
  ng : G.hb.Ns mainGlobals G.mg
  nb : G.hb.Ns builtinsNs G.mb
  nolim : G.hb.NoLimit
  blt : ∀ x : Str, x ≠ "__name__" → G.mb x = bootBuiltins x
section
variable {G : Gl} {Φ : Frm} {d : Nat} {ρ ρ' : Rho} {e e' : AEnv} {H H' : AHeap} {s s' s₀ : Shared}
theorem Rel.at (R : Rel G Φ ρ e H s) {i : Nat} {x : O} {a : Addr} (hx : H[i]? = some x) (hi : ρ i = some a) : ∃ o, s.heap.get? a = some o ∧ OM G ρ s.heap x.thaw o := by
  refine exE2 (R.hp i x hx) fun a' o h0 => andE3 h0 fun e1 e2 e3 => ?_
  rw [hi] at e1; cases e1
  exact ⟨o, e2, e3.thaw⟩
theorem thaw_some {i : Nat} {x : O} (h : (H[i]?).map O.thaw = some x) : ∃ y, H[i]? = some y ∧ y.thaw = x := by
  cases q : H[i]? with
  | none => rw [q] at h; cases h
  | some y => rw [q] at h; exact ⟨y, rfl, Option.some.inj h⟩
theorem Rel.att (R : Rel G Φ ρ e H s) {i : Nat} {x : O} {a : Addr} (hx : (H[i]?).map O.thaw = some x) (hi : ρ i = some a) : ∃ o, s.heap.get? a = some o ∧ OM G ρ s.heap x o := by
  obtain ⟨y, hy, rfl⟩ := thaw_some hx
  exact R.at hy hi
theorem Rel.priv_ne (R : Rel G Φ ρ e H s) {i : Nat} {a : Addr} (hi : ρ i = some a) : a ∉ Φ.priv := fun hp => (R.pr a hp).2.1 i hi
theorem get_size_none (h : Heap) : h.get? h.objs.size = none := by
  cases q : h.get? h.objs.size with
  | none => rfl
  | some o => exact absurd (Heap.lt_size q) (Nat.lt_irrefl _)
theorem it_fine {o : Obj} {T : String} {fs : Array Value} (h1 : o.cls = .type T) (h2 : o.data = .fields fs) (h3 : immT.contains T = false) : ¬ Imm o ∧ ∀ vo, o.data ≠ .cell vo :=
  ⟨fun im => Bool.noConfusion (h3.symm.trans (imm_cls im h1)), fun vo q => nomatch h2.symm.trans q⟩
theorem itOk_mk {items : List V} {A : Around} {a : Addr} {P : Nat → Value → Prop} {St : Nat → Heap → Prop} {o₁ : Obj} (W : Walks G.prog G.w A s.heap.objs.size [s.heap.objs.size, a] [s.heap.objs.size] items.length P St)
    (ha : (∃ o, s.heap.get? a = some o) ∧ ¬ Owned ρ H a ∧ a ∉ Φ.priv ∧ a ∉ Φ.fa) (st0 : St 0 (s.heap.push o₁)) (hobj : ∀ i h, St i h → ∃ o, h.get? s.heap.objs.size = some o ∧ ¬ Imm o ∧ ∀ vo, o.data ≠ .cell vo)
    (hP : ∀ (i : Nat) v X, items[i]? = some X → P i v → VR G ρ s.heap X v) : ItOk G Φ ρ H A items s s.heap.objs.size (s.heap.push o₁) :=
  ⟨_, _, P, St, W, st0, fun b hb => List.mem_singleton.mp hb, get_size_none _, fun b hb => (List.mem_cons.mp hb).imp id fun h => by rw [List.mem_singleton.mp h]; exact ha, hobj, hP⟩
set_option tactic.hygienic true in
theorem iter_of {X : V} {v : Value} {items : List V} {fz : Option Nat} (hv : VR G ρ s.heap X v) (hi : vItems X H = some (items, fz)) (R : Rel G Φ ρ e H s) {A : Around} (hh : A.handled = none) {E : Value → Shared → Prop} {Q : Value → Shared → Prop}
    (k : ∀ I h₁, ItOk G Φ ρ (frzAt fz H) A items s I h₁ → (∀ b o, s.heap.get? b = some o → h₁.get? b = some o) → Q (.ref I) { s with heap := h₁ }) : wpAny G.M A (pyIter v) Q E s := by
  have hk : ∀ (o : Obj) b o', s.heap.get? b = some o' → (s.heap.push o).get? b = some o' := fun o b o' q => Heap.get?_push_of_some _ q
  unfold vItems at hi
  split at hi
  · rename_i i
    simp only [VR] at hv
    obtain ⟨a, ha, rfl⟩ := hv
    split at hi
    · rename_i vs hx
      cases hi
      refine exE1 (thaw_some hx) fun y h3 => andE2 h3 fun hy hyt => ?_
      refine exE1 (R.at hy ha) fun o h4 => andE2 h4 fun g om => ?_
      rw [hyt] at om
      refine exE2 om fun its n h5 => andE2 h5 fun e5_0 hvs => ?_
      subst e5_0
      have hl : s.heap.IsList a its := ⟨_, g, rfl, n, rfl⟩
      have hne : a ≠ s.heap.objs.size := Nat.ne_of_lt (Heap.lt_size g)
      refine wpAny_pyIter_list hl (k _ _ ?_ (hk _))
      have hlen : its.size = items.length := by have := hvs.length; simpa using this
      have W := Walks.list (prog := G.prog) (w := G.w) hh _ a hne its
      rw [hlen] at W
      refine itOk_mk W ⟨⟨_, g⟩, frz_free R ha, R.priv_ne ha, R.rhoF ha⟩ ⟨⟨_, Heap.get?_push_size _ rfl, rfl, rfl⟩, hl.at fun o e => hk _ _ _ e⟩ ?_ ?_
      · rintro j h ⟨⟨o, g1, g2, g3⟩, _⟩
        exact ⟨o, g1, it_fine g2 g3 rfl⟩
      · intro j v X hX hP
        refine exE1 (hvs.get hX) fun u h6 => andE2 h6 fun q1 q2 => ?_
        rw [Array.getElem?_toList, hP] at q1
        cases q1; exact q2
    · rename_i kvs hx
      cases hi
      refine exE1 (thaw_some hx) fun y h7 => andE2 h7 fun hy hyt => ?_
      refine exE1 (R.at hy ha) fun o h8 => andE2 h8 fun g om => ?_
      rw [hyt] at om
      refine exE1 om fun kvs' h9 => andE2 h9 fun h9_0 hkv => ?_
      obtain ⟨es, ep, d1, d2, d3, d4, d5⟩ := h9_0
      have hD : s.heap.DictAt (PySem.intKind G.prog G.w) a kvs' ep := ⟨o, es, g, d1, d2, d3, d4, d5⟩
      have hne : a ≠ s.heap.objs.size := Nat.ne_of_lt (Heap.lt_size g)
      refine wpAny_pyIter_dict (R.lo i a ha).2 hD (k _ _ ?_ (hk _))
      have hlen : kvs'.length = (kvs.map fun p => V.int p.1).length := by simpa using hkv.length
      have W := Walks.dictKeys (prog := G.prog) (w := G.w) (knd := PySem.intKind G.prog G.w) hh _ a hne kvs' ep
      rw [hlen] at W
      refine itOk_mk W ⟨⟨_, g⟩, frz_free R ha, R.priv_ne ha, R.rhoF ha⟩ ⟨⟨_, Heap.get?_push_size _ rfl, rfl, by rw [← hlen]; rfl⟩, hD.at' fun o e => hk _ _ _ e⟩ ?_ ?_
      · rintro j h ⟨⟨o, g1, g2, g3⟩, _⟩
        exact ⟨o, g1, it_fine g2 g3 rfl⟩
      · rintro j v X hX ⟨kk, x, q1, q2⟩
        rw [List.getElem?_map] at hX
        obtain ⟨⟨k0, V0⟩, hX1, hX2⟩ := Option.map_eq_some_iff.mp hX
        obtain ⟨u, q3, _⟩ := hkv.get hX1
        rw [q1] at q3; cases q3
        obtain ⟨t, rfl⟩ := Value.isInt_shape q2
        subst hX2
        exact VR.int _ _
    · cases hi
  · rename_i vs
    cases hi
    simp only [VR] at hv
    refine exE3 hv fun a its n h13 => andE3 h13 fun e13_0 g hvs => ?_
    subst e13_0
    have hl : s.heap.IsTuple a its := ⟨_, g, rfl, n, rfl⟩
    have hne : a ≠ s.heap.objs.size := Nat.ne_of_lt (Heap.lt_size g)
    refine wpAny_pyIter_tuple hl (k _ _ ?_ (hk _))
    have hlen : its.size = items.length := by have := hvs.length; simpa using this
    have fr := R.immFree (imm_tup _ _) g
    have W := Walks.tuple (prog := G.prog) (w := G.w) hh _ a hne its
    rw [hlen] at W
    refine itOk_mk W ⟨⟨_, g⟩, fun ⟨q, _, hq, _⟩ => fr.1 q hq, fr.2, R.immF (imm_tup _ _) g⟩ ⟨⟨_, Heap.get?_push_size _ rfl, rfl, rfl⟩, ⟨_, hk _ _ _ g, rfl, n, rfl⟩⟩ ?_ ?_
    · rintro j h ⟨⟨o, g1, g2, g3⟩, _⟩
      exact ⟨o, g1, it_fine g2 g3 rfl⟩
    · intro j v X hX hP
      refine exE1 (hvs.get hX) fun u h14 => andE2 h14 fun q1 q2 => ?_
      rw [Array.getElem?_toList, hP] at q1
      cases q1; exact q2
  · rename_i a b c
    split at hi
    · rename_i hsm
      cases hi
      simp only [VR] at hv
      refine exE4 hv fun r t u x h15 => andE2 h15 fun e15_0 g => ?_
      subst e15_0
      have hr : IsRange s.heap r a b c t u x := g
      refine wpAny_pyIter_range hr hsm (k _ _ ?_ (hk _))
      have hsz : (0 : Int) ≤ Builtin.Range.rangeSize a b c := by
        unfold Builtin.Range.rangeSize
        split
        · split
          · have := Int.ediv_nonneg (a := b - a - 1) (b := c) (by (first | lia | omega)) (by (first | lia | omega)); (first | lia | omega)
          · exact Int.le_refl _
        · split
          · have := Int.ediv_nonneg (a := a - b - 1) (b := -c) (by (first | lia | omega)) (by (first | lia | omega)); (first | lia | omega)
          · exact Int.le_refl _
      have W := Walks.range (prog := G.prog) (w := G.w) hh s.heap.objs.size a c (Builtin.Range.rangeSize a b c).toNat
      have hlen := rngL_len a c (Builtin.Range.rangeSize a b c).toNat 0
      refine exI4 [s.heap.objs.size] [s.heap.objs.size] _ _ ⟨by rw [hlen]; exact W, ?_, ?_, get_size_none _, ?_, ?_, ?_⟩
      · have := Heap.get?_push_size s.heap (o := { cls := .type "range_iterator", data := .fields #[rawInt a, rawInt (Builtin.Range.rangeSize a b c), rawInt c] }) rfl
        simp only [Int.toNat_of_nonneg hsz]
        simpa using this
      · intro b hb; simpa using hb
      · intro b hb; exact .inl (by simpa using hb)
      · intro j h st
        exact ⟨_, st, fun im => absurd (imm_cls im rfl) (by decide), fun vo q => by cases q⟩
      · rintro j v X hX ⟨tt, rfl⟩
        have hj : j < (Builtin.Range.rangeSize a b c).toNat := by
          have := (List.getElem?_eq_some_iff.mp hX).1
          rwa [rngL_len] at this
        rw [rngL_get _ _ _ _ _ hj] at hX
        cases hX
        simp only [Nat.zero_add]
        exact VR.int _ _
    · cases hi
  · rename_i i
    split at hi
    · rename_i kvs hx
      cases hi
      simp only [VR] at hv
      refine exE2 hv fun r a h16 => andE3 h16 fun e16_0 ha gv => ?_
      subst e16_0
      refine exE1 (thaw_some hx) fun y h17 => andE2 h17 fun hy hyt => ?_
      refine exE1 (R.at hy ha) fun o h18 => andE2 h18 fun g om => ?_
      rw [hyt] at om
      obtain ⟨kvs', ⟨es, ep, d1, d2, d3, d4, d5⟩, hkv⟩ := om
      have hD : s.heap.DictAt (PySem.intKind G.prog G.w) a kvs' ep := ⟨o, es, g, d1, d2, d3, d4, d5⟩
      have hne : a ≠ s.heap.objs.size := Nat.ne_of_lt (Heap.lt_size g)
      have hvw : s.heap.IsValuesView r a := ⟨_, gv, rfl, rfl⟩
      refine wpAny_pyIter_values hvw hD (k _ _ ?_ (hk _))
      have hlen : kvs'.length = (kvs.map fun p => p.2).length := by simpa using hkv.length
      have W := Walks.dictValues (prog := G.prog) (w := G.w) (knd := PySem.intKind G.prog G.w) hh _ a hne kvs' ep
      rw [hlen] at W
      refine itOk_mk W ⟨⟨_, g⟩, frz_free R ha, R.priv_ne ha, R.rhoF ha⟩ ⟨⟨_, Heap.get?_push_size _ rfl, rfl, by rw [← hlen]; rfl⟩, hD.at' fun o e => hk _ _ _ e⟩ ?_ ?_
      · rintro j h ⟨⟨o, g1, g2, g3⟩, _⟩
        exact ⟨o, g1, it_fine g2 g3 rfl⟩
      · rintro j v X hX ⟨kk, q1⟩
        rw [List.getElem?_map] at hX
        obtain ⟨⟨k0, V0⟩, hX1, hX2⟩ := Option.map_eq_some_iff.mp hX
        obtain ⟨u, q3, q4⟩ := hkv.get hX1
        rw [q1] at q3; cases q3
        subst hX2
        exact q4
    · cases hi
  · cases hi
end
end Mine
end
section
set_option tactic.hygienic false
open PySem PySem.W PyProof.Rows PySem.Calls
namespace Mine
noncomputable def mFor (f : PM V) (j : Nat) (b : PM Flw) : PM Flw := fun e H => (f e H).bind fun r => (vItems r.1 r.2.2).bind fun it =>
  (mForL j b it.1 r.2.1 (frzAt it.2 r.2.2)).bind fun z => some (z.1, z.2.1, unfrz it.2 r.2.2 z.2.2)
section
variable {G : Gl} {Φ : Frm} {d : Nat}
theorem st_for (fo : FOk Φ) {x : Str} {px pos : Pos} {j : Nat} {iter : Expr} {body : List Stmt} {f : PM V} {b : PM Flw} (hs : Φ.slot.lookup x = some j) (hst : Sto Φ x) (h1 : SndE G Φ d (eval iter Φ.env) f) (hb : SndF G Φ d (execs body Φ.env) b)
    (hfs : ∀ x, foldedSetIterable iter Φ.env x = pure x) (d0 : 0 < d) : SndF G Φ d (exec (.For (.Name x px) iter body [] pos) Φ.env) (mFor f j b) := by
  intro e H X e' H' hf ρ s R A E ok
  refine hide fun PQ hpq => ?_
  refine bnd3 hf fun X₁ e₁ H₁ f1 hf => ?_
  refine bnd2 hf fun items fz f2 hf => ?_
  refine bnd3 hf fun fl e₂ H₂ f3 hf => ?_
  cases hf
  refine hpq ?_
  refine wpAny_For (h1.run f1 R ok fun v ρ₁ s₁ R₁ X₁ v₁ => iter_of v₁ f2 R₁ (ok.1 d0) fun I h₁ it hk => ?_) hfs
  refine codeAny_mono (for_loop fo hs hst hb f3 (R₁.frz fz) ok (E := E) (tk₁ := s₁.toks) it hk) fun r s' hr => ?_
  cases r with
  | error x => exact hr
  | ok f =>
    obtain ⟨ρ', R', X', q⟩ := hr
    obtain ⟨R2, X2⟩ := R₁.unfrz fz R' X'
    exact ⟨ρ', R2, X₁.trans X2, q⟩
end
set_option tactic.hygienic true in
theorem truthR (G : Gl) (d : Nat) : TruthR G d := by
  intro X v Φ e H x hx ρ s R hv A E ok
  cases X with
  | none => cases hx; simp only [VR] at hv; subst hv; exact truthy_none ⟨R, Ext.refl .., rfl⟩
  | bool b => cases hx; simp only [VR] at hv; subst hv; exact wpAny_truthy_bool ⟨R, Ext.refl .., rfl⟩
  | int i =>
    cases hx; simp only [VR] at hv; obtain ⟨t, rfl⟩ := hv
    refine PyProof.Rows.truthy_int ⟨R, Ext.refl .., ?_⟩
    by_cases h : i = 0 <;> simp [h]
  | tup vs =>
    simp only [vTruth] at hx
    split at hx
    · rename_i hl
      cases hx
      simp only [VR] at hv; obtain ⟨a, its, n, rfl, g, hvs⟩ := hv
      obtain ⟨R', X'⟩ := R.toks (s.toks + 1 + 1)
      have hlen : its.size = vs.length := by have := hvs.length; simpa using this
      refine truthy_tuple (t := a) (items := its) ⟨_, g, rfl, n, rfl⟩ (by rw [hlen]; (first | lia | omega)) ⟨R', X', ?_⟩
      cases vs with
      | nil => simp [Array.isEmpty, hlen]
      | cons y r => simp [Array.isEmpty, hlen]
    · cases hx
  | ref i =>
    simp only [vTruth] at hx
    split at hx
    · rename_i vs hq
      split at hx
      · rename_i hl
        cases hx
        simp only [VR] at hv; obtain ⟨a, ha, rfl⟩ := hv
        obtain ⟨y, hy, hyt⟩ := thaw_some hq
        obtain ⟨o, g, om⟩ := R.at hy ha
        rw [hyt] at om
        obtain ⟨its, n, rfl, hvs⟩ := om
        have hlen : its.size = vs.length := by have := hvs.length; simpa using this
        obtain ⟨R', X'⟩ := R.toks (s.toks + 1 + 1)
        refine wpAny_truthy_list (l := a) (items := its) ⟨_, g, rfl, n, rfl⟩ (by rw [hlen]; (first | lia | omega)) ⟨R', X', ?_⟩
        cases vs with
        | nil => simp [Array.isEmpty, hlen]
        | cons y r => simp [Array.isEmpty, hlen]
      · cases hx
    · cases hx
  | ext ns => cases hx
  | rng a b c => cases hx
  | view k i => cases hx
noncomputable def iOp (f : Int → Int → Option Int) : Op2 := fun X Y H => match X, Y with
  | .int a, .int b => (f a b).map fun c => (.int c, H)
  | _, _ => none
noncomputable def cOp (f : Int → Int → Bool) : Op2B := fun X Y _ => match X, Y with
  | .int a, .int b => some (f a b)
  | _, _ => none
section
variable {G : Gl} {d : Nat}
set_option tactic.hygienic true in
theorem iop_sound {t : Value → Value → Sem Value} {f : Int → Int → Option Int}
    (h : ∀ a b c, f a b = some c → ∀ (ta tb : Tok) (A : Around) (E : Value → Shared → Prop) (s : Shared) (Q : Value → Shared → Prop), Q (.int c s.toks) { s with toks := s.toks + 1 } → wpAny G.M A (t (.int a ta) (.int b tb)) Q E s) : Op2R G d t (iOp f) := by
  intro X Y v w Φ e H Z H' hf ρ s R hP A E ok
  refine hide fun PQ hpq => ?_
  unfold iOp at hf
  split at hf
  · rename_i a b
    obtain ⟨c, hc, hz⟩ := Option.map_eq_some_iff.mp hf
    cases hz
    obtain ⟨hv, hw⟩ := hP
    simp only [VR] at hv hw
    obtain ⟨ta, rfl⟩ := hv
    obtain ⟨tb, rfl⟩ := hw
    obtain ⟨R', X'⟩ := R.toks (s.toks + 1)
    refine hpq ?_
    exact h a b c hc ta tb A E s _ ⟨ρ, R', X', VR.int _ _⟩
  · first | exact nn hf | exact nf hf | cases hf
set_option tactic.hygienic true in
theorem cop_sound {t : Value → Value → Sem Value} {f : Int → Int → Bool}
    (h : ∀ a b (ta tb : Tok) (A : Around) (E : Value → Shared → Prop) (s : Shared) (Q : Value → Shared → Prop), Q (.bool (f a b)) s → wpAny G.M A (t (.int a ta) (.int b tb)) Q E s) : Op2RB G d t (cOp f) := by
  intro X Y v w Φ e H x hf ρ s R hv hw A E ok
  refine hide fun PQ hpq => ?_
  unfold cOp at hf
  split at hf
  · rename_i a b
    cases hf
    simp only [VR] at hv hw
    obtain ⟨ta, rfl⟩ := hv
    obtain ⟨tb, rfl⟩ := hw
    refine hpq ?_
    exact h a b ta tb A E s _ ⟨R, Ext.refl .., rfl⟩
  · first | exact nn hf | exact nf hf | cases hf
noncomputable def oSub : Op2 := iOp fun a b => some (a - b)
noncomputable def oXor : Op2 := iOp fun a b => some (Builtin.bitXor a b)
noncomputable def oAnd : Op2 := iOp fun a b => some (Builtin.bitAnd a b)
noncomputable def oMod : Op2 := iOp fun a b => if b = 0 then none else some (a.fmod b)
noncomputable def oDiv : Op2 := iOp fun a b => if b = 0 ∨ 1073741824 ≤ b.natAbs then none else some (a.fdiv b)
noncomputable def oShr : Op2 := iOp fun a b => if 0 ≤ b then some (a.fdiv (2 ^ b.toNat)) else none
noncomputable def oPow : Op2 := iOp fun a b => if 0 ≤ b ∧ b ≤ 1000 ∧ a.natAbs < 2 ^ 64 then some (a ^ b.toNat) else none
theorem oSub_ok : Op2R G d (binaryOp .Sub) oSub := iop_sound fun a b c h ta tb A E s Q q => by cases h; exact PyProof.Rows.sub_int q
theorem oXor_ok : Op2R G d (binaryOp .BitXor) oXor := iop_sound fun a b c h ta tb A E s Q q => by cases h; exact xor_int q
theorem oMod_ok : Op2R G d (binaryOp .Mod) oMod := iop_sound fun a b c h ta tb A E s Q q => by
  split at h
  · cases h
  · cases h; exact mod_int' ‹_› q
theorem oDiv_ok : Op2R G d (binaryOp .FloorDiv) oDiv := iop_sound fun a b c h ta tb A E s Q q => by
  split at h
  · cases h
  · rename_i hc
    cases h; exact floordiv_int (fun z => hc (.inl z)) q (.inl (PyProof.noPylong_small (by (first | lia | omega))))
theorem oPow_ok : Op2R G d (binaryOp .Pow) oPow := iop_sound fun a b c h ta tb A E s Q q => by
  split at h
  · rename_i hc
    cases h; exact pow_int_small hc.1 (by omega) hc.2.2 q
  · cases h
noncomputable def cLt : Op2B := cOp fun a b => decide (a < b)
noncomputable def cLe : Op2B := cOp fun a b => decide (a ≤ b)
noncomputable def cGe : Op2B := cOp fun a b => decide (b ≤ a)
theorem cLt_ok : Op2RB G d (compareOp .Lt) cLt := cop_sound fun a b ta tb A E s Q q => PyProof.Rows.lt_int q
end
noncomputable def vIs : Op2B := fun X Y _ => match Y with
  | .none => match X with
    | .none => some true
    | .ref _ => some false
    | .int _ => some false
    | .tup _ => some false
    | _ => none
  | .bool b => match X with
    | .bool a => some (a == b)
    | _ => none
  | _ => none
theorem is_val {G : Gl} {ρ : Rho} {h : Heap} {X Y : V} {v w : Value} {b : Bool} {H : AHeap} (hb : vIs X Y H = some b) (hv : VR G ρ h X v) (hw : VR G ρ h Y w) : plainIs v w = true ∧ (v == w) = b := by
  refine hide fun PQ hpq => ?_
  cases Y with
  | none =>
    obtain rfl : w = .none := hw
    cases X with
    | none =>
      obtain rfl : v = .none := hv
      exact hpq (Option.some.inj hb ▸ ⟨rfl, by decide⟩)
    | ref _ =>
      obtain ⟨t, _, rfl⟩ := hv
      exact hpq (Option.some.inj hb ▸ ⟨rfl, rfl⟩)
    | int _ =>
      obtain ⟨t, rfl⟩ := hv
      exact hpq (Option.some.inj hb ▸ ⟨rfl, rfl⟩)
    | tup _ =>
      obtain ⟨t, _, _, rfl, _⟩ := hv
      exact hpq (Option.some.inj hb ▸ ⟨rfl, rfl⟩)
    | _ => exact nn hb
  | bool c =>
    obtain rfl : w = .bool c := hw
    cases X with
    | bool a =>
      obtain rfl : v = .bool a := hv
      exact hpq (Option.some.inj hb ▸ ⟨rfl, by cases a <;> cases c <;> decide⟩)
    | _ => exact nn hb
  | _ => exact nn hb
noncomputable def cIs : Op2B := vIs
noncomputable def cIsNot : Op2B := fun X Y H => (vIs X Y H).map (! ·)
theorem cIs_ok {G : Gl} {d : Nat} : Op2RB G d (compareOp .Is) cIs := by
  intro X Y v w Φ e H x hf ρ s R hv hw A E ok
  refine hide fun PQ hpq => ?_
  obtain ⟨p, q⟩ := is_val hf hv hw
  refine hpq ?_
  exact wpAny_is_plain p ⟨R, Ext.refl .., by rw [q]⟩
theorem cIsNot_ok {G : Gl} {d : Nat} : Op2RB G d (compareOp .IsNot) cIsNot := by
  intro X Y v w Φ e H x hf ρ s R hv hw A E ok
  refine hide fun PQ hpq => ?_
  obtain ⟨b, hb, rfl⟩ := Option.map_eq_some_iff.mp hf
  obtain ⟨p, q⟩ := is_val hb hv hw
  refine hpq ?_
  exact wpAny_isNot_plain p ⟨R, Ext.refl .., by rw [q]⟩
end Mine
end
section
set_option tactic.hygienic false
open PySem PySem.W PyProof.Rows PySem.Calls
namespace Mine
noncomputable def aNil : PM (List V) := fun e H => some ([], e, H)
noncomputable def aCons (f : PM V) (g : PM (List V)) : PM (List V) := fun e H => (f e H).bind fun r => (g r.2.1 r.2.2).bind fun q => some (r.1 :: q.1, q.2.1, q.2.2)
section
variable {G : Gl} {Φ : Frm} {d : Nat}
theorem ar_nil {pos : Pos} : SndL G Φ d (spliced (backTo pos (starEach [] Φ.env))) aNil := by
  intro e H X e' H' hf ρ s R A E ok
  cases hf
  exact spliced_nil ⟨ρ, R, Ext.refl .., VRs.nil⟩
theorem ar_cons {pos : Pos} {x : Expr} {rest : List Expr} {f : PM V} {g : PM (List V)} (he : starEach (x :: rest) Φ.env = (false, eval x Φ.env) :: starEach rest Φ.env) (h1 : SndE G Φ d (eval x Φ.env) f) (h2 : SndL G Φ d (spliced (backTo pos (starEach rest Φ.env))) g) :
    SndL G Φ d (spliced (backTo pos (starEach (x :: rest) Φ.env))) (aCons f g) := by
  intro e H X e' H' hf ρ s R A E ok
  refine hide fun PQ hpq => ?_
  refine bnd3 hf fun X₁ e₁ H₁ f1 hf => ?_
  refine bnd3 hf fun X₂ e₂ H₂ f2 hf => ?_
  cases hf
  refine hpq ?_
  refine spliced_more (h1.run f1 R ok fun v ρ₁ s₁ R₁ X₁ v₁ => h2.run f2 R₁ ok fun vs ρ₂ s₂ R₂ X₂ v₂ => ?_) he
  exact ⟨ρ₂, R₂, X₁.trans X₂, VRs.cons (X₂.vr R₁ v₁) v₂⟩
theorem evalArgs_any {M : Model} {A : Around} {E : Value → Shared → Prop} {s : Shared} {f : Value} {args : List (Bool × Sem Value)} {Q : Args → Shared → Prop} (hp : args.any (·.1) = false)
    (h : wpAny M A (spliced args) (fun vs s' => Q ⟨vs, []⟩ s') E s) : wpAny M A (evalArgs f true args []) Q E s := by
  cases args with
  | nil => exact fun Γ p hΓ => evalArgs_nil3 (h Γ p hΓ) Γ p hΓ
  | cons a r =>
    obtain ⟨b, x⟩ := a
    cases b with
    | true => simp at hp
    | false => exact evalArgs_plain h
noncomputable def eList (g : PM (List V)) : PM V := fun e H => (g e H).bind fun r => if r.1.length ≤ 100000 then some (.ref r.2.2.length, r.2.1, r.2.2 ++ [.list r.1]) else none
noncomputable def eTup (g : PM (List V)) : PM V := fun e H => (g e H).bind fun r => if r.1.length ≤ 100000 then some (.tup r.1, r.2.1, r.2.2) else none
theorem size_le {n : Nat} (h : n ≤ 100000) : n ≤ sizeLine := by rw [sizeLine_eq]; (first | lia | omega)
theorem Rel.newList {ρ : Rho} {e : AEnv} {H : AHeap} {s : Shared} (R : Rel G Φ ρ e H s) {Xs : List V} {vs : List Value} (hv : VRs G ρ s.heap Xs vs) (tk : Nat) :
    ∃ ρ', Rel G Φ ρ' e (H ++ [.list Xs]) { s with heap := s.heap.push { cls := .type "list", data := .seq vs.toArray }, toks := tk } ∧ Ext Φ ρ H s ρ' (H ++ [.list Xs]) { s with heap := s.heap.push { cls := .type "list", data := .seq vs.toArray }, toks := tk } ∧ ρ' H.length = some s.heap.objs.size := by
  refine andE3 (R.alloc (h' := s.heap.push { cls := .type "list", data := .seq vs.toArray }) (x := .list Xs) (o := { cls := .type "list", data := .seq vs.toArray }) tk (Nat.le_refl _) (Heap.get?_push_size _ rfl) (fun b o q => Heap.get?_push_of_some _ q)
    fun h1 h2 h3 => ⟨vs.toArray, 0, rfl, by simpa using h3 _ _ hv⟩) fun a b c => ?_
  exact ⟨_, a, b, c⟩
theorem snd_list {elts : List Expr} {pos : Pos} {g : PM (List V)} (h1 : SndL G Φ d (spliced (backTo pos (starEach elts Φ.env))) g) : SndE G Φ d (eval (.List elts pos) Φ.env) (eList g) := by
  intro e H X e' H' hf ρ s R A E ok
  refine hide fun PQ hpq => ?_
  refine bnd3 hf fun X₁ e₁ H₁ f1 hf => ?_
  split at hf
  · rename_i hl
    cases hf
    refine hpq ?_
    refine wpAny_List_spliced (h1.run f1 R ok fun vs ρ₁ s₁ R₁ X₁ v₁ => ⟨size_le (by rw [v₁.length]; exact hl), ?_⟩)
    refine exE1 (R₁.newList v₁ s₁.toks) fun ρ' h2 => andE3 h2 fun a b c => ?_
    exact ⟨ρ', a, X₁.trans b, VR.ref c⟩
  · first | exact nn hf | exact nf hf | cases hf
theorem snd_tup {elts : List Expr} {k : Nat} {pos : Pos} {g : PM (List V)} (h1 : SndL G Φ d (spliced (backTo pos (starEach elts Φ.env))) g) : SndE G Φ d (eval (.Tuple elts k pos) Φ.env) (eTup g) := by
  intro e H X e' H' hf ρ s R A E ok
  refine hide fun PQ hpq => ?_
  refine bnd3 hf fun X₁ e₁ H₁ f1 hf => ?_
  split at hf
  · rename_i hl
    cases hf
    refine hpq ?_
    refine wpAny_Tuple_spliced (h1.run f1 R ok fun vs ρ₁ s₁ R₁ X₁ v₁ => ⟨size_le (by rw [v₁.length]; exact hl), ?_⟩)
    refine andE2 (R₁.junk (h' := s₁.heap.push { cls := .type "tuple", data := .seq vs.toArray }) s₁.toks (fun b o q => Heap.get?_push_of_some _ q)) fun a b => ?_
    refine ⟨ρ₁, a, X₁.trans b, ?_⟩
    simp only [VR]
    exact exI3 _ vs.toArray 0 ⟨rfl, Heap.get?_push_size _ rfl, by simpa using b.vrs R₁ v₁⟩
  · first | exact nn hf | exact nf hf | cases hf
noncomputable abbrev MOp := V → List V → AHeap → Option (V × AHeap)
noncomputable def eMeth (f : PM V) (kd : V → AHeap → Bool) (g : PM (List V)) (op : MOp) : PM V := fun e H => (f e H).bind fun r => if kd r.1 r.2.2 then (g r.2.1 r.2.2).bind fun q => (op r.1 q.1 q.2.2).bind fun z => some (z.1, q.2.1, z.2) else none
noncomputable def MOpR (G : Gl) (d : Nat) (id : String) (op : MOp) : Prop :=
  ∀ X Ys v ws, SndO G d (fun ρ h x y => VR G ρ h x y) (fun ρ h => VR G ρ h X v ∧ VRs G ρ h Ys ws) (call (.builtin id) (v :: ws)) (op X Ys)
noncomputable def KdR (G : Gl) (T : String) (kd : V → AHeap → Bool) : Prop := ∀ (Φ : Frm) ρ e H s X v, kd X H = true → Rel G Φ ρ e H s → VR G ρ s.heap X v → s.TypeIs v T ∧ ∀ a, v = .ref a → ∃ ob, s.heap.get? a = some ob ∧ ob.dict = none
theorem snd_meth {o : Expr} {name : Str} {apos pos : Pos} {args : List Expr} {f : PM V} {kd : V → AHeap → Bool} {g : PM (List V)} {op : MOp} {T id : String}
    (hbase : attributeBase o name Φ.env (eval o Φ.env) = eval o Φ.env)
    (hfew : ((backTo pos (starEach args Φ.env)).all (fun x => !x.1) && (backToKw pos (keywordEach [] Φ.env)).all (fun x => x.1.isSome) && decide (args.length + ([] : List Keyword).length + (if ([] : List Keyword).isEmpty then 0 else 1) < 30)) = true)
    (hline : (apos.endLine == pos.line) = true) (hpl : (backTo pos (starEach args Φ.env)).any (·.1) = false) (pa : PlainAttrs T) (slot : Slot T name id) (hty : typeOf (.builtin id) = pure (.type "method_descriptor"))
    (hkd : KdR G T kd) (h1 : SndE G Φ d (eval o Φ.env) f) (h2 : SndL G Φ d (spliced (backTo pos (starEach args Φ.env))) g) (h3 : MOpR G d id op) :
    SndE G Φ d (eval (.Call (.Attribute o name apos) args [] pos) Φ.env) (eMeth f kd g op) := by
  intro e H X e' H' hf ρ s R A E ok
  refine hide fun PQ hpq => ?_
  refine bnd3 hf fun X₁ e₁ H₁ f1 hf => ?_
  split at hf
  · rename_i hk
    refine bnd3 hf fun X₂ e₂ H₂ f2 hf => ?_
    refine bnd2 hf fun X₃ H₃ f3 hf => ?_
    cases hf
    refine hpq ?_
    refine wpAny_Call_method hbase hfew hline pa slot hty (h1.run f1 R ok fun v ρ₁ s₁ R₁ X₁ v₁ => ?_)
    refine andE2 (hkd _ _ _ _ _ _ _ hk R₁ v₁) fun q1 q2 => ?_
    refine ⟨q1, q2, callWith_builtin hpl (evalArgs_any hpl (h2.run f2 R₁ ok fun ws ρ₂ s₂ R₂ X₂ v₂ => ?_))⟩
    exact (h3 _ _ v ws).run f3 R₂ ⟨X₂.vr R₁ v₁, v₂⟩ ok fun y ρ₃ s₃ R₃ X₃ v₃ => ⟨ρ₃, R₃, (X₁.trans X₂).trans X₃, v₃⟩
  · first | exact nn hf | exact nf hf | cases hf
noncomputable def kList (X : V) (H : AHeap) : Bool := match X with
  | .ref i => match (H[i]?).map O.thaw with
    | some (.list _) => true
    | _ => false
  | _ => false
noncomputable def kDict (X : V) (H : AHeap) : Bool := match X with
  | .ref i => match (H[i]?).map O.thaw with
    | some (.dict _) => true
    | _ => false
  | _ => false
noncomputable def kSet (X : V) (H : AHeap) : Bool := match X with
  | .ref i => match (H[i]?).map O.thaw with
    | some (.set _) => true
    | _ => false
  | _ => false
noncomputable def kInt (X : V) (H : AHeap) : Bool := match X with
  | .int _ => true
  | _ => false
set_option tactic.hygienic true in
theorem kList_ok : KdR G "list" kList := by
  intro Φ ρ e H s X v hk R hv
  unfold kList at hk
  refine iRefB hk fun i hX hk => ?_
  subst hX
  refine iListB hk fun vs hq hk => ?_
  simp only [VR] at hv; obtain ⟨a, ha, rfl⟩ := hv
  refine exE1 (thaw_some hq) fun y h5 => andE2 h5 fun hy hyt => ?_
  obtain ⟨o, g, om⟩ := R.at hy ha
  rw [hyt] at om
  refine exE2 om fun its n h7 => andE2 h7 fun e7_0 hvs => ?_
  subst e7_0
  exact ⟨⟨_, g, rfl⟩, fun b hb => by cases hb; exact ⟨_, g, rfl⟩⟩
set_option tactic.hygienic true in
theorem kDict_ok : KdR G "dict" kDict := by
  intro Φ ρ e H s X v hk R hv
  unfold kDict at hk
  refine iRefB hk fun i hX hk => ?_
  subst hX
  refine iDictB hk fun vs hq hk => ?_
  simp only [VR] at hv; obtain ⟨a, ha, rfl⟩ := hv
  refine exE1 (R.att hq ha) fun o h8 => andE2 h8 fun g om => ?_
  obtain ⟨kvs', ⟨es, ep, d1, d2, _⟩, _⟩ := om
  exact ⟨⟨_, g, d1.1⟩, fun b hb => by cases hb; exact ⟨_, g, d1.2.1⟩⟩
set_option tactic.hygienic true in
theorem kSet_ok : KdR G "set" kSet := by
  intro Φ ρ e H s X v hk R hv
  unfold kSet at hk
  refine iRefB hk fun i hX hk => ?_
  subst hX
  refine iSetB hk fun vs hq hk => ?_
  simp only [VR] at hv; obtain ⟨a, ha, rfl⟩ := hv
  refine exE1 (R.att hq ha) fun o h10 => andE2 h10 fun g om => ?_
  refine exE3 om fun es ep t h11 => andE3 h11 fun d1 d2 _ => ?_
  exact ⟨⟨_, g, d1.1⟩, fun b hb => by cases hb; exact ⟨_, g, d1.2.1⟩⟩
theorem kInt_ok : KdR G "int" kInt := by
  intro Φ ρ e H s X v hk R hv
  unfold kInt at hk
  split at hk
  · simp only [VR] at hv
    obtain ⟨t, rfl⟩ := hv
    exact ⟨typeIs_int s _ _, fun b hb => by cases hb⟩
  · first | exact nn hk | exact nf hk | cases hk
noncomputable def oAppend : MOp := fun X Ys H => match X, Ys with
  | .ref i, [Y] => match H[i]? with
    | some (.list vs) => if vs.length ≤ 100000 then some (.none, H.set i (.list (vs ++ [Y]))) else none
    | _ => none
  | _, _ => none
noncomputable def oClear : MOp := fun X Ys H => match X, Ys with
  | .ref i, [] => match H[i]? with
    | some (.list vs) => if vs.length ≤ 100000 then some (.none, H.set i (.list [])) else none
    | _ => none
  | _, _ => none
noncomputable def oPop : MOp := fun X Ys H => match X, Ys with
  | .ref i, [] => match H[i]? with
    | some (.list vs) => match vs.getLast? with
      | some y => if vs.length ≤ 100000 then some (y, H.set i (.list vs.dropLast)) else none
      | none => none
    | _ => none
  | _, _ => none
theorem VRs_snoc {ρ : Rho} {h : Heap} {Xs : List V} {vs : List Value} {Y : V} {w : Value} (a : VRs G ρ h Xs vs) (b : VR G ρ h Y w) : VRs G ρ h (Xs ++ [Y]) (vs ++ [w]) := a.append (VRs.one b)
theorem VRs_one {ρ : Rho} {h : Heap} {Y : V} {ws : List Value} (a : VRs G ρ h [Y] ws) : ∃ w, ws = [w] ∧ VR G ρ h Y w := by
  simp only [VRs] at a
  refine exE2 a fun v t h13 => andE3 h13 fun e13_0 b e13_2 => ?_
  subst e13_0
  subst e13_2
  exact ⟨v, rfl, b⟩
theorem VRs_nil {ρ : Rho} {h : Heap} {ws : List Value} (a : VRs G ρ h [] ws) : ws = [] := by simpa only [VRs] using a
theorem VRs_dropLast {ρ : Rho} {h : Heap} : ∀ {Xs : List V} {vs : List Value}, VRs G ρ h Xs vs → VRs G ρ h Xs.dropLast vs.dropLast
  | [], _, q => by rw [VRs_nil q]; exact VRs.nil
  | [x], _, q => by obtain ⟨w, rfl, _⟩ := VRs_one q; exact VRs.nil
  | x :: y :: r, _, q => by
    simp only [VRs] at q
    refine exE2 q fun v t h14 => andE3 h14 fun e14_0 q1 h14_2 => ?_
    subst e14_0
    obtain ⟨w, u, rfl, q2, q3⟩ := h14_2
    have := VRs_dropLast (VRs.cons q2 q3)
    simp only [List.dropLast_cons_cons]
    exact VRs.cons q1 this
set_option tactic.hygienic true in
theorem oAppend_ok : MOpR G d "list.append" oAppend := by
  intro X Ys v ws Φ e H x H' hf ρ s R hP A E ok
  refine hide fun PQ hpq => ?_
  unfold oAppend at hf
  refine iRefOne hf fun i Y hX hY hf => ?_
  subst hX hY
  refine iList hf fun vs hq hf => ?_
  refine iteS hf fun hl hf => ?_
  cases hf
  obtain ⟨hv, hws⟩ := hP
  simp only [VR] at hv; obtain ⟨a, ha, rfl⟩ := hv
  obtain ⟨w, rfl, hw⟩ := VRs_one hws
  obtain ⟨o, g, om⟩ := R.at hq ha
  refine exE2 om fun its n h18 => andE2 h18 fun e18_0 hvs => ?_
  subst e18_0
  have hlen : its.size = vs.length := by have := hvs.length; simpa using this
  refine hpq ?_
  refine call_meets F.slot_list_append ⟨_, g, rfl⟩ F.entry_list_append (F.args_list_append_2 _ _) (list_append a its n w (by rw [hlen]; exact size_le hl)) ⟨g, ?_⟩
  have := R.upd (h' := s.heap.update a (Obj.mapSeq fun xs => xs.push w)) (x' := .list (vs ++ [Y])) (o' := Obj.mapSeq (fun xs => xs.push w) { cls := .type "list", data := .seq its n }) s.toks ha hq rfl rfl (Heap.get?_update_self _ g rfl)
    (fun b o hb q => (Heap.get?_update_other _ _ (Ne.symm hb)).trans q) (fun h1 h2 => ⟨its.push w, _, rfl, by simpa using VRs_snoc (h2 _ _ hvs) (h1 _ _ hw)⟩)
  exact ⟨ρ, this.1, this.2, VR.none⟩
set_option tactic.hygienic true in
theorem oClear_ok : MOpR G d "list.clear" oClear := by
  intro X Ys v ws Φ e H x H' hf ρ s R hP A E ok
  refine hide fun PQ hpq => ?_
  unfold oClear at hf
  refine iRefNil hf fun i hX hY hf => ?_
  subst hX hY
  refine iList hf fun vs hq hf => ?_
  refine iteS hf fun hl hf => ?_
  cases hf
  obtain ⟨hv, hws⟩ := hP
  simp only [VR] at hv; obtain ⟨a, ha, rfl⟩ := hv
  obtain rfl := VRs_nil hws
  obtain ⟨o, g, om⟩ := R.at hq ha
  refine exE2 om fun its n h21 => andE2 h21 fun e21_0 hvs => ?_
  subst e21_0
  have hlen : its.size = vs.length := by have := hvs.length; simpa using this
  refine hpq ?_
  refine call_meets F.slot_list_clear ⟨_, g, rfl⟩ F.entry_list_clear (F.args_list_clear_1 _) (AutoSeq1.list_clear_list_0 a its n (by rw [hlen]; exact size_le hl)) ⟨g, ?_⟩
  have := R.upd (h' := s.heap.update a (Obj.mapSeq fun _ => #[])) (x' := .list []) (o' := Obj.mapSeq (fun _ => #[]) { cls := .type "list", data := .seq its n }) s.toks ha hq rfl rfl (Heap.get?_update_self _ g rfl)
    (fun b o hb q => (Heap.get?_update_other _ _ (Ne.symm hb)).trans q) (fun h1 h2 => ⟨#[], _, rfl, VRs.nil⟩)
  exact ⟨ρ, this.1, this.2, VR.none⟩
set_option tactic.hygienic true in
theorem oPop_ok : MOpR G d "list.pop" oPop := by
  intro X Ys v ws Φ e H x H' hf ρ s R hP A E ok
  refine hide fun PQ hpq => ?_
  unfold oPop at hf
  split at hf
  · rename_i i
    refine iList hf fun vs hq hf => ?_
    split at hf
    · rename_i y hy
      split at hf
      · rename_i hl
        cases hf
        refine andE2 hP fun hv hws => ?_
        simp only [VR] at hv; obtain ⟨a, ha, rfl⟩ := hv
        obtain rfl := VRs_nil hws
        obtain ⟨o, g, om⟩ := R.at hq ha
        refine exE2 om fun its n h24 => andE2 h24 fun e24_0 hvs => ?_
        subst e24_0
        have hlen : its.size = vs.length := by have := hvs.length; simpa using this
        rw [List.getLast?_eq_getElem?] at hy
        refine exE1 (hvs.get hy) fun u h25 => andE2 h25 fun hu hyu => ?_
        have hpos : 0 < its.size := by
          rcases Nat.eq_zero_or_pos vs.length with h0 | h0
          · rw [List.length_eq_zero_iff.mp h0] at hy; simp at hy
          · (first | lia | omega)
        refine hpq ?_
        refine call_meets F.slot_list_pop ⟨_, g, rfl⟩ F.entry_list_pop (F.args_list_pop_1 _) (MeetsSeq.list_pop_last a its n u (by rw [hlen]; simpa using hu) (by rw [hlen]; exact size_le hl)) ⟨g, ?_⟩
        have := R.upd (h' := s.heap.update a (Obj.mapSeq fun xs => xs.eraseIdxIfInBounds (its.size - 1))) (x' := .list vs.dropLast) (o' := Obj.mapSeq (fun xs => xs.eraseIdxIfInBounds (its.size - 1)) { cls := .type "list", data := .seq its n }) s.toks ha hq rfl rfl (Heap.get?_update_self _ g rfl)
          (fun b o hb q => (Heap.get?_update_other _ _ (Ne.symm hb)).trans q) (fun h1 h2 => ⟨its.eraseIdxIfInBounds (its.size - 1), _, rfl, by
            have e1 : (its.eraseIdxIfInBounds (its.size - 1)).toList = its.toList.dropLast := by
              rw [Array.toList_eraseIdxIfInBounds]
              have : its.size - 1 = its.toList.length - 1 := by simp
              rw [this, List.eraseIdx_length_sub_one]
            rw [e1]; exact VRs_dropLast (h2 _ _ hvs)⟩)
        exact ⟨ρ, this.1, this.2, this.2.vr R hyu⟩
      · first | exact nn hf | exact nf hf | cases hf
    · first | exact nn hf | exact nf hf | cases hf
  · first | exact nn hf | exact nf hf | cases hf
noncomputable def oBits : MOp := fun X Ys H => match X, Ys with
  | .int a, [] => some (.int ((Builtin.Int.intBits a : Nat) : Int), H)
  | _, _ => none
set_option tactic.hygienic true in
theorem oBits_ok : MOpR G d "int.bit_length" oBits := by
  intro X Ys v ws Φ e H x H' hf ρ s R hP A E ok
  refine hide fun PQ hpq => ?_
  unfold oBits at hf
  split at hf
  · rename_i a
    cases hf
    obtain ⟨hv, hws⟩ := hP
    simp only [VR] at hv; obtain ⟨t, rfl⟩ := hv
    obtain rfl := VRs_nil hws
    refine andE2 (R.toks (s.toks + 1)) fun R' X' => ?_
    refine hpq ?_
    exact call_meets F.slot_int_bit_length (typeIs_int s _ _) F.entry_int_bit_length (F.args_int_bit_length_1 _) (AutoIntG2.int_bit_length_int_0 a t).meets ⟨ρ, R', X', VR.int _ _⟩
  · first | exact nn hf | exact nf hf | cases hf
end
end Mine
end
section
set_option tactic.hygienic false
open PySem PySem.W PyProof.Rows PySem.Calls
namespace Mine
noncomputable def kvFind (kvs : List (Int × V)) (k : Int) : Option V := match kvs with
  | [] => none
  | p :: r => if p.1 = k then some p.2 else kvFind r k
noncomputable def kvPut (kvs : List (Int × V)) (k : Int) (x : V) : List (Int × V) := match kvs with
  | [] => [(k, x)]
  | p :: r => if p.1 = k then (p.1, x) :: r else p :: kvPut r k x
noncomputable def kvDel (kvs : List (Int × V)) (k : Int) : List (Int × V) := match kvs with
  | [] => []
  | p :: r => if p.1 = k then r else p :: kvDel r k
section
variable {G : Gl} {ρ : Rho} {h : Heap}
theorem KVR.find : ∀ {x : List (Int × V)} {l : List (Int × Value)} {k : Int}, KVR G ρ h x l → OptR G ρ h (kvFind x k) (valueAt l k)
  | [], _, k, q => by cases q; rfl
  | x :: r, l, k, q => by
    obtain ⟨v, t, rfl, q1, q2⟩ := q
    have ih := KVR.find (k := k) q2
    unfold kvFind valueAt
    by_cases hk : x.1 = k
    · simp only [hk, if_true, List.find?_cons, decide_true]; exact ⟨v, rfl, q1⟩
    · simp only [hk, if_false, List.find?_cons, decide_false]; exact ih
theorem KVR.any : ∀ {x : List (Int × V)} {l : List (Int × Value)} {k : Int}, KVR G ρ h x l → l.any (fun kv => decide (kv.1 = k)) = x.any (fun kv => decide (kv.1 = k))
  | [], _, k, q => by cases q; rfl
  | x :: r, l, k, q => by
    obtain ⟨v, t, rfl, q1, q2⟩ := q
    simp [KVR.any (k := k) q2]
theorem KVR.map_put : ∀ {x : List (Int × V)} {l : List (Int × Value)} {k : Int} {Y : V} {w : Value}, KVR G ρ h x l → (l.map (·.1)).Nodup → VR G ρ h Y w → l.any (fun kv => decide (kv.1 = k)) = true →
    KVR G ρ h (kvPut x k Y) (l.map fun kv => if kv.1 = k then (kv.1, w) else kv)
  | [], _, k, _, _, q, _, _, ha => by cases q; simp at ha
  | x :: r, l, k, Y, w, q, hn, hw, ha => by
    obtain ⟨v, t, rfl, q1, q2⟩ := q
    simp only [List.map_cons, List.nodup_cons] at hn
    unfold kvPut
    by_cases hk : x.1 = k
    · simp only [hk, if_true, List.map_cons]
      have : t.map (fun kv => if kv.1 = k then (kv.1, w) else kv) = t := by
        have h2 : t.map (fun kv => if kv.1 = k then (kv.1, w) else kv) = t.map id := List.map_congr_left fun p hp => by
          have : p.1 ≠ k := fun e => hn.1 (by rw [hk, ← e]; exact List.mem_map_of_mem hp)
          simp [this]
        rw [h2, List.map_id]
      rw [this]
      exact ⟨w, t, rfl, hw, q2⟩
    · simp only [hk, if_false, List.map_cons]
      refine ⟨v, _, rfl, q1, KVR.map_put q2 hn.2 hw ?_⟩
      simpa [hk] using ha
theorem KVR.snoc : ∀ {x : List (Int × V)} {l : List (Int × Value)} {k : Int} {Y : V} {w : Value}, KVR G ρ h x l → VR G ρ h Y w → l.any (fun kv => decide (kv.1 = k)) = false → KVR G ρ h (kvPut x k Y) (l ++ [(k, w)])
  | [], _, k, _, w, q, hw, _ => by cases q; exact ⟨w, [], rfl, hw, rfl⟩
  | x :: r, l, k, Y, w, q, hw, ha => by
    obtain ⟨v, t, rfl, q1, q2⟩ := q
    simp only [List.any_cons, Bool.or_eq_false_iff, decide_eq_false_iff_not] at ha
    unfold kvPut
    simp only [ha.1, if_false, List.cons_append]
    exact ⟨v, _, rfl, q1, KVR.snoc q2 hw ha.2⟩
theorem KVR.put {x : List (Int × V)} {l : List (Int × Value)} {k : Int} {Y : V} {w : Value} (q : KVR G ρ h x l) (hn : (l.map (·.1)).Nodup) (hw : VR G ρ h Y w) : KVR G ρ h (kvPut x k Y) (stored l k w) := by
  unfold stored
  cases ha : l.any (fun kv => decide (kv.1 = k)) with
  | true => simp only [if_true]; exact q.map_put hn hw ha
  | false => simp only [Bool.false_eq_true, if_false]; exact q.snoc hw ha
end
noncomputable def oItem : Op2 := fun X Y H => match X, Y with
  | .ref i, .int k => match (H[i]?).map O.thaw with
    | some (.list vs) => if vs.length ≤ 100000 then (if 0 ≤ k ∧ k < 100000 then (vs[k.toNat]?).map fun x => (x, H) else if k < 0 ∧ -(vs.length : Int) ≤ k then (vs[(k + vs.length).toNat]?).map fun x => (x, H) else none) else none
    | some (.dict kvs) => (kvFind kvs k).map fun x => (x, H)
    | _ => none
  | .tup vs, .int k => if 0 ≤ k ∧ k < 100000 then (vs[k.toNat]?).map fun x => (x, H) else none
  | _, _ => none
noncomputable def eSub (f g : PM V) : PM V := eBin f g oItem
section
variable {G : Gl} {Φ : Frm} {d : Nat}
theorem Rel.dictOf {ρ : Rho} {e : AEnv} {H : AHeap} {s : Shared} (R : Rel G Φ ρ e H s) {i : Nat} {a : Addr} {x : O} {kvs : List (Int × V)} (hx : H[i]? = some x) (ht : x.thaw = .dict kvs) (ha : ρ i = some a) :
    ∃ kvs', s.heap.DictOf (PySem.intKind G.prog G.w) a kvs' ∧ KVR G ρ s.heap kvs kvs' ∧ (kvs'.map (·.1)).Nodup := by
  obtain ⟨o, g, om⟩ := R.at hx ha
  rw [ht] at om
  obtain ⟨kvs', hd, hkv⟩ := om
  obtain ⟨es, ep, d1, d2, d3, d4, d5⟩ := id hd
  exact ⟨kvs', Heap.dictOf_iff.mpr ⟨o, g, hd⟩, hkv, d5⟩
theorem Rel.dictAt {ρ : Rho} {e : AEnv} {H : AHeap} {s : Shared} (R : Rel G Φ ρ e H s) {i : Nat} {a : Addr} {kvs : List (Int × V)} (hx : (H[i]?).map O.thaw = some (.dict kvs)) (ha : ρ i = some a) :
    ∃ kvs', s.heap.DictOf (PySem.intKind G.prog G.w) a kvs' ∧ KVR G ρ s.heap kvs kvs' ∧ (kvs'.map (·.1)).Nodup := by
  obtain ⟨y, hy, hyt⟩ := thaw_some hx
  exact R.dictOf hy hyt ha
set_option tactic.hygienic true in
theorem item_tail {value slice : Expr} (hs : ∀ o i, subscripted slice false o i = operate [o, i] (getItem o i)) : Op2R G d (subscriptTail value slice) oItem := by
  intro X Y v w Φ e H Z H' hf ρ s R hP A E ok
  refine hide fun PQ hpq => ?_
  obtain ⟨hv, hw⟩ := hP
  unfold oItem at hf
  split at hf
  · rename_i i k
    simp only [VR] at hv hw
    obtain ⟨a, ha, rfl⟩ := hv
    obtain ⟨t, rfl⟩ := hw
    split at hf
    · rename_i vs hq
      split at hf
      · rename_i hl
        obtain ⟨y, hy, hyt⟩ := thaw_some hq
        obtain ⟨o, g, om⟩ := R.at hy ha
        rw [hyt] at om
        obtain ⟨its, n, rfl, hvs⟩ := om
        have hlen : its.size = vs.length := by have := hvs.length; simpa using this
        have hL : s.heap.IsList a its := ⟨_, g, rfl, n, rfl⟩
        refine hpq ?_
        refine tail_any (T := "list") ⟨_, g, rfl⟩ F.slot_list_getitem.lookup ?_ (hs _ _)
        split at hf
        · rename_i hk
          obtain ⟨x, hx, hz⟩ := Option.map_eq_some_iff.mp hf
          cases hz
          obtain ⟨u, hu, hxu⟩ := hvs.get hx
          exact wpAny_getItem_list hL hk.1 (by (first | lia | omega)) (by simpa using hu) ⟨ρ, R, Ext.refl .., hxu⟩
        · split at hf
          · rename_i hk
            obtain ⟨x, hx, hz⟩ := Option.map_eq_some_iff.mp hf
            cases hz
            obtain ⟨u, hu, hxu⟩ := hvs.get hx
            exact wpAny_getItem_list_neg hL hk.1 (by rw [hlen]; exact hk.2) (by (first | lia | omega)) (by rw [hlen]; simpa using hu) ⟨ρ, R, Ext.refl .., hxu⟩
          · first | exact nn hf | exact nf hf | cases hf
      · first | exact nn hf | exact nf hf | cases hf
    · rename_i kvs hq
      obtain ⟨x, hx, hz⟩ := Option.map_eq_some_iff.mp hf
      cases hz
      obtain ⟨y, hy, hyt⟩ := thaw_some hq
      obtain ⟨kvs', hD, hkv, hn⟩ := R.dictOf hy hyt ha
      have := hkv.find (k := k)
      rw [hx] at this
      obtain ⟨u, hu, hxu⟩ := this
      obtain ⟨R', X'⟩ := R.toks (s.toks + 1)
      refine hpq ?_
      exact tail_any hD.typeIs F.slot_dict_getitem.lookup (wpAny_getItem_of (by simp [PySem.intKind, Value.isInt]) hD.mapOf hu ⟨ρ, R', X', hxu⟩) (hs _ _)
    · first | exact nn hf | exact nf hf | cases hf
  · rename_i vs k
    split at hf
    · rename_i hk
      obtain ⟨x, hx, hz⟩ := Option.map_eq_some_iff.mp hf
      cases hz
      simp only [VR] at hv hw
      obtain ⟨a, its, n, rfl, g, hvs⟩ := hv
      obtain ⟨t, rfl⟩ := hw
      obtain ⟨u, hu, hxu⟩ := hvs.get hx
      have hlt : k.toNat < its.toList.length := (List.getElem?_eq_some_iff.mp hu).1
      refine hpq ?_
      refine item_tupleT (l := its.toList) (j := k.toNat) ⟨_, g, rfl, n, by simp⟩ (by (first | lia | omega)) (by (first | lia | omega)) ?_ hu ⟨ρ, R, Ext.refl .., hxu⟩ (hs _ _)
      unfold seqIndex?
      have h1 : ¬ k < 0 := by (first | lia | omega)
      have h2 : k < (its.toList.length : Int) := by (first | lia | omega)
      simp [h1]
      simp at h2
      (first | lia | omega)
    · first | exact nn hf | exact nf hf | cases hf
  · first | exact nn hf | exact nf hf | cases hf
theorem snd_sub {value slice : Expr} {pos : Pos} {f g : PM V} (h1 : SndE G Φ d (eval value Φ.env) f) (h2 : SndE G Φ d (eval slice Φ.env) g) (hs : ∀ o i, subscripted slice false o i = operate [o, i] (getItem o i)) :
    SndE G Φ d (eval (.Subscript value slice pos) Φ.env) (eSub f g) := by
  intro e H X e' H' hf ρ s R A E ok
  refine hide fun PQ hpq => ?_
  refine bnd3 hf fun X₁ e₁ H₁ f1 hf => ?_
  refine bnd3 hf fun X₂ e₂ H₂ f2 hf => ?_
  refine bnd2 hf fun X₃ H₃ f3 hf => ?_
  cases hf
  refine hpq ?_
  refine Subscript_ (run_two h1 h2 f1 f2 R ok fun v w ρ₂ s₂ R₂ X₂ v₁ v₂ => ?_)
  exact (item_tail hs _ _ v w).run f3 R₂ ⟨v₁, v₂⟩ ok fun y ρ₃ s₃ R₃ X₃ v₃ => ⟨ρ₃, R₃, X₂.trans X₃, v₃⟩
noncomputable def oSetItem (X Y Z : V) (H : AHeap) : Option AHeap := match X, Y with
  | .ref i, .int k => match H[i]? with
    | some (.dict kvs) => if kvs.length ≤ 100000 then some (H.set i (.dict (kvPut kvs k Z))) else none
    | _ => none
  | _, _ => none
set_option tactic.hygienic true in
theorem setItem_ok {X Y Z : V} {H H' : AHeap} (hf : oSetItem X Y Z H = some H') {ρ : Rho} {e : AEnv} {s : Shared} (R : Rel G Φ ρ e H s) {v w u : Value} (hv : VR G ρ s.heap X v) (hw : VR G ρ s.heap Y w) (hu : VR G ρ s.heap Z u) {A : Around} {E : Value → Shared → Prop} {Q : Unit → Shared → Prop}
    (k : ∀ s', Rel G Φ ρ e H' s' → Ext Φ ρ H s ρ H' s' → Q () s') : wpAny G.M A (setItem v w u) Q E s := by
  unfold oSetItem at hf
  split at hf
  · rename_i i k'
    simp only [VR] at hv hw
    obtain ⟨a, ha, rfl⟩ := hv
    obtain ⟨t, rfl⟩ := hw
    refine iDict hf fun kvs hq hf => ?_
    split at hf
    · rename_i hl
      cases hf
      obtain ⟨kvs', hD, hkv, hn⟩ := R.dictOf hq rfl ha
      refine wpAny_setItem_pairs (k := k') (by simp [PySem.intKind, Value.isInt]) hD (fun h' hD' hsb => ?_) (size_le (by rw [hkv.length]; exact hl))
      obtain ⟨o', g', hd'⟩ := Heap.dictOf_iff.mp hD'
      have := R.upd (h' := h') (x' := .dict (kvPut kvs k' Z)) (o' := o') (s.toks + 1) ha hq rfl rfl g' (fun b o hb q => hsb.extBut b o hb q)
        (fun h1 h2 => ⟨_, hd', KVR.mono h1 _ _ (hkv.put hn hu)⟩)
      exact k _ this.1 this.2
    · first | exact nn hf | exact nf hf | cases hf
  · first | exact nn hf | exact nf hf | cases hf
noncomputable def mSetItem (f g h : PM V) : PM Flw := fun e H => (f e H).bind fun r => (g r.2.1 r.2.2).bind fun q => (h q.2.1 q.2.2).bind fun z => (oSetItem q.1 z.1 r.1 z.2.2).bind fun H' => some (.next, z.2.1, H')
theorem st_setitem {o i value : Expr} {pos' pos : Pos} {f g h : PM V} (h1 : SndE G Φ d (eval value Φ.env) f) (h2 : SndE G Φ d (eval o Φ.env) g) (h3 : SndE G Φ d (eval i Φ.env) h)
    (hw : swapsWith value (some (.Subscript o i pos')) pos.line Φ.env = pure false) : SndF G Φ d (exec (.Assign [.Subscript o i pos'] value pos) Φ.env) (mSetItem f g h) := by
  intro e H X e' H' hf ρ s R A E ok
  refine hide fun PQ hpq => ?_
  refine bnd3 hf fun X₁ e₁ H₁ f1 hf => ?_
  refine bnd3 hf fun X₂ e₂ H₂ f2 hf => ?_
  refine bnd3 hf fun X₃ e₃ H₃ f3 hf => ?_
  refine bnd1 hf fun H₄ f4 hf => ?_
  cases hf
  refine hpq ?_
  refine wpAny_Assign_Subscript (h1.run f1 R ok fun v ρ₁ s₁ R₁ X₁ v₁ => run_two h2 h3 f2 f3 R₁ ok fun a b ρ₂ s₂ R₂ X₂ w₁ w₂ => ?_) hw
  exact setItem_ok f4 R₂ w₁ w₂ (X₂.vr R₁ v₁) fun s₃ R₃ X₃ => ⟨ρ₂, R₃, (X₁.trans X₂).trans X₃, rfl⟩
noncomputable def oGet : MOp := fun X Ys H => match X, Ys with
  | .ref i, [.int k] => match (H[i]?).map O.thaw with
    | some (.dict kvs) => some ((kvFind kvs k).getD .none, H)
    | _ => none
  | .ref i, [.int k, Z] => match (H[i]?).map O.thaw with
    | some (.dict kvs) => some ((kvFind kvs k).getD Z, H)
    | _ => none
  | _, _ => none
set_option tactic.hygienic true in
theorem oGet_ok : MOpR G d "dict.get" oGet := by
  intro X Ys v ws Φ e H x H' hf ρ s R hP A E ok
  refine hide fun PQ hpq => ?_
  obtain ⟨hv, hws⟩ := hP
  obtain ⟨R', X'⟩ := R.toks (s.toks + 1)
  unfold oGet at hf
  split at hf
  · rename_i i k
    simp only [VR] at hv; obtain ⟨a, ha, rfl⟩ := hv
    obtain ⟨w, rfl, hw⟩ := VRs_one hws
    simp only [VR] at hw; obtain ⟨t, rfl⟩ := hw
    refine iDict hf fun kvs hq hf => ?_
    cases hf
    obtain ⟨y, hy, hyt⟩ := thaw_some hq
    obtain ⟨kvs', hD, hkv, hn⟩ := R.dictOf hy hyt ha
    refine hpq ?_
    refine call_meetsIn F.slot_dict_get hD.typeIs F.entry_dict_get (F.args_dict_get_2 _ _) (meets_dict_get _ a (by simp [PySem.intKind, Value.isInt] : (PySem.intKind G.prog G.w).is k _ = true) (R.lo i a ha).2) ⟨_, hD.mapOf, ρ, R', X', ?_⟩
    have := hkv.find (k := k)
    cases hf : kvFind kvs k with
    | none => rw [hf] at this; rw [this]; exact VR.none
    | some z => rw [hf] at this; obtain ⟨u, hu, hz⟩ := this; rw [hu]; exact hz
  · rename_i i k Z
    simp only [VR] at hv; obtain ⟨a, ha, rfl⟩ := hv
    simp only [VRs, VR] at hws
    obtain ⟨v1, t1, rfl, ⟨t, rfl⟩, v2, t2, rfl, hZ, rfl⟩ := hws
    refine iDict hf fun kvs hq hf => ?_
    cases hf
    obtain ⟨y, hy, hyt⟩ := thaw_some hq
    obtain ⟨kvs', hD, hkv, hn⟩ := R.dictOf hy hyt ha
    refine hpq ?_
    refine call_meetsIn F.slot_dict_get hD.typeIs F.entry_dict_get (F.args_dict_get_3 _ _ _) (meets_dict_get_default _ a (by simp [PySem.intKind, Value.isInt] : (PySem.intKind G.prog G.w).is k _ = true) (R.lo i a ha).2 v2) ⟨_, hD.mapOf, ρ, R', X', ?_⟩
    have := hkv.find (k := k)
    cases hf : kvFind kvs k with
    | none => rw [hf] at this; rw [this]; exact hZ
    | some z => rw [hf] at this; obtain ⟨u, hu, hz⟩ := this; rw [hu]; exact hz
  · first | exact nn hf | exact nf hf | cases hf
noncomputable def oView (k : Bool) : MOp := fun X Ys H => match X, Ys with
  | .ref i, [] => match (H[i]?).map O.thaw with
    | some (.dict _) => some (.view k i, H)
    | _ => none
  | _, _ => none
set_option tactic.hygienic true in
theorem oValues_ok : MOpR G d "dict.values" (oView false) := by
  intro X Ys v ws Φ e H x H' hf ρ s R hP A E ok
  refine hide fun PQ hpq => ?_
  obtain ⟨hv, hws⟩ := hP
  unfold oView at hf
  split at hf
  · rename_i i
    simp only [VR] at hv; obtain ⟨a, ha, rfl⟩ := hv
    obtain rfl := VRs_nil hws
    refine iDict hf fun kvs hq hf => ?_
    cases hf
    obtain ⟨y, hy, hyt⟩ := thaw_some hq
    obtain ⟨kvs', hD, hkv, hn⟩ := R.dictOf hy hyt ha
    obtain ⟨R', X'⟩ := R.junk (h' := s.heap.push (viewObj false a)) s.toks (fun b o q => Heap.get?_push_of_some _ q)
    refine hpq ?_
    refine call_meetsIn F.slot_dict_values hD.typeIs F.entry_dict_values (F.args_dict_values_1 _) (meets_dict_values (PySem.intKind G.prog G.w) a (R.lo i a ha).2) ⟨⟨kvs', hD⟩, ρ, R', X', ?_⟩
    simp only [VR]
    exact ⟨_, a, rfl, ha, Heap.get?_push_size _ rfl⟩
  · first | exact nn hf | exact nf hf | cases hf
set_option tactic.hygienic true in
theorem oItems_ok : MOpR G d "dict.items" (oView true) := by
  intro X Ys v ws Φ e H x H' hf ρ s R hP A E ok
  refine hide fun PQ hpq => ?_
  obtain ⟨hv, hws⟩ := hP
  unfold oView at hf
  split at hf
  · rename_i i
    simp only [VR] at hv; obtain ⟨a, ha, rfl⟩ := hv
    obtain rfl := VRs_nil hws
    refine iDict hf fun kvs hq hf => ?_
    cases hf
    obtain ⟨y, hy, hyt⟩ := thaw_some hq
    obtain ⟨kvs', hD, hkv, hn⟩ := R.dictOf hy hyt ha
    obtain ⟨R', X'⟩ := R.junk (h' := s.heap.push (viewObj true a)) s.toks (fun b o q => Heap.get?_push_of_some _ q)
    refine hpq ?_
    refine call_meetsIn F.slot_dict_items hD.typeIs F.entry_dict_items (F.args_dict_items_1 _) (meets_dict_items (PySem.intKind G.prog G.w) a (R.lo i a ha).2) ⟨⟨kvs', hD⟩, ρ, R', X', ?_⟩
    simp only [VR]
    exact ⟨_, a, rfl, ha, Heap.get?_push_size _ rfl⟩
  · first | exact nn hf | exact nf hf | cases hf
end
end Mine
end
section
set_option tactic.hygienic false
open PySem PySem.W PyProof.Rows PySem.Calls PySem.SeqAt
namespace Mine
noncomputable def veqL (eq : V → V → Option Bool) : List V → List V → Option Bool
  | a :: r, b :: q => (eq a b).bind fun x => (veqL eq r q).bind fun y => some (x && y)
  | _, _ => some true
noncomputable def veq : Nat → AHeap → V → V → Option Bool
  | 0, _, _, _ => none
  | n + 1, H, X, Y => match X, Y with
    | .int a, .int b => some (a == b)
    | .tup a, .tup b => (veqL (veq n H) a b).bind fun x => some (x && a.length == b.length)
    | .ref i, .ref j => if i = j then some true else match (H[i]?).map O.thaw, (H[j]?).map O.thaw with
      | some (.list a), some (.list b) => if a.length = b.length then veqL (veq n H) a b else some false
      | _, _ => none
    | _, _ => none
noncomputable def eOf (eq : V → V → Option Bool) (as bs : List V) (j : Nat) : Bool := match as[j]?, bs[j]? with
  | some a, some b => (eq a b).getD true
  | _, _ => true
theorem veqL_e (eq : V → V → Option Bool) : ∀ (as bs : List V) (r : Bool), veqL eq as bs = some r → (∀ (j : Nat) a b, as[j]? = some a → bs[j]? = some b → eq a b = some (eOf eq as bs j)) ∧ r = (List.range (min as.length bs.length)).all (eOf eq as bs)
  | [], bs, r, h => by
    simp only [veqL, Option.some.injEq] at h
    exact ⟨fun j a b h1 => by simp at h1, by simp [← h]⟩
  | a :: as, [], r, h => by
    simp only [veqL, Option.some.injEq] at h
    exact ⟨fun j a b h1 h2 => by simp at h2, by simp [← h]⟩
  | a :: as, b :: bs, r, h => by
    refine bnd1 h fun x h1 h => ?_
    refine bnd1 h fun y h2 h => ?_
    cases h
    obtain ⟨i1, i2⟩ := veqL_e eq as bs y h2
    have e0 : eOf eq (a :: as) (b :: bs) 0 = x := by simp [eOf, h1]
    have es : ∀ j, eOf eq (a :: as) (b :: bs) (j + 1) = eOf eq as bs j := fun j => by simp [eOf]
    constructor
    · intro j a' b' ha hb
      cases j with
      | zero => simp at ha hb; subst ha hb; rw [e0]; exact h1
      | succ j => rw [es]; exact i1 j a' b' (by simpa using ha) (by simpa using hb)
    · rw [i2]
      have : min (a :: as).length (b :: bs).length = min as.length bs.length + 1 := by simp [Nat.add_min_add_right]
      rw [this, List.range_succ_eq_map, List.all_cons, e0, List.all_map]
      congr 1
section
variable {G : Gl} {Φ : Frm}
theorem veq_same {ρ : Rho} {e : AEnv} {H : AHeap} {s : Shared} (R : Rel G Φ ρ e H s) : ∀ (n : Nat) (X Y : V) (v : Value) (b : Bool), veq n H X Y = some b → VR G ρ s.heap X v → VR G ρ s.heap Y v → b = true
  | 0, _, _, _, _, h, _, _ => by cases h
  | n + 1, X, Y, v, b, h, hx, hy => by
    have hL : ∀ (as bs : List V) (vs : List Value) (r : Bool), veqL (veq n H) as bs = some r → VRs G ρ s.heap as vs → VRs G ρ s.heap bs vs → r = true := by
      intro as
      induction as with
      | nil => intro bs vs r h _ _; simpa [veqL] using h
      | cons a as ih =>
        intro bs vs r h h1 h2
        cases bs with
        | nil => simpa [veqL] using h
        | cons b bs =>
          refine bnd1 h fun x q1 h => ?_
          refine bnd1 h fun y q2 h => ?_
          cases h
          simp only [VRs] at h1 h2
          obtain ⟨v1, t1, rfl, a1, a2⟩ := h1
          obtain ⟨v2, t2, e2, b1, b2⟩ := h2
          cases e2
          rw [veq_same R n a b v1 x q1 a1 b1, ih bs t1 y q2 a2 b2]; rfl
    simp only [veq] at h
    split at h
    · simp only [VR] at hx hy
      obtain ⟨t, rfl⟩ := hx; obtain ⟨u, e⟩ := hy
      cases e; cases h; simp
    · simp only [VR] at hx hy
      obtain ⟨a1, i1, n1, rfl, g1, q1⟩ := hx
      obtain ⟨a2, i2, n2, e, g2, q2⟩ := hy
      cases e
      rw [g1] at g2; cases g2
      refine bnd1 h fun x p1 h => ?_
      cases h
      rw [hL _ _ _ _ p1 q1 q2]
      have l1 := q1.length; have l2 := q2.length
      simp; (first | lia | omega)
    · simp only [VR] at hx hy
      obtain ⟨a1, r1, rfl⟩ := hx
      obtain ⟨a2, r2, e⟩ := hy
      cases e
      rw [if_pos (R.inj _ _ _ r1 r2)] at h
      cases h; rfl
    · cases h
set_option tactic.hygienic true in
theorem veq_at {ρ : Rho} {e : AEnv} {H : AHeap} {s : Shared} (R : Rel G Φ ρ e H s) : ∀ (n : Nat) (A : Around) (X Y : V) (v w : Value) (b : Bool), A.units + n < cLine → veq n H X Y = some b → VR G ρ s.heap X v → VR G ρ s.heap Y w → EqAt A s v w b
  | 0, _, _, _, _, _, _, _, h, _, _ => by cases h
  | n + 1, A, X, Y, v, w, b, hu, h, hx, hy => by
    by_cases hvw : v = w
    · subst hvw
      rw [veq_same R _ _ _ _ _ h hx hy]
      exact EqAt.same v
    simp only [veq] at h
    split at h
    · simp only [VR] at hx hy
      obtain ⟨t, rfl⟩ := hx; obtain ⟨u, rfl⟩ := hy
      cases h
      exact EqAt.int_int _ _ _ _
    · rename_i as bs
      simp only [VR] at hx hy
      obtain ⟨a1, i1, n1, rfl, g1, q1⟩ := hx
      obtain ⟨a2, i2, n2, rfl, g2, q2⟩ := hy
      refine bnd1 h fun x p1 h => ?_
      cases h
      obtain ⟨z1, z2⟩ := veqL_e _ _ _ _ p1
      have l1 : i1.size = as.length := by have := q1.length; simpa using this
      have l2 : i2.size = bs.length := by have := q2.length; simpa using this
      refine EqAt.of_refs (fun q => hvw (by rw [q])) ?_
      have := RcAt.tuples (A := A) (e := eOf (veq n H) as bs) (⟨_, g1, rfl, n1, rfl⟩ : s.heap.IsTuple a1 i1) (⟨_, g2, rfl, n2, rfl⟩ : s.heap.IsTuple a2 i2) (by (first | lia | omega)) (fun j h1 h2 => ?_)
      · rw [z2, ← l1, ← l2]; exact this
      · have ha : as[j]? = some as[j] := List.getElem?_eq_getElem (by (first | lia | omega))
        have hb : bs[j]? = some bs[j] := List.getElem?_eq_getElem (by (first | lia | omega))
        obtain ⟨u1, c1, c2⟩ := q1.get ha
        obtain ⟨u2, c3, c4⟩ := q2.get hb
        have e1 : i1[j] = u1 := by rw [Array.getElem?_toList, Array.getElem?_eq_getElem h1] at c1; exact Option.some.inj c1
        have e2 : i2[j] = u2 := by rw [Array.getElem?_toList, Array.getElem?_eq_getElem h2] at c3; exact Option.some.inj c3
        rw [e1, e2]
        exact veq_at R n A.in1 _ _ _ _ _ (by show A.units + 1 + n < cLine; (first | lia | omega)) (z1 j _ _ ha hb) c2 c4
    · rename_i i j
      simp only [VR] at hx hy
      obtain ⟨a1, r1, rfl⟩ := hx
      obtain ⟨a2, r2, rfl⟩ := hy
      split at h
      · rename_i hij
        subst hij
        rw [r1] at r2; cases r2
        exact absurd rfl hvw
      · split at h
        · rename_i as bs ha hb
          obtain ⟨y1, hy1, t1⟩ := thaw_some ha
          obtain ⟨y2, hy2, t2⟩ := thaw_some hb
          obtain ⟨o1, g1, om1⟩ := R.at hy1 r1
          obtain ⟨o2, g2, om2⟩ := R.at hy2 r2
          rw [t1] at om1; rw [t2] at om2
          obtain ⟨i1, n1, rfl, q1⟩ := om1
          obtain ⟨i2, n2, rfl, q2⟩ := om2
          have l1 : i1.size = as.length := by have := q1.length; simpa using this
          have l2 : i2.size = bs.length := by have := q2.length; simpa using this
          have L1 : s.heap.IsList a1 i1 := ⟨_, g1, rfl, n1, rfl⟩
          have L2 : s.heap.IsList a2 i2 := ⟨_, g2, rfl, n2, rfl⟩
          refine EqAt.of_refs (fun q => hvw (by rw [q])) ?_
          split at h
          · rename_i hlen
            obtain ⟨z1, z2⟩ := veqL_e _ _ _ _ h
            have := RcAt.lists (A := A) (e := eOf (veq n H) as bs) L1 L2 (by (first | lia | omega)) (by (first | lia | omega)) (fun j h1 h2 => ?_)
            · rw [z2]
              have hm : min as.length bs.length = i1.size := by (first | lia | omega)
              rw [hm]; exact this
            · have ha : as[j]? = some as[j] := List.getElem?_eq_getElem (by (first | lia | omega))
              have hb : bs[j]? = some bs[j] := List.getElem?_eq_getElem (by (first | lia | omega))
              obtain ⟨u1, c1, c2⟩ := q1.get ha
              obtain ⟨u2, c3, c4⟩ := q2.get hb
              have e1 : i1[j] = u1 := by rw [Array.getElem?_toList, Array.getElem?_eq_getElem h1] at c1; exact Option.some.inj c1
              have e2 : i2[j] = u2 := by rw [Array.getElem?_toList, Array.getElem?_eq_getElem h2] at c3; exact Option.some.inj c3
              rw [e1, e2]
              exact veq_at R n A.in1 _ _ _ _ _ (by show A.units + 1 + n < cLine; (first | lia | omega)) (z1 j _ _ ha hb) c2 c4
          · rename_i hlen
            cases h
            exact RcAt.lists_lengths L1 L2 (by simp; (first | lia | omega)) (by (first | lia | omega))
        · cases h
    · cases h
noncomputable def deq (H : AHeap) : List (Int × V) → List (Int × V) → Option Bool
  | [], _ => some true
  | p :: r, kb => match kvFind kb p.1 with
    | none => some false
    | some y => (veq 6 H p.2 y).bind fun x => (deq H r kb).bind fun z => some (x && z)
set_option tactic.hygienic true in
theorem deq_hits {ρ : Rho} {e : AEnv} {H : AHeap} {s : Shared} (R : Rel G Φ ρ e H s) {A : Around} (hu : A.units + 6 < cLine) {kb : List (Int × V)} {kb' : List (Int × Value)} (hb : KVR G ρ s.heap kb kb') :
    ∀ (ka : List (Int × V)) (ka' : List (Int × Value)) (r : Bool), deq H ka kb = some r → KVR G ρ s.heap ka ka' → KeqHits A s kb' ka' r
  | [], ka', r, h, q => by cases q; simp only [deq, Option.some.injEq] at h; subst h; exact .nil
  | p :: t, ka', r, h, q => by
    obtain ⟨v, t', rfl, q1, q2⟩ := q
    simp only [deq] at h
    have hf := hb.find (k := p.1)
    split at h
    · rename_i hn
      rw [hn] at hf
      cases h
      exact .miss hf
    · rename_i y hy
      rw [hy] at hf
      obtain ⟨u, hu', hyu⟩ := hf
      refine bnd1 h fun x h1 h => ?_
      refine bnd1 h fun z h2 h => ?_
      cases h
      exact .hit hu' (veq_at R 6 A _ _ _ _ _ hu h1 q1 hyu) (deq_hits R hu hb t t' z h2 q2)
noncomputable def cEq : Op2B := fun X Y H => match X, Y with
  | .int a, .int b => some (a == b)
  | .ref i, .ref j => match (H[i]?).map O.thaw, (H[j]?).map O.thaw with
    | some (.list a), some (.list b) => if a.length = b.length then veqL (veq 6 H) a b else some false
    | some (.dict a), some (.dict b) => if a.length = b.length then deq H a b else some false
    | _, _ => none
  | _, _ => none
noncomputable def cNe : Op2B := fun X Y H => (cEq X Y H).map (! ·)
set_option tactic.hygienic true in
theorem cEq_core {X Y : V} {H : AHeap} {x : Bool} (hf : cEq X Y H = some x) {ρ : Rho} {e : AEnv} {s : Shared} (R : Rel G Φ ρ e H s) {v w : Value} (hv : VR G ρ s.heap X v) (hw : VR G ρ s.heap Y w) {d : Nat} {A : Around} (ok : OkA Φ d A) {E : Value → Shared → Prop} :
    (∀ Q : Value → Shared → Prop, Q (.bool x) s → wpAny G.M A (compareOp .Eq v w) Q E s) ∧ (∀ Q : Value → Shared → Prop, Q (.bool (!x)) s → wpAny G.M A (compareOp .NotEq v w) Q E s) := by
  have hcu : A.units + 50 < cLine := by have := ok.2.2.1; unfold cLine; (first | lia | omega)
  unfold cEq at hf
  split at hf
  · simp only [VR] at hv hw
    obtain ⟨t, rfl⟩ := hv; obtain ⟨u, rfl⟩ := hw
    cases hf
    refine ⟨fun Q q => PyProof.Rows.eq_int q, fun Q q => PyProof.Rows.ne_int ?_⟩
    exact q
  · simp only [VR] at hv hw
    obtain ⟨a1, r1, rfl⟩ := hv
    obtain ⟨a2, r2, rfl⟩ := hw
    split at hf
    · rename_i as bs ha hb
      obtain ⟨y1, hy1, t1⟩ := thaw_some ha
      obtain ⟨y2, hy2, t2⟩ := thaw_some hb
      obtain ⟨o1, g1, om1⟩ := R.at hy1 r1
      obtain ⟨o2, g2, om2⟩ := R.at hy2 r2
      rw [t1] at om1; rw [t2] at om2
      obtain ⟨i1, n1, rfl, q1⟩ := om1
      obtain ⟨i2, n2, rfl, q2⟩ := om2
      have l1 : i1.size = as.length := by have := q1.length; simpa using this
      have l2 : i2.size = bs.length := by have := q2.length; simpa using this
      have L1 : s.heap.IsList a1 i1 := ⟨_, g1, rfl, n1, rfl⟩
      have L2 : s.heap.IsList a2 i2 := ⟨_, g2, rfl, n2, rfl⟩
      split at hf
      · rename_i hlen
        obtain ⟨z1, z2⟩ := veqL_e _ _ _ _ hf
        have he : ∀ j (h1 : j < i1.size) (h2 : j < i2.size), EqAt A.in1 s i1[j] i2[j] (eOf (veq 6 H) as bs j) := fun j h1 h2 => by
          have ha : as[j]? = some as[j] := List.getElem?_eq_getElem (by (first | lia | omega))
          have hb : bs[j]? = some bs[j] := List.getElem?_eq_getElem (by (first | lia | omega))
          obtain ⟨u1, c1, c2⟩ := q1.get ha
          obtain ⟨u2, c3, c4⟩ := q2.get hb
          have e1 : i1[j] = u1 := by rw [Array.getElem?_toList, Array.getElem?_eq_getElem h1] at c1; exact Option.some.inj c1
          have e2 : i2[j] = u2 := by rw [Array.getElem?_toList, Array.getElem?_eq_getElem h2] at c3; exact Option.some.inj c3
          rw [e1, e2]
          exact veq_at R 6 A.in1 _ _ _ _ _ (by show A.units + 1 + 6 < cLine; (first | lia | omega)) (z1 j _ _ ha hb) c2 c4
        have hm : min as.length bs.length = i1.size := by (first | lia | omega)
        rw [hm] at z2
        exact ⟨fun Q q => eq_listAt L1 L2 (by (first | lia | omega)) (by (first | lia | omega)) he (by rw [← z2]; exact q), fun Q q => RcNeAt.lists L1 L2 (by (first | lia | omega)) (by (first | lia | omega)) he G.prog G.w E Q (by rw [← z2]; exact q)⟩
      · rename_i hlen
        cases hf
        exact ⟨fun Q q => eq_list_lengthsAt L1 L2 (by simp; (first | lia | omega)) (by (first | lia | omega)) q, fun Q q => RcNeAt.lists_lengths L1 L2 (by simp; (first | lia | omega)) (by (first | lia | omega)) G.prog G.w E Q q⟩
    · rename_i ka kb ha hb
      obtain ⟨y1, hy1, t1⟩ := thaw_some ha
      obtain ⟨y2, hy2, t2⟩ := thaw_some hb
      obtain ⟨ka', Da, qa, _⟩ := R.dictOf hy1 t1 r1
      obtain ⟨kb', Db, qb, _⟩ := R.dictOf hy2 t2 r2
      have la := qa.length
      have lb := qb.length
      split at hf
      · rename_i hlen
        have hits := deq_hits R (A := A.in1) (by show A.units + 1 + 6 < cLine; (first | lia | omega)) qb _ _ _ hf qa
        have hb1 : (ka'.length == kb'.length) = true := by rw [la, lb, hlen]; simp
        refine ⟨fun Q q => keq_eq (R.lo _ _ r1).2 (R.lo _ _ r2).2 Da Db (by (first | lia | omega)) (fun _ => hits) (by rw [hb1]; exact q), fun Q q => keq_ne (R.lo _ _ r1).2 (R.lo _ _ r2).2 Da Db (by (first | lia | omega)) (fun _ => hits) (by rw [hb1]; exact q)⟩
      · rename_i hlen
        cases hf
        have hne : ka'.length ≠ kb'.length := by rw [la, lb]; exact hlen
        have hb1 : (ka'.length == kb'.length) = false := beq_false_of_ne hne
        refine ⟨fun Q q => keq_eq (r := true) (R.lo _ _ r1).2 (R.lo _ _ r2).2 Da Db (by (first | lia | omega)) (fun h => absurd h hne) (by rw [hb1]; exact q), fun Q q => keq_ne (r := true) (R.lo _ _ r1).2 (R.lo _ _ r2).2 Da Db (by (first | lia | omega)) (fun h => absurd h hne) (by rw [hb1]; exact q)⟩
    · first | exact nn hf | exact nf hf | cases hf
  · first | exact nn hf | exact nf hf | cases hf
theorem cEq_ok {d : Nat} : Op2RB G d (compareOp .Eq) cEq := by
  intro X Y v w Φ e H x hf ρ s R hv hw A E ok
  exact (cEq_core hf R hv hw ok).1 _ ⟨R, Ext.refl .., rfl⟩
theorem cNe_ok {d : Nat} : Op2RB G d (compareOp .NotEq) cNe := by
  intro X Y v w Φ e H x hf ρ s R hv hw A E ok
  refine hide fun PQ hpq => ?_
  obtain ⟨b, hb, rfl⟩ := Option.map_eq_some_iff.mp hf
  refine hpq ?_
  exact (cEq_core hb R hv hw ok).2 _ ⟨R, Ext.refl .., rfl⟩
end
end Mine
end
section
set_option tactic.hygienic false
open PySem PySem.W PyProof.Rows PySem.Calls PySem.SeqAt
namespace Mine
section
variable {G : Gl} {Φ : Frm}
theorem ints_inj {vs : List Value} {ns ms : List Int} (h : IntsAre vs ns) (h2 : IntsAre vs ms) : ns = ms := by
  induction h generalizing ms with
  | nil => cases h2; rfl
  | cons _ _ a ih =>
    cases h2 with
    | cons _ _ b => rw [ih b]
noncomputable def V.key : V → Nat
  | .none => 0
  | .bool _ => 1
  | .int _ => 2
  | .tup _ => 4
  | .ref _ => 3
  | .ext _ => 5
  | .rng _ _ _ => 6
  | .view _ _ => 7
noncomputable def tyKey (T : String) : Nat := if T = "tuple" then 4 else if T = "list" then 5 else if T = "range" then 6 else 7
noncomputable def clsKey : Value → Nat
  | .type T => tyKey T
  | _ => 0
open Classical in
noncomputable def valKey (ρ : Rho) (h : Heap) : Value → Nat
  | .none => 0
  | .bool _ => 1
  | .int _ _ => 2
  | .ref a => if ∃ i, ρ i = some a then 3 else ((h.get? a).map fun o => clsKey o.cls).getD 0
  | _ => 0
open Classical in
theorem valKey_ref {ρ : Rho} {h : Heap} {a : Addr} {o : Obj} {n : Nat} (h1 : ∀ i, ρ i ≠ some a) (h2 : h.get? a = some o) (h3 : clsKey o.cls = n) : valKey ρ h (.ref a) = n := by
  show (if ∃ i, ρ i = some a then 3 else ((h.get? a).map fun o => clsKey o.cls).getD 0) = n
  rw [if_neg (fun ⟨i, hi⟩ => h1 i hi), h2]
  exact h3
theorem key_ne {α : Prop} {a b : Nat} (h : a = b) (q : Nat.beq a b = false) : α := by
  subst h
  rw [Nat.beq_refl] at q
  cases q
set_option tactic.hygienic true in
theorem VR_key {ρ : Rho} {e : AEnv} {H : AHeap} {s : Shared} (R : Rel G Φ ρ e H s) {X : V} {v : Value} (hx : VR G ρ s.heap X v) : valKey ρ s.heap v = X.key := by
  cases X <;> simp only [VR] at hx
  · cases hx; rfl
  · cases hx; rfl
  · obtain ⟨_, rfl⟩ := hx; rfl
  · obtain ⟨a, its, n, rfl, g, _⟩ := hx
    exact valKey_ref (R.immFree (imm_tup _ _) g).1 g rfl
  · obtain ⟨a, q, rfl⟩ := hx
    exact if_pos ⟨_, q⟩
  · obtain ⟨a, vs, rfl, ⟨o, ho, hc, _⟩, _⟩ := hx
    exact valKey_ref (fun i q => by rw [(R.lo _ _ q).1] at ho; cases ho) (R.base _ _ ho) (by rw [hc]; rfl)
  · obtain ⟨r, _, _, _, rfl, g⟩ := hx
    exact valKey_ref (R.immFree (imm_rng _ _ _) g).1 g rfl
  · rename_i k i
    obtain ⟨r, a, rfl, _, g⟩ := hx
    exact valKey_ref (R.immFree (imm_view _ _) g).1 g (by cases k <;> rfl)
theorem key_none {Y : V} (k : 0 = Y.key) : Y = .none := by
  cases Y <;> first | exact key_ne k rfl | exact rfl
theorem key_bool {Y : V} (k : 1 = Y.key) : ∃ b, Y = .bool b := by
  cases Y <;> first | exact key_ne k rfl | exact ⟨_, rfl⟩
theorem key_int {Y : V} (k : 2 = Y.key) : ∃ i, Y = .int i := by
  cases Y <;> first | exact key_ne k rfl | exact ⟨_, rfl⟩
theorem key_tup {Y : V} (k : 4 = Y.key) : ∃ l, Y = .tup l := by
  cases Y <;> first | exact key_ne k rfl | exact ⟨_, rfl⟩
theorem key_ref {Y : V} (k : 3 = Y.key) : ∃ i, Y = .ref i := by
  cases Y <;> first | exact key_ne k rfl | exact ⟨_, rfl⟩
theorem key_ext {Y : V} (k : 5 = Y.key) : ∃ l, Y = .ext l := by
  cases Y <;> first | exact key_ne k rfl | exact ⟨_, rfl⟩
theorem key_rng {Y : V} (k : 6 = Y.key) : ∃ a b c, Y = .rng a b c := by
  cases Y <;> first | exact key_ne k rfl | exact ⟨_, _, _, rfl⟩
theorem key_view {Y : V} (k : 7 = Y.key) : ∃ k i, Y = .view k i := by
  cases Y <;> first | exact key_ne k rfl | exact ⟨_, _, rfl⟩
mutual
theorem VR_inj {ρ : Rho} {e : AEnv} {H : AHeap} {s : Shared} (R : Rel G Φ ρ e H s) : ∀ (X Y : V) (v : Value), VR G ρ s.heap X v → VR G ρ s.heap Y v → X = Y
  | X, Y, v, hx, hy => by
    have k := (VR_key R hx).symm.trans (VR_key R hy)
    cases X with
    | none => exact (key_none k).symm
    | bool =>
      obtain ⟨_, rfl⟩ := key_bool k
      simp only [VR] at hx hy
      cases hx; cases hy; rfl
    | int =>
      obtain ⟨_, rfl⟩ := key_int k
      simp only [VR] at hx hy
      obtain ⟨_, rfl⟩ := hx
      obtain ⟨_, q⟩ := hy
      cases q; rfl
    | tup vs =>
      obtain ⟨_, rfl⟩ := key_tup k
      simp only [VR] at hx hy
      obtain ⟨a, its, n, rfl, g, q⟩ := hx
      obtain ⟨a2, its2, n2, e2, g2, q2⟩ := hy
      cases e2
      rw [g] at g2; cases g2
      rw [VRs_inj R vs _ _ q q2]
    | ref =>
      obtain ⟨_, rfl⟩ := key_ref k
      simp only [VR] at hx hy
      obtain ⟨a, r, rfl⟩ := hx
      obtain ⟨a2, r2, e2⟩ := hy
      cases e2
      rw [R.inj _ _ _ r r2]
    | ext =>
      obtain ⟨_, rfl⟩ := key_ext k
      simp only [VR] at hx hy
      obtain ⟨a, vs, rfl, ⟨o, ho, hc, n, hd⟩, hi⟩ := hx
      obtain ⟨a2, vs2, e2, ⟨o2, ho2, hc2, n2, hd2⟩, hi2⟩ := hy
      cases e2
      rw [ho] at ho2; cases ho2
      rw [hd] at hd2
      have : vs.toArray = vs2.toArray := by injection hd2
      obtain rfl : vs = vs2 := by simpa using this
      rw [ints_inj hi hi2]
    | rng =>
      obtain ⟨_, _, _, rfl⟩ := key_rng k
      simp only [VR] at hx hy
      obtain ⟨a, t1, t2, t3, rfl, g⟩ := hx
      obtain ⟨r', _, _, _, e2, g2⟩ := hy
      cases e2
      rw [g] at g2; cases g2; rfl
    | view b i =>
      obtain ⟨b', j, rfl⟩ := key_view k
      simp only [VR] at hx hy
      obtain ⟨a, b1, rfl, hr, g⟩ := hx
      obtain ⟨r', a2, e2, hr2, g2⟩ := hy
      cases e2
      rw [g] at g2
      have g3 := Option.some.inj g2
      have hk : b = b' := by
        injection congrArg Obj.cls g3 with q
        cases b <;> cases b' <;> first | rfl | (exact absurd q (by decide))
      subst hk
      have ha : b1 = a2 := by
        injection g3 with _ _ h3
        injection h3 with h4
        have h5 : [Value.ref b1] = [Value.ref a2] := congrArg Array.toList h4
        injection h5 with h6
        injection h6
      subst ha
      rw [R.inj _ _ _ hr hr2]
theorem VRs_inj {ρ : Rho} {e : AEnv} {H : AHeap} {s : Shared} (R : Rel G Φ ρ e H s) : ∀ (Xs Ys : List V) (vs : List Value), VRs G ρ s.heap Xs vs → VRs G ρ s.heap Ys vs → Xs = Ys
  | [], Ys, vs, hx, hy => by
    obtain rfl := VRs_nil hx
    have := hy.length
    cases Ys with
    | nil => rfl
    | cons => simp at this
  | X :: Xs, Ys, vs, hx, hy => by
    simp only [VRs] at hx
    obtain ⟨v, t, rfl, q1, q2⟩ := hx
    cases Ys with
    | nil => have := VRs_nil hy; cases this
    | cons Y Ys =>
      simp only [VRs] at hy
      obtain ⟨v', t', e', p1, p2⟩ := hy
      cases e'
      rw [VR_inj R X Y v q1 p1, VRs_inj R Xs Ys t q2 p2]
end
end
end Mine
end
section
set_option tactic.hygienic false
open PySem PySem.W PyProof.Rows PySem.Calls PySem.SeqAt
namespace Mine
noncomputable def anyEq (H : AHeap) (X : V) : List V → Option Bool
  | [] => some false
  | Y :: r => (veq 6 H Y X).bind fun a => (anyEq H X r).bind fun b => some (a || b)
noncomputable def vIn (X Y : V) (H : AHeap) : Option Bool := match Y with
  | .ref i => match (H[i]?).map O.thaw with
    | some (.list vs) => anyEq H X vs
    | some (.dict kvs) => match X with
      | .int k => some (kvFind kvs k).isSome
      | _ => none
    | some (.set xs) => match X with
      | .int k => some (decide (k ∈ xs))
      | _ => none
    | _ => none
  | _ => none
theorem anyEq_each {H : AHeap} {X : V} : ∀ {vs : List V} {r : Bool}, anyEq H X vs = some r → (∀ Y ∈ vs, ∃ b, veq 6 H Y X = some b) ∧ r = vs.any (fun Y => (veq 6 H Y X).getD false)
  | [], r, h => by simp only [anyEq, Option.some.injEq] at h; exact ⟨fun Y hY => (by cases hY), by simp [← h]⟩
  | Y :: vs, r, h => by
    obtain ⟨a, h1, h⟩ := Option.bind_eq_some_iff.mp h
    obtain ⟨b, h2, h⟩ := Option.bind_eq_some_iff.mp h
    cases h
    obtain ⟨i1, i2⟩ := anyEq_each h2
    refine ⟨fun Z hZ => ?_, ?_⟩
    · rcases List.mem_cons.mp hZ with rfl | hZ
      · exact ⟨a, h1⟩
      · exact i1 Z hZ
    · simp [List.any_cons, h1, ← i2]
section
variable {G : Gl} {Φ : Frm} {d : Nat}
theorem VRs_mem {ρ : Rho} {h : Heap} : ∀ {Xs : List V} {vs : List Value} {v : Value}, VRs G ρ h Xs vs → v ∈ vs → ∃ X ∈ Xs, VR G ρ h X v
  | [], _, v, q, hv => by rw [VRs_nil q] at hv; cases hv
  | X :: Xs, _, v, q, hv => by
    simp only [VRs] at q
    refine exE2 q fun u t h3 => andE3 h3 fun e3_0 q1 q2 => ?_
    subst e3_0
    rcases List.mem_cons.mp hv with rfl | hv
    · exact ⟨X, .head _, q1⟩
    · refine exE1 (VRs_mem q2 hv) fun Y h4 => andE2 h4 fun a b => ?_
      exact ⟨Y, .tail _ a, b⟩
open Classical in
set_option tactic.hygienic true in
theorem vIn_core {X Y : V} {H : AHeap} {x : Bool} (hf : vIn X Y H = some x) {ρ : Rho} {e : AEnv} {s : Shared} (R : Rel G Φ ρ e H s) {v w : Value} (hv : VR G ρ s.heap X v) (hw : VR G ρ s.heap Y w) {d : Nat} {A : Around} (ok : OkA Φ d A) {E : Value → Shared → Prop} :
    (∀ Q : Value → Shared → Prop, (∀ tk, Q (.bool x) { s with toks := tk }) → wpAny G.M A (compareOp .In v w) Q E s) ∧ (∀ Q : Value → Shared → Prop, (∀ tk, Q (.bool (!x)) { s with toks := tk }) → wpAny G.M A (compareOp .NotIn v w) Q E s) := by
  have hcu : A.units + 50 < cLine := by have := ok.2.2.1; unfold cLine; (first | lia | omega)
  unfold vIn at hf
  split at hf
  · rename_i i
    simp only [VR] at hw
    refine exE1 hw fun a h5 => andE2 h5 fun ha e5_1 => ?_
    subst e5_1
    split at hf
    · rename_i vs hq
      refine exE1 (thaw_some hq) fun y h6 => andE2 h6 fun hy hyt => ?_
      obtain ⟨o, g, om⟩ := R.at hy ha
      rw [hyt] at om
      refine exE2 om fun its n h8 => andE2 h8 fun e8_0 hvs => ?_
      subst e8_0
      obtain ⟨z1, z2⟩ := anyEq_each hf
      have hL : s.heap.IsList a its := ⟨_, g, rfl, n, rfl⟩
      let ev : Value → Bool := fun u => if h : ∃ Z ∈ vs, VR G ρ s.heap Z u then (veq 6 H h.choose X).getD false else false
      have hev : ∀ Z ∈ vs, ∀ u, VR G ρ s.heap Z u → ev u = (veq 6 H Z X).getD false := fun Z hZ u hu => by
        have hex : ∃ Z ∈ vs, VR G ρ s.heap Z u := ⟨Z, hZ, hu⟩
        show (if h : ∃ Z ∈ vs, VR G ρ s.heap Z u then (veq 6 H h.choose X).getD false else false) = _
        rw [dif_pos hex, VR_inj R _ _ _ hex.choose_spec.2 hu]
      have he : ∀ u, u ∈ its → EqAt A.in1 s u v (ev u) := fun u hu => by
        refine exE1 (VRs_mem hvs (by simpa using hu)) fun Z h10 => andE2 h10 fun hZ hZu => ?_
        obtain ⟨b, hb⟩ := z1 Z hZ
        rw [hev Z hZ u hZu, hb]
        exact veq_at R 6 A.in1 _ _ _ _ _ (by show A.units + 1 + 6 < cLine; (first | lia | omega)) hb hZu hv
      have hany : its.any ev = x := by
        rw [z2, ← Array.any_toList]
        generalize its.toList = l at hvs
        clear hf z2 z1 he g hL hq hy hyt
        have : ∀ (ws : List V) (l : List Value), (∀ Z ∈ ws, Z ∈ vs) → VRs G ρ s.heap ws l → l.any ev = ws.any (fun Y => (veq 6 H Y X).getD false) := by
          intro ws
          induction ws with
          | nil => intro l _ q; rw [VRs_nil q]; rfl
          | cons Z ws ih =>
            intro l hsub q
            simp only [VRs] at q
            refine exE2 q fun u t h12 => andE3 h12 fun e12_0 q1 q2 => ?_
            subst e12_0
            rw [List.any_cons, List.any_cons, ih t (fun Z' h' => hsub Z' (.tail _ h')) q2, hev Z (hsub Z (.head _)) u q1]
        exact this vs l (fun _ h => h) hvs
      exact ⟨fun Q q => in_listAt ev hL he (by rw [hany]; exact q s.toks), fun Q q => notIn_listAt ev hL he (by rw [hany]; exact q s.toks)⟩
    · rename_i kvs hq
      refine iInt hf fun k hX hf => ?_
      subst hX
      cases hf
      simp only [VR] at hv
      obtain ⟨t, rfl⟩ := hv
      refine exE1 (thaw_some hq) fun y h14 => andE2 h14 fun hy hyt => ?_
      refine exE1 (R.dictOf hy hyt ha) fun kvs' h15 => andE3 h15 fun hD hkv hn => ?_
      have hfind : (valueAt kvs' k).isSome = (kvFind kvs k).isSome := by
        have := hkv.find (k := k)
        cases hz : kvFind kvs k with
        | none => rw [hz] at this; rw [this]; rfl
        | some z => rw [hz] at this; obtain ⟨u, hu, _⟩ := this; rw [hu]; rfl
      exact ⟨fun Q q => wpAny_in_of (k := k) (by simp [PySem.intKind, Value.isInt]) (R.lo _ _ ha).2 hD.mapOf (by rw [hfind]; exact q _), fun Q q => wpAny_notIn_of (k := k) (by simp [PySem.intKind, Value.isInt]) (R.lo _ _ ha).2 hD.mapOf (by rw [hfind]; exact q _)⟩
    · rename_i xs hq
      refine iInt hf fun k hX hf => ?_
      subst hX
      cases hf
      simp only [VR] at hv
      obtain ⟨t, rfl⟩ := hv
      refine exE1 (thaw_some hq) fun y h17 => andE2 h17 fun hy hyt => ?_
      refine exE1 (R.at hy ha) fun o h18 => andE2 h18 fun g om => ?_
      rw [hyt] at om
      refine exE3 om fun es ep tb h19 => andE7 h19 fun d1 d2 d3 d4 d5 d6 d7 => ?_
      have hS : s.heap.SetOf (PySem.intKind G.prog G.w) a (fun k => decide (k ∈ xs)) xs.length := ⟨o, es, ep, tb, g, d1, d2, d3, d4, d5, d6, d7⟩
      exact ⟨fun Q q => wpAny_inSet_of (k := k) (by simp [PySem.intKind, Value.isInt]) rfl hS (q _), fun Q q => wpAny_notInSet_of (k := k) (by simp [PySem.intKind, Value.isInt]) rfl hS (q _)⟩
    · first | exact nn hf | exact nf hf | cases hf
  · first | exact nn hf | exact nf hf | cases hf
noncomputable def cIn : Op2B := vIn
noncomputable def cNotIn : Op2B := fun X Y H => (vIn X Y H).map (! ·)
theorem cIn_ok : Op2RB G d (compareOp .In) cIn := by
  intro X Y v w Φ e H x hf ρ s R hv hw A E ok
  exact (vIn_core hf R hv hw ok).1 _ fun tk => ⟨(R.toks tk).1, (R.toks tk).2, rfl⟩
theorem cNotIn_ok : Op2RB G d (compareOp .NotIn) cNotIn := by
  intro X Y v w Φ e H x hf ρ s R hv hw A E ok
  refine exE1 (Option.map_eq_some_iff.mp hf) fun b h20 => andE2 h20 fun hb e20_1 => ?_
  subst e20_1
  exact (vIn_core hb R hv hw ok).2 _ fun tk => ⟨(R.toks tk).1, (R.toks tk).2, rfl⟩
noncomputable def oAdd : Op2 := fun X Y H => match X, Y with
  | .int a, .int b => some (.int (a + b), H)
  | .ref i, .ref j => match (H[i]?).map O.thaw, (H[j]?).map O.thaw with
    | some (.list a), some (.list b) => if a.length + b.length ≤ 100000 then some (.ref H.length, H ++ [.list (a ++ b)]) else none
    | _, _ => none
  | .tup (a :: as), .tup (b :: bs) => if as.length + bs.length ≤ 100000 then some (.tup ((a :: as) ++ (b :: bs)), H) else none
  | _, _ => none
set_option tactic.hygienic true in
theorem oAdd_ok : Op2R G d (binaryOp .Add) oAdd := by
  intro X Y v w Φ e H Z H' hf ρ s R hP A E ok
  refine hide fun PQ hpq => ?_
  obtain ⟨hv, hw⟩ := hP
  unfold oAdd at hf
  split at hf
  · first | exact nn hf | exact nf hf | cases hf
    simp only [VR] at hv hw
    obtain ⟨t, rfl⟩ := hv; obtain ⟨u, rfl⟩ := hw
    refine andE2 (R.toks (s.toks + 1)) fun R' X' => ?_
    refine hpq ?_
    exact PyProof.Rows.add_int ⟨ρ, R', X', VR.int _ _⟩
  · simp only [VR] at hv hw
    obtain ⟨a1, r1, rfl⟩ := hv; obtain ⟨a2, r2, rfl⟩ := hw
    split at hf
    · rename_i as bs ha hb
      split at hf
      · rename_i hl
        cases hf
        refine exE1 (thaw_some ha) fun y1 h23 => andE2 h23 fun hy1 t1 => ?_
        refine exE1 (thaw_some hb) fun y2 h24 => andE2 h24 fun hy2 t2 => ?_
        obtain ⟨o1, g1, om1⟩ := R.at hy1 r1
        obtain ⟨o2, g2, om2⟩ := R.at hy2 r2
        rw [t1] at om1; rw [t2] at om2
        refine exE2 om1 fun i1 n1 h27 => andE2 h27 fun e27_0 q1 => ?_
        subst e27_0
        refine exE2 om2 fun i2 n2 h28 => andE2 h28 fun e28_0 q2 => ?_
        subst e28_0
        have l1 : i1.size = as.length := by have := q1.length; simpa using this
        have l2 : i2.size = bs.length := by have := q2.length; simpa using this
        refine hpq ?_
        refine P.add_list g1 g2 ?_ (by rw [l1, l2]; exact size_le hl)
        have hvs : VRs G ρ s.heap (as ++ bs) (i1 ++ i2).toList := by simpa using q1.append q2
        refine exE1 (R.newList hvs s.toks) fun ρ' h29 => andE3 h29 fun R' X' hr => ?_
        simp only [Array.toArray_toList] at R' X'
        exact ⟨ρ', R', X', VR.ref hr⟩
      · first | exact nn hf | exact nf hf | cases hf
    · first | exact nn hf | exact nf hf | cases hf
  · rename_i a as b bs
    split at hf
    · rename_i hl
      cases hf
      simp only [VR] at hv hw
      refine exE3 hv fun a1 i1 n1 h30 => andE3 h30 fun e30_0 g1 q1 => ?_
      subst e30_0
      refine exE3 hw fun a2 i2 n2 h31 => andE3 h31 fun e31_0 g2 q2 => ?_
      subst e31_0
      have l1 : i1.size = (a :: as).length := by have := q1.length; simpa using this
      have l2 : i2.size = (b :: bs).length := by have := q2.length; simpa using this
      refine hpq ?_
      refine P.add_tuple g1 g2 (by simp [Array.isEmpty, l1]) (by simp [Array.isEmpty, l2]) ?_ (by rw [l1, l2, sizeLine_eq]; simp; (first | lia | omega))
      refine andE2 (R.junk (h' := s.heap.push { cls := .type "tuple", data := .seq (i1 ++ i2) }) s.toks (fun b o q => Heap.get?_push_of_some _ q)) fun R' X' => ?_
      refine ⟨ρ, R', X', ?_⟩
      simp only [VR]
      refine exI3 _ (i1 ++ i2) 0 ⟨rfl, Heap.get?_push_size _ rfl, ?_⟩
      have hvs : VRs G ρ s.heap ((a :: as) ++ (b :: bs)) (i1 ++ i2).toList := by simpa using q1.append q2
      exact X'.vrs R hvs
    · first | exact nn hf | exact nf hf | cases hf
  · first | exact nn hf | exact nf hf | cases hf
noncomputable def oSetAdd : MOp := fun X Ys H => match X, Ys with
  | .ref i, [.int k] => match H[i]? with
    | some (.set xs) => if xs.length + 1 < scanBound then some (.none, H.set i (.set (if k ∈ xs then xs else xs ++ [k]))) else none
    | _ => none
  | _, _ => none
set_option tactic.hygienic true in
theorem oSetAdd_ok : MOpR G d "set.add" oSetAdd := by
  intro X Ys v ws Φ e H x H' hf ρ s R hP A E ok
  refine hide fun PQ hpq => ?_
  obtain ⟨hv, hws⟩ := hP
  unfold oSetAdd at hf
  split at hf
  · rename_i i k
    simp only [VR] at hv; obtain ⟨a, ha, rfl⟩ := hv
    obtain ⟨w, rfl, hw⟩ := VRs_one hws
    simp only [VR] at hw; obtain ⟨t, rfl⟩ := hw
    refine iSet hf fun xs hq hf => ?_
    split at hf
    · rename_i hl
      cases hf
      refine exE1 (R.at hq ha) fun o h35 => andE2 h35 fun g om => ?_
      refine exE3 om fun es ep tb h36 => andE7 h36 fun d1 d2 d3 d4 d5 d6 d7 => ?_
      have hS : s.heap.SetOf (PySem.intKind G.prog G.w) a (fun k => decide (k ∈ xs)) xs.length := ⟨o, es, ep, tb, g, d1, d2, d3, d4, d5, d6, d7⟩
      refine hpq ?_
      refine call_set_add (k := k) (by simp [PySem.intKind, Value.isInt]) rfl hS hl fun h' hsb hS' => ?_
      refine hide fun PQ2 hpq2 => ?_
      refine exE4 hS' fun o' es' ep' tb' h37 => andE8 h37 fun g' e1 e2 e3 e4 e5 e6 e7 => ?_
      have := R.upd (h' := h') (x' := .set (if k ∈ xs then xs else xs ++ [k])) (o' := o') (s.toks + 1) ha hq rfl rfl g' (fun b o hb q => hsb.extBut b o hb q)
        (fun h1 h2 => ⟨es', ep', tb', e1, e2, e3, fun k' => by
          rw [← e4 k']
          by_cases hk : k ∈ xs
          · simp only [hk, if_true]
            by_cases hkk : k' = k
            · subst hkk; simp [hk]
            · simp [hkk]
          · simp [hk], e5, e6, by
          rw [e7]
          by_cases hk : k ∈ xs <;> simp [hk]⟩)
      refine hpq2 ?_
      exact ⟨ρ, this.1, this.2, VR.none⟩
    · first | exact nn hf | exact nf hf | cases hf
  · first | exact nn hf | exact nf hf | cases hf
theorem kvDel_without {ρ : Rho} {h : Heap} : ∀ {x : List (Int × V)} {l : List (Int × Value)} {k : Int}, KVR G ρ h x l → (l.map (·.1)).Nodup → KVR G ρ h (kvDel x k) (without l k)
  | [], _, k, q, _ => by cases q; rfl
  | x :: r, l, k, q, hn => by
    refine exE2 q fun v t h38 => andE3 h38 fun e38_0 q1 q2 => ?_
    subst e38_0
    simp only [List.map_cons, List.nodup_cons] at hn
    have ih := kvDel_without (k := k) q2 hn.2
    unfold kvDel
    by_cases hk : x.1 = k
    · have : without ((x.1, v) :: t) k = t := by
        unfold without
        rw [List.filter_cons]
        have h2 : t.filter (fun kv => decide (kv.1 ≠ k)) = t := List.filter_eq_self.mpr fun p hp => by
          have : p.1 ≠ k := fun e => hn.1 (by rw [hk, ← e]; exact List.mem_map_of_mem hp)
          simp [this]
        simp only [hk, ne_eq, not_true, decide_false, Bool.false_eq_true, if_false]
        exact h2
      rw [this, if_pos hk]
      exact q2
    · have : without ((x.1, v) :: t) k = (x.1, v) :: without t k := by
        unfold without
        rw [List.filter_cons]
        simp [hk]
      rw [this, if_neg hk]
      exact exI2 v _ ⟨rfl, q1, ih⟩
noncomputable def oDel (X Y : V) (H : AHeap) : Option AHeap := match X, Y with
  | .ref i, .int k => match H[i]? with
    | some (.dict kvs) => if kvs.length ≤ 100000 ∧ (kvFind kvs k).isSome = true then some (H.set i (.dict (kvDel kvs k))) else none
    | _ => none
  | _, _ => none
set_option tactic.hygienic true in
theorem delItem_ok {X Y : V} {H H' : AHeap} (hf : oDel X Y H = some H') {ρ : Rho} {e : AEnv} {s : Shared} (R : Rel G Φ ρ e H s) {v w : Value} (hv : VR G ρ s.heap X v) (hw : VR G ρ s.heap Y w) {A : Around} {E : Value → Shared → Prop} {Q : Unit → Shared → Prop}
    (k : ∀ s', Rel G Φ ρ e H' s' → Ext Φ ρ H s ρ H' s' → Q () s') : wpAny G.M A (delItem v w) Q E s := by
  unfold oDel at hf
  split at hf
  · rename_i i k'
    simp only [VR] at hv hw
    obtain ⟨a, ha, rfl⟩ := hv
    obtain ⟨t, rfl⟩ := hw
    refine iDict hf fun kvs hq hf => ?_
    split at hf
    · rename_i hl
      cases hf
      refine exE1 (R.dictOf hq rfl ha) fun kvs' h41 => andE3 h41 fun hD hkv hn => ?_
      have hfind : (valueAt kvs' k').isSome = true := by
        have := hkv.find (k := k')
        cases hz : kvFind kvs k' with
        | none => rw [hz] at hl; cases hl.2
        | some z => rw [hz] at this; obtain ⟨u, hu, _⟩ := this; rw [hu]; rfl
      unfold delItem
      try with_reducible refine wpAny_holding ?_
      refine wpAny_bind (wpAny_sequenceKey hD.typeIs (by decide) ?_)
      refine wpAny_bind (wpAny_callSpecial?_slot (name := Str.ofString "__delitem__") hD.typeIs PySem.F.slot_dict_delitem
        (call_meetsIn PySem.F.slot_dict_delitem hD.typeIs PySem.F.entry_dict_delitem (PySem.F.args_dict_delitem_2 _ _) (meets_dict_delitem_pairs (PySem.intKind G.prog G.w) a (by simp [PySem.intKind, Value.isInt] : (PySem.intKind G.prog G.w).is k' _ = true)) ⟨kvs', hD, size_le (by rw [hkv.length]; exact hl.1), hfind, fun h' hmm hs => ?_⟩))
      refine exE1 (Heap.dictOf_iff.mp hmm) fun o' h42 => andE2 h42 fun g' hd' => ?_
      have := R.upd (h' := h') (x' := .dict (kvDel kvs k')) (o' := o') (s.toks + 1) ha hq rfl rfl g' (fun b o hb q => hs.extBut b o hb q)
        (fun h1 h2 => ⟨_, hd', KVR.mono h1 _ _ (kvDel_without hkv hn)⟩)
      exact wpAny_pure (k _ this.1 this.2)
    · first | exact nn hf | exact nf hf | cases hf
  · first | exact nn hf | exact nf hf | cases hf
noncomputable def mDel (f g : PM V) : PM Flw := fun e H => (f e H).bind fun r => (g r.2.1 r.2.2).bind fun q => (oDel r.1 q.1 q.2.2).bind fun H' => some (.next, q.2.1, H')
theorem st_del {o i : Expr} {p pos : Pos} {f g : PM V} (h1 : SndE G Φ d (eval o Φ.env) f) (h2 : SndE G Φ d (eval i Φ.env) g) : SndF G Φ d (exec (.Delete [.Subscript o i p] pos) Φ.env) (mDel f g) := by
  intro e H X e' H' hf ρ s R A E ok
  obtain ⟨⟨X₁, e₁, H₁⟩, f1, hf⟩ := Option.bind_eq_some_iff.mp hf
  obtain ⟨⟨X₂, e₂, H₂⟩, f2, hf⟩ := Option.bind_eq_some_iff.mp hf
  obtain ⟨H₃, f3, hf⟩ := Option.bind_eq_some_iff.mp hf
  cases hf
  refine wpAny_Delete (wpAny_deleteEach_cons (wpAny_delete_Subscript (run_two h1 h2 f1 f2 R ok fun v w ρ₂ s₂ R₂ X₂ v₁ v₂ => ?_)))
  exact delItem_ok f3 R₂ v₁ v₂ fun s₃ R₃ X₃ => wpAny_deleteEach_nil ⟨ρ₂, R₃, X₂.trans X₃, rfl⟩
end
end Mine
end
section
set_option tactic.hygienic false
open PySem PySem.W PyProof.Rows PySem.Calls PySem.SeqAt
namespace Mine
noncomputable abbrev FOp := List V → AHeap → Option (V × AHeap)
noncomputable def eFun (g : PM (List V)) (op : FOp) : PM V := fun e H => (g e H).bind fun q => (op q.1 q.2.2).bind fun z => some (z.1, q.2.1, z.2)
noncomputable def FOpR (G : Gl) (d : Nat) (f : Value) (op : FOp) : Prop :=
  ∀ Ys ws, SndO G d (fun ρ h x y => VR G ρ h x y) (fun ρ h => VRs G ρ h Ys ws) (call f ws) (op Ys)
structure FOkG (Φ : Frm) : Prop where
  glob : Φ.env.globals = mainGlobals
  blt : Φ.env.builtins = builtinsNs
section
variable {G : Gl} {Φ : Frm} {d : Nat}
theorem load_bi (gok : GOk G) (fo : FOk Φ) (fg : FOkG Φ) {x : Str} {pos : Pos} {f : Value} (hx : Φ.env.kindOf x = some .globalImplicit) (hg : G.mg x = none) (hb : bootBuiltins x = some f) (hn : x ≠ "__name__") (hd : (x == ("__debug__" : Str)) = false)
    {ρ : Rho} {e : AEnv} {H : AHeap} {s : Shared} (R : Rel G Φ ρ e H s) {A : Around} {E : Value → Shared → Prop} {Q : Value → Shared → Prop} (k : Q f s) : wpAny G.M A (eval (.Name x pos) Φ.env) Q E s :=
  Name_function_global fo.kind hx (loadGlobal_builtin (by rw [fg.glob]; exact gok.ng.keeps R.base) hg (by rw [fg.blt]; exact gok.nb.keeps R.base) ((gok.blt x hn).trans hb) k) hd
theorem load_gl (gok : GOk G) (fo : FOk Φ) (fg : FOkG Φ) {x : Str} {pos : Pos} {f : Value} (hx : Φ.env.kindOf x = some .globalImplicit) (hg : G.mg x = some f) (hd : (x == ("__debug__" : Str)) = false)
    {ρ : Rho} {e : AEnv} {H : AHeap} {s : Shared} (R : Rel G Φ ρ e H s) {A : Around} {E : Value → Shared → Prop} {Q : Value → Shared → Prop} (k : Q f s) : wpAny G.M A (eval (.Name x pos) Φ.env) Q E s :=
  Name_function_global fo.kind hx (loadGlobal_global (by rw [fg.glob]; exact gok.ng.keeps R.base) hg k) hd
theorem snd_bfun (gok : GOk G) (fo : FOk Φ) (fg : FOkG Φ) {x : Str} {np pos : Pos} {args : List Expr} {f : Value} {g : PM (List V)} {op : FOp} (hf : (∃ id, f = .builtin id) ∨ ∃ T, f = .type T)
    (hx : Φ.env.kindOf x = some .globalImplicit) (hg : G.mg x = none) (hb : bootBuiltins x = some f) (hn : x ≠ "__name__") (hd : (x == ("__debug__" : Str)) = false)
    (he : eval (.Call (.Name x np) args [] pos) Φ.env = (do callWith pos (← eval (.Name x np) Φ.env) [] (backTo pos (starEach args Φ.env)) []))
    (hpl : (backTo pos (starEach args Φ.env)).any (·.1) = false) (h2 : SndL G Φ d (spliced (backTo pos (starEach args Φ.env))) g) (h3 : FOpR G d f op) : SndE G Φ d (eval (.Call (.Name x np) args [] pos) Φ.env) (eFun g op) := by
  intro e H X e' H' hfx ρ s R A E ok
  refine hide fun PQ hpq => ?_
  refine bnd3 hfx fun X₂ e₂ H₂ f2 hfx => ?_
  refine bnd2 hfx fun X₃ H₃ f3 hfx => ?_
  cases hfx
  refine hpq ?_
  rw [he]
  refine wpAny_bind (load_bi gok fo fg hx hg hb hn hd R ?_)
  have key : wpAny G.M A (evalArgs f true (backTo pos (starEach args Φ.env)) []) (fun a s₁ => wpAny G.M A (call f ([] ++ a.pos) a.kw) (fun y s' => ∃ ρ', Rel G Φ ρ' e₂ H₃ s' ∧ Ext Φ ρ H s ρ' H₃ s' ∧ VR G ρ' s'.heap X₃ y) E s₁) E s :=
    evalArgs_any hpl (h2.run f2 R ok fun ws ρ₂ s₂ R₂ X₂ v₂ => (h3 _ ws).run f3 R₂ v₂ ok fun y ρ₃ s₃ R₃ X₃ v₃ => ⟨ρ₃, R₃, X₂.trans X₃, v₃⟩)
  rcases hf with ⟨id, rfl⟩ | ⟨T, rfl⟩
  · exact callWith_builtin hpl key
  · exact _root_.PySem.callWith_type hpl key
noncomputable def oLen : FOp := fun Ys H => match Ys with
  | [.ref i] => match (H[i]?).map O.thaw with
    | some (.list vs) => if vs.length ≤ 100000 then some (.int vs.length, H) else none
    | _ => none
  | [.tup vs] => if vs.length ≤ 100000 then some (.int vs.length, H) else none
  | _ => none
set_option tactic.hygienic true in
theorem oLen_ok : FOpR G d (.builtin "len") oLen := by
  intro Ys ws Φ e H x H' hf ρ s R hP A E ok
  refine hide fun PQ hpq => ?_
  refine andE2 (R.toks (s.toks + 1 + 1)) fun R' X' => ?_
  unfold oLen at hf
  split at hf
  · rename_i i
    refine exE1 (VRs_one hP) fun w h1 => andE2 h1 fun e1_0 hw => ?_
    subst e1_0
    simp only [VR] at hw; obtain ⟨a, ha, rfl⟩ := hw
    split at hf
    · rename_i vs hq
      split at hf
      · rename_i hl
        cases hf
        refine exE1 (thaw_some hq) fun y h2 => andE2 h2 fun hy hyt => ?_
        obtain ⟨o, g, om⟩ := R.at hy ha
        rw [hyt] at om
        refine exE2 om fun its n h4 => andE2 h4 fun e4_0 hvs => ?_
        subst e4_0
        have hlen : its.size = vs.length := by have := hvs.length; simpa using this
        refine hpq ?_
        refine call_len_list (l := a) (items := its) ⟨_, g, rfl, n, rfl⟩ (by (first | lia | omega)) ⟨ρ, R', X', ?_⟩
        rw [hlen]; exact VR.int _ _
      · first | exact nn hf | exact nf hf | cases hf
    · first | exact nn hf | exact nf hf | cases hf
  · rename_i vs
    obtain ⟨w, rfl, hw⟩ := VRs_one hP
    split at hf
    · rename_i hl
      cases hf
      simp only [VR] at hw
      refine exE3 hw fun a its n h6 => andE3 h6 fun e6_0 g hvs => ?_
      subst e6_0
      have hlen : its.size = vs.length := by have := hvs.length; simpa using this
      refine hpq ?_
      refine PyProof.Rows.len_tuple (t := a) (items := its) ⟨_, g, rfl, n, rfl⟩ (by (first | lia | omega)) ⟨ρ, R', X', ?_⟩
      rw [hlen]; exact VR.int _ _
    · first | exact nn hf | exact nf hf | cases hf
  · first | exact nn hf | exact nf hf | cases hf
noncomputable def oRange : FOp := fun Ys H => match Ys with
  | [.int n] => some (.rng 0 n 1, H)
  | _ => none
set_option tactic.hygienic true in
theorem oRange_ok : FOpR G d (.type "range") oRange := by
  intro Ys ws Φ e H x H' hf ρ s R hP A E ok
  refine hide fun PQ hpq => ?_
  unfold oRange at hf
  split at hf
  · rename_i n
    cases hf
    obtain ⟨w, rfl, hw⟩ := VRs_one hP
    simp only [VR] at hw; obtain ⟨t, rfl⟩ := hw
    refine hpq ?_
    refine call_range_1 ?_
    refine andE2 (R.junk (h' := s.heap.push (rngObj (.int 0 s.toks) (.int n t) (.int 1 (s.toks + 1)))) (s.toks + 1 + 1) (fun b o q => Heap.get?_push_of_some _ q)) fun R' X' => ?_
    refine ⟨ρ, R', X', ?_⟩
    simp only [VR]
    exact exI4 _ _ _ _ ⟨rfl, Heap.get?_push_size _ rfl⟩
  · first | exact nn hf | exact nf hf | cases hf
noncomputable def asInts : List V → Option (List Int)
  | [] => some []
  | .int i :: r => (asInts r).map (i :: ·)
  | _ => none
theorem asInts_ok {ρ : Rho} {h : Heap} : ∀ {Xs : List V} {ns : List Int} {vs : List Value}, asInts Xs = some ns → VRs G ρ h Xs vs → IntsAre vs ns
  | [], ns, vs, e, q => by cases e; rw [VRs_nil q]; exact .nil
  | .int i :: r, ns, vs, e, q => by
    simp only [asInts] at e
    obtain ⟨ms, h1, rfl⟩ := Option.map_eq_some_iff.mp e
    simp only [VRs, VR] at q
    refine exE2 q fun v t h10 => andE3 h10 fun e10_0 h10_1 q2 => ?_
    subst e10_0
    obtain ⟨tk, rfl⟩ := h10_1
    exact .cons _ _ (asInts_ok h1 q2)
  | .none :: _, _, _, e, _ => by cases e
  | .bool _ :: _, _, _, e, _ => by cases e
  | .tup _ :: _, _, _, e, _ => by cases e
  | .ref _ :: _, _, _, e, _ => by cases e
  | .ext _ :: _, _, _, e, _ => by cases e
  | .rng _ _ _ :: _, _, _, e, _ => by cases e
  | .view _ _ :: _, _, _, e, _ => by cases e
theorem ints_VRs {ρ : Rho} {h : Heap} : ∀ {vs : List Value} {ns : List Int}, IntsAre vs ns → VRs G ρ h (ns.map V.int) vs
  | _, _, .nil => VRs.nil
  | _, _, .cons _ _ a => VRs.cons (VR.int _ _) (ints_VRs a)
noncomputable def best (lt : Int → Int → Bool) : List Int → Option Int
  | [] => none
  | a :: r => some (r.foldl (fun m x => if lt x m then x else m) a)
noncomputable def oBest (lt : Int → Int → Bool) : FOp := fun Ys H => match Ys with
  | [X] => (vItems X H).bind fun it => (asInts it.1).bind fun ns => (best lt ns).bind fun m => some (.int m, H)
  | _ => none
theorem argBest_fold (lt : Int → Int → Bool) (ns : List Int) (bt : Nat → Nat → Bool) (hbt : ∀ (i j : Nat) a b, ns[i]? = some a → ns[j]? = some b → bt i j = lt a b) :
    ∀ (k : Nat) (a : Int) (r : List Int), ns = a :: r → k < ns.length → ns[argBest bt k]? = some ((ns.take (k + 1)).tail.foldl (fun m x => if lt x m then x else m) a)
  | 0, a, r, h, _ => by subst h; simp [argBest]
  | k + 1, a, r, h, hk => by
    have ih := argBest_fold lt ns bt hbt k a r h (by (first | lia | omega))
    have hx : ns[k + 1]? = some ns[k + 1] := List.getElem?_eq_getElem hk
    have e1 : (ns.take (k + 1 + 1)).tail = (ns.take (k + 1)).tail ++ [ns[k + 1]] := by
      rw [List.take_succ_eq_append_getElem hk]
      subst h
      simp
    rw [e1, List.foldl_append]
    simp only [List.foldl_cons, List.foldl_nil]
    show ns[(if bt (k + 1) (argBest bt k) then k + 1 else argBest bt k)]? = _
    rw [hbt _ _ _ _ hx ih]
    split
    · exact hx
    · exact ih
theorem best_core {lt : Int → Int → Bool} {X : V} {H : AHeap} {items : List V} {fz : Option Nat} {ns : List Int} {m : Int} (h1 : vItems X H = some (items, fz)) (h2 : asInts items = some ns) (h3 : best lt ns = some m) {ρ : Rho} {e : AEnv} {s : Shared} (R : Rel G Φ ρ e H s) {v : Value} (hv : VR G ρ s.heap X v)
    {A : Around} (ok : OkA Φ d A) (d0 : 0 < d) (op : CmpOp) (hop : ∀ a b t u (A : Around) (E : Value → Shared → Prop) (s : Shared) (Q : Value → Shared → Prop), Q (.bool (lt a b)) s → wpAny G.M A (richCompare op (.int a t) (.int b u)) Q E s) {E : Value → Shared → Prop} {Q : Value → Shared → Prop}
    (k : ∀ t h' tk, (∀ b o, s.heap.get? b = some o → h'.get? b = some o) → Q (.int m t) { s with heap := h', toks := tk }) :
    wpAny G.M A.in1 (pyIter v) (fun it s₂ => ∃ I fp wr n P St bt, it = .ref I ∧ Walks G.prog G.w A.in1 I fp wr n P St ∧ St 0 s₂.heap ∧ (∀ b ∈ fp, b < s₂.heap.objs.size) ∧ 0 < n ∧ CmpOf G.prog G.w A.in1 op P bt ∧
      ∀ v h' tk, P (argBest bt (n - 1)) v → (∀ b o, b ∉ wr → s₂.heap.get? b = some o → h'.get? b = some o) → Q v { s₂ with heap := h', toks := tk }) E s := by
  refine iter_of hv h1 R (A := A.in1) (ok.1 d0) fun I h₁ it hk => ?_
  obtain ⟨fp, wr, P, St, W, st0, hwr, hIn, hfp, hobj, hP⟩ := it
  have hPi : ∀ (i : Nat) u a, ns[i]? = some a → P i u → ∃ t, u = .int a t := by
    intro i u a ha hu
    have hXi : items[i]? = some (.int a) := by
      clear hP hfp W h1 h3 hu
      induction items generalizing ns i with
      | nil => simp [asInts] at h2; subst h2; simp at ha
      | cons y r ih =>
        cases y <;> simp only [asInts] at h2 <;> first | (cases h2; done) | skip
        obtain ⟨ms, q1, rfl⟩ := Option.map_eq_some_iff.mp h2
        cases i with
        | zero => simpa using ha
        | succ i => simpa using ih (ns := ms) q1 i (by simpa using ha)
    have := hP i u _ hXi hu
    simpa only [VR] using this
  have hlen : items.length = ns.length := by
    clear hP hfp W h1 hPi h3
    induction items generalizing ns with
    | nil => simp [asInts] at h2; subst h2; rfl
    | cons y r ih =>
      cases y <;> simp only [asInts] at h2 <;> first | (cases h2; done) | skip
      obtain ⟨ms, q1, rfl⟩ := Option.map_eq_some_iff.mp h2
      simp [ih q1]
  cases ns with
  | nil => cases h3
  | cons a r =>
    simp only [best, Option.some.injEq] at h3
    let bt : Nat → Nat → Bool := fun i j => match (a :: r)[i]?, (a :: r)[j]? with
      | some x, some y => lt x y
      | _, _ => false
    have hbt : ∀ (i j : Nat) x y, (a :: r)[i]? = some x → (a :: r)[j]? = some y → bt i j = lt x y := fun i j x y h1 h2 => by
      show (match (a :: r)[i]?, (a :: r)[j]? with | some x, some y => lt x y | _, _ => false) = lt x y
      rw [h1, h2]
    have hbnd : ∀ i u, P i u → ∃ x t, (a :: r)[i]? = some x ∧ u = .int x t ∨ ¬ i < (a :: r).length := fun i u hu => by
      by_cases hi : i < (a :: r).length
      · obtain ⟨t, ht⟩ := hPi i u _ (List.getElem?_eq_getElem hi) hu
        exact exI2 ((a :: r)[i]) t (.inl ⟨List.getElem?_eq_getElem hi, ht⟩)
      · exact exI2 0 0 (.inr hi)
    refine exI7 I fp wr items.length (fun i u => i < items.length ∧ P i u) St bt ⟨rfl, ?_, st0, fun b hb => ?_, by rw [hlen]; simp, ?_, ?_⟩
    · exact ⟨W.sub, W.frame, fun i s' Q' E' hi st hQ => W.item i s' Q' E' hi st fun v h' tk hp => hQ v h' tk ⟨hi, hp⟩, W.done, W.self⟩
    · rcases hfp b hb with rfl | ⟨⟨o, ho⟩, _⟩
      · obtain ⟨o, g, _⟩ := hobj _ _ st0; exact Heap.lt_size g
      · exact Heap.lt_size (hk _ _ ho)
    · intro i j vi vj s' Q' E' hi hj hq
      rw [hlen] at hi hj
      have hxi := List.getElem?_eq_getElem hi.1
      have hxj := List.getElem?_eq_getElem hj.1
      obtain ⟨ti, ei⟩ := hPi i vi _ hxi hi.2
      obtain ⟨tj, ej⟩ := hPi j vj _ hxj hj.2
      rw [ei, ej]
      refine hop _ _ _ _ _ _ _ _ ?_
      rw [← hbt i j _ _ hxi hxj]
      exact hq
    · rintro u h' tk ⟨hi, hu⟩ hkk
      have hb := argBest_fold lt (a :: r) bt hbt (items.length - 1) a r rfl (by rw [hlen]; simp)
      have e1 : ((a :: r).take (items.length - 1 + 1)).tail = r := by
        rw [hlen]
        simp
      rw [e1, h3] at hb
      obtain ⟨t, rfl⟩ := hPi _ u _ hb hu
      exact k t h' tk fun b o q => hkk b o (fun hw => by rw [hwr b hw, hIn] at q; cases q) (hk b o q)
set_option tactic.hygienic true in
theorem oMax_ok (d0 : 0 < d) : FOpR G d (.builtin "max") (oBest fun a b => decide (b < a)) := by
  intro Ys ws Φ e H x H' hf ρ s R hP A E ok
  refine hide fun PQ hpq => ?_
  unfold oBest at hf
  split at hf
  · rename_i X
    refine bnd2 hf fun items fz h1 hf => ?_
    refine bnd1 hf fun ns h2 hf => ?_
    refine bnd1 hf fun m h3 hf => ?_
    cases hf
    refine exE1 (VRs_one hP) fun w h18 => andE2 h18 fun e18_0 hw => ?_
    subst e18_0
    refine hpq ?_
    refine call_max_walk (best_core (Q := fun y s' => ∃ ρ', Rel G Φ ρ' e H s' ∧ Ext Φ ρ H s ρ' H s' ∧ VR G ρ' s'.heap (V.int m) y)  h1 h2 h3 R hw ok d0 .Gt (fun a b t u A E s Q q => ?_) fun t h' tk hk => ?_)
    · exact PyProof.Rows.gt_int q
    · refine andE2 (R.junk tk hk) fun R' X' => ?_
      exact ⟨ρ, R', X', VR.int _ _⟩
  · first | exact nn hf | exact nf hf | cases hf
set_option tactic.hygienic true in
end
end Mine
end
section
set_option tactic.hygienic false
open PySem PySem.W PyProof.Rows PySem.Calls PySem.SeqAt
namespace Mine
theorem cellsFrom_app : ∀ (names : List (Str × NameKind)) (n : Nat) (acc : List (Str × Addr)), cellsFrom n names acc = cellsFrom n names [] ++ acc
  | [], _, _ => rfl
  | (x, k) :: r, n, acc => by
    unfold cellsFrom
    split
    · rw [cellsFrom_app r _ ((x, n) :: acc), cellsFrom_app r _ [(x, n)]]; simp
    · exact cellsFrom_app r n acc
theorem lookup_isSome_of_mem {α : Type} : ∀ {l : List (Str × α)} {x : Str} {c : α}, (x, c) ∈ l → ∃ d, l.lookup x = some d
  | (k, v) :: r, x, c, h => by
    rw [List.lookup_cons]
    cases hb : x == k with
    | true => exact ⟨v, rfl⟩
    | false =>
      rcases List.mem_cons.mp h with e | h
      · cases e; simp at hb
      · exact lookup_isSome_of_mem h
theorem cellsFrom_has : ∀ {names : List (Str × NameKind)} {n : Nat} {x : Str}, (x, NameKind.cell) ∈ names → ∃ c, (x, c) ∈ cellsFrom n names []
  | (y, k) :: r, n, x, h => by
    unfold cellsFrom
    rcases List.mem_cons.mp h with e | h
    · cases e
      rw [if_pos (by rfl), cellsFrom_app]
      exact ⟨n, by simp⟩
    · split
      · rw [cellsFrom_app]
        obtain ⟨c, hc⟩ := cellsFrom_has (n := n + 1) h
        exact ⟨c, by simp [hc]⟩
      · exact cellsFrom_has h
theorem cellsFrom_look {names : List (Str × NameKind)} {n : Nat} {x : Str} (h : names.lookup x = some .cell) : ∃ c, (cellsFrom n names []).lookup x = some c := by
  obtain ⟨c, hc⟩ := cellsFrom_has (n := n) (mem_of_lookup h)
  exact lookup_isSome_of_mem hc
noncomputable def frmOf (env : Env) (names : List (Str × NameKind)) (slot : List (Str × Nat)) (fr : List Env) : Frm := ⟨env, slot, env.locals :: (cellsFrom (env.locals + 1) names []).map (·.2), fr⟩
theorem nodup_inj : ∀ {slot : List (Str × Nat)}, (slot.map (·.2)).Nodup → ∀ x y i, slot.lookup x = some i → slot.lookup y = some i → x = y := by
  intro slot hn x y i hx hy
  refine name_of_addr (cs := slot) ?_ (mem_of_lookup hx) (mem_of_lookup hy)
  have := hn
  rw [List.nodup_iff_pairwise_ne, List.pairwise_map] at this
  exact this
section
variable {G : Gl} {Φ : Frm} {d : Nat} {ρ ρ' : Rho} {e e' : AEnv} {H H' : AHeap} {s s' : Shared}
theorem Rel.enter (R : Rel G Φ ρ e H s) (Φ' : Frm) {h₁ : Heap} (tk : Nat) (hk : ∀ b o, s.heap.get? b = some o → h₁.get? b = some o) (hfr : FRel G Φ' ρ e' h₁)
    (hpr : ∀ p ∈ Φ'.priv, s.heap.get? p = none ∧ ∃ o, h₁.get? p = some o ∧ ¬ Imm o) (hl : Φ'.env.locals ∈ Φ'.priv)
    (hfa : ∀ f ∈ Φ'.fa, f ∈ Φ.fa ∨ (s.heap.get? f = none ∧ ∃ o es ep, h₁.get? f = some o ∧ o.data = .dict es ep)) : Rel G Φ' ρ e' H { s with heap := h₁, toks := tk } := by
  have J := (R.junk (h' := h₁) tk hk).1
  refine ⟨hfr, J.hp, J.dom, J.inj, J.lo, fun p hp => ?_, J.base, hl, J.stat, fun f hf => ?_⟩
  · refine andE2 (hpr p hp) fun q1 h2_1 => ?_
    obtain ⟨o, q2, q3⟩ := h2_1
    refine ⟨?_, fun i hi => ?_, o, q2, q3⟩
    · cases q : G.hb.get? p with
      | none => rfl
      | some ob => rw [R.base p ob q] at q1; cases q1
    · obtain ⟨ob, g⟩ := R.rho_at hi
      rw [g] at q1; cases q1
  · rcases hfa f hf with h | ⟨q1, q2⟩
    · exact J.fas f h
    · refine ⟨?_, fun i hi => ?_, q2⟩
      · cases q : G.hb.get? f with
        | none => rfl
        | some ob => rw [R.base f ob q] at q1; cases q1
      · obtain ⟨ob, g⟩ := R.rho_at hi
        rw [g] at q1; cases q1
theorem Rel.back {Φ' : Frm} {s₁ : Shared} {e₂ : AEnv} (R : Rel G Φ ρ e H s) (hk : ∀ b o, s.heap.get? b = some o → s₁.heap.get? b = some o) (hs : s₁ = { s with heap := s₁.heap, toks := s₁.toks })
    (hpr : ∀ p ∈ Φ'.priv, s.heap.get? p = none) (hfa : ∀ f ∈ Φ'.fa, f ∈ Φ.fa ∨ s.heap.get? f = none) (R' : Rel G Φ' ρ' e₂ H' s') (X : Ext Φ' ρ H s₁ ρ' H' s') : Rel G Φ ρ' e H' s' ∧ Ext Φ ρ H s ρ' H' s' := by
  have gone : ∀ b, s₁.heap.get? b = none → s.heap.get? b = none := fun b h => by
    cases q : s.heap.get? b with
    | none => rfl
    | some o => rw [hk b o q] at h; cases h
  have keep : ∀ b o, ¬ Owned ρ H b → b ∉ Φ.fa → s.heap.get? b = some o → s'.heap.get? b = some o := fun b o hn hf g =>
    X.keep b o hn (fun hp => by rw [hpr b hp] at g; cases g) (fun hp => (hfa b hp).elim hf fun q => by rw [q] at g; cases g) (hk b o g)
  have keepF : ∀ b o, ¬ Owned ρ H b → s.heap.get? b = some o → ∃ sl, s'.heap.get? b = some { o with slots := sl } := fun b o hn g =>
    X.keepF b o hn (fun hp => by rw [hpr b hp] at g; cases g) (hk b o g)
  have X' : Ext Φ ρ H s ρ' H' s' := ⟨X.rle, fun b hb => (X.new b hb).imp id (gone b), fun i a h => (X.rnew i a h).imp id (gone a), fun b o hn _ hf g => keep b o hn hf g, fun b o hn _ g => keepF b o hn g,
    fun b o g => X.ex b o (hk b o g), by rw [X.same, hs]⟩
  have hv : ∀ (x : V) (v : Value), VR G ρ s.heap x v → VR G ρ' s'.heap x v := fun x v q => X'.vr R q
  refine ⟨⟨?_, R'.hp, R'.dom, R'.inj, R'.lo, fun p hp => ?_, R'.base, R.locp, R.stat, fun f hf => ?_⟩, X'⟩
  · refine exE1 (R.fr) fun m h5 => andE2 h5 fun h5_0 hm => ?_
    obtain ⟨oL, es, ep, g1, g2, g3⟩ := h5_0
    obtain ⟨sl, g1'⟩ := keepF _ _ (fun ⟨i, _, hi, _⟩ => (R.pr _ R.locp).2.1 i hi) g1
    refine ⟨m, ⟨{ oL with slots := sl }, es, ep, g1', g2, g3⟩, fun x i hi => (hm x i hi).mono hv fun c o vo _ g hd => keep c o (fun hq => ?_) (fun hf => ?_) g⟩
    · refine exE2 hq fun j y h7 => andE3 h7 fun e1 e2 _ => ?_
      refine exE2 (R.hp j y e2) fun a o' h8 => andE3 h8 fun f1 f2 f3 => ?_
      rw [e1] at f1; cases f1
      rw [g] at f2; cases f2
      exact OM.notCell hd y f3
    · refine andE3 (R.fas c hf) fun _ _ h9_2 => ?_
      obtain ⟨o', _, _, f1, f2⟩ := h9_2
      rw [g] at f1; cases f1
      rw [hd] at f2; cases f2
  · refine andE3 (R.pr p hp) fun p1 p2 h10_2 => ?_
    obtain ⟨o, p3, p4⟩ := h10_2
    obtain ⟨sl, p3'⟩ := keepF p o (fun ⟨i, _, hi, _⟩ => p2 i hi) p3
    refine ⟨p1, fun i hi => ?_, _, p3', fun im => p4 im⟩
    rcases X'.rnew i p hi with h | h
    · exact p2 i h
    · rw [h] at p3; cases p3
  · refine andE3 (R.fas f hf) fun p1 p2 h12_2 => ?_
    obtain ⟨o, es, ep, p3, p4⟩ := h12_2
    obtain ⟨sl, p3'⟩ := keepF f o (fun ⟨i, _, hi, _⟩ => p2 i hi) p3
    refine ⟨p1, fun i hi => ?_, _, es, ep, p3', p4⟩
    rcases X'.rnew i f hi with h | h
    · exact p2 i h
    · rw [h] at p3; cases p3
theorem env_alloc {scope : Scope} {globals : Addr} {closure : List (Str × Addr)} {binds : List (Str × Value)} {qual : Str} {func : Option Addr} {code : Value} {around : Option Env} {builtins : Addr}
    {M : Model} {A : Around} {E : Value → Shared → Prop} {Q : Env → Shared → Prop}
    (h : wpAny M A (forIn binds PUnit.unit (fun x _ => do storeName (newEnv scope s.heap.objs.size globals (cellsFrom (s.heap.objs.size + 1) scope.names closure) qual func code around builtins) x.1 x.2; pure (ForInStep.yield ⟨⟩)))
      (fun _ s' => Q (newEnv scope s.heap.objs.size globals (cellsFrom (s.heap.objs.size + 1) scope.names closure) qual func code around builtins) s') E
      { s with heap := pushCells (s.heap.push { cls := .type (if around.isSome then "dict" else "frame"), data := .dict #[] }) scope.names }) :
    wpAny M A (newFunctionEnv scope globals closure binds qual func code around builtins) Q E s := by
  cases around <;>
  · simp only [newFunctionEnv, Option.isSome_none, Option.isSome_some, Bool.false_eq_true, if_false, if_true] at h ⊢
    refine wpAny_bind (wpAny_alloc ?_)
    refine wpAny_bind (wpAny_layCells _ (fun name kind cells => by cases hkc : kind == NameKind.cell <;> simp) _ _ _ _ ?_)
    rw [Heap.size_push]
    exact wpAny_bind (wpAny_mono h (fun _ s' h' => wpAny_pure h') fun _ _ x => x)
theorem not_imm_isCell {h : Heap} {c : Addr} {v : Option Value} (q : h.IsCell c v) : ∃ o, h.get? c = some o ∧ ¬ Imm o := by
  refine exE1 q fun o h14 => andE2 h14 fun g hd => ?_
  exact ⟨o, g, not_imm_cell hd⟩
theorem binds_ok {Φ' : Frm} (fo : FOk Φ') {M : Model} {A : Around} {E : Value → Shared → Prop} (hM : M = G.M) {Q : PUnit → Shared → Prop} :
    ∀ (ps : List Str) (Zs : List V) (vs : List Value) (j k : Nat) (pre : AEnv) (s : Shared), pre.length = j → (∀ (i : Nat) x, ps[i]? = some x → Φ'.slot.lookup x = some (j + i) ∧ Sto Φ' x) → ps.length = Zs.length → VRs G ρ s.heap Zs vs → Rel G Φ' ρ (pre ++ List.replicate (ps.length + k) none) H s →
      (∀ s', Rel G Φ' ρ (pre ++ Zs.map some ++ List.replicate k none) H s' → Ext Φ' ρ H s ρ H s' → Q ⟨⟩ s') →
      wpAny M A (forIn (ps.zip vs) PUnit.unit (fun x _ => do storeName Φ'.env x.1 x.2; pure (ForInStep.yield ⟨⟩))) Q E s
  | [], Zs, vs, j, k, pre, s, hj, hps, hl, hv, R, q => by
    have : Zs = [] := List.eq_nil_of_length_eq_zero hl.symm
    subst this
    rw [List.zip_nil_left, List.forIn_nil]
    exact wpAny_pure (q s (by simpa using R) (Ext.refl ..))
  | x :: ps, [], vs, j, k, pre, s, hj, hps, hl, hv, R, q => by simp at hl
  | x :: ps, Z :: Zs, vs, j, k, pre, s, hj, hps, hl, hv, R, q => by
    subst hM
    simp only [VRs] at hv
    refine exE2 hv fun v t h15 => andE3 h15 fun e15_0 hv1 hv2 => ?_
    subst e15_0
    rw [List.zip_cons_cons, List.forIn_cons]
    have h0 := hps 0 x rfl
    refine wpAny_bind (wpAny_bind (store_var (X := Z) (e' := pre ++ some Z :: List.replicate (ps.length + k) none) (H' := H) fo h0.1 h0.2 ?_ R hv1 fun s₁ R₁ X₁ => wpAny_pure ?_))
    · unfold mStore
      have e1 : List.replicate ((x :: ps).length + k) (none : Option V) = none :: List.replicate (ps.length + k) none := by
        rw [List.length_cons, Nat.add_right_comm]; rfl
      rw [e1]
      simp [hj]
    · refine binds_ok fo rfl ps Zs t (j + 1) k (pre ++ [some Z]) s₁ (by simp [hj]) (fun i y hy => ?_) (by simpa using hl) (X₁.vrs R hv2) (by simpa using R₁) fun s' R' X' => q s' (by simpa using R') (X₁.trans X')
      have := hps (i + 1) y (by simpa using hy)
      rwa [show j + (i + 1) = j + 1 + i by (first | lia | omega)] at this
end
end Mine
end
section
set_option tactic.hygienic false
open PySem PySem.W PyProof.Rows PySem.Calls PySem.SeqAt
namespace Mine
noncomputable def BindR (G : Gl) (fd : FuncData) (ps : List Str) (bd : List V → Option (List V)) : Prop :=
  ∀ Φ e H ρ s Ys ws Zs, Rel G Φ ρ e H s → VRs G ρ s.heap Ys ws → bd Ys = some Zs → ∀ (A : Around) (E : Value → Shared → Prop) (Q : List (Str × Value) → Shared → Prop),
    (∀ vs h' tk, (∀ b o, s.heap.get? b = some o → h'.get? b = some o) → ps.length = Zs.length → VRs G ρ h' Zs vs → Q (ps.zip vs) { s with heap := h', toks := tk }) → wpAny G.M A (bindArgs fd ⟨ws, []⟩) Q E s
noncomputable def bdPlain (n : Nat) (Ys : List V) : Option (List V) := if Ys.length = n then some Ys else none
theorem bind_plain {G : Gl} {fd : FuncData} {ps : List Str} (h : ∀ ws : List Value, ws.length = ps.length → bindArgs fd ⟨ws, []⟩ = pure (ps.zip ws)) : BindR G fd ps (bdPlain ps.length) := by
  intro Φ e H ρ s Ys ws Zs R hv hb A E Q k
  unfold bdPlain at hb
  split at hb
  · rename_i hl
    cases hb
    rw [h ws (by rw [hv.length, hl])]
    exact wpAny_pure (k ws s.heap s.toks (fun _ _ q => q) hl.symm hv)
  · first | exact nn hb | exact nf hb | cases hb
noncomputable def fOp (bd : List V → Option (List V)) (k : Nat) (b : PM Flw) : FOp := fun Ys H => (bd Ys).bind fun Zs => (b (Zs.map some ++ List.replicate k none) H).bind fun r => match r.1 with
  | .ret v => some (v, r.2.2)
  | .next => some (.none, r.2.2)
  | _ => none
structure FunIs (G : Gl) (a : Addr) (fd : FuncData) (body : List Stmt) : Prop where
  obj : ∃ o, G.hb.get? a = some o ∧ o.data = .func fd
  code : G.hb.CodeRec fd.code fd.qualname
  body : fd.body = .stmts body
  clo : fd.closure = []
  glob : fd.globals = mainGlobals
  blt : fd.builtins = builtinsNs
  co : fd.scope.isCoroutine = false
  gen : fd.scope.isGenerator = false
  kind : fd.scope.kind = .function
noncomputable abbrev funFrm (fd : FuncData) (a L : Addr) (slot : List (Str × Nat)) (fr : List Env) : Frm := frmOf (callEnvC fd L a) fd.scope.names slot (callEnvC fd L a :: fr)
theorem OkA.deep {Φ Φ' : Frm} {d : Nat} {A : Around} (ok : OkA Φ (d + 1) A) {env : Env} (hf : Φ'.fr = env :: Φ.fr) (hk : env.scope.kind ≠ .module) (hl : ∃ L, env.frame = some L) : OkA Φ' d (A.deeper env) :=
  ⟨fun _ => ok.1 (Nat.succ_pos d), by have := ok.2.1; show A.depth + 1 + d < 900; (first | lia | omega), by have := ok.2.2.1; show A.units + 3 + 40 * d < 9000; (first | lia | omega), by rw [hf]; exact Around.frames_deeper ok.2.2.2.1,
    fun env' h' => by rw [hf] at h'; rcases List.mem_cons.mp h' with q | q; · subst q; exact ⟨hk, hl⟩
                      · exact ok.2.2.2.2 env' q⟩
theorem cellsFrom_apart : ∀ (names : List (Str × NameKind)) (n : Nat) (acc : List (Str × Addr)), (∀ p ∈ acc, p.2 < n) → (acc.Pairwise fun x y => x.2 ≠ y.2) → (cellsFrom n names acc).Pairwise fun x y => x.2 ≠ y.2
  | [], _, _, _, h => h
  | (x, k) :: r, n, acc, h1, h2 => by
    unfold cellsFrom
    split
    · refine cellsFrom_apart r (n + 1) _ (fun p hp => ?_) (List.pairwise_cons.mpr ⟨fun y hy => ?_, h2⟩)
      · rcases List.mem_cons.mp hp with q | q
        · rw [q]; exact Nat.lt_succ_self n
        · exact Nat.lt_succ_of_lt (h1 p q)
      · exact Nat.ne_of_gt (h1 y hy)
    · exact cellsFrom_apart r n acc h1 h2
theorem fun_fok {fd : FuncData} {a L : Addr} {slot : List (Str × Nat)} {fr : List Env} (hk : fd.scope.kind = .function) (hsl : (slot.map (·.2)).Nodup) : FOk (funFrm fd a L slot fr) :=
  ⟨hk, nodup_inj hsl, fun x y c hx hy => name_of_addr (cellsFrom_apart fd.scope.names (L + 1) [] (fun _ h => nomatch h) List.Pairwise.nil) (mem_of_lookup hx) (mem_of_lookup hy)⟩
noncomputable def COpR (G : Gl) (d : Nat) (f : Value) (op : FOp) : Prop :=
  ∀ Ys ws (Φ : Frm) e H x H', op Ys H = some (x, H') → ∀ ρ s, Rel G Φ ρ e H s → VRs G ρ s.heap Ys ws → ∀ (A : Around) (E : Value → Shared → Prop), OkA Φ d A →
    codeAny G.M A (.call f ⟨ws, []⟩) (fun r s' => match r with
      | .ok (.ret y) => ∃ ρ', Rel G Φ ρ' e H' s' ∧ Ext Φ ρ H s ρ' H' s' ∧ VR G ρ' s'.heap x y
      | .ok _ => False
      | .error z => E z s') s
theorem COpR.fop {G : Gl} {d : Nat} {f : Value} {op : FOp} (h : COpR G d f op) : FOpR G d f op := fun Ys ws Φ e H x H' hf ρ s R hP A E ok => wpAny_call (h Ys ws Φ e H x H' hf ρ s R hP A E ok)
theorem COpR.le {G : Gl} {d d' : Nat} {f : Value} {op : FOp} (h : COpR G d f op) (q : d ≤ d') : COpR G d' f op := fun Ys ws Φ e H x H' hf ρ s R hP A E ok => h Ys ws Φ e H x H' hf ρ s R hP A E (ok.le q)
theorem fun_ok {G : Gl} (gok : GOk G) {d k : Nat} {a : Addr} {fd : FuncData} {body : List Stmt} {ps : List Str} {bd : List V → Option (List V)} {b : PM Flw} (F : FunIs G a fd body) (slot : List (Str × Nat)) (hsl : (slot.map (·.2)).Nodup)
    (hnf : ∀ x i, slot.lookup x = some i → fd.scope.names.lookup x ≠ some .free) (hps : ∀ (i : Nat) x, ps[i]? = some x → slot.lookup x = some i ∧ (fd.scope.names.lookup x = some .local ∨ fd.scope.names.lookup x = some .cell))
    (B : BindR G fd ps bd) (hb : ∀ L fr, FOk (funFrm fd a L slot fr) → FOkG (funFrm fd a L slot fr) → SndF G (funFrm fd a L slot fr) d (execs body (callEnvC fd L a)) b) : COpR G (d + 1) (.ref a) (fOp bd k b) := by
  intro Ys ws Φ e H x H' hf ρ s R hP A E ok
  refine hide fun PQ hpq => ?_
  refine bnd1 hf fun Zs f1 hf => ?_
  refine bnd3 hf fun fl e₂ H₂ f2 hf => ?_
  refine exE1 (F.obj) fun o h0 => andE2 h0 fun ho hdata => ?_
  refine hpq ?_
  refine codeAny_call_function (by have := ok.2.1; unfold recursionLimit; (first | lia | omega)) (R.base _ _ ho) hdata F.co F.gen F.body (F.code.keeps R.base) ?_
  refine B Φ e H ρ s Ys ws Zs R hP f1 _ _ _ fun vs h₁ tk hk₁ hlen hv => ?_
  have R₁ := (R.junk tk hk₁).1
  rw [F.clo]
  refine env_alloc ?_
  generalize hL : ({ s with heap := h₁, toks := tk } : Shared).heap.objs.size = L
  have hL' : h₁.objs.size = L := hL
  have ok1 := cellsFrom_ok fd.scope.names (h₁.push { cls := .type "frame", data := .dict #[] }) (L + 1) [] ⟨fun _ _ hm => (nomatch hm), List.Pairwise.nil⟩ (by rw [Heap.size_push, hL']; exact Nat.le_refl _)
  rw [Heap.size_push, hL'] at ok1
  have fo : FOk (funFrm fd a L slot Φ.fr) := fun_fok F.kind hsl
  have keep2 : ∀ b o, h₁.get? b = some o → (pushCells (h₁.push { cls := .type "frame", data := .dict #[] }) fd.scope.names).get? b = some o := fun b o g => pushCells_keeps _ _ _ _ (Heap.get?_push_of_some _ g)
  have hnone : ∀ p, L ≤ p → h₁.get? p = none := fun p hp => by
    cases q : h₁.get? p with
    | none => rfl
    | some ob => exact absurd (Heap.lt_size q) (by rw [hL']; exact Nat.not_lt.mpr hp)
  have hns : (pushCells (h₁.push { cls := .type "frame", data := .dict #[] }) fd.scope.names).Ns L (fun _ => none) := by
    have := (Heap.Ns.new h₁ (.type "frame")).keeps (pushCells_keeps fd.scope.names _)
    rwa [hL'] at this
  have hprv : ∀ p ∈ (funFrm fd a L slot Φ.fr).priv, L ≤ p := fun p hp => by
    rcases List.mem_cons.mp hp with q | q
    · rw [q]; exact Nat.le_refl _
    · obtain ⟨⟨n, c⟩, h1, rfl⟩ := List.mem_map.mp q
      exact Nat.le_of_succ_le (ok1.empty n c h1).2
  have hfa : ∀ f ∈ (funFrm fd a L slot Φ.fr).fa, f ∈ Φ.fa ∨ (h₁.get? f = none ∧ ∃ o es ep, (pushCells (h₁.push { cls := .type "frame", data := .dict #[] }) fd.scope.names).get? f = some o ∧ o.data = .dict es ep) := fun f hf => by
    rcases List.mem_cons.mp (show f ∈ L :: Φ.fa from hf) with q | q
    · subst q
      refine exE3 hns fun oL es ep h2 => andE3 h2 fun g1 g2 _ => ?_
      exact .inr ⟨hnone _ (Nat.le_refl _), oL, es, ep, g1, g2⟩
    · exact .inl q
  have R₂ : Rel G (funFrm fd a L slot Φ.fr) ρ (List.replicate (ps.length + k) none) H { ({ s with heap := h₁, toks := tk } : Shared) with heap := pushCells (h₁.push { cls := .type "frame", data := .dict #[] }) fd.scope.names, toks := tk } := by
    refine R₁.enter (funFrm fd a L slot Φ.fr) tk keep2 ⟨_, hns, fun x i hi => ⟨fun hkx X hX => ?_, fun hkx => ?_⟩⟩ (fun p hp => ⟨hnone p (hprv p hp), ?_⟩) List.mem_cons_self (fun f hf => hfa f hf)
    · exfalso
      rw [List.getElem?_replicate] at hX
      split at hX <;> cases hX
    · rcases hkx with hkx | hkx
      · obtain ⟨c, hc⟩ := cellsFrom_look (n := L + 1) hkx
        refine exE1 ((ok1.empty x c (mem_of_lookup hc)).1) fun oc h4 => andE2 h4 fun g1 g2 => ?_
        refine exI3 c oc none ⟨hc, g1, g2, fun X hX => ?_⟩
        exfalso
        rw [List.getElem?_replicate] at hX
        split at hX <;> cases hX
      · exact absurd hkx (hnf x i hi)
    · rcases List.mem_cons.mp hp with q | q
      · subst q
        refine exE3 hns fun oL es ep h5 => andE3 h5 fun g1 g2 _ => ?_
        exact ⟨oL, g1, not_imm_dict g2⟩
      · obtain ⟨⟨n, c⟩, h1, rfl⟩ := List.mem_map.mp q
        exact not_imm_isCell (ok1.empty n c h1).1
  refine binds_ok fo rfl ps Zs vs 0 k [] _ rfl (fun i y hy => ?_) hlen (VRs.mono (fun _ _ q => q) (fun b o _ g => keep2 b o g) _ _ hv) (by simpa using R₂) fun s₃ R₃ X₃ => ?_
  · refine andE2 (hps i y hy) fun h1 h2 => ?_
    refine ⟨by rw [Nat.zero_add]; exact h1, ?_⟩
    rcases h2 with h2 | h2
    · exact .inl h2
    · refine .inr ⟨h2, fun c hc => ?_⟩
      exact List.mem_cons_of_mem _ (List.mem_map.mpr ⟨(y, c), mem_of_lookup hc, rfl⟩)
  · refine ⟨gok.nolim.keeps R₃.base, codeAny_func ?_⟩
    refine (hb L Φ.fr fo ⟨F.glob, F.blt⟩).run f2 (by simpa using R₃) (ok.deep rfl (by show fd.scope.kind ≠ _; rw [F.kind]; intro q; cases q) ⟨L, rfl⟩) fun y ρ₄ s₄ R₄ X₄ v₄ => ?_
    refine andE2 (R.back (s₁ := { s with heap := pushCells (h₁.push { cls := .type "frame", data := .dict #[] }) fd.scope.names, toks := tk }) (fun b o g => keep2 b o (hk₁ b o g)) rfl
      (fun p hp => by
        cases q : s.heap.get? p with
        | none => rfl
        | some ob => have := hnone p (hprv p hp); rw [hk₁ p ob q] at this; cases this)
      (fun f hf => (hfa f hf).imp id fun q => by
        cases q' : s.heap.get? f with
        | none => rfl
        | some ob => have := q.1; rw [hk₁ f ob q'] at this; cases this) R₄ (X₃.trans X₄)) fun Rb Xb => ?_
    cases fl with
    | next => cases v₄; cases hf; exact ⟨ρ₄, Rb, Xb, VR.none⟩
    | ret w => obtain ⟨v', rfl, q⟩ := v₄; cases hf; exact ⟨ρ₄, Rb, Xb, q⟩
    | brk => cases hf
    | cont => cases hf
section
variable {G : Gl} {Φ : Frm} {d : Nat}
theorem snd_call (gok : GOk G) (fo : FOk Φ) (fg : FOkG Φ) {x : Str} {np pos : Pos} {args : List Expr} {a : Addr} {fd : FuncData} {body : List Stmt} {g : PM (List V)} {op : FOp} (F : FunIs G a fd body)
    (hx : Φ.env.kindOf x = some .globalImplicit) (hg : G.mg x = some (.ref a)) (hd : (x == ("__debug__" : Str)) = false)
    (he : eval (.Call (.Name x np) args [] pos) Φ.env = (do callWith pos (← eval (.Name x np) Φ.env) [] (backTo pos (starEach args Φ.env)) []))
    (hpl : (backTo pos (starEach args Φ.env)).any (·.1) = false) (h2 : SndL G Φ d (spliced (backTo pos (starEach args Φ.env))) g) (h3 : FOpR G d (.ref a) op) : SndE G Φ d (eval (.Call (.Name x np) args [] pos) Φ.env) (eFun g op) := by
  intro e H X e' H' hfx ρ s R A E ok
  refine hide fun PQ hpq => ?_
  refine bnd3 hfx fun X₂ e₂ H₂ f2 hfx => ?_
  refine bnd2 hfx fun X₃ H₃ f3 hfx => ?_
  cases hfx
  refine hpq ?_
  rw [he]
  refine wpAny_bind (load_gl gok fo fg hx hg hd R ?_)
  refine exE1 (F.obj) fun o h9 => andE2 h9 fun ho hdata => ?_
  refine callWith_function (o := o) (fd := fd) (evalArgs_any hpl (h2.run f2 R ok fun ws ρ₂ s₂ R₂ X₂ v₂ => ⟨⟨R₂.base _ _ ho, hdata⟩, (h3 _ ws).run f3 R₂ v₂ ok fun y ρ₃ s₃ R₃ X₃ v₃ => ⟨ρ₃, R₃, X₂.trans X₃, v₃⟩⟩))
end
theorem FOpR.le {G : Gl} {d d' : Nat} {f : Value} {op : FOp} (h : FOpR G d f op) (q : d ≤ d') : FOpR G d' f op := fun Ys ws Φ e H x H' hf ρ s R hP A E ok => h Ys ws Φ e H x H' hf ρ s R hP A E (ok.le q)
end Mine
end
section
set_option tactic.hygienic false
open PySem PySem.W PyProof.Rows PySem.Calls PySem.SeqAt
namespace Mine
noncomputable def ownSlot : Nat → List Str → List (Str × Nat)
  | _, [] => []
  | n, x :: r => (x, n) :: ownSlot (n + 1) r
noncomputable def capSlot : Nat → List (Str × Nat) → List (Str × Nat)
  | _, [] => []
  | n, (y, _) :: r => (y, n) :: capSlot (n + 1) r
noncomputable def compSlot (own : List Str) (caps : List (Str × Nat)) : List (Str × Nat) := ownSlot 0 own ++ capSlot own.length caps
noncomputable def capVal (e : AEnv) (i : Nat) : Option V := match e[i]? with
  | some x => x
  | none => none
noncomputable def capEnv (own : List Str) (caps : List (Str × Nat)) (e : AEnv) : AEnv := List.replicate own.length none ++ caps.map fun p => capVal e p.2
noncomputable def CapsOk (Φ : Frm) (names : List (Str × NameKind)) : List (Str × Nat) → Prop
  | [] => True
  | (y, i) :: r => (Φ.slot.lookup y = some i ∧ (Φ.env.kindOf y = some .cell ∨ Φ.env.kindOf y = some .free) ∧ names.lookup y = some .free) ∧ CapsOk Φ names r
noncomputable def cloOf (cells : List (Str × Addr)) : List (Str × NameKind) → List (Str × Addr) → List (Str × Addr)
  | [], acc => acc
  | (x, k) :: r, acc => if k == .free then cloOf cells r ((x, (cells.lookup x).getD 0) :: acc) else cloOf cells r acc
structure CompOk (Φ : Frm) (scope : Scope) (own : List Str) (caps : List (Str × Nat)) : Prop where
  kind : scope.kind = .function
  names : ∀ y ∈ scope.names, y.2 = .local → scope.names.lookup y.1 = some .local
  cellonce : ∀ y ∈ scope.names, y.2 = .cell → scope.names.lookup y.1 = some .cell
  hown : ∀ x ∈ own, scope.names.lookup x = some .local ∨ scope.names.lookup x = some .cell
  hcaps : CapsOk Φ scope.names caps
  all : ∀ y ∈ scope.names, y.2 = .free → ∃ i, (y.1, i) ∈ caps
  nodup : ((compSlot own caps).map (·.2)).Nodup
theorem CapsOk.mem {Φ : Frm} {names : List (Str × NameKind)} : ∀ {caps : List (Str × Nat)} {y : Str} {i : Nat}, CapsOk Φ names caps → (y, i) ∈ caps → Φ.slot.lookup y = some i ∧ (Φ.env.kindOf y = some .cell ∨ Φ.env.kindOf y = some .free) ∧ names.lookup y = some .free
  | (z, j) :: r, y, i, h, hm => by
    rcases List.mem_cons.mp hm with q | q
    · cases q; exact h.1
    · exact h.2.mem q
theorem capSlot_get : ∀ {caps : List (Str × Nat)} {n : Nat} {y : Str} {j : Nat}, (y, j) ∈ capSlot n caps → ∃ i k, j = n + k ∧ caps[k]? = some (y, i)
  | (z, i) :: r, n, y, j, h => by
    rcases List.mem_cons.mp h with q | q
    · cases q; exact ⟨i, 0, rfl, rfl⟩
    · refine exE2 (capSlot_get q) fun i' k h0 => andE2 h0 fun h1 h2 => ?_
      exact exI2 i' (k + 1) ⟨by (first | lia | omega), by simpa using h2⟩
theorem ownSlot_get : ∀ {own : List Str} {n : Nat} {y : Str} {j : Nat}, (y, j) ∈ ownSlot n own → y ∈ own ∧ j < n + own.length ∧ n ≤ j
  | x :: r, n, y, j, h => by
    rcases List.mem_cons.mp h with q | q
    · cases q; exact ⟨List.mem_cons_self, by simp, Nat.le_refl _⟩
    · refine andE3 (ownSlot_get q) fun h1 h2 h3 => ?_
      exact ⟨List.mem_cons_of_mem _ h1, by simp; (first | lia | omega), by (first | lia | omega)⟩
theorem cloOf_mem {cells : List (Str × Addr)} : ∀ {names : List (Str × NameKind)} {acc : List (Str × Addr)} {y : Str} {c : Addr}, (y, c) ∈ cloOf cells names acc → (y, c) ∈ acc ∨ ((y, NameKind.free) ∈ names ∧ c = (cells.lookup y).getD 0)
  | [], _, _, _, h => .inl h
  | (x, k) :: r, acc, y, c, h => by
    unfold cloOf at h
    split at h
    · rename_i hk
      have hk : k = .free := by cases k <;> first | rfl | cases hk
      rcases cloOf_mem h with q | ⟨q1, q2⟩
      · rcases List.mem_cons.mp q with q | q
        · cases q; exact .inr ⟨by rw [hk]; exact List.mem_cons_self, rfl⟩
        · exact .inl q
      · exact .inr ⟨List.mem_cons_of_mem _ q1, q2⟩
    · rcases cloOf_mem h with q | ⟨q1, q2⟩
      · exact .inl q
      · exact .inr ⟨List.mem_cons_of_mem _ q1, q2⟩
theorem cloOf_has {cells : List (Str × Addr)} : ∀ {names : List (Str × NameKind)} {acc : List (Str × Addr)} {y : Str}, ((y, NameKind.free) ∈ names ∨ ∃ c, (y, c) ∈ acc) → ∃ c, (y, c) ∈ cloOf cells names acc
  | [], acc, y, h => by
    rcases h with h | h
    · cases h
    · exact h
  | (x, k) :: r, acc, y, h => by
    unfold cloOf
    split
    · rename_i hk
      refine cloOf_has ?_
      rcases h with h | ⟨c, h⟩
      · rcases List.mem_cons.mp h with q | q
        · cases q; exact .inr ⟨_, List.mem_cons_self⟩
        · exact .inl q
      · exact .inr ⟨c, List.mem_cons_of_mem _ h⟩
    · rename_i hk
      refine cloOf_has ?_
      rcases h with h | ⟨c, h⟩
      · rcases List.mem_cons.mp h with q | q
        · cases q; exact absurd rfl hk
        · exact .inl q
      · exact .inr ⟨c, h⟩
theorem clo_fold {env : Env} : ∀ (names : List (Str × NameKind)) (acc : List (Str × Addr)), (∀ y ∈ names, y.2 = .free → ∃ c, env.cells.lookup y.1 = some c) →
    (forIn names acc fun (x : Str × NameKind) (r : List (Str × Addr)) => if (x.2 == NameKind.free) = true then do let a ← cellOf env x.1; pure (ForInStep.yield ((x.1, a) :: r)) else (pure (ForInStep.yield r) : Sem (ForInStep (List (Str × Addr))))) = (pure (cloOf env.cells names acc) : Sem (List (Str × Addr)))
  | [], acc, _ => by rw [List.forIn_nil]; rfl
  | (x, k) :: r, acc, h => by
    rw [List.forIn_cons]
    unfold cloOf
    cases hk : (k == NameKind.free) with
    | true =>
      have hk' : k = .free := by cases k <;> first | rfl | cases hk
      obtain ⟨c, hc⟩ := h (x, k) List.mem_cons_self hk'
      simp only [if_true, cellOf, hc, Option.getD_some, pure_bind]
      exact clo_fold r _ fun y hy => h y (List.mem_cons_of_mem _ hy)
    | false =>
      simp only [Bool.false_eq_true, if_false, pure_bind]
      exact clo_fold r _ fun y hy => h y (List.mem_cons_of_mem _ hy)
theorem closure_eq {scope : Scope} {env : Env} (h : ∀ y ∈ scope.names, y.2 = .free → ∃ c, env.cells.lookup y.1 = some c) : closureFor scope env = pure (cloOf env.cells scope.names []) := by
  have := clo_fold (env := env) scope.names [] h
  unfold closureFor
  simp only [bind_pure]
  exact this
noncomputable def compEnv (Φ : Frm) (scope : Scope) (L : Addr) : Env :=
  { newEnv scope L Φ.env.globals (cellsFrom (L + 1) scope.names (cloOf Φ.env.cells scope.names [])) Φ.env.qual none .none (some Φ.env) builtinsNs with scope := relabel scope Φ.env }
noncomputable def compFrm (Φ : Frm) (scope : Scope) (own : List Str) (caps : List (Str × Nat)) (L : Addr) : Frm := frmOf (compEnv Φ scope L) scope.names (compSlot own caps) Φ.fr
theorem lookup_app_left {α : Type} {l r : List (Str × α)} {x : Str} {c : α} (h : l.lookup x = some c) : (l ++ r).lookup x = some c := by
  rw [List.lookup_append, h]; rfl
theorem relabel_cell {env : Env} : ∀ {names : List (Str × NameKind)} {x : Str}, names.lookup x = some .cell →
    (names.map fun (n, k) => if (k == NameKind.free && env.scope.kind == .function && env.kindOf n == some .cell) then (n, NameKind.cell) else (n, k)).lookup x = some .cell
  | [], _, h => by simp at h
  | (n, k) :: r, x, h => by
    have ih := @relabel_cell env r x
    show List.lookup x ((if (k == NameKind.free && env.scope.kind == .function && env.kindOf n == some .cell) = true then (n, NameKind.cell) else (n, k)) :: _) = _
    cases hx : x == n with
    | true =>
      simp only [List.lookup_cons, hx] at h
      cases h
      simp [List.lookup_cons, hx]
    | false =>
      simp only [List.lookup_cons, hx] at h
      by_cases hc : (k == NameKind.free && env.scope.kind == .function && env.kindOf n == some .cell) = true
      · rw [if_pos hc]; simp only [List.lookup_cons, hx]; exact ih h
      · rw [if_neg hc]; simp only [List.lookup_cons, hx]; exact ih h
theorem relabel_free {env : Env} : ∀ {names : List (Str × NameKind)} {x : Str}, names.lookup x = some .free →
    (names.map fun (n, k) => if (k == NameKind.free && env.scope.kind == .function && env.kindOf n == some .cell) then (n, NameKind.cell) else (n, k)).lookup x ≠ some .local
  | [], _, h => by simp at h
  | (n, k) :: r, x, h => by
    have ih := @relabel_free env r x
    show List.lookup x ((if (k == NameKind.free && env.scope.kind == .function && env.kindOf n == some .cell) = true then (n, NameKind.cell) else (n, k)) :: _) ≠ _
    cases hx : x == n with
    | true =>
      simp only [List.lookup_cons, hx] at h
      cases h
      by_cases hc : (NameKind.free == NameKind.free && env.scope.kind == .function && env.kindOf n == some .cell) = true
      · rw [if_pos hc]; simp [List.lookup_cons, hx]
      · rw [if_neg hc]; simp [List.lookup_cons, hx]
    | false =>
      simp only [List.lookup_cons, hx] at h
      by_cases hc : (k == NameKind.free && env.scope.kind == .function && env.kindOf n == some .cell) = true
      · rw [if_pos hc]; simp only [List.lookup_cons, hx]; exact ih h
      · rw [if_neg hc]; simp only [List.lookup_cons, hx]; exact ih h
section
variable {G : Gl} {Φ : Frm} {d : Nat} {ρ ρ' : Rho} {e e' : AEnv} {H H' : AHeap} {s s' : Shared} {scope : Scope} {own : List Str} {caps : List (Str × Nat)}
theorem CompOk.cell_of (C : CompOk Φ scope own caps) (R : Rel G Φ ρ e H s) {y : Str} (hy : (y, NameKind.free) ∈ scope.names) : ∃ c i, Φ.env.cells.lookup y = some c ∧ (y, i) ∈ caps ∧ ∃ o vo, s.heap.get? c = some o ∧ o.data = .cell vo ∧ ∀ X, e[i]? = some (some X) → ∃ v, vo = some v ∧ VR G ρ s.heap X v := by
  obtain ⟨i, hi⟩ := C.all _ hy rfl
  refine andE3 (C.hcaps.mem hi) fun h1 h2 h3 => ?_
  refine exE1 (R.fr) fun m h5 => andE2 h5 fun _ hm => ?_
  refine exE3 ((hm y i h1).2 h2) fun c o vo h6 => andE4 h6 fun a1 a2 a3 a4 => ?_
  exact exI2 c i ⟨a1, hi, o, vo, a2, a3, a4⟩
theorem CompOk.clo_look (C : CompOk Φ scope own caps) (R : Rel G Φ ρ e H s) {y : Str} {c : Addr} (h : (y, c) ∈ cloOf Φ.env.cells scope.names []) : Φ.env.cells.lookup y = some c ∧ (y, NameKind.free) ∈ scope.names ∧ ∃ o, s.heap.get? c = some o := by
  rcases cloOf_mem h with q | ⟨q1, q2⟩
  · cases q
  · refine exE2 (C.cell_of R q1) fun c' i h7 => andE3 h7 fun a1 _ h7_2 => ?_
    obtain ⟨o, vo, a2, _⟩ := h7_2
    rw [a1] at q2
    cases q2
    exact ⟨a1, q1, o, a2⟩
theorem CompOk.closure (C : CompOk Φ scope own caps) (R : Rel G Φ ρ e H s) : closureFor scope Φ.env = pure (cloOf Φ.env.cells scope.names []) :=
  closure_eq fun y hy hk => by
    refine exE2 (C.cell_of R (y := y.1) (by rw [← hk]; exact hy)) fun c i h8 => andE2 h8 fun a1 _ => ?_
    exact ⟨c, a1⟩
theorem own_ge {names : List (Str × NameKind)} {L : Nat} : ∀ p ∈ cellsFrom (L + 1) names [], L + 1 ≤ p.2 := by
  have : ∀ (names : List (Str × NameKind)) (n : Nat) (acc : List (Str × Addr)), L + 1 ≤ n → (∀ p ∈ acc, L + 1 ≤ p.2) → ∀ p ∈ cellsFrom n names acc, L + 1 ≤ p.2 := by
    intro names
    induction names with
    | nil => intro n acc _ h; exact h
    | cons x r ih =>
      obtain ⟨x, k⟩ := x
      intro n acc hn h
      unfold cellsFrom
      split
      · refine ih _ _ (by (first | lia | omega)) fun p hp => ?_
        rcases List.mem_cons.mp hp with q | q
        · rw [q]; exact hn
        · exact h p q
      · exact ih _ _ hn h
  exact this names (L + 1) [] (Nat.le_refl _) (fun _ h => nomatch h)
theorem comp_fok (C : CompOk Φ scope own caps) (R : Rel G Φ ρ e H s) (fo : FOk Φ) {L : Addr} (hL : ∀ b o, s.heap.get? b = some o → b < L) : FOk (compFrm Φ scope own caps L) := by
  refine ⟨C.kind, nodup_inj C.nodup, fun x y c hx hy => ?_⟩
  have split : ∀ x, (compEnv Φ scope L).cells.lookup x = some c → (x, c) ∈ cellsFrom (L + 1) scope.names [] ∨ (Φ.env.cells.lookup x = some c ∧ c < L) := fun x hx => by
    have : (x, c) ∈ cellsFrom (L + 1) scope.names (cloOf Φ.env.cells scope.names []) := mem_of_lookup hx
    rw [cellsFrom_app] at this
    rcases List.mem_append.mp this with q | q
    · exact .inl q
    · refine andE3 (C.clo_look R q) fun h1 _ h10_2 => ?_
      obtain ⟨o, h3⟩ := h10_2
      exact .inr ⟨h1, hL _ _ h3⟩
  rcases split x hx with h1 | ⟨h1, h1'⟩ <;> rcases split y hy with h2 | ⟨h2, h2'⟩
  · exact name_of_addr (cellsFrom_apart scope.names (L + 1) [] (fun _ h => nomatch h) List.Pairwise.nil) h1 h2
  · exact absurd (Nat.lt_of_lt_of_le h2' (Nat.le_of_succ_le (own_ge _ h1))) (Nat.lt_irrefl _)
  · exact absurd (Nat.lt_of_lt_of_le h1' (Nat.le_of_succ_le (own_ge _ h2))) (Nat.lt_irrefl _)
  · exact fo.cinj x y c h1 h2
theorem comp_fog (fg : FOkG Φ) {L : Addr} : FOkG (compFrm Φ scope own caps L) := ⟨fg.glob, fg.blt⟩
theorem comp_sto (C : CompOk Φ scope own caps) {L : Addr} {x : Str} (hx : x ∈ own) : Sto (compFrm Φ scope own caps L) x := by
  rcases C.hown x hx with h | h
  · exact .inl (lookup_relabel_local h)
  · refine .inr ⟨relabel_cell h, fun c hc => ?_⟩
    obtain ⟨c', hc'⟩ := cellsFrom_look (n := L + 1) h
    have e1 : (compFrm Φ scope own caps L).env.cells.lookup x = some c' := by
      show (cellsFrom (L + 1) scope.names (cloOf Φ.env.cells scope.names [])).lookup x = some c'
      rw [cellsFrom_app]; exact lookup_app_left hc'
    rw [e1] at hc; cases hc
    exact List.mem_cons_of_mem _ (List.mem_map.mpr ⟨(x, c), mem_of_lookup hc', rfl⟩)
theorem comp_enter (C : CompOk Φ scope own caps) (R : Rel G Φ ρ e H s) {h₂ : Heap} (hk : ∀ b o, s.heap.get? b = some o → h₂.get? b = some o) {T : Value} (tk : Nat) :
    Rel G (compFrm Φ scope own caps h₂.objs.size) ρ (capEnv own caps e) H { s with heap := pushCells (h₂.push { cls := T, data := .dict #[] }) scope.names, toks := tk } ∧
    (∀ b o, h₂.get? b = some o → (pushCells (h₂.push { cls := T, data := .dict #[] }) scope.names).get? b = some o) ∧ (∀ p ∈ (compFrm Φ scope own caps h₂.objs.size).priv, h₂.objs.size ≤ p) := by
  generalize hL : h₂.objs.size = L
  have ok1 := cellsFrom_ok scope.names (h₂.push { cls := T, data := .dict #[] }) (L + 1) [] ⟨fun _ _ hm => (nomatch hm), List.Pairwise.nil⟩ (by rw [Heap.size_push, hL]; exact Nat.le_refl _)
  rw [Heap.size_push, hL] at ok1
  have keep2 : ∀ b o, h₂.get? b = some o → (pushCells (h₂.push { cls := T, data := .dict #[] }) scope.names).get? b = some o := fun b o g => pushCells_keeps _ _ _ _ (Heap.get?_push_of_some _ g)
  have hnone : ∀ p, L ≤ p → h₂.get? p = none := fun p hp => by
    cases q : h₂.get? p with
    | none => rfl
    | some ob => exact absurd (Heap.lt_size q) (by rw [hL]; exact Nat.not_lt.mpr hp)
  have hns : (pushCells (h₂.push { cls := T, data := .dict #[] }) scope.names).Ns L (fun _ => none) := by
    have := (Heap.Ns.new h₂ T).keeps (pushCells_keeps scope.names _)
    rwa [hL] at this
  have hprv : ∀ p ∈ (compFrm Φ scope own caps L).priv, L ≤ p := fun p hp => by
    rcases List.mem_cons.mp hp with q | q
    · rw [q]; exact Nat.le_refl _
    · obtain ⟨⟨n, c⟩, h1, rfl⟩ := List.mem_map.mp q
      exact Nat.le_of_succ_le (ok1.empty n c h1).2
  refine ⟨?_, keep2, hprv⟩
  have keepS : ∀ b o, s.heap.get? b = some o → (pushCells (h₂.push { cls := T, data := .dict #[] }) scope.names).get? b = some o := fun b o g => keep2 b o (hk b o g)
  refine R.enter (compFrm Φ scope own caps L) tk keepS ⟨_, hns, fun x i hi => ?_⟩ (fun p hp => ⟨?_, ?_⟩) List.mem_cons_self (fun f hf => .inl hf)
  · rcases List.mem_append.mp (mem_of_lookup hi) with hm | hm
    · refine andE3 (ownSlot_get hm) fun h1 h2 _ => ?_
      have hn : ∀ X, (capEnv own caps e)[i]? = some (some X) → False := fun X hX => by
        unfold capEnv at hX
        rw [List.getElem?_append_left (by simpa using h2), List.getElem?_replicate] at hX
        split at hX <;> cases hX
      refine ⟨fun _ X hX => (hn X hX).elim, fun hkx => ?_⟩
      rcases C.hown x h1 with h | h
      · have : (compFrm Φ scope own caps L).env.kindOf x = some .local := lookup_relabel_local h
        rw [this] at hkx
        rcases hkx with q | q <;> cases q
      · obtain ⟨c, hc⟩ := cellsFrom_look (n := L + 1) h
        refine exE1 ((ok1.empty x c (mem_of_lookup hc)).1) fun oc h15 => andE2 h15 fun g1 g2 => ?_
        refine exI3 c oc none ⟨?_, g1, g2, fun X hX => (hn X hX).elim⟩
        show (cellsFrom (L + 1) scope.names (cloOf Φ.env.cells scope.names [])).lookup x = some c
        rw [cellsFrom_app]; exact lookup_app_left hc
    · refine exE2 (capSlot_get hm) fun i₀ k h16 => andE2 h16 fun h1 h2 => ?_
      have hmem : (x, i₀) ∈ caps := List.mem_of_getElem? h2
      refine andE3 (C.hcaps.mem hmem) fun q1 q2 q3 => ?_
      refine ⟨fun hkx => absurd hkx (relabel_free q3), fun _ => ?_⟩
      refine exE1 (R.fr) fun m h18 => andE2 h18 fun _ hm' => ?_
      refine exE3 ((hm' x i₀ q1).2 q2) fun c o vo h19 => andE4 h19 fun a1 a2 a3 a4 => ?_
      refine exI3 c o vo ⟨?_, keepS c o a2, a3, fun X hX => ?_⟩
      · obtain ⟨c', hc'⟩ := cloOf_has (cells := Φ.env.cells) (names := scope.names) (acc := []) (.inl (mem_of_lookup q3))
        obtain ⟨c2, hc2⟩ := lookup_isSome_of_mem hc'
        have e1 := (C.clo_look R (mem_of_lookup hc2)).1
        rw [a1] at e1; cases e1
        have hno : (cellsFrom (L + 1) scope.names []).lookup x = none := by
          cases q : (cellsFrom (L + 1) scope.names []).lookup x with
          | none => rfl
          | some c3 =>
            exfalso
            have hcell : ∀ (names : List (Str × NameKind)) (n : Nat) (acc : List (Str × Addr)) (x : Str) (c : Addr), (x, c) ∈ cellsFrom n names acc → (x, c) ∈ acc ∨ (x, NameKind.cell) ∈ names := by
              intro names
              induction names with
              | nil => intro n acc x c h; exact .inl h
              | cons z r ih =>
                obtain ⟨z, k⟩ := z
                intro n acc x c h
                unfold cellsFrom at h
                split at h
                · rename_i hk
                  have hk : k = .cell := by cases k <;> first | rfl | cases hk
                  rcases ih _ _ _ _ h with q | q
                  · rcases List.mem_cons.mp q with q | q
                    · cases q; exact .inr (by rw [hk]; exact List.mem_cons_self)
                    · exact .inl q
                  · exact .inr (List.mem_cons_of_mem _ q)
                · rcases ih _ _ _ _ h with q | q
                  · exact .inl q
                  · exact .inr (List.mem_cons_of_mem _ q)
            have h3 := own_ge _ (mem_of_lookup q)
            rcases hcell _ _ _ _ _ (mem_of_lookup q) with z | z
            · cases z
            · -- a name both free and cell
              have := C.cellonce _ z rfl
              rw [q3] at this; cases this
        show (cellsFrom (L + 1) scope.names (cloOf Φ.env.cells scope.names [])).lookup x = some c
        rw [cellsFrom_app, List.lookup_append, hno]; exact hc2
      · have hX' : (capVal e i₀) = some X := by
          unfold capEnv at hX
          rw [List.getElem?_append_right (by simp; (first | lia | omega))] at hX
          have : i - (List.replicate own.length (none : Option V)).length = k := by simp; (first | lia | omega)
          rw [this] at hX
          simp [h2] at hX
          exact hX
        have hX2 : e[i₀]? = some (some X) := by
          unfold capVal at hX'
          split at hX'
          · rename_i y hy; rw [hy, hX']
          · cases hX'
        obtain ⟨v, b1, b2⟩ := a4 X hX2
        exact ⟨v, b1, VR.mono (fun _ _ q => q) (fun b o _ g => keepS b o g) _ _ b2⟩
  · cases q : s.heap.get? p with
    | none => rfl
    | some ob => have := hnone p (hprv p hp); rw [hk p ob q] at this; cases this
  · rcases List.mem_cons.mp hp with q | q
    · subst q
      refine exE3 hns fun oL es ep h24 => andE3 h24 fun g1 g2 _ => ?_
      exact ⟨oL, g1, not_imm_dict g2⟩
    · obtain ⟨⟨n, c⟩, h1, rfl⟩ := List.mem_map.mp q
      exact not_imm_isCell (ok1.empty n c h1).1
end
end Mine
end
section
set_option tactic.hygienic false
open PySem PySem.W PyProof.Rows PySem.Calls PySem.SeqAt
namespace Mine
noncomputable abbrev SndT (G : Gl) (Φ : Frm) (d : Nat) (ifs : List Expr) (t : PM Bool) : Prop :=
  SndB G Φ d (forIn ifs true fun c r => if r = true then do let ok ← isTrue c Φ.env (eval c Φ.env); pure (ForInStep.yield ok) else pure (ForInStep.yield r)) t
noncomputable def tYes : PM Bool := fun e H => some (true, e, H)
noncomputable def mCompL (t : PM Bool) (g : PM V) : List V → AEnv → AHeap → Option (List V × AEnv × AHeap)
  | [], e, H => some ([], e, H)
  | x :: r, e, H => (mStore 0 x e H).bind fun q => (t q.2.1 q.2.2).bind fun b => if b.1 then (g b.2.1 b.2.2).bind fun y => (mCompL t g r y.2.1 y.2.2).bind fun z => some (y.1 :: z.1, z.2) else mCompL t g r b.2.1 b.2.2
noncomputable def eComp (f : PM V) (own : List Str) (caps : List (Str × Nat)) (t : PM Bool) (g : PM V) : PM V := fun e H => (f e H).bind fun r => (vItems r.1 r.2.2).bind fun it =>
  if it.1.length ≤ 5000 then (mCompL t g it.1 (capEnv own caps r.2.1) (frzAt it.2 r.2.2)).bind fun z => some (.ref (unfrz it.2 r.2.2 z.2.2).length, r.2.1, unfrz it.2 r.2.2 z.2.2 ++ [.list z.1]) else none
section
variable {G : Gl} {Φ : Frm} {d : Nat} {ρ ρ' ρ₀ : Rho} {e e' : AEnv} {H H' H₀ : AHeap} {s s' s₀ : Shared}
theorem ts_nil : SndT G Φ d [] tYes := by
  intro e H X e' H' hf ρ s R A E ok
  cases hf
  exact wpAny_tests_nil ⟨ρ, R, Ext.refl .., rfl⟩
theorem ts_one {c : Expr} {t : PM Bool} (h : SndB G Φ d (isTrue c Φ.env (eval c Φ.env)) t) : SndT G Φ d [c] t := by
  intro e H X e' H' hf ρ s R A E ok
  exact wpAny_tests_one (h e H X e' H' hf ρ s R A E ok)
theorem Rel.adopt (R : Rel G Φ ρ e H s) {a : Addr} {o : Obj} {x : O} (hg : s.heap.get? a = some o) (hρ : ∀ i, ρ i ≠ some a) (hp : a ∉ Φ.priv) (hf : a ∉ Φ.fa) (hb : G.hb.get? a = none) (hm : (a == sysModules) = false) (hO : OM G ρ s.heap x o) :
    Rel G Φ (rhoAdd ρ H.length a) e (H ++ [x]) s ∧ rhoAdd ρ H.length a H.length = some a ∧ ∀ i b, ρ i = some b → rhoAdd ρ H.length a i = some b := by
  have hr : ∀ i b, ρ i = some b → rhoAdd ρ H.length a i = some b := fun i b hi => by
    have : i ≠ H.length := Nat.ne_of_lt (R.dom i b hi)
    simp [rhoAdd, this, hi]
  have hv : ∀ (x : V) (v : Value), VR G ρ s.heap x v → VR G (rhoAdd ρ H.length a) s.heap x v := VR.mono hr fun _ _ _ g => g
  have hvs : ∀ (x : List V) (v : List Value), VRs G ρ s.heap x v → VRs G (rhoAdd ρ H.length a) s.heap x v := VRs.mono hr fun _ _ _ g => g
  have hself : rhoAdd ρ H.length a H.length = some a := by simp [rhoAdd]
  refine ⟨⟨?_, fun i y hy => ?_, fun i b hb => ?_, fun i j b hi hj => ?_, fun i b hb => ?_, fun p hpp => ?_, R.base, R.locp, R.stat, fun f hff => ?_⟩, hself, hr⟩
  · refine exE1 (R.fr) fun m h0 => andE2 h0 fun hn hm => ?_
    exact ⟨m, hn, fun x i hi => (hm x i hi).mono hv fun c o _ _ g _ => g⟩
  · rcases Nat.lt_trichotomy i H.length with hi | hi | hi
    · rw [List.getElem?_append_left hi] at hy
      refine exE2 (R.hp i y hy) fun b o' h1 => andE3 h1 fun e1 e2 e3 => ?_
      exact exI2 b o' ⟨hr i b e1, e2, e3.mono hr hv hvs⟩
    · subst hi
      simp at hy; subst hy
      exact exI2 a o ⟨hself, hg, hO.mono hr hv hvs⟩
    · have : (H ++ [x])[i]? = none := List.getElem?_eq_none (by simp; (first | lia | omega))
      rw [this] at hy; cases hy
  · by_cases hi : i = H.length
    · simp [hi]
    · simp only [rhoAdd, hi, if_false] at hb
      have := R.dom i b hb
      simp; (first | lia | omega)
  · by_cases h1 : i = H.length <;> by_cases h2 : j = H.length
    · rw [h1, h2]
    · simp only [rhoAdd, h1, h2, if_true, if_false] at hi hj
      cases hi
      exact absurd hj (hρ j)
    · simp only [rhoAdd, h1, h2, if_true, if_false] at hi hj
      cases hj
      exact absurd hi (hρ i)
    · simp only [rhoAdd, h1, h2, if_false] at hi hj
      exact R.inj i j b hi hj
  · by_cases h1 : i = H.length
    · simp only [rhoAdd, h1, if_true] at hb; cases hb; exact ⟨‹_›, hm⟩
    · simp only [rhoAdd, h1, if_false] at hb; exact R.lo i b hb
  · refine andE3 (R.pr p hpp) fun p1 p2 h2_2 => ?_
    obtain ⟨o', p3, p4⟩ := h2_2
    refine ⟨p1, fun i hi => ?_, o', p3, p4⟩
    by_cases h1 : i = H.length
    · simp only [rhoAdd, h1, if_true] at hi; cases hi
      exact hp hpp
    · simp only [rhoAdd, h1, if_false] at hi; exact p2 i hi
  · refine andE3 (R.fas f hff) fun p1 p2 h3_2 => ?_
    obtain ⟨o', es, ep, p3, p4⟩ := h3_2
    refine ⟨p1, fun i hi => ?_, o', es, ep, p3, p4⟩
    by_cases h1 : i = H.length
    · simp only [rhoAdd, h1, if_true] at hi; cases hi
      exact hf hff
    · simp only [rhoAdd, h1, if_false] at hi; exact p2 i hi
theorem Ext.adopt (R : Rel G Φ ρ e H s) (X : Ext Φ ρ₀ H₀ s₀ ρ H s) {a : Addr} {x : O} (ha : s₀.heap.get? a = none) : Ext Φ ρ₀ H₀ s₀ (rhoAdd ρ H.length a) (H ++ [x]) s := by
  refine ⟨fun i b hi => ?_, fun b hb => ?_, fun i b hb => ?_, X.keep, X.keepF, X.ex, X.same⟩
  · have h1 := X.rle i b hi
    have : i ≠ H.length := Nat.ne_of_lt (R.dom i b h1)
    simp [rhoAdd, this, h1]
  · refine exE2 hb fun i y h4 => andE3 h4 fun e1 e2 e3 => ?_
    by_cases hi : i = H.length
    · simp only [rhoAdd, hi, if_true] at e1; cases e1; exact .inr ha
    · simp only [rhoAdd, hi, if_false] at e1
      refine X.new b ⟨i, y, e1, ?_, e3⟩
      rwa [List.getElem?_append_left (R.dom i b e1)] at e2
  · by_cases hi : i = H.length
    · simp only [rhoAdd, hi, if_true] at hb; cases hb; exact .inr ha
    · simp only [rhoAdd, hi, if_false] at hb; exact X.rnew i b hb
theorem fa_eq {Φ Φ' : Frm} (h : Φ'.fr = Φ.fr) : Φ'.fa = Φ.fa := by unfold Frm.fa; rw [h]
theorem OkA.of_fr {Φ Φ' : Frm} {d : Nat} {A : Around} (ok : OkA Φ d A) (h : Φ'.fr = Φ.fr) : OkA Φ' d A := by unfold OkA at ok ⊢; rw [h]; exact ok
theorem Ext.imm' {Φc : Frm} {e₀ : AEnv} (R : Rel G Φ ρ e₀ H s) (x : Ext Φc ρ H s ρ' H' s') (hfr : Φc.fr = Φ.fr) (hpc : ∀ p ∈ Φc.priv, s.heap.get? p = none) : ∀ a o, Imm o → s.heap.get? a = some o → s'.heap.get? a = some o := fun a o im g =>
  x.keep a _ (fun ⟨i, _, hi, _⟩ => (R.immFree im g).1 i hi) (fun hp => by rw [hpc a hp] at g; cases g) (fa_eq hfr ▸ R.immF im g) g
theorem cons3 {α β : Type} {x ws : α} {zs : β} {e₅ e' : AEnv} {H₅ H' : AHeap} {r : Option (β × AEnv × AHeap)} (hm : some (x, e₅, H₅) = some (ws, e', H')) (f : r = some (zs, e₅, H₅)) : ws = x ∧ r = some (zs, e', H') := by
  cases hm; exact ⟨rfl, f⟩
theorem end3 {α : Type} {Φc Φd : Frm} {x ws : α} {ρ' : Rho} {e₁ : AEnv} {H₁ : AHeap} (hm : some (x, e₁, H₁) = some (ws, e', H')) (R : Rel G Φc ρ' e₁ H₁ s') (X : Ext Φd ρ H s₀ ρ' H₁ s') : ws = x ∧ Rel G Φc ρ' e' H' s' ∧ Ext Φd ρ H s₀ ρ' H' s' := by
  cases hm; exact ⟨rfl, R, X⟩
theorem comp_loop {Φc : Frm} (fo : FOk Φc) {x : Str} {px : Pos} {elt iter : Expr} {ifs : List Expr} {scope : Scope} {pos : Pos} {t : PM Bool} {g : PM V} (hs : Φc.slot.lookup x = some 0) (hst : Sto Φc x)
    (hT : SndT G Φc d ifs t) (hE : SndE G Φc d (eval elt Φc.env) g) {items : List V} {vs : List V} (hf : mCompL t g items e H = some (vs, e', H')) (hlen : items.length ≤ 5000)
    {e₀ : AEnv} (R₀ : Rel G Φ ρ e₀ H s₀) (hfr : Φc.fr = Φ.fr) {A : Around} (ok : OkA Φ d A) {E : Value → Shared → Prop} {I D : Addr} {h₁ : Heap} (it : ItOk G Φ ρ H A items s₀ I h₁) {s₁ : Shared} (R₁ : Rel G Φc ρ e H s₁) (X₁ : Ext Φc ρ H s₀ ρ H s₁)
    (hk₁ : ∀ b o, h₁.get? b = some o → s₁.heap.get? b = some o) (hpc : ∀ p ∈ Φc.priv, s₀.heap.get? p = none) (hIc : I ∉ Φc.priv) (hDc : D ∉ Φc.priv) (hD0 : s₀.heap.get? D = none) (hDI : D ≠ I) (hDh : h₁.get? D = none)
    (hacc : ∃ n, s₁.heap.get? D = some { cls := .type "list", data := .seq #[] n }) {RR : Result → Shared → Prop}
    (k : ∀ ρ' s', Rel G Φc ρ' e' H' s' → Ext Φc ρ H s₀ ρ' H' s' → (∀ q, ρ' q ≠ some D) → (∃ its n, s'.heap.get? D = some { cls := .type "list", data := .seq its n } ∧ VRs G ρ' s'.heap vs its.toList) → RR (.ok .next) s') :
    codeAny G.M A (.compLoop (.ListComp elt [⟨.Name x px, iter, ifs, 0⟩] scope pos) 0 (.ref I) (.ref D) Φc.env) RR s₁ := by
  refine exE4 it fun fp wr P St h5 => andE7 h5 fun W st0 hwr hIn hfp hobj hP => ?_
  have hIf : I ∉ Φc.fa := fa_eq hfr ▸ R₀.freshF hIn
  have hDf : D ∉ Φc.fa := fa_eq hfr ▸ R₀.freshF hD0
  replace ok := ok.of_fr hfr
  have hbn : ∀ a, s₀.heap.get? a = none → G.hb.get? a = none := fun a ha => by
    cases q : G.hb.get? a with
    | none => rfl
    | some o => rw [R₀.base a o q] at ha; cases ha
  have hρn : ∀ a, s₀.heap.get? a = none → ∀ q, ρ q ≠ some a := fun a ha q hq => by obtain ⟨o, gg⟩ := R₀.rho_at hq; rw [ha] at gg; cases gg
  have hDobj : ∀ its n, ¬ Imm ({ cls := .type "list", data := .seq its n } : Obj) ∧ ∀ vo, ({ cls := .type "list", data := .seq its n } : Obj).data ≠ .cell vo := fun its n => ⟨fun im => absurd (imm_cls im rfl) (by decide), fun vo q => by cases q⟩
  have hDfp : D ∉ fp := fun hm => by
    rcases hfp D hm with q | ⟨⟨o, q⟩, _⟩
    · exact hDI q
    · rw [hD0] at q; cases q
  replace hfp := FpOk.of hfp hpc fun b h => fa_eq hfr ▸ h
  refine named (fun (k : Nat) (s' : Shared) => ∃ i ρ' e₁ H₁ us ws, i ≤ items.length ∧ k = items.length + 1 - i ∧ Rel G Φc ρ' e₁ H₁ s' ∧ Ext Φc ρ H s₀ ρ' H₁ s' ∧ (∀ q, ρ' q ≠ some I) ∧ (∀ q, ρ' q ≠ some D) ∧ St i s'.heap ∧ mCompL t g (items.drop i) e₁ H₁ = some (ws, e', H') ∧ us ++ ws = vs ∧ us.length ≤ i ∧
      ∃ its n, s'.heap.get? D = some { cls := .type "list", data := .seq its n } ∧ VRs G ρ' s'.heap us its.toList) fun Inv hInv => ?_
  have fin := fun k s' => Eq.mpr (congrFun (congrFun hInv k) s')
  refine codeAny_compLoop_tests Inv ?_ (items.length + 1) ?_
  · intro k' s' hi0
    refine hideW fun K hK => ?_
    obtain ⟨i, ρ', e₁, H₁, us, ws, hi, rfl, R', X', hI', hD', sti, hm, huw, hul, its, n, gD, hus⟩ := Eq.mp (congrFun (congrFun hInv k') s') hi0
    rcases Nat.lt_or_ge i items.length with hlt | hge
    · refine W.item i s' _ _ hlt sti fun v h' tk hPv st' hk' => ?_
      have hk2 : ∀ b o, b ≠ I → s'.heap.get? b = some o → h'.get? b = some o := fun b o hbI g => hk' b o (fun hw => hbI (hwr b hw)) g
      refine andE2 (R'.other tk hI' hIc hIf (hbn I hIn) (fun o g => by obtain ⟨o', g', q⟩ := hobj i _ sti; rw [g] at g'; cases g'; exact q) hk2) fun R2 him => ?_
      have X2 := X'.other tk hIn hk2
      have gD2 := hk2 D _ hDI gD
      have hX : items[i]? = some items[i] := List.getElem?_eq_getElem hlt
      have hv : VR G ρ' h' items[i] v := VR.mono X2.rle (fun a o im g => X2.imm' R₀ hfr hpc a o im g) _ _ (hP i v _ hX hPv)
      rw [List.drop_eq_getElem_cons hlt] at hm
      refine bnd3 hm fun u e₂ H₂ f1 hm => ?_
      refine bnd3 hm fun b e₃ H₃ f2 hm => ?_
      refine hK _ _ (hideW fun K2 hK2 => ?_)
      refine wpAny_assign_Name (store_var fo hs hst f1 R2 hv fun s₂ R₂ X₂ => ?_)
      refine hK2 _ _ ?_
      refine hT.run f2 R₂ ok fun y ρ₃ s₃ R₃ X₃ v₃ => ?_
      subst v₃
      refine hide fun PQ hpq => ?_
      have X23 := X₂.trans X₃
      obtain ⟨oI, gI, _⟩ := hobj _ _ st'
      have hI3 := X23.nref hI' gI
      have hD3 := X23.nref hD' gD2
      have hfp3 := fp_keep hfp X' X23 hI' hIc hIf
      have gD3 : s₃.heap.get? D = some { cls := .type "list", data := .seq its n } := X23.keep D _ (fun ⟨q, _, hq, _⟩ => hD' q hq) hDc hDf gD2
      have st3 := W.frame _ _ _ st' hfp3
      have hus3 : VRs G ρ₃ s₃.heap us its.toList := X23.vrs R2 (VRs.mono (fun _ _ q => q) him _ _ hus)
      cases b with
      | false =>
        simp only [Bool.false_eq_true, if_false] at hm
        refine hpq ?_
        exact ⟨items.length + 1 - (i + 1), by (first | lia | omega), fin _ _ ⟨i + 1, ρ₃, e₃, H₃, us, ws, hlt, rfl, R₃, X2.trans X23, hI3, hD3, st3, hm, huw, by (first | lia | omega), its, n, gD3, hus3⟩⟩
      | true =>
        simp only [if_true] at hm
        refine bnd3 hm fun y e₄ H₄ f3 hm => ?_
        refine bnd3 hm fun zs e₅ H₅ f4 hm => ?_
        refine andE2 (cons3 hm f4) fun hws f4 => ?_
        refine hpq ?_
        refine hE.run f3 R₃ ok fun yv ρ₄ s₄ R₄ X₄ v₄ => ?_
        refine hide fun PQ2 hpq2 => ?_
        have X24 := X23.trans X₄
        have hI4 := X24.nref hI' gI
        have hD4 := X24.nref hD' gD2
        have hfp4 := fp_keep hfp X' X24 hI' hIc hIf
        have gD4 : s₄.heap.get? D = some { cls := .type "list", data := .seq its n } := X24.keep D _ (fun ⟨q, _, hq, _⟩ => hD' q hq) hDc hDf gD2
        have st4 := W.frame _ _ _ st' hfp4
        have hus4 : VRs G ρ₄ s₄.heap us its.toList := X₄.vrs R₃ hus3
        have hsz : its.size = us.length := by have := hus4.length; simpa using this
        refine hpq2 ?_
        refine call_meets F.slot_list_append ⟨_, gD4, rfl⟩ F.entry_list_append (F.args_list_append_2 _ _) (list_append D its n yv (by rw [hsz]; exact size_le (by (first | lia | omega)))) ⟨gD4, ?_⟩
        have hk5 : ∀ b o, b ≠ D → s₄.heap.get? b = some o → (s₄.heap.update D (Obj.mapSeq fun xs => xs.push yv)).get? b = some o := fun b o hb q => (Heap.get?_update_other _ _ (Ne.symm hb)).trans q
        refine andE2 (R₄.other (h' := s₄.heap.update D (Obj.mapSeq fun xs => xs.push yv)) s₄.toks hD4 hDc hDf (hbn D hD0) (fun o g => by rw [gD4] at g; cases g; exact hDobj _ _) hk5) fun R5 him5 => ?_
        have X5 := (X2.trans X24).other (h' := s₄.heap.update D (Obj.mapSeq fun xs => xs.push yv)) s₄.toks hD0 hk5
        have st5 := W.frame _ _ _ st4 fun b hb o g => hk5 b o (fun q => hDfp (q ▸ hb)) g
        refine ⟨items.length + 1 - (i + 1), by (first | lia | omega), fin _ _ ⟨i + 1, ρ₄, e₄, H₄, us ++ [y], zs, hlt, rfl, R5, X5, hI4, hD4, st5, f4, by rw [hws] at huw; simpa using huw, by simp; (first | lia | omega), its.push yv, _, Heap.get?_update_self (Obj.mapSeq fun xs => xs.push yv) gD4 rfl, ?_⟩⟩
        · have h1 := VRs.mono (fun _ _ q => q) him5 _ _ hus4
          have h2 := VR.mono (fun _ _ q => q) him5 _ _ v₄
          simpa using VRs_snoc h1 h2
    · have hie : i = items.length := Nat.le_antisymm hi hge
      refine W.done s' _ _ (hie ▸ sti) fun h' tk hk' => ?_
      have hk2 : ∀ b o, b ≠ I → s'.heap.get? b = some o → h'.get? b = some o := fun b o hbI g => hk' b o (fun hw => hbI (hwr b hw)) g
      refine andE2 (R'.other tk hI' hIc hIf (hbn I hIn) (fun o g => by obtain ⟨o', g', q⟩ := hobj _ _ sti; rw [g] at g'; cases g'; exact q) hk2) fun R2 him => ?_
      have X2 := X'.other tk hIn hk2
      rw [List.drop_eq_nil_of_le hge] at hm
      refine andE3 (end3 hm R2 X2) fun hw R3 X3 => ?_
      rw [hw, List.append_nil] at huw
      refine hK _ _ ?_
      rw [← huw] at k
      exact k ρ' _ R3 X3 hD' ⟨its, n, hk2 D _ hDI gD, VRs.mono (fun _ _ q => q) him _ _ hus⟩
  · obtain ⟨n, hn⟩ := hacc
    refine fin _ _ ⟨0, ρ, e, H, [], vs, Nat.zero_le _, rfl, R₁, X₁, hρn I hIn, hρn D hD0, W.frame _ _ _ st0 fun c _ o g => hk₁ c o g, by simpa using hf, rfl, Nat.le_refl _, #[], n, hn, VRs.nil⟩
end
end Mine
end
section
set_option tactic.hygienic false
open PySem PySem.W PyProof.Rows PySem.Calls PySem.SeqAt
namespace Mine
section
variable {G : Gl} {Φ : Frm} {d : Nat} {ρ ρ' ρ₀ : Rho} {e e' : AEnv} {H H' H₀ : AHeap} {s s' s₀ : Shared}
theorem ItOk.fresh {A : Around} {items : List V} {I : Addr} {h : Heap} (it : ItOk G Φ ρ H A items s I h) : s.heap.get? I = none ∧ ∃ o, h.get? I = some o := by
  refine exE4 it fun fp wr P St h0 => andE7 h0 fun W st0 hwr hIn hfp hobj hP => ?_
  refine exE1 (hobj 0 _ st0) fun o h1 => andE2 h1 fun g _ => ?_
  exact ⟨hIn, o, g⟩
theorem comp_block (fo : FOk Φ) (fg : FOkG Φ) {scope : Scope} {own : List Str} {caps : List (Str × Nat)} (C : CompOk Φ scope own caps) {x : Str} {px pos : Pos} {elt iter : Expr} {ifs : List Expr} {t : PM Bool} {g : PM V}
    (hx : own.head? = some x) (hT : ∀ L, FOk (compFrm Φ scope own caps L) → FOkG (compFrm Φ scope own caps L) → SndT G (compFrm Φ scope own caps L) d ifs t)
    (hE : ∀ L, FOk (compFrm Φ scope own caps L) → FOkG (compFrm Φ scope own caps L) → SndE G (compFrm Φ scope own caps L) d (eval elt (compEnv Φ scope L)) g)
    (R : Rel G Φ ρ e H s) {X : V} {xv : Value} (hv : VR G ρ s.heap X xv) {items : List V} {fz : Option Nat} (f2 : vItems X H = some (items, fz)) (hlen : items.length ≤ 5000) {vs : List V} {e₂ : AEnv} {H₂ : AHeap}
    (f3 : mCompL t g items (capEnv own caps e) (frzAt fz H) = some (vs, e₂, H₂)) {A : Around} (ok : OkA Φ d A) (d0 : 0 < d) {E : Value → Shared → Prop} {RR : Value → Addr → Result → Shared → Prop}
    (k : ∀ D C ρ' s' m, Rel G Φ ρ' e (unfrz fz H H₂ ++ [.list vs]) s' → Ext Φ ρ H s ρ' (unfrz fz H H₂ ++ [.list vs]) s' → VR G ρ' s'.heap (.ref (unfrz fz H H₂).length) (.ref D) → s'.heap.Ns C m → (∀ i, ρ' i ≠ some C) → C ∉ Φ.priv → G.hb.get? C = none → s.heap.get? C = none → RR (.ref D) C (.ok .next) s') :
    wpAny G.M A (pyIter xv) (fun it s₂ => wpAny G.M A (newList []) (fun acc s₃ => wpAny G.M A (newFunctionEnv scope Φ.env.globals (cloOf Φ.env.cells scope.names []) [] Φ.env.qual none .none (some Φ.env)) (fun cenv s₄ =>
      codeAny G.M A (.compStart (.ListComp elt [⟨.Name x px, iter, ifs, 0⟩] scope pos) 0 it acc { cenv with scope := relabel scope Φ.env }) (RR acc cenv.locals) s₄) E s₃) E s₂) E s := by
  refine iter_of hv f2 R (ok.1 d0) fun I h₁ it hk => ?_
  refine wpAny_newObj_type ?_
  refine env_alloc ?_
  rw [List.forIn_nil]
  refine wpAny_pure ?_
  dsimp only
  generalize hD : h₁.objs.size = D
  generalize hh₂ : h₁.push { cls := .type "list", dict := none, data := .seq ([] : List Value).toArray } = h₂
  have hDsz : h₂.objs.size = D + 1 := by rw [← hh₂, Heap.size_push, hD]
  have k12 : ∀ b o, h₁.get? b = some o → h₂.get? b = some o := fun b o q => by rw [← hh₂]; exact Heap.get?_push_of_some _ q
  have hDnone : h₁.get? D = none := by
    cases q : h₁.get? D with
    | none => rfl
    | some o => exact absurd (Heap.lt_size q) (by rw [hD]; exact Nat.lt_irrefl _)
  have gD2 : h₂.get? D = some { cls := .type "list", data := .seq #[] } := by rw [← hh₂, ← hD]; exact Heap.get?_push_size _ rfl
  have Rf := R.frz fz
  refine andE3 (comp_enter (T := .type "dict") C Rf (fun b o q => k12 b o (hk b o q)) s.toks) fun R₄ k24 hprv => ?_
  generalize hL : h₂.objs.size = L at R₄ hprv
  have hLD : L = D + 1 := by rw [← hL]; exact hDsz
  have hsL : ∀ b o, s.heap.get? b = some o → b < L := fun b o q => by
    have h1 := Heap.lt_size (hk b o q)
    rw [hD] at h1
    rw [hLD]
    exact Nat.lt_succ_of_lt h1
  have hs0 : ∀ a, h₁.get? a = none → s.heap.get? a = none := fun a ha => by
    cases q : s.heap.get? a with
    | none => rfl
    | some o => rw [hk a o q] at ha; cases ha
  have hprn : ∀ p ∈ (compFrm Φ scope own caps L).priv, h₁.get? p = none := fun p hp => by
    cases q : h₁.get? p with
    | none => rfl
    | some o => exact absurd (Heap.lt_size q) (by rw [hD]; have := hprv p hp; exact Nat.not_lt.mpr (Nat.le_trans (by rw [hLD]; exact Nat.le_succ D) this))
  have foc : FOk (compFrm Φ scope own caps L) := comp_fok C R fo hsL
  have hpc : ∀ p ∈ (compFrm Φ scope own caps L).priv, s.heap.get? p = none := fun p hp => hs0 p (hprn p hp)
  have hDI : D ≠ I := fun q => by obtain ⟨o, ho⟩ := it.fresh.2; rw [← q, hDnone] at ho; cases ho
  have hDc : D ∉ (compFrm Φ scope own caps L).priv := fun hp => by have := hprv D hp; rw [hLD] at this; exact absurd this (Nat.not_succ_le_self D)
  have hIc : I ∉ (compFrm Φ scope own caps L).priv := fun hp => by obtain ⟨o, ho⟩ := it.fresh.2; rw [hprn I hp] at ho; cases ho
  have hx0 : (compFrm Φ scope own caps L).slot.lookup x = some 0 ∧ x ∈ own := by
    cases own with
    | nil => cases hx
    | cons y r =>
      cases hx
      refine ⟨?_, List.mem_cons_self⟩
      show ((x, 0) :: (ownSlot 1 r ++ _)).lookup x = some 0
      simp
  have X₄ : Ext (compFrm Φ scope own caps L) ρ (frzAt fz H) s ρ (frzAt fz H) { s with heap := pushCells (h₂.push { cls := .type "dict", data := .dict #[] }) scope.names, toks := s.toks } :=
    ⟨fun _ _ q => q, fun _ h => .inl h, fun _ _ h => .inl h, fun b o _ _ _ q => k24 b o (k12 b o (hk b o q)), fun b o _ _ q => ⟨o.slots, k24 b o (k12 b o (hk b o q))⟩, fun b o q => ⟨o, k24 b o (k12 b o (hk b o q))⟩, rfl⟩
  have loop : codeAny G.M A (.compLoop (.ListComp elt [⟨.Name x px, iter, ifs, 0⟩] scope pos) 0 (.ref I) (.ref D) (compFrm Φ scope own caps L).env) (RR (.ref D) L)
      { s with heap := pushCells (h₂.push { cls := .type "dict", data := .dict #[] }) scope.names, toks := s.toks } := by
    refine comp_loop foc hx0.1 (comp_sto C hx0.2) (hT L foc (comp_fog fg)) (hE L foc (comp_fog fg)) f3 hlen Rf rfl ok (E := E) it R₄ X₄ (fun b o q => k24 b o (k12 b o q)) hpc hIc hDc (hs0 D hDnone) hDI hDnone ⟨_, k24 D _ gD2⟩ fun ρ' s' R' X' hD' hl => ?_
    refine exE2 hl fun its n h3 => andE2 h3 fun gD hvs => ?_
    have hLp : L ∈ (compFrm Φ scope own caps L).priv := List.mem_cons_self
    refine andE2 (Rf.back (s₁ := s) (fun _ _ q => q) rfl hpc (fun _ hf => .inl hf) R' X') fun Rb Xb => ?_
    refine andE2 (R.unfrz fz Rb Xb) fun Ru Xu => ?_
    have hDp : D ∉ Φ.priv := fun hp => by obtain ⟨o, gg⟩ := R.priv_at hp; rw [hs0 D hDnone] at gg; cases gg
    have hb0 : ∀ a, s.heap.get? a = none → G.hb.get? a = none := fun a ha => by
      cases q : G.hb.get? a with
      | none => rfl
      | some o => rw [R.base a o q] at ha; cases ha
    have hmod : (D == sysModules) = false := by
      obtain ⟨o, q⟩ := R.stat
      have h1 := Heap.lt_size (hk _ _ (R.base _ _ q))
      rw [hD] at h1
      have h2 : sysModules < cStatics := by decide
      exact beq_false_of_ne (Nat.ne_of_gt (Nat.lt_trans h2 h1))
    refine andE3 (Ru.adopt (x := .list vs) gD hD' hDp (R.freshF (hs0 D hDnone)) (hb0 D (hs0 D hDnone)) hmod ⟨its, n, rfl, hvs⟩) fun Ra ha _ => ?_
    have Xa := Xu.adopt Ru (x := .list vs) (hs0 D hDnone)
    obtain ⟨m, hns, _⟩ := R'.fr
    refine k D L _ s' m Ra Xa (VR.ref ha) hns (fun i hi => ?_) (fun hp => ?_) (hb0 L (hpc L hLp)) (hpc L hLp)
    · by_cases h1 : i = (Mine.unfrz fz H H₂).length
      · simp only [rhoAdd, h1, if_true] at hi; cases hi; exact hDc hLp
      · simp only [rhoAdd, h1, if_false] at hi; exact (R'.pr L hLp).2.1 i hi
    · obtain ⟨o, gg⟩ := R.priv_at hp; rw [hpc L hLp] at gg; cases gg
  refine exE4 it fun fp wr P St h9 => andE7 h9 fun W st0 hwr hIn hfp hobj hP => ?_
  exact codeAny_compStart_list loop (W.self 0 _ _ _ (W.frame _ _ _ st0 fun c _ o q => k24 c o (k12 c o q)) loop)
end
end Mine
end
section
set_option tactic.hygienic false
open PySem PySem.W PyProof.Rows PySem.Calls PySem.SeqAt
namespace Mine
section
variable {G : Gl} {Φ : Frm} {d : Nat} {ρ ρ' ρ₀ : Rho} {e e' : AEnv} {H H' H₀ : AHeap} {s s' s₀ : Shared}
theorem comp_fin (R : Rel G Φ ρ' e H' s') (X : Ext Φ ρ H s ρ' H' s') {C : Addr} {m : Str → Option Value} (hns : s'.heap.Ns C m) (hC : ∀ i, ρ' i ≠ some C) (hp : C ∉ Φ.priv) (hCf : C ∉ Φ.fa) (hb : G.hb.get? C = none) (h0 : s.heap.get? C = none) {h' : Heap} (hs : Heap.SameBut C s'.heap h') :
    Rel G Φ ρ' e H' { s' with heap := h' } ∧ Ext Φ ρ H s ρ' H' { s' with heap := h' } ∧ ∀ (x : V) (v : Value), VR G ρ' s'.heap x v → VR G ρ' h' x v := by
  have hk : ∀ b o, b ≠ C → s'.heap.get? b = some o → h'.get? b = some o := fun b o hb q => hs.extBut b o hb q
  obtain ⟨R2, him⟩ := R.other (h' := h') s'.toks hC hp hCf hb (fun o g => by
    refine exE3 hns fun o' es ep h1 => andE3 h1 fun g1 g2 _ => ?_
    rw [g] at g1; cases g1
    exact ⟨not_imm_dict g2, fun vo q => by rw [g2] at q; cases q⟩) hk
  exact ⟨R2, X.other s'.toks h0 hk, VR.mono (fun _ _ q => q) him⟩
theorem snd_comp (fo : FOk Φ) (fg : FOkG Φ) {scope : Scope} {own : List Str} {caps : List (Str × Nat)} (C : CompOk Φ scope own caps) {x : Str} {px pos : Pos} {elt iter : Expr} {ifs : List Expr} {f : PM V} {t : PM Bool} {g : PM V}
    (hx : own.head? = some x) (d0 : 0 < d) (hfs : ∀ x, foldedSetIterable iter Φ.env x = pure x) (h1 : SndE G Φ d (eval iter Φ.env) f) (hT : ∀ L, FOk (compFrm Φ scope own caps L) → FOkG (compFrm Φ scope own caps L) → SndT G (compFrm Φ scope own caps L) d ifs t)
    (hE : ∀ L, FOk (compFrm Φ scope own caps L) → FOkG (compFrm Φ scope own caps L) → SndE G (compFrm Φ scope own caps L) d (eval elt (compEnv Φ scope L)) g) :
    SndE G Φ d (eval (.ListComp elt [⟨.Name x px, iter, ifs, 0⟩] scope pos) Φ.env) (eComp f own caps t g) := by
  intro e H Y e' H' hf ρ s R A E ok
  refine hide fun PQ hpq => ?_
  refine bnd3 hf fun X₁ e₁ H₁ f1 hf => ?_
  refine bnd2 hf fun items fz f2 hf => ?_
  split at hf
  · rename_i hlen
    refine bnd3 hf fun vs e₂ H₂ f3 hf => ?_
    cases hf
    refine hpq ?_
    rw [eval_ListComp]
    refine wpAny_comprehension_free (use := none) rfl hfs (C.closure R) C.kind C.names (h1.run f1 R ok fun xv ρ₁ s₁ R₁ X₁ v₁ => ?_)
    refine comp_block (RR := fun acc C => compPost G.M A E none _ acc C) fo fg C hx hT hE R₁ v₁ f2 hlen f3 ok d0 fun D L ρ' s' m R' X' v' hns hC hp hb h0 => ⟨m, hns, fun h' hs' => ?_⟩
    refine andE3 (comp_fin R' X' hns hC hp (R₁.freshF h0) hb h0 hs') fun a b c => ?_
    exact ⟨ρ', a, X₁.trans b, c _ _ v'⟩
  · first | exact nn hf | exact nf hf | cases hf
theorem st_assign_comp (fo : FOk Φ) (fg : FOkG Φ) {scope : Scope} {own : List Str} {caps : List (Str × Nat)} (C : CompOk Φ scope own caps) {x y : Str} {i : Nat} {px py pos spos : Pos} {elt iter : Expr} {ifs : List Expr} {f : PM V} {t : PM Bool} {g : PM V}
    (hs : Φ.slot.lookup y = some i) (hst : Sto Φ y) (hsw : swapsWith (.ListComp elt [⟨.Name x px, iter, ifs, 0⟩] scope pos) (some (.Name y py)) spos.line Φ.env = pure true)
    (hx : own.head? = some x) (d0 : 0 < d) (hfs : ∀ x, foldedSetIterable iter Φ.env x = pure x) (h1 : SndE G Φ d (eval iter Φ.env) f) (hT : ∀ L, FOk (compFrm Φ scope own caps L) → FOkG (compFrm Φ scope own caps L) → SndT G (compFrm Φ scope own caps L) d ifs t)
    (hE : ∀ L, FOk (compFrm Φ scope own caps L) → FOkG (compFrm Φ scope own caps L) → SndE G (compFrm Φ scope own caps L) d (eval elt (compEnv Φ scope L)) g) :
    SndF G Φ d (exec (.Assign [.Name y py] (.ListComp elt [⟨.Name x px, iter, ifs, 0⟩] scope pos) spos) Φ.env) (mAssign i (eComp f own caps t g)) := by
  intro e H Y e' H' hf ρ s R A E ok
  refine hide fun PQ hpq => ?_
  refine bnd3 hf fun Z e₅ H₅ hc hm => ?_
  refine bnd3 hm fun u e₆ H₆ fs hm => ?_
  cases hm
  refine hpq ?_
  clear hf
  refine bnd3 hc fun X₁ e₁ H₁ f1 hf => ?_
  refine bnd2 hf fun items fz f2 hf => ?_
  split at hf
  · rename_i hlen
    refine bnd3 hf fun vs e₂ H₂ f3 hf => ?_
    cases hf
    rw [exec_Assign_Name_used _ _ _ _ hsw]
    refine wpAny_bind (wpAny_standAt (wpAny_bind ?_))
    show wpAny _ A (do let _ ← comprehension (.ListComp elt [⟨.Name x px, iter, ifs, 0⟩] scope pos) scope Φ.env _ (newList []) false (eval iter Φ.env) (some (assign (.Name y py) Φ.env))) _ _ s
    refine wpAny_bind (wpAny_mono (wpAny_comprehension_free (use := some (assign (.Name y py) Φ.env)) (Q := fun _ s' => ∃ ρ', Rel G Φ ρ' e₆ H₆ s' ∧ Ext Φ ρ H s ρ' H₆ s' ∧ FR G ρ' s'.heap .next .next) rfl hfs (C.closure R) C.kind C.names
      (h1.run f1 R ok fun xv ρ₁ s₁ R₁ X₁ v₁ => ?_)) (fun _ s' hq => wpAny_pure (wpAny_pure hq)) fun _ _ e => e)
    refine comp_block (RR := fun acc C => compPost G.M A E (some (assign (.Name y py) Φ.env)) _ acc C) fo fg C hx hT hE R₁ v₁ f2 hlen f3 ok d0 fun D L ρ' s' m R' X' v' hns hC hp hb h0 => ?_
    show wpAny _ A (assign (.Name y py) Φ.env (.ref D)) _ _ _
    refine wpAny_assign_Name (store_var fo hs hst fs R' v' fun s₂ R₂ X₂ => ⟨m, ?_, fun h' hs' => ?_⟩)
    · refine exE3 hns fun oL es ep h3 => andE3 h3 fun g1 g2 g3 => ?_
      exact exI3 oL es ep ⟨X₂.keep _ _ (fun ⟨q, _, hq, _⟩ => hC q hq) hp (R₁.freshF h0) g1, g2, g3⟩
    · have hns2 : s₂.heap.Ns L m := by
        refine exE3 hns fun oL es ep h4 => andE3 h4 fun g1 g2 g3 => ?_
        exact exI3 oL es ep ⟨X₂.keep _ _ (fun ⟨q, _, hq, _⟩ => hC q hq) hp (R₁.freshF h0) g1, g2, g3⟩
      refine andE3 (comp_fin R₂ (X'.trans X₂) hns2 hC hp (R₁.freshF h0) hb h0 hs') fun a b c => ?_
      exact ⟨ρ', a, X₁.trans b, rfl⟩
  · first | exact nn hf | exact nf hf | cases hf
end
end Mine
end
section
set_option tactic.hygienic false
open PySem PySem.W PyProof.Rows PySem.Calls PySem.SeqAt
namespace Mine
noncomputable def mCompD (t : PM Bool) (gk gv : PM V) : List V → List (Int × V) → AEnv → AHeap → Option (List (Int × V) × AEnv × AHeap)
  | [], kvs, e, H => some (kvs, e, H)
  | x :: r, kvs, e, H => (mStore 0 x e H).bind fun q => (t q.2.1 q.2.2).bind fun b => if b.1 then (gk b.2.1 b.2.2).bind fun y => match y.1 with
      | .int k => (gv y.2.1 y.2.2).bind fun z => mCompD t gk gv r (kvPut kvs k z.1) z.2.1 z.2.2
      | _ => none
    else mCompD t gk gv r kvs b.2.1 b.2.2
noncomputable def eDComp (f : PM V) (own : List Str) (caps : List (Str × Nat)) (t : PM Bool) (gk gv : PM V) : PM V := fun e H => (f e H).bind fun r => (vItems r.1 r.2.2).bind fun it =>
  if it.1.length ≤ 5000 then (mCompD t gk gv it.1 [] (capEnv own caps r.2.1) (frzAt it.2 r.2.2)).bind fun z => some (.ref (unfrz it.2 r.2.2 z.2.2).length, r.2.1, unfrz it.2 r.2.2 z.2.2 ++ [.dict z.1]) else none
set_option tactic.hygienic true in
theorem kvPut_len : ∀ (kvs : List (Int × V)) (k : Int) (x : V), (kvPut kvs k x).length ≤ kvs.length + 1
  | [], _, _ => by simp [kvPut]
  | p :: r, k, x => by
    unfold kvPut
    split
    · simp
    · have := kvPut_len r k x; simp; omega
section
variable {G : Gl} {Φ : Frm} {d : Nat} {ρ ρ' ρ₀ : Rho} {e e' : AEnv} {H H' H₀ : AHeap} {s s' s₀ : Shared}
set_option tactic.hygienic true in
theorem compd_loop {Φc : Frm} (fo : FOk Φc) {x : Str} {px : Pos} {kx vx iter : Expr} {ifs : List Expr} {scope : Scope} {pos : Pos} {t : PM Bool} {gk gv : PM V} (hs : Φc.slot.lookup x = some 0) (hst : Sto Φc x)
    (hT : SndT G Φc d ifs t) (hK : SndE G Φc d (eval kx Φc.env) gk) (hE : SndE G Φc d (eval vx Φc.env) gv) {items : List V} {vs : List (Int × V)} (hf : mCompD t gk gv items [] e H = some (vs, e', H')) (hlen : items.length ≤ 5000)
    {e₀ : AEnv} (R₀ : Rel G Φ ρ e₀ H s₀) (hfr : Φc.fr = Φ.fr) {A : Around} (ok : OkA Φ d A) {E : Value → Shared → Prop} {I D : Addr} {h₁ : Heap} (it : ItOk G Φ ρ H A items s₀ I h₁) {s₁ : Shared} (R₁ : Rel G Φc ρ e H s₁) (X₁ : Ext Φc ρ H s₀ ρ H s₁)
    (hk₁ : ∀ b o, h₁.get? b = some o → s₁.heap.get? b = some o) (hpc : ∀ p ∈ Φc.priv, s₀.heap.get? p = none) (hIc : I ∉ Φc.priv) (hDc : D ∉ Φc.priv) (hD0 : s₀.heap.get? D = none) (hDI : D ≠ I) (hDh : h₁.get? D = none)
    (hacc : s₁.heap.DictOf (PySem.intKind G.prog G.w) D []) {RR : Result → Shared → Prop}
    (k : ∀ ρ' s', Rel G Φc ρ' e' H' s' → Ext Φc ρ H s₀ ρ' H' s' → (∀ q, ρ' q ≠ some D) → (∃ its, s'.heap.DictOf (PySem.intKind G.prog G.w) D its ∧ KVR G ρ' s'.heap vs its) → RR (.ok .next) s') :
    codeAny G.M A (.compLoop (.DictComp kx vx [⟨.Name x px, iter, ifs, 0⟩] scope pos) 0 (.ref I) (.ref D) Φc.env) RR s₁ := by
  refine exE4 it fun fp wr P St h0 => andE7 h0 fun W st0 hwr hIn hfp hobj hP => ?_
  have hIf : I ∉ Φc.fa := fa_eq hfr ▸ R₀.freshF hIn
  have hDf : D ∉ Φc.fa := fa_eq hfr ▸ R₀.freshF hD0
  replace ok := ok.of_fr hfr
  have hbn : ∀ a, s₀.heap.get? a = none → G.hb.get? a = none := fun a ha => by
    cases q : G.hb.get? a with
    | none => rfl
    | some o => rw [R₀.base a o q] at ha; cases ha
  have hρn : ∀ a, s₀.heap.get? a = none → ∀ q, ρ q ≠ some a := fun a ha q hq => by obtain ⟨o, gg⟩ := R₀.rho_at hq; rw [ha] at gg; cases gg
  have hDobj : ∀ (h : Heap) its, h.DictOf (PySem.intKind G.prog G.w) D its → ∀ o, h.get? D = some o → ¬ Imm o ∧ ∀ vo, o.data ≠ .cell vo := fun h its hD o g => by
    refine exE1 (Heap.dictOf_iff.mp hD) fun o' h1 => andE2 h1 fun g' h1_1 => ?_
    obtain ⟨es, ep, d1, d2, _⟩ := h1_1
    rw [g] at g'; cases g'
    exact ⟨not_imm_dict d2, fun vo q => by rw [d2] at q; cases q⟩
  have hDfp : D ∉ fp := fun hm => by
    rcases hfp D hm with q | ⟨⟨o, q⟩, _⟩
    · exact hDI q
    · rw [hD0] at q; cases q
  replace hfp := FpOk.of hfp hpc fun b h => fa_eq hfr ▸ h
  refine named (fun (k : Nat) (s' : Shared) => ∃ i ρ' e₁ H₁ us, i ≤ items.length ∧ k = items.length + 1 - i ∧ Rel G Φc ρ' e₁ H₁ s' ∧ Ext Φc ρ H s₀ ρ' H₁ s' ∧ (∀ q, ρ' q ≠ some I) ∧ (∀ q, ρ' q ≠ some D) ∧ St i s'.heap ∧ mCompD t gk gv (items.drop i) us e₁ H₁ = some (vs, e', H') ∧ us.length ≤ i ∧
      ∃ its, s'.heap.DictOf (PySem.intKind G.prog G.w) D its ∧ KVR G ρ' s'.heap us its) fun Inv hInv => ?_
  have fin := fun k s' => Eq.mpr (congrFun (congrFun hInv k) s')
  refine codeAny_compLoop_testsD Inv ?_ (items.length + 1) ?_
  · intro k' s' hi0
    refine hideW fun QQ hQQ => ?_
    refine exE5 (Eq.mp (congrFun (congrFun hInv k') s') hi0) fun i ρ' e₁ H₁ us h2 => andE10 h2 fun hi e2_1 R' X' hI' hD' sti hm hul h2_9 => ?_
    subst e2_1
    obtain ⟨its, gD, hus⟩ := h2_9
    rcases Nat.lt_or_ge i items.length with hlt | hge
    · refine W.item i s' _ _ hlt sti fun v h' tk hPv st' hk' => ?_
      have hk2 : ∀ b o, b ≠ I → s'.heap.get? b = some o → h'.get? b = some o := fun b o hbI g => hk' b o (fun hw => hbI (hwr b hw)) g
      refine andE2 (R'.other tk hI' hIc hIf (hbn I hIn) (fun o g => by obtain ⟨o', g', q⟩ := hobj i _ sti; rw [g] at g'; cases g'; exact q) hk2) fun R2 him => ?_
      have X2 := X'.other tk hIn hk2
      have gD2 : h'.DictOf (PySem.intKind G.prog G.w) D its := gD.at fun o g => hk2 D o hDI g
      have gDs : ∃ o, h'.get? D = some o := by obtain ⟨o, g, _⟩ := Heap.dictOf_iff.mp gD2; exact ⟨o, g⟩
      have hX : items[i]? = some items[i] := List.getElem?_eq_getElem hlt
      have hv : VR G ρ' h' items[i] v := VR.mono X2.rle (fun a o im g => X2.imm' R₀ hfr hpc a o im g) _ _ (hP i v _ hX hPv)
      rw [List.drop_eq_getElem_cons hlt] at hm
      refine bnd3 hm fun u e₂ H₂ f1 hm => ?_
      refine bnd3 hm fun b e₃ H₃ f2 hm => ?_
      refine hQQ _ _ (hideW fun K2 hK2 => ?_)
      refine wpAny_assign_Name (store_var fo hs hst f1 R2 hv fun s₂ R₂ X₂ => ?_)
      refine hK2 _ _ ?_
      refine hT.run f2 R₂ ok fun y ρ₃ s₃ R₃ X₃ v₃ => ?_
      subst v₃
      refine hide fun PQ hpq => ?_
      have X23 := X₂.trans X₃
      refine exE1 (hobj _ _ st') fun oI h4 => andE2 h4 fun gI _ => ?_
      obtain ⟨oD, gDo⟩ := gDs
      have hI3 := X23.nref hI' gI
      have hD3 := X23.nref hD' gDo
      have hfp3 := fp_keep hfp X' X23 hI' hIc hIf
      have gD3 : s₃.heap.DictOf (PySem.intKind G.prog G.w) D its := gD2.at fun o g => X23.keep D o (fun ⟨q, _, hq, _⟩ => hD' q hq) hDc hDf g
      have st3 := W.frame _ _ _ st' hfp3
      have hus3 : KVR G ρ₃ s₃.heap us its := KVR.mono (fun x v q => X23.vr R2 (VR.mono (fun _ _ q => q) him _ _ q)) _ _ hus
      cases b with
      | false =>
        simp only [Bool.false_eq_true, if_false] at hm
        refine hpq ?_
        exact ⟨items.length + 1 - (i + 1), by (first | lia | omega), fin _ _ ⟨i + 1, ρ₃, e₃, H₃, us, hlt, rfl, R₃, X2.trans X23, hI3, hD3, st3, hm, by (first | lia | omega), its, gD3, hus3⟩⟩
      | true =>
        simp only [if_true] at hm
        refine bnd3 hm fun y e₄ H₄ f3 hm => ?_
        split at hm
        · rename_i kk hkk
          refine bnd3 hm fun z e₅ H₅ f4 hmz => ?_
          simp only at hkk
          subst hkk
          refine hpq ?_
          refine hK.run f3 R₃ ok fun yv ρ₃' s₃' R₃' X₃' v₃' => ?_
          simp only [VR] at v₃'
          obtain ⟨tk', rfl⟩ := v₃'
          refine hE.run f4 R₃' ok fun zv ρ₄ s₄ R₄ X₄' v₄ => ?_
          refine hide fun PQ2 hpq2 => ?_
          have X₄ := X₃'.trans X₄'
          have X24 := X23.trans X₄
          have hI4 := X24.nref hI' gI
          have hD4 := X24.nref hD' gDo
          have hfp4 := fp_keep hfp X' X24 hI' hIc hIf
          have gD4 : s₄.heap.DictOf (PySem.intKind G.prog G.w) D its := gD2.at fun o g => X24.keep D o (fun ⟨q, _, hq, _⟩ => hD' q hq) hDc hDf g
          have st4 := W.frame _ _ _ st' hfp4
          have hus4 : KVR G ρ₄ s₄.heap us its := KVR.mono (fun x v q => X₄.vr R₃ q) _ _ hus3
          have hnd : (its.map (·.1)).Nodup := by obtain ⟨o, g, es, ep, d1, d2, d3, d4, d5⟩ := Heap.dictOf_iff.mp gD4; exact d5
          refine hpq2 ?_
          refine wpAny_dictSet_pairs (k := kk) (by simp [PySem.intKind, Value.isInt]) gD4 (fun h5 hD5 hsb5 => ?_) (size_le (by rw [hus4.length]; (first | lia | omega)))
          have hk5 : ∀ b o, b ≠ D → s₄.heap.get? b = some o → h5.get? b = some o := fun b o hb q => hsb5.extBut b o hb q
          obtain ⟨R5, him5⟩ := R₄.other (h' := h5) (s₄.toks + 1) hD4 hDc hDf (hbn D hD0) (hDobj _ _ gD4) hk5
          have X5 := (X2.trans X24).other (h' := h5) (s₄.toks + 1) hD0 hk5
          have st5 := W.frame _ _ _ st4 fun b hb o g => hk5 b o (fun q => hDfp (q ▸ hb)) g
          have hpl := kvPut_len us kk z
          refine ⟨items.length + 1 - (i + 1), by (first | lia | omega), fin _ _ ⟨i + 1, ρ₄, e₅, H₅, kvPut us kk z, hlt, rfl, R5, X5, hI4, hD4, st5, hmz, by (first | lia | omega), _, hD5, ?_⟩⟩
          exact KVR.mono (VR.mono (fun _ _ q => q) him5) _ _ (hus4.put hnd v₄)
        · first | exact nn hm | exact nf hm | cases hm
    · have hie : i = items.length := Nat.le_antisymm hi hge
      refine W.done s' _ _ (hie ▸ sti) fun h' tk hk' => ?_
      have hk2 : ∀ b o, b ≠ I → s'.heap.get? b = some o → h'.get? b = some o := fun b o hbI g => hk' b o (fun hw => hbI (hwr b hw)) g
      refine andE2 (R'.other tk hI' hIc hIf (hbn I hIn) (fun o g => by obtain ⟨o', g', q⟩ := hobj _ _ sti; rw [g] at g'; cases g'; exact q) hk2) fun R2 him => ?_
      have X2 := X'.other tk hIn hk2
      rw [List.drop_eq_nil_of_le hge] at hm
      refine andE3 (end3 hm R2 X2) fun hw R3 X3 => ?_
      refine hQQ _ _ ?_
      rw [hw] at k
      exact k ρ' _ R3 X3 hD' ⟨its, gD.at fun o g => hk2 D o hDI g, KVR.mono (VR.mono (fun _ _ q => q) him) _ _ hus⟩
  · exact fin _ _ ⟨0, ρ, e, H, [], Nat.zero_le _, rfl, R₁, X₁, hρn I hIn, hρn D hD0, W.frame _ _ _ st0 fun c _ o g => hk₁ c o g, by simpa using hf, Nat.le_refl _, [], hacc, rfl⟩
theorem compd_block (fo : FOk Φ) (fg : FOkG Φ) {scope : Scope} {own : List Str} {caps : List (Str × Nat)} (C : CompOk Φ scope own caps) {x : Str} {px pos : Pos} {kx vx iter : Expr} {ifs : List Expr} {t : PM Bool} {gk gv : PM V}
    (hx : own.head? = some x) (hT : ∀ L, FOk (compFrm Φ scope own caps L) → FOkG (compFrm Φ scope own caps L) → SndT G (compFrm Φ scope own caps L) d ifs t)
    (hK : ∀ L, FOk (compFrm Φ scope own caps L) → FOkG (compFrm Φ scope own caps L) → SndE G (compFrm Φ scope own caps L) d (eval kx (compEnv Φ scope L)) gk)
    (hE : ∀ L, FOk (compFrm Φ scope own caps L) → FOkG (compFrm Φ scope own caps L) → SndE G (compFrm Φ scope own caps L) d (eval vx (compEnv Φ scope L)) gv)
    (R : Rel G Φ ρ e H s) {X : V} {xv : Value} (hv : VR G ρ s.heap X xv) {items : List V} {fz : Option Nat} (f2 : vItems X H = some (items, fz)) (hlen : items.length ≤ 5000) {vs : List (Int × V)} {e₂ : AEnv} {H₂ : AHeap}
    (f3 : mCompD t gk gv items [] (capEnv own caps e) (frzAt fz H) = some (vs, e₂, H₂)) {A : Around} (ok : OkA Φ d A) (d0 : 0 < d) {E : Value → Shared → Prop} {RR : Value → Addr → Result → Shared → Prop}
    (k : ∀ D C ρ' s' m, Rel G Φ ρ' e (unfrz fz H H₂ ++ [.dict vs]) s' → Ext Φ ρ H s ρ' (unfrz fz H H₂ ++ [.dict vs]) s' → VR G ρ' s'.heap (.ref (unfrz fz H H₂).length) (.ref D) → s'.heap.Ns C m → (∀ i, ρ' i ≠ some C) → C ∉ Φ.priv → G.hb.get? C = none → s.heap.get? C = none → RR (.ref D) C (.ok .next) s') :
    wpAny G.M A (pyIter xv) (fun it s₂ => wpAny G.M A newDict (fun acc s₃ => wpAny G.M A (newFunctionEnv scope Φ.env.globals (cloOf Φ.env.cells scope.names []) [] Φ.env.qual none .none (some Φ.env)) (fun cenv s₄ =>
      codeAny G.M A (.compStart (.DictComp kx vx [⟨.Name x px, iter, ifs, 0⟩] scope pos) 0 it acc { cenv with scope := relabel scope Φ.env }) (RR acc cenv.locals) s₄) E s₃) E s₂) E s := by
  refine iter_of hv f2 R (ok.1 d0) fun I h₁ it hk => ?_
  refine wpAny_newObj_type ?_
  refine env_alloc ?_
  rw [List.forIn_nil]
  refine wpAny_pure ?_
  dsimp only
  generalize hD : h₁.objs.size = D
  generalize hh₂ : h₁.push { cls := .type "dict", dict := none, data := .dict #[] } = h₂
  have hDsz : h₂.objs.size = D + 1 := by rw [← hh₂, Heap.size_push, hD]
  have k12 : ∀ b o, h₁.get? b = some o → h₂.get? b = some o := fun b o q => by rw [← hh₂]; exact Heap.get?_push_of_some _ q
  have hDnone : h₁.get? D = none := by
    cases q : h₁.get? D with
    | none => rfl
    | some o => exact absurd (Heap.lt_size q) (by rw [hD]; exact Nat.lt_irrefl _)
  have gD2 : h₂.DictOf (PySem.intKind G.prog G.w) D [] := by rw [← hh₂, ← hD]; exact Heap.DictOf.new h₁
  have Rf := R.frz fz
  refine andE3 (comp_enter (T := .type "dict") C Rf (fun b o q => k12 b o (hk b o q)) s.toks) fun R₄ k24 hprv => ?_
  generalize hL : h₂.objs.size = L at R₄ hprv
  have hLD : L = D + 1 := by rw [← hL]; exact hDsz
  have hsL : ∀ b o, s.heap.get? b = some o → b < L := fun b o q => by
    have h1 := Heap.lt_size (hk b o q)
    rw [hD] at h1
    rw [hLD]
    exact Nat.lt_succ_of_lt h1
  have hs0 : ∀ a, h₁.get? a = none → s.heap.get? a = none := fun a ha => by
    cases q : s.heap.get? a with
    | none => rfl
    | some o => rw [hk a o q] at ha; cases ha
  have hprn : ∀ p ∈ (compFrm Φ scope own caps L).priv, h₁.get? p = none := fun p hp => by
    cases q : h₁.get? p with
    | none => rfl
    | some o => exact absurd (Heap.lt_size q) (by rw [hD]; have := hprv p hp; exact Nat.not_lt.mpr (Nat.le_trans (by rw [hLD]; exact Nat.le_succ D) this))
  have foc : FOk (compFrm Φ scope own caps L) := comp_fok C R fo hsL
  have hpc : ∀ p ∈ (compFrm Φ scope own caps L).priv, s.heap.get? p = none := fun p hp => hs0 p (hprn p hp)
  have hDI : D ≠ I := fun q => by obtain ⟨o, ho⟩ := it.fresh.2; rw [← q, hDnone] at ho; cases ho
  have hDc : D ∉ (compFrm Φ scope own caps L).priv := fun hp => by have := hprv D hp; rw [hLD] at this; exact absurd this (Nat.not_succ_le_self D)
  have hIc : I ∉ (compFrm Φ scope own caps L).priv := fun hp => by obtain ⟨o, ho⟩ := it.fresh.2; rw [hprn I hp] at ho; cases ho
  have hx0 : (compFrm Φ scope own caps L).slot.lookup x = some 0 ∧ x ∈ own := by
    cases own with
    | nil => cases hx
    | cons y r =>
      cases hx
      refine ⟨?_, List.mem_cons_self⟩
      show ((x, 0) :: (ownSlot 1 r ++ _)).lookup x = some 0
      simp
  have X₄ : Ext (compFrm Φ scope own caps L) ρ (frzAt fz H) s ρ (frzAt fz H) { s with heap := pushCells (h₂.push { cls := .type "dict", data := .dict #[] }) scope.names, toks := s.toks } :=
    ⟨fun _ _ q => q, fun _ h => .inl h, fun _ _ h => .inl h, fun b o _ _ _ q => k24 b o (k12 b o (hk b o q)), fun b o _ _ q => ⟨o.slots, k24 b o (k12 b o (hk b o q))⟩, fun b o q => ⟨o, k24 b o (k12 b o (hk b o q))⟩, rfl⟩
  have loop : codeAny G.M A (.compLoop (.DictComp kx vx [⟨.Name x px, iter, ifs, 0⟩] scope pos) 0 (.ref I) (.ref D) (compFrm Φ scope own caps L).env) (RR (.ref D) L)
      { s with heap := pushCells (h₂.push { cls := .type "dict", data := .dict #[] }) scope.names, toks := s.toks } := by
    refine compd_loop foc hx0.1 (comp_sto C hx0.2) (hT L foc (comp_fog fg)) (hK L foc (comp_fog fg)) (hE L foc (comp_fog fg)) f3 hlen Rf rfl ok (E := E) it R₄ X₄ (fun b o q => k24 b o (k12 b o q)) hpc hIc hDc (hs0 D hDnone) hDI hDnone (gD2.at fun o q => k24 D o q) fun ρ' s' R' X' hD' hl => ?_
    refine exE1 hl fun its h11 => andE2 h11 fun gDD hvs => ?_
    obtain ⟨oD, gD, hDo⟩ := Heap.dictOf_iff.mp gDD
    have hLp : L ∈ (compFrm Φ scope own caps L).priv := List.mem_cons_self
    refine andE2 (Rf.back (s₁ := s) (fun _ _ q => q) rfl hpc (fun _ hf => .inl hf) R' X') fun Rb Xb => ?_
    obtain ⟨Ru, Xu⟩ := R.unfrz fz Rb Xb
    have hDp : D ∉ Φ.priv := fun hp => by obtain ⟨o, gg⟩ := R.priv_at hp; rw [hs0 D hDnone] at gg; cases gg
    have hb0 : ∀ a, s.heap.get? a = none → G.hb.get? a = none := fun a ha => by
      cases q : G.hb.get? a with
      | none => rfl
      | some o => rw [R.base a o q] at ha; cases ha
    have hmod : (D == sysModules) = false := by
      obtain ⟨o, q⟩ := R.stat
      have h1 := Heap.lt_size (hk _ _ (R.base _ _ q))
      rw [hD] at h1
      have h2 : sysModules < cStatics := by decide
      exact beq_false_of_ne (Nat.ne_of_gt (Nat.lt_trans h2 h1))
    refine andE3 (Ru.adopt (x := .dict vs) gD hD' hDp (R.freshF (hs0 D hDnone)) (hb0 D (hs0 D hDnone)) hmod ⟨its, hDo, hvs⟩) fun Ra ha _ => ?_
    have Xa := Xu.adopt Ru (x := .dict vs) (hs0 D hDnone)
    obtain ⟨m, hns, _⟩ := R'.fr
    refine k D L _ s' m Ra Xa (VR.ref ha) hns (fun i hi => ?_) (fun hp => ?_) (hb0 L (hpc L hLp)) (hpc L hLp)
    · by_cases h1 : i = (Mine.unfrz fz H H₂).length
      · simp only [rhoAdd, h1, if_true] at hi; cases hi; exact hDc hLp
      · simp only [rhoAdd, h1, if_false] at hi; exact (R'.pr L hLp).2.1 i hi
    · obtain ⟨o, gg⟩ := R.priv_at hp; rw [hpc L hLp] at gg; cases gg
  refine exE4 it fun fp wr P St h18 => andE7 h18 fun W st0 hwr hIn hfp hobj hP => ?_
  exact codeAny_compStart_dict loop (W.self 0 _ _ _ (W.frame _ _ _ st0 fun c _ o q => k24 c o (k12 c o q)) loop)
theorem snd_dcomp (fo : FOk Φ) (fg : FOkG Φ) {scope : Scope} {own : List Str} {caps : List (Str × Nat)} (C : CompOk Φ scope own caps) {x : Str} {px pos : Pos} {kx vx iter : Expr} {ifs : List Expr} {f : PM V} {t : PM Bool} {gk gv : PM V}
    (hx : own.head? = some x) (d0 : 0 < d) (hfs : ∀ x, foldedSetIterable iter Φ.env x = pure x) (h1 : SndE G Φ d (eval iter Φ.env) f) (hT : ∀ L, FOk (compFrm Φ scope own caps L) → FOkG (compFrm Φ scope own caps L) → SndT G (compFrm Φ scope own caps L) d ifs t)
    (hK : ∀ L, FOk (compFrm Φ scope own caps L) → FOkG (compFrm Φ scope own caps L) → SndE G (compFrm Φ scope own caps L) d (eval kx (compEnv Φ scope L)) gk)
    (hE : ∀ L, FOk (compFrm Φ scope own caps L) → FOkG (compFrm Φ scope own caps L) → SndE G (compFrm Φ scope own caps L) d (eval vx (compEnv Φ scope L)) gv) :
    SndE G Φ d (eval (.DictComp kx vx [⟨.Name x px, iter, ifs, 0⟩] scope pos) Φ.env) (eDComp f own caps t gk gv) := by
  intro e H Y e' H' hf ρ s R A E ok
  refine hide fun PQ hpq => ?_
  refine bnd3 hf fun X₁ e₁ H₁ f1 hf => ?_
  refine bnd2 hf fun items fz f2 hf => ?_
  split at hf
  · rename_i hlen
    refine bnd3 hf fun vs e₂ H₂ f3 hf => ?_
    cases hf
    refine hpq ?_
    rw [arm_eval_DictComp]
    refine wpAny_comprehension_free (use := none) rfl hfs (C.closure R) C.kind C.names (h1.run f1 R ok fun xv ρ₁ s₁ R₁ X₁ v₁ => ?_)
    refine compd_block (RR := fun acc C => compPost G.M A E none _ acc C) fo fg C hx hT hK hE R₁ v₁ f2 hlen f3 ok d0 fun D L ρ' s' m R' X' v' hns hC hp hb h0 => ⟨m, hns, fun h' hs' => ?_⟩
    refine andE3 (comp_fin R' X' hns hC hp (R₁.freshF h0) hb h0 hs') fun a b c => ?_
    exact ⟨ρ', a, X₁.trans b, c _ _ v'⟩
  · first | exact nn hf | exact nf hf | cases hf
theorem st_assign_dcomp (fo : FOk Φ) (fg : FOkG Φ) {scope : Scope} {own : List Str} {caps : List (Str × Nat)} (C : CompOk Φ scope own caps) {x y : Str} {i : Nat} {px py pos spos : Pos} {kx vx iter : Expr} {ifs : List Expr} {f : PM V} {t : PM Bool} {gk gv : PM V}
    (hs : Φ.slot.lookup y = some i) (hst : Sto Φ y) (hsw : swapsWith (.DictComp kx vx [⟨.Name x px, iter, ifs, 0⟩] scope pos) (some (.Name y py)) spos.line Φ.env = pure true)
    (hx : own.head? = some x) (d0 : 0 < d) (hfs : ∀ x, foldedSetIterable iter Φ.env x = pure x) (h1 : SndE G Φ d (eval iter Φ.env) f) (hT : ∀ L, FOk (compFrm Φ scope own caps L) → FOkG (compFrm Φ scope own caps L) → SndT G (compFrm Φ scope own caps L) d ifs t)
    (hK : ∀ L, FOk (compFrm Φ scope own caps L) → FOkG (compFrm Φ scope own caps L) → SndE G (compFrm Φ scope own caps L) d (eval kx (compEnv Φ scope L)) gk)
    (hE : ∀ L, FOk (compFrm Φ scope own caps L) → FOkG (compFrm Φ scope own caps L) → SndE G (compFrm Φ scope own caps L) d (eval vx (compEnv Φ scope L)) gv) :
    SndF G Φ d (exec (.Assign [.Name y py] (.DictComp kx vx [⟨.Name x px, iter, ifs, 0⟩] scope pos) spos) Φ.env) (mAssign i (eDComp f own caps t gk gv)) := by
  intro e H Y e' H' hf ρ s R A E ok
  refine hide fun PQ hpq => ?_
  refine bnd3 hf fun Z e₅ H₅ hc hm => ?_
  refine bnd3 hm fun u e₆ H₆ fs hm => ?_
  cases hm
  refine hpq ?_
  clear hf
  refine bnd3 hc fun X₁ e₁ H₁ f1 hf => ?_
  refine bnd2 hf fun items fz f2 hf => ?_
  split at hf
  · rename_i hlen
    refine bnd3 hf fun vs e₂ H₂ f3 hf => ?_
    cases hf
    rw [exec_Assign_Name_used _ _ _ _ hsw]
    refine wpAny_bind (wpAny_standAt (wpAny_bind ?_))
    show wpAny _ A (do let _ ← comprehension (.DictComp kx vx [⟨.Name x px, iter, ifs, 0⟩] scope pos) scope Φ.env _ newDict false (eval iter Φ.env) (some (assign (.Name y py) Φ.env))) _ _ s
    refine wpAny_bind (wpAny_mono (wpAny_comprehension_free (use := some (assign (.Name y py) Φ.env)) (Q := fun _ s' => ∃ ρ', Rel G Φ ρ' e₆ H₆ s' ∧ Ext Φ ρ H s ρ' H₆ s' ∧ FR G ρ' s'.heap .next .next) rfl hfs (C.closure R) C.kind C.names
      (h1.run f1 R ok fun xv ρ₁ s₁ R₁ X₁ v₁ => ?_)) (fun _ s' hq => wpAny_pure (wpAny_pure hq)) fun _ _ e => e)
    refine compd_block (RR := fun acc C => compPost G.M A E (some (assign (.Name y py) Φ.env)) _ acc C) fo fg C hx hT hK hE R₁ v₁ f2 hlen f3 ok d0 fun D L ρ' s' m R' X' v' hns hC hp hb h0 => ?_
    show wpAny _ A (assign (.Name y py) Φ.env (.ref D)) _ _ _
    refine wpAny_assign_Name (store_var fo hs hst fs R' v' fun s₂ R₂ X₂ => ⟨m, ?_, fun h' hs' => ?_⟩)
    · refine exE3 hns fun oL es ep h20 => andE3 h20 fun g1 g2 g3 => ?_
      exact exI3 oL es ep ⟨X₂.keep _ _ (fun ⟨q, _, hq, _⟩ => hC q hq) hp (R₁.freshF h0) g1, g2, g3⟩
    · have hns2 : s₂.heap.Ns L m := by
        refine exE3 hns fun oL es ep h21 => andE3 h21 fun g1 g2 g3 => ?_
        exact exI3 oL es ep ⟨X₂.keep _ _ (fun ⟨q, _, hq, _⟩ => hC q hq) hp (R₁.freshF h0) g1, g2, g3⟩
      refine andE3 (comp_fin R₂ (X'.trans X₂) hns2 hC hp (R₁.freshF h0) hb h0 hs') fun a b c => ?_
      exact ⟨ρ', a, X₁.trans b, rfl⟩
  · first | exact nn hf | exact nf hf | cases hf
end
end Mine
end
section
set_option tactic.hygienic false
open PySem PySem.W PyProof.Rows PySem.Calls PySem.SeqAt
namespace Mine
section
variable {G : Gl} {Φ : Frm} {d : Nat} {ρ ρ' ρ₀ : Rho} {e e' : AEnv} {H H' H₀ : AHeap} {s s' s₀ : Shared}
theorem vrs_of_get : ∀ {Xs : List V} {vs : List Value} {h : Heap}, vs.length = Xs.length → (∀ (i : Nat) X v, Xs[i]? = some X → vs[i]? = some v → VR G ρ h X v) → VRs G ρ h Xs vs
  | [], [], _, _, _ => VRs.nil
  | [], _ :: _, _, hl, _ => by simp at hl
  | _ :: _, [], _, hl, _ => by simp at hl
  | X :: Xs, v :: vs, h, hl, q => VRs.cons (q 0 X v rfl rfl) (vrs_of_get (by simpa using hl) fun i X v h1 h2 => q (i + 1) X v (by simpa using h1) (by simpa using h2))
set_option tactic.hygienic true in
theorem collect_of {X : V} {v : Value} {items : List V} {fz : Option Nat} (hv : VR G ρ s.heap X v) (hi : vItems X H = some (items, fz)) (hX : ∀ a b c, X ≠ .rng a b c) (hX2 : ∀ b i, X ≠ .view b i) (hlen : items.length ≤ 5000) (R : Rel G Φ ρ e H s) {A : Around} (hh : A.handled = none) {E : Value → Shared → Prop} {Q : List Value → Shared → Prop}
    (k : ∀ vs h₁ tk, VRs G ρ h₁ items vs → (∀ b o, s.heap.get? b = some o → h₁.get? b = some o) → Q vs { s with heap := h₁, toks := tk }) : wpAny G.M A (collect v) Q E s := by
  unfold vItems at hi
  split at hi
  · rename_i i
    simp only [VR] at hv
    obtain ⟨a, ha, rfl⟩ := hv
    split at hi
    · rename_i vs hx
      cases hi
      obtain ⟨y, hy, hyt⟩ := thaw_some hx
      obtain ⟨o, g, om⟩ := R.at hy ha
      rw [hyt] at om
      obtain ⟨its, n, rfl, hvs⟩ := om
      have hl : its.size = items.length := by have := hvs.length; simpa using this
      exact wpAny_collect_seq a (.inl rfl) g rfl rfl (fun h' hk => k its.toList h' s.toks (VRs.mono (fun _ _ q => q) (fun b o _ q => hk b o q) _ _ hvs) hk) (size_le (by (first | lia | omega)))
    · rename_i kvs hx
      cases hi
      obtain ⟨y, hy, hyt⟩ := thaw_some hx
      obtain ⟨o, g, om⟩ := R.at hy ha
      rw [hyt] at om
      obtain ⟨kvs', ⟨es, ep, d1, d2, d3, d4, d5⟩, hkv⟩ := om
      have hD : s.heap.DictAt (PySem.intKind G.prog G.w) a kvs' ep := ⟨o, es, g, d1, d2, d3, d4, d5⟩
      have hl : kvs'.length = kvs.length := hkv.length
      simp only [List.length_map] at hlen
      refine kdu_collect (kdl_dict (knd := PySem.intKind G.prog G.w) (kvs := kvs') (ep := ep) (R.lo i a ha).2) hh hD (size_le (by (first | lia | omega))) fun h' tk acc hk hit => k acc.toList h' tk ?_ hk
      refine vrs_of_get (by simp [hit.1, hl]) fun j Y u h1 h2 => ?_
      obtain ⟨k0, x0, q1, q2⟩ := hit.2 j u (by simpa using h2)
      rw [List.getElem?_map] at h1
      obtain ⟨p, hp, rfl⟩ := Option.map_eq_some_iff.mp h1
      obtain ⟨u', hu1, _⟩ := hkv.get (i := j) (k := p.1) (a := p.2) hp
      rw [q1] at hu1; cases hu1
      cases u <;> simp [PySem.intKind, Value.isInt] at q2
      subst q2
      exact VR.int _ _
    · cases hi
  · rename_i vs
    cases hi
    simp only [VR] at hv
    obtain ⟨a, its, n, rfl, g, hvs⟩ := hv
    have hl : its.size = items.length := by have := hvs.length; simpa using this
    exact wpAny_collect_seq a (.inr rfl) g rfl rfl (fun h' hk => k its.toList h' s.toks (VRs.mono (fun _ _ q => q) (fun b o _ q => hk b o q) _ _ hvs) hk) (size_le (by (first | lia | omega)))
  · exact absurd rfl (hX _ _ _)
  · exact absurd rfl (hX2 _ _)
  · cases hi
theorem sortedHeap_at {h : Heap} {vs : List Value} {n : Nat} {a : Addr} (out : Array Value) (ho : h.get? a = some (seqObj "list" vs.toArray n)) :
    (∃ e1, (sortedHeap h a vs out).get? a = some (seqObj "list" out e1)) ∧ ∀ b o, b ≠ a → h.get? b = some o → (sortedHeap h a vs out).get? b = some o := by
  have h1 : (h.update a (Obj.mapSeq fun _ => #[])).get? a = some (seqObj "list" #[] (n + 1)) ∨ ∃ e1, (h.update a (Obj.mapSeq fun _ => #[])).get? a = some (seqObj "list" #[] e1) := .inr ⟨_, get?_update_seq ho (fun _ => #[])⟩
  obtain ⟨e1, h1⟩ : ∃ e1, (h.update a (Obj.mapSeq fun _ => #[])).get? a = some (seqObj "list" #[] e1) := ⟨_, get?_update_seq ho (fun _ => #[])⟩
  have h2 := Heap.get?_push_of_some (seqObj "list" #[] 0) (Heap.get?_push_of_some (seqObj "tuple" vs.toArray 0) h1)
  refine ⟨⟨_, get?_update_seq h2 (fun _ => out)⟩, fun b o hb q => ?_⟩
  have h3 : (h.update a (Obj.mapSeq fun _ => #[])).get? b = some o := (Heap.get?_update_other _ _ (Ne.symm hb)).trans q
  exact (Heap.get?_update_other _ _ (Ne.symm hb)).trans (Heap.get?_push_of_some (seqObj "list" #[] 0) (Heap.get?_push_of_some (seqObj "tuple" vs.toArray 0) h3))
noncomputable def oSorted : FOp := fun Ys H => match Ys with
  | [.ref i] => (vItems (.ref i) H).bind fun it => (asInts it.1).bind fun ns => if ns.length < 64 then some (.ref H.length, H ++ [.list ((sortI ns).map .int)]) else none
  | [.tup vs] => (vItems (.tup vs) H).bind fun it => (asInts it.1).bind fun ns => if ns.length < 64 then some (.ref H.length, H ++ [.list ((sortI ns).map .int)]) else none
  | _ => none
theorem asInts_len : ∀ {Xs : List V} {ns : List Int}, asInts Xs = some ns → Xs.length = ns.length
  | [], ns, h => by cases h; rfl
  | .int i :: r, ns, h => by
    simp only [asInts] at h
    obtain ⟨ms, h1, rfl⟩ := Option.map_eq_some_iff.mp h
    simp [asInts_len h1]
  | .none :: _, _, h => by cases h
  | .bool _ :: _, _, h => by cases h
  | .tup _ :: _, _, h => by cases h
  | .ref _ :: _, _, h => by cases h
  | .ext _ :: _, _, h => by cases h
  | .rng _ _ _ :: _, _, h => by cases h
  | .view _ _ :: _, _, h => by cases h
theorem sorted_core {X : V} {v : Value} {items : List V} {fz : Option Nat} {ns : List Int} (hv : VR G ρ s.heap X v) (hi : vItems X H = some (items, fz)) (hX : ∀ a b c, X ≠ .rng a b c) (hX2 : ∀ b i, X ≠ .view b i) (hns : asInts items = some ns) (h64 : ns.length < 64)
    (R : Rel G Φ ρ e H s) {A : Around} (ok : OkA Φ d A) (d0 : 0 < d) {E : Value → Shared → Prop} : wpAny G.M A (call (.builtin "sorted") [v]) (fun y s' => ∃ ρ', Rel G Φ ρ' e (H ++ [.list ((sortI ns).map .int)]) s' ∧ Ext Φ ρ H s ρ' (H ++ [.list ((sortI ns).map .int)]) s' ∧ VR G ρ' s'.heap (.ref H.length) y) E s := by
  have hlen := asInts_len hns
  refine Calls.call_function_entry kind_sorted plain_sorted entry_sorted (args_sorted1 _) ?_
  unfold Builtin.«sorted»
  refine wpAny_bind (m := checkCount "sorted" 1 1 _) (wpAny_pure ?_)
  refine wpAny_bind (collect_of (A := A.in1) hv hi hX hX2 (by (first | lia | omega)) R (ok.1 d0) fun vs h₁ tk hvs hk => ?_)
  refine wpAny_bind (wpAny_newList ?_ (hsz := size_le (by rw [hvs.length]; (first | lia | omega))))
  obtain ⟨R₁, X₁⟩ := R.junk tk hk
  have hI := asInts_ok hns hvs
  have hoL : (h₁.push (seqObj "list" vs.toArray 0)).get? h₁.objs.size = some (seqObj "list" vs.toArray 0) := Heap.get?_push_size _ rfl
  refine wpAny_bind (wpAny_holding (wpAny_call_entry F.slot_list_sort ⟨_, hoL, rfl⟩ F.entry_list_sort (list_sort_tree hoL hI (by rw [hvs.length]; (first | lia | omega)) fun out ns' a1 a2 a3 => ⟨_, rfl, ?_⟩) (F.args_list_sort_1 _)))
  have en := eq_sortI a2 a3
  subst en
  obtain ⟨⟨e1, g1⟩, g2⟩ := sortedHeap_at out hoL
  obtain ⟨a, b, c⟩ := R₁.alloc (h' := sortedHeap (h₁.push (seqObj "list" vs.toArray 0)) h₁.objs.size vs out) (x := .list ((sortI ns).map .int)) tk (Nat.le_refl _) g1
    (fun b o q => g2 b o (Nat.ne_of_lt (Heap.lt_size q)) (Heap.get?_push_of_some _ q)) fun _ _ _ => ⟨out, e1, rfl, ints_VRs a1⟩
  exact wpAny_pure ⟨_, rfl, _, a, X₁.trans b, VR.ref c⟩
set_option tactic.hygienic true in
theorem oSorted_ok (d0 : 0 < d) : FOpR G d (.builtin "sorted") oSorted := by
  intro Ys ws Φ e H x H' hf ρ s R hP A E ok
  refine hide fun PQ hpq => ?_
  unfold oSorted at hf
  split at hf
  · rename_i i
    obtain ⟨w, rfl, hw⟩ := VRs_one hP
    refine bnd2 hf fun items fz f1 hf => ?_
    refine bnd1 hf fun ns f2 hf => ?_
    split at hf
    · rename_i h64
      cases hf
      refine hpq ?_
      exact sorted_core hw f1 (by intros; simp) (by intros; simp) f2 h64 R ok d0
    · first | exact nn hf | exact nf hf | cases hf
  · rename_i vs
    obtain ⟨w, rfl, hw⟩ := VRs_one hP
    refine bnd2 hf fun items fz f1 hf => ?_
    refine bnd1 hf fun ns f2 hf => ?_
    split at hf
    · rename_i h64
      cases hf
      refine hpq ?_
      exact sorted_core hw f1 (by intros; simp) (by intros; simp) f2 h64 R ok d0
    · first | exact nn hf | exact nf hf | cases hf
  · first | exact nn hf | exact nf hf | cases hf
noncomputable def oTuple : FOp := fun Ys H => match Ys with
  | [.ref i] => match (H[i]?).map O.thaw with
    | some (.list vs) => if vs.length ≤ 5000 then some (.tup vs, H) else none
    | _ => none
  | _ => none
set_option tactic.hygienic true in
theorem oTuple_ok : FOpR G d (.type "tuple") oTuple := by
  intro Ys ws Φ e H x H' hf ρ s R hP A E ok
  refine hide fun PQ hpq => ?_
  unfold oTuple at hf
  split at hf
  · rename_i i
    obtain ⟨w, rfl, hw⟩ := VRs_one hP
    simp only [VR] at hw; obtain ⟨a, ha, rfl⟩ := hw
    split at hf
    · rename_i vs hq
      split at hf
      · rename_i hl
        cases hf
        obtain ⟨y, hy, hyt⟩ := thaw_some hq
        obtain ⟨o, g, om⟩ := R.at hy ha
        rw [hyt] at om
        obtain ⟨its, n, rfl, hvs⟩ := om
        have hlen : its.size = vs.length := by have := hvs.length; simpa using this
        refine hpq ?_
        refine call_tuple_list (l := a) (items := its) ⟨_, g, rfl, n, rfl⟩ (fun h' hk => ?_) (size_le (by (first | lia | omega)))
        have hk' : ∀ b o, s.heap.get? b = some o → (h'.push { cls := .type "tuple", data := .seq its }).get? b = some o := fun b o q => Heap.get?_push_of_some _ (hk b o q)
        obtain ⟨R', X'⟩ := R.junk s.toks hk'
        refine ⟨ρ, R', X', ?_⟩
        simp only [VR]
        exact ⟨_, its, 0, rfl, Heap.get?_push_size _ rfl, X'.vrs R hvs⟩
      · first | exact nn hf | exact nf hf | cases hf
    · first | exact nn hf | exact nf hf | cases hf
  · first | exact nn hf | exact nf hf | cases hf
theorem meets_bool_list (l : Addr) (items : Array Value) (hsz : (items.size : Int) < 2 ^ 63) : Meets (Builtin.«bool.__new__» ⟨[.type "bool", .ref l], []⟩) (fun _ R s => s.heap.IsList l items ∧ R (.ok (.ret (.bool (!items.isEmpty)))) { s with toks := s.toks + 1 + 1 }) :=
  Meets.of_wp fun prog w A R s hs => by
    obtain ⟨hp, g, d, tk, os⟩ := s
    obtain ⟨h1, h2⟩ := hs
    have f1 := F.conv_sub_bool
    repeat (any_goals (first | assumption | with_reducible refine wpAny_truthy_list h1 hsz ?_ | wp_step))
    all_goals first | exact ⟨_, rfl, h2⟩ | skip
noncomputable def oBoolF : FOp := fun Ys H => match Ys with
  | [.ref i] => match (H[i]?).map O.thaw with
    | some (.list vs) => if vs.length ≤ 5000 then some (.bool (vs.length != 0), H) else none
    | _ => none
  | _ => none
set_option tactic.hygienic true in
theorem oBoolF_ok : FOpR G d (.type "bool") oBoolF := by
  intro Ys ws Φ e H x H' hf ρ s R hP A E ok
  refine hide fun PQ hpq => ?_
  unfold oBoolF at hf
  split at hf
  · rename_i i
    obtain ⟨w, rfl, hw⟩ := VRs_one hP
    simp only [VR] at hw; obtain ⟨a, ha, rfl⟩ := hw
    split at hf
    · rename_i vs hq
      split at hf
      · rename_i hl
        cases hf
        obtain ⟨y, hy, hyt⟩ := thaw_some hq
        obtain ⟨o, g, om⟩ := R.at hy ha
        rw [hyt] at om
        obtain ⟨its, n, rfl, hvs⟩ := om
        have hlen : its.size = vs.length := by have := hvs.length; simpa using this
        obtain ⟨R', X'⟩ := R.toks (s.toks + 1 + 1)
        refine hpq ?_
        refine call_bool_1 (meets_bool_list a its (by rw [hlen]; omega)) ⟨⟨_, g, rfl, n, rfl⟩, rfl, ρ, R', X', ?_⟩
        have : (!its.isEmpty) = (vs.length != 0) := by rw [← hlen]; rcases its with ⟨l⟩; cases l <;> simp
        rw [this]; exact VR.bool _
      · first | exact nn hf | exact nf hf | cases hf
    · first | exact nn hf | exact nf hf | cases hf
  · first | exact nn hf | exact nf hf | cases hf
noncomputable def oSet : FOp := fun Ys H => match Ys with
  | [] => some (.ref H.length, H ++ [.set []])
  | _ => none
theorem oSet_ok : FOpR G d (.type "set") oSet := by
  intro Ys ws Φ e H x H' hf ρ s R hP A E ok
  refine hide fun PQ hpq => ?_
  unfold oSet at hf
  split at hf
  · first | exact nn hf | exact nf hf | cases hf
    refine hpq ?_
    rw [VRs_nil hP]
    refine call_set_0 fun led => ?_
    have hE : ElemsOf (PySem.intKind G.prog G.w) ([] : List (Int × Value)) := fun e he => by simp at he
    obtain ⟨a, b, c⟩ := R.alloc (h' := s.heap.push { cls := .type "set", dict := none, data := .set #[] 0 (.fresh 0 0 led) }) (x := .set []) s.toks (Nat.le_refl _) (Heap.get?_push_size _ rfl) (fun b o q => Heap.get?_push_of_some _ q)
      fun _ _ _ => ⟨#[], 0, _, ⟨rfl, rfl, rfl⟩, rfl, hE, fun k => by simp, by decide, rfl, rfl⟩
    exact ⟨_, a, b, VR.ref c⟩
  · first | exact nn hf | exact nf hf | cases hf
end
end Mine
end
section
set_option tactic.hygienic false
open PySem PySem.W PyProof.Rows PySem.Calls PySem.SeqAt Builtin Builtin.ObjectAttr Builtin.Getset_descriptor
namespace Mine
section
variable {prog : Program} {w : World} {A : Around} {s : Shared} {K : Frag} {x C p : Addr} {R : Result → Shared → Prop}
noncomputable def slotPut (i : Nat) (v : Value) (o : Obj) : Obj := { o with slots := (o.slots ++ Array.replicate (i + 1 - o.slots.size) none).setIfInBounds i (some v) }
theorem slot_setU {ox : Obj} {od : Option Obj} {v : Value} {i : Nat} (X : K.In s.heap) (I : PySem.W.InstAt s.heap x ox C od) (hp : slotIn K p C = some i) (hi : i < 1000)
    (h : R (.ok (.ret .none)) { s with heap := s.heap.update x (slotPut i v) }) : codeAny (model prog w) A (.call (.builtin "member_descriptor.__set__") ⟨[.ref p, .ref x, v], []⟩) R s := by
  refine exE8 (slot_of X hp) fun n tn owner behind tb d sl cd h0 => andE5 h0 fun ho hc hm hb e0_4 => ?_
  subst e0_4
  obtain ⟨hh, g, dr, t, os⟩ := s
  have L0 := I.type (M := model prog w)
  have L1 := looks_mroIn (M := model prog w) X hm
  have L2 : Looks (model prog w) hh (Slots.slotNamesOf (.ref C)) cd.slotNames := (looks_clsIn X hc).andThen .now
  have hx := I.at_
  dsimp only at ho hx L0 L1
  have f0 := looks_field (M := model prog w) ho 0 (v := .str n tn) rfl
  have f1 := looks_field (M := model prog w) ho 1 (v := owner) rfl
  have f3 := looks_field (M := model prog w) ho 3 (v := .builtin "proto.slot#set") rfl
  have f4 := looks_field (M := model prog w) ho 4 (v := .int behind tb) rfl
  refine codeAny_call_builtin KF.slot_mset.plain KF.entry_mset (KF.slot_mset.check _ _ _ _ _ _ _ _ ⟨_, ho, rfl⟩ (KF.args_mset _ _ _) ?_)
  unfold Builtin.«member_descriptor.__set__» descrSet descrStoreThrough descrCheckInstance descrNameAndClass isInstance
  have f5 : Looks (model prog w) hh (descrItself (.ref p)) [.ref p] := ((Looks.ld (part := none) ho).andThen .now).andThen (Looks.of_pure (by kernel_rfl))
  repeat lk
  refine ⟨Code.quiet_builtin _ (by decide +kernel), codeAny_builtin KF.entry_slotset ?_⟩
  unfold Builtin.«proto.slot#set» Slots.target
  repeat lk
  rw [if_neg hb]
  refine wpAny_pure (wpAny_bind ?_)
  unfold setSlotAt
  dsimp only
  rw [if_neg (by rw [sizeLine_eq]; (first | lia | omega))]
  exact wpAny_updatePart hx (wpAny_pure h)
set_option tactic.hygienic true in
theorem osa_dictU {ox : Obj} {dx : Addr} {name : Str} {tk : Tok} {v : Value} {es es' : List DictEntry} {n n' : Nat} (X : K.In s.heap) (I : PySem.W.InstAt s.heap x ox C (some (dictOf es n))) (hd : ox.dict = some dx) (D : s.heap.get? dx = some (dictOf es n)) (hp : plainOver K C = true)
    (ht : takerIn K C name = some none) (hh : (clsIn K C).any (·.hasDict) = true) (hl : (getL name es).isSome = true)
    (e : (putL name (PyData.keyHash w.params name) (.str name s.toks) v es, putN name es n) = (es', n')) (hz : es'.length ≤ 1000)
    (h : ∀ h', h'.get? dx = some (dictOf es' n') → (∀ b o, b ≠ dx → s.heap.get? b = some o → h'.get? b = some o) → R (.ok (.ret .none)) { s with heap := h', toks := s.toks + 1 }) :
    codeAny (model prog w) A (.call (.builtin "object.__setattr__") ⟨[.ref x, .str name tk, v], []⟩) R s := by
  refine osa_open X I hp ht fun b => ?_
  refine exE1 (any_some hh) fun cd h2 => andE2 h2 fun hc hd' => ?_
  obtain ⟨e1, e2⟩ := Prod.mk.inj e
  have D' : (s.heap.update dx (Obj.putName name (PyData.keyHash w.params name) (.str name s.toks) v)).get? dx = some (dictOf es' n') := by
    have := Heap.get?_update_self (Obj.putName name (PyData.keyHash w.params name) (.str name s.toks) v) D (by rw [putName_dict]; rfl)
    rw [this, putName_dict, e1, e2]
  obtain ⟨hx, hcl, hn, -⟩ := I
  obtain ⟨oc, odi, oda, osl⟩ := ox
  dsimp only at hcl hd
  subst hcl hd
  refine wpAny_bind (wpAny_pure (wpAny_bind (wpAny_bind (wpAny_loadPart hx (wpAny_bind ((looks_clsIn X hc).here ?_))))))
  rw [hd']
  refine wpAny_pure (a := some dx) (wpAny_bind (wpAny_pure (wpAny_bind ?_)))
  unfold nsSet
  refine wpAny_bind (wpAny_bind (wpAny_askSetting (wpAny_pure (wpAny_bind (wpAny_mkText (wpAny_bind (wpAny_loadPart D ?_)))))))
  dsimp only
  have c : (!es.toArray.any (·.key.isStr name) && es.toArray.any (·.refKey)) = false := by
    rw [← Array.any_toList, ← Array.any_toList]
    unfold getL at hl
    split at hl
    · rename_i en he
      rw [List.any_eq_true.mpr ⟨en, List.mem_of_find?_eq_some he, List.find?_some he⟩]; rfl
    · split at hl
      · cases hl
      · rename_i z; rw [Bool.not_eq_true] at z; rw [z, Bool.and_false]
  rw [aRefKeyMayBeTheName_at, c]
  refine wpAny_updatePart D ?_
  refine wpAny_bind (wpAny_lookBehind D' (pastItsLine_dict (by rw [List.size_toArray, sizeLine_eq]; (first | lia | omega))) ?_)
  exact wpAny_pure (h _ D' fun b o hb q => (Heap.get?_update_other _ _ (Ne.symm hb)).trans q)
end
end Mine
end
section
set_option tactic.hygienic false
open PySem PySem.W PyProof.Rows PySem.Calls PySem.SeqAt
namespace Mine
theorem isStr_eq {v : Value} {a b : Str} (h : v.isStr a = true) (g : v.isStr b = true) : a = b := by
  cases v <;> simp [Value.isStr] at h g
  rw [← h, ← g]
theorem isStr_self (a : Str) (t : Tok) : (Value.str a t).isStr a = true := by simp [Value.isStr]
theorem getL_put_self (name : Str) (hsh : Int) (t : Tok) (v : Value) : ∀ es : List DictEntry, getL name (putL name hsh (.str name t) v es) = some (some v)
  | [] => by simp [getL, putL, isStr_self]
  | en :: r => by
    unfold putL
    split
    · rename_i h; simp [getL, h]
    · rename_i h
      have ih := getL_put_self name hsh t v r
      unfold getL at ih ⊢
      rw [List.find?_cons_of_neg (by simpa using h)]
      cases q : List.find? (fun x => x.key.isStr name) (putL name hsh (.str name t) v r) with
      | some x => rw [q] at ih; exact ih
      | none => rw [q] at ih; dsimp only at ih; split at ih <;> cases ih
theorem getL_put_other {name x : Str} (hx : x ≠ name) (hsh : Int) (t : Tok) (v : Value) : ∀ es : List DictEntry, getL x (putL name hsh (.str name t) v es) = getL x es
  | [] => by
    have : ((Value.str name t).isStr x) = false := by
      cases q : (Value.str name t).isStr x with
      | false => rfl
      | true => exact absurd (isStr_eq q (isStr_self name t)) hx
    simp [getL, putL, this, DictEntry.refKey]
  | en :: r => by
    unfold putL
    split
    · rename_i h
      have : en.key.isStr x = false := by
        cases q : en.key.isStr x with
        | false => rfl
        | true => exact absurd (isStr_eq q h) hx
      simp [getL, this, DictEntry.refKey]
    · rename_i h
      have ih := getL_put_other hx hsh t v r
      unfold getL at ih ⊢
      cases q : en.key.isStr x with
      | true => rw [List.find?_cons_of_pos (by simpa using q), List.find?_cons_of_pos (by simpa using q)]
      | false =>
        rw [List.find?_cons_of_neg (by simp [q]), List.find?_cons_of_neg (by simp [q]), List.any_cons, List.any_cons]
        cases q1 : List.find? (fun y => y.key.isStr x) (putL name hsh (.str name t) v r) with
        | some y =>
          rw [q1] at ih
          cases q2 : List.find? (fun y => y.key.isStr x) r with
          | some z => rw [q2] at ih; exact ih
          | none => rw [q2] at ih; dsimp only at ih; split at ih <;> cases ih
        | none =>
          rw [q1] at ih
          cases q2 : List.find? (fun y => y.key.isStr x) r with
          | some z => rw [q2] at ih; dsimp only at ih; split at ih <;> cases ih
          | none =>
            rw [q2] at ih
            dsimp only at ih ⊢
            cases en.refKey with
            | true => simp
            | false => simpa using ih
theorem putL_len (name : Str) (hsh : Int) (k v : Value) : ∀ es : List DictEntry, (putL name hsh k v es).length ≤ es.length + 1 ∧ ((∃ y, getL name es = some (some y)) → (putL name hsh k v es).length = es.length)
  | [] => by simp [putL, getL]
  | en :: r => by
    have ih := putL_len name hsh k v r
    unfold putL
    split
    · simp
    · rename_i h
      refine ⟨by have := ih.1; simp; omega, fun ⟨y, hy⟩ => ?_⟩
      have : ∃ y, getL name r = some (some y) := by
        unfold getL at hy ⊢
        rw [List.find?_cons_of_neg (by simpa using h)] at hy
        cases q : List.find? (fun x => x.key.isStr name) r with
        | some x => exact ⟨_, rfl⟩
        | none => rw [q] at hy; dsimp only at hy; split at hy <;> cases hy
      simp [ih.2 this]
noncomputable def slotName : Nat → Str
  | 0 => "node"
  | 1 => "npredecessors"
  | _ => "successors"
theorem slotPut_self (i : Nat) (v : Value) (o : Obj) : ((slotPut i v o).slots[i]?).join = some v := by
  unfold slotPut
  have : i < (o.slots ++ Array.replicate (i + 1 - o.slots.size) none).size := by simp; omega
  show (((o.slots ++ Array.replicate (i + 1 - o.slots.size) none).setIfInBounds i (some v))[i]?).join = some v
  rw [Array.getElem?_setIfInBounds_self, if_pos this]
  rfl
theorem slotPut_other {i j : Nat} (h : i ≠ j) (v : Value) (o : Obj) : ((slotPut i v o).slots[j]?).join = (o.slots[j]?).join := by
  unfold slotPut
  rw [Array.getElem?_setIfInBounds_ne h]
  by_cases hj : j < o.slots.size
  · rw [Array.getElem?_append_left hj]
  · rw [Array.getElem?_append_right (by (first | lia | omega)), Array.getElem?_eq_none (xs := o.slots) (by (first | lia | omega)), Array.getElem?_replicate]
    split <;> rfl
structure ClsOk (G : Gl) : Prop where
  get : plainGet G.K G.C "" = true
  set : findIn G.K (.ref G.C) "__setattr__" = some (some (.builtin "object.__setattr__"))
  over : plainOver G.K G.C = true
  hd : hasDictIn G.K G.C = true
  att : ∀ j, j < 4 → findIn G.K (.ref G.C) (attrName j) = some none
  getN : plainGet G.K G.CN "" = true
  setN : findIn G.K (.ref G.CN) "__setattr__" = some (some (.builtin "object.__setattr__"))
  overN : plainOver G.K G.CN = true
  clsN : isClsIn G.K G.CN = true
  slot : ∀ j, j < 3 → ∃ p, findIn G.K (.ref G.CN) (slotName j) = some (some (.ref p)) ∧ specialIn G.K (.ref p) "__get__" = some (some (.builtin "member_descriptor.__get__")) ∧ takesIn G.K (.ref p) = some true ∧ slotIn G.K p G.CN = some j ∧ typeIn G.K (.ref p) = some (.type "member_descriptor")
theorem VR.handed {G : Gl} {ρ : Rho} {h : Heap} : ∀ {X : V} {v : Value}, VR G ρ h X v → handedIn v = true
  | .none, _, q => by simp only [VR] at q; subst q; rfl
  | .bool _, _, q => by simp only [VR] at q; subst q; rfl
  | .int _, _, q => by simp only [VR] at q; obtain ⟨_, rfl⟩ := q; rfl
  | .tup _, _, q => by simp only [VR] at q; obtain ⟨_, _, _, rfl, _⟩ := q; rfl
  | .ref _, _, q => by simp only [VR] at q; obtain ⟨_, _, rfl⟩ := q; rfl
  | .ext _, _, q => by simp only [VR] at q; obtain ⟨_, _, rfl, _⟩ := q; rfl
  | .rng _ _ _, _, q => by simp only [VR] at q; obtain ⟨_, _, _, _, rfl, _⟩ := q; rfl
  | .view _ _, _, q => by simp only [VR] at q; obtain ⟨_, _, rfl, _⟩ := q; rfl
noncomputable def gAttr (j : Nat) (X : V) (H : AHeap) : Option V := match X with
  | .ref i => match (H[i]?).map O.thaw with
    | some (.inst d) => match (H[d]?).map O.thaw with
      | some (.attrs fs) => if j < 4 then (match fs[j]? with | some (some v) => some v | _ => none) else none
      | _ => none
    | _ => none
  | _ => none
noncomputable def gSlot (j : Nat) (X : V) (H : AHeap) : Option V := match X with
  | .ref i => match (H[i]?).map O.thaw with
    | some (.node _ fs) => if j < 3 then (match fs[j]? with | some (some v) => some v | _ => none) else none
    | _ => none
  | _ => none
noncomputable def sAttr (j : Nat) (X Y : V) (H : AHeap) : Option AHeap := match X with
  | .ref i => match (H[i]?).map O.thaw with
    | some (.inst d) => match H[d]? with
      | some (.attrs fs) => if j < 4 ∧ j < fs.length ∧ fs.length ≤ 4 then some (H.set d (.attrs (fs.set j (some Y)))) else none
      | _ => none
    | _ => none
  | _ => none
noncomputable def sSlot (j : Nat) (X Y : V) (H : AHeap) : Option AHeap := match X with
  | .ref i => match H[i]? with
    | some (.node d fs) => if j < 3 ∧ j < fs.length then some (H.set i (.node d (fs.set j (some Y)))) else none
    | _ => none
  | _ => none
section
variable {G : Gl} {Φ : Frm} {d : Nat} {ρ ρ' ρ₀ : Rho} {e e' : AEnv} {H H' H₀ : AHeap} {s s' s₀ : Shared}
theorem attr_inj : ∀ j k, j < 4 → k < 4 → attrName j = attrName k → j = k := by
  intro j k hj hk
  have H : ∀ j k : Fin 4, attrName j.1 = attrName k.1 → j.1 = k.1 := by decide
  exact H ⟨j, hj⟩ ⟨k, hk⟩
set_option tactic.hygienic true in
theorem gAttr_ok (gok : GOk G) (cok : ClsOk G) {j : Nat} {X Y : V} {v : Value} (hf : gAttr j X H = some Y) (R : Rel G Φ ρ e H s) (hv : VR G ρ s.heap X v) {A : Around} {E : Value → Shared → Prop} {Q : Value → Shared → Prop}
    (k : ∀ y s', Rel G Φ ρ e H s' → Ext Φ ρ H s ρ H s' → VR G ρ s'.heap Y y → Q y s') : wpAny G.M A (getAttr v (attrName j) true) Q E s := by
  unfold gAttr at hf
  split at hf
  · rename_i i
    split at hf
    · rename_i dd hq
      split at hf
      · rename_i fs hq2
        split at hf
        · rename_i hj
          split at hf
          · rename_i y hy
            cases hf
            simp only [VR] at hv; obtain ⟨a, ha, rfl⟩ := hv
            obtain ⟨z, hz, hzt⟩ := thaw_some hq
            obtain ⟨o, g, om⟩ := R.at hz ha
            rw [hzt] at om
            obtain ⟨dx, rfl, hdx⟩ := om
            obtain ⟨z2, hz2, hzt2⟩ := thaw_some hq2
            obtain ⟨o2, g2, om2⟩ := R.at hz2 hdx
            rw [hzt2] at om2
            obtain ⟨es, n, rfl, hl, hfs⟩ := om2
            obtain ⟨yo, h1, h2⟩ := hfs j _ hy
            obtain ⟨yv, rfl, h3⟩ := h2
            obtain ⟨R', X'⟩ := R.toks (s.toks + 1)
            exact get_value (gok.inK.keeps R.base) (PySem.W.InstAt.mk g rfl rfl g2) (plainGet_of (name := "") cok.get).1 (findObj_own (od := dictOf es n) cok.hd (cok.att j hj) rfl h1) h3.handed (k yv _ R' X' h3)
          · first | exact nn hf | exact nf hf | cases hf
        · first | exact nn hf | exact nf hf | cases hf
      · first | exact nn hf | exact nf hf | cases hf
    · first | exact nn hf | exact nf hf | cases hf
  · first | exact nn hf | exact nf hf | cases hf
theorem findObj_data0 {K : Frag} {C : Addr} {name : Str} {a g : Value} {od : Option Obj} (hc : (clsIn K C).isSome = true) (ha : findIn K (.ref C) name = some (some a)) (hg : specialIn K a "__get__" = some (some g)) (ht : takesIn K a = some true) : findObj K C od name = some (.bind g a) := by
  obtain ⟨cd, hc⟩ := Option.isSome_iff_exists.mp hc
  unfold findObj
  rw [hc, Option.bind_some, ha, Option.bind_some]
  simp [hg, ht]
set_option tactic.hygienic true in
theorem gSlot_ok (gok : GOk G) (cok : ClsOk G) {j : Nat} {X Y : V} {v : Value} (hf : gSlot j X H = some Y) (R : Rel G Φ ρ e H s) (hv : VR G ρ s.heap X v) {A : Around} {E : Value → Shared → Prop} {Q : Value → Shared → Prop}
    (k : ∀ y s', Rel G Φ ρ e H s' → Ext Φ ρ H s ρ H s' → VR G ρ s'.heap Y y → Q y s') : wpAny G.M A (getAttr v (slotName j) true) Q E s := by
  unfold gSlot at hf
  split at hf
  · rename_i i
    split at hf
    · rename_i dn fs hq
      split at hf
      · rename_i hj
        split at hf
        · rename_i y hy
          cases hf
          simp only [VR] at hv; obtain ⟨a, ha, rfl⟩ := hv
          obtain ⟨z, hz, hzt⟩ := thaw_some hq
          obtain ⟨o, g, om⟩ := R.at hz ha
          rw [hzt] at om
          obtain ⟨sl, dx, rfl, hdx, hfs⟩ := om
          obtain ⟨od, god⟩ := R.rho_at hdx
          obtain ⟨yv, h1, h3⟩ := hfs j _ hy
          obtain ⟨R', X'⟩ := R.toks (s.toks + 1)
          obtain ⟨p, p1, p2, p3, p4, p5⟩ := cok.slot j hj
          have X0 := gok.inK.keeps R.base
          have I : PySem.W.InstAt s.heap a { cls := .ref G.CN, dict := some dx, data := .plain, slots := sl } G.CN (some od) := PySem.W.InstAt.mk g rfl rfl god
          exact get_bind X0 I (plainGet_of (name := "") cok.getN).1 (findObj_data0 cok.clsN p1 p2 p3) (plainGet_of (name := "") cok.getN).2 (wpAny_call (slot_get (s := { s with toks := s.toks + 1 }) X0 I p4 h1 (handed_on h3.handed (k yv _ R' X' h3))))
        · first | exact nn hf | exact nf hf | cases hf
      · first | exact nn hf | exact nf hf | cases hf
    · first | exact nn hf | exact nf hf | cases hf
  · first | exact nn hf | exact nf hf | cases hf
theorem taker_none {K : Frag} {C : Addr} {name : Str} (h : findIn K (.ref C) name = some none) : takerIn K C name = some none := by unfold takerIn; rw [h]; rfl
theorem taker_some {K : Frag} {C : Addr} {name : Str} {a : Value} (h : findIn K (.ref C) name = some (some a)) (t : takesIn K a = some true) : takerIn K C name = some (some a) := by unfold takerIn; rw [h]; simp [t]
theorem filter_set_none : ∀ {fs : List (Option V)} {j : Nat} {Y : V}, fs[j]? = some none → ((fs.set j (some Y)).filter Option.isSome).length = (fs.filter Option.isSome).length + 1
  | [], j, _, h => by simp at h
  | x :: r, 0, Y, h => by simp at h; subst h; simp
  | x :: r, j + 1, Y, h => by
    have ih := filter_set_none (fs := r) (j := j) (Y := Y) (by simpa using h)
    cases x <;> simp [List.filter_cons, ih]
theorem filter_set_some : ∀ {fs : List (Option V)} {j : Nat} {Y y : V}, fs[j]? = some (some y) → ((fs.set j (some Y)).filter Option.isSome).length = (fs.filter Option.isSome).length
  | [], j, _, _, h => by simp at h
  | x :: r, 0, Y, y, h => by simp at h; subst h; simp
  | x :: r, j + 1, Y, y, h => by
    have ih := filter_set_some (fs := r) (j := j) (Y := Y) (y := y) (by simpa using h)
    cases x <;> simp [List.filter_cons, ih]
theorem filter_le (fs : List (Option V)) : (fs.filter Option.isSome).length ≤ fs.length := List.length_filter_le ..
set_option tactic.hygienic true in
theorem sAttr_ok (gok : GOk G) (cok : ClsOk G) {j : Nat} {X Y : V} {v u : Value} (hf : sAttr j X Y H = some H') (R : Rel G Φ ρ e H s) (hv : VR G ρ s.heap X v) (hu : VR G ρ s.heap Y u) {A : Around} {E : Value → Shared → Prop} {Q : Unit → Shared → Prop}
    (k : ∀ s', Rel G Φ ρ e H' s' → Ext Φ ρ H s ρ H' s' → Q () s') : wpAny G.M A (setAttr v (attrName j) u) Q E s := by
  unfold sAttr at hf
  split at hf
  · rename_i i
    split at hf
    · rename_i dd hq
      split at hf
      · rename_i fs hq2
        split at hf
        · rename_i hj
          cases hf
          obtain ⟨hj4, hjl, hfl⟩ := hj
          simp only [VR] at hv; obtain ⟨a, ha, rfl⟩ := hv
          obtain ⟨z, hz, hzt⟩ := thaw_some hq
          obtain ⟨o, g, om⟩ := R.at hz ha
          rw [hzt] at om
          obtain ⟨dx, rfl, hdx⟩ := om
          obtain ⟨o2, g2, om2⟩ := R.at hq2 hdx
          obtain ⟨es, n, rfl, hl, hfs⟩ := om2
          obtain ⟨yo, h1, h2⟩ := hfs j _ (List.getElem?_eq_getElem hjl)
          have X0 := gok.inK.keeps R.base
          have I : PySem.W.InstAt s.heap a (instObj G.C dx) G.C (some (dictOf es n)) := PySem.W.InstAt.mk g rfl rfl g2
          have hpl := putL_len (attrName j) (PyData.keyHash G.w.params (attrName j)) (.str (attrName j) (s.toks + 1)) u es
          have hlen : (putL (attrName j) (PyData.keyHash G.w.params (attrName j)) (.str (attrName j) (s.toks + 1)) u es).length ≤ ((fs.set j (some Y)).filter Option.isSome).length := by
            cases hfj : fs[j] with
            | none =>
              rw [filter_set_none (by rw [List.getElem?_eq_getElem hjl, hfj])]
              have := hpl.1; (first | lia | omega)
            | some y =>
              rw [filter_set_some (y := y) (by rw [List.getElem?_eq_getElem hjl, hfj])]
              rw [hfj] at h2
              obtain ⟨yv, rfl, _⟩ := h2
              rw [hpl.2 ⟨yv, h1⟩]; (first | lia | omega)
          refine set_plain X0 I cok.set (osa_dictU (s := { s with toks := s.toks + 1 }) X0 I rfl g2 cok.over (taker_none (cok.att j hj4)) cok.hd (by rw [h1]; rfl) rfl (Nat.le_trans hlen (by have := filter_le (fs.set j (some Y)); simp at this; (first | lia | omega))) fun h' gh hk => ?_)
          have U := R.upd (h' := h') (x' := .attrs (fs.set j (some Y))) (s.toks + 1 + 1) hdx hq2 rfl rfl gh hk (fun q1 q2 => by
            refine ⟨_, _, rfl, hlen, fun j' x' hx' => ?_⟩
            by_cases hjj : j = j'
            · subst hjj
              rw [List.getElem?_set_self hjl] at hx'
              cases hx'
              exact ⟨some u, getL_put_self .., u, rfl, q1 _ _ hu⟩
            · rw [List.getElem?_set_ne hjj] at hx'
              obtain ⟨y', r1, r2⟩ := hfs j' x' hx'
              refine ⟨y', ?_, OptR.mono q1 _ _ r2⟩
              rw [← r1]
              have hj' : j' < 4 := by have := (List.getElem?_eq_some_iff.mp hx').1; (first | lia | omega)
              exact getL_put_other (fun q => hjj (attr_inj j j' hj4 hj' q.symm)) ..)
          exact k _ U.1 U.2
        · first | exact nn hf | exact nf hf | cases hf
      · first | exact nn hf | exact nf hf | cases hf
    · first | exact nn hf | exact nf hf | cases hf
  · first | exact nn hf | exact nf hf | cases hf
set_option tactic.hygienic true in
theorem sSlot_ok (gok : GOk G) (cok : ClsOk G) {j : Nat} {X Y : V} {v u : Value} (hf : sSlot j X Y H = some H') (R : Rel G Φ ρ e H s) (hv : VR G ρ s.heap X v) (hu : VR G ρ s.heap Y u) {A : Around} {E : Value → Shared → Prop} {Q : Unit → Shared → Prop}
    (k : ∀ s', Rel G Φ ρ e H' s' → Ext Φ ρ H s ρ H' s' → Q () s') : wpAny G.M A (setAttr v (slotName j) u) Q E s := by
  unfold sSlot at hf
  split at hf
  · rename_i i
    split at hf
    · rename_i dn fs hq
      split at hf
      · rename_i hj
        cases hf
        obtain ⟨hj3, hjl⟩ := hj
        simp only [VR] at hv; obtain ⟨a, ha, rfl⟩ := hv
        obtain ⟨o, g, om⟩ := R.at hq ha
        obtain ⟨sl, dx, rfl, hdx, hfs⟩ := om
        obtain ⟨od, god⟩ := R.rho_at hdx
        obtain ⟨p, p1, p2, p3, p4, p5⟩ := cok.slot j hj3
        have X0 := gok.inK.keeps R.base
        have I : PySem.W.InstAt s.heap a { cls := .ref G.CN, dict := some dx, data := .plain, slots := sl } G.CN (some od) := PySem.W.InstAt.mk g rfl rfl god
        refine set_plain X0 I cok.setN (osa_descr (s := { s with toks := s.toks + 1 }) KF.slot_mset X0 I cok.overN (taker_some p1 p3) p5 (slot_setU (s := { s with toks := s.toks + 1 }) X0 I p4 (by (first | lia | omega)) ?_))
        have U := R.upd (h' := s.heap.update a (slotPut j u)) (x' := .node dn (fs.set j (some Y))) (s.toks + 1) ha hq rfl rfl (Heap.get?_update_self (slotPut j u) g rfl) (fun b o hb q => (Heap.get?_update_other _ _ (Ne.symm hb)).trans q)
          (fun q1 q2 => by
            refine ⟨_, dx, rfl, hdx, fun j' x' hx' => ?_⟩
            by_cases hjj : j = j'
            · subst hjj
              rw [List.getElem?_set_self hjl] at hx'
              cases hx'
              exact ⟨u, slotPut_self j u { cls := .ref G.CN, dict := some dx, data := .plain, slots := sl }, q1 _ _ hu⟩
            · rw [List.getElem?_set_ne hjj] at hx'
              have h9 := slotPut_other hjj u { cls := .ref G.CN, dict := some dx, data := .plain, slots := sl }
              exact h9 ▸ OptR.mono q1 _ _ (hfs j' x' hx'))
        exact k _ U.1 U.2
      · first | exact nn hf | exact nf hf | cases hf
    · first | exact nn hf | exact nf hf | cases hf
  · first | exact nn hf | exact nf hf | cases hf
end
end Mine
end
section
set_option tactic.hygienic false
open PySem PySem.W PyProof.Rows PySem.Calls PySem.SeqAt
namespace Mine
noncomputable def eAttr (j : Nat) (f : PM V) : PM V := fun e H => (f e H).bind fun r => (gAttr j r.1 r.2.2).bind fun v => some (v, r.2.1, r.2.2)
noncomputable def eSlot (j : Nat) (f : PM V) : PM V := fun e H => (f e H).bind fun r => (gSlot j r.1 r.2.2).bind fun v => some (v, r.2.1, r.2.2)
noncomputable def mSetAttr (j : Nat) (f g : PM V) : PM Flw := fun e H => (f e H).bind fun r => (g r.2.1 r.2.2).bind fun q => (sAttr j q.1 r.1 q.2.2).bind fun H' => some (.next, q.2.1, H')
noncomputable def mSetSlot (j : Nat) (f g : PM V) : PM Flw := fun e H => (f e H).bind fun r => (g r.2.1 r.2.2).bind fun q => (sSlot j q.1 r.1 q.2.2).bind fun H' => some (.next, q.2.1, H')
noncomputable def mAugName (i : Nat) (f : PM V) (b : Op2) : PM Flw := fun e H => (eVar i e H).bind fun r => (f r.2.1 r.2.2).bind fun q => (b r.1 q.1 q.2.2).bind fun z => (mStore i z.1 q.2.1 z.2).bind fun y => some (.next, y.2.1, y.2.2)
noncomputable def mAugAttr (j : Nat) (f g : PM V) (b : Op2) : PM Flw := fun e H => (f e H).bind fun r => (gAttr j r.1 r.2.2).bind fun o => (g r.2.1 r.2.2).bind fun q => (b o q.1 q.2.2).bind fun z => (sAttr j r.1 z.1 z.2).bind fun H' => some (.next, q.2.1, H')
noncomputable def mAugSlot (j : Nat) (f g : PM V) (b : Op2) : PM Flw := fun e H => (f e H).bind fun r => (gSlot j r.1 r.2.2).bind fun o => (g r.2.1 r.2.2).bind fun q => (b o q.1 q.2.2).bind fun z => (sSlot j r.1 z.1 z.2).bind fun H' => some (.next, q.2.1, H')
noncomputable def eNamed (i : Nat) (f : PM V) : PM V := fun e H => (f e H).bind fun r => (mStore i r.1 r.2.1 r.2.2).bind fun q => some (r.1, q.2.1, q.2.2)
noncomputable def mAssignSubName (f g h : PM V) (i : Nat) : PM Flw := fun e H => (f e H).bind fun r => (g r.2.1 r.2.2).bind fun q => (h q.2.1 q.2.2).bind fun z => (oSetItem q.1 z.1 r.1 z.2.2).bind fun H' => (mStore i r.1 z.2.1 H').bind fun y => some (.next, y.2.1, y.2.2)
noncomputable def eNeg (f : PM V) : PM V := fun e H => (f e H).bind fun r => match r.1 with
  | .int a => some (.int (-a), r.2.1, r.2.2)
  | _ => none
noncomputable def eGInt (a : Int) : PM V := fun e H => some (.int a, e, H)
noncomputable def eDict0 : PM V := fun e H => some (.ref H.length, e, H ++ [.dict []])
noncomputable def eDict1 (f g : PM V) : PM V := fun e H => (f e (H ++ [.dict []])).bind fun r => (g r.2.1 r.2.2).bind fun q => (oSetItem (.ref H.length) r.1 q.1 q.2.2).bind fun H' => some (.ref H.length, q.2.1, H')
section
variable {G : Gl} {Φ : Frm} {d : Nat}
theorem snd_attr (gok : GOk G) (cok : ClsOk G) (j : Nat) {value : Expr} {attr : Str} {pos : Pos} {f : PM V} (ha : attr = attrName j) (h1 : SndE G Φ d (eval value Φ.env) f)
    (he : eval (.Attribute value attr pos) Φ.env = (do
      let o ← eval value Φ.env
      standAt pos.atName
      let r ← holding [o] (getAttr o attr true)
      letTemporaryGo value o r
      pure r)) : SndE G Φ d (eval (.Attribute value attr pos) Φ.env) (eAttr j f) := by
  subst ha
  intro e H X e' H' hf ρ s R A E ok
  refine hide fun PQ hpq => ?_
  refine bnd3 hf fun X₁ e₁ H₁ f1 hf => ?_
  refine bnd1 hf fun Y f2 hf => ?_
  cases hf
  refine hpq ?_
  refine Attribute_any_ (h1.run f1 R ok fun v ρ₁ s₁ R₁ X₁ v₁ => ?_) he
  exact gAttr_ok gok cok f2 R₁ v₁ fun y s₂ R₂ X₂ v₂ => ⟨ρ₁, R₂, X₁.trans X₂, v₂⟩
theorem snd_slot (gok : GOk G) (cok : ClsOk G) (j : Nat) {value : Expr} {attr : Str} {pos : Pos} {f : PM V} (ha : attr = slotName j) (h1 : SndE G Φ d (eval value Φ.env) f)
    (he : eval (.Attribute value attr pos) Φ.env = (do
      let o ← eval value Φ.env
      standAt pos.atName
      let r ← holding [o] (getAttr o attr true)
      letTemporaryGo value o r
      pure r)) : SndE G Φ d (eval (.Attribute value attr pos) Φ.env) (eSlot j f) := by
  subst ha
  intro e H X e' H' hf ρ s R A E ok
  refine hide fun PQ hpq => ?_
  refine bnd3 hf fun X₁ e₁ H₁ f1 hf => ?_
  refine bnd1 hf fun Y f2 hf => ?_
  cases hf
  refine hpq ?_
  refine Attribute_any_ (h1.run f1 R ok fun v ρ₁ s₁ R₁ X₁ v₁ => ?_) he
  exact gSlot_ok gok cok f2 R₁ v₁ fun y s₂ R₂ X₂ v₂ => ⟨ρ₁, R₂, X₁.trans X₂, v₂⟩
theorem st_setattr (gok : GOk G) (cok : ClsOk G) (j : Nat) {o value : Expr} {attr : Str} {pos' pos : Pos} {f g : PM V} (ha : attr = attrName j) (h1 : SndE G Φ d (eval value Φ.env) f) (h2 : SndE G Φ d (eval o Φ.env) g)
    (hw : swapsWith value (some (.Attribute o attr pos')) pos.line Φ.env = pure false) : SndF G Φ d (exec (.Assign [.Attribute o attr pos'] value pos) Φ.env) (mSetAttr j f g) := by
  subst ha
  intro e H X e' H' hf ρ s R A E ok
  refine hide fun PQ hpq => ?_
  refine bnd3 hf fun X₁ e₁ H₁ f1 hf => ?_
  refine bnd3 hf fun X₂ e₂ H₂ f2 hf => ?_
  refine bnd1 hf fun H₃ f3 hf => ?_
  cases hf
  refine hpq ?_
  refine plainObj_wpAny_Assign_Attribute (run_two h1 h2 f1 f2 R ok fun v w ρ₂ s₂ R₂ X₂ v₁ v₂ => ?_) hw
  exact sAttr_ok gok cok f3 R₂ v₂ v₁ fun s₃ R₃ X₃ => ⟨ρ₂, R₃, X₂.trans X₃, rfl⟩
theorem st_setslot (gok : GOk G) (cok : ClsOk G) (j : Nat) {o value : Expr} {attr : Str} {pos' pos : Pos} {f g : PM V} (ha : attr = slotName j) (h1 : SndE G Φ d (eval value Φ.env) f) (h2 : SndE G Φ d (eval o Φ.env) g)
    (hw : swapsWith value (some (.Attribute o attr pos')) pos.line Φ.env = pure false) : SndF G Φ d (exec (.Assign [.Attribute o attr pos'] value pos) Φ.env) (mSetSlot j f g) := by
  subst ha
  intro e H X e' H' hf ρ s R A E ok
  refine hide fun PQ hpq => ?_
  refine bnd3 hf fun X₁ e₁ H₁ f1 hf => ?_
  refine bnd3 hf fun X₂ e₂ H₂ f2 hf => ?_
  refine bnd1 hf fun H₃ f3 hf => ?_
  cases hf
  refine hpq ?_
  refine plainObj_wpAny_Assign_Attribute (run_two h1 h2 f1 f2 R ok fun v w ρ₂ s₂ R₂ X₂ v₁ v₂ => ?_) hw
  exact sSlot_ok gok cok f3 R₂ v₂ v₁ fun s₃ R₃ X₃ => ⟨ρ₂, R₃, X₂.trans X₃, rfl⟩
theorem st_augname (fo : FOk Φ) {x : Str} {i : Nat} {pos' pos : Pos} {op : Operator} {value : Expr} {f : PM V} {b : Op2} (hs : Φ.slot.lookup x = some i) (hst : Sto Φ x)
    (hk : Φ.env.kindOf x = some .local ∨ Φ.env.kindOf x = some .cell ∨ Φ.env.kindOf x = some .free) (hn : (x == ("__classdict__" : Str)) = false) (h1 : SndE G Φ d (eval value Φ.env) f) (h3 : Op2R G d (inplaceOp op) b) :
    SndF G Φ d (exec (.AugAssign (.Name x pos') op value pos) Φ.env) (mAugName i f b) := by
  intro e H X e' H' hf ρ s R A E ok
  refine hide fun PQ hpq => ?_
  refine bnd3 hf fun X₁ e₁ H₁ f1 hf => ?_
  refine bnd3 hf fun X₂ e₂ H₂ f2 hf => ?_
  refine bnd2 hf fun X₃ H₃ f3 hf => ?_
  refine bnd3 hf fun u e₄ H₄ f4 hf => ?_
  cases hf
  refine hpq ?_
  refine wpAny_AugAssign_Name ((load_var fo hs hk hn).run f1 R ok fun a ρ₁ s₁ R₁ X₁ v₁ => h1.run f2 R₁ ok fun b ρ₂ s₂ R₂ X₂ v₂ => ?_)
  refine (h3 _ _ a b).run f3 R₂ ⟨X₂.vr R₁ v₁, v₂⟩ ok fun y ρ₃ s₃ R₃ X₃ v₃ => ?_
  exact store_var fo hs hst f4 R₃ v₃ fun s₄ R₄ X₄ => ⟨ρ₃, R₄, ((X₁.trans X₂).trans X₃).trans X₄, rfl⟩
theorem st_augattr (gok : GOk G) (cok : ClsOk G) (j : Nat) {o value : Expr} {attr : Str} {tpos pos : Pos} {op : Operator} {f g : PM V} {b : Op2} (ha : attr = attrName j) (h1 : SndE G Φ d (eval o Φ.env) f) (h2 : SndE G Φ d (eval value Φ.env) g)
    (h3 : Op2R G d (inplaceOp op) b) : SndF G Φ d (exec (.AugAssign (.Attribute o attr tpos) op value pos) Φ.env) (mAugAttr j f g b) := by
  subst ha
  intro e H X e' H' hf ρ s R A E ok
  refine hide fun PQ hpq => ?_
  refine bnd3 hf fun X₁ e₁ H₁ f1 hf => ?_
  refine bnd1 hf fun Y fY hf => ?_
  refine bnd3 hf fun X₂ e₂ H₂ f2 hf => ?_
  refine bnd2 hf fun X₃ H₃ f3 hf => ?_
  refine bnd1 hf fun H₄ f4 hf => ?_
  cases hf
  refine hpq ?_
  refine wpAny_AugAssign_AttributeAny (h1.run f1 R ok fun a ρ₁ s₁ R₁ X₁ v₁ => gAttr_ok gok cok fY R₁ v₁ fun y s₂ R₂ X₂ v₂ => h2.run f2 R₂ ok fun b ρ₃ s₃ R₃ X₃ v₃ => ?_)
  refine (h3 _ _ y b).run f3 R₃ ⟨X₃.vr R₂ v₂, v₃⟩ ok fun z ρ₄ s₄ R₄ X₄ v₄ => ?_
  exact sAttr_ok gok cok f4 R₄ (X₄.vr R₃ (X₃.vr R₂ (X₂.vr R₁ v₁))) v₄ fun s₅ R₅ X₅ => ⟨ρ₄, R₅, (((X₁.trans X₂).trans X₃).trans X₄).trans X₅, rfl⟩
theorem st_augslot (gok : GOk G) (cok : ClsOk G) (j : Nat) {o value : Expr} {attr : Str} {tpos pos : Pos} {op : Operator} {f g : PM V} {b : Op2} (ha : attr = slotName j) (h1 : SndE G Φ d (eval o Φ.env) f) (h2 : SndE G Φ d (eval value Φ.env) g)
    (h3 : Op2R G d (inplaceOp op) b) : SndF G Φ d (exec (.AugAssign (.Attribute o attr tpos) op value pos) Φ.env) (mAugSlot j f g b) := by
  subst ha
  intro e H X e' H' hf ρ s R A E ok
  refine hide fun PQ hpq => ?_
  refine bnd3 hf fun X₁ e₁ H₁ f1 hf => ?_
  refine bnd1 hf fun Y fY hf => ?_
  refine bnd3 hf fun X₂ e₂ H₂ f2 hf => ?_
  refine bnd2 hf fun X₃ H₃ f3 hf => ?_
  refine bnd1 hf fun H₄ f4 hf => ?_
  cases hf
  refine hpq ?_
  refine wpAny_AugAssign_AttributeAny (h1.run f1 R ok fun a ρ₁ s₁ R₁ X₁ v₁ => gSlot_ok gok cok fY R₁ v₁ fun y s₂ R₂ X₂ v₂ => h2.run f2 R₂ ok fun b ρ₃ s₃ R₃ X₃ v₃ => ?_)
  refine (h3 _ _ y b).run f3 R₃ ⟨X₃.vr R₂ v₂, v₃⟩ ok fun z ρ₄ s₄ R₄ X₄ v₄ => ?_
  exact sSlot_ok gok cok f4 R₄ (X₄.vr R₃ (X₃.vr R₂ (X₂.vr R₁ v₁))) v₄ fun s₅ R₅ X₅ => ⟨ρ₄, R₅, (((X₁.trans X₂).trans X₃).trans X₄).trans X₅, rfl⟩
theorem iAdd_ok : Op2R G d (inplaceOp .Add) (iOp fun a b => some (a + b)) := iop_sound fun a b c h ta tb A E s Q q => by cases h; exact PyProof.Rows.iadd_int q
theorem iSub_ok : Op2R G d (inplaceOp .Sub) oSub := iop_sound fun a b c h ta tb A E s Q q => by cases h; exact PyProof.Rows.isub_int q
theorem iAnd_ok : Op2R G d (inplaceOp .BitAnd) oAnd := iop_sound fun a b c h ta tb A E s Q q => by cases h; exact iand_int q
theorem snd_named (fo : FOk Φ) {x : Str} {i : Nat} {pos' pos : Pos} {value : Expr} {f : PM V} (hs : Φ.slot.lookup x = some i) (hst : Sto Φ x) (h1 : SndE G Φ d (eval value Φ.env) f) : SndE G Φ d (eval (.NamedExpr (.Name x pos') value pos) Φ.env) (eNamed i f) := by
  intro e H X e' H' hf ρ s R A E ok
  refine hide fun PQ hpq => ?_
  refine bnd3 hf fun X₁ e₁ H₁ f1 hf => ?_
  refine bnd3 hf fun u e₄ H₄ f4 hf => ?_
  cases hf
  refine hpq ?_
  refine wpAny_NamedExpr (h1.run f1 R ok fun a ρ₁ s₁ R₁ X₁ v₁ => ?_)
  exact wpAny_assign_Name (store_var fo hs hst f4 R₁ v₁ fun s₄ R₄ X₄ => ⟨ρ₁, R₄, X₁.trans X₄, X₄.vr R₁ v₁⟩)
theorem assign_sub {o i : Expr} {pos' : Pos} {v : Value} {A : Around} {E : Value → Shared → Prop} {s : Shared} {Q : Unit → Shared → Prop}
    (h : wpAny G.M A (eval o Φ.env) (fun ov s₂ => wpAny G.M A (eval i Φ.env) (fun iv s₃ => wpAny G.M A (setItem ov iv v) (fun _ => Q ()) E s₃) E s₂) E s) : wpAny G.M A (assign (.Subscript o i pos') Φ.env v) Q E s := fun Γ p hΓ => by
  simp only [assign_Subscript, Sem.wp_bind', Sem.wp_holding, Sem.wp_cmd_standAt, Sem.wp_release]
  exact Sem.wp_mono G.M Γ _ (fun ov p₂ s₂ h₂ => Sem.wp_mono G.M Γ _ (fun iv _ s₃ h₃ => h₃ Γ _ hΓ) (fun _ _ _ h' => h') _ _ (h₂ Γ p₂ hΓ)) (fun _ _ _ h' => h') _ _ (h Γ _ hΓ)
theorem st_subname (fo : FOk Φ) {o i value : Expr} {x : Str} {n : Nat} {p1 p2 pos : Pos} {f g h : PM V} (h1 : SndE G Φ d (eval value Φ.env) f) (h2 : SndE G Φ d (eval o Φ.env) g) (h3 : SndE G Φ d (eval i Φ.env) h) (hs : Φ.slot.lookup x = some n) (hst : Sto Φ x)
    (he : (assignEach [.Subscript o i p1, .Name x p2] Φ.env).map (·.2) = [assign (.Subscript o i p1) Φ.env, assign (.Name x p2) Φ.env]) (hw : swappedStores [.Subscript o i p1, .Name x p2] value Φ.env = pure none) :
    SndF G Φ d (exec (.Assign [.Subscript o i p1, .Name x p2] value pos) Φ.env) (mAssignSubName f g h n) := by
  intro e H X e' H' hf ρ s R A E ok
  refine hide fun PQ hpq => ?_
  refine bnd3 hf fun X₁ e₁ H₁ f1 hf => ?_
  refine bnd3 hf fun X₂ e₂ H₂ f2 hf => ?_
  refine bnd3 hf fun X₃ e₃ H₃ f3 hf => ?_
  refine bnd1 hf fun H₄ f4 hf => ?_
  refine bnd3 hf fun u e₅ H₅ f5 hf => ?_
  cases hf
  refine hpq ?_
  refine wpAny_Assign_two (h1.run f1 R ok fun v ρ₁ s₁ R₁ X₁ v₁ => ?_) he hw
  refine assign_sub (run_two h2 h3 f2 f3 R₁ ok fun a b ρ₂ s₂ R₂ X₂ w₁ w₂ => ?_)
  refine setItem_ok f4 R₂ w₁ w₂ (X₂.vr R₁ v₁) fun s₃ R₃ X₃ => ?_
  exact wpAny_assign_Name (store_var fo hs hst f5 R₃ (X₃.vr R₂ (X₂.vr R₁ v₁)) fun s₄ R₄ X₄ => ⟨ρ₂, R₄, ((X₁.trans X₂).trans X₃).trans X₄, rfl⟩)
theorem snd_neg {x : Expr} {pos : Pos} {f : PM V} (h1 : SndE G Φ d (eval x Φ.env) f) : SndE G Φ d (eval (.UnaryOp .USub x pos) Φ.env) (eNeg f) := by
  intro e H X e' H' hf ρ s R A E ok
  refine hide fun PQ hpq => ?_
  refine bnd3 hf fun X₁ e₁ H₁ f1 hf => ?_
  dsimp only at hf
  refine iInt hf fun a hX hf => ?_
  subst hX
  cases hf
  refine hpq ?_
  refine wpAny_UnaryOp (h1.run f1 R ok fun v ρ₁ s₁ R₁ X₁ v₁ => ?_)
  simp only [VR] at v₁
  obtain ⟨t, rfl⟩ := v₁
  obtain ⟨R', X'⟩ := R₁.toks (s₁.toks + 1)
  exact PyProof.Rows.neg_int ⟨ρ₁, R', X₁.trans X', VR.int _ _⟩
theorem snd_bool {b : Bool} {k : Nat} {pos : Pos} : SndE G Φ d (eval (.Constant (.bool b) k pos) Φ.env) (eBool b) := by
  intro e H X e' H' hf ρ s R A E ok
  cases hf
  exact wpAny_Constant_bool ⟨ρ, R, Ext.refl .., VR.bool _⟩
theorem snd_gint (gok : GOk G) (fo : FOk Φ) (fg : FOkG Φ) {x : Str} {pos : Pos} {a : Int} {t : Tok} (hx : Φ.env.kindOf x = some .globalImplicit) (hg : G.mg x = some (.int a t)) (hd : (x == ("__debug__" : Str)) = false) : SndE G Φ d (eval (.Name x pos) Φ.env) (eGInt a) := by
  intro e H X e' H' hf ρ s R A E ok
  cases hf
  exact load_gl gok fo fg hx hg hd R ⟨ρ, R, Ext.refl .., VR.int _ _⟩
theorem Rel.newDict {ρ : Rho} {e : AEnv} {H : AHeap} {s : Shared} (R : Rel G Φ ρ e H s) (tk : Nat) :
    ∃ ρ', Rel G Φ ρ' e (H ++ [.dict []]) { s with heap := s.heap.push { cls := .type "dict", data := .dict #[] }, toks := tk } ∧ Ext Φ ρ H s ρ' (H ++ [.dict []]) { s with heap := s.heap.push { cls := .type "dict", data := .dict #[] }, toks := tk } ∧ ρ' H.length = some s.heap.objs.size := by
  refine exE1 (Heap.dictOf_iff.mp (Heap.DictOf.new (knd := PySem.intKind G.prog G.w) s.heap)) fun o' h2 => andE2 h2 fun g' hd' => ?_
  refine andE3 (R.alloc (h' := s.heap.push { cls := .type "dict", data := .dict #[] }) (x := .dict []) (o := o') tk (Nat.le_refl _) g' (fun b o q => Heap.get?_push_of_some _ q)
    fun h1 h2 h3 => ⟨[], hd', rfl⟩) fun a b c => ?_
  exact ⟨_, a, b, c⟩
theorem snd_dict0 {pos : Pos} : SndE G Φ d (eval (.Dict [] [] pos) Φ.env) eDict0 := by
  intro e H X e' H' hf ρ s R A E ok
  cases hf
  refine exE1 (R.newDict s.toks) fun ρ' h4 => andE3 h4 fun a b c => ?_
  exact wpAny_Dict_empty ⟨ρ', a, b, VR.ref c⟩
set_option tactic.hygienic true in
theorem dictSet_ok {i : Nat} {k : Int} {Z : V} {H H' : AHeap} (hf : oSetItem (.ref i) (.int k) Z H = some H') {ρ : Rho} {e : AEnv} {s : Shared} (R : Rel G Φ ρ e H s) {a : Addr} {t : Tok} {u : Value} (ha : ρ i = some a) (hu : VR G ρ s.heap Z u) {A : Around} {E : Value → Shared → Prop} {Q : Unit → Shared → Prop}
    (k' : ∀ s', Rel G Φ ρ e H' s' → Ext Φ ρ H s ρ H' s' → Q () s') : wpAny G.M A (dictSet a (.int k t) u) Q E s := by
  unfold oSetItem at hf
  dsimp only at hf
  refine iDict hf fun kvs hq hf => ?_
  split at hf
  · rename_i hl
    cases hf
    refine exE1 (R.dictOf hq rfl ha) fun kvs' h5 => andE3 h5 fun hD hkv hn => ?_
    refine wpAny_dictSet_pairs (knd := PySem.intKind G.prog G.w) (k := k) (by simp [PySem.intKind, Value.isInt]) hD (fun h' hD' hsb => ?_) (size_le (by rw [hkv.length]; exact hl))
    refine exE1 (Heap.dictOf_iff.mp hD') fun o' h6 => andE2 h6 fun g' hd' => ?_
    have := R.upd (h' := h') (x' := .dict (kvPut kvs k Z)) (o' := o') (s.toks + 1) ha hq rfl rfl g' (fun b o hb q => hsb.extBut b o hb q)
      (fun h1 h2 => ⟨_, hd', KVR.mono h1 _ _ (hkv.put hn hu)⟩)
    exact k' _ this.1 this.2
  · first | exact nn hf | exact nf hf | cases hf
theorem snd_dict1 {k v : Expr} {pos : Pos} {f g : PM V} (h1 : SndE G Φ d (eval k Φ.env) f) (h2 : SndE G Φ d (eval v Φ.env) g) : SndE G Φ d (eval (.Dict [some k] [v] pos) Φ.env) (eDict1 f g) := by
  intro e H X e' H' hf ρ s R A E ok
  refine hide fun PQ hpq => ?_
  refine bnd3 hf fun X₁ e₁ H₁ f1 hf => ?_
  refine bnd3 hf fun X₂ e₂ H₂ f2 hf => ?_
  refine bnd1 hf fun H₃ f3 hf => ?_
  cases hf
  refine exE1 (R.newDict s.toks) fun ρ' h7 => andE3 h7 fun a b c => ?_
  refine hpq ?_
  refine wpAny_Dict_any rfl rfl (by simp) (by simp) ?_
  show wpAny _ _ (do let kv ← eval k Φ.env; let vv ← holding [kv] (do let x ← eval v Φ.env; standAt pos; pure x); return (kv, vv) :: (← holding [kv, vv] (evalPairs []))) _ _ _
  refine wpAny_bind (h1.run f1 a ok fun kv ρ₁ s₁ R₁ X₁ v₁ => ?_)
  refine wpAny_bind (wpAny_holding (wpAny_bind (h2.run f2 R₁ ok fun vv ρ₂ s₂ R₂ X₂ v₂ => wpAny_bind (wpAny_standAt (wpAny_pure ?_)))))
  refine wpAny_bind (wpAny_holding (wpAny_pure (wpAny_pure ?_)))
  have f3' := f3
  unfold oSetItem at f3'
  split at f3'
  · rename_i i k' hi
    cases hi
    have v₁' := X₂.vr R₁ v₁
    simp only [VR] at v₁'
    obtain ⟨t, rfl⟩ := v₁'
    unfold storeAll
    rw [List.forIn_cons]
    have c2 := X₂.rle _ _ (X₁.rle _ _ c)
    refine wpAny_bind (wpAny_bind (dictSet_ok f3 R₂ c2 v₂ fun s₃ R₃ X₃ => wpAny_pure ?_))
    show wpAny _ _ (forIn [] PUnit.unit _) _ _ _
    rw [List.forIn_nil]
    exact wpAny_pure ⟨ρ₂, R₃, ((b.trans X₁).trans X₂).trans X₃, VR.ref c2⟩
  · cases f3'
end
end Mine
end
section
set_option tactic.hygienic false
open PySem PySem.W PyProof.Rows PySem.Calls PySem.SeqAt
namespace Mine
theorem keys_count : ∀ (es : List DictEntry) (ns : List Str), ns.Nodup → (∀ n ∈ ns, ∃ en ∈ es, en.key.isStr n = true) → ns.length ≤ es.countP (fun en => ns.any fun n => en.key.isStr n)
  | [], ns, _, h => by
    cases ns with
    | nil => simp
    | cons n r => obtain ⟨en, he, _⟩ := h n List.mem_cons_self; cases he
  | en :: es, ns, hn, h => by
    rw [List.countP_cons]
    by_cases hx : ∃ n ∈ ns, en.key.isStr n = true
    · obtain ⟨n0, h0, h1⟩ := hx
      have ih := keys_count es (ns.erase n0) (hn.erase n0) (fun n hm => by
        have hm' := (hn.mem_erase_iff).mp hm
        obtain ⟨e', he, hs⟩ := h n hm'.2
        rcases List.mem_cons.mp he with rfl | he
        · exact absurd (isStr_eq hs h1) hm'.1
        · exact ⟨e', he, hs⟩)
      rw [List.length_erase_of_mem h0] at ih
      have hp : (ns.any fun n => en.key.isStr n) = true := List.any_eq_true.mpr ⟨n0, h0, h1⟩
      have hmono : es.countP (fun en => (ns.erase n0).any fun n => en.key.isStr n) ≤ es.countP (fun en => ns.any fun n => en.key.isStr n) := by
        refine List.countP_mono_left fun x _ hx => ?_
        refine exE1 (List.any_eq_true.mp hx) fun n h2 => andE2 h2 fun hm hs => ?_
        exact List.any_eq_true.mpr ⟨n, List.mem_of_mem_erase hm, hs⟩
      rw [if_pos hp]
      omega
    · have ih := keys_count es ns hn (fun n hm => by
        obtain ⟨e', he, hs⟩ := h n hm
        rcases List.mem_cons.mp he with rfl | he
        · exact absurd ⟨n, hm, hs⟩ hx
        · exact ⟨e', he, hs⟩)
      exact Nat.le_trans ih (Nat.le_add_right _ _)
set_option tactic.hygienic true in
theorem getL_mem {name : Str} {es : List DictEntry} {v : Value} (h : getL name es = some (some v)) : ∃ en ∈ es, en.key.isStr name = true := by
  unfold getL at h
  split at h
  · rename_i en he
    have hh := List.find?_some he
    exact ⟨en, List.mem_of_find?_eq_some he, hh⟩
  · split at h <;> cases h
theorem refKey_str {en : DictEntry} {n : Str} (h : en.key.isStr n = true) : en.refKey = false := by
  cases hk : en.key <;> simp [Value.isStr, hk] at h <;> simp [DictEntry.refKey, hk]
theorem attrs_other {es : List DictEntry} (hl : es.length ≤ 4) (h : ∀ j, j < 4 → ∃ v, getL (attrName j) es = some (some v)) {name : Str} (hn : ∀ j, j < 4 → name ≠ attrName j) : getL name es = some none := by
  have hc := keys_count es [attrName 0, attrName 1, attrName 2, attrName 3] (by decide) (fun n hm => by
    simp only [List.mem_cons, List.not_mem_nil, or_false] at hm
    rcases hm with rfl | rfl | rfl | rfl
    · obtain ⟨v, hv⟩ := h 0 (by decide); exact getL_mem hv
    · obtain ⟨v, hv⟩ := h 1 (by decide); exact getL_mem hv
    · obtain ⟨v, hv⟩ := h 2 (by decide); exact getL_mem hv
    · obtain ⟨v, hv⟩ := h 3 (by decide); exact getL_mem hv)
  have hle := List.countP_le_length (p := fun en : DictEntry => [attrName 0, attrName 1, attrName 2, attrName 3].any fun n => en.key.isStr n) (l := es)
  have hall := List.countP_eq_length.mp (Nat.le_antisymm hle (Nat.le_trans hl hc))
  have hsome : ∀ en ∈ es, ∃ j, j < 4 ∧ en.key.isStr (attrName j) = true := fun en he => by
    have := hall en he
    simp only [List.any_cons, List.any_nil, Bool.or_false, Bool.or_eq_true] at this
    rcases this with q | q | q | q
    · exact ⟨0, by decide, q⟩
    · exact ⟨1, by decide, q⟩
    · exact ⟨2, by decide, q⟩
    · exact ⟨3, by decide, q⟩
  unfold getL
  have h1 : es.find? (·.key.isStr name) = none := List.find?_eq_none.mpr fun en he q => by
    obtain ⟨j, hj, hs⟩ := hsome en he
    exact hn j hj (isStr_eq q hs)
  have h2 : es.any (·.refKey) = false := List.any_eq_false.mpr fun en he => by
    obtain ⟨j, hj, hs⟩ := hsome en he
    simp [refKey_str hs]
  rw [h1, h2]; rfl
structure MethIs (G : Gl) (name : Str) (f : Addr) : Prop where
  find : findIn G.K (.ref G.C) name = some (some (.ref f))
  fn : isFn G.K (.ref f) = true
  fnI : fnIn G.K f = true
  get : specialIn G.K (.ref f) "__get__" = some (some (.builtin "function.__get__"))
  takes : takesIn G.K (.ref f) = some false
  cp : copiedNames.contains name = false
  nm : ∀ j, j < 4 → name ≠ attrName j
noncomputable def instOf : Option O → Option Nat | some (.inst d) => some d | _ => none
noncomputable def attrsOf : Option O → Option (List (Option V)) | some (.attrs fs) => some fs | _ => none
noncomputable def refOf : V → Option Nat | .ref i => some i | _ => none
theorem instOf_eq {o : Option O} {x : Nat} (h : instOf o = some x) : o = some (.inst x) := by
  cases o with
  | none => cases h
  | some o => cases o <;> cases h; rfl
theorem attrsOf_eq {o : Option O} {x : List (Option V)} (h : attrsOf o = some x) : o = some (.attrs x) := by
  cases o with
  | none => cases h
  | some o => cases o <;> cases h; rfl
theorem refOf_eq {X : V} {x : Nat} (h : refOf X = some x) : X = .ref x := by cases X <;> cases h; rfl
noncomputable def kInst (X : V) (H : AHeap) : Bool := ((refOf X).bind fun i => (instOf ((H[i]?).map O.thaw)).bind fun d => (attrsOf ((H[d]?).map O.thaw)).map fun fs => fs.length == 4 && fs.all Option.isSome) == some true
section
variable {G : Gl} {Φ : Frm} {d : Nat} {ρ ρ' : Rho} {e e' : AEnv} {H H' : AHeap} {s s' : Shared}
theorem all_at {fs : List (Option V)} (h : fs.all Option.isSome = true) {j : Nat} (hj : j < fs.length) : ∃ x, fs[j]? = some (some x) := by
  have := List.all_eq_true.mp h _ (List.getElem_mem hj)
  exact ⟨_, (List.getElem?_eq_getElem hj).trans (congrArg some (Option.some_get this).symm)⟩
theorem kInst_inv {X : V} (hk : kInst X H = true) : ∃ i d fs, X = .ref i ∧ (H[i]?).map O.thaw = some (.inst d) ∧ (H[d]?).map O.thaw = some (.attrs fs) ∧ fs.length = 4 ∧ fs.all Option.isSome = true := by
  refine exE1 (Option.bind_eq_some_iff.mp (beq_iff_eq.mp hk)) fun i h10 => andE2 h10 fun hi hk => ?_
  refine exE1 (Option.bind_eq_some_iff.mp hk) fun d h11 => andE2 h11 fun hd hk => ?_
  obtain ⟨fs, hf, hk⟩ := Option.map_eq_some_iff.mp hk
  refine andE2 (Bool.and_eq_true_iff.mp hk) fun h1 h2 => ?_
  exact exI3 i d fs ⟨refOf_eq hi, instOf_eq hd, attrsOf_eq hf, beq_iff_eq.mp h1, h2⟩
theorem kInst_ok {X : V} {v : Value} (hk : kInst X H = true) (R : Rel G Φ ρ e H s) (hv : VR G ρ s.heap X v) :
    ∃ a dx es n, v = .ref a ∧ PySem.W.InstAt s.heap a (instObj G.C dx) G.C (some (dictOf es n)) ∧ es.length ≤ 4 ∧ ∀ j, j < 4 → ∃ v, getL (attrName j) es = some (some v) := by
  refine exE3 (kInst_inv hk) fun i dd fs h14 => andE5 h14 fun e14_0 hq hq2 hn hall => ?_
  subst e14_0
  simp only [VR] at hv; obtain ⟨a, ha, rfl⟩ := hv
  obtain ⟨z, hz, hzt⟩ := thaw_some hq
  obtain ⟨o, g, om⟩ := R.at hz ha
  rw [hzt] at om
  obtain ⟨dx, rfl, hdx⟩ := om
  obtain ⟨z2, hz2, hzt2⟩ := thaw_some hq2
  obtain ⟨o2, g2, om2⟩ := R.at hz2 hdx
  rw [hzt2] at om2
  refine exE2 om2 fun es n h20 => andE3 h20 fun e20_0 hl hfs => ?_
  subst e20_0
  refine exI4 a dx es n ⟨rfl, PySem.W.InstAt.mk g rfl rfl g2, Nat.le_trans hl (hn ▸ List.length_filter_le ..), fun j hj => ?_⟩
  obtain ⟨x, hx⟩ := all_at hall (hn ▸ hj)
  refine exE1 (hfs j _ hx) fun y h22 => andE2 h22 fun h1 h22_1 => ?_
  obtain ⟨y', rfl, _⟩ := h22_1
  exact ⟨y', h1⟩
noncomputable def eOwn (f : PM V) (g : PM (List V)) (op : FOp) : PM V := fun e H => (f e H).bind fun r => if kInst r.1 r.2.2 then (g r.2.1 r.2.2).bind fun q => (op (r.1 :: q.1) q.2.2).bind fun z => some (z.1, q.2.1, z.2) else none
theorem snd_own (gok : GOk G) (cok : ClsOk G) {o : Expr} {name : Str} {apos pos : Pos} {args : List Expr} {a : Addr} {fd : FuncData} {body : List Stmt} {f : PM V} {g : PM (List V)} {op : FOp} (F : FunIs G a fd body) (mi : MethIs G name a)
    (hbase : attributeBase o name Φ.env (eval o Φ.env) = eval o Φ.env)
    (hfew : ((backTo pos (starEach args Φ.env)).all (fun x => !x.1) && (backToKw pos (keywordEach [] Φ.env)).all (fun x => x.1.isSome) && decide (args.length + ([] : List Keyword).length + (if ([] : List Keyword).isEmpty then 0 else 1) < 30)) = true)
    (hline : (apos.endLine == pos.line) = true) (hpl : (backTo pos (starEach args Φ.env)).any (·.1) = false)
    (h1 : SndE G Φ d (eval o Φ.env) f) (h2 : SndL G Φ d (spliced (backTo pos (starEach args Φ.env))) g) (h3 : FOpR G d (.ref a) op) :
    SndE G Φ d (eval (.Call (.Attribute o name apos) args [] pos) Φ.env) (eOwn f g op) := by
  intro e H X e' H' hf ρ s R A E ok
  refine hide fun PQ hpq => ?_
  refine bnd3 hf fun X₁ e₁ H₁ f1 hf => ?_
  split at hf
  · rename_i hk
    refine bnd3 hf fun X₂ e₂ H₂ f2 hf => ?_
    refine bnd2 hf fun X₃ H₃ f3 hf => ?_
    cases hf
    refine hpq ?_
    rw [arm_eval_Call, hbase]
    refine wpAny_bind (h1.run f1 R ok fun v ρ₁ s₁ R₁ X₁ v₁ => ?_)
    refine exE4 (kInst_ok hk R₁ v₁) fun x dx es n h23 => andE4 h23 fun e23_0 I hl hat => ?_
    subst e23_0
    refine wpAny_bind (wpAny_standAt ?_)
    have hform : methodCallForm (args.length + ([] : List Keyword).length) (backTo pos (starEach args Φ.env)) (backToKw pos (keywordEach [] Φ.env)) = true := hfew
    have hpos : methodCallPos true o Φ.env apos pos = pure pos := by unfold methodCallPos; simp [hline]
    unfold methodCall
    rw [hform]
    have X0 := gok.inK.keeps R₁.base
    refine wpAny_bind (wpAny_holding (method_fn X0 I (plainGet_of (name := "") cok.get).1 (plainGet_of (name := "") cok.get).2 mi.find (beq_iff_eq.mp mi.fn) (by show (lookIn name (dictOf es n)).map _ = _; rw [lookIn_dict, attrs_other hl hat mi.nm]; rfl) ?_))
    refine exE1 (F.obj) fun ob h24 => andE2 h24 fun ho hdata => ?_
    refine wpAny_bind (wpAny_of_eq hpos (callWith_function (o := ob) (fd := fd) (evalArgs_any hpl (h2.run f2 R₁ ok fun ws ρ₂ s₂ R₂ X₂ v₂ => ⟨⟨R₂.base _ _ ho, hdata⟩, ?_⟩))))
    exact (h3 _ (.ref x :: ws)).run f3 R₂ (VRs.cons (X₂.vr R₁ v₁) v₂) ok fun y ρ₃ s₃ R₃ X₃ v₃ => ⟨ρ₃, R₃, (X₁.trans X₂).trans X₃, v₃⟩
  · first | exact nn hf | exact nf hf | cases hf
noncomputable def starItems : V → AHeap → Option (List V)
  | .tup vs, _ => if vs.length ≤ 5000 then some vs else none
  | .ref i, H => match (H[i]?).map O.thaw with
    | some (.list vs) => if vs.length ≤ 5000 then some vs else none
    | _ => none
  | _, _ => none
set_option tactic.hygienic true in
theorem star_ok {X : V} {v : Value} {vs : List V} (hi : starItems X H = some vs) (R : Rel G Φ ρ e H s) (hv : VR G ρ s.heap X v) {A : Around} {E : Value → Shared → Prop} {Q : List Value → Shared → Prop}
    (k : ∀ ws s', Rel G Φ ρ e H s' → Ext Φ ρ H s ρ H s' → VRs G ρ s'.heap vs ws → Q ws s') : StarOf G.M A E v Q s := by
  unfold starItems at hi
  split at hi
  · rename_i us
    split at hi
    · rename_i hlen
      cases hi
      simp only [VR] at hv
      refine exE3 hv fun a its n h25 => andE3 h25 fun e25_0 g hvs => ?_
      subst e25_0
      have hl : its.size = vs.length := by have := hvs.length; simpa using this
      have z : wpAny G.M A (collect (.ref a)) Q E s := wpAny_collect_seq a (.inr rfl) g rfl rfl (fun h' hk => by
        refine andE2 (R.junk s.toks hk) fun R' X' => ?_
        exact k its.toList _ R' X' (X'.vrs R hvs)) (size_le (by (first | lia | omega)))
      unfold StarOf notIterableAtAll
      exact wpAny_bind (wpAny_specialOf (T := "tuple") ⟨_, g, rfl⟩ PySem.F.slot_tuple_iter.lookup (wpAny_pure ⟨rfl, z⟩))
    · cases hi
  · rename_i i
    split at hi
    · rename_i us hx
      split at hi
      · rename_i hlen
        cases hi
        simp only [VR] at hv
        obtain ⟨a, ha, rfl⟩ := hv
        refine exE1 (thaw_some hx) fun y h28 => andE2 h28 fun hy hyt => ?_
        obtain ⟨o, g, om⟩ := R.at hy ha
        rw [hyt] at om
        refine exE2 om fun its n h30 => andE2 h30 fun e30_0 hvs => ?_
        subst e30_0
        have hl : its.size = vs.length := by have := hvs.length; simpa using this
        have z : wpAny G.M A (collect (.ref a)) Q E s := wpAny_collect_seq a (.inl rfl) g rfl rfl (fun h' hk => by
          refine andE2 (R.junk s.toks hk) fun R' X' => ?_
          exact k its.toList _ R' X' (X'.vrs R hvs)) (size_le (by (first | lia | omega)))
        unfold StarOf notIterableAtAll
        exact wpAny_bind (wpAny_specialOf (T := "list") ⟨_, g, rfl⟩ PySem.F.slot_list_iter.lookup (wpAny_pure ⟨rfl, z⟩))
      · cases hi
    · cases hi
  · cases hi
noncomputable def aStar (f : PM V) : PM (List V) := fun e H => (f e H).bind fun r => (starItems r.1 r.2.2).bind fun vs => some (vs, r.2.1, r.2.2)
noncomputable def SndA (G : Gl) (Φ : Frm) (d : Nat) (args : List (Bool × Sem Value)) (g : PM (List V)) : Prop := ∀ f : Value, Snd G Φ d (fun ρ h X (a : Args) => a.kw = [] ∧ VRs G ρ h X a.pos) (evalArgs f true args []) g
theorem sa_star {x : Expr} {p pos : Pos} {f : PM V} (he : starEach [.Starred x p] Φ.env = [(true, eval x Φ.env)]) (h1 : SndE G Φ d (eval x Φ.env) f) : SndA G Φ d (backTo pos (starEach [.Starred x p] Φ.env)) (aStar f) := by
  intro fv e H X e' H' hf ρ s R A E ok
  refine hide fun PQ hpq => ?_
  refine bnd3 hf fun X₁ e₁ H₁ f1 hf => ?_
  refine bnd1 hf fun vs f2 hf => ?_
  cases hf
  refine hpq ?_
  rw [he]
  refine ks_lone (h1.run f1 R ok fun v ρ₁ s₁ R₁ X₁ v₁ => star_ok f2 R₁ v₁ fun ws s₂ R₂ X₂ v₂ => ?_)
  exact ⟨ρ₁, R₂, X₁.trans X₂, rfl, v₂⟩
theorem ar_star {x : Expr} {p pos : Pos} {f : PM V} (he : starEach [.Starred x p] Φ.env = (true, eval x Φ.env) :: starEach [] Φ.env) (h1 : SndE G Φ d (eval x Φ.env) f) : SndL G Φ d (spliced (backTo pos (starEach [.Starred x p] Φ.env))) (aStar f) := by
  intro e H X e' H' hf ρ s R A E ok
  refine hide fun PQ hpq => ?_
  refine bnd3 hf fun X₁ e₁ H₁ f1 hf => ?_
  refine bnd1 hf fun vs f2 hf => ?_
  cases hf
  refine hpq ?_
  refine items_star (h1.run f1 R ok fun v ρ₁ s₁ R₁ X₁ v₁ => star_ok f2 R₁ v₁ fun ws s₂ R₂ X₂ v₂ => ?_) he
  refine spliced_nil ?_
  rw [List.append_nil]
  exact ⟨ρ₁, R₂, X₁.trans X₂, v₂⟩
theorem sa_cons {x : Expr} {rest : List Expr} {pos : Pos} {g : PM (List V)} (he : starEach (x :: rest) Φ.env = (false, eval x Φ.env) :: starEach rest Φ.env) (h2 : SndL G Φ d (spliced (backTo pos (starEach (x :: rest) Φ.env))) g) : SndA G Φ d (backTo pos (starEach (x :: rest) Φ.env)) g := by
  intro fv e H X e' H' hf ρ s R A E ok
  have h3 := h2 e H X e' H' hf ρ s R A E ok
  rw [he] at h3 ⊢
  exact evalArgs_plain (wpAny_mono h3 (fun ws s' ⟨ρ', a, b, c⟩ => ⟨ρ', a, b, rfl, c⟩) fun _ _ z => z)
theorem snd_ownstar (gok : GOk G) (cok : ClsOk G) {o : Expr} {name : Str} {apos pos : Pos} {args : List Expr} {a : Addr} {f : PM V} {g : PM (List V)} {op : FOp} (mi : MethIs G name a)
    (hbase : attributeBase o name Φ.env (eval o Φ.env) = eval o Φ.env)
    (hform : methodCallForm (args.length + ([] : List Keyword).length) (backTo pos (starEach args Φ.env)) (backToKw pos (keywordEach [] Φ.env)) = false) (hst : (backTo pos (starEach args Φ.env)).any (·.1) = true)
    (h1 : SndE G Φ d (eval o Φ.env) f) (h2 : SndA G Φ d (backTo pos (starEach args Φ.env)) g) (h3 : COpR G d (.ref a) op) :
    SndE G Φ d (eval (.Call (.Attribute o name apos) args [] pos) Φ.env) (eOwn f g op) := by
  intro e H X e' H' hf ρ s R A E ok
  refine hide fun PQ hpq => ?_
  refine bnd3 hf fun X₁ e₁ H₁ f1 hf => ?_
  split at hf
  · rename_i hk
    refine bnd3 hf fun X₂ e₂ H₂ f2 hf => ?_
    refine bnd2 hf fun X₃ H₃ f3 hf => ?_
    cases hf
    refine hpq ?_
    rw [arm_eval_Call, hbase]
    refine wpAny_bind (h1.run f1 R ok fun v ρ₁ s₁ R₁ X₁ v₁ => ?_)
    refine exE4 (kInst_ok hk R₁ v₁) fun x dx es n h32 => andE4 h32 fun e32_0 I hl hat => ?_
    subst e32_0
    refine wpAny_bind (wpAny_standAt ?_)
    have hpos : methodCallPos false o Φ.env apos pos = pure pos := by unfold methodCallPos; simp
    unfold methodCall
    rw [hform]
    have X0 := gok.inK.keeps R₁.base
    refine wpAny_bind (wpAny_holding ?_)
    show wpAny _ _ (do pure (← getAttr (.ref x) name true, [])) _ _ _
    refine wpAny_bind (get_bind X0 I (plainGet_of (name := "") cok.get).1 (findObj_fn (od := dictOf es n) cok.hd mi.find mi.get mi.takes mi.cp (by show lookIn name (dictOf es n) = _; rw [lookIn_dict, attrs_other hl hat mi.nm])) (plainGet_of (name := "") cok.get).2
      (wpAny_call (fn_get (s := { s₁ with toks := s₁.toks + 1 }) X0 (beq_iff_eq.mp mi.fn) (handed_on rfl (wpAny_pure ?_)))))
    refine andE2 (R₁.junk (h' := s₁.heap.push (methodObj (.ref a) (.ref x))) (s₁.toks + 1) (fun b o q => Heap.get?_push_of_some _ q)) fun R₁' X₁' => ?_
    have hq : (s₁.heap.push (methodObj (.ref a) (.ref x))).get? s₁.heap.objs.size = some (methodObj (.ref a) (.ref x)) := Heap.get?_push_size _ rfl
    have hqρ : ∀ i, ρ₁ i ≠ some s₁.heap.objs.size := fun i hi => by obtain ⟨ob, gg⟩ := R₁.rho_at hi; rw [get_size_none] at gg; cases gg
    have hqp : s₁.heap.objs.size ∉ Φ.priv := fun hp => by obtain ⟨ob, gg⟩ := R₁.priv_at hp; rw [get_size_none] at gg; cases gg
    refine wpAny_bind (wpAny_of_eq hpos (ks_call (P := MethP G.K s₁.heap.objs.size a (.ref x)) hst (keeps_M mi.fnI) ?_))
    refine (h2 _).run f2 R₁' ok fun ws ρ₂ s₂ R₂ X₂ v₂ => ⟨⟨X₂.keep _ _ (fun ⟨i, _, hi, _⟩ => hqρ i hi) hqp (R₁.freshF (get_size_none _)) hq, gok.inK.keeps R₂.base⟩, ?_⟩
    refine andE2 v₂ fun k1 k2 => ?_
    rw [k1]
    refine wpAny_call (method_call (X₂.keep _ _ (fun ⟨i, _, hi, _⟩ => hqρ i hi) hqp (R₁.freshF (get_size_none _)) hq) ?_)
    have h4 := h3 _ (.ref x :: ws.pos) Φ e₂ H₂ _ _ f3 ρ₂ s₂ R₂ (VRs.cons (X₂.vr R₁' (X₁'.vr R₁ v₁)) k2) A E ok
    refine codeAny_mono h4 fun r s' hr => ?_
    rcases r with z | (_ | _ | _ | _) <;> first | exact hr | exact hr.elim | skip
    refine exE1 hr fun ρ₃ h35 => andE3 h35 fun R₃ X₃ v₃ => ?_
    exact ⟨ρ₃, R₃, ((X₁.trans X₁').trans X₂).trans X₃, v₃⟩
  · first | exact nn hf | exact nf hf | cases hf
noncomputable def oMake (init : FOp) : FOp := fun Ys H => (init (.ref (H.length + 1) :: Ys) (H ++ [.attrs [none, none, none, none]] ++ [.inst H.length])).bind fun r => match r.1 with
  | .none => some (.ref (H.length + 1), r.2)
  | _ => none
noncomputable def oMakeN (init : FOp) : FOp := fun Ys H => (init (.ref (H.length + 1) :: Ys) (H ++ [.attrs []] ++ [.node H.length [none, none, none]])).bind fun r => match r.1 with
  | .none => some (.ref (H.length + 1), r.2)
  | _ => none
theorem OkA.create {A : Around} (ok : OkA Φ (d + 1) A) (C : Addr) (rest : List Value) : OkA Φ d (A.under (.builtin "type.__call__" ⟨.ref C :: rest, []⟩)) := by
  have hw : (Code.builtin "type.__call__" ⟨.ref C :: rest, []⟩).weight ≤ 1 := by
    have : (Code.builtin "type.__call__" ⟨.ref C :: rest, []⟩).weight = 1 := rfl
    (first | lia | omega)
  have hu : (Code.builtin "type.__call__" ⟨.ref C :: rest, []⟩).cUnits ≤ 40 := by
    have : (Code.builtin "type.__call__" ⟨.ref C :: rest, []⟩).cUnits = 1 := rfl
    (first | lia | omega)
  refine ⟨fun _ => ok.1 (Nat.succ_pos d), ?_, ?_, ?_, ok.2.2.2.2⟩
  · have := ok.2.1
    show A.depth + _ + d < 900
    (first | lia | omega)
  · have := ok.2.2.1
    show A.units + _ + 40 * d < 9000
    (first | lia | omega)
  · show pushEnvs [] A.frames = _
    rw [ok.2.2.2.1]; rfl
theorem make_ok (gok : GOk G) {C fI : Addr} {init : FOp} {od on : Nat → O} (hm : makesIn G.K C = true) (hi : findIn G.K (.ref C) "__init__" = some (some (.ref fI))) (hf : typeIn G.K (.ref fI) = some (.type "function")) (hI : COpR G d (.ref fI) init)
    (h1 : ∀ n ρ h, OM G ρ h (od n) emptyDict) (h2 : ∀ n ρ h dx, ρ n = some dx → OM G ρ h (on n) (instObj C dx)) :
    COpR G (d + 1) (.ref C) (fun Ys H => (init (.ref (H.length + 1) :: Ys) (H ++ [od H.length] ++ [on H.length])).bind fun r => match r.1 with
      | .none => some (.ref (H.length + 1), r.2)
      | _ => none) := by
  intro Ys ws Φ e H x H' hfx ρ s R hP A E ok
  refine hide fun PQ hpq => ?_
  refine bnd2 hfx fun X₁ H₁ f1 hfx => ?_
  have X0 := gok.inK.keeps R.base
  obtain ⟨hh, g, dr, t, os⟩ := s
  refine hpq ?_
  refine make_core (makes_of X0 hm) (looks_findIn X0 hi) (fun self => bind_fn X0 self hf) (.inl rfl) ?_
  refine andE3 (R.alloc (h' := hh.push emptyDict) (a := hh.objs.size) (o := emptyDict) (x := od H.length) t (Nat.le_refl _) (Heap.get?_push_size _ rfl) (fun b o q => Heap.get?_push_of_some _ q) (fun _ _ _ => h1 _ _ _)) fun Ra Xa ha => ?_
  refine andE3 (Ra.alloc (h' := (hh.push emptyDict).push (instObj C hh.objs.size)) (a := hh.objs.size + 1) (o := instObj C hh.objs.size) (x := on H.length) t (by show (hh.push emptyDict).objs.size ≤ _; rw [Heap.size_push]; exact Nat.le_refl _)
    (by have := Heap.get?_push_size (hh.push emptyDict) (o := instObj C hh.objs.size) rfl; rwa [Heap.size_push] at this) (fun b o q => Heap.get?_push_of_some _ q) (fun q1 _ _ => h2 _ _ _ _ (q1 _ _ ha))) fun Rb Xb hb => ?_
  have hlen : (H ++ [od H.length]).length = H.length + 1 := by simp
  have hb' : rhoAdd (rhoAdd ρ H.length hh.objs.size) (H ++ [od H.length]).length (hh.objs.size + 1) (H.length + 1) = some (hh.objs.size + 1) := by rw [← hlen]; exact hb
  have h4 := hI _ (.ref (hh.objs.size + 1) :: ws) Φ e _ _ _ f1 _ _ Rb (VRs.cons (VR.ref hb') (Xb.vrs Ra (Xa.vrs R hP))) (A.under (.builtin "type.__call__" ⟨.ref C :: ws, []⟩)) E (ok.create C ws)
  refine codeAny_mono h4 fun r s' hr => ?_
  rcases r with z | (v | _ | _ | _) <;> first | exact hr | exact hr.elim | skip
  refine exE1 hr fun ρ₃ h39 => andE3 h39 fun R₃ X₃ v₃ => ?_
  dsimp only at hfx
  split at hfx
  · cases hfx
    simp only [VR] at v₃
    exact ⟨v₃, ρ₃, R₃, (Xa.trans Xb).trans X₃, VR.ref (X₃.rle _ _ hb')⟩
  · cases hfx
theorem attrs_new {ρ : Rho} {h : Heap} : OM G ρ h (.attrs [none, none, none, none]) emptyDict := by
  refine exI2 [] 0 ⟨rfl, by simp, fun j x hx => ⟨none, rfl, ?_⟩⟩
  match j, hx with
  | 0, hx => cases hx; rfl
  | 1, hx => cases hx; rfl
  | 2, hx => cases hx; rfl
  | 3, hx => cases hx; rfl
theorem oMake_ok (gok : GOk G) {fI : Addr} {init : FOp} (hm : makesIn G.K G.C = true) (hi : findIn G.K (.ref G.C) "__init__" = some (some (.ref fI))) (hf : typeIn G.K (.ref fI) = some (.type "function")) (hI : COpR G d (.ref fI) init) : COpR G (d + 1) (.ref G.C) (oMake init) :=
  make_ok gok (od := fun _ => .attrs [none, none, none, none]) (on := fun n => .inst n) hm hi hf hI (fun _ _ _ => attrs_new) (fun n ρ h dx q => ⟨dx, rfl, q⟩)
theorem oMakeN_ok (gok : GOk G) {fI : Addr} {init : FOp} (hm : makesIn G.K G.CN = true) (hi : findIn G.K (.ref G.CN) "__init__" = some (some (.ref fI))) (hf : typeIn G.K (.ref fI) = some (.type "function")) (hI : COpR G d (.ref fI) init) : COpR G (d + 1) (.ref G.CN) (oMakeN init) :=
  make_ok gok (od := fun _ => .attrs []) (on := fun n => .node n [none, none, none]) hm hi hf hI (fun _ _ _ => ⟨[], 0, rfl, by simp, fun j x hx => by simp at hx⟩) (fun n ρ h dx q => ⟨#[], dx, rfl, q, fun j x hx => by
    match j, hx with
    | 0, hx => cases hx; rfl
    | 1, hx => cases hx; rfl
    | 2, hx => cases hx; rfl⟩)
theorem snd_new (gok : GOk G) (fo : FOk Φ) (fg : FOkG Φ) {x : Str} {np pos : Pos} {args : List Expr} {a : Addr} {g : PM (List V)} {op : FOp} (hkp : keepIn G.K (.ref a) = true)
    (hx : Φ.env.kindOf x = some .globalImplicit) (hg : G.mg x = some (.ref a)) (hd : (x == ("__debug__" : Str)) = false)
    (he : eval (.Call (.Name x np) args [] pos) Φ.env = (do callWith pos (← eval (.Name x np) Φ.env) [] (backTo pos (starEach args Φ.env)) []))
    (hpl : (backTo pos (starEach args Φ.env)).any (·.1) = false) (h2 : SndL G Φ d (spliced (backTo pos (starEach args Φ.env))) g) (h3 : FOpR G d (.ref a) op) : SndE G Φ d (eval (.Call (.Name x np) args [] pos) Φ.env) (eFun g op) := by
  intro e H X e' H' hfx ρ s R A E ok
  refine hide fun PQ hpq => ?_
  refine bnd3 hfx fun X₂ e₂ H₂ f2 hfx => ?_
  refine bnd2 hfx fun X₃ H₃ f3 hfx => ?_
  cases hfx
  refine hpq ?_
  rw [he]
  refine wpAny_bind (load_gl gok fo fg hx hg hd R ?_)
  refine callWith_of (P := fun h => G.K.In h) (by rw [hpl]; rfl) (keeps_K hkp) (evalArgs_any hpl (h2.run f2 R ok fun ws ρ₂ s₂ R₂ X₂ v₂ => ⟨gok.inK.keeps R₂.base, ?_⟩))
  exact (h3 _ ws).run f3 R₂ v₂ ok fun y ρ₃ s₃ R₃ X₃ v₃ => ⟨ρ₃, R₃, X₂.trans X₃, v₃⟩
end
end Mine
end
section
set_option tactic.hygienic false
open PySem PySem.W PyProof.Rows PySem.Calls PySem.SeqAt
namespace Mine
noncomputable def mForPL (j1 j2 : Nat) (b : PM Flw) : List (Int × V) → PM Flw
  | [] => fun e H => some (.next, e, H)
  | p :: r => fun e H => (mStore j1 (.int p.1) e H).bind fun q1 => (mStore j2 p.2 q1.2.1 q1.2.2).bind fun q => (b q.2.1 q.2.2).bind fun z => match z.1 with
    | .next => mForPL j1 j2 b r z.2.1 z.2.2
    | .cont => mForPL j1 j2 b r z.2.1 z.2.2
    | .brk => some (.next, z.2.1, z.2.2)
    | .ret v => some (.ret v, z.2.1, z.2.2)
noncomputable def mForItems (f : PM V) (j1 j2 : Nat) (b : PM Flw) : PM Flw := fun e H => (f e H).bind fun r => match r.1 with
  | .view true i => match (r.2.2[i]?).map O.thaw with
    | some (.dict kvs) => (mForPL j1 j2 b kvs r.2.1 (frzAt (some i) r.2.2)).bind fun z => some (z.1, z.2.1, unfrz (some i) r.2.2 z.2.2)
    | _ => none
  | _ => none
section
variable {G : Gl} {Φ : Frm} {d : Nat} {ρ ρ' : Rho} {e e' : AEnv} {H H' : AHeap} {s s' s₀ : Shared}
theorem li_obj {o : Obj} {vs : Array Value} (h : o = { cls := .type "dict_itemiterator", data := .fields vs }) : ¬ Imm o ∧ ∀ vo, o.data ≠ .cell vo := by
  subst h
  exact ⟨fun im => absurd (imm_cls im rfl) (by decide), fun vo z => nomatch z⟩
theorem it_obj {h : Heap} {I dd : Addr} {n l ep : Nat} {a b : Value} (q : IsItemIter h I dd n l ep a b) (o : Obj) (g : h.get? I = some o) : ¬ Imm o ∧ ∀ vo, o.data ≠ .cell vo :=
  li_obj (Option.some.inj (g.symm.trans q))
theorem ito_obj {h : Heap} {I dd : Addr} {n l ep : Nat} {a b : Value} {t : Addr} (q : IsItemIterOut h I dd n l ep a b t) (o : Obj) (g : h.get? I = some o) : ¬ Imm o ∧ ∀ vo, o.data ≠ .cell vo :=
  li_obj (Option.some.inj (g.symm.trans q))
theorem intKey {prog : Program} {w : World} {k : Int} {key : Value} (h : (PySem.intKind prog w).is k key = true) : ∃ t, key = .int k t := by
  cases key <;> simp [PySem.intKind, Value.isInt] at h
  subst h; exact ⟨_, rfl⟩
theorem items_loop (fo : FOk Φ) {x y : Str} {px py pt : Pos} {k1 : Nat} {j1 j2 : Nat} {body : List Stmt} {b : PM Flw} (hs1 : Φ.slot.lookup x = some j1) (hst1 : Sto Φ x) (hs2 : Φ.slot.lookup y = some j2) (hst2 : Sto Φ y)
    (hae : assignEach [.Name x px, .Name y py] Φ.env = [(false, assign (.Name x px) Φ.env), (false, assign (.Name y py) Φ.env)]) (hb : SndF G Φ d (execs body Φ.env) b)
    {kvs : List (Int × V)} {fl : Flw} (hf : mForPL j1 j2 b kvs e H = some (fl, e', H')) (R : Rel G Φ ρ e H s₀) {A : Around} (ok : OkA Φ d A) (hh : A.handled = none) {E : Value → Shared → Prop} {I dd : Addr} {h₁ : Heap}
    {kvs' : List (Int × Value)} {ep : Nat} (hD : s₀.heap.DictAt (PySem.intKind G.prog G.w) dd kvs' ep) (hkv : KVR G ρ s₀.heap kvs kvs') (hdO : ¬ Owned ρ H dd) (hdp : dd ∉ Φ.priv) (hdf : dd ∉ Φ.fa)
    (hIn : s₀.heap.get? I = none) (hit : IsItemIter h₁ I dd 0 kvs'.length ep .none .none) (hk₁ : ∀ b o, s₀.heap.get? b = some o → h₁.get? b = some o) :
    codeAny G.M A (.forLoop (.Tuple [.Name x px, .Name y py] k1 pt) (.ref I) body [] Φ.env) (fun r s' => match r with
      | .ok f => ∃ ρ', Rel G Φ ρ' e' H' s' ∧ Ext Φ ρ H s₀ ρ' H' s' ∧ FR G ρ' s'.heap fl f
      | .error x => cameBackBy G.M A Φ.env E x s') { s₀ with heap := h₁ } := by
  refine hideC fun RR hRR => ?_
  have hOk : ∀ f s', (∃ ρ', Rel G Φ ρ' e' H' s' ∧ Ext Φ ρ H s₀ ρ' H' s' ∧ FR G ρ' s'.heap fl f) → RR (.ok f) s' := fun f s' => hRR (.ok f) s'
  refine andE2 (R.junk s₀.toks hk₁) fun R₁ X₁ => ?_
  have hIpriv : I ∉ Φ.priv := fun hp => by obtain ⟨o, g⟩ := R.priv_at hp; rw [hIn] at g; cases g
  have hIf : I ∉ Φ.fa := R.freshF hIn
  have hIb : G.hb.get? I = none := by
    cases q : G.hb.get? I with
    | none => rfl
    | some o => have := R.base I o q; rw [hIn] at this; cases this
  have hI0 : ∀ q, ρ q ≠ some I := fun q hq => by obtain ⟨o, g⟩ := R.rho_at hq; rw [hIn] at g; cases g
  have hlen : kvs'.length = kvs.length := hkv.length
  refine exE2 (id hD) fun od0 es0 h1 => andE2 h1 fun god0 _ => ?_
  have hdI : dd ≠ I := fun q => by rw [q, hIn] at god0; cases god0
  refine named (fun (k : Nat) (s' : Shared) => ∃ i ρ' e₁ H₁ ok ov, i ≤ kvs.length ∧ k = kvs.length + 1 - i ∧ Rel G Φ ρ' e₁ H₁ s' ∧ Ext Φ ρ H s₀ ρ' H₁ s' ∧ (∀ q, ρ' q ≠ some I) ∧ IsItemIter s'.heap I dd i kvs'.length ep ok ov ∧
      s'.heap.DictAt (PySem.intKind G.prog G.w) dd kvs' ep ∧ mForPL j1 j2 b (kvs.drop i) e₁ H₁ = some (fl, e', H')) fun Inv hInv => ?_
  have fin := fun k s' => Eq.mpr (congrFun (congrFun hInv k) s')
  refine codeAny_forLoop_any Inv
    ?_ (kvs.length + 1) (fin _ _ ⟨0, ρ, e, H, .none, .none, Nat.zero_le _, rfl, R₁, X₁, hI0, hit, hD.at' fun o q => hk₁ _ _ q, hf⟩)
  intro k s' hi0
  refine hideW fun K hK => ?_
  refine exE6 (Eq.mp (congrFun (congrFun hInv k) s') hi0) fun i ρ' e₁ H₁ okv ov h2 => andE8 h2 fun hi e2_1 R' X' hI' iti hDi hm => ?_
  subst e2_1
  rcases Nat.lt_or_ge i kvs.length with hlt | hge
  · have hX : kvs[i]? = some kvs[i] := List.getElem?_eq_getElem hlt
    refine exE1 (hkv.get (i := i) (k := kvs[i].1) (a := kvs[i].2) (by rw [hX])) fun v h3 => andE2 h3 fun hv1 hv2 => ?_
    refine wpAny_pyNext_items_item iti hDi hv1 fun key h₂ hkey it2 htup hsz hk2 => ?_
    obtain ⟨t, rfl⟩ := intKey hkey
    obtain ⟨R2, him2⟩ := R'.other (h' := h₂) s'.toks hI' hIpriv hIf hIb (it_obj iti) hk2
    have X2 := X'.other s'.toks hIn hk2
    refine hK _ _ (hideW fun K2 hK2 => ?_)
    refine wpAny_letOwnedTupleGo_items (s := { s' with heap := h₂ }) it2 fun h₃ it3 hs3 => ?_
    have hk3 : ∀ b o, b ≠ I → h₂.get? b = some o → h₃.get? b = some o := fun b o hb q => hs3.extBut b o hb q
    refine andE2 (R2.other (h' := h₃) s'.toks hI' hIpriv hIf hIb (ito_obj it2) hk3) fun R3 him3 => ?_
    have X3 := X2.other s'.toks hIn hk3
    have hIlt : I < s'.heap.objs.size := Heap.lt_size iti
    have ht3 : h₃.IsTuple s'.heap.objs.size #[.int kvs[i].1 t, v] := ⟨_, hk3 _ _ (Nat.ne_of_gt hIlt) htup, rfl, 0, rfl⟩
    refine hK2 _ _ (hideW fun K3 hK3 => ?_)
    refine wpAny_assign_Tuple (s := { s' with heap := h₃ }) hh ht3 (by rw [hae]; rfl) (by rw [hae]; rfl) fun h₄ he4 => ?_
    have hk4 : ∀ b o, h₃.get? b = some o → h₄.get? b = some o := fun b o q => he4 b o (Nat.ne_of_lt (Heap.lt_size q)) q
    refine andE2 (R3.junk (h' := h₄) s'.toks hk4) fun R4 X4' => ?_
    have X4 := X3.trans X4'
    have it4 : IsItemIter h₄ I dd (i + 1) kvs'.length ep (.int kvs[i].1 t) v := hk4 _ _ it3
    have hvv : VR G ρ' h₄ kvs[i].2 v := X4'.vr R3 (VR.mono (fun _ _ q => q) him3 _ _ (VR.mono (fun _ _ q => q) him2 _ _ (X'.vr R hv2)))
    rw [List.drop_eq_getElem_cons hlt] at hm
    refine bnd3 hm fun u1 e₂ H₂ f1 hm => ?_
    refine bnd3 hm fun u2 e₃ H₃ f2 hm => ?_
    refine bnd3 hm fun fl₂ e₄ H₄ f3 hm => ?_
    rw [hae]
    show wpAny _ _ (assignInOrder [assign (.Name x px) Φ.env, assign (.Name y py) Φ.env] [.int kvs[i].1 t, v]) _ _ _
    show wpAny _ _ (do holding [v] (assign (.Name x px) Φ.env (.int kvs[i].1 t)); assignInOrder [assign (.Name y py) Φ.env] [v]) _ _ _
    refine wpAny_bind (wpAny_holding (wpAny_assign_Name (store_var fo hs1 hst1 f1 R4 (VR.int _ _) fun s₅ R₅ X₅ => ?_)))
    show wpAny _ _ (do holding [] (assign (.Name y py) Φ.env v); assignInOrder [] []) _ _ _
    refine wpAny_bind (wpAny_holding (wpAny_assign_Name (store_var fo hs2 hst2 f2 R₅ (X₅.vr R4 hvv) fun s₆ R₆ X₆ => wpAny_pure (hK3 _ _ ?_))))
    refine hb.run f3 R₆ ok fun z ρ₇ s₇ R₇ X₇ v₇ => ?_
    have X57 := (X₅.trans X₆).trans X₇
    have hI7 : ∀ q, ρ₇ q ≠ some I := fun q hq => by
      rcases X57.rnew q I hq with h | h
      · exact hI' q h
      · exact nomatch h.symm.trans it4
    have it7 : IsItemIter s₇.heap I dd (i + 1) kvs'.length ep (.int kvs[i].1 t) v := X57.keep I _ (fun ⟨q, _, hq, _⟩ => hI' q hq) hIpriv hIf it4
    have hD7 : s₇.heap.DictAt (PySem.intKind G.prog G.w) dd kvs' ep := by
      have hD4 : ({ s' with heap := h₄, toks := s'.toks } : Shared).heap.DictAt (PySem.intKind G.prog G.w) dd kvs' ep := hDi.at' fun o q => hk4 _ _ (hk3 _ _ hdI (hk2 _ _ hdI q))
      refine hD4.at' fun o q => X57.keep dd o (fun hq => ?_) hdp hdf q
      rcases X'.new dd hq with h | h
      · exact hdO h
      · rw [god0] at h; cases h
    have next : mForPL j1 j2 b (kvs.drop (i + 1)) e₄ H₄ = some (fl, e', H') → ∃ m, m < kvs.length + 1 - i ∧ Inv m s₇ :=
      fun hh => ⟨kvs.length + 1 - (i + 1), by omega, fin _ _ ⟨i + 1, ρ₇, e₄, H₄, _, _, hlt, rfl, R₇, X4.trans X57, hI7, it7, hD7, hh⟩⟩
    cases fl₂ with
    | next => cases v₇; exact next hm
    | cont => cases v₇; exact next hm
    | brk => cases v₇; exact hOk _ _ (post_of hm R₇ (X4.trans X57) rfl)
    | ret w => obtain ⟨v', rfl, q⟩ := v₇; exact hOk _ _ (post_of hm R₇ (X4.trans X57) ⟨v', rfl, q⟩)
  · refine wpAny_pyNext_items_end hh iti hDi (List.getElem?_eq_none_iff.mpr (hlen ▸ hge)) fun h₂ he => ?_
    have hk2 : ∀ b o, b ≠ I → s'.heap.get? b = some o → h₂.get? b = some o := fun b o hb q => he b o hb q
    refine andE2 (R'.other (h' := h₂) s'.toks hI' hIpriv hIf hIb (it_obj iti) hk2) fun R2 him2 => ?_
    have X2 := X'.other s'.toks hIn hk2
    rw [List.drop_eq_nil_of_le hge] at hm
    exact hK _ _ (wpAny_execs_nil (hOk _ _ (post_of hm R2 X2 rfl)))
theorem st_foritems (fo : FOk Φ) {x y : Str} {px py pt pos : Pos} {k1 : Nat} {j1 j2 : Nat} {iter : Expr} {body : List Stmt} {f : PM V} {b : PM Flw} (hs1 : Φ.slot.lookup x = some j1) (hst1 : Sto Φ x) (hs2 : Φ.slot.lookup y = some j2) (hst2 : Sto Φ y)
    (hae : assignEach [.Name x px, .Name y py] Φ.env = [(false, assign (.Name x px) Φ.env), (false, assign (.Name y py) Φ.env)]) (h1 : SndE G Φ d (eval iter Φ.env) f) (hb : SndF G Φ d (execs body Φ.env) b)
    (hfs : ∀ x, foldedSetIterable iter Φ.env x = pure x) (d0 : 0 < d) : SndF G Φ d (exec (.For (.Tuple [.Name x px, .Name y py] k1 pt) iter body [] pos) Φ.env) (mForItems f j1 j2 b) := by
  intro e H X e' H' hf ρ s R A E ok
  refine hide fun PQ hpq => ?_
  refine bnd3 hf fun X₁ e₁ H₁ f1 hf => ?_
  dsimp only at hf
  split at hf
  · rename_i i
    split at hf
    · rename_i kvs hx
      refine bnd3 hf fun fl e₂ H₂ f3 hf => ?_
      cases hf
      refine hpq ?_
      refine wpAny_For (h1.run f1 R ok fun v ρ₁ s₁ R₁ X₁ v₁ => ?_) hfs
      simp only [VR] at v₁
      refine exE2 v₁ fun r a h9 => andE3 h9 fun e9_0 ha gv => ?_
      subst e9_0
      obtain ⟨z, hz, hzt⟩ := thaw_some hx
      refine exE1 (R₁.at hz ha) fun o h11 => andE2 h11 fun g om => ?_
      rw [hzt] at om
      obtain ⟨kvs', ⟨es, ep, d1, d2, d3, d4, d5⟩, hkv⟩ := om
      have hD : s₁.heap.DictAt (PySem.intKind G.prog G.w) a kvs' ep := ⟨o, es, g, d1, d2, d3, d4, d5⟩
      refine wpAny_pyIter_items ⟨_, gv, rfl, rfl⟩ hD ?_
      have L := items_loop fo (k1 := k1) (pt := pt) hs1 hst1 hs2 hst2 hae hb f3 (R₁.frz (some i)) ok (ok.1 d0) (E := E) hD hkv (frz_free R₁ ha) (R₁.priv_ne ha) (R₁.rhoF ha) (get_size_none _)
        (h₁ := s₁.heap.push { cls := .type "dict_itemiterator", data := .fields #[.none, .bool false, .ref a, .int 0 0, .int kvs'.length 0, .int ep 0, .none, .none] }) (Heap.get?_push_size _ rfl) (fun b o q => Heap.get?_push_of_some _ q)
      refine codeAny_mono L fun r s' hr => ?_
      cases r with
      | error x => exact hr
      | ok f =>
        refine exE1 hr fun ρ' h13 => andE3 h13 fun R' X' q => ?_
        obtain ⟨R2, X2⟩ := R₁.unfrz (some i) R' X'
        exact ⟨ρ', R2, X₁.trans X2, q⟩
    · first | exact nn hf | exact nf hf | cases hf
  · first | exact nn hf | exact nf hf | cases hf
noncomputable def oTake (X : V) (k : Int) (H : AHeap) : Option (V × AHeap) := match X with
  | .ext ns => if 0 ≤ k ∧ ns.length ≤ 100000 then some (.ref H.length, H ++ [.list ((ns.take k.toNat).map .int)]) else none
  | _ => none
noncomputable def eTake (f g : PM V) : PM V := fun e H => (f e H).bind fun r => (g r.2.1 r.2.2).bind fun q => match q.1 with
  | .int k => (oTake r.1 k q.2.2).bind fun z => some (z.1, q.2.1, z.2)
  | _ => none
set_option tactic.hygienic true in
theorem snd_take {value u : Expr} {p pos : Pos} {f g : PM V} (h1 : SndE G Φ d (eval value Φ.env) f) (h2 : SndE G Φ d (eval u Φ.env) g)
    (hs : ∀ l i, subscripted (.Slice none (some u) none p) false (.ref l) (.ref i) = operate [.ref i, .ref l] (getItem (.ref l) (.ref i))) (ht : ∀ l r, letTemporaryGo value (.ref l) r = pure ()) :
    SndE G Φ d (eval (.Subscript value (.Slice none (some u) none p) pos) Φ.env) (eTake f g) := by
  intro e H X e' H' hf ρ s R A E ok
  refine hide fun PQ hpq => ?_
  refine bnd3 hf fun X₁ e₁ H₁ f1 hf => ?_
  refine bnd3 hf fun X₂ e₂ H₂ f2 hf => ?_
  dsimp only at hf
  split at hf
  · rename_i k
    refine bnd2 hf fun X₃ H₃ f3 hf => ?_
    cases hf
    unfold oTake at f3
    split at f3
    · rename_i ns q1
      split at f3
      · rename_i hk
        cases f3
        refine hpq ?_
        refine Subscript_ (h1.run f1 R ok fun v ρ₁ s₁ R₁ X₁ v₁ => ?_)
        simp only [VR] at v₁
        refine exE2 v₁ fun l vs h15 => andE3 h15 fun e15_0 hl hI => ?_
        subst e15_0
        refine wpAny_Slice ?_
        rw [evalPart_none, evalPart_some]
        refine wpAny_pure (h2.run f2 R₁ ok fun w ρ₂ s₂ R₂ X₂ v₂ => wpAny_pure ?_)
        simp only [VR] at v₂
        obtain ⟨t, rfl⟩ := v₂
        have hl2 : s₂.heap.IsList l vs.toArray := by obtain ⟨o, g1, g2⟩ := hl; exact ⟨o, R₂.base _ _ g1, g2⟩
        have hlen := hI.length
        refine slice_listK hl2 .none (.int k t) ?_ (hs _ _) (ht _) (by rw [List.size_toArray, hlen]; exact size_le hk.2)
        have hint := kmk_upto (y := k) hI hk.1
        have hk' : ∀ b o, s₂.heap.get? b = some o → (s₂.heap.push { cls := .type "slice", data := .fields #[.none, .int k t, .none] }).get? b = some o := fun b o q => Heap.get?_push_of_some _ q
        refine andE2 (R₂.junk s₂.toks hk') fun R₃ X₃ => ?_
        refine andE3 (R₃.alloc (h' := (s₂.heap.push { cls := .type "slice", data := .fields #[.none, .int k t, .none] }).push { cls := .type "list", data := .seq (slicePick vs.toArray none (some k) none) }) (a := s₂.heap.objs.size + 1)
          (o := { cls := .type "list", data := .seq (slicePick vs.toArray none (some k) none) }) (x := .list ((ns.take k.toNat).map .int)) s₂.toks (by show (s₂.heap.push _).objs.size ≤ _; rw [Heap.size_push]; exact Nat.le_refl _)
          (by have := Heap.get?_push_size (s₂.heap.push { cls := .type "slice", data := .fields #[.none, .int k t, .none] }) (o := { cls := .type "list", data := .seq (slicePick vs.toArray none (some k) none) }) rfl; rwa [Heap.size_push] at this)
          (fun b o q => Heap.get?_push_of_some _ q) (fun _ _ _ => ⟨_, 0, rfl, ints_VRs hint⟩)) fun Ra Xa ha => ?_
        exact ⟨_, Ra, ((X₁.trans X₂).trans X₃).trans Xa, VR.ref ha⟩
      · cases f3
    · cases f3
  · first | exact nn hf | exact nf hf | cases hf
end
end Mine
end
section
set_option tactic.hygienic false
open PySem PySem.W PyProof.Rows PySem.Calls PySem.SeqAt Builtin Builtin.ObjectAttr
namespace Mine
theorem slot_li_ga : Slot "list_iterator" "__getattribute__" "object.__getattribute__" :=
  .of (owner := "object") (n := "__getattribute__") (by rw [typeLookup_type, builtinLookup_eq_fast]; kernel_rfl) (by decide +kernel) (by decide +kernel) (by decide +kernel)
    (by first | exact .inl (by decide +kernel) | exact .inr (by decide +kernel)) (by rw [isSubtype_type]; kernel_rfl)
theorem li_next : typeLookup (.type "list_iterator") "__next__" = pure (some (.builtin "list_iterator.__next__")) := by rw [typeLookup_type, builtinLookup_eq_fast]; kernel_rfl
theorem wd_type : typeOf (.builtin "list_iterator.__next__") = pure (.type "wrapper_descriptor") := by show builtinType _ = _; rw [builtinType_eq_fast]; kernel_rfl
theorem slot_wd_get : Slot "wrapper_descriptor" "__get__" "wrapper_descriptor.__get__" :=
  .of (owner := "wrapper_descriptor") (n := "__get__") (by rw [typeLookup_type, builtinLookup_eq_fast]; kernel_rfl) (by decide +kernel) (by decide +kernel) (by decide +kernel)
    (by first | exact .inl (by decide +kernel) | exact .inr (by decide +kernel)) (by rw [isSubtype_type]; kernel_rfl)
theorem wd_set : typeLookup (.type "wrapper_descriptor") "__set__" = pure none := by rw [typeLookup_type, builtinLookup_eq_fast]; kernel_rfl
theorem wd_del : typeLookup (.type "wrapper_descriptor") "__delete__" = pure none := by rw [typeLookup_type, builtinLookup_eq_fast]; kernel_rfl
theorem entry_wd_get : entryFor table "wrapper_descriptor.__get__" = some Builtin.«wrapper_descriptor.__get__» := entryFor_of_tree (by kernel_rfl)
theorem args_wd_get (a b c : Value) : argsOk "wrapper_descriptor.__get__" ⟨[a, b, c], []⟩ := by unfold argsOk; kernel_rfl
theorem args_li_ga (a b : Value) : argsOk "object.__getattribute__" ⟨[a, b], []⟩ := by unfold argsOk; kernel_rfl
theorem entry_li_ga : entryFor table "object.__getattribute__" = some Builtin.«object.__getattribute__» := entryFor_of_tree (by kernel_rfl)
theorem li_sub : isSubtype (.type "list_iterator") (.type "list_iterator") = pure true := by rw [isSubtype_type]; kernel_rfl
noncomputable abbrev nxtObj (a : Addr) : Obj := { cls := .type "method-wrapper", data := .fields #[.builtin "list_iterator.__next__", .ref a] }
section
variable {prog : Program} {w : World} {M : Model} {A : Around} {E : Value → Shared → Prop} {s : Shared}
theorem wd_get_run {a : Addr} {P : Fin → Shared → Prop} (hT : s.TypeIs (.ref a) "list_iterator") (h : P (.done (.ret (.ref s.heap.objs.size))) { s with heap := s.heap.push (nxtObj a) }) :
    wpAny M A (Builtin.«wrapper_descriptor.__get__» ⟨[.builtin "list_iterator.__next__", .ref a, .type "list_iterator"], []⟩) P E s := by
  unfold Builtin.«wrapper_descriptor.__get__»
  refine wpAny_bind (wpAny_of_eq (a := (.builtin "list_iterator.__next__", some (.ref a), some (.type "list_iterator"))) (by kernel_rfl) ?_)
  refine wpAny_bind ?_
  refine wpAny_bind (wpAny_of_eq (a := (Str.ofString "__next__", .type "list_iterator")) (by kernel_rfl) ?_)
  refine wpAny_bind (wpAny_isInstance (T := "list_iterator") (b := true) hT li_sub ?_)
  refine wpAny_pure ?_
  show wpAny _ _ (newFields "method-wrapper" [_, _] >>= fun v => ret v) _ _ _
  unfold newFields
  exact wpAny_bind (wpAny_newObj_type (wpAny_pure h))
theorem wd_isT {s : Shared} : s.TypeIs (.builtin "list_iterator.__next__") "wrapper_descriptor" := wd_type
theorem li_find {a : Addr} {ox : Obj} (hx : s.heap.get? a = some ox) (hc : ox.cls = .type "list_iterator") (hd : ox.dict = none) (hdat : ∃ vs, ox.data = .fields vs) {Q : Found → Shared → Prop}
    (h : Q (.bind (.builtin "wrapper_descriptor.__get__") (.builtin "list_iterator.__next__")) s) : wpAny M A (find (.ref a) (.type "list_iterator") "__next__") Q E s := by
  unfold find
  refine wpAny_bind (wpAny_of_eq li_next ?_)
  unfold getOf
  refine wpAny_bind (wpAny_specialOf wd_isT slot_wd_get.lookup ?_)
  unfold dataDescriptor? takesStores
  refine wpAny_bind (wpAny_bind (wpAny_bind (wpAny_specialOf wd_isT wd_set (wpAny_bind (wpAny_specialOf wd_isT wd_del (wpAny_pure (wpAny_pure ?_)))))))
  unfold ownThenClass inOwnDict ObjectAttr.ownDict loadHead instanceDict
  refine wpAny_bind (wpAny_bind (wpAny_bind (wpAny_loadPart_at hx ?_)))
  obtain ⟨c, dct, dat, sl⟩ := ox
  obtain ⟨vs, hdat⟩ := hdat
  simp only at hc hd hdat
  subst hc hd hdat
  refine wpAny_bind (wpAny_loadPart_at hx ?_)
  refine wpAny_pure ?_
  refine wpAny_pure ?_
  unfold copiedAttributeGuard
  refine wpAny_bind ?_
  dsimp only
  rw [if_neg (by decide +kernel)]
  refine wpAny_pure ?_
  unfold byTheClass
  exact wpAny_bind (wpAny_rule (wpAny_pure h))
theorem get_next {a : Addr} {ox : Obj} (hx : s.heap.get? a = some ox) (hc : ox.cls = .type "list_iterator") (hd : ox.dict = none) (hdat : ∃ vs, ox.data = .fields vs) {Q : Value → Shared → Prop}
    (h : Q (.ref s.heap.objs.size) { s with heap := s.heap.push (nxtObj a), toks := s.toks + 1 }) : wpAny (model prog w) A (getAttr (.ref a) "__next__" true) Q E s := by
  have hT : ∀ tk, ({ s with toks := tk } : Shared).TypeIs (.ref a) "list_iterator" := fun _ => ⟨_, hx, hc⟩
  unfold getAttr getAttrBy
  refine wpAny_bind (wpAny_mkText ?_)
  refine wpAny_holding (wpAny_bind (wpAny_typeOf (hT _) (wpAny_bind (wpAny_of_eq slot_li_ga.lookup ?_))))
  dsimp only
  rw [if_neg (by decide)]
  unfold getAttrByItsOwn hookBefore callGetattribute boundAndCalled
  rw [if_neg (by decide), if_neg (by decide)]
  refine wpAny_bind (wpAny_pure ?_)
  refine wpAny_bind (wpAny_attempt (wpAny_holding (wpAny_bind (wpAny_of_eq (slot_li_ga.bind (.ref a)) (wpAny_call_entry slot_li_ga (hT _) entry_li_ga ?_ (args_li_ga _ _))))))
  unfold Builtin.«object.__getattribute__»
  refine wpAny_bind (wpAny_of_eq (a := (.ref a, [.str "__next__" s.toks])) (by kernel_rfl) ?_)
  refine wpAny_bind (wpAny_of_eq (a := Str.ofString "__next__") rfl ?_)
  refine wpAny_bind (wpAny_typeOf (hT _) (wpAny_bind (li_find (s := { s with toks := s.toks + 1 }) hx hc hd hdat ?_)))
  unfold bindTo
  show wpAny _ _ (holding [Value.builtin "list_iterator.__next__"] (call (.builtin "wrapper_descriptor.__get__") [_, _, _]) >>= fun v => ret v) _ _ _
  refine wpAny_bind (wpAny_holding (wpAny_call_entry slot_wd_get wd_isT entry_wd_get (wd_get_run (hT _) ⟨_, rfl, wpAny_pure ⟨_, rfl, wpAny_pure h⟩⟩) (args_wd_get _ _ _)))
end
end Mine
end
section
set_option tactic.hygienic false
open PySem PySem.W PyProof.Rows PySem.Calls PySem.SeqAt Builtin
namespace Mine
noncomputable abbrev iterObj (l : Addr) (i : Nat) : Obj := { cls := .type "list_iterator", data := .fields #[.ref l, .int i 0] }
section
variable {prog : Program} {w : World} {M : Model} {A : Around} {E : Value → Shared → Prop} {s : Shared}
theorem li_run_item {it l : Addr} {i : Nat} {items : Array Value} {x : Value} {P : Fin → Shared → Prop} (hit : s.heap.get? it = some (iterObj l i)) (hl : s.heap.IsList l items) (hx : items[i]? = some x)
    (h : ∀ h', h'.get? it = some (iterObj l (i + 1)) → Heap.SameBut it s.heap h' → P (.done (.ret x)) { s with heap := h' }) : wpAny M A (Builtin.«list_iterator.__next__» ⟨[.ref it], []⟩) P E s := by
  refine exE1 hl fun ol h0 => andE3 h0 fun hol _ h0_2 => ?_
  obtain ⟨nl, hdl⟩ := h0_2
  show wpAny _ _ (field (.ref it) 0 >>= _) _ _ s
  refine wpAny_bind (wpAny_field hit rfl (x := .ref l) rfl ?_)
  show wpAny _ _ (if (Value.ref l == Value.none) = true then _ else _) _ _ s
  rw [if_neg (show ¬ ((Value.ref l == Value.none) = true) from Bool.false_ne_true)]
  show wpAny _ _ (field (.ref it) 1 >>= _) _ _ s
  refine wpAny_bind (wpAny_field hit rfl (x := .int i 0) rfl ?_)
  show wpAny _ _ (seqItems? (.ref l) >>= _) _ _ s
  refine wpAny_bind (wpAny_seqItems hol hdl ?_)
  simp only [Int.toNat_natCast, hx]
  refine wpAny_bind (wpAny_setField hit rfl (by simp) (wpAny_pure (h _ ?_ (Heap.SameBut.update ..))))
  exact Heap.get?_update_self _ hit (Obj.isFreed_of_fields (Obj.data_mapFields rfl _))
theorem li_run_end {it l : Addr} {i : Nat} {items : Array Value} {P : Fin → Shared → Prop} (hh : A.handled = none) (hit : s.heap.get? it = some (iterObj l i)) (hl : s.heap.IsList l items) (hx : items[i]? = none)
    (h : ∀ h' e t, (∀ b o, b ≠ it → s.heap.get? b = some o → h'.get? b = some o) → h'.get? it = some { cls := .type "list_iterator", data := .fields #[.none, .int i 0] } → s.heap.get? e = none →
      h'.get? e = some { cls := .type "StopIteration", data := .fields #[.ref t, .none, .none, .none, .bool false, .none] } → E (.ref e) { s with heap := h' }) : wpAny M A (Builtin.«list_iterator.__next__» ⟨[.ref it], []⟩) P E s := by
  refine exE1 hl fun ol h1 => andE3 h1 fun hol _ h1_2 => ?_
  obtain ⟨nl, hdl⟩ := h1_2
  show wpAny _ _ (field (.ref it) 0 >>= _) _ _ s
  refine wpAny_bind (wpAny_field hit rfl (x := .ref l) rfl ?_)
  show wpAny _ _ (if (Value.ref l == Value.none) = true then _ else _) _ _ s
  rw [if_neg (show ¬ ((Value.ref l == Value.none) = true) from Bool.false_ne_true)]
  show wpAny _ _ (field (.ref it) 1 >>= _) _ _ s
  refine wpAny_bind (wpAny_field hit rfl (x := .int i 0) rfl ?_)
  show wpAny _ _ (seqItems? (.ref l) >>= _) _ _ s
  refine wpAny_bind (wpAny_seqItems hol hdl ?_)
  simp only [Int.toNat_natCast, hx]
  refine wpAny_bind (wpAny_rule (wpAny_bind (wpAny_setField hit rfl (by simp) ?_)))
  have hlt := Heap.lt_size hit
  generalize hu : s.heap.update it (Obj.mapFields (·.setIfInBounds 0 Value.none)) = hU
  have hself : hU.get? it = some { cls := .type "list_iterator", data := .fields #[.none, .int i 0] } := by
    rw [← hu]; exact Heap.get?_update_self _ hit (Obj.isFreed_of_fields (Obj.data_mapFields rfl _))
  have hoth : ∀ b o, b ≠ it → s.heap.get? b = some o → hU.get? b = some o := fun b o hb q => by
    rw [← hu]; exact (Heap.get?_update_other _ _ (Ne.symm hb)).trans q
  have hszU : hU.objs.size = s.heap.objs.size := by rw [← hu]; exact Heap.size_after_update ..
  show wpAny _ _ (newExc (.type "StopIteration") [] >>= _) _ _ _
  refine wpAny_bind ?_
  simp only [newExc, newTuple]
  refine wpAny_bind (wpAny_newObj_type ?_ (by size_fits))
  refine wpAny_bind (m := firstArgMember _ _) (wpAny_of_eq (a := Value.none) (by first | rfl | (simp only [firstArgMember]; rfl)) ?_)
  refine wpAny_newObj_type ?_ (by size_fits)
  simp only [raiseNew]
  refine wpAny_bind (wpAny_handled ?_)
  rw [hh]
  refine wpAny_bind (wpAny_pure (wpAny_throw (h _ _ hU.objs.size (fun b o hb q => Heap.get?_push_of_some _ (Heap.get?_push_of_some _ (hoth b o hb q))) (Heap.get?_push_of_some _ (Heap.get?_push_of_some _ hself)) ?_ ?_)))
  · cases q : s.heap.get? (hU.push { cls := .type "tuple", data := .seq #[] }).objs.size with
    | none => rfl
    | some o =>
      have := Heap.lt_size q
      rw [Heap.size_push, hszU] at this
      exact absurd this (Nat.not_lt.mpr (Nat.le_succ _))
  · exact Heap.get?_push_size _ rfl
theorem check_next {a : Value} : checkBoundCall "list_iterator.__next__" ⟨[a], []⟩ = pure () := by first | kernel_rfl | rfl
theorem quiet_next {as : Args} : (Code.builtin "list_iterator.__next__" as).quiet = true := Code.quiet_builtin _ (by decide +kernel)
theorem call_nxt {x it : Addr} {Q : Value → Shared → Prop} (ho : s.heap.get? x = some (nxtObj it))
    (h : wpAny (model prog w) (A.under (.builtin "list_iterator.__next__" ⟨[.ref it], []⟩)) (Builtin.«list_iterator.__next__» ⟨[.ref it], []⟩) (fun fin s' => ∃ v, fin = .done (.ret v) ∧ Q v s') E s) : wpAny (model prog w) A (call (.ref x) []) Q E s := by
  refine wpAny_call (codeAny_of_tree ?_)
  show wpAny _ A.in1 (callAny (.ref x) ⟨[], []⟩) _ _ s
  simp only [callAny]
  refine wpAny_bind (wpAny_load ho ?_)
  dsimp only
  rw [if_pos (show (Value.type "method-wrapper" == Value.type "method" || Value.type "method-wrapper" == Value.type "builtin_function_or_method" || Value.type "method-wrapper" == Value.type "method-wrapper") = true by decide)]
  show wpAny _ _ (if (Value.type "method-wrapper" != Value.type "method") = true then (do checkBoundCall "list_iterator.__next__" ⟨[.ref it], []⟩; again (.builtin "list_iterator.__next__" ⟨[.ref it], []⟩)) else _) _ _ _
  rw [if_pos (show (Value.type "method-wrapper" != Value.type "method") = true by decide)]
  refine wpAny_bind (wpAny_of_eq (a := ()) check_next ?_)
  refine wpAny_pure ⟨quiet_next, codeAny_builtin entry_listiter_next (wpAny_mono h (fun fin s' hf => ?_) fun _ _ z => z)⟩
  obtain ⟨v, rfl, q⟩ := hf
  exact q
theorem callWith_nxt {pos : Pos} {u it : Addr} {Q : Value → Shared → Prop} (ho : s.heap.get? u = some (nxtObj it)) (h : wpAny M A (call (.ref u) []) Q E s) : wpAny M A (callWith pos (.ref u) [] [] []) Q E s := by
  unfold callWith
  refine wpAny_bind (wpAny_holding (evalArgs_any (args := []) rfl (wpAny_pure (wpAny_bind (wpAny_standAt ?_)))))
  simp only [List.any_nil, Bool.or_false]
  refine wpAny_bind (m := keeperOf (.ref u)) ?_
  unfold keeperOf
  refine wpAny_bind (wpAny_load ho ?_)
  dsimp only
  rw [if_pos (show (Value.type "method-wrapper" != Value.type "method") = true by decide)]
  rw [if_pos (show (Value.type "method-wrapper" == Value.type "builtin_function_or_method" || Value.type "method-wrapper" == Value.type "method-wrapper") = true by decide)]
  exact wpAny_pure (wpAny_bind (wpAny_mono h (fun r s₂ hr => wpAny_bind (wpAny_holding (wpAny_point (wpAny_pure hr)))) fun _ _ x => x))
end
end Mine
end
section
set_option tactic.hygienic false
open PySem PySem.W PyProof.Rows PySem.Calls PySem.SeqAt Builtin
namespace Mine
noncomputable def oIter : FOp := fun Ys H => match Ys with
  | [.ref i] => match (H[i]?).map O.thaw with
    | some (.list _) => some (.ref H.length, H ++ [.iter i 0])
    | _ => none
  | _ => none
noncomputable def eNext (f : PM V) : PM V := fun e H => (f e H).bind fun r => match r.1 with
  | .ref i => match r.2.2[i]? with
    | some (.iter _ _) => some (.ref r.2.2.length, r.2.1, r.2.2 ++ [.nxt i])
    | _ => none
  | _ => none
noncomputable def nxtOf (X : V) (H : AHeap) : Option (Nat × Nat × Nat × List V) := match X with
  | .ref j => match (H[j]?).map O.thaw with
    | some (.nxt it) => match H[it]? with
      | some (.iter l pos) => match (H[l]?).map O.thaw with
        | some (.list vs) => some (it, l, pos, vs)
        | _ => none
      | _ => none
    | _ => none
  | _ => none
noncomputable def mTryNext (f : PM V) (i : Nat) (h : PM Flw) : PM Flw := fun e H => (f e H).bind fun r => (nxtOf r.1 r.2.2).bind fun q => match q.2.2.2[q.2.2.1]? with
  | some x => (mStore i x r.2.1 (r.2.2.set q.1 (.iter q.2.1 (q.2.2.1 + 1)))).bind fun z => some (.brk, z.2.1, z.2.2)
  | none => h r.2.1 (r.2.2.set q.1 .dead)
section
variable {G : Gl} {Φ : Frm} {d : Nat} {ρ ρ' ρ₀ : Rho} {e e' : AEnv} {H H' H₀ : AHeap} {s s' s₀ : Shared}
set_option tactic.hygienic true in
theorem oIter_ok : FOpR G d (.builtin "iter") oIter := by
  intro Ys ws Φ e H x H' hf ρ s R hP A E ok
  refine hide fun PQ hpq => ?_
  unfold oIter at hf
  split at hf
  · rename_i i
    obtain ⟨w, rfl, hw⟩ := VRs_one hP
    simp only [VR] at hw; obtain ⟨a, ha, rfl⟩ := hw
    refine iList hf fun vs hq hf => ?_
    cases hf
    refine exE1 (thaw_some hq) fun y h1 => andE2 h1 fun hy hyt => ?_
    obtain ⟨o, g, om⟩ := R.at hy ha
    rw [hyt] at om
    refine exE2 om fun its n h3 => andE2 h3 fun e3_0 hvs => ?_
    subst e3_0
    refine hpq ?_
    refine call_function_entry (by decide +kernel) (by decide +kernel) kdk_entry_iter (kdk_args_iter _) ?_
    unfold Builtin.«iter»
    refine wpAny_bind (m := someArgs "iter" 1 2 _) (wpAny_of_eq (a := [Value.ref a]) (by first | rfl | kernel_rfl!) ?_)
    show wpAny _ _ (pyIter (.ref a) >>= _) _ _ _
    refine wpAny_bind (wpAny_pyIter_list (l := a) (items := its) ⟨_, g, rfl, n, rfl⟩ (wpAny_pure ⟨_, rfl, ?_⟩))
    refine andE3 (R.alloc (h' := s.heap.push (iterObj a 0)) (x := .iter i 0) (o := iterObj a 0) s.toks (Nat.le_refl _) (Heap.get?_push_size _ rfl) (fun b o q => Heap.get?_push_of_some _ q)
      (fun h1 h2 h3 => ⟨a, h1 _ _ ha, rfl⟩)) fun R' X' h' => ?_
    exact ⟨_, R', X', VR.ref h'⟩
  · first | exact nn hf | exact nf hf | cases hf
set_option tactic.hygienic true in
theorem snd_next {value : Expr} {pos : Pos} {f : PM V} (h1 : SndE G Φ d (eval value Φ.env) f)
    (he : eval (.Attribute value "__next__" pos) Φ.env = (do
      let o ← eval value Φ.env
      standAt pos.atName
      let r ← holding [o] (getAttr o "__next__" true)
      letTemporaryGo value o r
      pure r)) : SndE G Φ d (eval (.Attribute value "__next__" pos) Φ.env) (eNext f) := by
  intro e H X e' H' hf ρ s R A E ok
  refine hide fun PQ hpq => ?_
  refine bnd3 hf fun X₁ e₁ H₁ f1 hf => ?_
  split at hf
  · rename_i i hi
    simp only at hi; subst hi
    split at hf
    · rename_i l p hq
      cases hf
      refine hpq ?_
      refine Attribute_any_ (h1.run f1 R ok fun v ρ₁ s₁ R₁ X₁ v₁ => ?_) he
      simp only [VR] at v₁; obtain ⟨a, ha, rfl⟩ := v₁
      obtain ⟨o, g, om⟩ := R₁.at hq ha
      obtain ⟨al, hal, rfl⟩ := om
      refine get_next g rfl rfl ⟨_, rfl⟩ ?_
      refine andE3 (R₁.alloc (h' := s₁.heap.push (nxtObj a)) (x := .nxt i) (o := nxtObj a) (s₁.toks + 1) (Nat.le_refl _) (Heap.get?_push_size _ rfl) (fun b o q => Heap.get?_push_of_some _ q)
        (fun h1 h2 h3 => ⟨a, h1 _ _ ha, rfl⟩)) fun R' X' h' => ?_
      exact ⟨_, R', X₁.trans X', VR.ref h'⟩
    · first | exact nn hf | exact nf hf | cases hf
  · first | exact nn hf | exact nf hf | cases hf
theorem Rel.slots (R : Rel G Φ ρ e H s) {h' : Heap} (hs : Heap.SlotsOnly Φ.fa s.heap h') : Rel G Φ ρ e H { s with heap := h' } ∧ Ext Φ ρ H s ρ H { s with heap := h' } := by
  have hk : ∀ b o, b ∉ Φ.fa → s.heap.get? b = some o → h'.get? b = some o := fun b o hb g => (hs.2.1 b hb).trans g
  have X : Ext Φ ρ H s ρ H { s with heap := h' } := ⟨fun _ _ e => e, fun _ h => .inl h, fun _ _ h => .inl h, fun b o _ _ hf g => hk b o hf g, fun b o _ _ g => hs.2.2 b o g, fun b o g => by obtain ⟨sl, q⟩ := hs.2.2 b o g; exact ⟨_, q⟩, rfl⟩
  have hv : ∀ (x : V) (v : Value), VR G ρ s.heap x v → VR G ρ h' x v := fun x v q => X.vr R q
  have hvs : ∀ (x : List V) (v : List Value), VRs G ρ s.heap x v → VRs G ρ h' x v := fun x v q => X.vrs R q
  refine ⟨⟨?_, fun i x hx => ?_, R.dom, R.inj, R.lo, fun p hp => ?_, fun b o h => ?_, R.locp, R.stat, fun f hf => ?_⟩, X⟩
  · refine exE1 (R.fr) fun m h8 => andE2 h8 fun h8_0 hm => ?_
    obtain ⟨oL, es, ep, g1, g2, g3⟩ := h8_0
    obtain ⟨sl, g1'⟩ := hs.2.2 _ _ g1
    exact ⟨m, ⟨_, es, ep, g1', g2, g3⟩, fun x i hi => (hm x i hi).mono hv fun c o vo _ g hd => hk c o (fun hf => by
      refine andE3 (R.fas c hf) fun _ _ h10_2 => ?_
      obtain ⟨o', _, _, f1, f2⟩ := h10_2
      rw [g] at f1; cases f1
      rw [hd] at f2; cases f2) g⟩
  · refine exE2 (R.hp i x hx) fun a o h11 => andE3 h11 fun e1 e2 e3 => ?_
    exact exI2 a o ⟨e1, hk a o (R.rhoF e1) e2, e3.mono (fun _ _ e => e) hv hvs⟩
  · refine andE3 (R.pr p hp) fun p1 p2 h12_2 => ?_
    obtain ⟨o, p3, p4⟩ := h12_2
    obtain ⟨sl, p3'⟩ := hs.2.2 _ _ p3
    exact ⟨p1, p2, _, p3', fun im => p4 im⟩
  · exact hk b o (fun hf => by rw [(R.fas b hf).1] at h; cases h) (R.base b o h)
  · refine andE3 (R.fas f hf) fun p1 p2 h14_2 => ?_
    obtain ⟨o, es, ep, p3, p4⟩ := h14_2
    obtain ⟨sl, p3'⟩ := hs.2.2 _ _ p3
    exact ⟨p1, p2, _, es, ep, p3', p4⟩
structure Free (G : Gl) (Φ : Frm) (ρ : Rho) (s₀ : Shared) (a : Addr) : Prop where
  rho : ∀ i, ρ i ≠ some a
  pr : a ∉ Φ.priv
  fa : a ∉ Φ.fa
  hb : G.hb.get? a = none
  s0 : s₀.heap.get? a = none
theorem Free.of (R : Rel G Φ ρ e H s) {a : Addr} (h : s.heap.get? a = none) (h0 : s₀.heap.get? a = none) : Free G Φ ρ s₀ a where
  rho := fun i hi => by obtain ⟨o, g⟩ := R.rho_at hi; rw [h] at g; cases g
  pr := fun hp => by obtain ⟨o, g⟩ := R.priv_at hp; rw [h] at g; cases g
  fa := R.freshF h
  hb := by
    cases q : G.hb.get? a with
    | none => rfl
    | some o => rw [R.base a o q] at h; cases h
  s0 := h0
theorem Free.upd {a : Addr} (F : Free G Φ ρ s₀ a) (R : Rel G Φ ρ e H s) (X : Ext Φ ρ₀ H₀ s₀ ρ H s) {h' : Heap} (hobj : ∀ o, s.heap.get? a = some o → ¬ Imm o ∧ ∀ vo, o.data ≠ .cell vo) (hk : ∀ b o, b ≠ a → s.heap.get? b = some o → h'.get? b = some o) :
    Rel G Φ ρ e H { s with heap := h' } ∧ Ext Φ ρ₀ H₀ s₀ ρ H { s with heap := h' } :=
  ⟨(R.other s.toks F.rho F.pr F.fa F.hb hobj hk).1, X.other s.toks F.s0 hk⟩
theorem funFrames_of (R : Rel G Φ ρ e H s) : ∀ {l : List Env}, (∀ env ∈ l, env.scope.kind ≠ .module ∧ ∃ L, env.frame = some L) → (∀ f ∈ l.filterMap (·.frame), f ∈ Φ.fa) → s.heap.FunFrames G.hb l
  | [], _, _ => trivial
  | env :: r, h, hf => by
    refine andE2 (h env List.mem_cons_self) fun hk h16_1 => ?_
    obtain ⟨L, hL⟩ := h16_1
    have hLf : L ∈ Φ.fa := hf L (by rw [List.filterMap_cons, hL]; exact List.mem_cons_self)
    refine andE3 (R.fas L hLf) fun p1 _ h17_2 => ?_
    obtain ⟨o, es, ep, p3, p4⟩ := h17_2
    refine ⟨hk, ⟨L, o, hL, p1, p3, fun vs q => by rw [p4] at q; cases q⟩, funFrames_of R (fun e he => h e (List.mem_cons_of_mem _ he)) fun f hm => hf f ?_⟩
    rw [List.filterMap_cons, hL]; exact List.mem_cons_of_mem _ hm
noncomputable abbrev excObj (t : Addr) (tb : Value) : Obj := { cls := .type "StopIteration", data := .fields #[.ref t, tb, .none, .none, .bool false, .none] }
theorem exc_obj {o : Obj} {T : String} {vs : Array Value} (h : o = { cls := .type T, data := .fields vs }) (hT : immT.contains T = false) : ¬ Imm o ∧ ∀ vo, o.data ≠ .cell vo := by
  subst h
  exact ⟨fun im => (by have := imm_cls im rfl; rw [hT] at this; cases this), fun vo q => by cases q⟩
theorem noted_ok (R : Rel G Φ ρ e H s) (X : Ext Φ ρ₀ H₀ s₀ ρ H s) {A : Around} {d : Nat} (ok : OkA Φ d A) {outer : List Env} (hfr : Φ.fr = Φ.env :: outer) {L : Addr} (hL : Φ.env.frame = some L) {x t : Addr} (hx : s.heap.get? x = some (excObj t .none)) (F : Free G Φ ρ s₀ x)
    {E : Value → Shared → Prop} {Q : Unit → Shared → Prop} (k : ∀ h' tb vs, Rel G Φ ρ e H { s with heap := h' } → Ext Φ ρ₀ H₀ s₀ ρ H { s with heap := h' } → h'.get? x = some (excObj t (.ref tb)) → h'.get? tb = some { cls := .type "traceback", data := .fields vs } → 3 < vs.size → x ≠ tb → Free G Φ ρ s₀ tb → Q () { s with heap := h' }) :
    wpAny G.M A (noteFrame (.ref x) Φ.env) Q E s := by
  unfold noteFrame
  simp only [hL]
  refine wpAny_bind (wpAny_field hx rfl (x := .none) rfl ?_)
  rw [if_neg (by decide)]
  have hA := ok.2.2.2.1
  have hFF : s.heap.FunFrames G.hb Φ.fr := funFrames_of R ok.2.2.2.2 fun f hf => hf
  rw [hfr] at hA hFF
  refine wpAny_bind (wpAny_frameOf_fun hA hFF hL fun h₁ hs₁ => ?_)
  rw [show (Φ.env :: outer).filterMap (·.frame) = Φ.fa by unfold Frm.fa; rw [hfr]] at hs₁
  refine andE2 (R.slots hs₁) fun R₁ X₁ => ?_
  have X₁ := X.trans X₁
  have hx₁ : h₁.get? x = some (excObj t .none) := (hs₁.2.1 x F.fa).trans hx
  refine wpAny_bind (wpAny_entryPlaceOf fun pl hpl => ?_)
  unfold EntryCells.newEntry newFields
  refine wpAny_bind (wpAny_newObj_type ?_ (hpl.sizeOk5 _ _ _ _ _))
  have hT : h₁.get? h₁.objs.size = none := get_size_none _
  have hFt : Free G Φ ρ s₀ h₁.objs.size := Free.of R₁ hT (X₁.gone hT)
  refine andE2 (R₁.junk (h' := h₁.push { cls := .type "traceback", data := .fields ([Value.none, .ref L, .none, rawInt L, .none] ++ (if pl.isEmpty then List.replicate 6 Value.none else pl)).toArray }) s.toks (fun b o q => Heap.get?_push_of_some _ q)) fun R₂ X₂' => ?_
  have X₂ := X₁.trans X₂'
  have hx₂ := Heap.get?_push_of_some (h := h₁) { cls := .type "traceback", data := .fields ([Value.none, .ref L, .none, rawInt L, .none] ++ (if pl.isEmpty then List.replicate 6 Value.none else pl)).toArray } hx₁
  have hne : x ≠ h₁.objs.size := Nat.ne_of_lt (Heap.lt_size hx₁)
  refine wpAny_setField hx₂ rfl (by simp) ?_
  refine andE2 (F.upd R₂ X₂ (fun o g => exc_obj (Option.some.inj (g.symm.trans hx₂)) (by decide)) (fun b o hb q => (Heap.get?_update_other _ (Obj.mapFields (·.setIfInBounds 1 (.ref h₁.objs.size))) (Ne.symm hb)).trans q)) fun R₃ X₃ => ?_
  refine k _ h₁.objs.size _ R₃ X₃ (Heap.get?_update_self _ hx₂ (Obj.isFreed_of_fields (Obj.data_mapFields rfl _))) ((Heap.get?_update_other _ _ hne).trans (Heap.get?_push_size _ rfl)) ?_ hne hFt
  simp only [List.size_toArray, List.length_append, List.length_cons, List.length_nil]
  (first | lia | omega)
theorem flight_ok (R : Rel G Φ ρ e H s) (X : Ext Φ ρ₀ H₀ s₀ ρ H s) {A : Around} {x t tb : Addr} {vs : Array Value} (hx : s.heap.get? x = some (excObj t (.ref tb))) (htb : s.heap.get? tb = some { cls := .type "traceback", data := .fields vs }) (h3 : 3 < vs.size) (hne : x ≠ tb) (F : Free G Φ ρ s₀ tb)
    {E : Value → Shared → Prop} {Q : Unit → Shared → Prop} (k : ∀ h' vs', Rel G Φ ρ e H { s with heap := h' } → Ext Φ ρ₀ H₀ s₀ ρ H { s with heap := h' } → h'.get? x = some (excObj t (.ref tb)) → h'.get? tb = some { cls := .type "traceback", data := .fields vs' } → 3 < vs'.size → Q () { s with heap := h' }) :
    wpAny G.M A (setFlight (.ref x) none) Q E s := by
  refine wpAny_setFlight_none hx rfl rfl htb rfl h3 ?_
  refine andE2 (F.upd R X (fun o g => exc_obj (Option.some.inj (g.symm.trans htb)) (by decide)) (fun b o hb q => (Heap.get?_update_other _ (Obj.mapFields (·.setIfInBounds 3 .none)) (Ne.symm hb)).trans q)) fun R₃ X₃ => ?_
  exact k _ (vs.setIfInBounds 3 .none) R₃ X₃ ((Heap.get?_update_other _ _ (Ne.symm hne)).trans hx) (Heap.get?_update_self _ htb (Obj.isFreed_of_fields (Obj.data_mapFields rfl _))) (by simpa using h3)
end
end Mine
end
section
set_option tactic.hygienic false
open PySem PySem.W PyProof.Rows PySem.Calls PySem.SeqAt Builtin
namespace Mine
theorem stop_base : isSubtype (.type "StopIteration") (.type "BaseException") = pure true := by rw [isSubtype_type]; kernel_rfl
theorem stop_self : isSubtype (.type "StopIteration") (.type "StopIteration") = pure true := by rw [isSubtype_type]; kernel_rfl
theorem stop_tup : isSubtype (.type ((Manifest.find? "StopIteration").elim "type" fun x => x.metatype)) (.type "tuple") = pure false := by rw [isSubtype_type]; kernel_rfl
section
variable {G : Gl} {Φ : Frm} {d : Nat}
set_option tactic.hygienic true in
theorem nxt_real {Y : V} {v : Value} {it l pos : Nat} {vs : List V} (f2 : nxtOf Y H = some (it, l, pos, vs)) (R : Rel G Φ ρ e H s) (hv : VR G ρ s.heap Y v) :
    ∃ u ai al its, v = .ref u ∧ s.heap.get? u = some (nxtObj ai) ∧ ρ it = some ai ∧ s.heap.get? ai = some (iterObj al pos) ∧ ρ l = some al ∧ H[it]? = some (.iter l pos) ∧ s.heap.IsList al its ∧ VRs G ρ s.heap vs its.toList := by
  refine hide fun PQ hpq => ?_
  unfold nxtOf at f2
  split at f2
  · rename_i j
    split at f2
    · rename_i it' hj
      split at f2
      · rename_i l' pos' hit
        split at f2
        · rename_i vs' hl
          cases f2
          simp only [VR] at hv; obtain ⟨a, ha, rfl⟩ := hv
          refine exE1 (thaw_some hj) fun z h0 => andE2 h0 fun hz hzt => ?_
          obtain ⟨o, g, om⟩ := R.at hz ha
          rw [hzt] at om
          obtain ⟨ai, hai, rfl⟩ := om
          obtain ⟨oi, gi, omi⟩ := R.at hit hai
          obtain ⟨al, hal, rfl⟩ := omi
          refine exE1 (thaw_some hl) fun zl h5 => andE2 h5 fun hzl hzlt => ?_
          obtain ⟨ol, gl, oml⟩ := R.at hzl hal
          rw [hzlt] at oml
          refine exE2 oml fun its n h7 => andE2 h7 fun e7_0 hvs => ?_
          subst e7_0
          exact hpq ⟨a, ai, al, its, rfl, g, hai, gi, hal, hit, ⟨_, gl, rfl, n, rfl⟩, hvs⟩
        · cases f2
      · cases f2
    · cases f2
  · cases f2
theorem st_trynext (gok : GOk G) (fo : FOk Φ) (fg : FOkG Φ) (d0 : 0 < d) {outer : List Env} (hfr : Φ.fr = Φ.env :: outer) {L : Addr} (hL : Φ.env.frame = some L) {x : Str} {i : Nat} {fe : Expr} {b₀ : Stmt} {suite : List Stmt} {p1 p2 p3 p4 p5 p6 p7 : Pos} {f : PM V} {h : PM Flw}
    (hs : Φ.slot.lookup x = some i) (hst : Sto Φ x) (h1 : SndE G Φ d (eval fe Φ.env) f) (h2 : SndF G Φ 0 (execs (b₀ :: suite) Φ.env) h)
    (he : eval (.Call fe [] [] p2) Φ.env = (do callWith p2 (← eval fe Φ.env) [] [] []))
    (hw : swapsWith (.Call fe [] [] p2) (some (.Name x p1)) p3.line Φ.env = pure false)
    (hx : Φ.env.kindOf "StopIteration" = some .globalImplicit) (hg : G.mg "StopIteration" = none) :
    SndF G Φ d (exec (.Try [.Assign [.Name x p1] (.Call fe [] [] p2) p3, .Break p4] [.ExceptHandler (some (.Name "StopIteration" p5)) none (b₀ :: suite) p6] [] [] p7) Φ.env) (mTryNext f i h) := by
  intro e H X e' H' hf ρ s R A E ok
  refine hideW fun K hK => ?_
  refine bnd3 hf fun Y e₁ H₁ f1 hf => ?_
  obtain ⟨⟨it, l, pos, vs⟩, f2, hf⟩ := Option.bind_eq_some_iff.mp hf
  refine wpAny_Try_except (wpAny_execs_cons (wpAny_Assign_Name ?_ hw))
  rw [he]
  refine wpAny_bind (h1.run f1 R ok fun v ρ₁ s₁ R₁ X₁ v₁ => ?_)
  refine hide fun PQ3 hpq3 => ?_
  refine exE4 (nxt_real f2 R₁ v₁) fun u ai al its h9 => andE8 h9 fun e9_0 g hai gi hal hit hlist hvs => ?_
  subst e9_0
  have hlen : its.size = vs.length := by have := hvs.length; simpa using this
  refine hpq3 ?_
  refine callWith_nxt g (call_nxt g ?_)
  split at hf
  · rename_i xv hxv
    refine bnd3 hf fun u e₂ H₂ f3 hf => ?_
    obtain ⟨y, hy, hyv⟩ := hvs.get hxv
    refine li_run_item gi hlist (x := y) (by simpa using hy) fun h' gi' hsb => ⟨_, rfl, ?_⟩
    refine andE2 (R₁.upd (h' := h') (x' := .iter l (pos + 1)) (o' := iterObj al (pos + 1)) s₁.toks hai hit rfl rfl gi' (fun b o hb q => hsb.extBut b o hb q) (fun _ _ => ⟨al, hal, rfl⟩)) fun R₂ X₂ => ?_
    refine store_var fo hs hst f3 R₂ (X₂.vr R₁ hyv) fun s₃ R₃ X₃ => ?_
    exact wpAny_execs_cons (wpAny_Break (hK _ _ (post_of hf R₃ ((X₁.trans X₂).trans X₃) rfl)))
  · rename_i hxv
    have hno : its[pos]? = none := by
      rw [Array.getElem?_eq_none_iff, hlen]
      exact List.getElem?_eq_none_iff.mp hxv
    refine li_run_end (ok.1 d0) gi hlist hno fun h' xe t hk hself hxe hexc => ?_
    refine andE2 (R₁.upd (h' := h') (x' := .dead) (o' := { cls := .type "list_iterator", data := .fields #[.none, .int pos 0] }) s₁.toks hai hit rfl rfl hself hk (fun _ _ => ⟨_, rfl⟩)) fun R₂ X₂ => ?_
    have X12 := X₁.trans X₂
    have Fx : Free G Φ ρ₁ s xe := Free.of R₁ hxe (X₁.gone hxe)
    refine noted_ok R₂ X12 ok hfr hL hexc Fx fun h₃ tb vs₃ R₃ X₃ gx₃ gt₃ hsz₃ hne Ft => ?_
    refine flight_ok R₃ X₃ gx₃ gt₃ hsz₃ hne Ft fun h₄ vs₄ R₄ X₄ gx₄ gt₄ hsz₄ => ?_
    refine wpAny_handleBy_builtin (X := "StopIteration") (T := "StopIteration") (b := true) stop_base stop_tup stop_self ?_
    refine load_bi gok fo fg hx hg (f := .type "StopIteration") (by decide +kernel) (by decide) (by decide) R₄ ⟨rfl, ⟨_, gx₄, rfl⟩, ?_⟩
    simp only [if_true]
    refine flight_ok R₄ X₄ gx₄ gt₄ hsz₄ hne Ft fun h₅ vs₅ R₅ X₅ gx₅ gt₅ hsz₅ => ?_
    have ok' : OkA Φ 0 (A.mark (some (.ref xe))) := ⟨fun q => absurd q (Nat.lt_irrefl 0), by have := ok.2.1; show A.depth + 0 < 900; (first | lia | omega), by have := ok.2.2.1; show A.units + 40 * 0 < 9000; (first | lia | omega), ok.2.2.2⟩
    exact h2.run hf R₅ ok' fun y ρ₆ s₆ R₆ X₆ v₆ => hK _ _ ⟨ρ₆, R₆, X₅.trans X₆, v₆⟩
end
end Mine
end
section
set_option tactic.hygienic false
open PySem PySem.W PyProof.Rows PySem.Calls PySem.SeqAt Builtin
namespace Mine
noncomputable def bdStar (n : Nat) (Ys : List V) : Option (List V) := if n ≤ Ys.length ∧ Ys.length ≤ 5000 then some (Ys.take n ++ [.tup (Ys.drop n)]) else none
theorem fd_none {fd : FuncData} (hd : fd.defaults = .none) (args : Args) : bindArgs fd args = bindArgs { fd with defaults := .none } args :=
  congrArg (bindArgs · args) (by cases fd; cases hd; rfl)
theorem bind_star {G : Gl} {fd : FuncData} {ps : List Str} {vn : Str} (n : Nat) (hn : ps.length = n)
    (he : ∀ ws : List Value, n ≤ ws.length → bindArgs fd ⟨ws, []⟩ = (do let t ← newTuple (ws.drop n); pure (ps.zip (ws.take n) ++ [(vn, t)]))) : BindR G fd (ps ++ [vn]) (bdStar n) := by
  intro Φ e H ρ s Ys ws Zs R hv hb A E Q k
  unfold bdStar at hb
  split at hb
  · rename_i hl
    cases hb
    have hlen := hv.length
    rw [he ws (by omega)]
    unfold newTuple
    refine wpAny_bind (wpAny_newObj_type ?_ (by show (ws.drop n).toArray.size ≤ sizeLine; exact size_le (by simp; omega)))
    refine wpAny_pure ?_
    have e1 : ps.zip (ws.take n) ++ [(vn, Value.ref s.heap.objs.size)] = (ps ++ [vn]).zip (ws.take n ++ [Value.ref s.heap.objs.size]) := by
      rw [List.zip_append (by simp; omega)]; rfl
    rw [e1]
    have hk : ∀ b o, s.heap.get? b = some o → (s.heap.push { cls := .type "tuple", data := .seq (ws.drop n).toArray }).get? b = some o := fun b o q => Heap.get?_push_of_some _ q
    have hm : VRs G ρ (s.heap.push { cls := .type "tuple", data := .seq (ws.drop n).toArray }) Ys ws := VRs.mono (fun _ _ q => q) (fun a o _ q => hk a o q) _ _ hv
    refine k _ _ s.toks hk (by simp; omega) ?_
    have split : ∀ (m : Nat) (Xs : List V) (us : List Value) (h : Heap), VRs G ρ h Xs us → VRs G ρ h (Xs.take m) (us.take m) ∧ VRs G ρ h (Xs.drop m) (us.drop m) := by
      intro m
      induction m with
      | zero => intro Xs us h q; exact ⟨by simp [VRs], by simpa using q⟩
      | succ m ih =>
        intro Xs us h q
        cases Xs with
        | nil => simp only [VRs] at q; subst q; simp [VRs]
        | cons X r =>
          simp only [VRs] at q
          refine exE2 q fun v t h0 => andE3 h0 fun e0_0 q1 q2 => ?_
          subst e0_0
          exact ⟨VRs.cons q1 (ih r t h q2).1, (ih r t h q2).2⟩
    refine VRs.append (split n Ys ws _ hm).1 (VRs.one ?_)
    simp only [VR]
    exact exI3 _ ((ws.drop n).toArray) 0 ⟨rfl, Heap.get?_push_size _ rfl, by simpa using (split n Ys ws _ hm).2⟩
  · first | exact nn hb | exact nf hb | cases hb
theorem bind_s2 {G : Gl} {fd : FuncData} {n m k : Str} (h0 : ∀ x y, bindArgs { fd with defaults := .none } ⟨[x, y], []⟩ = (do let t ← newTuple []; pure [(n, x), (m, y), (k, t)]))
    (h1 : ∀ x y z r, bindArgs { fd with defaults := .none } ⟨x :: y :: z :: r, []⟩ = (do let t ← newTuple (z :: r); pure [(n, x), (m, y), (k, t)])) (hd : fd.defaults = .none) : BindR G fd ([n, m] ++ [k]) (bdStar 2) := by
  refine bind_star 2 rfl fun ws hl => ?_
  cases ws with
  | nil => exact absurd hl (by decide)
  | cons x ws =>
    cases ws with
    | nil => exact absurd hl (by simp)
    | cons y ws =>
      refine (fd_none hd _).trans ?_
      cases ws with
      | nil => exact h0 x y
      | cons z r => exact h1 x y z r
theorem bind_s1 {G : Gl} {fd : FuncData} {n m : Str} (h0 : ∀ x, bindArgs { fd with defaults := .none } ⟨[x], []⟩ = (do let t ← newTuple []; pure [(n, x), (m, t)]))
    (h1 : ∀ x y r, bindArgs { fd with defaults := .none } ⟨x :: y :: r, []⟩ = (do let t ← newTuple (y :: r); pure [(n, x), (m, t)])) (hd : fd.defaults = .none) : BindR G fd ([n] ++ [m]) (bdStar 1) := by
  refine bind_star 1 rfl fun ws hl => ?_
  cases ws with
  | nil => exact absurd hl (by decide)
  | cons x ws =>
    refine (fd_none hd _).trans ?_
    cases ws with
    | nil => exact h0 x
    | cons y r => exact h1 x y r
theorem bind_d {G : Gl} {fd : FuncData} {n m : Str} (h : ∀ dv u v, ∃ K, bindArgs { fd with defaults := .ref dv } ⟨[u, v], []⟩ = seqItems? (.ref dv) >>= K ∧ ∀ dx, K (some #[dx]) = pure [(n, u), (m, v)])
    (hd : ∃ dv o dx k, fd.defaults = .ref dv ∧ G.hb.get? dv = some o ∧ o.data = .seq #[dx] k) : BindR G fd [n, m] (bdPlain 2) := by
  refine exE4 hd fun dv o dx kk h1 => andE3 h1 fun hd ho hdat => ?_
  intro Φ e H ρ s Ys ws Zs R hv hb A E Q k
  unfold bdPlain at hb
  split at hb
  · rename_i hl
    cases hb
    have hlen := hv.length
    rw [hl] at hlen
    cases ws with
    | nil => cases hlen
    | cons u ws =>
      cases ws with
      | nil => cases hlen
      | cons v ws =>
        cases ws with
        | cons _ _ => cases hlen
        | nil =>
          obtain ⟨K, h1, h2⟩ := h dv u v
          have e : fd = { fd with defaults := .ref dv } := by cases fd; cases hd; rfl
          rw [e, h1]
          have := k [u, v] s.heap s.toks (fun _ _ q => q) (by rw [hl]; rfl) hv
          exact wpAny_bind (wpAny_seqItems (R.base _ _ ho) hdat (by rw [h2]; exact wpAny_pure this))
  · first | exact nn hb | exact nf hb | cases hb
end Mine
end
section
set_option tactic.hygienic false
open PySem PySem.W PyProof.Rows PySem.Calls PySem.SeqAt Builtin
namespace Mine
noncomputable def stAt (p : Program) (i : Nat) : Stmt := p.main.body.getD i (.Pass ⟨0, 0, 0, 0⟩)
noncomputable def stIn (s : Stmt) (i : Nat) : Stmt := match s with
  | .ClassDef _ _ _ body _ _ _ _ _ _ _ => body.getD i (.Pass ⟨0, 0, 0, 0⟩)
  | _ => .Pass ⟨0, 0, 0, 0⟩
noncomputable def fName : Stmt → Str
  | .FunctionDef n _ _ _ _ _ _ _ _ _ => n
  | _ => Str.empty
noncomputable def fPar : Stmt → Arguments
  | .FunctionDef _ a _ _ _ _ _ _ _ _ => a
  | _ => ⟨[], [], none, [], [], none, []⟩
noncomputable def fBody : Stmt → List Stmt
  | .FunctionDef _ _ b _ _ _ _ _ _ _ => b
  | _ => []
noncomputable def fScope : Stmt → Scope
  | .FunctionDef _ _ _ _ _ _ s _ _ _ => s
  | _ => { kind := .function, names := [], isGenerator := false, isCoroutine := false, more := [] }
structure Parts where
  dV : Value
  kV : Value
  doc : Value
  pm : Value
  an : Option Addr
  cdv : Value
  ct : Value
noncomputable def fdOf (st : Stmt) (q : Str) (v : Parts) : FuncData :=
  { name := fName st, qualname := q, params := fPar st, body := .stmts (fBody st), scope := fScope st, globals := mainGlobals, closure := [], defaults := v.dV, kwdefaults := v.kV, doc := v.doc, pyModule := v.pm, annotations := v.an, code := v.cdv, closureTuple := v.ct, builtins := builtinsNs }
noncomputable def partsOf (fd : FuncData) : Parts := ⟨fd.defaults, fd.kwdefaults, fd.doc, fd.pyModule, fd.annotations, fd.code, fd.closureTuple⟩
noncomputable def fdIn (K : Frag) (a : Addr) : FuncData := match K.lookup a with
  | some ⟨_, _, .func fd, _⟩ => fd
  | _ => default
noncomputable def ptIn (K : Frag) (a : Addr) : Parts := partsOf (fdIn K a)
noncomputable def adIn (K : Frag) (x : Str) : Addr := match nsIn K mainGlobals x with
  | some (some (.ref f)) => f
  | _ => 0
noncomputable def meIn (K : Frag) (C : Addr) (x : Str) : Addr := match findIn K (.ref C) x with
  | some (some (.ref f)) => f
  | _ => 0
noncomputable def isFun (K : Frag) (a : Addr) (st : Stmt) (q : Str) : Prop := fnIn K a = true ∧ fdIn K a = fdOf st q (ptIn K a) ∧ codeIn K (ptIn K a).cdv q = true
set_option tactic.hygienic true in
theorem funIs_of {G : Gl} (X : G.K.In G.hb) {a : Addr} {st : Stmt} {q : Str} (h : isFun G.K a st q) (hco : (fScope st).isCoroutine = false) (hge : (fScope st).isGenerator = false) (hk : (fScope st).kind = .function) :
    FunIs G a (fdOf st q (ptIn G.K a)) (fBody st) where
  obj := by
    obtain ⟨h1, h2, _⟩ := h
    unfold fnIn at h1
    split at h1
    · rename_i oc od fd osl ho
      refine ⟨_, X _ _ ho, ?_⟩
      have : fdIn G.K a = fd := by unfold fdIn; rw [ho]
      rw [← h2, this]
    · cases h1
  code := codeRec_of X h.2.2
  body := rfl
  clo := rfl
  glob := rfl
  blt := rfl
  co := hco
  gen := hge
  kind := hk
theorem sto_fun {fd : FuncData} {a L : Addr} {slot : List (Str × Nat)} {fr : List Env} {x : Str} (h : fd.scope.names.lookup x = some .cell) : Sto (funFrm fd a L slot fr) x :=
  .inr ⟨h, fun c hc => List.mem_cons_of_mem _ (List.mem_map.mpr ⟨(x, c), mem_of_lookup hc, rfl⟩)⟩
end Mine
end
section
set_option tactic.hygienic false
open PySem PySem.W PyProof.Rows PySem.Calls PySem.SeqAt Builtin
namespace Mine
section
variable {G : Gl} {Φ : Frm} {d : Nat} {o : Expr} {apos pos : Pos} {args : List Expr} {f : PM V} {g : PM (List V)}
theorem meth_append (hbase : attributeBase o "append" Φ.env (eval o Φ.env) = eval o Φ.env)
    (hfew : ((backTo pos (starEach args Φ.env)).all (fun x => !x.1) && (backToKw pos (keywordEach [] Φ.env)).all (fun x => x.1.isSome) && decide (args.length + ([] : List Keyword).length + (if ([] : List Keyword).isEmpty then 0 else 1) < 30)) = true)
    (hline : (apos.endLine == pos.line) = true) (hpl : (backTo pos (starEach args Φ.env)).any (·.1) = false)
    (h1 : SndE G Φ d (eval o Φ.env) f) (h2 : SndL G Φ d (spliced (backTo pos (starEach args Φ.env))) g) : SndE G Φ d (eval (.Call (.Attribute o "append" apos) args [] pos) Φ.env) (eMeth f kList g oAppend) :=
  snd_meth hbase hfew hline hpl F.plainAttrs_list F.slot_list_append (by show builtinType _ = _; rw [builtinType_eq_fast]; kernel_rfl) kList_ok h1 h2 oAppend_ok
theorem meth_clear (hbase : attributeBase o "clear" Φ.env (eval o Φ.env) = eval o Φ.env)
    (hfew : ((backTo pos (starEach args Φ.env)).all (fun x => !x.1) && (backToKw pos (keywordEach [] Φ.env)).all (fun x => x.1.isSome) && decide (args.length + ([] : List Keyword).length + (if ([] : List Keyword).isEmpty then 0 else 1) < 30)) = true)
    (hline : (apos.endLine == pos.line) = true) (hpl : (backTo pos (starEach args Φ.env)).any (·.1) = false)
    (h1 : SndE G Φ d (eval o Φ.env) f) (h2 : SndL G Φ d (spliced (backTo pos (starEach args Φ.env))) g) : SndE G Φ d (eval (.Call (.Attribute o "clear" apos) args [] pos) Φ.env) (eMeth f kList g oClear) :=
  snd_meth hbase hfew hline hpl F.plainAttrs_list F.slot_list_clear (by show builtinType _ = _; rw [builtinType_eq_fast]; kernel_rfl) kList_ok h1 h2 oClear_ok
theorem meth_pop (hbase : attributeBase o "pop" Φ.env (eval o Φ.env) = eval o Φ.env)
    (hfew : ((backTo pos (starEach args Φ.env)).all (fun x => !x.1) && (backToKw pos (keywordEach [] Φ.env)).all (fun x => x.1.isSome) && decide (args.length + ([] : List Keyword).length + (if ([] : List Keyword).isEmpty then 0 else 1) < 30)) = true)
    (hline : (apos.endLine == pos.line) = true) (hpl : (backTo pos (starEach args Φ.env)).any (·.1) = false)
    (h1 : SndE G Φ d (eval o Φ.env) f) (h2 : SndL G Φ d (spliced (backTo pos (starEach args Φ.env))) g) : SndE G Φ d (eval (.Call (.Attribute o "pop" apos) args [] pos) Φ.env) (eMeth f kList g oPop) :=
  snd_meth hbase hfew hline hpl F.plainAttrs_list F.slot_list_pop (by show builtinType _ = _; rw [builtinType_eq_fast]; kernel_rfl) kList_ok h1 h2 oPop_ok
theorem meth_get (hbase : attributeBase o "get" Φ.env (eval o Φ.env) = eval o Φ.env)
    (hfew : ((backTo pos (starEach args Φ.env)).all (fun x => !x.1) && (backToKw pos (keywordEach [] Φ.env)).all (fun x => x.1.isSome) && decide (args.length + ([] : List Keyword).length + (if ([] : List Keyword).isEmpty then 0 else 1) < 30)) = true)
    (hline : (apos.endLine == pos.line) = true) (hpl : (backTo pos (starEach args Φ.env)).any (·.1) = false)
    (h1 : SndE G Φ d (eval o Φ.env) f) (h2 : SndL G Φ d (spliced (backTo pos (starEach args Φ.env))) g) : SndE G Φ d (eval (.Call (.Attribute o "get" apos) args [] pos) Φ.env) (eMeth f kDict g oGet) :=
  snd_meth hbase hfew hline hpl F.plainAttrs_dict F.slot_dict_get (by show builtinType _ = _; rw [builtinType_eq_fast]; kernel_rfl) kDict_ok h1 h2 oGet_ok
theorem meth_values (hbase : attributeBase o "values" Φ.env (eval o Φ.env) = eval o Φ.env)
    (hfew : ((backTo pos (starEach args Φ.env)).all (fun x => !x.1) && (backToKw pos (keywordEach [] Φ.env)).all (fun x => x.1.isSome) && decide (args.length + ([] : List Keyword).length + (if ([] : List Keyword).isEmpty then 0 else 1) < 30)) = true)
    (hline : (apos.endLine == pos.line) = true) (hpl : (backTo pos (starEach args Φ.env)).any (·.1) = false)
    (h1 : SndE G Φ d (eval o Φ.env) f) (h2 : SndL G Φ d (spliced (backTo pos (starEach args Φ.env))) g) : SndE G Φ d (eval (.Call (.Attribute o "values" apos) args [] pos) Φ.env) (eMeth f kDict g (oView false)) :=
  snd_meth hbase hfew hline hpl F.plainAttrs_dict F.slot_dict_values (by show builtinType _ = _; rw [builtinType_eq_fast]; kernel_rfl) kDict_ok h1 h2 oValues_ok
theorem meth_items (hbase : attributeBase o "items" Φ.env (eval o Φ.env) = eval o Φ.env)
    (hfew : ((backTo pos (starEach args Φ.env)).all (fun x => !x.1) && (backToKw pos (keywordEach [] Φ.env)).all (fun x => x.1.isSome) && decide (args.length + ([] : List Keyword).length + (if ([] : List Keyword).isEmpty then 0 else 1) < 30)) = true)
    (hline : (apos.endLine == pos.line) = true) (hpl : (backTo pos (starEach args Φ.env)).any (·.1) = false)
    (h1 : SndE G Φ d (eval o Φ.env) f) (h2 : SndL G Φ d (spliced (backTo pos (starEach args Φ.env))) g) : SndE G Φ d (eval (.Call (.Attribute o "items" apos) args [] pos) Φ.env) (eMeth f kDict g (oView true)) :=
  snd_meth hbase hfew hline hpl F.plainAttrs_dict F.slot_dict_items (by show builtinType _ = _; rw [builtinType_eq_fast]; kernel_rfl) kDict_ok h1 h2 oItems_ok
theorem meth_add (hbase : attributeBase o "add" Φ.env (eval o Φ.env) = eval o Φ.env)
    (hfew : ((backTo pos (starEach args Φ.env)).all (fun x => !x.1) && (backToKw pos (keywordEach [] Φ.env)).all (fun x => x.1.isSome) && decide (args.length + ([] : List Keyword).length + (if ([] : List Keyword).isEmpty then 0 else 1) < 30)) = true)
    (hline : (apos.endLine == pos.line) = true) (hpl : (backTo pos (starEach args Φ.env)).any (·.1) = false)
    (h1 : SndE G Φ d (eval o Φ.env) f) (h2 : SndL G Φ d (spliced (backTo pos (starEach args Φ.env))) g) : SndE G Φ d (eval (.Call (.Attribute o "add" apos) args [] pos) Φ.env) (eMeth f kSet g oSetAdd) :=
  snd_meth hbase hfew hline hpl F.plainAttrs_set F.slot_set_add (by show builtinType _ = _; rw [builtinType_eq_fast]; kernel_rfl) kSet_ok h1 h2 oSetAdd_ok
theorem meth_bits (hbase : attributeBase o "bit_length" Φ.env (eval o Φ.env) = eval o Φ.env)
    (hfew : ((backTo pos (starEach args Φ.env)).all (fun x => !x.1) && (backToKw pos (keywordEach [] Φ.env)).all (fun x => x.1.isSome) && decide (args.length + ([] : List Keyword).length + (if ([] : List Keyword).isEmpty then 0 else 1) < 30)) = true)
    (hline : (apos.endLine == pos.line) = true) (hpl : (backTo pos (starEach args Φ.env)).any (·.1) = false)
    (h1 : SndE G Φ d (eval o Φ.env) f) (h2 : SndL G Φ d (spliced (backTo pos (starEach args Φ.env))) g) : SndE G Φ d (eval (.Call (.Attribute o "bit_length" apos) args [] pos) Φ.env) (eMeth f kInt g oBits) :=
  snd_meth hbase hfew hline hpl F.plainAttrs_int F.slot_int_bit_length (by show builtinType _ = _; rw [builtinType_eq_fast]; kernel_rfl) kInt_ok h1 h2 oBits_ok
end
end Mine
end
section
set_option tactic.hygienic false
open PySem PySem.W PyProof.Rows PySem.Calls PySem.SeqAt Builtin
namespace Mine
theorem nofree_of {names : List (Str × NameKind)} (h : (names.all fun p => p.2 != .free) = true) (x : Str) : names.lookup x ≠ some .free := fun q => by
  have := List.all_eq_true.mp h _ (mem_of_lookup q)
  simp at this
theorem ps_of {names : List (Str × NameKind)} {slot : List (Str × Nat)} {ps : List Str} (h : (ps.zipIdx.all fun p => slot.lookup p.1 == some p.2 && (names.lookup p.1 == some .local || names.lookup p.1 == some .cell)) = true) :
    ∀ (i : Nat) x, ps[i]? = some x → slot.lookup x = some i ∧ (names.lookup x = some .local ∨ names.lookup x = some .cell) := by
  intro i x hx
  have hm : (x, i) ∈ ps.zipIdx := by
    rw [List.mem_zipIdx_iff_getElem?]; exact hx
  have := List.all_eq_true.mp h _ hm
  simpa using this
theorem bind_1 {G : Gl} {fd : FuncData} {n : Str} (h : ∀ x, bindArgs { fd with defaults := .none } ⟨[x], []⟩ = pure [(n, x)]) (hd : fd.defaults = .none) : BindR G fd [n] (bdPlain 1) := by
  refine bind_plain (ps := [n]) fun ws hl => ?_
  obtain ⟨x, rfl⟩ := List.length_eq_one_iff.mp hl
  exact (fd_none hd _).trans (h x)
theorem bind_2 {G : Gl} {fd : FuncData} {n m : Str} (h : ∀ x y, bindArgs { fd with defaults := .none } ⟨[x, y], []⟩ = pure [(n, x), (m, y)]) (hd : fd.defaults = .none) : BindR G fd [n, m] (bdPlain 2) := by
  refine bind_plain (ps := [n, m]) fun ws hl => ?_
  cases ws with
  | nil => cases hl
  | cons x ws =>
    obtain ⟨y, rfl⟩ := List.length_eq_one_iff.mp (Nat.succ.inj hl)
    exact (fd_none hd _).trans (h x y)
theorem compOk_of {Φ : Frm} {scope : Scope} {own : List Str} {caps : List (Str × Nat)} (h1 : scope.kind = .function)
    (h2 : (scope.names.all fun y => (y.2 != .local || scope.names.lookup y.1 == some .local) && (y.2 != .cell || scope.names.lookup y.1 == some .cell) && (y.2 != .free || caps.any (fun c => c.1 == y.1))) = true)
    (h3 : (own.all fun x => scope.names.lookup x == some .local || scope.names.lookup x == some .cell) = true) (hc : CapsOk Φ scope.names caps) (hn : ((compSlot own caps).map (·.2)).Nodup) : CompOk Φ scope own caps where
  kind := h1
  names := fun y hy he => by
    have := List.all_eq_true.mp h2 y hy
    simp [he] at this
    exact this
  cellonce := fun y hy he => by
    have := List.all_eq_true.mp h2 y hy
    simp [he] at this
    exact this
  hown := fun x hx => by
    have := List.all_eq_true.mp h3 x hx
    simpa using this
  hcaps := hc
  all := fun y hy he => by
    have := List.all_eq_true.mp h2 y hy
    have h := (Bool.and_eq_true_iff.mp this).2
    rw [he] at h
    have h' : caps.any (fun c => c.1 == y.1) = true := by simpa using h
    refine exE1 (List.any_eq_true.mp h') fun c h2 => andE2 h2 fun hm hc => ?_
    have : c.1 = y.1 := by simpa using hc
    exact ⟨c.2, this ▸ hm⟩
  nodup := hn
end Mine
end
section
set_option tactic.hygienic false
open PySem PySem.W PyProof.Rows PySem.Calls PySem.SeqAt Builtin
namespace Mine
theorem entry_ok {G : Gl} (gok : GOk G) {d k : Nat} {a : Addr} {fd : FuncData} {body : List Stmt} {ps : List Str} {b : PM Flw} (F : FunIs G a fd body) (slot : List (Str × Nat)) (hsl : (slot.map (·.2)).Nodup)
    (hnf : ∀ x i, slot.lookup x = some i → fd.scope.names.lookup x ≠ some .free) (hps : ∀ (i : Nat) x, ps[i]? = some x → slot.lookup x = some i ∧ (fd.scope.names.lookup x = some .local ∨ fd.scope.names.lookup x = some .cell))
    (hb : ∀ L fr, FOk (funFrm fd a L slot fr) → FOkG (funFrm fd a L slot fr) → SndF G (funFrm fd a L slot fr) d (execs body (callEnvC fd L a)) b)
    {Zs : List V} {ws : List Value} (hbind : bindArgs fd ⟨ws, []⟩ = pure (ps.zip ws)) (hlen : ps.length = Zs.length) {s : Shared} (hs : s.heap = G.hb) (hst : ∃ o, G.hb.get? cStatics = some o) (hv : VRs G (fun _ => none) s.heap Zs ws)
    {X : V} {e₂ : AEnv} {H₂ : AHeap} (hf : b (Zs.map some ++ List.replicate k none) [] = some (.ret X, e₂, H₂)) {A : Around} (hA : A.frames = some []) (hh : A.handled = none) (hd : A.depth + d + 1 < 900) (hu : A.units + 3 + 40 * d < 9000)
    {R : Result → Shared → Prop} (hR : ∀ y ρ' s', VR G ρ' s'.heap X y → (∀ b o, s.heap.get? b = some o → s'.heap.get? b = some o) → s' = { s with heap := s'.heap, toks := s'.toks } → R (.ok (.ret y)) s') :
    codeAny G.M A (.call (.ref a) ⟨ws, []⟩) R s := by
  refine exE1 (F.obj) fun o h0 => andE2 h0 fun ho hdata => ?_
  rw [← hs] at ho
  refine codeAny_call_function (by unfold recursionLimit; (first | lia | omega)) ho hdata F.co F.gen F.body (by rw [hs]; exact F.code) ?_
  rw [hbind]
  refine wpAny_pure ?_
  rw [F.clo]
  refine env_alloc ?_
  generalize hL : s.heap.objs.size = L
  have ok1 := cellsFrom_ok fd.scope.names (s.heap.push { cls := .type "frame", data := .dict #[] }) (L + 1) [] ⟨fun _ _ hm => (nomatch hm), List.Pairwise.nil⟩ (by rw [Heap.size_push, hL]; exact Nat.le_refl _)
  rw [Heap.size_push, hL] at ok1
  have fo : FOk (funFrm fd a L slot []) := fun_fok F.kind hsl
  have keep2 : ∀ b o, s.heap.get? b = some o → (pushCells (s.heap.push { cls := .type "frame", data := .dict #[] }) fd.scope.names).get? b = some o := fun b o g => pushCells_keeps _ _ _ _ (Heap.get?_push_of_some _ g)
  have hnone : ∀ p, L ≤ p → s.heap.get? p = none := fun p hp => by
    cases q : s.heap.get? p with
    | none => rfl
    | some ob => exact absurd (Heap.lt_size q) (by rw [hL]; exact Nat.not_lt.mpr hp)
  have hns : (pushCells (s.heap.push { cls := .type "frame", data := .dict #[] }) fd.scope.names).Ns L (fun _ => none) := by
    have := (Heap.Ns.new s.heap (.type "frame")).keeps (pushCells_keeps fd.scope.names _)
    rwa [hL] at this
  have hprv : ∀ p ∈ (funFrm fd a L slot []).priv, L ≤ p := fun p hp => by
    rcases List.mem_cons.mp hp with q | q
    · rw [q]; exact Nat.le_refl _
    · obtain ⟨⟨n, c⟩, h1, rfl⟩ := List.mem_map.mp q
      exact Nat.le_of_succ_le (ok1.empty n c h1).2
  have R₂ : Rel G (funFrm fd a L slot []) (fun _ => none) (List.replicate (ps.length + k) none) [] { s with heap := pushCells (s.heap.push { cls := .type "frame", data := .dict #[] }) fd.scope.names } := by
    refine ⟨⟨_, hns, fun x i hi => ⟨fun hkx X hX => ?_, fun hkx => ?_⟩⟩, fun i x hx => (by simp at hx), (fun i a h => nomatch h), (fun i j a h => nomatch h), (fun i a h => nomatch h), fun p hp => ⟨(by rw [← hs]; exact hnone p (hprv p hp)), (fun i h => nomatch h), ?_⟩, fun b o h => keep2 b o (by rw [hs]; exact h), List.mem_cons_self, hst, fun f hf => ?_⟩
    · exfalso
      rw [List.getElem?_replicate] at hX
      split at hX <;> cases hX
    · rcases hkx with hkx | hkx
      · obtain ⟨c, hc⟩ := cellsFrom_look (n := L + 1) hkx
        refine exE1 ((ok1.empty x c (mem_of_lookup hc)).1) fun oc h3 => andE2 h3 fun g1 g2 => ?_
        refine exI3 c oc none ⟨hc, g1, g2, fun X hX => ?_⟩
        exfalso
        rw [List.getElem?_replicate] at hX
        split at hX <;> cases hX
      · exact absurd hkx (hnf x i hi)
    · rcases List.mem_cons.mp hp with q | q
      · subst q
        refine exE3 hns fun oL es ep h4 => andE3 h4 fun g1 g2 _ => ?_
        exact ⟨oL, g1, not_imm_dict g2⟩
      · obtain ⟨⟨n, c⟩, h1, rfl⟩ := List.mem_map.mp q
        exact not_imm_isCell (ok1.empty n c h1).1
    · rcases List.mem_cons.mp (show f ∈ L :: [] from hf) with q | q
      · subst q
        refine exE3 hns fun oL es ep h6 => andE3 h6 fun g1 g2 _ => ?_
        exact ⟨(by rw [← hs]; exact hnone _ (Nat.le_refl _)), (fun i h => nomatch h), oL, es, ep, g1, g2⟩
      · cases q
  refine binds_ok fo rfl ps Zs ws 0 k [] _ rfl (fun i y hy => ?_) hlen (VRs.mono (fun _ _ q => q) (fun b o _ g => keep2 b o g) _ _ hv) (by simpa using R₂) fun s₃ R₃ X₃ => ?_
  · refine andE2 (hps i y hy) fun h1 h2 => ?_
    refine ⟨by rw [Nat.zero_add]; exact h1, ?_⟩
    rcases h2 with h2 | h2
    · exact .inl h2
    · refine .inr ⟨h2, fun c hc => ?_⟩
      exact List.mem_cons_of_mem _ (List.mem_map.mpr ⟨(y, c), mem_of_lookup hc, rfl⟩)
  · refine ⟨gok.nolim.keeps R₃.base, codeAny_func ?_⟩
    have okA : OkA (funFrm fd a L slot []) d (A.deeper (callEnvC fd L a)) := ⟨fun _ => hh, by show A.depth + 1 + d < 900; (first | lia | omega), by show A.units + 3 + 40 * d < 9000; (first | lia | omega), Around.frames_deeper hA, fun env' h' => by
      rcases List.mem_cons.mp h' with q | q
      · subst q; exact ⟨(by show fd.scope.kind ≠ _; rw [F.kind]; intro q; cases q), L, rfl⟩
      · cases q⟩
    refine (hb L [] fo ⟨F.glob, F.blt⟩).run hf (by simpa using R₃) okA fun y ρ₄ s₄ R₄ X₄ v₄ => ?_
    obtain ⟨v', rfl, q⟩ := v₄
    have hk4 : ∀ b o, s.heap.get? b = some o → s₄.heap.get? b = some o := fun b o h => R₄.base b o (by rw [← hs]; exact h)
    exact hR v' ρ₄ s₄ q hk4 (by rw [X₄.same, X₃.same])
end Mine
end
section
set_option tactic.hygienic false
open PySem PySem.W PyProof.Rows PySem.Calls PySem.SeqAt Builtin
namespace Mine
noncomputable def tokIn (K : Frag) (x : Str) : Tok := match nsIn K mainGlobals x with
  | some (some (.int _ t)) => t
  | _ => 0
noncomputable def dvIn (K : Frag) (a : Addr) : Addr := match (ptIn K a).dV with
  | .ref d => d
  | _ => 0
noncomputable def seq1 (K : Frag) (d : Addr) : Bool := match K.lookup d with
  | some ⟨_, _, .seq xs _, _⟩ => xs.size == 1
  | _ => false
set_option tactic.hygienic true in
theorem seq1_of {K : Frag} {h : Heap} (X : K.In h) {d : Addr} (e : seq1 K d = true) : ∃ o dx k, h.get? d = some o ∧ o.data = .seq #[dx] k := by
  unfold seq1 at e
  split at e
  · rename_i c od xs n sl ho
    have hs : xs.size = 1 := by simpa using e
    have hx : xs = #[xs[0]] := by
      apply Array.ext
      · simp [hs]
      · intro i h1 h2
        simp at h2
        subst h2
        rfl
    exact exI3 _ (xs[0]) n ⟨X _ _ ho, by rw [← hx]⟩
  · cases e
structure MethK (K : Frag) (C : Addr) (name : Str) : Prop where
  find : findIn K (.ref C) name = some (some (.ref (meIn K C name)))
  fn : isFn K (.ref (meIn K C name)) = true
  fnI : fnIn K (meIn K C name) = true
  get : specialIn K (.ref (meIn K C name)) "__get__" = some (some (.builtin "function.__get__"))
  takes : takesIn K (.ref (meIn K C name)) = some false
theorem meth_of {G : Gl} {name : Str} (h : MethK G.K G.C name) (cp : copiedNames.contains name = false) (nm : ((List.range 4).all fun j => name != attrName j) = true) : MethIs G name (meIn G.K G.C name) where
  find := h.find
  fn := h.fn
  fnI := h.fnI
  get := h.get
  takes := h.takes
  cp := cp
  nm := fun j hj => by
    have := List.all_eq_true.mp nm j (List.mem_range.mpr hj)
    simpa using this
structure SlotK (K : Frag) (CN : Addr) (j : Nat) : Prop where
  find : findIn K (.ref CN) (slotName j) = some (some (.ref (meIn K CN (slotName j))))
  get : specialIn K (.ref (meIn K CN (slotName j))) "__get__" = some (some (.builtin "member_descriptor.__get__"))
  takes : takesIn K (.ref (meIn K CN (slotName j))) = some true
  slot : slotIn K (meIn K CN (slotName j)) CN = some j
  type : typeIn K (.ref (meIn K CN (slotName j))) = some (.type "member_descriptor")
structure ClsK (K : Frag) (C CN : Addr) : Prop where
  get : plainGet K C "" = true
  set : findIn K (.ref C) "__setattr__" = some (some (.builtin "object.__setattr__"))
  over : plainOver K C = true
  hd : hasDictIn K C = true
  a0 : findIn K (.ref C) (attrName 0) = some none
  a1 : findIn K (.ref C) (attrName 1) = some none
  a2 : findIn K (.ref C) (attrName 2) = some none
  a3 : findIn K (.ref C) (attrName 3) = some none
  getN : plainGet K CN "" = true
  setN : findIn K (.ref CN) "__setattr__" = some (some (.builtin "object.__setattr__"))
  overN : plainOver K CN = true
  clsN : isClsIn K CN = true
  s0 : SlotK K CN 0
  s1 : SlotK K CN 1
  s2 : SlotK K CN 2
theorem SlotK.ex {K : Frag} {CN : Addr} {j : Nat} (h : SlotK K CN j) : ∃ p, findIn K (.ref CN) (slotName j) = some (some (.ref p)) ∧ specialIn K (.ref p) "__get__" = some (some (.builtin "member_descriptor.__get__")) ∧ takesIn K (.ref p) = some true ∧ slotIn K p CN = some j ∧ typeIn K (.ref p) = some (.type "member_descriptor") :=
  ⟨_, h.find, h.get, h.takes, h.slot, h.type⟩
theorem cls_of {G : Gl} (h : ClsK G.K G.C G.CN) : ClsOk G where
  get := h.get
  set := h.set
  over := h.over
  hd := h.hd
  att := fun j hj => by
    match j, hj with
    | 0, _ => exact h.a0
    | 1, _ => exact h.a1
    | 2, _ => exact h.a2
    | 3, _ => exact h.a3
  getN := h.getN
  setN := h.setN
  overN := h.overN
  clsN := h.clsN
  slot := fun j hj => by
    match j, hj with
    | 0, _ => exact h.s0.ex
    | 1, _ => exact h.s1.ex
    | 2, _ => exact h.s2.ex
end Mine
end
section
set_option tactic.hygienic false
open PySem PySem.W PyProof.Rows PySem.Calls PySem.SeqAt Builtin
namespace Mine
noncomputable def vFlat : V → Bool
  | .int _ => true
  | .none => true
  | .bool _ => true
  | _ => false
noncomputable def oFlat : O → Bool
  | .list vs => vs.all vFlat
  | .dict kvs => kvs.all fun p => vFlat p.2
  | _ => false
noncomputable def vRen (σ : List Nat) (X : V) : V → Prop
  | .ref j => ∃ i, σ[j]? = some i ∧ X = .ref i
  | .ext ns => X = .ext ns
  | .int n => X = .int n
  | .none => X = .none
  | .bool b => X = .bool b
  | _ => False
section
variable {G : Gl} {Φ : Frm} {d : Nat} {ρ ρ' : Rho} {e e' : AEnv} {H H' : AHeap} {s s' : Shared}
noncomputable def Runs (G : Gl) (Φ : Frm) (d : Nat) (t : Sem Flow) (P : Flow → Prop) (e : AEnv) (H : AHeap) : Prop :=
  ∀ ρ s, Rel G Φ ρ e H s → ∀ (A : Around) (E : Value → Shared → Prop), OkA Φ d A →
    wpAny G.M A t (fun fl s' => P fl ∧ (∀ b o, G.hb.get? b = some o → s'.heap.get? b = some o) ∧ s' = { s with heap := s'.heap, toks := s'.toks }) E s
end
end Mine
end
section
set_option tactic.hygienic false
open PySem PySem.W PyProof.Rows PySem.Calls PySem.SeqAt Builtin
namespace Mine
noncomputable def oRange3 : FOp := fun Ys H => match Ys with
  | [.int a, .int b, .int c] => if c ≠ 0 ∧ c.natAbs < 1000 then some (.rng a b c, H) else none
  | _ => none
noncomputable def oListF : FOp := fun Ys H => match Ys with
  | [.rng a b c] => if Builtin.Range.small a b c = true ∧ Builtin.Range.rangeSize a b c = ((Builtin.Range.rangeSize a b c).toNat : Int) ∧ (Builtin.Range.rangeSize a b c).toNat ≤ 5000 then some (.ref H.length, H ++ [.list (rngL a c 0 (Builtin.Range.rangeSize a b c).toNat)]) else none
  | _ => none
noncomputable def delAt (ns : List Int) (k : Int) : Nat := ns.findIdx (· == k)
noncomputable def oRemove : MOp := fun X Ys H => match X, Ys with
  | .ref i, [.int k] => match H[i]? with
    | some (.list vs) => match asInts vs with
      | some ns => if vs.length ≤ 5000 ∧ delAt ns k < ns.length then some (.none, H.set i (.list (vs.eraseIdx (delAt ns k)))) else none
      | none => none
    | _ => none
  | _, _ => none
noncomputable def oAddT : Op2 := fun X Y H => match X, Y with
  | .tup [], .tup bs => some (.tup bs, H)
  | X, Y => oAdd X Y H
section
variable {G : Gl} {Φ : Frm} {d : Nat} {ρ ρ' : Rho} {e e' : AEnv} {H H' : AHeap} {s s' : Shared}
set_option tactic.hygienic true in
theorem oRange3_ok : FOpR G d (.type "range") oRange3 := by
  intro Ys ws Φ e H x H' hf ρ s R hP A E ok
  unfold oRange3 at hf
  split at hf
  · rename_i a b c
    split at hf
    · rename_i hc
      cases hf
      simp only [VRs] at hP
      obtain ⟨v1, t1, rfl, q1, v2, t2, rfl, q2, v3, t3, rfl, q3, rfl⟩ := hP
      simp only [VR] at q1 q2 q3
      obtain ⟨u1, rfl⟩ := q1
      obtain ⟨u2, rfl⟩ := q2
      obtain ⟨u3, rfl⟩ := q3
      refine call_range_3 hc.1 ?_ (.inl (PyProof.noPylong_small (by (first | lia | omega))))
      obtain ⟨R', X'⟩ := R.junk (h' := s.heap.push (rngObj (.int a u1) (.int b u2) (.int c u3))) s.toks (fun b o q => Heap.get?_push_of_some _ q)
      refine ⟨ρ, R', X', ?_⟩
      simp only [VR]
      exact ⟨_, _, _, _, rfl, Heap.get?_push_size _ rfl⟩
    · first | exact nn hf | exact nf hf | cases hf
  · first | exact nn hf | exact nf hf | cases hf
set_option tactic.hygienic true in
theorem oListF_ok (d0 : 0 < d) : FOpR G d (.type "list") oListF := by
  intro Ys ws Φ e H x H' hf ρ s R hP A E ok
  unfold oListF at hf
  split at hf
  · rename_i a b c
    split at hf
    · rename_i hc
      cases hf
      obtain ⟨w, rfl, hw⟩ := VRs_one hP
      simp only [VR] at hw
      obtain ⟨r, t, u, y, rfl, g⟩ := hw
      refine call_list_range (n := (Builtin.Range.rangeSize a b c).toNat) (ok.1 d0) g hc.1 hc.2.1 (by (first | lia | omega)) fun h' tk acc c' hk hS hacc => ?_
      obtain ⟨hsz, hit⟩ := hacc
      obtain ⟨R', X', hr⟩ := R.alloc (h' := h') (a := s.heap.objs.size) (x := .list (rngL a c 0 (Builtin.Range.rangeSize a b c).toNat)) tk (Nat.le_refl _) hS hk
        (fun _ _ _ => ⟨acc, c', rfl, vrs_of_get (by simp [rngL_len, hsz]) fun j X v hX hv => by
          have hj : j < (Builtin.Range.rangeSize a b c).toNat := by
            have := (List.getElem?_eq_some_iff.mp hX).1
            rwa [rngL_len] at this
          rw [rngL_get a c _ 0 j hj] at hX
          cases hX
          obtain ⟨tt, rfl⟩ := hit j v (by simpa using hv)
          rw [Nat.zero_add]
          exact VR.int _ _⟩)
      exact ⟨_, R', X', VR.ref hr⟩
    · first | exact nn hf | exact nf hf | cases hf
  · first | exact nn hf | exact nf hf | cases hf
theorem VRs_eraseIdx {ρ : Rho} {h : Heap} : ∀ {Xs : List V} {vs : List Value} (j : Nat), VRs G ρ h Xs vs → VRs G ρ h (Xs.eraseIdx j) (vs.eraseIdx j)
  | [], _, _, q => by simp only [VRs] at q; subst q; simp [VRs]
  | X :: r, _, 0, q => by
    simp only [VRs] at q
    obtain ⟨v, t, rfl, q1, q2⟩ := q
    exact q2
  | X :: r, _, j + 1, q => by
    simp only [VRs] at q
    obtain ⟨v, t, rfl, q1, q2⟩ := q
    exact VRs.cons q1 (VRs_eraseIdx j q2)
set_option tactic.hygienic true in
theorem asInts_get : ∀ {Xs : List V} {ns : List Int} {i : Nat} {n : Int}, asInts Xs = some ns → ns[i]? = some n → Xs[i]? = some (.int n)
  | [], _, _, _, h, hn => by cases h; simp at hn
  | X :: r, ns, i, n, h, hn => by
    cases X <;> try cases h
    rename_i a
    simp only [asInts] at h
    obtain ⟨ms, h1, rfl⟩ := Option.map_eq_some_iff.mp h
    cases i with
    | zero => simp at hn; subst hn; rfl
    | succ i => simpa using asInts_get h1 (by simpa using hn)
set_option tactic.hygienic true in
theorem oRemove_ok : MOpR G d "list.remove" oRemove := by
  intro X Ys v ws Φ e H x H' hf ρ s R hP A E ok
  unfold oRemove at hf
  split at hf
  · rename_i i k
    split at hf
    · rename_i vs hq
      split at hf
      · rename_i ns hns
        split at hf
        · rename_i hl
          cases hf
          obtain ⟨hv, hws⟩ := hP
          simp only [VR] at hv; obtain ⟨a, ha, rfl⟩ := hv
          obtain ⟨w, rfl, hw⟩ := VRs_one hws
          simp only [VR] at hw; obtain ⟨tk, rfl⟩ := hw
          obtain ⟨o, g, om⟩ := R.at hq ha
          obtain ⟨its, n, rfl, hvs⟩ := om
          have hlen : its.size = vs.length := by have := hvs.length; simpa using this
          have hnl : ns.length = vs.length := (asInts_len hns).symm
          have hat : ∀ m (hm : m < its.size), ∃ t, its[m] = .int (ns[m]'(by (first | lia | omega))) t := fun m hm => by
            have h1 : ns[m]? = some (ns[m]'(by (first | lia | omega))) := List.getElem?_eq_getElem _
            obtain ⟨y, hy1, hy2⟩ := hvs.get (asInts_get hns h1)
            simp only [VR] at hy2
            obtain ⟨t, rfl⟩ := hy2
            have : its[m]? = some (.int (ns[m]'(by (first | lia | omega))) t) := by simpa using hy1
            exact ⟨t, (Array.getElem?_eq_some_iff.mp this).2⟩
          have hfi : delAt ns k < ns.length := hl.2
          refine call_meets F.slot_list_remove ⟨_, g, rfl⟩ F.entry_list_remove (F.args_list_remove_2 _ _) (MeetsSeq.list_remove a its n (.int k tk) (fun y => match y with | .int b _ => b == k | _ => false) (fun y hy => ?_) (delAt ns k) (by (first | lia | omega)) ?_ (fun m hm hlt => ?_) (by rw [hlen]; exact size_le (by (first | lia | omega)))) ⟨g, ?_⟩
          · obtain ⟨m, hm, rfl⟩ := Array.mem_iff_getElem.mp hy
            obtain ⟨t, ht⟩ := hat m hm
            rw [ht]
            exact MeetsSeq.EqGives.int _ _ _ _
          · obtain ⟨t, ht⟩ := hat (delAt ns k) (by (first | lia | omega))
            rw [ht]
            exact List.findIdx_getElem (w := hfi)
          · obtain ⟨t, ht⟩ := hat m hm
            rw [ht]
            have := List.not_of_lt_findIdx (p := (· == k)) (xs := ns) hlt
            simpa using this
          · have := R.upd (h' := s.heap.update a (Obj.mapSeq fun xs => xs.eraseIdxIfInBounds (delAt ns k))) (x' := .list (vs.eraseIdx (delAt ns k))) (o' := Obj.mapSeq (fun xs => xs.eraseIdxIfInBounds (delAt ns k)) { cls := .type "list", data := .seq its n }) s.toks ha hq rfl rfl (Heap.get?_update_self _ g rfl)
              (fun b o hb q => (Heap.get?_update_other _ _ (Ne.symm hb)).trans q) (fun h1 h2 => ⟨its.eraseIdxIfInBounds (delAt ns k), _, rfl, ?_⟩)
            · exact ⟨ρ, this.1, this.2, VR.none⟩
            · have e1 : (its.eraseIdxIfInBounds (delAt ns k)).toList = its.toList.eraseIdx (delAt ns k) := by
                simp
              rw [e1]
              exact VRs_eraseIdx _ (h2 _ _ hvs)
        · first | exact nn hf | exact nf hf | cases hf
      · first | exact nn hf | exact nf hf | cases hf
    · first | exact nn hf | exact nf hf | cases hf
  · first | exact nn hf | exact nf hf | cases hf
set_option tactic.hygienic true in
theorem oAddT_ok : Op2R G d (binaryOp .Add) oAddT := by
  intro X Y v w Φ e H Z H' hf ρ s R hP A E ok
  unfold oAddT at hf
  split at hf
  · rename_i bs
    cases hf
    obtain ⟨hv, hw⟩ := hP
    have hw' := hw
    simp only [VR] at hv hw
    obtain ⟨a1, i1, n1, rfl, g1, q1⟩ := hv
    obtain ⟨a2, i2, n2, rfl, g2, q2⟩ := hw
    have l1 : i1.size = 0 := by have := q1.length; simpa using this
    exact concat_meets ⟨_, g1, rfl⟩ ⟨_, g2, rfl⟩ noFill_tuple_add seq_tuple_add PySem.F.slot_tuple_add PySem.F.entry_tuple_add (PySem.F.args_tuple_add_2 _ _)
      (tuple_addW0 a1 a2 i1 i2 n1 n2 none none #[] #[] (by simp [Array.isEmpty, l1])) ⟨g1, g2, ρ, R, Ext.refl .., hw'⟩
  · exact oAdd_ok X Y v w Φ e H Z H' hf ρ s R hP A E ok
end
end Mine
end
section
set_option tactic.hygienic false
open PySem PySem.W PyProof.Rows PySem.Calls PySem.SeqAt Builtin
namespace Mine
noncomputable def asWord : V → Option (List Int)
  | .tup vs => asInts vs
  | _ => none
noncomputable def asWords : List V → Option (List (List Int))
  | [] => some []
  | X :: r => (asWord X).bind fun a => (asWords r).map (a :: ·)
noncomputable def wCode (w : List Int) : Int := w.foldl (fun a x => 4 * a + x) 0
noncomputable def wOk (n : Nat) (w : List Int) : Bool := w.length == n && w.all fun x => decide (0 ≤ x) && decide (x < 4)
noncomputable def wsOk (ws : List (List Int)) : Bool := match ws with
  | [] => true
  | w :: _ => decide (0 < w.length) && decide (w.length ≤ 8) && ws.all (wOk w.length)
noncomputable def sortW (ws : List (List Int)) : List (List Int) := ws.mergeSort fun a b => decide (wCode a ≤ wCode b)
noncomputable def wV (w : List Int) : V := .tup (w.map .int)
noncomputable def oSortT : FOp := fun Ys H => match Ys with
  | [.ref i] => (vItems (.ref i) H).bind fun it => (asWords it.1).bind fun ws =>
    if ws.length < 64 ∧ (ws.length ≤ 1 ∨ wsOk ws = true) then some (.ref H.length, H ++ [.list ((sortW ws).map wV)]) else none
  | _ => none
noncomputable def oSort2 : FOp := fun Ys H => match oSorted Ys H with
  | some r => some r
  | none => oSortT Ys H
noncomputable def mCompI (j : Nat) (g : PM V) : List V → PM (List V)
  | [] => fun e H => some ([], e, H)
  | x :: r => fun e H => (mStore j x e H).bind fun q => (g q.2.1 q.2.2).bind fun y => (mCompI j g r y.2.1 y.2.2).bind fun z => some (y.1 :: z.1, z.2)
noncomputable def mComp2 (f2 : PM V) (g : PM V) : List V → PM (List V)
  | [] => fun e H => some ([], e, H)
  | x :: r => fun e H => (mStore 0 x e H).bind fun q => (f2 q.2.1 q.2.2).bind fun y => (vItems y.1 y.2.2).bind fun it =>
     if it.1.length ≤ 5000 then (mCompI 1 g it.1 y.2.1 (frzAt it.2 y.2.2)).bind fun z => (mComp2 f2 g r z.2.1 (unfrz it.2 y.2.2 z.2.2)).bind fun u => some (z.1 ++ u.1, u.2) else none
noncomputable def eComp2 (f : PM V) (own : List Str) (caps : List (Str × Nat)) (f2 g : PM V) : PM V := fun e H => (f e H).bind fun r => (vItems r.1 r.2.2).bind fun it =>
  if it.1.length ≤ 5000 then (mComp2 f2 g it.1 (capEnv own caps r.2.1) (frzAt it.2 r.2.2)).bind fun z =>
    if z.1.length ≤ 5000 then some (.ref (unfrz it.2 r.2.2 z.2.2).length, r.2.1, unfrz it.2 r.2.2 z.2.2 ++ [.list z.1]) else none else none
noncomputable def eTakeT (f g : PM V) : PM V := fun e H => (f e H).bind fun r => (g r.2.1 r.2.2).bind fun q => match r.1, q.1 with
  | .tup vs, .int k => if 0 ≤ k ∧ vs.length ≤ 5000 then some (.tup (vs.take k.toNat), q.2.1, q.2.2) else none
  | _, _ => none
end Mine
end
section
set_option tactic.hygienic false
open PySem PySem.W PyProof.Rows PySem.Calls PySem.SeqAt Builtin
namespace Mine
theorem VRs_take {G : Gl} {ρ : Rho} {h : Heap} : ∀ {Xs : List V} {vs : List Value} (j : Nat), VRs G ρ h Xs vs → VRs G ρ h (Xs.take j) (vs.take j)
  | _, _, 0, _ => VRs.nil
  | [], _, j + 1, q => by simp only [VRs] at q; subst q; exact VRs.nil
  | X :: r, _, j + 1, q => by
    simp only [VRs] at q
    refine exE2 q fun v t h0 => andE3 h0 fun e0_0 q1 q2 => ?_
    subst e0_0
    exact VRs.cons q1 (VRs_take j q2)
section
variable {prog : Program} {w : World} {A : Around} {E : Value → Shared → Prop} {s : Shared}
theorem upto_adjust (k : Int) (n : Nat) (h : 0 ≤ k) : Builtin.Slice.sliceAdjust none (some k) 1 (n : Int) = (0, ((min k.toNat n : Nat) : Int)) := by
  unfold Builtin.Slice.sliceAdjust
  simp only [show ¬ ((1 : Int) < 0) by (first | lia | omega), show ¬ (k < 0) by (first | lia | omega), if_false]
  congr 1
  (first | lia | omega)
theorem upto_places (m : Nat) : Builtin.Slice.slicePlaces 0 (m : Int) 1 = m := by
  unfold Builtin.Slice.slicePlaces
  simp only [show (1 : Int) > 0 by (first | lia | omega), if_true, Int.ediv_one]
  split <;> (first | lia | omega)
theorem upto_applied {sl : Addr} {k : Int} {n : Nat} {u : Tok} {Q : Int × Int × Nat → Shared → Prop} (hs : s.heap.IsSliceOf sl .none (.int k u) .none) (hk : 0 ≤ k) (h : Q (0, 1, min k.toNat n) s) :
    wpAny (model prog w) A (Builtin.Slice.sliceApplied (.ref sl) (pure (n : Int))) Q E s := by
  refine exE1 (id hs) fun os h1 => andE3 h1 fun hos hcs hds => ?_
  unfold Builtin.Slice.sliceApplied Builtin.Slice.sliceFields
  refine wpAny_bind (wpAny_bind (wpAny_field hos hds (x := .none) rfl (wpAny_bind (wpAny_field hos hds (x := .int k u) rfl (wpAny_bind (wpAny_field hos hds (x := .none) rfl (wpAny_pure ?_)))))))
  refine wpAny_bind (slicePart_none ?_)
  show wpAny _ _ (if ((1 : Int) == 0) = true then _ else _) _ _ s
  rw [if_neg (by decide)]
  refine wpAny_bind (slicePart_none (wpAny_bind (slicePart_int (wpAny_bind (wpAny_pure ?_)))))
  show wpAny _ _ (match Builtin.Slice.sliceAdjust none (some k) 1 (n : Int) with | (lo, hi) => pure (lo, (1 : Int), Builtin.Slice.slicePlaces lo hi 1)) _ _ s
  rw [upto_adjust k n hk]
  show wpAny _ _ (pure ((0 : Int), (1 : Int), Builtin.Slice.slicePlaces 0 ((min k.toNat n : Nat) : Int) 1)) _ _ s
  rw [upto_places]
  exact wpAny_pure h
theorem upto_pick (xs : Array Value) (m : Nat) (h : m ≤ xs.size) : ((List.range m).filterMap fun (k : Nat) => xs[((0 : Int) + (k : Int) * 1).toNat]?).toArray = (xs.toList.take m).toArray := by
  have e : (fun (k : Nat) => xs[((0 : Int) + (k : Int) * 1).toNat]?) = fun k => xs[0 + k]? := by
    funext k
    have : ((0 : Int) + (k : Int) * 1).toNat = 0 + k := by (first | lia | omega)
    rw [this]
  rw [e]
  have := pick_run xs 0 m
  rw [List.filterMap_map] at this
  exact congrArg List.toArray this
theorem getItem_tuple_upto {t sl : Addr} {items : Array Value} {k : Int} {u : Tok} {Q : Value → Shared → Prop} (ht : IsTup s.heap t items) (hs : s.heap.IsSliceOf sl .none (.int k u) .none) (hk : 0 ≤ k)
    (h1 : items.size ≤ k.toNat → Q (.ref t) s) (h2 : k.toNat < items.size → Q (.ref s.heap.objs.size) { s with heap := s.heap.push { cls := .type "tuple", data := .seq (items.toList.take k.toNat).toArray } })
    (hsz : items.size ≤ sizeLine) : wpAny (model prog w) A (getItem (.ref t) (.ref sl)) Q E s := by
  obtain ⟨os, hos, hcs, hds⟩ := id hs
  have hTs : s.TypeIs (.ref sl) "slice" := ⟨os, hos, hcs⟩
  unfold getItem
  try with_reducible refine wpAny_holding ?_
  first | refine wpAny_bind (wpAny_pure ?_) | skip
  refine wpAny_bind (wpAny_sequenceKey ht.typeIs (by decide) ?_)
  refine wpAny_bind (wpAny_callSpecial?_slot (name := Str.ofString "__getitem__") ht.typeIs slot_tuple_getitem
    (wpAny_call_entry slot_tuple_getitem ht.typeIs entry_tuple_getitem ?_ (args_tuple_getitem _ _)))
  show wpAny _ _ (Builtin.Tuple.tupleItemsOf (.ref t) >>= _) _ _ s
  refine wpAny_bind (tupleItemsOf_ ht ?_)
  refine wpAny_bind (wpAny_typeOf hTs ?_)
  rw [if_pos (by decide)]
  refine wpAny_bind (upto_applied hs hk ?_)
  by_cases hc : items.size ≤ k.toNat
  · rw [Nat.min_eq_right hc]
    have hyes : (((0 : Int) == 0 && (1 : Int) == 1 && items.size == items.size) = true) := by simp
    show wpAny _ _ (if (((0 : Int) == 0 && (1 : Int) == 1 && items.size == items.size) = true) then _ else _) _ _ s
    rw [if_pos hyes]
    unfold Builtin.Tuple.tupleIsExact
    refine wpAny_bind (wpAny_bind (wpAny_typeOf ht.typeIs (wpAny_pure ?_)))
    rw [if_pos (by decide)]
    refine wpAny_bind (wpAny_rule ?_)
    exact wpAny_pure ⟨_, rfl, wpAny_pure (h1 hc)⟩
  · have hc' : k.toNat < items.size := Nat.lt_of_not_le hc
    rw [Nat.min_eq_left (Nat.le_of_lt hc')]
    have hno : ¬ (((0 : Int) == 0 && (1 : Int) == 1 && k.toNat == items.size) = true) := by
      have : (k.toNat == items.size) = false := by rw [beq_eq_false_iff_ne]; omega
      rw [this]; simp
    have hdrop : sizeOk (.seq (items.toList.take k.toNat).toArray) := by
      show (items.toList.take k.toNat).toArray.size ≤ sizeLine
      rw [List.size_toArray, List.length_take, Array.length_toList]
      omega
    show wpAny _ _ (if ((0 : Int) == 0 && (1 : Int) == 1 && k.toNat == items.size) = true then _ else _) _ _ s
    rw [if_neg hno, upto_pick items k.toNat (Nat.le_of_lt hc')]
    first
      | exact wpAny_bind (m := Builtin.Tuple.tupleExact _) (wpAny_newObj_type (wpAny_pure ⟨_, rfl, wpAny_pure (h2 hc')⟩) hdrop)
      | exact wpAny_bind (m := Builtin.Tuple.tupleExact _) (wpAny_newObj_type (wpAny_bind (wpAny_pure (wpAny_pure ⟨_, rfl, wpAny_pure (h2 hc')⟩))) hdrop)
      | exact wpAny_bind (wpAny_bind (m := Builtin.Tuple.tupleExact _) (wpAny_newObj_type (wpAny_pure (wpAny_pure ⟨_, rfl, wpAny_pure (h2 hc')⟩)) hdrop))
      | exact wpAny_bind (wpAny_bind (m := Builtin.Tuple.tupleExact _) (wpAny_newObj_type (wpAny_pure ⟨_, rfl, wpAny_pure (h2 hc')⟩) hdrop))
end
section
variable {G : Gl} {Φ : Frm} {d : Nat}
set_option tactic.hygienic true in
theorem snd_takeT {value u : Expr} {p pos : Pos} {f g : PM V} (h1 : SndE G Φ d (eval value Φ.env) f) (h2 : SndE G Φ d (eval u Φ.env) g)
    (hs : ∀ l i, subscripted (.Slice none (some u) none p) false (.ref l) (.ref i) = operate [.ref i, .ref l] (getItem (.ref l) (.ref i))) (ht : ∀ l r, letTemporaryGo value (.ref l) r = pure ()) :
    SndE G Φ d (eval (.Subscript value (.Slice none (some u) none p) pos) Φ.env) (eTakeT f g) := by
  intro e H X e' H' hf ρ s R A E ok
  refine hide fun PQ hpq => ?_
  refine bnd3 hf fun X₁ e₁ H₁ f1 hf => ?_
  refine bnd3 hf fun X₂ e₂ H₂ f2 hf => ?_
  dsimp only at hf
  split at hf
  · rename_i vs k _
    split at hf
    · rename_i hk
      cases hf
      refine hpq ?_
      refine Subscript_ (h1.run f1 R ok fun v ρ₁ s₁ R₁ X₁ v₁ => ?_)
      have v0 := v₁
      simp only [VR] at v₁
      refine exE3 v₁ fun t its n h3 => andE3 h3 fun e3_0 hg hvs => ?_
      subst e3_0
      refine wpAny_Slice ?_
      rw [evalPart_none, evalPart_some]
      refine wpAny_pure (h2.run f2 R₁ ok fun w ρ₂ s₂ R₂ X₂ v₂ => wpAny_pure ?_)
      simp only [VR] at v₂
      obtain ⟨tk, rfl⟩ := v₂
      have hk' : ∀ b o, s₂.heap.get? b = some o → (s₂.heap.push { cls := .type "slice", data := .fields #[.none, .int k tk, .none] }).get? b = some o := fun b o q => Heap.get?_push_of_some _ q
      refine andE2 (R₂.junk s₂.toks hk') fun R₃ X₃ => ?_
      have hlen : its.size = vs.length := by have := hvs.length; simpa using this
      have hg3 := hk' _ _ (X₂.imm R₁ _ _ (imm_tup _ _) hg)
      have hvs3 := X₃.vrs R₂ (X₂.vrs R₁ hvs)
      have htup : IsTup (s₂.heap.push { cls := .type "slice", data := .fields #[.none, .int k tk, .none] }) t its := ⟨_, hg3, rfl, n, rfl⟩
      have hsz : its.size ≤ sizeLine := by rw [hlen]; exact size_le (by (first | lia | omega))
      refine subscriptTail_ops (s := { s₂ with heap := s₂.heap.push { cls := .type "slice", data := .fields #[.none, .int k tk, .none] } }) htup.typeIs slot_tuple_getitem.lookup
        (getItem_tuple_upto htup (Heap.IsSliceOf.new ..) hk.1 (fun hc => ?_) (fun hc => ?_) hsz) (hs _ _) (ht _)
      · rw [List.take_of_length_le (by (first | lia | omega))]
        exact ⟨_, R₃, (X₁.trans X₂).trans X₃, X₃.vr R₂ (X₂.vr R₁ v0)⟩
      · refine andE2 (R₃.junk (h' := (s₂.heap.push { cls := .type "slice", data := .fields #[.none, .int k tk, .none] }).push { cls := .type "tuple", data := .seq (its.toList.take k.toNat).toArray }) s₂.toks (fun b o q => Heap.get?_push_of_some _ q)) fun R₄ X₄ => ?_
        refine ⟨_, R₄, ((X₁.trans X₂).trans X₃).trans X₄, ?_⟩
        simp only [VR]
        exact exI3 _ _ _ ⟨rfl, Heap.get?_push_size _ rfl, VRs_take k.toNat (X₄.vrs R₃ hvs3)⟩
    · first | exact nn hf | exact nf hf | cases hf
  · first | exact nn hf | exact nf hf | cases hf
end
end Mine
end
section
set_option tactic.hygienic false
open PySem PySem.W PyProof.Rows PySem.Calls PySem.SeqAt Builtin
namespace Mine
noncomputable def KP (lt : Nat → Nat → Bool) (n : Nat) {α : Type} : KasT α → (α → Prop) → Prop
  | .ret a, Q => Q a
  | .ask i j k, Q => i < n ∧ j < n ∧ KP lt n (k (lt i j)) Q
section
variable {lt : Nat → Nat → Bool} {n : Nat}
theorem KP_bind {α β : Type} {f : α → KasT β} {Q : β → Prop} : ∀ {t : KasT α}, KP lt n t (fun a => KP lt n (f a) Q) → KP lt n (t.bind f) Q
  | .ret _, h => h
  | .ask _ _ _, h => ⟨h.1, h.2.1, KP_bind h.2.2⟩
theorem KP.wp {α : Type} {P : α → Prop} {s : Shared} {cmp : Nat → Nat → (Bool → Shared → Prop) → Shared → Prop} {Q : α → Shared → Prop} (hc : ∀ i j C, i < n → j < n → C (lt i j) s → cmp i j C s) (hq : ∀ a, P a → Q a s) : ∀ {t : KasT α}, KP lt n t P → t.kasWp cmp Q s
  | .ret a, h => hq a h
  | .ask _ _ _, h => hc _ _ _ h.1 h.2.1 (KP.wp hc hq h.2.2)
end
section
variable {n : Nat} {key : Nat → Int} {p : Array Nat} {i j k : Nat}
noncomputable def kIt (key : Nat → Int) (i : Nat) : Keyed := (.int (key i) 0, .none)
noncomputable def kp (key : Nat → Int) (p : Array Nat) (i : Nat) : Int := PyProof.Rows.K (p.map (kIt key)) i
noncomputable abbrev kLt (key : Nat → Int) (i j : Nat) : Bool := decide (key i < key j)
structure PR (n : Nat) (p : Array Nat) : Prop where
  perm : p.toList.Perm (List.range n)
theorem PR.size (h : PR n p) : p.size = n := by have := h.perm.length_eq; simpa using this
theorem PR.lt (h : PR n p) (hi : i < n) : p.getD i 0 < n := by
  have hs : i < p.size := h.size ▸ hi
  have e : p.getD i 0 = p[i] := by simp [Array.getD, hs]
  rw [e]
  exact List.mem_range.mp (h.perm.mem_iff.mp (by simp))
theorem PR.kp (h : PR n p) (hi : i < n) : kp key p i = key (p.getD i 0) := by
  have hs : i < p.size := h.size ▸ hi
  have e : p.getD i 0 = p[i] := by simp [Array.getD, hs]
  have e2 : (p.map (kIt key))[i]? = some (kIt key p[i]) := by simp [hs]
  unfold Mine.kp PyProof.Rows.K
  rw [e2, e]; rfl
theorem PR.ask {α : Type} {k : Bool → KasT α} {Q : α → Prop} (h : PR n p) (hi : i < n) (hj : j < n) (q : KP (kLt key) n (k (decide (Mine.kp key p i < Mine.kp key p j))) Q) : KP (kLt key) n (.ask (p.getD i 0) (p.getD j 0) k) Q := by
  rw [h.kp hi, h.kp hj] at q
  exact ⟨h.lt hi, h.lt hj, q⟩
theorem rev_map : (kas_rev p i j).map (kIt key) = mirror (p.map (kIt key)) i j ((j - i) / 2) := (kas_swaps_map (kIt key) (fun k => i + k) (fun k => j - 1 - k) _ p).symm
theorem PR.rev (h : PR n p) : PR n (kas_rev p i j) := ⟨(Array.perm_iff_toList_perm.mp (mirror_perm _ _ _ _)).trans h.perm⟩
theorem kp_rev (h : PR n p) (hj : j ≤ n) (k : Nat) : kp key (kas_rev p i j) k = if i ≤ k ∧ k < j then kp key p (i + j - 1 - k) else kp key p k := by
  unfold kp; rw [rev_map]; exact K_mirror (by rw [Array.size_map, h.size]; exact hj) k
theorem kp_rev_eq (h : PR n p) (hj : j ≤ n) (heq : ∀ k, i ≤ k → k < j → kp key p k = kp key p (j - 1)) (k : Nat) : kp key (kas_rev p i j) k = kp key p k := by
  unfold kp at *; rw [rev_map]; exact K_mirror_equal (by rw [Array.size_map, h.size]; exact hj) heq k
theorem PR.bub {d : Nat} (h : PR n p) : PR n (bubble p i d) := ⟨(Array.perm_iff_toList_perm.mp (bubble_perm _ _ _)).trans h.perm⟩
theorem kp_bub {src d : Nat} (h : PR n p) (hs : src < n) (hd : d ≤ src) (k : Nat) : kp key (bubble p src d) k = if k = src - d then kp key p src else if src - d < k ∧ k ≤ src then kp key p (k - 1) else kp key p k := by
  have e : (bubble p src d).map (kIt key) = bubble (p.map (kIt key)) src d := (kas_swaps_map (kIt key) (fun i => src - i) (fun i => src - i - 1) _ p).symm
  unfold kp; rw [e]; exact K_bubble (by rw [Array.size_map, h.size]; exact hs) hd k
noncomputable def Up (key : Nat → Int) (p : Array Nat) (m : Nat) : Prop := ∀ i j, i ≤ j → j < m → kp key p i ≤ kp key p j
noncomputable def Dn (key : Nat → Int) (p : Array Nat) (m : Nat) : Prop := ∀ i j, i ≤ j → j < m → kp key p j ≤ kp key p i
theorem Up.more {m : Nat} (h : Up key p m) (hm : 1 ≤ m) (q : kp key p (m - 1) ≤ kp key p m) : Up key p (m + 1) := fun i j hij hj => by
  by_cases hjm : j < m
  · exact h i j hij hjm
  · have e : j = m := by lia
    subst e
    by_cases hi : i = j
    · subst hi; exact Int.le_refl _
    · exact Int.le_trans (h i (j - 1) (by lia) (by lia)) q
theorem Dn.more {m : Nat} (h : Dn key p m) (hm : 1 ≤ m) (q : kp key p m ≤ kp key p (m - 1)) : Dn key p (m + 1) := fun i j hij hj => by
  by_cases hjm : j < m
  · exact h i j hij hjm
  · have e : j = m := by lia
    subst e
    by_cases hi : i = j
    · subst hi; exact Int.le_refl _
    · exact Int.le_trans q (h i (j - 1) (by lia) (by lia))
theorem kp_asc {Q : Nat → Prop} (h : PR n p) : ∀ (f m : Nat), m + f = n → 1 ≤ m → Up key p m → (∀ m', m ≤ m' → m' ≤ n → Up key p m' → (m' = n ∨ kp key p m' < kp key p (m' - 1)) → Q m') → KP (kLt key) n (kas_asc p f m) Q
  | 0, m, hm, _, hu, q => q m (Nat.le_refl _) (by lia) hu (.inl (by lia))
  | f + 1, m, hm, h1, hu, q => h.ask (by lia) (by lia) (by
    by_cases c : kp key p m < kp key p (m - 1)
    · rw [decide_eq_true c]; exact q m (Nat.le_refl _) (by lia) hu (.inr c)
    · rw [decide_eq_false c]; exact kp_asc h f (m + 1) (by lia) (by lia) (hu.more h1 (Int.not_lt.mp c)) fun m' a b => q m' (by lia) b)
theorem kp_desc {Q : Array Nat × Nat × Nat → Prop} : ∀ (f m q : Nat) (p : Array Nat), PR n p → m + f = n → 1 ≤ m → Dn key p m → q + 1 ≤ m → (∀ i, m - (q + 1) ≤ i → i < m → kp key p i = kp key p (m - 1)) →
    (∀ p' m' q', PR n p' → m ≤ m' → m' ≤ n → Dn key p' m' → q' + 1 ≤ m' → (∀ i, m' - (q' + 1) ≤ i → i < m' → kp key p' i = kp key p' (m' - 1)) → Q (p', m', q')) → KP (kLt key) n (kas_desc f p m q) Q
  | 0, m, q, p, h, hm, h1, hd, hq, he, k => k p m q h (Nat.le_refl _) (by lia) hd hq he
  | f + 1, m, q, p, h, hm, h1, hd, hq, he, k => h.ask (by lia) (by lia) (by
    have self : ∀ p' : Array Nat, ∀ i, m + 1 - (0 + 1) ≤ i → i < m + 1 → kp key p' i = kp key p' (m + 1 - 1) := fun p' i a b => by congr 1; lia
    by_cases c : kp key p m < kp key p (m - 1)
    · rw [decide_eq_true c]
      show KP _ n (if q > 0 then kas_desc f (kas_rev p (m - (q + 1)) m) (m + 1) 0 else kas_desc f p (m + 1) 0) Q
      have d1 := hd.more h1 (Int.le_of_lt c)
      by_cases z : q > 0
      · rw [if_pos z]
        have e := kp_rev_eq (key := key) h (show m ≤ n by lia) he
        exact kp_desc f (m + 1) 0 _ h.rev (by lia) (by lia) (fun i j a b => by rw [e, e]; exact d1 i j a b) (by lia) (self _) fun p' m' q' a b => k p' m' q' a (by lia)
      · rw [if_neg z]
        exact kp_desc f (m + 1) 0 p h (by lia) (by lia) d1 (by lia) (self p) fun p' m' q' a b => k p' m' q' a (by lia)
    · rw [decide_eq_false c]
      refine h.ask (by lia) (by lia) ?_
      by_cases c2 : kp key p (m - 1) < kp key p m
      · rw [decide_eq_true c2]; exact k p m q h (Nat.le_refl _) (by lia) hd hq he
      · rw [decide_eq_false c2]
        have ee : kp key p m = kp key p (m - 1) := by lia
        refine kp_desc f (m + 1) (q + 1) p h (by lia) (by lia) (hd.more h1 (Int.le_of_eq ee)) (by lia) (fun i a b => ?_) fun p' m' q' a b => k p' m' q' a (by lia)
        rw [show m + 1 - 1 = m by lia]
        by_cases z : i = m
        · rw [z]
        · rw [ee]; exact he i (by lia) (by lia))
theorem kp_tail {m : Nat} {Q : Nat × Array Nat → Prop} (h : PR n p) (hm : m ≤ n) (h1 : 1 ≤ m) (hd : Dn key p m) (k : ∀ m' p', PR n p' → 1 ≤ m' → m' ≤ n → Up key p' m' → Q (m', p')) : KP (kLt key) n (kas_tail3 m n p) Q := by
  refine KP_bind (kp_asc h.rev (n - m) m (by lia) h1 (fun i j a b => ?_) fun m' a b u _ => k m' _ h.rev (by lia) b u)
  rw [kp_rev h hm, kp_rev h hm, if_pos (by lia), if_pos (by lia)]
  exact hd _ _ (by lia) (by lia)
theorem kp_descPart {m : Nat} {Q : Nat × Array Nat → Prop} (h : PR n p) (hm : m + 1 ≤ n) (hd : Dn key p (m + 1)) (k : ∀ m' p', PR n p' → 1 ≤ m' → m' ≤ n → Up key p' m' → Q (m', p')) : KP (kLt key) n (kas_descPart m n p) Q := by
  refine KP_bind (kp_desc (n - (m + 1)) (m + 1) 0 p h (by lia) (by lia) hd (by lia) (fun i a b => by congr 1; lia) fun p' m' q' a b c d e g => ?_)
  by_cases z : q' > 0
  · show KP _ n (if q' > 0 then _ else _) Q
    rw [if_pos z]
    have e := kp_rev_eq (key := key) a c g
    exact kp_tail (m := m') a.rev c (by lia) (fun i j x y => by rw [e, e]; exact d i j x y) k
  · show KP _ n (if q' > 0 then _ else _) Q
    rw [if_neg z]
    exact kp_tail (m := m') a c (by lia) d k
theorem kp_count {Q : Nat × Array Nat → Prop} (h : PR n p) (hn : 1 ≤ n) (k : ∀ m' p', PR n p' → 1 ≤ m' → m' ≤ n → Up key p' m' → Q (m', p')) : KP (kLt key) n (kas_count n p) Q := by
  refine KP_bind (kp_asc h (n - 1) 1 (by lia) (Nat.le_refl _) (fun i j a b => by rw [show i = j by lia]; exact Int.le_refl _) fun m a b u o => ?_)
  by_cases e : m = n
  · rw [if_pos (by simpa using e)]; exact k m p h a b u
  · rw [if_neg (by simpa using e)]
    have hl := o.resolve_left e
    by_cases g : m > 1
    · rw [if_pos g]
      refine h.ask (by lia) (by lia) ?_
      by_cases c : kp key p 0 < kp key p (m - 1)
      · rw [decide_eq_true c]; exact k m p h a b u
      · rw [decide_eq_false c]
        have all : ∀ i, 0 ≤ i → i < m → kp key p i = kp key p (m - 1) := fun i _ hi => by
          have a1 := u 0 i (by lia) hi
          have a2 := u i (m - 1) (by lia) (by lia)
          lia
        have er := kp_rev_eq (key := key) h b all
        refine kp_descPart h.rev (by lia) (fun i j x y => ?_) k
        rw [er, er]
        by_cases z : j < m
        · rw [all i (by lia) (by lia), all j (by lia) z]; exact Int.le_refl _
        · have ej : j = m := by lia
          subst ej
          by_cases w : i = j
          · subst w; exact Int.le_refl _
          · rw [all i (by lia) (by lia)]; exact Int.le_of_lt hl
    · rw [if_neg g]
      have e1 : m = 1 := by lia
      subst e1
      refine kp_descPart h (by lia) (fun i j x y => ?_) k
      by_cases w : i = j
      · subst w; exact Int.le_refl _
      · rw [show i = 0 by lia, show j = 1 by lia]; exact Int.le_of_lt hl
theorem kp_place {Q : Nat → Prop} (h : PR n p) (hk : k < n) (u : Up key p k) : ∀ (f l r : Nat), l ≤ r → r ≤ k → r - l ≤ f → (∀ i, i < l → kp key p i ≤ kp key p k) → (∀ i, r ≤ i → i < k → kp key p k < kp key p i) →
    (∀ l', l' ≤ k → (∀ i, i < l' → kp key p i ≤ kp key p k) → (∀ i, l' ≤ i → i < k → kp key p k < kp key p i) → Q l') → KP (kLt key) n (kas_place p k f l r) Q
  | 0, l, r, a, b, c, lo, hi, q => q l (by lia) lo fun i x y => hi i (by lia) y
  | f + 1, l, r, a, b, c, lo, hi, q => by
    show KP _ n (if l ≥ r then .ret l else _) Q
    by_cases g : l ≥ r
    · rw [if_pos g]; exact q l (by lia) lo fun i x y => hi i (by lia) y
    · rw [if_neg g]
      refine h.ask hk (by lia) ?_
      by_cases c2 : kp key p k < kp key p ((l + r) / 2)
      · rw [decide_eq_true c2]
        exact kp_place h hk u f l ((l + r) / 2) (by lia) (by lia) (by lia) lo (fun i x y => Int.lt_of_lt_of_le c2 (u _ _ x y)) q
      · rw [decide_eq_false c2]
        exact kp_place h hk u f ((l + r) / 2 + 1) r (by lia) b (by lia) (fun i x => Int.le_trans (u i ((l + r) / 2) (by lia) (by lia)) (Int.not_lt.mp c2)) hi q
theorem kp_bin {Q : Array Nat → Prop} : ∀ (f k : Nat) (p : Array Nat), PR n p → k + f = n → Up key p k → (∀ p', PR n p' → Up key p' n → Q p') → KP (kLt key) n (kas_bin f p k) Q
  | 0, k, p, h, hk, u, q => q p h (by rw [← hk]; exact u)
  | f + 1, k, p, h, hk, u, q => KP_bind (kp_place h (by lia) u k 0 k (by lia) (by lia) (by lia) (fun i x => absurd x (by lia)) (fun i x y => absurd y (by lia)) fun l a lo hi => by
    refine kp_bin f (k + 1) _ h.bub (by lia) (fun i j x y => ?_) q
    have e := kp_bub (key := key) h (show k < n by lia) (show k - l ≤ k by lia)
    rw [show k - (k - l) = l by lia] at e
    rw [e, e]
    by_cases i1 : i = l
    · rw [if_pos i1]
      by_cases j1 : j = l
      · rw [if_pos j1]; exact Int.le_refl _
      · rw [if_neg j1, if_pos (by lia)]; exact Int.le_of_lt (hi _ (by lia) (by lia))
    · rw [if_neg i1]
      by_cases i2 : l < i ∧ i ≤ k
      · rw [if_pos i2, if_neg (by lia), if_pos (by lia)]; exact u _ _ (by lia) (by lia)
      · rw [if_neg i2]
        by_cases j1 : j = l
        · rw [if_pos j1]; exact lo i (by lia)
        · rw [if_neg j1]
          by_cases j2 : l < j ∧ j ≤ k
          · rw [if_pos j2]; exact u _ _ (by lia) (by lia)
          · rw [if_neg j2]; exact u _ _ x (by lia))
theorem kp_sort {Q : Array Nat → Prop} (hn : 1 ≤ n) (k : ∀ p', PR n p' → Up key p' n → Q p') : KP (kLt key) n (kas_sort n) Q := by
  refine KP_bind (kp_count ⟨List.Perm.refl _⟩ hn fun m p h a b u => ?_)
  by_cases c : m < n
  · show KP _ n (if m < n then _ else _) Q
    rw [if_pos c]
    exact kp_bin (n - max m 1) (max m 1) p h (by lia) (by rw [Nat.max_eq_left a]; exact u) k
  · show KP _ n (if m < n then _ else _) Q
    rw [if_neg c]
    exact k p h (by rw [show n = m by lia]; exact u)
end
end Mine
end
section
set_option tactic.hygienic false
open PySem PySem.W PyProof.Rows PySem.Calls PySem.SeqAt Builtin
namespace Mine
noncomputable abbrev cFrom (x : Int) (w : List Int) : Int := w.foldl (fun a x => 4 * a + x) x
noncomputable abbrev dOk (w : List Int) : Prop := ∀ x ∈ w, 0 ≤ x ∧ x < 4
theorem code_mono : ∀ {u v : List Int} {y z : Int}, u.length = v.length → dOk u → dOk v → y < z → cFrom y u < cFrom z v
  | [], [], _, _, _, _, _, h => h
  | a :: u, b :: v, y, z, hl, hu, hv, h => by
    have h1 := hu a List.mem_cons_self
    have h2 := hv b List.mem_cons_self
    exact code_mono (u := u) (v := v) (Nat.succ.inj hl) (fun x hx => hu x (List.mem_cons_of_mem _ hx)) (fun x hx => hv x (List.mem_cons_of_mem _ hx)) (by lia)
theorem code_inj : ∀ {u v : List Int} {x : Int}, u.length = v.length → dOk u → dOk v → cFrom x u = cFrom x v → u = v
  | [], [], _, _, _, _, _ => rfl
  | a :: u, b :: v, x, hl, hu, hv, h => by
    have hl' := Nat.succ.inj hl
    have hu' : dOk u := fun x hx => hu x (List.mem_cons_of_mem _ hx)
    have hv' : dOk v := fun x hx => hv x (List.mem_cons_of_mem _ hx)
    rcases Int.lt_trichotomy a b with q | q | q
    · exact absurd h (Int.ne_of_lt (code_mono (y := 4 * x + a) (z := 4 * x + b) hl' hu' hv' (by lia)))
    · subst q; rw [code_inj hl' hu' hv' h]
    · exact absurd h.symm (Int.ne_of_lt (code_mono (y := 4 * x + b) (z := 4 * x + a) hl'.symm hv' hu' (by lia)))
theorem wOk_iff {n : Nat} {w : List Int} (h : wOk n w = true) : w.length = n ∧ dOk w := by
  unfold wOk at h
  rw [Bool.and_eq_true, beq_iff_eq, List.all_eq_true] at h
  exact ⟨h.1, fun x hx => by have := h.2 x hx; rw [Bool.and_eq_true] at this; exact ⟨of_decide_eq_true this.1, of_decide_eq_true this.2⟩⟩
section
variable {prog : Program} {w : World} {A : Around} {E : Value → Shared → Prop} {s : Shared}
noncomputable def WAt (h : Heap) (v : Value) (u : List Int) : Prop := ∃ a its n, v = .ref a ∧ h.get? a = some (tupObj its n) ∧ IntsAre its.toList u
set_option tactic.hygienic true in
theorem lex_wp {Q : Bool → Shared → Prop} : ∀ (u v : List Int) (us vs : List Value) (i : Nat) (x : Int), u.length = v.length → dOk u → dOk v → IntsAre us u → IntsAre vs v → Q (decide (cFrom x u < cFrom x v)) s → KatLex prog w A true false Q (us.zip vs) i s
  | [], [], us, vs, i, x, _, _, _, h1, h2, q => by
    cases h1
    exact kat_nil (by rw [decide_eq_false (Int.lt_irrefl _)] at q; exact q)
  | a :: u, b :: v, us, vs, i, x, hl, hu, hv, h1, h2, q => by
    cases h1 with
    | cons _ t1 h1 =>
      rename_i us
      cases h2 with
      | cons _ t2 h2 =>
        rename_i vs
        have hl' := Nat.succ.inj hl
        have hu' : dOk u := fun x hx => hu x (List.mem_cons_of_mem _ hx)
        have hv' : dOk v := fun x hx => hv x (List.mem_cons_of_mem _ hx)
        replace q : Q (decide (cFrom (4 * x + a) u < cFrom (4 * x + b) v)) s := q
        refine kat_cons (wpAny_eqBool_int ?_)
        by_cases e : a = b
        · subst e
          rw [beq_self_eq_true]
          exact kat_yes (lex_wp u v us vs (i + 1) (4 * x + a) hl' hu' hv' h1 h2 q)
        · rw [beq_eq_false_iff_ne.mpr e]
          refine kat_no ?_
          have q' : Q (decide (a < b)) s := by
            rcases Int.lt_or_gt_of_ne e with g | g
            · rw [decide_eq_true g]
              rw [decide_eq_true (code_mono hl' hu' hv' (show 4 * x + a < 4 * x + b by lia))] at q; exact q
            · rw [decide_eq_false (Int.lt_asymm g)]
              rw [decide_eq_false (Int.lt_asymm (code_mono hl'.symm hv' hu' (show 4 * x + b < 4 * x + a by lia)))] at q; exact q
          cases i with
          | zero => exact oneLt_int q'
          | succ i => exact kat_one _ _ (lt_int q')
theorem WAt.keep {h h' : Heap} {v : Value} {u : List Int} (k : ∀ b o, Imm o → h.get? b = some o → h'.get? b = some o) (q : WAt h v u) : WAt h' v u := by
  refine exE3 q fun a its n h0 => andE3 h0 fun e g i => ?_
  exact exI3 a its n ⟨e, k _ _ (imm_tup _ _) g, i⟩
theorem ask_words {vs : List Value} {ws : List (List Int)} {m i j : Nat} {C : Bool → Shared → Prop} (hv : ∀ i, i < vs.length → WAt s.heap (vs.getD i Value.none) (ws.getD i [])) (hok : ∀ i, i < vs.length → wOk m (ws.getD i []) = true) (hi : i < vs.length) (hj : j < vs.length) (q : C (decide (wCode (ws.getD i []) < wCode (ws.getD j []))) s) :
    kas_ask prog w A (tuples' true) vs i j C s := by
  refine exE3 (hv i hi) fun a1 i1 n1 h1 => andE3 h1 fun e1 g1 h1 => ?_
  refine exE3 (hv j hj) fun a2 i2 n2 h2 => andE3 h2 fun e2 g2 h2 => ?_
  have o1 := wOk_iff (hok i hi)
  have o2 := wOk_iff (hok j hj)
  unfold kas_ask
  rw [e1, e2]
  refine kat_lt g1 rfl g2 rfl ?_
  have l1 : i1.size = i2.size := by have := h1.length; have := h2.length; simp only [Array.length_toList] at *; (first | lia | omega)
  rw [decide_eq_false (by (first | lia | omega))]
  exact lex_wp _ _ _ _ 0 0 (o1.1.trans o2.1.symm) o1.2 o2.2 h1 h2 q
set_option tactic.hygienic true in
theorem kind_words {vs : List Value} {ws : List (List Int)} {m : Nat} {Q : SortKind → Shared → Prop} (hv : ∀ i, i < vs.length → WAt s.heap (vs.getD i Value.none) (ws.getD i [])) (hok : ∀ i, i < vs.length → wOk m (ws.getD i []) = true) (hm : 0 < m) (hl : 0 < vs.length) (q : Q (tuples' true) s) :
    wpAny (model prog w) A (keyKind' vs.toArray) Q E s := by
  have h : ∀ vs : List Value, (∀ v ∈ vs, ∃ u, u ≠ [] ∧ WAt s.heap v u) → ∃ fs, fs.length = vs.length ∧ KatTups s.heap vs fs ∧ ∀ v ∈ fs, ∃ n t, v = Value.int n t := by
    intro vs
    induction vs with
    | nil => exact fun _ => ⟨[], rfl, KatTups.nil, nofun⟩
    | cons v vs ih =>
      intro h
      refine exE1 (ih fun x hx => h x (List.mem_cons_of_mem _ hx)) fun fs h3 => andE3 h3 fun f1 f2 f3 => ?_
      refine exE1 (h v List.mem_cons_self) fun u h4 => andE2 h4 fun u1 h4_1 => ?_
      obtain ⟨a, its, n, rfl, g, hi⟩ := h4_1
      generalize hL : its.toList = L at hi
      cases hi with
      | nil => exact absurd rfl u1
      | cons x t hr =>
        rename_i vs' ns
        refine ⟨.int x t :: fs, by rw [List.length_cons, List.length_cons, f1], KatTups.cons g rfl rfl ?_ f2, fun y hy => ?_⟩
        · rw [← Array.getElem?_toList, hL]; rfl
        · rcases List.mem_cons.mp hy with rfl | hy
          · exact exI2 _ _ rfl
          · exact f3 y hy
  refine exE1 (h vs fun v hv' => by
    obtain ⟨i, hi, rfl⟩ := List.mem_iff_getElem.mp hv'
    refine ⟨ws.getD i [], fun e => ?_, ?_⟩
    · have := (wOk_iff (hok i hi)).1; rw [e] at this; simp at this; (first | lia | omega)
    · have := hv i hi
      rwa [show vs.getD i Value.none = vs[i] by simp [hi]] at this) fun fs h5 => andE3 h5 fun f1 f2 f3 => ?_
  exact kat_kind (T := .type "int") f2 (by (first | lia | omega)) (fun v hv' => by obtain ⟨n, t, rfl⟩ := f3 v hv'; exact Looks.of_pure rfl) rfl q
end
end Mine
end
section
set_option tactic.hygienic false
open PySem PySem.W PyProof.Rows PySem.Calls PySem.SeqAt Builtin
namespace Mine
section
variable {prog : Program} {w : World} {A : Around} {E : Value → Shared → Prop} {s : Shared}
theorem list_sort_words {a : Addr} {vs : List Value} {n m : Nat} {ws : List (List Int)} {P : PySem.Fin → Shared → Prop} (ho : s.heap.get? a = some (seqObj "list" vs.toArray n)) (hv : ∀ i, i < vs.length → WAt s.heap (vs.getD i Value.none) (ws.getD i [])) (hok : 1 < vs.length → 0 < m ∧ ∀ i, i < vs.length → wOk m (ws.getD i []) = true) (h64 : vs.length < 64)
    (h : ∀ p : Array Nat, PR vs.length p → Up (fun i => wCode (ws.getD i [])) p vs.length → P (.done (.ret .none)) { s with heap := sortedHeap s.heap a vs (p.toList.map fun i => vs.getD i Value.none).toArray }) :
    wpAny (model prog w) A (Builtin.«list.sort» ⟨[.ref a], []⟩) P E s := by
  rw [list_sort_plain]
  have ha : a < s.heap.objs.size := Heap.lt_size ho
  have hsz : vs.toArray.size = vs.length := by simp
  refine wpAny_bind (listItems_at ho rfl ?_)
  refine wpAny_bind (listUpdate_at ho rfl ?_ (by rw [hsz, sizeLine_eq]; (first | lia | omega)) (Nat.zero_le _))
  obtain ⟨e1, ho1⟩ : ∃ e1, (s.heap.update a (Obj.mapSeq fun _ => #[])).get? a = some (seqObj "list" #[] e1) := ⟨_, get?_update_seq ho (fun _ => #[])⟩
  refine wpAny_bind (seqEpoch_at ho1 rfl ?_)
  refine wpAny_bind (wpAny_newTuple ?_ (by show vs.length ≤ _; rw [sizeLine_eq]; (first | lia | omega)))
  refine wpAny_bind (wpAny_newList ?_ (Nat.zero_le _))
  refine wpAny_holding ?_
  refine named (((s.heap.update a (Obj.mapSeq fun _ => #[])).push (seqObj "tuple" vs.toArray 0)).push (seqObj "list" #[] 0)) fun h6 hh6 => ?_
  have ho6 : h6.get? a = some (seqObj "list" #[] e1) := by
    rw [hh6]
    exact Heap.get?_push_of_some _ (Heap.get?_push_of_some _ ho1)
  have kp6 : ∀ b o, Imm o → s.heap.get? b = some o → h6.get? b = some o := fun b o im g => by
    have hb : b ≠ a := fun q => by
      subst q
      rw [ho] at g; cases g
      exact absurd (imm_cls im rfl) (by decide)
    rw [hh6]
    exact Heap.get?_push_of_some _ (Heap.get?_push_of_some _ ((Heap.get?_update_other _ _ (Ne.symm hb)).trans g))
  have fin : ∀ p : Array Nat, PR vs.length p → Up (fun i => wCode (ws.getD i [])) p vs.length → P (.done (.ret .none)) { s with heap := h6.update a (Obj.mapSeq fun _ => (p.toList.map fun i => vs.getD i Value.none).toArray) } := fun p h1 h2 => by
    have := h p h1 h2
    unfold sortedHeap at this
    rw [hh6]; exact this
  show wpAny (model prog w) A _ P E { s with heap := ((s.heap.update a (Obj.mapSeq fun _ => #[])).push (seqObj "tuple" vs.toArray 0)).push (seqObj "list" #[] 0) }
  rw [← hh6]
  have hv6 : ∀ i, i < vs.length → WAt h6 (vs.getD i Value.none) (ws.getD i []) := fun i hi => (hv i hi).keep kp6
  have outsz : ∀ p : Array Nat, PR vs.length p → ((p.toList.map fun i => vs.getD i Value.none).toArray).size ≤ sizeLine + 1 := fun p h1 => by
    rw [List.size_toArray, List.length_map, Array.length_toList, h1.size, sizeLine_eq]; (first | lia | omega)
  dsimp only
  by_cases h2 : vs.toArray.size < 2
  · rw [if_pos h2, if_pos h2]
    refine wpAny_bind (wpAny_pure ?_)
    rw [StateT.run_pure]
    refine wpAny_bind (wpAny_pure ?_)
    dsimp only
    have hp : PR vs.length (List.range vs.length).toArray := ⟨List.Perm.refl _⟩
    have eo : (arrOf (SortSt.mk' general' (vs.toArray.zip vs.toArray) #[] 7 none)).map (·.2) = (((List.range vs.length).toArray.toList.map fun i => vs.getD i Value.none)).toArray := by
      show (vs.toArray.zip vs.toArray).map (·.2) = _
      apply Array.toList_inj.mp
      rw [Array.toList_map, Array.toList_zip]
      show (vs.zip vs).map (·.2) = (List.range vs.length).map fun i => vs.getD i Value.none
      rw [show (vs.zip vs).map (·.2) = vs from List.map_snd_zip (Nat.le_refl _)]
      exact List.ext_getElem (by rw [List.length_map, List.length_range]) fun i h1 h2 => by simp [h1]
    rw [eo]
    refine wpAny_bind (seqEpoch_at ho6 rfl ?_)
    refine wpAny_bind (listUpdate_at ho6 rfl ?_ (Nat.zero_le _) (outsz _ hp))
    simp only [bne_self_eq_false, Bool.false_eq_true, if_false]
    refine wpAny_pure (fin _ hp fun i j hij hj => ?_)
    have : i = j := by (first | lia | omega)
    subst this; exact Int.le_refl _
  · rw [if_neg h2, if_neg h2]
    refine andE2 (hok (by (first | lia | omega))) fun hm hok => ?_
    refine wpAny_bind (kind_words (s := { s with heap := h6 }) hv6 hok hm (by (first | lia | omega)) ?_)
    refine wpAny_bind (wpAny_mono (kat_run (Q := fun st' s' => s' = { s with heap := h6 } ∧ ∃ p : Array Nat, arrOf st' = p.map (kas_item (vs.toArray.zip vs.toArray)) ∧ failedOf st' = none ∧ PR vs.length p ∧ Up (fun i => wCode (ws.getD i [])) p vs.length)
      (G := fun p s' => s' = { s with heap := h6 } ∧ PR vs.length p ∧ Up (fun i => wCode (ws.getD i [])) p vs.length) rfl (by (first | lia | omega)) h64 (fun p st' s' a1 a2 a3 a4 => ⟨a4.1, p, a2, a3, a4.2⟩) (KP.wp (lt := kLt fun i => wCode (ws.getD i [])) (n := vs.length) (P := fun p => PR vs.length p ∧ Up (fun i => wCode (ws.getD i [])) p vs.length) (fun i j C hi hj q => ask_words (s := { s with heap := h6 }) hv6 hok hi hj q) (fun p hp => ⟨rfl, hp⟩) (kp_sort (by (first | lia | omega)) fun p a b => ⟨a, b⟩))) ?_ fun _ _ e => e)
    rintro ⟨⟨⟩, st'⟩ s' ⟨rfl, p, har, hf, hp, hu⟩
    dsimp only
    rw [kat_snds rfl har]
    refine wpAny_bind (seqEpoch_at ho6 rfl ?_)
    refine wpAny_bind (listUpdate_at ho6 rfl ?_ (Nat.zero_le _) (outsz p hp))
    rw [hf]
    simp only [bne_self_eq_false, Bool.false_eq_true, if_false]
    exact wpAny_pure (fin p hp hu)
end
section
variable {G : Gl} {Φ : Frm} {d : Nat} {ρ : Rho} {e : AEnv} {H : AHeap} {s : Shared}
set_option tactic.hygienic true in
theorem asWords_at : ∀ {Xs : List V} {ws : List (List Int)} {vs : List Value} {h : Heap}, asWords Xs = some ws → VRs G ρ h Xs vs → Xs = ws.map wV ∧ vs.length = ws.length ∧ ∀ i, i < vs.length → WAt h (vs.getD i Value.none) (ws.getD i [])
  | [], ws, vs, h, hw, q => by
    cases hw
    simp only [VRs] at q; subst q
    exact ⟨rfl, rfl, fun i hi => absurd hi (Nat.not_lt_zero _)⟩
  | X :: r, ws, vs, h, hw, q => by
    simp only [VRs] at q
    refine exE2 q fun v t h1 => andE3 h1 fun e1_0 q1 q2 => ?_
    subst e1_0
    refine bnd1 hw fun a ha hw => ?_
    obtain ⟨ws', h1, rfl⟩ := Option.map_eq_some_iff.mp hw
    refine andE3 (asWords_at h1 q2) fun e1 e2 e3 => ?_
    cases X <;> try cases ha
    rename_i us
    have eu : us = a.map V.int := by
      have : ∀ {us : List V} {a : List Int}, asInts us = some a → us = a.map V.int := by
        intro us
        induction us with
        | nil => intro a h; cases h; rfl
        | cons x us ih =>
          intro a h
          cases x <;> try cases h
          obtain ⟨b, h1, rfl⟩ := Option.map_eq_some_iff.mp h
          rw [ih h1]; rfl
      exact this ha
    simp only [VR] at q1
    refine exE3 q1 fun ad its n h5 => andE3 h5 fun e5_0 g hvs => ?_
    subst e5_0
    refine ⟨by rw [eu, e1]; rfl, by rw [List.length_cons, List.length_cons, e2], fun i hi => ?_⟩
    cases i with
    | zero => exact ⟨ad, its, n, rfl, g, asInts_ok ha hvs⟩
    | succ i => exact e3 i (Nat.lt_of_succ_lt_succ hi)
theorem VRs_map {α : Type} {h : Heap} {f : α → V} {g : α → Value} : ∀ {l : List α}, (∀ i ∈ l, VR G ρ h (f i) (g i)) → VRs G ρ h (l.map f) (l.map g)
  | [], _ => VRs.nil
  | x :: l, q => VRs.cons (q x List.mem_cons_self) (VRs_map fun i hi => q i (List.mem_cons_of_mem _ hi))
theorem WAt.vr {h : Heap} {v : Value} {u : List Int} (q : WAt h v u) : VR G ρ h (wV u) v := by
  refine exE3 q fun a its n h6 => andE3 h6 fun e g hi => ?_
  unfold wV
  simp only [VR]
  exact exI3 a its n ⟨e, g, ints_VRs hi⟩
theorem sortW_of {ws : List (List Int)} {p : Array Nat} {n m : Nat} (hn : ws.length = n) (hp : PR n p) (hu : Up (fun i => wCode (ws.getD i [])) p n) (hok : 1 < n → ∀ i, i < n → wOk m (ws.getD i []) = true) : sortW ws = p.toList.map fun i => ws.getD i [] := by
  have e0 : (List.range n).map (fun i => ws.getD i []) = ws := List.ext_getElem (by rw [List.length_map, List.length_range, hn]) fun i h1 h2 => by simp [h2]
  have hpm : (p.toList.map fun i => ws.getD i []).Perm ws := (hp.perm.map _).trans (by rw [e0])
  have s1 : (sortW ws).Pairwise fun a b => wCode a ≤ wCode b := (List.pairwise_mergeSort (le := fun a b => decide (wCode a ≤ wCode b)) (fun a b c h1 h2 => decide_eq_true (Int.le_trans (of_decide_eq_true h1) (of_decide_eq_true h2))) (fun a b => by
    rcases Int.le_total (wCode a) (wCode b) with q | q
    · rw [decide_eq_true q]; rfl
    · rw [decide_eq_true q]; exact Bool.or_true _) ws).imp fun h => of_decide_eq_true h
  have hs : (sortW ws).Perm ws := List.mergeSort_perm _ _
  have s2 : (p.toList.map fun i => ws.getD i []).Pairwise fun a b => wCode a ≤ wCode b := by
    rw [List.pairwise_map, List.pairwise_iff_getElem]
    intro i j hi hj hij
    rw [Array.length_toList, hp.size] at hi hj
    have := hu i j (Nat.le_of_lt hij) hj
    rw [hp.kp hi, hp.kp hj] at this
    have g : ∀ {i : Nat} (h : i < p.toList.length), p.getD i 0 = p.toList[i] := fun {i} h => by
      rw [Array.length_toList] at h
      simp [Array.getD, h]
    rw [g, g] at this; exact this
  refine (hs.trans hpm.symm).eq_of_pairwise (fun a b ha hb h1 h2 => ?_) s1 s2
  have ha := hs.mem_iff.mp ha
  have hb := hpm.mem_iff.mp hb
  obtain ⟨i, hi, rfl⟩ := List.mem_iff_getElem.mp ha
  obtain ⟨j, hj, rfl⟩ := List.mem_iff_getElem.mp hb
  by_cases h1n : 1 < n
  · have o1 := wOk_iff (hok h1n i (hn ▸ hi))
    have o2 := wOk_iff (hok h1n j (hn ▸ hj))
    rw [show ws.getD i [] = ws[i] by simp [hi]] at o1
    rw [show ws.getD j [] = ws[j] by simp [hj]] at o2
    exact code_inj (o1.1.trans o2.1.symm) o1.2 o2.2 (Int.le_antisymm h1 h2)
  · have : i = j := by (first | lia | omega)
    subst this; rfl
theorem words_core {X : V} {v : Value} {items : List V} {fz : Option Nat} {ws : List (List Int)} (hv : VR G ρ s.heap X v) (hi : vItems X H = some (items, fz)) (hX : ∀ a b c, X ≠ .rng a b c) (hX2 : ∀ b i, X ≠ .view b i) (hws : asWords items = some ws) (h64 : ws.length < 64) (hok : ws.length ≤ 1 ∨ wsOk ws = true)
    (R : Rel G Φ ρ e H s) {A : Around} (ok : OkA Φ d A) (d0 : 0 < d) {E : Value → Shared → Prop} : wpAny G.M A (call (.builtin "sorted") [v]) (fun y s' => ∃ ρ', Rel G Φ ρ' e (H ++ [.list ((sortW ws).map wV)]) s' ∧ Ext Φ ρ H s ρ' (H ++ [.list ((sortW ws).map wV)]) s' ∧ VR G ρ' s'.heap (.ref H.length) y) E s := by
  have hlen : items.length = ws.length := by
    have : ∀ {Xs : List V} {ws : List (List Int)}, asWords Xs = some ws → Xs.length = ws.length := by
      intro Xs
      induction Xs with
      | nil => intro ws h; cases h; rfl
      | cons X r ih =>
        intro ws h
        refine bnd1 h fun a _ h => ?_
        obtain ⟨ws', h1, rfl⟩ := Option.map_eq_some_iff.mp h
        rw [List.length_cons, List.length_cons, ih h1]
    exact this hws
  refine Calls.call_function_entry kind_sorted plain_sorted entry_sorted (args_sorted1 _) ?_
  unfold Builtin.«sorted»
  refine wpAny_bind (m := checkCount "sorted" 1 1 _) (wpAny_pure ?_)
  refine wpAny_bind (collect_of (A := A.in1) hv hi hX hX2 (by (first | lia | omega)) R (ok.1 d0) fun vs h₁ tk hvs hk => ?_)
  refine wpAny_bind (wpAny_newList ?_ (hsz := size_le (by rw [hvs.length]; (first | lia | omega))))
  refine andE2 (R.junk tk hk) fun R₁ X₁ => ?_
  have hoL : (h₁.push (seqObj "list" vs.toArray 0)).get? h₁.objs.size = some (seqObj "list" vs.toArray 0) := Heap.get?_push_size _ rfl
  obtain ⟨-, w2, w3⟩ := asWords_at hws hvs
  have w3' : ∀ i, i < vs.length → WAt (h₁.push (seqObj "list" vs.toArray 0)) (vs.getD i Value.none) (ws.getD i []) := fun i hi => (w3 i hi).keep fun b o _ g => Heap.get?_push_of_some _ g
  have hok' : 1 < vs.length → 0 < (ws.getD 0 []).length ∧ ∀ i, i < vs.length → wOk (ws.getD 0 []).length (ws.getD i []) = true := fun h1 => by
    have hw := hok.resolve_left (by (first | lia | omega))
    cases ws with
    | nil => rw [List.length_nil] at w2; (first | lia | omega)
    | cons a r =>
      unfold wsOk at hw
      rw [Bool.and_eq_true, Bool.and_eq_true] at hw
      refine ⟨of_decide_eq_true hw.1.1, fun i hi => List.all_eq_true.mp hw.2 _ ?_⟩
      have hi' : i < (a :: r).length := w2 ▸ hi
      rw [List.getD_eq_getElem?_getD, List.getElem?_eq_getElem hi']
      exact List.getElem_mem _
  refine wpAny_bind (wpAny_holding (wpAny_call_entry F.slot_list_sort ⟨_, hoL, rfl⟩ F.entry_list_sort (list_sort_words (ws := ws) hoL w3' hok' (by (first | lia | omega)) fun p hp hu => ⟨_, rfl, ?_⟩) (F.args_list_sort_1 _)))
  have es := sortW_of w2.symm hp hu fun h1 => (hok' h1).2
  refine andE2 (sortedHeap_at (p.toList.map fun i => vs.getD i Value.none).toArray hoL) fun h12_0 g2 => ?_
  obtain ⟨e1, g1⟩ := h12_0
  have k2 : ∀ b o, h₁.get? b = some o → (sortedHeap (h₁.push (seqObj "list" vs.toArray 0)) h₁.objs.size vs (p.toList.map fun i => vs.getD i Value.none).toArray).get? b = some o := fun b o q => g2 b o (Nat.ne_of_lt (Heap.lt_size q)) (Heap.get?_push_of_some _ q)
  refine andE3 (R₁.alloc (h' := sortedHeap (h₁.push (seqObj "list" vs.toArray 0)) h₁.objs.size vs (p.toList.map fun i => vs.getD i Value.none).toArray) (x := .list ((sortW ws).map wV)) tk (Nat.le_refl _) g1
    k2 fun _ _ _ => ⟨_, e1, rfl, by
      rw [es, List.map_map]
      exact VRs_map fun i hi => ((w3 i (by have := List.mem_range.mp (hp.perm.mem_iff.mp hi); exact this)).keep fun b o _ g => k2 b o g).vr⟩) fun a b c => ?_
  exact wpAny_pure ⟨_, rfl, _, a, X₁.trans b, VR.ref c⟩
set_option tactic.hygienic true in
theorem oSort2_ok (d0 : 0 < d) : FOpR G d (.builtin "sorted") oSort2 := by
  intro Ys us Φ e H x H' hf ρ s R hP A E ok
  unfold oSort2 at hf
  split at hf
  · rename_i r hr
    cases hf
    exact oSorted_ok d0 Ys us Φ e H x H' hr ρ s R hP A E ok
  · unfold oSortT at hf
    split at hf
    · rename_i i
      obtain ⟨w, rfl, hw⟩ := VRs_one hP
      refine bnd2 hf fun items fz f1 hf => ?_
      refine bnd1 hf fun ws f2 hf => ?_
      split at hf
      · rename_i hc
        cases hf
        exact words_core hw f1 (fun _ _ _ q => by cases q) (fun _ _ q => by cases q) f2 hc.1 hc.2 R ok d0
      · first | exact nn hf | exact nf hf | cases hf
    · first | exact nn hf | exact nf hf | cases hf
end
end Mine
end
section
set_option tactic.hygienic false
open PySem PySem.W PyProof.Rows PySem.Calls PySem.SeqAt Builtin
namespace Mine
section
variable {prog : Program} {w : World} {A : Around} {E : Value → Shared → Prop} {R : Result → Shared → Prop} {s : Shared}
noncomputable abbrev cmp2 (elt : Expr) (x : Str) (px : Pos) (iter : Expr) (y : Str) (py : Pos) (iter2 : Expr) (scope : Scope) (pos : Pos) : Expr := .ListComp elt [⟨.Name x px, iter, [], 0⟩, ⟨.Name y py, iter2, [], 0⟩] scope pos
section
variable {elt iter iter2 : Expr} {x y : Str} {px py pos : Pos} {scope : Scope} {it acc : Value} {env : Env}
theorem turn_out : compTurn (cmp2 elt x px iter y py iter2 scope pos) 0 it acc env = (do
      standAt iter.pos
      match ← pyNext it with
      | none => pure (.done .next)
      | some v =>
        assign (.Name x px) env v
        let x1 ← eval iter2 env
        standAt iter2.pos
        let x2 ← foldedSetIterable iter2 env x1
        let i2 ← holding [x2] (pyIter x2)
        let _ ← runOwn (.compStart (cmp2 elt x px iter y py iter2 scope pos) 1 i2 acc env) env
        again (.compLoop (cmp2 elt x px iter y py iter2 scope pos) 0 it acc env)) := by rfl
theorem turn_in : compTurn (cmp2 elt x px iter y py iter2 scope pos) 1 it acc env = (do
      standAt iter2.pos
      match ← pyNext it with
      | none => pure (.done .next)
      | some v =>
        assign (.Name y py) env v
        (do let _ ← call (.builtin "list.append") [acc, ← eval elt env])
        again (.compLoop (cmp2 elt x px iter y py iter2 scope pos) 1 it acc env)) := by rfl
theorem loop_in (I : Nat → Shared → Prop)
    (turn : ∀ n s, I n s → wpAny (model prog w) A (pyNext it) (fun r s₁ => match r with
      | none => R (.ok .next) s₁
      | some v => wpAny (model prog w) A (assign (.Name y py) env v) (fun _ s₂ => wpAny (model prog w) A (eval elt env) (fun x s₄ =>
              wpAny (model prog w) A (call (.builtin "list.append") [acc, x]) (fun _ s₅ => ∃ m, m < n ∧ I m s₅) (notedBy (model prog w) A env fun e s' => R (.error e) s') s₄) (notedBy (model prog w) A env fun e s' => R (.error e) s') s₂) (notedBy (model prog w) A env fun e s' => R (.error e) s') s₁) (notedBy (model prog w) A env fun e s' => R (.error e) s') s)
    (n : Nat) (h : I n s) : codeAny (model prog w) A (.compLoop (cmp2 elt x px iter y py iter2 scope pos) 1 it acc env) R s := by
  refine codeAny_loop rfl I (fun n s hI => ?_) n h
  show wpAny _ A ((compTurn (cmp2 elt x px iter y py iter2 scope pos) 1 it acc env).onRaise (fun x => do noteFrame x env; theTreesLotGoes x)) _ _ s
  refine wpAny_noted ?_
  rw [turn_in]
  refine wpAny_bind (wpAny_standAt (wpAny_bind (wpAny_mono (turn n s hI) (fun r s₁ h₁ => ?_) fun _ _ h' => h')))
  cases r with
  | none => exact wpAny_pure h₁
  | some v =>
    exact wpAny_bind (wpAny_mono h₁ (fun _ s₂ h₂ => wpAny_bind (wpAny_bind (wpAny_mono h₂ (fun x s₄ h₄ => wpAny_bind (wpAny_mono h₄ (fun _ s₅ h₅ => wpAny_pure (wpAny_pure ⟨rfl, h₅⟩)) fun _ _ h' => h')) fun _ _ h' => h'))) fun _ _ h' => h')
theorem start_in (h0 : codeAny (model prog w) A (.compLoop (cmp2 elt x px iter y py iter2 scope pos) 1 it acc env) R s)
    (h : wpAny (model prog w) A (pyIter it) (fun it' s' => codeAny (model prog w) A (.compLoop (cmp2 elt x px iter y py iter2 scope pos) 1 it' acc env) R s')
      (notedBy (model prog w) A env fun x s' => R (.error x) s') s) :
    codeAny (model prog w) A (.compStart (cmp2 elt x px iter y py iter2 scope pos) 1 it acc env) R s := by
  refine codeAny_of_tree ?_
  show wpAny _ _ ((compStart (cmp2 elt x px iter y py iter2 scope pos) 1 it acc env).onRaise (fun x => do noteFrame x env; standAt theWindowsPlace)) _ _ s
  refine wpAny_notedAt ?_
  unfold compStart
  show wpAny _ _ (ask >>= _) _ _ s
  refine wpAny_bind (wpAny_askSetting (wpAny_ite ?_))
  split
  · first
      | exact wpAny_bind (wpAny_pure (wpAny_pure (And.intro rfl h0)))
      | exact wpAny_pure (And.intro rfl h0)
  · first
      | exact wpAny_bind (wpAny_rule (wpAny_bind (wpAny_standAt (wpAny_bind (wpAny_mono h (fun it' s' h' => wpAny_pure (And.intro rfl h')) fun _ _ x => x)))))
      | (refine wpAny_bind (wpAny_rule ?_); show wpAny _ _ (standAt iter2.pos >>= _) _ _ s; exact wpAny_bind (wpAny_standAt (wpAny_bind (wpAny_mono h (fun it' s' h' => wpAny_pure (And.intro rfl h')) fun _ _ x => x))))
theorem loop_out (hfs : ∀ x, foldedSetIterable iter2 env x = pure x) (I : Nat → Shared → Prop)
    (turn : ∀ n s, I n s → wpAny (model prog w) A (pyNext it) (fun r s₁ => match r with
      | none => R (.ok .next) s₁
      | some v => wpAny (model prog w) A (assign (.Name x px) env v) (fun _ s₂ => wpAny (model prog w) A (eval iter2 env) (fun x1 s₃ => wpAny (model prog w) A (pyIter x1) (fun i2 s₄ =>
              codeAny (model prog w) A (.compStart (cmp2 elt x px iter y py iter2 scope pos) 1 i2 acc env) (fun r s₅ => match r with | .ok _ => ∃ m, m < n ∧ I m s₅ | .error e => cameBackBy (model prog w) A env (notedBy (model prog w) A env fun e s' => R (.error e) s') e s₅) s₄) (notedBy (model prog w) A env fun e s' => R (.error e) s') s₃) (notedBy (model prog w) A env fun e s' => R (.error e) s') s₂) (notedBy (model prog w) A env fun e s' => R (.error e) s') s₁) (notedBy (model prog w) A env fun e s' => R (.error e) s') s)
    (n : Nat) (h : I n s) : codeAny (model prog w) A (.compLoop (cmp2 elt x px iter y py iter2 scope pos) 0 it acc env) R s := by
  refine codeAny_loop rfl I (fun n s hI => ?_) n h
  show wpAny _ A ((compTurn (cmp2 elt x px iter y py iter2 scope pos) 0 it acc env).onRaise (fun x => do noteFrame x env; theTreesLotGoes x)) _ _ s
  refine wpAny_noted ?_
  rw [turn_out]
  refine wpAny_bind (wpAny_standAt (wpAny_bind (wpAny_mono (turn n s hI) (fun r s₁ h₁ => ?_) fun _ _ h' => h')))
  cases r with
  | none => exact wpAny_pure h₁
  | some v =>
    refine wpAny_bind (wpAny_mono h₁ (fun _ s₂ h₂ => wpAny_bind (wpAny_mono h₂ (fun x1 s₃ h₃ => wpAny_bind (wpAny_standAt (wpAny_bind (wpAny_of_eq (hfs x1) (wpAny_bind (wpAny_holding (wpAny_mono h₃ (fun i2 s₄ h₄ => wpAny_bind (wpAny_runOwn ?_)) fun _ _ h' => h'))))))) fun _ _ h' => h')) fun _ _ h' => h')
    rw [Around.mark_none]
    refine codeAny_mono h₄ fun r s' hr => ?_
    cases r with
    | error e => exact hr
    | ok f => exact wpAny_pure ⟨rfl, hr⟩
end
end
end Mine
end
section
set_option tactic.hygienic false
open PySem PySem.W PyProof.Rows PySem.Calls PySem.SeqAt Builtin
namespace Mine
noncomputable abbrev PD (Φ : Frm) (D : Addr) : Frm := { Φ with priv := D :: Φ.priv }
section
variable {G : Gl} {Φ : Frm} {d : Nat} {ρ ρ' : Rho} {e e' : AEnv} {H H' : AHeap} {s s' s₀ : Shared} {D : Addr}
theorem Rel.addP (R : Rel G Φ ρ e H s) (hb : G.hb.get? D = none) (hρ : ∀ i, ρ i ≠ some D) (ho : ∃ o, s.heap.get? D = some o ∧ ¬ Imm o) : Rel G (PD Φ D) ρ e H s :=
  ⟨R.fr, R.hp, R.dom, R.inj, R.lo, fun p hp => (List.mem_cons.mp hp).elim (fun q => q ▸ ⟨hb, hρ, ho⟩) (R.pr p), R.base, List.mem_cons_of_mem _ R.locp, R.stat, R.fas⟩
theorem Rel.dropP (R : Rel G (PD Φ D) ρ e H s) (hl : Φ.env.locals ∈ Φ.priv) : Rel G Φ ρ e H s :=
  ⟨R.fr, R.hp, R.dom, R.inj, R.lo, fun p hp => R.pr p (List.mem_cons_of_mem _ hp), R.base, hl, R.stat, R.fas⟩
theorem Ext.addP (X : Ext Φ ρ H s ρ' H' s') : Ext (PD Φ D) ρ H s ρ' H' s' :=
  ⟨X.rle, X.new, X.rnew, fun b o a p => X.keep b o a fun q => p (List.mem_cons_of_mem _ q), fun b o a p => X.keepF b o a fun q => p (List.mem_cons_of_mem _ q), X.ex, X.same⟩
theorem Ext.priv {h' : Heap} (X : Ext (PD Φ D) ρ H s ρ' H' s') (tk : Nat) (hD : ∃ o, h'.get? D = some o) (hk : ∀ b o, b ≠ D → s'.heap.get? b = some o → h'.get? b = some o) : Ext (PD Φ D) ρ H s ρ' H' { s' with heap := h', toks := tk } :=
  ⟨X.rle, X.new, X.rnew, fun b o a p f g => hk b o (fun q => p (q ▸ List.mem_cons_self)) (X.keep b o a p f g), fun b o a p g => by
    obtain ⟨sl, q⟩ := X.keepF b o a p g
    exact ⟨sl, hk b _ (fun z => p (z ▸ List.mem_cons_self)) q⟩, fun b o g => by
    by_cases q : b = D
    · exact q ▸ hD
    · obtain ⟨o', z⟩ := X.ex b o g
      exact ⟨o', hk b o' q z⟩, by rw [X.same]⟩
theorem list_obj (its : Array Value) (n : Nat) : ¬ Imm ({ cls := .type "list", data := .seq its n } : Obj) ∧ ∀ vo, ({ cls := .type "list", data := .seq its n } : Obj).data ≠ .cell vo := ⟨fun im => absurd (imm_cls im rfl) (by decide), fun vo q => by cases q⟩
theorem in_loop (fo : FOk Φ) {x y : Str} {px py pos : Pos} {elt iter iter2 : Expr} {scope : Scope} {g : PM V} (hs : Φ.slot.lookup y = some 1) (hst : Sto Φ y) (hE : SndE G Φ d (eval elt Φ.env) g) {items vs us0 : List V} (hf : mCompI 1 g items e H = some (vs, e', H')) (hlen : us0.length + items.length ≤ 10000)
    (R : Rel G Φ ρ e H s₀) {A : Around} (ok : OkA Φ d A) {E : Value → Shared → Prop} {I : Addr} {h₁ : Heap} {tk₁ : Nat} (it : ItOk G (PD Φ D) ρ H A items s₀ I h₁) (hk₁ : ∀ b o, s₀.heap.get? b = some o → h₁.get? b = some o)
    (hDρ : ∀ q, ρ q ≠ some D) (hDp : D ∉ Φ.priv) (hDf : D ∉ Φ.fa) (hDb : G.hb.get? D = none) (gD : ∃ its n, s₀.heap.get? D = some { cls := .type "list", data := .seq its n } ∧ VRs G ρ s₀.heap us0 its.toList) {RR : Result → Shared → Prop}
    (k : ∀ ρ' s', Rel G Φ ρ' e' H' s' → Ext (PD Φ D) ρ H s₀ ρ' H' s' → (∀ q, ρ' q ≠ some D) → (∃ its n, s'.heap.get? D = some { cls := .type "list", data := .seq its n } ∧ VRs G ρ' s'.heap (us0 ++ vs) its.toList) → RR (.ok .next) s') :
    codeAny G.M A (.compLoop (cmp2 elt x px iter y py iter2 scope pos) 1 (.ref I) (.ref D) Φ.env) RR { s₀ with heap := h₁, toks := tk₁ } := by
  refine exE4 it fun fp wr P St h2 => andE7 h2 fun W st0 hwr hIn hfp hobj hP => ?_
  refine exE2 gD fun its0 n0 h3 => andE2 h3 fun gD0 hus0 => ?_
  have RD : Rel G (PD Φ D) ρ e H s₀ := R.addP hDb hDρ ⟨_, gD0, (list_obj _ _).1⟩
  refine andE2 (R.junk tk₁ hk₁) fun R₁ X₁ => ?_
  have hIpriv : I ∉ Φ.priv := fun hp => by obtain ⟨o, g⟩ := R.priv_at hp; rw [hIn] at g; cases g
  have hIf : I ∉ Φ.fa := R.freshF hIn
  have hIb : G.hb.get? I = none := by
    cases q : G.hb.get? I with
    | none => rfl
    | some o => have := R.base I o q; rw [hIn] at this; cases this
  have hI0 : ∀ q, ρ q ≠ some I := fun q hq => by obtain ⟨o, g⟩ := R.rho_at hq; rw [hIn] at g; cases g
  have hDI : D ≠ I := fun q => by rw [q, hIn] at gD0; cases gD0
  have hIpD : I ∉ (PD Φ D).priv := fun h => (List.mem_cons.mp h).elim (fun q => hDI q.symm) hIpriv
  refine named (fun (k : Nat) (s' : Shared) => ∃ i ρ' e₁ H₁ us ws, i ≤ items.length ∧ k = items.length + 1 - i ∧ Rel G Φ ρ' e₁ H₁ s' ∧ Ext (PD Φ D) ρ H s₀ ρ' H₁ s' ∧ (∀ q, ρ' q ≠ some I) ∧ (∀ q, ρ' q ≠ some D) ∧ St i s'.heap ∧ mCompI 1 g (items.drop i) e₁ H₁ = some (ws, e', H') ∧ us ++ ws = us0 ++ vs ∧ us.length ≤ us0.length + i ∧
      ∃ its n, s'.heap.get? D = some { cls := .type "list", data := .seq its n } ∧ VRs G ρ' s'.heap us its.toList) fun Inv hInv => ?_
  have fin := fun k s' => Eq.mpr (congrFun (congrFun hInv k) s')
  refine loop_in Inv ?_ (items.length + 1) (fin _ _ ⟨0, ρ, e, H, us0, vs, Nat.zero_le _, rfl, R₁, X₁.addP, hI0, hDρ, st0, hf, rfl, Nat.le_refl _, its0, n0, hk₁ _ _ gD0, X₁.vrs R hus0⟩)
  intro k' s' hi0
  refine hideW fun K hK => ?_
  obtain ⟨i, ρ', e₁, H₁, us, ws, hi, rfl, R', X', hI', hD', sti, hm, huw, hul, its, n, gD, hus⟩ := Eq.mp (congrFun (congrFun hInv k') s') hi0
  rcases Nat.lt_or_ge i items.length with hlt | hge
  · refine W.item i s' _ _ hlt sti fun v h' tk hPv st' hk' => ?_
    have hk2 : ∀ b o, b ≠ I → s'.heap.get? b = some o → h'.get? b = some o := fun b o hbI g => hk' b o (fun hw => hbI (hwr b hw)) g
    refine andE2 (R'.other tk hI' hIpriv hIf hIb (fun o g => by obtain ⟨o', g', q⟩ := hobj i _ sti; rw [g] at g'; cases g'; exact q) hk2) fun R2 him => ?_
    have X2 := X'.other tk hIn hk2
    have gD2 := hk2 D _ hDI gD
    have hX : items[i]? = some items[i] := List.getElem?_eq_getElem hlt
    have hv : VR G ρ' h' items[i] v := VR.mono (fun _ _ q => q) him _ _ (X'.vr RD (hP i v _ hX hPv))
    rw [List.drop_eq_getElem_cons hlt] at hm
    refine bnd3 hm fun u e₂ H₂ f1 hm => ?_
    refine bnd3 hm fun yv e₃ H₃ f2 hm => ?_
    refine bnd3 hm fun zs e₄ H₄ f3 hm => ?_
    refine andE2 (cons3 hm f3) fun hws f3 => ?_
    refine hK _ _ (hideW fun K2 hK2 => ?_)
    refine wpAny_assign_Name (store_var fo hs hst f1 R2 hv fun s₂ R₂ X₂ => hK2 _ _ ?_)
    refine hE.run f2 R₂ ok fun yw ρ₃ s₃ R₃ X₃ v₃ => ?_
    refine hide fun PQ hpq => ?_
    have X23 := X₂.trans X₃
    refine exE1 (hobj _ _ st') fun oI h8 => andE2 h8 fun gI _ => ?_
    have hI3 := X23.nref hI' gI
    have hD3 := X23.nref hD' gD2
    have gD3 : s₃.heap.get? D = some { cls := .type "list", data := .seq its n } := X23.keep D _ (fun ⟨q, _, hq, _⟩ => hD' q hq) hDp hDf gD2
    have hfp3 := fp_keep hfp X' X23.addP hI' hIpD hIf
    have hDfp : ∀ c ∈ fp, c ≠ D := fun c hc q => by
      rcases hfp c hc with h | ⟨_, _, hc3, _⟩
      · exact hDI (q ▸ h)
      · exact hc3 (q ▸ List.mem_cons_self)
    have hus3 : VRs G ρ₃ s₃.heap us its.toList := X23.vrs R2 (VRs.mono (fun _ _ q => q) him _ _ hus)
    have hsz : its.size = us.length := by have := hus3.length; simpa using this
    refine hpq ?_
    refine call_meets F.slot_list_append ⟨_, gD3, rfl⟩ F.entry_list_append (F.args_list_append_2 _ _) (list_append D its n yw (by rw [hsz]; exact size_le (by (first | lia | omega)))) ⟨gD3, ?_⟩
    have hk5 : ∀ b o, b ≠ D → s₃.heap.get? b = some o → (s₃.heap.update D (Obj.mapSeq fun xs => xs.push yw)).get? b = some o := fun b o hb q => (Heap.get?_update_other _ _ (Ne.symm hb)).trans q
    have gD5 := Heap.get?_update_self (Obj.mapSeq fun xs => xs.push yw) gD3 rfl
    refine andE2 (R₃.other (h' := s₃.heap.update D (Obj.mapSeq fun xs => xs.push yw)) s₃.toks hD3 hDp hDf hDb (fun o g => by rw [gD3] at g; cases g; exact list_obj _ _) hk5) fun R5 him5 => ?_
    have X5 := (X2.trans X23.addP).priv s₃.toks ⟨_, gD5⟩ hk5
    refine ⟨items.length + 1 - (i + 1), by (first | lia | omega), fin _ _ ⟨i + 1, ρ₃, e₃, H₃, us ++ [yv], zs, hlt, rfl, R5, X5, hI3, hD3, W.frame _ _ _ (W.frame _ _ _ st' hfp3) fun c hc o g => hk5 c o (hDfp c hc) g, f3, by rw [hws] at huw; simpa using huw, by simp; (first | lia | omega), its.push yw, _, gD5, ?_⟩⟩
    simpa using VRs_snoc (VRs.mono (fun _ _ q => q) him5 _ _ hus3) (VR.mono (fun _ _ q => q) him5 _ _ v₃)
  · have hie : i = items.length := Nat.le_antisymm hi hge
    refine W.done s' _ _ (hie ▸ sti) fun h' tk hk' => ?_
    have hk2 : ∀ b o, b ≠ I → s'.heap.get? b = some o → h'.get? b = some o := fun b o hbI g => hk' b o (fun hw => hbI (hwr b hw)) g
    refine andE2 (R'.other tk hI' hIpriv hIf hIb (fun o g => by obtain ⟨o', g', q⟩ := hobj _ _ sti; rw [g] at g'; cases g'; exact q) hk2) fun R2 him => ?_
    rw [List.drop_eq_nil_of_le hge] at hm
    refine andE3 (end3 hm R2 (X'.other tk hIn hk2)) fun hw R3 X3 => ?_
    rw [hw, List.append_nil] at huw
    refine hK _ _ ?_
    rw [← huw] at k
    exact k ρ' _ R3 X3 hD' ⟨its, n, hk2 D _ hDI gD, VRs.mono (fun _ _ q => q) him _ _ hus⟩
end
end Mine
end
section
set_option tactic.hygienic false
open PySem PySem.W PyProof.Rows PySem.Calls PySem.SeqAt Builtin
namespace Mine
section
variable {G : Gl} {Φ : Frm} {d : Nat} {ρ ρ' ρ'' : Rho} {e e' : AEnv} {H H' H'' : AHeap} {s s' s'' s₀ : Shared} {D : Addr}
theorem Ext.transD (x : Ext Φ ρ H s ρ' H' s') (y : Ext (PD Φ D) ρ' H' s' ρ'' H'' s'') (hD : s.heap.get? D = none) : Ext Φ ρ H s ρ'' H'' s'' where
  rle := fun i a e => y.rle i a (x.rle i a e)
  new := fun b h => (y.new b h).elim (x.new b) fun h => .inr (x.gone h)
  rnew := fun i a h => (y.rnew i a h).elim (x.rnew i a) fun h => .inr (x.gone h)
  keep := fun b o hn hp hf e => y.keep b o (fun h => (x.new b h).elim hn fun h => by rw [h] at e; cases e) (fun q => (List.mem_cons.mp q).elim (fun z => by rw [z, hD] at e; cases e) hp) hf (x.keep b o hn hp hf e)
  keepF := fun b o hn hp e => by
    obtain ⟨sl, g⟩ := x.keepF b o hn hp e
    obtain ⟨sl', g'⟩ := y.keepF b _ (fun h => (x.new b h).elim hn fun h => by rw [h] at e; cases e) (fun q => (List.mem_cons.mp q).elim (fun z => by rw [z, hD] at e; cases e) hp) g
    exact ⟨sl', g'⟩
  ex := fun b o h => by obtain ⟨o', h'⟩ := x.ex b o h; exact y.ex b o' h'
  same := by rw [y.same, x.same]
theorem out_loop {Φc : Frm} (fo : FOk Φc) {x y : Str} {px py pos : Pos} {elt iter iter2 : Expr} {scope : Scope} {f2 g : PM V} (hs0 : Φc.slot.lookup x = some 0) (hst0 : Sto Φc x) (hs1 : Φc.slot.lookup y = some 1) (hst1 : Sto Φc y)
    (hF : SndE G Φc d (eval iter2 Φc.env) f2) (hE : SndE G Φc d (eval elt Φc.env) g) (hfs2 : ∀ x, foldedSetIterable iter2 Φc.env x = pure x) (d0 : 0 < d) {items vs : List V} (hf : mComp2 f2 g items e H = some (vs, e', H')) (hlen : items.length ≤ 5000) (hvl : vs.length ≤ 5000)
    {e₀ : AEnv} (R₀ : Rel G Φ ρ e₀ H s₀) (hfr : Φc.fr = Φ.fr) {A : Around} (ok : OkA Φ d A) {E : Value → Shared → Prop} {I : Addr} {h₁ : Heap} (it : ItOk G Φ ρ H A items s₀ I h₁) {s₁ : Shared} (R₁ : Rel G Φc ρ e H s₁) (X₁ : Ext Φc ρ H s₀ ρ H s₁)
    (hk₁ : ∀ b o, h₁.get? b = some o → s₁.heap.get? b = some o) (hpc : ∀ p ∈ Φc.priv, s₀.heap.get? p = none) (hIc : I ∉ Φc.priv) (hDc : D ∉ Φc.priv) (hD0 : s₀.heap.get? D = none) (hDI : D ≠ I) (hDh : h₁.get? D = none)
    (hacc : ∃ n, s₁.heap.get? D = some { cls := .type "list", data := .seq #[] n }) {RR : Result → Shared → Prop}
    (k : ∀ ρ' s', Rel G Φc ρ' e' H' s' → Ext Φc ρ H s₀ ρ' H' s' → (∀ q, ρ' q ≠ some D) → (∃ its n, s'.heap.get? D = some { cls := .type "list", data := .seq its n } ∧ VRs G ρ' s'.heap vs its.toList) → RR (.ok .next) s') :
    codeAny G.M A (.compLoop (cmp2 elt x px iter y py iter2 scope pos) 0 (.ref I) (.ref D) Φc.env) RR s₁ := by
  refine exE4 it fun fp wr P St h2 => andE7 h2 fun W st0 hwr hIn hfp hobj hP => ?_
  have hIf : I ∉ Φc.fa := fa_eq hfr ▸ R₀.freshF hIn
  have hDf : D ∉ Φc.fa := fa_eq hfr ▸ R₀.freshF hD0
  replace ok := ok.of_fr hfr
  have hbn : ∀ a, s₀.heap.get? a = none → G.hb.get? a = none := fun a ha => by
    cases q : G.hb.get? a with
    | none => rfl
    | some o => rw [R₀.base a o q] at ha; cases ha
  have hρn : ∀ a, s₀.heap.get? a = none → ∀ q, ρ q ≠ some a := fun a ha q hq => by obtain ⟨o, gg⟩ := R₀.rho_at hq; rw [ha] at gg; cases gg
  have hDfp : ∀ c ∈ fp, c ≠ D := fun c hm q => by
    rcases hfp c hm with z | ⟨⟨o, z⟩, _⟩
    · exact hDI (q ▸ z)
    · rw [q, hD0] at z; cases z
  have hIpD : I ∉ (PD Φc D).priv := fun h => (List.mem_cons.mp h).elim (fun q => hDI q.symm) hIc
  replace hfp := FpOk.of hfp hpc fun b h => fa_eq hfr ▸ h
  have hfpD : FpOk (PD Φc D) ρ H s₀ fp I := fun c hc => (hfp c hc).imp id fun ⟨a, b, p, f⟩ => ⟨a, b, fun q => (List.mem_cons.mp q).elim (hDfp c hc) p, f⟩
  refine named (fun (k : Nat) (s' : Shared) => ∃ i ρ' e₁ H₁ us ws, i ≤ items.length ∧ k = items.length + 1 - i ∧ Rel G Φc ρ' e₁ H₁ s' ∧ Ext Φc ρ H s₀ ρ' H₁ s' ∧ (∀ q, ρ' q ≠ some I) ∧ (∀ q, ρ' q ≠ some D) ∧ St i s'.heap ∧ mComp2 f2 g (items.drop i) e₁ H₁ = some (ws, e', H') ∧ us ++ ws = vs ∧
      ∃ its n, s'.heap.get? D = some { cls := .type "list", data := .seq its n } ∧ VRs G ρ' s'.heap us its.toList) fun Inv hInv => ?_
  have fin := fun k s' => Eq.mpr (congrFun (congrFun hInv k) s')
  obtain ⟨n0, hn0⟩ := hacc
  refine loop_out hfs2 Inv ?_ (items.length + 1) (fin _ _ ⟨0, ρ, e, H, [], vs, Nat.zero_le _, rfl, R₁, X₁, hρn I hIn, hρn D hD0, W.frame _ _ _ st0 fun c _ o g => hk₁ c o g, hf, rfl, #[], n0, hn0, VRs.nil⟩)
  intro k' s' hi0
  refine hideW fun K hK => ?_
  refine exE6 (Eq.mp (congrFun (congrFun hInv k') s') hi0) fun i ρ' e₁ H₁ us ws h4 => andE10 h4 fun hi e4_1 R' X' hI' hD' sti hm huw h4_9 => ?_
  subst e4_1
  obtain ⟨its, n, gD, hus⟩ := h4_9
  rcases Nat.lt_or_ge i items.length with hlt | hge
  · refine W.item i s' _ _ hlt sti fun v h' tk hPv st' hk' => ?_
    have hk2 : ∀ b o, b ≠ I → s'.heap.get? b = some o → h'.get? b = some o := fun b o hbI g => hk' b o (fun hw => hbI (hwr b hw)) g
    refine andE2 (R'.other tk hI' hIc hIf (hbn I hIn) (fun o g => by obtain ⟨o', g', q⟩ := hobj i _ sti; rw [g] at g'; cases g'; exact q) hk2) fun R2 him => ?_
    have X2 := X'.other tk hIn hk2
    have gD2 := hk2 D _ hDI gD
    have hX : items[i]? = some items[i] := List.getElem?_eq_getElem hlt
    have hv : VR G ρ' h' items[i] v := VR.mono X2.rle (fun a o im g => X2.imm' R₀ hfr hpc a o im g) _ _ (hP i v _ hX hPv)
    rw [List.drop_eq_getElem_cons hlt] at hm
    refine bnd3 hm fun u e₂ H₂ f1 hm => ?_
    refine bnd3 hm fun xv e₃ H₃ f3 hm => ?_
    refine bnd2 hm fun items2 fz f4 hm => ?_
    split at hm
    · rename_i hl2
      refine bnd3 hm fun zs e₄ H₄ f5 hm => ?_
      refine bnd3 hm fun rs e₅ H₅ f6 hm => ?_
      refine andE2 (cons3 hm f6) fun hws f6 => ?_
      refine hK _ _ (hideW fun K2 hK2 => ?_)
      refine wpAny_assign_Name (store_var fo hs0 hst0 f1 R2 hv fun s₂ R₂ X₂ => hK2 _ _ ?_)
      refine hF.run f3 R₂ ok fun xw ρ₃ s₃ R₃ X₃ v₃ => ?_
      refine hide fun PQ hpq => ?_
      have X23 := X₂.trans X₃
      refine exE1 (hobj _ _ st') fun oI h7 => andE2 h7 fun gI _ => ?_
      have hI3 := X23.nref hI' gI
      have hD3 := X23.nref hD' gD2
      have hfp3 := fp_keep hfp X' X23 hI' hIc hIf
      have gD3 : s₃.heap.get? D = some { cls := .type "list", data := .seq its n } := X23.keep D _ (fun ⟨q, _, hq, _⟩ => hD' q hq) hDc hDf gD2
      have RD3 := R₃.addP (hbn D hD0) hD3 ⟨_, gD3, (list_obj _ _).1⟩
      have hus3 : VRs G ρ₃ s₃.heap us its.toList := X23.vrs R2 (VRs.mono (fun _ _ q => q) him _ _ hus)
      have hul : us.length ≤ 5000 := by rw [← huw, List.length_append] at hvl; (first | lia | omega)
      refine hpq ?_
      refine iter_of v₃ f4 RD3 (ok.1 d0) fun I2 h4 it2 hk4 => ?_
      have it2' := it2
      obtain ⟨fp2, wr2, P2, St2, W2, st2, -, hIn2, -, -, -⟩ := it2'
      have L : codeAny G.M A (.compLoop (cmp2 elt x px iter y py iter2 scope pos) 1 (.ref I2) (.ref D) Φc.env) (fun r s₅ => match r with | .ok _ => ∃ m, m < items.length + 1 - i ∧ Inv m s₅ | .error e => cameBackBy G.M A Φc.env (notedBy G.M A Φc.env fun e s' => RR (.error e) s') e s₅) { s₃ with heap := h4, toks := s₃.toks } := by
        refine in_loop (E := E) fo hs1 hst1 hE f5 (us0 := us) (by (first | lia | omega)) (R₃.frz fz) ok it2 hk4 hD3 hDc hDf (hbn D hD0) ⟨its, n, gD3, hus3⟩ fun ρ₄ s₄ R₄ X₄ hD4 hd4 => ?_
        refine exE2 hd4 fun its4 n4 h9 => andE2 h9 fun gD4 hv4 => ?_
        refine andE2 (RD3.unfrz fz (R₄.addP (hbn D hD0) hD4 ⟨_, gD4, (list_obj _ _).1⟩) X₄) fun R5 X5 => ?_
        obtain ⟨o4, gI4⟩ := X23.ex I _ gI
        have hI4 := X5.nref hI3 gI4
        have hfp5 := fun c hc o g => fp_keep hfpD (X2.trans X23).addP X5 hI3 hIpD hIf c hc o (hfp3 c hc o g)
        exact ⟨items.length + 1 - (i + 1), by (first | lia | omega), fin _ _ ⟨i + 1, ρ₄, e₄, _, us ++ zs, rs, hlt, rfl, R5.dropP R₁.locp, (X2.trans X23).transD X5 hD0, hI4, hD4, W.frame _ _ _ st' hfp5, f6, by rw [List.append_assoc]; rw [← hws]; exact huw, its4, n4, gD4, hv4⟩⟩
      exact start_in L (W2.self 0 _ _ _ st2 L)
    · first | exact nn hm | exact nf hm | cases hm
  · have hie : i = items.length := Nat.le_antisymm hi hge
    refine W.done s' _ _ (hie ▸ sti) fun h' tk hk' => ?_
    have hk2 : ∀ b o, b ≠ I → s'.heap.get? b = some o → h'.get? b = some o := fun b o hbI g => hk' b o (fun hw => hbI (hwr b hw)) g
    refine andE2 (R'.other tk hI' hIc hIf (hbn I hIn) (fun o g => by obtain ⟨o', g', q⟩ := hobj _ _ sti; rw [g] at g'; cases g'; exact q) hk2) fun R2 him => ?_
    rw [List.drop_eq_nil_of_le hge] at hm
    refine andE3 (end3 hm R2 (X'.other tk hIn hk2)) fun hw R3 X3 => ?_
    rw [hw, List.append_nil] at huw
    refine hK _ _ ?_
    rw [← huw] at k
    exact k ρ' _ R3 X3 hD' ⟨its, n, hk2 D _ hDI gD, VRs.mono (fun _ _ q => q) him _ _ hus⟩
end
end Mine
end
section
set_option tactic.hygienic false
open PySem PySem.W PyProof.Rows PySem.Calls PySem.SeqAt Builtin
namespace Mine
section
variable {G : Gl} {Φ : Frm} {d : Nat} {ρ ρ' ρ₀ : Rho} {e e' : AEnv} {H H' H₀ : AHeap} {s s' s₀ : Shared}
theorem comp2_block (fo : FOk Φ) (fg : FOkG Φ) {scope : Scope} {x y : Str} {caps : List (Str × Nat)} (C : CompOk Φ scope [x, y] caps) {px py pos : Pos} {elt iter iter2 : Expr} {k2 g : PM V}
    (hxy : x ≠ y) (hfs2 : ∀ L x, foldedSetIterable iter2 (compEnv Φ scope L) x = pure x) (hF : ∀ L, FOk (compFrm Φ scope [x, y] caps L) → FOkG (compFrm Φ scope [x, y] caps L) → SndE G (compFrm Φ scope [x, y] caps L) d (eval iter2 (compEnv Φ scope L)) k2)
    (hE : ∀ L, FOk (compFrm Φ scope [x, y] caps L) → FOkG (compFrm Φ scope [x, y] caps L) → SndE G (compFrm Φ scope [x, y] caps L) d (eval elt (compEnv Φ scope L)) g)
    (R : Rel G Φ ρ e H s) {X : V} {xv : Value} (hv : VR G ρ s.heap X xv) {items : List V} {fz : Option Nat} (f2 : vItems X H = some (items, fz)) (hlen : items.length ≤ 5000) {vs : List V} (hvl : vs.length ≤ 5000) {e₂ : AEnv} {H₂ : AHeap}
    (f3 : mComp2 k2 g items (capEnv [x, y] caps e) (frzAt fz H) = some (vs, e₂, H₂)) {A : Around} (ok : OkA Φ d A) (d0 : 0 < d) {E : Value → Shared → Prop} {RR : Value → Addr → Result → Shared → Prop}
    (k : ∀ D C ρ' s' m, Rel G Φ ρ' e (unfrz fz H H₂ ++ [.list vs]) s' → Ext Φ ρ H s ρ' (unfrz fz H H₂ ++ [.list vs]) s' → VR G ρ' s'.heap (.ref (unfrz fz H H₂).length) (.ref D) → s'.heap.Ns C m → (∀ i, ρ' i ≠ some C) → C ∉ Φ.priv → G.hb.get? C = none → s.heap.get? C = none → RR (.ref D) C (.ok .next) s') :
    wpAny G.M A (pyIter xv) (fun it s₂ => wpAny G.M A (newList []) (fun acc s₃ => wpAny G.M A (newFunctionEnv scope Φ.env.globals (cloOf Φ.env.cells scope.names []) [] Φ.env.qual none .none (some Φ.env)) (fun cenv s₄ =>
      codeAny G.M A (.compStart (cmp2 elt x px iter y py iter2 scope pos) 0 it acc { cenv with scope := relabel scope Φ.env }) (RR acc cenv.locals) s₄) E s₃) E s₂) E s := by
  refine iter_of hv f2 R (ok.1 d0) fun I h₁ it hk => ?_
  refine wpAny_newObj_type ?_
  refine env_alloc ?_
  rw [List.forIn_nil]
  refine wpAny_pure ?_
  dsimp only
  generalize hD : h₁.objs.size = D
  generalize hh₂ : h₁.push { cls := .type "list", dict := none, data := .seq ([] : List Value).toArray } = h₂
  have hDsz : h₂.objs.size = D + 1 := by rw [← hh₂, Heap.size_push, hD]
  have k12 : ∀ b o, h₁.get? b = some o → h₂.get? b = some o := fun b o q => by rw [← hh₂]; exact Heap.get?_push_of_some _ q
  have hDnone : h₁.get? D = none := by
    cases q : h₁.get? D with
    | none => rfl
    | some o => exact absurd (Heap.lt_size q) (by rw [hD]; exact Nat.lt_irrefl _)
  have gD2 : h₂.get? D = some { cls := .type "list", data := .seq #[] } := by rw [← hh₂, ← hD]; exact Heap.get?_push_size _ rfl
  have Rf := R.frz fz
  refine andE3 (comp_enter (T := .type "dict") C Rf (fun b o q => k12 b o (hk b o q)) s.toks) fun R₄ k24 hprv => ?_
  generalize hL : h₂.objs.size = L at R₄ hprv
  have hLD : L = D + 1 := by rw [← hL]; exact hDsz
  have hsL : ∀ b o, s.heap.get? b = some o → b < L := fun b o q => by
    have h1 := Heap.lt_size (hk b o q)
    rw [hD] at h1
    rw [hLD]
    exact Nat.lt_succ_of_lt h1
  have hs0 : ∀ a, h₁.get? a = none → s.heap.get? a = none := fun a ha => by
    cases q : s.heap.get? a with
    | none => rfl
    | some o => rw [hk a o q] at ha; cases ha
  have hprn : ∀ p ∈ (compFrm Φ scope [x, y] caps L).priv, h₁.get? p = none := fun p hp => by
    cases q : h₁.get? p with
    | none => rfl
    | some o => exact absurd (Heap.lt_size q) (by rw [hD]; have := hprv p hp; exact Nat.not_lt.mpr (Nat.le_trans (by rw [hLD]; exact Nat.le_succ D) this))
  have foc : FOk (compFrm Φ scope [x, y] caps L) := comp_fok C R fo hsL
  have hpc : ∀ p ∈ (compFrm Φ scope [x, y] caps L).priv, s.heap.get? p = none := fun p hp => hs0 p (hprn p hp)
  have hDI : D ≠ I := fun q => by obtain ⟨o, ho⟩ := it.fresh.2; rw [← q, hDnone] at ho; cases ho
  have hDc : D ∉ (compFrm Φ scope [x, y] caps L).priv := fun hp => by have := hprv D hp; rw [hLD] at this; exact absurd this (Nat.not_succ_le_self D)
  have hIc : I ∉ (compFrm Φ scope [x, y] caps L).priv := fun hp => by obtain ⟨o, ho⟩ := it.fresh.2; rw [hprn I hp] at ho; cases ho
  have hx0 : (compFrm Φ scope [x, y] caps L).slot.lookup x = some 0 := by
    show ((x, 0) :: (y, 1) :: _).lookup x = some 0
    simp
  have hy0 : (compFrm Φ scope [x, y] caps L).slot.lookup y = some 1 := by
    show ((x, 0) :: (y, 1) :: _).lookup y = some 1
    have : (y == x) = false := beq_eq_false_iff_ne.mpr (Ne.symm hxy)
    simp [List.lookup, this]
  have X₄ : Ext (compFrm Φ scope [x, y] caps L) ρ (frzAt fz H) s ρ (frzAt fz H) { s with heap := pushCells (h₂.push { cls := .type "dict", data := .dict #[] }) scope.names, toks := s.toks } :=
    ⟨fun _ _ q => q, fun _ h => .inl h, fun _ _ h => .inl h, fun b o _ _ _ q => k24 b o (k12 b o (hk b o q)), fun b o _ _ q => ⟨o.slots, k24 b o (k12 b o (hk b o q))⟩, fun b o q => ⟨o, k24 b o (k12 b o (hk b o q))⟩, rfl⟩
  have loop : codeAny G.M A (.compLoop (cmp2 elt x px iter y py iter2 scope pos) 0 (.ref I) (.ref D) (compFrm Φ scope [x, y] caps L).env) (RR (.ref D) L)
      { s with heap := pushCells (h₂.push { cls := .type "dict", data := .dict #[] }) scope.names, toks := s.toks } := by
    refine out_loop foc hx0 (comp_sto C List.mem_cons_self) hy0 (comp_sto C (List.mem_cons_of_mem _ List.mem_cons_self)) (hF L foc (comp_fog fg)) (hE L foc (comp_fog fg)) (hfs2 L) d0 f3 hlen hvl Rf rfl ok (E := E) it R₄ X₄ (fun b o q => k24 b o (k12 b o q)) hpc hIc hDc (hs0 D hDnone) hDI hDnone ⟨_, k24 D _ gD2⟩ fun ρ' s' R' X' hD' hl => ?_
    refine exE2 hl fun its n h1 => andE2 h1 fun gD hvs => ?_
    have hLp : L ∈ (compFrm Φ scope [x, y] caps L).priv := List.mem_cons_self
    refine andE2 (Rf.back (s₁ := s) (fun _ _ q => q) rfl hpc (fun _ hf => .inl hf) R' X') fun Rb Xb => ?_
    obtain ⟨Ru, Xu⟩ := R.unfrz fz Rb Xb
    have hDp : D ∉ Φ.priv := fun hp => by obtain ⟨o, gg⟩ := R.priv_at hp; rw [hs0 D hDnone] at gg; cases gg
    have hb0 : ∀ a, s.heap.get? a = none → G.hb.get? a = none := fun a ha => by
      cases q : G.hb.get? a with
      | none => rfl
      | some o => rw [R.base a o q] at ha; cases ha
    have hmod : (D == sysModules) = false := by
      obtain ⟨o, q⟩ := R.stat
      have h1 := Heap.lt_size (hk _ _ (R.base _ _ q))
      rw [hD] at h1
      have h2 : sysModules < cStatics := by decide
      exact beq_false_of_ne (Nat.ne_of_gt (Nat.lt_trans h2 h1))
    refine andE3 (Ru.adopt (x := .list vs) gD hD' hDp (R.freshF (hs0 D hDnone)) (hb0 D (hs0 D hDnone)) hmod ⟨its, n, rfl, hvs⟩) fun Ra ha _ => ?_
    have Xa := Xu.adopt Ru (x := .list vs) (hs0 D hDnone)
    obtain ⟨m, hns, _⟩ := R'.fr
    refine k D L _ s' m Ra Xa (VR.ref ha) hns (fun i hi => ?_) (fun hp => ?_) (hb0 L (hpc L hLp)) (hpc L hLp)
    · by_cases h1 : i = (Mine.unfrz fz H H₂).length
      · simp only [rhoAdd, h1, if_true] at hi; cases hi; exact hDc hLp
      · simp only [rhoAdd, h1, if_false] at hi; exact (R'.pr L hLp).2.1 i hi
    · obtain ⟨o, gg⟩ := R.priv_at hp; rw [hpc L hLp] at gg; cases gg
  refine exE4 it fun fp wr P St h7 => andE7 h7 fun W st0 hwr hIn hfp hobj hP => ?_
  exact codeAny_compStart_list loop (W.self 0 _ _ _ (W.frame _ _ _ st0 fun c _ o q => k24 c o (k12 c o q)) loop)
theorem snd_comp2 (fo : FOk Φ) (fg : FOkG Φ) {scope : Scope} {x y : Str} {caps : List (Str × Nat)} (C : CompOk Φ scope [x, y] caps) {px py pos : Pos} {elt iter iter2 : Expr} {f k2 g : PM V}
    (hxy : x ≠ y) (d0 : 0 < d) (hfs : ∀ x, foldedSetIterable iter Φ.env x = pure x) (h1 : SndE G Φ d (eval iter Φ.env) f) (hfs2 : ∀ L x, foldedSetIterable iter2 (compEnv Φ scope L) x = pure x) (hF : ∀ L, FOk (compFrm Φ scope [x, y] caps L) → FOkG (compFrm Φ scope [x, y] caps L) → SndE G (compFrm Φ scope [x, y] caps L) d (eval iter2 (compEnv Φ scope L)) k2)
    (hE : ∀ L, FOk (compFrm Φ scope [x, y] caps L) → FOkG (compFrm Φ scope [x, y] caps L) → SndE G (compFrm Φ scope [x, y] caps L) d (eval elt (compEnv Φ scope L)) g) :
    SndE G Φ d (eval (cmp2 elt x px iter y py iter2 scope pos) Φ.env) (eComp2 f [x, y] caps k2 g) := by
  intro e H Y e' H' hf ρ s R A E ok
  refine hide fun PQ hpq => ?_
  refine bnd3 hf fun X₁ e₁ H₁ f1 hf => ?_
  refine bnd2 hf fun items fz f2 hf => ?_
  split at hf
  · rename_i hlen
    refine bnd3 hf fun vs e₂ H₂ f3 hf => ?_
    split at hf
    rotate_left
    · first | exact nn hf | exact nf hf | cases hf
    rename_i hvl
    cases hf
    refine hpq ?_
    rw [eval_ListComp]
    refine wpAny_comprehension_free (use := none) rfl hfs (C.closure R) C.kind C.names (h1.run f1 R ok fun xv ρ₁ s₁ R₁ X₁ v₁ => ?_)
    refine comp2_block (RR := fun acc C => compPost G.M A E none _ acc C) fo fg C hxy hfs2 hF hE R₁ v₁ f2 hlen hvl f3 ok d0 fun D L ρ' s' m R' X' v' hns hC hp hb h0 => ⟨m, hns, fun h' hs' => ?_⟩
    refine andE3 (comp_fin R' X' hns hC hp (R₁.freshF h0) hb h0 hs') fun a b c => ?_
    exact ⟨ρ', a, X₁.trans b, c _ _ v'⟩
  · first | exact nn hf | exact nf hf | cases hf
end
section
variable {G : Gl} {Φ : Frm} {d : Nat} {o : Expr} {apos pos : Pos} {args : List Expr} {f : PM V} {g : PM (List V)}
theorem meth_remove (hbase : attributeBase o "remove" Φ.env (eval o Φ.env) = eval o Φ.env)
    (hfew : ((backTo pos (starEach args Φ.env)).all (fun x => !x.1) && (backToKw pos (keywordEach [] Φ.env)).all (fun x => x.1.isSome) && decide (args.length + ([] : List Keyword).length + (if ([] : List Keyword).isEmpty then 0 else 1) < 30)) = true)
    (hline : (apos.endLine == pos.line) = true) (hpl : (backTo pos (starEach args Φ.env)).any (·.1) = false)
    (h1 : SndE G Φ d (eval o Φ.env) f) (h2 : SndL G Φ d (spliced (backTo pos (starEach args Φ.env))) g) : SndE G Φ d (eval (.Call (.Attribute o "remove" apos) args [] pos) Φ.env) (eMeth f kList g oRemove) :=
  snd_meth hbase hfew hline hpl F.plainAttrs_list F.slot_list_remove (by show builtinType _ = _; rw [builtinType_eq_fast]; kernel_rfl) kList_ok h1 h2 oRemove_ok
end
end Mine
end
section
set_option tactic.hygienic false
open PySem PySem.W PyProof.Rows PySem.Calls PySem.SeqAt Builtin
namespace Mine
noncomputable def b_is_single_bit : PM Flw := (mCons (mIf (tCmp (eVar 0) (eInt 0) cEq) (mCons (mRet (eBool false)) mNil) mNil) (mCons (mAugName 0 (eBin (eVar 0) (eInt 1) oSub) oAnd) (mCons (mRet (eCmp (eVar 0) (eInt 0) cEq)) mNil)))
noncomputable def op_is_single_bit : FOp := fOp (bdPlain 1) 0 b_is_single_bit
noncomputable def b_high_bit : PM Flw := (mCons (mRet (eBin (eMeth (eVar 0) kInt aNil oBits) (eInt 1) oSub)) mNil)
noncomputable def op_high_bit : FOp := fOp (bdPlain 1) 0 b_high_bit
noncomputable def b_N_init : PM Flw := (mCons (mSetSlot 0 (eVar 1) (eVar 0)) (mCons (mSetSlot 1 (eInt 0) (eVar 0)) (mCons (mSetSlot 2 (eList aNil) (eVar 0)) mNil)))
noncomputable def op_N_init : FOp := fOp (bdPlain 2) 0 b_N_init
noncomputable def b_S_get_nodeinfo : PM Flw := (mCons (mIf (tCmp (eNamed 2 (eMeth (eAttr 0 (eVar 0)) kDict (aCons (eVar 1) aNil) oGet)) eNone cIs) (mCons (mAssignSubName (eFun (aCons (eVar 1) aNil) (oMakeN op_N_init)) (eAttr 0 (eVar 0)) (eVar 1) 2) mNil) mNil) (mCons (mRet (eVar 2)) mNil))
noncomputable def op_S_get_nodeinfo : FOp := fOp (bdPlain 2) 1 b_S_get_nodeinfo
noncomputable def fb_S_add_1 : PM Flw := (mCons (mAssign 5 (eOwn (eVar 0) (aCons (eVar 4) aNil) op_S_get_nodeinfo)) (mCons (mExprS (eMeth (eSlot 2 (eVar 5)) kList (aCons (eVar 1) aNil) oAppend)) mNil))
noncomputable def b_S_add : PM Flw := (mCons (mIf (tCmp (eAttr 1 (eVar 0)) eNone cIsNot) mFail mNil) (mCons (mAssign 3 (eOwn (eVar 0) (aCons (eVar 1) aNil) op_S_get_nodeinfo)) (mCons (mAugSlot 1 (eVar 3) (eFun (aCons (eVar 2) aNil) oLen) (iOp fun a b => some (a + b))) (mCons (mFor (eVar 2) 4 fb_S_add_1) mNil))))
noncomputable def op_S_add : FOp := fOp (bdStar 2) 3 b_S_add
noncomputable def fb_S_init_1 : PM Flw := (mCons (mExprS (eOwn (eVar 0) (aCons (eVar 2) (aStar (eVar 3))) op_S_add)) mNil)
noncomputable def b_S_init : PM Flw := (mCons (mSetAttr 0 eDict0 (eVar 0)) (mCons (mSetAttr 1 eNone (eVar 0)) (mCons (mSetAttr 2 (eInt 0) (eVar 0)) (mCons (mSetAttr 3 (eInt 0) (eVar 0)) (mCons (mIf (tCmp (eVar 1) eNone cIsNot) (mCons (mForItems (eMeth (eVar 1) kDict aNil (oView true)) 2 3 fb_S_init_1) mNil) mNil) mNil)))))
noncomputable def op_S_init : FOp := fOp (bdPlain 2) 2 b_S_init
noncomputable def wb_S_find_cycle_1 : PM Flw := (mCons (mTryNext (eSub (eVar 3) (eNeg (eInt 1))) 6 (mCons (mDel (eVar 5) (eMeth (eVar 2) kList aNil oPop)) (mCons (mExprS (eMeth (eVar 3) kList aNil oPop)) mNil))) mNil)
noncomputable def wb_S_find_cycle_2 : PM Flw := (mCons (mIf (tCmp (eVar 6) (eVar 4) cIn) (mCons (mIf (tCmp (eVar 6) (eVar 5) cIn) mFail mNil) mNil) (mCons (mExprS (eMeth (eVar 4) kSet (aCons (eVar 6) aNil) oSetAdd)) (mCons (mExprS (eMeth (eVar 3) kList (aCons (eNext (eFun (aCons (eSlot 2 (eSub (eVar 1) (eVar 6))) aNil) oIter)) aNil) oAppend)) (mCons (mSetItem (eFun (aCons (eVar 2) aNil) oLen) (eVar 5) (eVar 6)) (mCons (mExprS (eMeth (eVar 2) kList (aCons (eVar 6) aNil) oAppend)) mNil))))) (mCons (mWhile 1000 (tVal (eVar 2)) wb_S_find_cycle_1 (mCons mBrk mNil)) mNil))
noncomputable def fb_S_find_cycle_1 : PM Flw := (mCons (mIf (tCmp (eVar 6) (eVar 4) cIn) (mCons mCont mNil) mNil) (mCons (mWhile 1000 (tVal (eBool true)) wb_S_find_cycle_2 mNil) mNil))
noncomputable def b_S_find_cycle : PM Flw := (mCons (mAssign 1 (eAttr 0 (eVar 0))) (mCons (mAssign 2 (eList aNil)) (mCons (mAssign 3 (eList aNil)) (mCons (mAssign 4 (eFun aNil oSet)) (mCons (mAssign 5 eDict0) (mCons (mFor (eVar 1) 6 fb_S_find_cycle_1) (mCons (mRet eNone) mNil)))))))
noncomputable def op_S_find_cycle : FOp := fOp (bdPlain 1) 6 b_S_find_cycle
noncomputable def ce_S_prepare_1 : PM V := (eSlot 0 (eVar 0))
noncomputable def ct_S_prepare_1 : PM Bool := (tCmp (eSlot 1 (eVar 0)) (eInt 0) cEq)
noncomputable def b_S_prepare : PM Flw := (mCons (mIf (tCmp (eAttr 1 (eVar 0)) eNone cIsNot) mFail mNil) (mCons (mSetAttr 1 (eComp (eMeth (eAttr 0 (eVar 0)) kDict aNil (oView false)) ["i"] [] ct_S_prepare_1 ce_S_prepare_1) (eVar 0)) (mCons (mAssign 1 (eOwn (eVar 0) aNil op_S_find_cycle)) (mCons (mIf (tVal (eVar 1)) mFail mNil) mNil))))
noncomputable def op_S_prepare : FOp := fOp (bdPlain 1) 1 b_S_prepare
noncomputable def fb_S_get_ready_1 : PM Flw := (mCons (mSetSlot 1 (eGInt (-1)) (eSub (eVar 2) (eVar 3))) mNil)
noncomputable def b_S_get_ready : PM Flw := (mCons (mIf (tCmp (eAttr 1 (eVar 0)) eNone cIs) mFail mNil) (mCons (mAssign 1 (eFun (aCons (eAttr 1 (eVar 0)) aNil) oTuple)) (mCons (mAssign 2 (eAttr 0 (eVar 0))) (mCons (mFor (eVar 1) 3 fb_S_get_ready_1) (mCons (mExprS (eMeth (eAttr 1 (eVar 0)) kList aNil oClear)) (mCons (mAugAttr 2 (eVar 0) (eFun (aCons (eVar 1) aNil) oLen) (iOp fun a b => some (a + b))) (mCons (mRet (eVar 1)) mNil)))))))
noncomputable def op_S_get_ready : FOp := fOp (bdPlain 1) 3 b_S_get_ready
noncomputable def b_S_is_active : PM Flw := (mCons (mIf (tCmp (eAttr 1 (eVar 0)) eNone cIs) mFail mNil) (mCons (mRet (eOr (eCmp (eAttr 3 (eVar 0)) (eAttr 2 (eVar 0)) cLt) (eFun (aCons (eAttr 1 (eVar 0)) aNil) oBoolF))) mNil))
noncomputable def op_S_is_active : FOp := fOp (bdPlain 1) 0 b_S_is_active
noncomputable def fb_S_done_1 : PM Flw := (mCons (mAssign 7 (eSub (eVar 2) (eVar 6))) (mCons (mAugSlot 1 (eVar 7) (eInt 1) oSub) (mCons (mIf (tCmp (eSlot 1 (eVar 7)) (eInt 0) cEq) (mCons (mExprS (eMeth (eAttr 1 (eVar 0)) kList (aCons (eVar 6) aNil) oAppend)) mNil) mNil) mNil)))
noncomputable def fb_S_done_2 : PM Flw := (mCons (mIf (tCmp (eNamed 4 (eMeth (eVar 2) kDict (aCons (eVar 3) aNil) oGet)) eNone cIs) mFail mNil) (mCons (mAssign 5 (eSlot 1 (eVar 4))) (mCons (mIf (tCmp (eVar 5) (eGInt (-1)) cNe) mFail mNil) (mCons (mSetSlot 1 (eGInt (-2)) (eVar 4)) (mCons (mFor (eSlot 2 (eVar 4)) 6 fb_S_done_1) (mCons (mAugAttr 3 (eVar 0) (eInt 1) (iOp fun a b => some (a + b))) mNil))))))
noncomputable def b_S_done : PM Flw := (mCons (mIf (tCmp (eAttr 1 (eVar 0)) eNone cIs) mFail mNil) (mCons (mAssign 2 (eAttr 0 (eVar 0))) (mCons (mFor (eVar 1) 3 fb_S_done_2) mNil)))
noncomputable def op_S_done : FOp := fOp (bdStar 1) 6 b_S_done
noncomputable def fb_law_family_1 : PM Flw := (mCons (mAssign 3 (eBin (eBin (eVar 2) (eInt 14) oMod) (eInt 1) oAddT)) (mCons (mIf (tCmp (eVar 3) (eVar 1) cIn) (mCons (mExprS (eMeth (eVar 1) kList (aCons (eVar 3) aNil) oRemove)) mNil) (mCons (mExprS (eMeth (eVar 1) kList (aCons (eVar 3) aNil) oAppend)) mNil)) mNil))
noncomputable def b_law_family : PM Flw := (mCons (mAssign 1 (eFun (aCons (eFun (aCons (eInt 15) (aCons (eNeg (eInt 1)) (aCons (eNeg (eInt 1)) aNil))) oRange3) aNil) oListF)) (mCons (mFor (eBin (eList (aCons (eInt 2) (aCons (eInt 8) aNil))) (eVar 0) oAddT) 2 fb_law_family_1) (mCons (mRet (eVar 1)) mNil)))
noncomputable def op_law_family : FOp := fOp (bdPlain 1) 3 b_law_family
noncomputable def ce_law_worked_off_1 : PM V := (eVar 0)
noncomputable def ct_law_worked_off_1 : PM Bool := (tAnd (tCmp (eVar 0) (eVar 1) cLt) (tAnd (tVal (eFun (aCons (eBin (eVar 0) (eVar 1) oXor) aNil) op_is_single_bit)) tTrue))
noncomputable def ce_law_worked_off_2 : PM V := (eComp (eVar 1) ["low"] [("mask", 0)] ct_law_worked_off_1 ce_law_worked_off_1)
noncomputable def cf_law_worked_off_1 : PM V := (eMeth (eVar 3) kDict (aCons (eVar 0) (aCons (eList aNil) aNil)) oGet)
noncomputable def ce_law_worked_off_3 : PM V := (eBin (eVar 1) (eTup (aCons (eFun (aCons (eBin (eVar 0) (eVar 2) oXor) aNil) op_high_bit) aNil)) oAddT)
noncomputable def fb_law_worked_off_1 : PM Flw := (mCons (mIf (tCmp (eVar 6) (eInt 0) cNe) (mCons (mSetItem (eComp2 (eSub (eVar 1) (eVar 6)) ["low", "word"] [("mask", 6), ("words", 4)] cf_law_worked_off_1 ce_law_worked_off_3) (eVar 4) (eVar 6)) mNil) mNil) mNil)
noncomputable def wb_law_worked_off_1 : PM Flw := (mCons (mAssign 5 (eOwn (eVar 2) aNil op_S_get_ready)) (mCons (mExprS (eMeth (eVar 3) kList (aCons (eFun (aCons (eVar 5) aNil) oSort2) aNil) oAppend)) (mCons (mFor (eVar 5) 6 fb_law_worked_off_1) (mCons (mExprS (eOwn (eVar 2) (aStar (eVar 5)) op_S_done)) mNil))))
noncomputable def ce_law_worked_off_4 : PM V := (eFun (aCons (eSub (eVar 1) (eVar 0)) aNil) oSort2)
noncomputable def b_law_worked_off : PM Flw := (mCons (mAssign 1 (eDComp (eVar 0) ["mask"] [("family", 0)] tYes (eVar 0) ce_law_worked_off_2)) (mCons (mAssign 2 (eFun (aCons (eVar 1) aNil) (oMake op_S_init))) (mCons (mExprS (eOwn (eVar 2) aNil op_S_prepare)) (mCons (mAssign 3 (eList aNil)) (mCons (mAssign 4 (eDict1 (eInt 0) (eList (aCons (eTup aNil) aNil)))) (mCons (mWhile 1000 (tVal (eOwn (eVar 2) aNil op_S_is_active)) wb_law_worked_off_1 mNil) (mCons (mRet (eList (aCons (eVar 3) (aCons (eDComp (eVar 4) ["mask"] [("words", 4)] tYes (eVar 0) ce_law_worked_off_4) aNil)))) mNil)))))))
noncomputable def op_law_worked_off : FOp := fOp (bdPlain 1) 6 b_law_worked_off
noncomputable def ce_law_spelled_1 : PM V := (eList aNil)
noncomputable def fb_law_spelled_1 : PM Flw := (mCons (mAssign 6 (eBin (eVar 6) (eBin (eInt 2) (eSub (eVar 5) (eVar 7)) oPow) oAddT)) (mCons (mIf (tCmp (eVar 6) (eVar 1) cNotIn) (mCons mBrk mNil) mNil) (mCons (mIf (tCmp (eTakeT (eVar 5) (eBin (eVar 7) (eInt 1) oAddT)) (eSub (eVar 1) (eVar 6)) cNotIn) (mCons (mExprS (eMeth (eSub (eVar 1) (eVar 6)) kList (aCons (eTakeT (eVar 5) (eBin (eVar 7) (eInt 1) oAddT)) aNil) oAppend)) mNil) mNil) mNil)))
noncomputable def fb_law_spelled_2 : PM Flw := (mCons (mIf (tAnd (tCmp (eVar 2) (eVar 3) cNe) (tAnd (tCmp (eVar 2) (eVar 4) cNe) (tAnd (tCmp (eVar 3) (eVar 4) cNe) tTrue))) (mCons (mAssign 5 (eTup (aCons (eVar 2) (aCons (eVar 3) (aCons (eVar 4) (aCons (eBin (eBin (eBin (eInt 6) (eVar 2) oSub) (eVar 3) oSub) (eVar 4) oSub) aNil)))))) (mCons (mAssign 6 (eInt 0)) (mCons (mFor (eFun (aCons (eInt 4) aNil) oRange) 7 fb_law_spelled_1) mNil))) mNil) mNil)
noncomputable def fb_law_spelled_3 : PM Flw := (mCons (mFor (eFun (aCons (eInt 4) aNil) oRange) 4 fb_law_spelled_2) mNil)
noncomputable def fb_law_spelled_4 : PM Flw := (mCons (mFor (eFun (aCons (eInt 4) aNil) oRange) 3 fb_law_spelled_3) mNil)
noncomputable def b_law_spelled : PM Flw := (mCons (mAssign 1 (eDComp (eVar 0) ["mask"] [] tYes (eVar 0) ce_law_spelled_1)) (mCons (mExprS (eMeth (eSub (eVar 1) (eInt 0)) kList (aCons (eTup aNil) aNil) oAppend)) (mCons (mFor (eFun (aCons (eInt 4) aNil) oRange) 2 fb_law_spelled_4) (mCons (mRet (eVar 1)) mNil))))
noncomputable def op_law_spelled : FOp := fOp (bdPlain 1) 7 b_law_spelled
noncomputable def ce_law_rounds_1 : PM V := (eBin (eVar 1) (eVar 0) oSub)
noncomputable def ct_law_rounds_1 : PM Bool := (tCmp (eBin (eBin (eVar 1) (eVar 0) oDiv) (eInt 2) oMod) (eInt 1) cEq)
noncomputable def ce_law_rounds_2 : PM V := (eBin (eSub (eVar 1) (eVar 0)) (eInt 1) oAddT)
noncomputable def ct_law_rounds_2 : PM Bool := (tCmp (eVar 0) (eVar 1) cIn)
noncomputable def fb_law_rounds_1 : PM Flw := (mCons (mAssign 3 (eComp (eList (aCons (eInt 1) (aCons (eInt 2) (aCons (eInt 4) (aCons (eInt 8) aNil))))) ["one"] [("mask", 2)] ct_law_rounds_1 ce_law_rounds_1)) (mCons (mSetItem (eFun (aCons (eBin (eList (aCons (eInt 0) aNil)) (eComp (eVar 3) ["low"] [("steps", 1)] ct_law_rounds_2 ce_law_rounds_2) oAddT) aNil) (oBest fun a b => decide (b < a))) (eVar 1) (eVar 2)) mNil))
noncomputable def ce_law_rounds_3 : PM V := (eVar 0)
noncomputable def ct_law_rounds_3 : PM Bool := (tCmp (eSub (eVar 2) (eVar 0)) (eVar 1) cEq)
noncomputable def ce_law_rounds_4 : PM V := (eComp (eFun (aCons (eVar 1) aNil) oSort2) ["mask"] [("k", 0), ("steps", 2)] ct_law_rounds_3 ce_law_rounds_3)
noncomputable def b_law_rounds : PM Flw := (mCons (mAssign 1 eDict0) (mCons (mFor (eFun (aCons (eVar 0) aNil) oSort2) 2 fb_law_rounds_1) (mCons (mRet (eComp (eFun (aCons (eBin (eFun (aCons (eMeth (eVar 1) kDict aNil (oView false)) aNil) (oBest fun a b => decide (b < a))) (eInt 1) oAddT) aNil) oRange) ["k"] [("family", 0), ("steps", 1)] tYes ce_law_rounds_4)) mNil)))
noncomputable def op_law_rounds : FOp := fOp (bdPlain 1) 3 b_law_rounds
noncomputable def ce_law_1 : PM V := (eBin (eVar 0) (eInt 1000000) oMod)
noncomputable def b_law : PM Flw := (mCons (mAssign 1 (eFun (aCons (eComp (eTake (eVar 0) (eInt 10)) ["x"] [] tYes ce_law_1) aNil) op_law_family)) (mCons (mAssign 2 (eFun (aCons (eVar 1) aNil) op_law_worked_off)) (mCons (mRet (eAnd (eCmp (eSub (eVar 2) (eInt 1)) (eFun (aCons (eVar 1) aNil) op_law_spelled) cEq) (eCmp (eSub (eVar 2) (eInt 0)) (eFun (aCons (eVar 1) aNil) op_law_rounds) cEq))) mNil)))
noncomputable def op_law : FOp := fOp (bdPlain 1) 2 b_law
end Mine
end
section
set_option tactic.hygienic false
open PySem PySem.W PyProof.Rows PySem.Calls PySem.SeqAt Builtin
set_option maxHeartbeats 8000000
namespace Mine
noncomputable def biNames : List Str := ["len", "range", "max", "min", "sorted", "tuple", "bool", "set", "iter", "list", "StopIteration"]
structure Ctx (G : Gl) : Prop where
  gok : GOk G
  cok : ClsOk G
  bi : ∀ x ∈ biNames, G.mg x = none
  fS : G.mg "TopologicalSorter" = some (.ref G.C)
  fN : G.mg "_NodeInfo" = some (.ref G.CN)
  kpS : keepIn G.K (.ref G.C) = true
  kpN : keepIn G.K (.ref G.CN) = true
  mS : makesIn G.K G.C = true
  mN : makesIn G.K G.CN = true
  k_NODE_OUT : ∃ t, G.mg "_NODE_OUT" = some (.int (-1) t)
  k_NODE_DONE : ∃ t, G.mg "_NODE_DONE" = some (.int (-2) t)
  i_is_single_bit : isFun G.K (adIn G.K "_is_single_bit") (stAt PySem.Challenge.pw_mq0317_02 2) "_is_single_bit"
  g_is_single_bit : G.mg "_is_single_bit" = some (.ref (adIn G.K "_is_single_bit"))
  d_is_single_bit : (ptIn G.K (adIn G.K "_is_single_bit")).dV = .none
  i_high_bit : isFun G.K (adIn G.K "_high_bit") (stAt PySem.Challenge.pw_mq0317_02 3) "_high_bit"
  g_high_bit : G.mg "_high_bit" = some (.ref (adIn G.K "_high_bit"))
  d_high_bit : (ptIn G.K (adIn G.K "_high_bit")).dV = .none
  i_N_init : isFun G.K (meIn G.K G.CN "__init__") (stIn (stAt PySem.Challenge.pw_mq0317_02 7) 1) "_NodeInfo.__init__"
  f_N_init : findIn G.K (.ref G.CN) "__init__" = some (some (.ref (meIn G.K G.CN "__init__")))
  t_N_init : typeIn G.K (.ref (meIn G.K G.CN "__init__")) = some (.type "function")
  d_N_init : (ptIn G.K (meIn G.K G.CN "__init__")).dV = .none
  i_S_get_nodeinfo : isFun G.K (meIn G.K G.C "_get_nodeinfo") (stIn (stAt PySem.Challenge.pw_mq0317_02 9) 1) "TopologicalSorter._get_nodeinfo"
  me_S_get_nodeinfo : MethIs G "_get_nodeinfo" (meIn G.K G.C "_get_nodeinfo")
  d_S_get_nodeinfo : (ptIn G.K (meIn G.K G.C "_get_nodeinfo")).dV = .none
  i_S_add : isFun G.K (meIn G.K G.C "add") (stIn (stAt PySem.Challenge.pw_mq0317_02 9) 2) "TopologicalSorter.add"
  me_S_add : MethIs G "add" (meIn G.K G.C "add")
  d_S_add : (ptIn G.K (meIn G.K G.C "add")).dV = .none
  i_S_init : isFun G.K (meIn G.K G.C "__init__") (stIn (stAt PySem.Challenge.pw_mq0317_02 9) 0) "TopologicalSorter.__init__"
  f_S_init : findIn G.K (.ref G.C) "__init__" = some (some (.ref (meIn G.K G.C "__init__")))
  t_S_init : typeIn G.K (.ref (meIn G.K G.C "__init__")) = some (.type "function")
  d_S_init : ∃ dv o dx k, (ptIn G.K (meIn G.K G.C "__init__")).dV = .ref dv ∧ G.hb.get? dv = some o ∧ o.data = .seq #[dx] k
  i_S_find_cycle : isFun G.K (meIn G.K G.C "_find_cycle") (stIn (stAt PySem.Challenge.pw_mq0317_02 9) 8) "TopologicalSorter._find_cycle"
  me_S_find_cycle : MethIs G "_find_cycle" (meIn G.K G.C "_find_cycle")
  d_S_find_cycle : (ptIn G.K (meIn G.K G.C "_find_cycle")).dV = .none
  i_S_prepare : isFun G.K (meIn G.K G.C "prepare") (stIn (stAt PySem.Challenge.pw_mq0317_02 9) 3) "TopologicalSorter.prepare"
  me_S_prepare : MethIs G "prepare" (meIn G.K G.C "prepare")
  d_S_prepare : (ptIn G.K (meIn G.K G.C "prepare")).dV = .none
  i_S_get_ready : isFun G.K (meIn G.K G.C "get_ready") (stIn (stAt PySem.Challenge.pw_mq0317_02 9) 4) "TopologicalSorter.get_ready"
  me_S_get_ready : MethIs G "get_ready" (meIn G.K G.C "get_ready")
  d_S_get_ready : (ptIn G.K (meIn G.K G.C "get_ready")).dV = .none
  i_S_is_active : isFun G.K (meIn G.K G.C "is_active") (stIn (stAt PySem.Challenge.pw_mq0317_02 9) 5) "TopologicalSorter.is_active"
  me_S_is_active : MethIs G "is_active" (meIn G.K G.C "is_active")
  d_S_is_active : (ptIn G.K (meIn G.K G.C "is_active")).dV = .none
  i_S_done : isFun G.K (meIn G.K G.C "done") (stIn (stAt PySem.Challenge.pw_mq0317_02 9) 7) "TopologicalSorter.done"
  me_S_done : MethIs G "done" (meIn G.K G.C "done")
  d_S_done : (ptIn G.K (meIn G.K G.C "done")).dV = .none
  i_law_family : isFun G.K (adIn G.K "_law_family") (stAt PySem.Challenge.pw_mq0317_02 11) "_law_family"
  g_law_family : G.mg "_law_family" = some (.ref (adIn G.K "_law_family"))
  d_law_family : (ptIn G.K (adIn G.K "_law_family")).dV = .none
  i_law_worked_off : isFun G.K (adIn G.K "_law_worked_off") (stAt PySem.Challenge.pw_mq0317_02 12) "_law_worked_off"
  g_law_worked_off : G.mg "_law_worked_off" = some (.ref (adIn G.K "_law_worked_off"))
  d_law_worked_off : (ptIn G.K (adIn G.K "_law_worked_off")).dV = .none
  i_law_spelled : isFun G.K (adIn G.K "_law_spelled") (stAt PySem.Challenge.pw_mq0317_02 13) "_law_spelled"
  g_law_spelled : G.mg "_law_spelled" = some (.ref (adIn G.K "_law_spelled"))
  d_law_spelled : (ptIn G.K (adIn G.K "_law_spelled")).dV = .none
  i_law_rounds : isFun G.K (adIn G.K "_law_rounds") (stAt PySem.Challenge.pw_mq0317_02 14) "_law_rounds"
  g_law_rounds : G.mg "_law_rounds" = some (.ref (adIn G.K "_law_rounds"))
  d_law_rounds : (ptIn G.K (adIn G.K "_law_rounds")).dV = .none
  i_law : isFun G.K (adIn G.K "law") (stAt PySem.Challenge.pw_mq0317_02 15) "law"
  g_law : G.mg "law" = some (.ref (adIn G.K "law"))
  d_law : (ptIn G.K (adIn G.K "law")).dV = .none
noncomputable abbrev fd_is_single_bit (v : Parts) : FuncData := fdOf (stAt PySem.Challenge.pw_mq0317_02 2) "_is_single_bit" v
noncomputable abbrev sl_is_single_bit : List (Str × Nat) := [("num", 0)]
theorem is_is_single_bit {G : Gl} (C : Ctx G) : FunIs G (adIn G.K "_is_single_bit") (fd_is_single_bit (ptIn G.K (adIn G.K "_is_single_bit"))) (fBody (stAt PySem.Challenge.pw_mq0317_02 2)) := funIs_of C.gok.inK C.i_is_single_bit (by kernel_rfl) (by kernel_rfl) (by kernel_rfl)
theorem bd_is_single_bit {G : Gl} (C : Ctx G) {v : Parts} {a L : Addr} {fr : List Env} (fo : FOk (funFrm (fd_is_single_bit v) a L sl_is_single_bit fr)) (fg : FOkG (funFrm (fd_is_single_bit v) a L sl_is_single_bit fr)) : SndF G (funFrm (fd_is_single_bit v) a L sl_is_single_bit fr) 1 (execs (fBody (stAt PySem.Challenge.pw_mq0317_02 2)) (callEnvC (fd_is_single_bit v) L a)) b_is_single_bit := by
  unfold b_is_single_bit
  exact (seq_cons (st_if (tst_cmp (snd_name fo (i := 0) (by kernel_rfl) (.inl (by kernel_rfl)) (by kernel_rfl) (by kernel_rfl)) snd_int cEq_ok (by kernel_rfl)) (seq_cons (st_ret snd_bool) seq_nil) seq_nil) (seq_cons (st_augname fo (by kernel_rfl) (.inl (by kernel_rfl)) (.inl (by kernel_rfl)) (by kernel_rfl) (snd_bin (snd_name fo (i := 0) (by kernel_rfl) (.inl (by kernel_rfl)) (by kernel_rfl) (by kernel_rfl)) snd_int oSub_ok) iAnd_ok) (seq_cons (st_ret (snd_cmp (snd_name fo (i := 0) (by kernel_rfl) (.inl (by kernel_rfl)) (by kernel_rfl) (by kernel_rfl)) snd_int cEq_ok (by kernel_rfl))) seq_nil)))
theorem ok_is_single_bit {G : Gl} (C : Ctx G) : COpR G 2 (.ref (adIn G.K "_is_single_bit")) op_is_single_bit :=
  fun_ok C.gok (k := 0) (ps := ["num"]) (bd := (bdPlain 1)) (b := b_is_single_bit) (is_is_single_bit C) sl_is_single_bit (by decide +kernel) (fun x _ _ => nofree_of (names := (fScope (stAt PySem.Challenge.pw_mq0317_02 2)).names) (by kernel_rfl) x) (ps_of (names := (fScope (stAt PySem.Challenge.pw_mq0317_02 2)).names) (by kernel_rfl)) (bind_1 (fun _ => by kernel_rfl) C.d_is_single_bit) (fun L fr fo fg => bd_is_single_bit C fo fg)
noncomputable abbrev fd_high_bit (v : Parts) : FuncData := fdOf (stAt PySem.Challenge.pw_mq0317_02 3) "_high_bit" v
noncomputable abbrev sl_high_bit : List (Str × Nat) := [("value", 0)]
theorem is_high_bit {G : Gl} (C : Ctx G) : FunIs G (adIn G.K "_high_bit") (fd_high_bit (ptIn G.K (adIn G.K "_high_bit"))) (fBody (stAt PySem.Challenge.pw_mq0317_02 3)) := funIs_of C.gok.inK C.i_high_bit (by kernel_rfl) (by kernel_rfl) (by kernel_rfl)
theorem bd_high_bit {G : Gl} (C : Ctx G) {v : Parts} {a L : Addr} {fr : List Env} (fo : FOk (funFrm (fd_high_bit v) a L sl_high_bit fr)) (fg : FOkG (funFrm (fd_high_bit v) a L sl_high_bit fr)) : SndF G (funFrm (fd_high_bit v) a L sl_high_bit fr) 1 (execs (fBody (stAt PySem.Challenge.pw_mq0317_02 3)) (callEnvC (fd_high_bit v) L a)) b_high_bit := by
  unfold b_high_bit
  exact (seq_cons (st_ret (snd_bin (meth_bits rfl (by kernel_rfl) (by kernel_rfl) (by kernel_rfl) (snd_name fo (i := 0) (by kernel_rfl) (.inl (by kernel_rfl)) (by kernel_rfl) (by kernel_rfl)) ar_nil) snd_int oSub_ok)) seq_nil)
theorem ok_high_bit {G : Gl} (C : Ctx G) : COpR G 2 (.ref (adIn G.K "_high_bit")) op_high_bit :=
  fun_ok C.gok (k := 0) (ps := ["value"]) (bd := (bdPlain 1)) (b := b_high_bit) (is_high_bit C) sl_high_bit (by decide +kernel) (fun x _ _ => nofree_of (names := (fScope (stAt PySem.Challenge.pw_mq0317_02 3)).names) (by kernel_rfl) x) (ps_of (names := (fScope (stAt PySem.Challenge.pw_mq0317_02 3)).names) (by kernel_rfl)) (bind_1 (fun _ => by kernel_rfl) C.d_high_bit) (fun L fr fo fg => bd_high_bit C fo fg)
noncomputable abbrev fd_N_init (v : Parts) : FuncData := fdOf (stIn (stAt PySem.Challenge.pw_mq0317_02 7) 1) "_NodeInfo.__init__" v
noncomputable abbrev sl_N_init : List (Str × Nat) := [("self", 0), ("node", 1)]
theorem is_N_init {G : Gl} (C : Ctx G) : FunIs G (meIn G.K G.CN "__init__") (fd_N_init (ptIn G.K (meIn G.K G.CN "__init__"))) (fBody (stIn (stAt PySem.Challenge.pw_mq0317_02 7) 1)) := funIs_of C.gok.inK C.i_N_init (by kernel_rfl) (by kernel_rfl) (by kernel_rfl)
theorem bd_N_init {G : Gl} (C : Ctx G) {v : Parts} {a L : Addr} {fr : List Env} (fo : FOk (funFrm (fd_N_init v) a L sl_N_init fr)) (fg : FOkG (funFrm (fd_N_init v) a L sl_N_init fr)) : SndF G (funFrm (fd_N_init v) a L sl_N_init fr) 1 (execs (fBody (stIn (stAt PySem.Challenge.pw_mq0317_02 7) 1)) (callEnvC (fd_N_init v) L a)) b_N_init := by
  unfold b_N_init
  exact (seq_cons (st_setslot C.gok C.cok 0 (by kernel_rfl) (snd_name fo (i := 1) (by kernel_rfl) (.inl (by kernel_rfl)) (by kernel_rfl) (by kernel_rfl)) (snd_name fo (i := 0) (by kernel_rfl) (.inl (by kernel_rfl)) (by kernel_rfl) (by kernel_rfl)) (by kernel_rfl)) (seq_cons (st_setslot C.gok C.cok 1 (by kernel_rfl) snd_int (snd_name fo (i := 0) (by kernel_rfl) (.inl (by kernel_rfl)) (by kernel_rfl) (by kernel_rfl)) (by kernel_rfl)) (seq_cons (st_setslot C.gok C.cok 2 (by kernel_rfl) (snd_list ar_nil) (snd_name fo (i := 0) (by kernel_rfl) (.inl (by kernel_rfl)) (by kernel_rfl) (by kernel_rfl)) (by kernel_rfl)) seq_nil)))
theorem ok_N_init {G : Gl} (C : Ctx G) : COpR G 2 (.ref (meIn G.K G.CN "__init__")) op_N_init :=
  fun_ok C.gok (k := 0) (ps := ["self", "node"]) (bd := (bdPlain 2)) (b := b_N_init) (is_N_init C) sl_N_init (by decide +kernel) (fun x _ _ => nofree_of (names := (fScope (stIn (stAt PySem.Challenge.pw_mq0317_02 7) 1)).names) (by kernel_rfl) x) (ps_of (names := (fScope (stIn (stAt PySem.Challenge.pw_mq0317_02 7) 1)).names) (by kernel_rfl)) (bind_2 (fun _ _ => by kernel_rfl) C.d_N_init) (fun L fr fo fg => bd_N_init C fo fg)
theorem mk_N {G : Gl} (C : Ctx G) : COpR G 3 (.ref G.CN) (oMakeN op_N_init) := oMakeN_ok C.gok C.mN C.f_N_init C.t_N_init (ok_N_init C)
noncomputable abbrev fd_S_get_nodeinfo (v : Parts) : FuncData := fdOf (stIn (stAt PySem.Challenge.pw_mq0317_02 9) 1) "TopologicalSorter._get_nodeinfo" v
noncomputable abbrev sl_S_get_nodeinfo : List (Str × Nat) := [("self", 0), ("node", 1), ("result", 2)]
theorem is_S_get_nodeinfo {G : Gl} (C : Ctx G) : FunIs G (meIn G.K G.C "_get_nodeinfo") (fd_S_get_nodeinfo (ptIn G.K (meIn G.K G.C "_get_nodeinfo"))) (fBody (stIn (stAt PySem.Challenge.pw_mq0317_02 9) 1)) := funIs_of C.gok.inK C.i_S_get_nodeinfo (by kernel_rfl) (by kernel_rfl) (by kernel_rfl)
theorem bd_S_get_nodeinfo {G : Gl} (C : Ctx G) {v : Parts} {a L : Addr} {fr : List Env} (fo : FOk (funFrm (fd_S_get_nodeinfo v) a L sl_S_get_nodeinfo fr)) (fg : FOkG (funFrm (fd_S_get_nodeinfo v) a L sl_S_get_nodeinfo fr)) : SndF G (funFrm (fd_S_get_nodeinfo v) a L sl_S_get_nodeinfo fr) 3 (execs (fBody (stIn (stAt PySem.Challenge.pw_mq0317_02 9) 1)) (callEnvC (fd_S_get_nodeinfo v) L a)) b_S_get_nodeinfo := by
  unfold b_S_get_nodeinfo
  exact (seq_cons (st_if (tst_cmp (snd_named fo (by kernel_rfl) (.inl (by kernel_rfl)) (meth_get rfl (by kernel_rfl) (by kernel_rfl) (by kernel_rfl) (snd_attr C.gok C.cok 0 (by kernel_rfl) (snd_name fo (i := 0) (by kernel_rfl) (.inl (by kernel_rfl)) (by kernel_rfl) (by kernel_rfl)) rfl) (ar_cons rfl (snd_name fo (i := 1) (by kernel_rfl) (.inl (by kernel_rfl)) (by kernel_rfl) (by kernel_rfl)) ar_nil))) snd_none cIs_ok (by kernel_rfl)) (seq_cons (st_subname fo (snd_new C.gok fo fg C.kpN (by kernel_rfl) C.fN (by kernel_rfl) rfl (by kernel_rfl) (ar_cons rfl (snd_name fo (i := 1) (by kernel_rfl) (.inl (by kernel_rfl)) (by kernel_rfl) (by kernel_rfl)) ar_nil) (FOpR.le (COpR.fop (mk_N C)) (by decide))) (snd_attr C.gok C.cok 0 (by kernel_rfl) (snd_name fo (i := 0) (by kernel_rfl) (.inl (by kernel_rfl)) (by kernel_rfl) (by kernel_rfl)) rfl) (snd_name fo (i := 1) (by kernel_rfl) (.inl (by kernel_rfl)) (by kernel_rfl) (by kernel_rfl)) (by kernel_rfl) (.inl (by kernel_rfl)) rfl (by kernel_rfl)) seq_nil) seq_nil) (seq_cons (st_ret (snd_name fo (i := 2) (by kernel_rfl) (.inl (by kernel_rfl)) (by kernel_rfl) (by kernel_rfl))) seq_nil))
theorem ok_S_get_nodeinfo {G : Gl} (C : Ctx G) : COpR G 4 (.ref (meIn G.K G.C "_get_nodeinfo")) op_S_get_nodeinfo :=
  fun_ok C.gok (k := 1) (ps := ["self", "node"]) (bd := (bdPlain 2)) (b := b_S_get_nodeinfo) (is_S_get_nodeinfo C) sl_S_get_nodeinfo (by decide +kernel) (fun x _ _ => nofree_of (names := (fScope (stIn (stAt PySem.Challenge.pw_mq0317_02 9) 1)).names) (by kernel_rfl) x) (ps_of (names := (fScope (stIn (stAt PySem.Challenge.pw_mq0317_02 9) 1)).names) (by kernel_rfl)) (bind_2 (fun _ _ => by kernel_rfl) C.d_S_get_nodeinfo) (fun L fr fo fg => bd_S_get_nodeinfo C fo fg)
noncomputable abbrev fd_S_add (v : Parts) : FuncData := fdOf (stIn (stAt PySem.Challenge.pw_mq0317_02 9) 2) "TopologicalSorter.add" v
noncomputable abbrev sl_S_add : List (Str × Nat) := [("self", 0), ("node", 1), ("predecessors", 2), ("nodeinfo", 3), ("pred", 4), ("pred_info", 5)]
theorem is_S_add {G : Gl} (C : Ctx G) : FunIs G (meIn G.K G.C "add") (fd_S_add (ptIn G.K (meIn G.K G.C "add"))) (fBody (stIn (stAt PySem.Challenge.pw_mq0317_02 9) 2)) := funIs_of C.gok.inK C.i_S_add (by kernel_rfl) (by kernel_rfl) (by kernel_rfl)
theorem bd_S_add {G : Gl} (C : Ctx G) {v : Parts} {a L : Addr} {fr : List Env} (fo : FOk (funFrm (fd_S_add v) a L sl_S_add fr)) (fg : FOkG (funFrm (fd_S_add v) a L sl_S_add fr)) : SndF G (funFrm (fd_S_add v) a L sl_S_add fr) 4 (execs (fBody (stIn (stAt PySem.Challenge.pw_mq0317_02 9) 2)) (callEnvC (fd_S_add v) L a)) b_S_add := by
  unfold b_S_add
  exact (seq_cons (st_if (tst_cmp (snd_attr C.gok C.cok 1 (by kernel_rfl) (snd_name fo (i := 0) (by kernel_rfl) (.inl (by kernel_rfl)) (by kernel_rfl) (by kernel_rfl)) rfl) snd_none cIsNot_ok (by kernel_rfl)) snd_fail seq_nil) (seq_cons (st_assign fo (by kernel_rfl) (.inl (by kernel_rfl)) (snd_own C.gok C.cok (is_S_get_nodeinfo C) C.me_S_get_nodeinfo rfl (by kernel_rfl) (by kernel_rfl) (by kernel_rfl) (snd_name fo (i := 0) (by kernel_rfl) (.inl (by kernel_rfl)) (by kernel_rfl) (by kernel_rfl)) (ar_cons rfl (snd_name fo (i := 1) (by kernel_rfl) (.inl (by kernel_rfl)) (by kernel_rfl) (by kernel_rfl)) ar_nil) (FOpR.le (COpR.fop (ok_S_get_nodeinfo C)) (by decide))) (by kernel_rfl)) (seq_cons (st_augslot C.gok C.cok 1 (by kernel_rfl) (snd_name fo (i := 3) (by kernel_rfl) (.inl (by kernel_rfl)) (by kernel_rfl) (by kernel_rfl)) (snd_bfun C.gok fo fg (f := .builtin "len") (.inl ⟨_, rfl⟩) (by kernel_rfl) (C.bi _ (by decide)) (by decide +kernel) (by decide) (by kernel_rfl) rfl (by kernel_rfl) (ar_cons rfl (snd_name fo (i := 2) (by kernel_rfl) (.inl (by kernel_rfl)) (by kernel_rfl) (by kernel_rfl)) ar_nil) oLen_ok) iAdd_ok) (seq_cons (st_for fo (by kernel_rfl) (.inl (by kernel_rfl)) (snd_name fo (i := 2) (by kernel_rfl) (.inl (by kernel_rfl)) (by kernel_rfl) (by kernel_rfl)) (seq_cons (st_assign fo (by kernel_rfl) (.inl (by kernel_rfl)) (snd_own C.gok C.cok (is_S_get_nodeinfo C) C.me_S_get_nodeinfo rfl (by kernel_rfl) (by kernel_rfl) (by kernel_rfl) (snd_name fo (i := 0) (by kernel_rfl) (.inl (by kernel_rfl)) (by kernel_rfl) (by kernel_rfl)) (ar_cons rfl (snd_name fo (i := 4) (by kernel_rfl) (.inl (by kernel_rfl)) (by kernel_rfl) (by kernel_rfl)) ar_nil) (FOpR.le (COpR.fop (ok_S_get_nodeinfo C)) (by decide))) (by kernel_rfl)) (seq_cons (st_expr (meth_append rfl (by kernel_rfl) (by kernel_rfl) (by kernel_rfl) (snd_slot C.gok C.cok 2 (by kernel_rfl) (snd_name fo (i := 5) (by kernel_rfl) (.inl (by kernel_rfl)) (by kernel_rfl) (by kernel_rfl)) rfl) (ar_cons rfl (snd_name fo (i := 1) (by kernel_rfl) (.inl (by kernel_rfl)) (by kernel_rfl) (by kernel_rfl)) ar_nil)) (by kernel_rfl) (by kernel_rfl)) seq_nil)) (fun _ => (by kernel_rfl)) (by decide)) seq_nil))))
theorem ok_S_add {G : Gl} (C : Ctx G) : COpR G 5 (.ref (meIn G.K G.C "add")) op_S_add :=
  fun_ok C.gok (k := 3) (ps := ["self", "node", "predecessors"]) (bd := (bdStar 2)) (b := b_S_add) (is_S_add C) sl_S_add (by decide +kernel) (fun x _ _ => nofree_of (names := (fScope (stIn (stAt PySem.Challenge.pw_mq0317_02 9) 2)).names) (by kernel_rfl) x) (ps_of (names := (fScope (stIn (stAt PySem.Challenge.pw_mq0317_02 9) 2)).names) (by kernel_rfl)) (bind_s2 (fun _ _ => by kernel_rfl) (fun _ _ _ _ => by kernel_rfl) C.d_S_add) (fun L fr fo fg => bd_S_add C fo fg)
noncomputable abbrev fd_S_init (v : Parts) : FuncData := fdOf (stIn (stAt PySem.Challenge.pw_mq0317_02 9) 0) "TopologicalSorter.__init__" v
noncomputable abbrev sl_S_init : List (Str × Nat) := [("self", 0), ("graph", 1), ("node", 2), ("predecessors", 3)]
theorem is_S_init {G : Gl} (C : Ctx G) : FunIs G (meIn G.K G.C "__init__") (fd_S_init (ptIn G.K (meIn G.K G.C "__init__"))) (fBody (stIn (stAt PySem.Challenge.pw_mq0317_02 9) 0)) := funIs_of C.gok.inK C.i_S_init (by kernel_rfl) (by kernel_rfl) (by kernel_rfl)
theorem bd_S_init {G : Gl} (C : Ctx G) {v : Parts} {a L : Addr} {fr : List Env} (fo : FOk (funFrm (fd_S_init v) a L sl_S_init fr)) (fg : FOkG (funFrm (fd_S_init v) a L sl_S_init fr)) : SndF G (funFrm (fd_S_init v) a L sl_S_init fr) 5 (execs (fBody (stIn (stAt PySem.Challenge.pw_mq0317_02 9) 0)) (callEnvC (fd_S_init v) L a)) b_S_init := by
  unfold b_S_init
  exact (seq_cons (st_setattr C.gok C.cok 0 (by kernel_rfl) snd_dict0 (snd_name fo (i := 0) (by kernel_rfl) (.inl (by kernel_rfl)) (by kernel_rfl) (by kernel_rfl)) (by kernel_rfl)) (seq_cons (st_setattr C.gok C.cok 1 (by kernel_rfl) snd_none (snd_name fo (i := 0) (by kernel_rfl) (.inl (by kernel_rfl)) (by kernel_rfl) (by kernel_rfl)) (by kernel_rfl)) (seq_cons (st_setattr C.gok C.cok 2 (by kernel_rfl) snd_int (snd_name fo (i := 0) (by kernel_rfl) (.inl (by kernel_rfl)) (by kernel_rfl) (by kernel_rfl)) (by kernel_rfl)) (seq_cons (st_setattr C.gok C.cok 3 (by kernel_rfl) snd_int (snd_name fo (i := 0) (by kernel_rfl) (.inl (by kernel_rfl)) (by kernel_rfl) (by kernel_rfl)) (by kernel_rfl)) (seq_cons (st_if (tst_cmp (snd_name fo (i := 1) (by kernel_rfl) (.inl (by kernel_rfl)) (by kernel_rfl) (by kernel_rfl)) snd_none cIsNot_ok (by kernel_rfl)) (seq_cons (st_foritems fo (by kernel_rfl) (.inl (by kernel_rfl)) (by kernel_rfl) (.inl (by kernel_rfl)) rfl (meth_items rfl (by kernel_rfl) (by kernel_rfl) (by kernel_rfl) (snd_name fo (i := 1) (by kernel_rfl) (.inl (by kernel_rfl)) (by kernel_rfl) (by kernel_rfl)) ar_nil) (seq_cons (st_expr (snd_ownstar C.gok C.cok C.me_S_add rfl (by kernel_rfl) (by kernel_rfl) (snd_name fo (i := 0) (by kernel_rfl) (.inl (by kernel_rfl)) (by kernel_rfl) (by kernel_rfl)) (sa_cons rfl (ar_cons rfl (snd_name fo (i := 2) (by kernel_rfl) (.inl (by kernel_rfl)) (by kernel_rfl) (by kernel_rfl)) (ar_star rfl (snd_name fo (i := 3) (by kernel_rfl) (.inl (by kernel_rfl)) (by kernel_rfl) (by kernel_rfl))))) (COpR.le (ok_S_add C) (by decide))) (by kernel_rfl) (by kernel_rfl)) seq_nil) (fun _ => (by kernel_rfl)) (by decide)) seq_nil) seq_nil) seq_nil)))))
theorem ok_S_init {G : Gl} (C : Ctx G) : COpR G 6 (.ref (meIn G.K G.C "__init__")) op_S_init :=
  fun_ok C.gok (k := 2) (ps := ["self", "graph"]) (bd := (bdPlain 2)) (b := b_S_init) (is_S_init C) sl_S_init (by decide +kernel) (fun x _ _ => nofree_of (names := (fScope (stIn (stAt PySem.Challenge.pw_mq0317_02 9) 0)).names) (by kernel_rfl) x) (ps_of (names := (fScope (stIn (stAt PySem.Challenge.pw_mq0317_02 9) 0)).names) (by kernel_rfl)) (bind_d (fun _ _ _ => ⟨_, rfl, fun _ => by kernel_rfl⟩) C.d_S_init) (fun L fr fo fg => bd_S_init C fo fg)
theorem mk_S {G : Gl} (C : Ctx G) : COpR G 7 (.ref G.C) (oMake op_S_init) := oMake_ok C.gok C.mS C.f_S_init C.t_S_init (ok_S_init C)
noncomputable abbrev fd_S_find_cycle (v : Parts) : FuncData := fdOf (stIn (stAt PySem.Challenge.pw_mq0317_02 9) 8) "TopologicalSorter._find_cycle" v
noncomputable abbrev sl_S_find_cycle : List (Str × Nat) := [("self", 0), ("n2i", 1), ("stack", 2), ("itstack", 3), ("seen", 4), ("node2stacki", 5), ("node", 6)]
theorem is_S_find_cycle {G : Gl} (C : Ctx G) : FunIs G (meIn G.K G.C "_find_cycle") (fd_S_find_cycle (ptIn G.K (meIn G.K G.C "_find_cycle"))) (fBody (stIn (stAt PySem.Challenge.pw_mq0317_02 9) 8)) := funIs_of C.gok.inK C.i_S_find_cycle (by kernel_rfl) (by kernel_rfl) (by kernel_rfl)
theorem bd_S_find_cycle {G : Gl} (C : Ctx G) {v : Parts} {a L : Addr} {fr : List Env} (fo : FOk (funFrm (fd_S_find_cycle v) a L sl_S_find_cycle fr)) (fg : FOkG (funFrm (fd_S_find_cycle v) a L sl_S_find_cycle fr)) : SndF G (funFrm (fd_S_find_cycle v) a L sl_S_find_cycle fr) 1 (execs (fBody (stIn (stAt PySem.Challenge.pw_mq0317_02 9) 8)) (callEnvC (fd_S_find_cycle v) L a)) b_S_find_cycle := by
  unfold b_S_find_cycle
  exact (seq_cons (st_assign fo (by kernel_rfl) (.inl (by kernel_rfl)) (snd_attr C.gok C.cok 0 (by kernel_rfl) (snd_name fo (i := 0) (by kernel_rfl) (.inl (by kernel_rfl)) (by kernel_rfl) (by kernel_rfl)) rfl) (by kernel_rfl)) (seq_cons (st_assign fo (by kernel_rfl) (.inl (by kernel_rfl)) (snd_list ar_nil) (by kernel_rfl)) (seq_cons (st_assign fo (by kernel_rfl) (.inl (by kernel_rfl)) (snd_list ar_nil) (by kernel_rfl)) (seq_cons (st_assign fo (by kernel_rfl) (.inl (by kernel_rfl)) (snd_bfun C.gok fo fg (f := .type "set") (.inr ⟨_, rfl⟩) (by kernel_rfl) (C.bi _ (by decide)) (by decide +kernel) (by decide) (by kernel_rfl) rfl (by kernel_rfl) ar_nil oSet_ok) (by kernel_rfl)) (seq_cons (st_assign fo (by kernel_rfl) (.inl (by kernel_rfl)) snd_dict0 (by kernel_rfl)) (seq_cons (st_for fo (by kernel_rfl) (.inl (by kernel_rfl)) (snd_name fo (i := 1) (by kernel_rfl) (.inl (by kernel_rfl)) (by kernel_rfl) (by kernel_rfl)) (seq_cons (st_if (tst_cmp (snd_name fo (i := 6) (by kernel_rfl) (.inl (by kernel_rfl)) (by kernel_rfl) (by kernel_rfl)) (snd_name fo (i := 4) (by kernel_rfl) (.inl (by kernel_rfl)) (by kernel_rfl) (by kernel_rfl)) cIn_ok (by kernel_rfl)) (seq_cons st_cont seq_nil) seq_nil) (seq_cons (st_while 1000 (tst_val (truthR G _) snd_bool rfl) (seq_cons (st_if (tst_cmp (snd_name fo (i := 6) (by kernel_rfl) (.inl (by kernel_rfl)) (by kernel_rfl) (by kernel_rfl)) (snd_name fo (i := 4) (by kernel_rfl) (.inl (by kernel_rfl)) (by kernel_rfl) (by kernel_rfl)) cIn_ok (by kernel_rfl)) (seq_cons (st_if (tst_cmp (snd_name fo (i := 6) (by kernel_rfl) (.inl (by kernel_rfl)) (by kernel_rfl) (by kernel_rfl)) (snd_name fo (i := 5) (by kernel_rfl) (.inl (by kernel_rfl)) (by kernel_rfl) (by kernel_rfl)) cIn_ok (by kernel_rfl)) snd_fail seq_nil) seq_nil) (seq_cons (st_expr (meth_add rfl (by kernel_rfl) (by kernel_rfl) (by kernel_rfl) (snd_name fo (i := 4) (by kernel_rfl) (.inl (by kernel_rfl)) (by kernel_rfl) (by kernel_rfl)) (ar_cons rfl (snd_name fo (i := 6) (by kernel_rfl) (.inl (by kernel_rfl)) (by kernel_rfl) (by kernel_rfl)) ar_nil)) (by kernel_rfl) (by kernel_rfl)) (seq_cons (st_expr (meth_append rfl (by kernel_rfl) (by kernel_rfl) (by kernel_rfl) (snd_name fo (i := 3) (by kernel_rfl) (.inl (by kernel_rfl)) (by kernel_rfl) (by kernel_rfl)) (ar_cons rfl (snd_next (snd_bfun C.gok fo fg (f := .builtin "iter") (.inl ⟨_, rfl⟩) (by kernel_rfl) (C.bi _ (by decide)) (by decide +kernel) (by decide) (by kernel_rfl) rfl (by kernel_rfl) (ar_cons rfl (snd_slot C.gok C.cok 2 (by kernel_rfl) (snd_sub (snd_name fo (i := 1) (by kernel_rfl) (.inl (by kernel_rfl)) (by kernel_rfl) (by kernel_rfl)) (snd_name fo (i := 6) (by kernel_rfl) (.inl (by kernel_rfl)) (by kernel_rfl) (by kernel_rfl)) (fun _ _ => (by kernel_rfl))) rfl) ar_nil) oIter_ok) rfl) ar_nil)) (by kernel_rfl) (by kernel_rfl)) (seq_cons (st_setitem (snd_bfun C.gok fo fg (f := .builtin "len") (.inl ⟨_, rfl⟩) (by kernel_rfl) (C.bi _ (by decide)) (by decide +kernel) (by decide) (by kernel_rfl) rfl (by kernel_rfl) (ar_cons rfl (snd_name fo (i := 2) (by kernel_rfl) (.inl (by kernel_rfl)) (by kernel_rfl) (by kernel_rfl)) ar_nil) oLen_ok) (snd_name fo (i := 5) (by kernel_rfl) (.inl (by kernel_rfl)) (by kernel_rfl) (by kernel_rfl)) (snd_name fo (i := 6) (by kernel_rfl) (.inl (by kernel_rfl)) (by kernel_rfl) (by kernel_rfl)) (by kernel_rfl)) (seq_cons (st_expr (meth_append rfl (by kernel_rfl) (by kernel_rfl) (by kernel_rfl) (snd_name fo (i := 2) (by kernel_rfl) (.inl (by kernel_rfl)) (by kernel_rfl) (by kernel_rfl)) (ar_cons rfl (snd_name fo (i := 6) (by kernel_rfl) (.inl (by kernel_rfl)) (by kernel_rfl) (by kernel_rfl)) ar_nil)) (by kernel_rfl) (by kernel_rfl)) seq_nil))))) (seq_cons (st_while 1000 (tst_val (truthR G _) (snd_name fo (i := 2) (by kernel_rfl) (.inl (by kernel_rfl)) (by kernel_rfl) (by kernel_rfl)) rfl) (seq_cons (st_trynext C.gok fo fg (by decide) rfl rfl (by kernel_rfl) (.inl (by kernel_rfl)) (snd_sub (snd_name fo (i := 3) (by kernel_rfl) (.inl (by kernel_rfl)) (by kernel_rfl) (by kernel_rfl)) (snd_neg snd_int) (fun _ _ => (by kernel_rfl))) (seq_cons (st_del (snd_name fo (i := 5) (by kernel_rfl) (.inl (by kernel_rfl)) (by kernel_rfl) (by kernel_rfl)) (meth_pop rfl (by kernel_rfl) (by kernel_rfl) (by kernel_rfl) (snd_name fo (i := 2) (by kernel_rfl) (.inl (by kernel_rfl)) (by kernel_rfl) (by kernel_rfl)) ar_nil)) (seq_cons (st_expr (meth_pop rfl (by kernel_rfl) (by kernel_rfl) (by kernel_rfl) (snd_name fo (i := 3) (by kernel_rfl) (.inl (by kernel_rfl)) (by kernel_rfl) (by kernel_rfl)) ar_nil) (by kernel_rfl) (by kernel_rfl)) seq_nil)) rfl (by kernel_rfl) (by kernel_rfl) (C.bi _ (by decide))) seq_nil) (seq_cons st_brk seq_nil)) seq_nil)) seq_nil) seq_nil)) (fun _ => (by kernel_rfl)) (by decide)) (seq_cons (st_ret snd_none) seq_nil)))))))
theorem ok_S_find_cycle {G : Gl} (C : Ctx G) : COpR G 2 (.ref (meIn G.K G.C "_find_cycle")) op_S_find_cycle :=
  fun_ok C.gok (k := 6) (ps := ["self"]) (bd := (bdPlain 1)) (b := b_S_find_cycle) (is_S_find_cycle C) sl_S_find_cycle (by decide +kernel) (fun x _ _ => nofree_of (names := (fScope (stIn (stAt PySem.Challenge.pw_mq0317_02 9) 8)).names) (by kernel_rfl) x) (ps_of (names := (fScope (stIn (stAt PySem.Challenge.pw_mq0317_02 9) 8)).names) (by kernel_rfl)) (bind_1 (fun _ => by kernel_rfl) C.d_S_find_cycle) (fun L fr fo fg => bd_S_find_cycle C fo fg)
noncomputable abbrev fd_S_prepare (v : Parts) : FuncData := fdOf (stIn (stAt PySem.Challenge.pw_mq0317_02 9) 3) "TopologicalSorter.prepare" v
noncomputable abbrev sl_S_prepare : List (Str × Nat) := [("self", 0), ("cycle", 1)]
theorem is_S_prepare {G : Gl} (C : Ctx G) : FunIs G (meIn G.K G.C "prepare") (fd_S_prepare (ptIn G.K (meIn G.K G.C "prepare"))) (fBody (stIn (stAt PySem.Challenge.pw_mq0317_02 9) 3)) := funIs_of C.gok.inK C.i_S_prepare (by kernel_rfl) (by kernel_rfl) (by kernel_rfl)
theorem bd_S_prepare {G : Gl} (C : Ctx G) {v : Parts} {a L : Addr} {fr : List Env} (fo : FOk (funFrm (fd_S_prepare v) a L sl_S_prepare fr)) (fg : FOkG (funFrm (fd_S_prepare v) a L sl_S_prepare fr)) : SndF G (funFrm (fd_S_prepare v) a L sl_S_prepare fr) 2 (execs (fBody (stIn (stAt PySem.Challenge.pw_mq0317_02 9) 3)) (callEnvC (fd_S_prepare v) L a)) b_S_prepare := by
  unfold b_S_prepare
  exact (seq_cons (st_if (tst_cmp (snd_attr C.gok C.cok 1 (by kernel_rfl) (snd_name fo (i := 0) (by kernel_rfl) (.inl (by kernel_rfl)) (by kernel_rfl) (by kernel_rfl)) rfl) snd_none cIsNot_ok (by kernel_rfl)) snd_fail seq_nil) (seq_cons (st_setattr C.gok C.cok 1 (by kernel_rfl) (snd_comp fo fg (compOk_of (own := ["i"]) (caps := []) (by kernel_rfl) (by kernel_rfl) (by kernel_rfl) trivial (by decide +kernel)) rfl (by decide) (fun _ => (by kernel_rfl)) (meth_values rfl (by kernel_rfl) (by kernel_rfl) (by kernel_rfl) (snd_attr C.gok C.cok 0 (by kernel_rfl) (snd_name fo (i := 0) (by kernel_rfl) (.inl (by kernel_rfl)) (by kernel_rfl) (by kernel_rfl)) rfl) ar_nil) (fun _ fo1 fg1 => (ts_one (tst_cmp (snd_slot C.gok C.cok 1 (by kernel_rfl) (snd_name fo1 (i := 0) (by kernel_rfl) (.inl (by kernel_rfl)) (by kernel_rfl) (by kernel_rfl)) rfl) snd_int cEq_ok (by kernel_rfl)))) (fun _ fo1 fg1 => (snd_slot C.gok C.cok 0 (by kernel_rfl) (snd_name fo1 (i := 0) (by kernel_rfl) (.inl (by kernel_rfl)) (by kernel_rfl) (by kernel_rfl)) rfl))) (snd_name fo (i := 0) (by kernel_rfl) (.inl (by kernel_rfl)) (by kernel_rfl) (by kernel_rfl)) (by kernel_rfl)) (seq_cons (st_assign fo (by kernel_rfl) (.inl (by kernel_rfl)) (snd_own C.gok C.cok (is_S_find_cycle C) C.me_S_find_cycle rfl (by kernel_rfl) (by kernel_rfl) (by kernel_rfl) (snd_name fo (i := 0) (by kernel_rfl) (.inl (by kernel_rfl)) (by kernel_rfl) (by kernel_rfl)) ar_nil (FOpR.le (COpR.fop (ok_S_find_cycle C)) (by decide))) (by kernel_rfl)) (seq_cons (st_if (tst_val (truthR G _) (snd_name fo (i := 1) (by kernel_rfl) (.inl (by kernel_rfl)) (by kernel_rfl) (by kernel_rfl)) rfl) snd_fail seq_nil) seq_nil))))
theorem ok_S_prepare {G : Gl} (C : Ctx G) : COpR G 3 (.ref (meIn G.K G.C "prepare")) op_S_prepare :=
  fun_ok C.gok (k := 1) (ps := ["self"]) (bd := (bdPlain 1)) (b := b_S_prepare) (is_S_prepare C) sl_S_prepare (by decide +kernel) (fun x _ _ => nofree_of (names := (fScope (stIn (stAt PySem.Challenge.pw_mq0317_02 9) 3)).names) (by kernel_rfl) x) (ps_of (names := (fScope (stIn (stAt PySem.Challenge.pw_mq0317_02 9) 3)).names) (by kernel_rfl)) (bind_1 (fun _ => by kernel_rfl) C.d_S_prepare) (fun L fr fo fg => bd_S_prepare C fo fg)
noncomputable abbrev fd_S_get_ready (v : Parts) : FuncData := fdOf (stIn (stAt PySem.Challenge.pw_mq0317_02 9) 4) "TopologicalSorter.get_ready" v
noncomputable abbrev sl_S_get_ready : List (Str × Nat) := [("self", 0), ("result", 1), ("n2i", 2), ("node", 3)]
theorem is_S_get_ready {G : Gl} (C : Ctx G) : FunIs G (meIn G.K G.C "get_ready") (fd_S_get_ready (ptIn G.K (meIn G.K G.C "get_ready"))) (fBody (stIn (stAt PySem.Challenge.pw_mq0317_02 9) 4)) := funIs_of C.gok.inK C.i_S_get_ready (by kernel_rfl) (by kernel_rfl) (by kernel_rfl)
theorem bd_S_get_ready {G : Gl} (C : Ctx G) {v : Parts} {a L : Addr} {fr : List Env} (fo : FOk (funFrm (fd_S_get_ready v) a L sl_S_get_ready fr)) (fg : FOkG (funFrm (fd_S_get_ready v) a L sl_S_get_ready fr)) : SndF G (funFrm (fd_S_get_ready v) a L sl_S_get_ready fr) 1 (execs (fBody (stIn (stAt PySem.Challenge.pw_mq0317_02 9) 4)) (callEnvC (fd_S_get_ready v) L a)) b_S_get_ready := by
  unfold b_S_get_ready
  exact (seq_cons (st_if (tst_cmp (snd_attr C.gok C.cok 1 (by kernel_rfl) (snd_name fo (i := 0) (by kernel_rfl) (.inl (by kernel_rfl)) (by kernel_rfl) (by kernel_rfl)) rfl) snd_none cIs_ok (by kernel_rfl)) snd_fail seq_nil) (seq_cons (st_assign fo (by kernel_rfl) (.inl (by kernel_rfl)) (snd_bfun C.gok fo fg (f := .type "tuple") (.inr ⟨_, rfl⟩) (by kernel_rfl) (C.bi _ (by decide)) (by decide +kernel) (by decide) (by kernel_rfl) rfl (by kernel_rfl) (ar_cons rfl (snd_attr C.gok C.cok 1 (by kernel_rfl) (snd_name fo (i := 0) (by kernel_rfl) (.inl (by kernel_rfl)) (by kernel_rfl) (by kernel_rfl)) rfl) ar_nil) oTuple_ok) (by kernel_rfl)) (seq_cons (st_assign fo (by kernel_rfl) (.inl (by kernel_rfl)) (snd_attr C.gok C.cok 0 (by kernel_rfl) (snd_name fo (i := 0) (by kernel_rfl) (.inl (by kernel_rfl)) (by kernel_rfl) (by kernel_rfl)) rfl) (by kernel_rfl)) (seq_cons (st_for fo (by kernel_rfl) (.inl (by kernel_rfl)) (snd_name fo (i := 1) (by kernel_rfl) (.inl (by kernel_rfl)) (by kernel_rfl) (by kernel_rfl)) (seq_cons (st_setslot C.gok C.cok 1 (by kernel_rfl) (snd_gint C.gok fo fg (by kernel_rfl) C.k_NODE_OUT.choose_spec (by kernel_rfl)) (snd_sub (snd_name fo (i := 2) (by kernel_rfl) (.inl (by kernel_rfl)) (by kernel_rfl) (by kernel_rfl)) (snd_name fo (i := 3) (by kernel_rfl) (.inl (by kernel_rfl)) (by kernel_rfl) (by kernel_rfl)) (fun _ _ => (by kernel_rfl))) (by kernel_rfl)) seq_nil) (fun _ => (by kernel_rfl)) (by decide)) (seq_cons (st_expr (meth_clear rfl (by kernel_rfl) (by kernel_rfl) (by kernel_rfl) (snd_attr C.gok C.cok 1 (by kernel_rfl) (snd_name fo (i := 0) (by kernel_rfl) (.inl (by kernel_rfl)) (by kernel_rfl) (by kernel_rfl)) rfl) ar_nil) (by kernel_rfl) (by kernel_rfl)) (seq_cons (st_augattr C.gok C.cok 2 (by kernel_rfl) (snd_name fo (i := 0) (by kernel_rfl) (.inl (by kernel_rfl)) (by kernel_rfl) (by kernel_rfl)) (snd_bfun C.gok fo fg (f := .builtin "len") (.inl ⟨_, rfl⟩) (by kernel_rfl) (C.bi _ (by decide)) (by decide +kernel) (by decide) (by kernel_rfl) rfl (by kernel_rfl) (ar_cons rfl (snd_name fo (i := 1) (by kernel_rfl) (.inl (by kernel_rfl)) (by kernel_rfl) (by kernel_rfl)) ar_nil) oLen_ok) iAdd_ok) (seq_cons (st_ret (snd_name fo (i := 1) (by kernel_rfl) (.inl (by kernel_rfl)) (by kernel_rfl) (by kernel_rfl))) seq_nil)))))))
theorem ok_S_get_ready {G : Gl} (C : Ctx G) : COpR G 2 (.ref (meIn G.K G.C "get_ready")) op_S_get_ready :=
  fun_ok C.gok (k := 3) (ps := ["self"]) (bd := (bdPlain 1)) (b := b_S_get_ready) (is_S_get_ready C) sl_S_get_ready (by decide +kernel) (fun x _ _ => nofree_of (names := (fScope (stIn (stAt PySem.Challenge.pw_mq0317_02 9) 4)).names) (by kernel_rfl) x) (ps_of (names := (fScope (stIn (stAt PySem.Challenge.pw_mq0317_02 9) 4)).names) (by kernel_rfl)) (bind_1 (fun _ => by kernel_rfl) C.d_S_get_ready) (fun L fr fo fg => bd_S_get_ready C fo fg)
noncomputable abbrev fd_S_is_active (v : Parts) : FuncData := fdOf (stIn (stAt PySem.Challenge.pw_mq0317_02 9) 5) "TopologicalSorter.is_active" v
noncomputable abbrev sl_S_is_active : List (Str × Nat) := [("self", 0)]
theorem is_S_is_active {G : Gl} (C : Ctx G) : FunIs G (meIn G.K G.C "is_active") (fd_S_is_active (ptIn G.K (meIn G.K G.C "is_active"))) (fBody (stIn (stAt PySem.Challenge.pw_mq0317_02 9) 5)) := funIs_of C.gok.inK C.i_S_is_active (by kernel_rfl) (by kernel_rfl) (by kernel_rfl)
theorem bd_S_is_active {G : Gl} (C : Ctx G) {v : Parts} {a L : Addr} {fr : List Env} (fo : FOk (funFrm (fd_S_is_active v) a L sl_S_is_active fr)) (fg : FOkG (funFrm (fd_S_is_active v) a L sl_S_is_active fr)) : SndF G (funFrm (fd_S_is_active v) a L sl_S_is_active fr) 1 (execs (fBody (stIn (stAt PySem.Challenge.pw_mq0317_02 9) 5)) (callEnvC (fd_S_is_active v) L a)) b_S_is_active := by
  unfold b_S_is_active
  exact (seq_cons (st_if (tst_cmp (snd_attr C.gok C.cok 1 (by kernel_rfl) (snd_name fo (i := 0) (by kernel_rfl) (.inl (by kernel_rfl)) (by kernel_rfl) (by kernel_rfl)) rfl) snd_none cIs_ok (by kernel_rfl)) snd_fail seq_nil) (seq_cons (st_ret (snd_or (truthR G _) (snd_cmp (snd_attr C.gok C.cok 3 (by kernel_rfl) (snd_name fo (i := 0) (by kernel_rfl) (.inl (by kernel_rfl)) (by kernel_rfl) (by kernel_rfl)) rfl) (snd_attr C.gok C.cok 2 (by kernel_rfl) (snd_name fo (i := 0) (by kernel_rfl) (.inl (by kernel_rfl)) (by kernel_rfl) (by kernel_rfl)) rfl) cLt_ok (by kernel_rfl)) (snd_bfun C.gok fo fg (f := .type "bool") (.inr ⟨_, rfl⟩) (by kernel_rfl) (C.bi _ (by decide)) (by decide +kernel) (by decide) (by kernel_rfl) rfl (by kernel_rfl) (ar_cons rfl (snd_attr C.gok C.cok 1 (by kernel_rfl) (snd_name fo (i := 0) (by kernel_rfl) (.inl (by kernel_rfl)) (by kernel_rfl) (by kernel_rfl)) rfl) ar_nil) oBoolF_ok))) seq_nil))
theorem ok_S_is_active {G : Gl} (C : Ctx G) : COpR G 2 (.ref (meIn G.K G.C "is_active")) op_S_is_active :=
  fun_ok C.gok (k := 0) (ps := ["self"]) (bd := (bdPlain 1)) (b := b_S_is_active) (is_S_is_active C) sl_S_is_active (by decide +kernel) (fun x _ _ => nofree_of (names := (fScope (stIn (stAt PySem.Challenge.pw_mq0317_02 9) 5)).names) (by kernel_rfl) x) (ps_of (names := (fScope (stIn (stAt PySem.Challenge.pw_mq0317_02 9) 5)).names) (by kernel_rfl)) (bind_1 (fun _ => by kernel_rfl) C.d_S_is_active) (fun L fr fo fg => bd_S_is_active C fo fg)
noncomputable abbrev fd_S_done (v : Parts) : FuncData := fdOf (stIn (stAt PySem.Challenge.pw_mq0317_02 9) 7) "TopologicalSorter.done" v
noncomputable abbrev sl_S_done : List (Str × Nat) := [("self", 0), ("nodes", 1), ("n2i", 2), ("node", 3), ("nodeinfo", 4), ("stat", 5), ("successor", 6), ("successor_info", 7)]
theorem is_S_done {G : Gl} (C : Ctx G) : FunIs G (meIn G.K G.C "done") (fd_S_done (ptIn G.K (meIn G.K G.C "done"))) (fBody (stIn (stAt PySem.Challenge.pw_mq0317_02 9) 7)) := funIs_of C.gok.inK C.i_S_done (by kernel_rfl) (by kernel_rfl) (by kernel_rfl)
theorem bd_S_done {G : Gl} (C : Ctx G) {v : Parts} {a L : Addr} {fr : List Env} (fo : FOk (funFrm (fd_S_done v) a L sl_S_done fr)) (fg : FOkG (funFrm (fd_S_done v) a L sl_S_done fr)) : SndF G (funFrm (fd_S_done v) a L sl_S_done fr) 1 (execs (fBody (stIn (stAt PySem.Challenge.pw_mq0317_02 9) 7)) (callEnvC (fd_S_done v) L a)) b_S_done := by
  unfold b_S_done
  exact (seq_cons (st_if (tst_cmp (snd_attr C.gok C.cok 1 (by kernel_rfl) (snd_name fo (i := 0) (by kernel_rfl) (.inl (by kernel_rfl)) (by kernel_rfl) (by kernel_rfl)) rfl) snd_none cIs_ok (by kernel_rfl)) snd_fail seq_nil) (seq_cons (st_assign fo (by kernel_rfl) (.inl (by kernel_rfl)) (snd_attr C.gok C.cok 0 (by kernel_rfl) (snd_name fo (i := 0) (by kernel_rfl) (.inl (by kernel_rfl)) (by kernel_rfl) (by kernel_rfl)) rfl) (by kernel_rfl)) (seq_cons (st_for fo (by kernel_rfl) (.inl (by kernel_rfl)) (snd_name fo (i := 1) (by kernel_rfl) (.inl (by kernel_rfl)) (by kernel_rfl) (by kernel_rfl)) (seq_cons (st_if (tst_cmp (snd_named fo (by kernel_rfl) (.inl (by kernel_rfl)) (meth_get rfl (by kernel_rfl) (by kernel_rfl) (by kernel_rfl) (snd_name fo (i := 2) (by kernel_rfl) (.inl (by kernel_rfl)) (by kernel_rfl) (by kernel_rfl)) (ar_cons rfl (snd_name fo (i := 3) (by kernel_rfl) (.inl (by kernel_rfl)) (by kernel_rfl) (by kernel_rfl)) ar_nil))) snd_none cIs_ok (by kernel_rfl)) snd_fail seq_nil) (seq_cons (st_assign fo (by kernel_rfl) (.inl (by kernel_rfl)) (snd_slot C.gok C.cok 1 (by kernel_rfl) (snd_name fo (i := 4) (by kernel_rfl) (.inl (by kernel_rfl)) (by kernel_rfl) (by kernel_rfl)) rfl) (by kernel_rfl)) (seq_cons (st_if (tst_cmp (snd_name fo (i := 5) (by kernel_rfl) (.inl (by kernel_rfl)) (by kernel_rfl) (by kernel_rfl)) (snd_gint C.gok fo fg (by kernel_rfl) C.k_NODE_OUT.choose_spec (by kernel_rfl)) cNe_ok (by kernel_rfl)) snd_fail seq_nil) (seq_cons (st_setslot C.gok C.cok 1 (by kernel_rfl) (snd_gint C.gok fo fg (by kernel_rfl) C.k_NODE_DONE.choose_spec (by kernel_rfl)) (snd_name fo (i := 4) (by kernel_rfl) (.inl (by kernel_rfl)) (by kernel_rfl) (by kernel_rfl)) (by kernel_rfl)) (seq_cons (st_for fo (by kernel_rfl) (.inl (by kernel_rfl)) (snd_slot C.gok C.cok 2 (by kernel_rfl) (snd_name fo (i := 4) (by kernel_rfl) (.inl (by kernel_rfl)) (by kernel_rfl) (by kernel_rfl)) rfl) (seq_cons (st_assign fo (by kernel_rfl) (.inl (by kernel_rfl)) (snd_sub (snd_name fo (i := 2) (by kernel_rfl) (.inl (by kernel_rfl)) (by kernel_rfl) (by kernel_rfl)) (snd_name fo (i := 6) (by kernel_rfl) (.inl (by kernel_rfl)) (by kernel_rfl) (by kernel_rfl)) (fun _ _ => (by kernel_rfl))) (by kernel_rfl)) (seq_cons (st_augslot C.gok C.cok 1 (by kernel_rfl) (snd_name fo (i := 7) (by kernel_rfl) (.inl (by kernel_rfl)) (by kernel_rfl) (by kernel_rfl)) snd_int iSub_ok) (seq_cons (st_if (tst_cmp (snd_slot C.gok C.cok 1 (by kernel_rfl) (snd_name fo (i := 7) (by kernel_rfl) (.inl (by kernel_rfl)) (by kernel_rfl) (by kernel_rfl)) rfl) snd_int cEq_ok (by kernel_rfl)) (seq_cons (st_expr (meth_append rfl (by kernel_rfl) (by kernel_rfl) (by kernel_rfl) (snd_attr C.gok C.cok 1 (by kernel_rfl) (snd_name fo (i := 0) (by kernel_rfl) (.inl (by kernel_rfl)) (by kernel_rfl) (by kernel_rfl)) rfl) (ar_cons rfl (snd_name fo (i := 6) (by kernel_rfl) (.inl (by kernel_rfl)) (by kernel_rfl) (by kernel_rfl)) ar_nil)) (by kernel_rfl) (by kernel_rfl)) seq_nil) seq_nil) seq_nil))) (fun _ => (by kernel_rfl)) (by decide)) (seq_cons (st_augattr C.gok C.cok 3 (by kernel_rfl) (snd_name fo (i := 0) (by kernel_rfl) (.inl (by kernel_rfl)) (by kernel_rfl) (by kernel_rfl)) snd_int iAdd_ok) seq_nil)))))) (fun _ => (by kernel_rfl)) (by decide)) seq_nil)))
theorem ok_S_done {G : Gl} (C : Ctx G) : COpR G 2 (.ref (meIn G.K G.C "done")) op_S_done :=
  fun_ok C.gok (k := 6) (ps := ["self", "nodes"]) (bd := (bdStar 1)) (b := b_S_done) (is_S_done C) sl_S_done (by decide +kernel) (fun x _ _ => nofree_of (names := (fScope (stIn (stAt PySem.Challenge.pw_mq0317_02 9) 7)).names) (by kernel_rfl) x) (ps_of (names := (fScope (stIn (stAt PySem.Challenge.pw_mq0317_02 9) 7)).names) (by kernel_rfl)) (bind_s1 (fun _ => by kernel_rfl) (fun _ _ _ => by kernel_rfl) C.d_S_done) (fun L fr fo fg => bd_S_done C fo fg)
noncomputable abbrev fd_law_family (v : Parts) : FuncData := fdOf (stAt PySem.Challenge.pw_mq0317_02 11) "_law_family" v
noncomputable abbrev sl_law_family : List (Str × Nat) := [("numbers", 0), ("family", 1), ("x", 2), ("mask", 3)]
theorem is_law_family {G : Gl} (C : Ctx G) : FunIs G (adIn G.K "_law_family") (fd_law_family (ptIn G.K (adIn G.K "_law_family"))) (fBody (stAt PySem.Challenge.pw_mq0317_02 11)) := funIs_of C.gok.inK C.i_law_family (by kernel_rfl) (by kernel_rfl) (by kernel_rfl)
theorem bd_law_family {G : Gl} (C : Ctx G) {v : Parts} {a L : Addr} {fr : List Env} (fo : FOk (funFrm (fd_law_family v) a L sl_law_family fr)) (fg : FOkG (funFrm (fd_law_family v) a L sl_law_family fr)) : SndF G (funFrm (fd_law_family v) a L sl_law_family fr) 1 (execs (fBody (stAt PySem.Challenge.pw_mq0317_02 11)) (callEnvC (fd_law_family v) L a)) b_law_family := by
  unfold b_law_family
  exact (seq_cons (st_assign fo (by kernel_rfl) (.inl (by kernel_rfl)) (snd_bfun C.gok fo fg (f := .type "list") (.inr ⟨_, rfl⟩) (by kernel_rfl) (C.bi _ (by decide)) (by decide +kernel) (by decide) (by kernel_rfl) rfl (by kernel_rfl) (ar_cons rfl (snd_bfun C.gok fo fg (f := .type "range") (.inr ⟨_, rfl⟩) (by kernel_rfl) (C.bi _ (by decide)) (by decide +kernel) (by decide) (by kernel_rfl) rfl (by kernel_rfl) (ar_cons rfl snd_int (ar_cons rfl (snd_neg snd_int) (ar_cons rfl (snd_neg snd_int) ar_nil))) oRange3_ok) ar_nil) (oListF_ok (by decide))) (by kernel_rfl)) (seq_cons (st_for fo (by kernel_rfl) (.inl (by kernel_rfl)) (snd_bin (snd_list (ar_cons rfl snd_int (ar_cons rfl snd_int ar_nil))) (snd_name fo (i := 0) (by kernel_rfl) (.inl (by kernel_rfl)) (by kernel_rfl) (by kernel_rfl)) oAddT_ok) (seq_cons (st_assign fo (by kernel_rfl) (.inl (by kernel_rfl)) (snd_bin (snd_bin (snd_name fo (i := 2) (by kernel_rfl) (.inl (by kernel_rfl)) (by kernel_rfl) (by kernel_rfl)) snd_int oMod_ok) snd_int oAddT_ok) (by kernel_rfl)) (seq_cons (st_if (tst_cmp (snd_name fo (i := 3) (by kernel_rfl) (.inl (by kernel_rfl)) (by kernel_rfl) (by kernel_rfl)) (snd_name fo (i := 1) (by kernel_rfl) (.inl (by kernel_rfl)) (by kernel_rfl) (by kernel_rfl)) cIn_ok (by kernel_rfl)) (seq_cons (st_expr (meth_remove rfl (by kernel_rfl) (by kernel_rfl) (by kernel_rfl) (snd_name fo (i := 1) (by kernel_rfl) (.inl (by kernel_rfl)) (by kernel_rfl) (by kernel_rfl)) (ar_cons rfl (snd_name fo (i := 3) (by kernel_rfl) (.inl (by kernel_rfl)) (by kernel_rfl) (by kernel_rfl)) ar_nil)) (by kernel_rfl) (by kernel_rfl)) seq_nil) (seq_cons (st_expr (meth_append rfl (by kernel_rfl) (by kernel_rfl) (by kernel_rfl) (snd_name fo (i := 1) (by kernel_rfl) (.inl (by kernel_rfl)) (by kernel_rfl) (by kernel_rfl)) (ar_cons rfl (snd_name fo (i := 3) (by kernel_rfl) (.inl (by kernel_rfl)) (by kernel_rfl) (by kernel_rfl)) ar_nil)) (by kernel_rfl) (by kernel_rfl)) seq_nil)) seq_nil)) (fun _ => (by kernel_rfl)) (by decide)) (seq_cons (st_ret (snd_name fo (i := 1) (by kernel_rfl) (.inl (by kernel_rfl)) (by kernel_rfl) (by kernel_rfl))) seq_nil)))
theorem ok_law_family {G : Gl} (C : Ctx G) : COpR G 2 (.ref (adIn G.K "_law_family")) op_law_family :=
  fun_ok C.gok (k := 3) (ps := ["numbers"]) (bd := (bdPlain 1)) (b := b_law_family) (is_law_family C) sl_law_family (by decide +kernel) (fun x _ _ => nofree_of (names := (fScope (stAt PySem.Challenge.pw_mq0317_02 11)).names) (by kernel_rfl) x) (ps_of (names := (fScope (stAt PySem.Challenge.pw_mq0317_02 11)).names) (by kernel_rfl)) (bind_1 (fun _ => by kernel_rfl) C.d_law_family) (fun L fr fo fg => bd_law_family C fo fg)
noncomputable abbrev fd_law_worked_off (v : Parts) : FuncData := fdOf (stAt PySem.Challenge.pw_mq0317_02 12) "_law_worked_off" v
noncomputable abbrev sl_law_worked_off : List (Str × Nat) := [("family", 0), ("below", 1), ("sorter", 2), ("rounds", 3), ("words", 4), ("group", 5), ("mask", 6)]
theorem is_law_worked_off {G : Gl} (C : Ctx G) : FunIs G (adIn G.K "_law_worked_off") (fd_law_worked_off (ptIn G.K (adIn G.K "_law_worked_off"))) (fBody (stAt PySem.Challenge.pw_mq0317_02 12)) := funIs_of C.gok.inK C.i_law_worked_off (by kernel_rfl) (by kernel_rfl) (by kernel_rfl)
theorem bd_law_worked_off {G : Gl} (C : Ctx G) {v : Parts} {a L : Addr} {fr : List Env} (fo : FOk (funFrm (fd_law_worked_off v) a L sl_law_worked_off fr)) (fg : FOkG (funFrm (fd_law_worked_off v) a L sl_law_worked_off fr)) : SndF G (funFrm (fd_law_worked_off v) a L sl_law_worked_off fr) 7 (execs (fBody (stAt PySem.Challenge.pw_mq0317_02 12)) (callEnvC (fd_law_worked_off v) L a)) b_law_worked_off := by
  unfold b_law_worked_off
  exact (seq_cons (st_assign_dcomp fo fg (compOk_of (own := ["mask"]) (caps := [("family", 0)]) (by kernel_rfl) (by kernel_rfl) (by kernel_rfl) ⟨⟨(by kernel_rfl), (.inl (by kernel_rfl)), (by kernel_rfl)⟩, trivial⟩ (by decide +kernel)) (by kernel_rfl) (.inl (by kernel_rfl)) (by kernel_rfl)  rfl (by decide) (fun _ => (by kernel_rfl)) (snd_name fo (i := 0) (by kernel_rfl) (.inr (.inl (by kernel_rfl))) (by kernel_rfl) (by kernel_rfl)) (fun _ fo1 fg1 => ts_nil) (fun _ fo1 fg1 => (snd_name fo1 (i := 0) (by kernel_rfl) (.inr (.inl (by kernel_rfl))) (by kernel_rfl) (by kernel_rfl))) (fun _ fo1 fg1 => (snd_comp fo1 fg1 (compOk_of (own := ["low"]) (caps := [("mask", 0)]) (by kernel_rfl) (by kernel_rfl) (by kernel_rfl) ⟨⟨(by kernel_rfl), (.inl (by kernel_rfl)), (by kernel_rfl)⟩, trivial⟩ (by decide +kernel)) rfl (by decide) (fun _ => (by kernel_rfl)) (snd_name fo1 (i := 1) (by kernel_rfl) (.inr (.inl (by kernel_rfl))) (by kernel_rfl) (by kernel_rfl)) (fun _ fo2 fg2 => (ts_one (tst_bool (all_and (tst_cmp (snd_name fo2 (i := 0) (by kernel_rfl) (.inl (by kernel_rfl)) (by kernel_rfl) (by kernel_rfl)) (snd_name fo2 (i := 1) (by kernel_rfl) (.inr (.inl (by kernel_rfl))) (by kernel_rfl) (by kernel_rfl)) cLt_ok (by kernel_rfl)) (all_and (tst_val (truthR G _) (snd_call C.gok fo2 fg2 (is_is_single_bit C) (by kernel_rfl) C.g_is_single_bit (by kernel_rfl) rfl (by kernel_rfl) (ar_cons rfl (snd_bin (snd_name fo2 (i := 0) (by kernel_rfl) (.inl (by kernel_rfl)) (by kernel_rfl) (by kernel_rfl)) (snd_name fo2 (i := 1) (by kernel_rfl) (.inr (.inl (by kernel_rfl))) (by kernel_rfl) (by kernel_rfl)) oXor_ok) ar_nil) (FOpR.le (COpR.fop (ok_is_single_bit C)) (by decide))) rfl) all_and0))))) (fun _ fo2 fg2 => (snd_name fo2 (i := 0) (by kernel_rfl) (.inl (by kernel_rfl)) (by kernel_rfl) (by kernel_rfl)))))) (seq_cons (st_assign fo (by kernel_rfl) (.inl (by kernel_rfl)) (snd_new C.gok fo fg C.kpS (by kernel_rfl) C.fS (by kernel_rfl) rfl (by kernel_rfl) (ar_cons rfl (snd_name fo (i := 1) (by kernel_rfl) (.inl (by kernel_rfl)) (by kernel_rfl) (by kernel_rfl)) ar_nil) (FOpR.le (COpR.fop (mk_S C)) (by decide))) (by kernel_rfl)) (seq_cons (st_expr (snd_own C.gok C.cok (is_S_prepare C) C.me_S_prepare rfl (by kernel_rfl) (by kernel_rfl) (by kernel_rfl) (snd_name fo (i := 2) (by kernel_rfl) (.inl (by kernel_rfl)) (by kernel_rfl) (by kernel_rfl)) ar_nil (FOpR.le (COpR.fop (ok_S_prepare C)) (by decide))) (by kernel_rfl) (by kernel_rfl)) (seq_cons (st_assign fo (by kernel_rfl) (.inl (by kernel_rfl)) (snd_list ar_nil) (by kernel_rfl)) (seq_cons (st_assign fo (by kernel_rfl) (sto_fun (by kernel_rfl)) (snd_dict1 snd_int (snd_list (ar_cons rfl (snd_tup ar_nil) ar_nil))) (by kernel_rfl)) (seq_cons (st_while 1000 (tst_val (truthR G _) (snd_own C.gok C.cok (is_S_is_active C) C.me_S_is_active rfl (by kernel_rfl) (by kernel_rfl) (by kernel_rfl) (snd_name fo (i := 2) (by kernel_rfl) (.inl (by kernel_rfl)) (by kernel_rfl) (by kernel_rfl)) ar_nil (FOpR.le (COpR.fop (ok_S_is_active C)) (by decide))) rfl) (seq_cons (st_assign fo (by kernel_rfl) (.inl (by kernel_rfl)) (snd_own C.gok C.cok (is_S_get_ready C) C.me_S_get_ready rfl (by kernel_rfl) (by kernel_rfl) (by kernel_rfl) (snd_name fo (i := 2) (by kernel_rfl) (.inl (by kernel_rfl)) (by kernel_rfl) (by kernel_rfl)) ar_nil (FOpR.le (COpR.fop (ok_S_get_ready C)) (by decide))) (by kernel_rfl)) (seq_cons (st_expr (meth_append rfl (by kernel_rfl) (by kernel_rfl) (by kernel_rfl) (snd_name fo (i := 3) (by kernel_rfl) (.inl (by kernel_rfl)) (by kernel_rfl) (by kernel_rfl)) (ar_cons rfl (snd_bfun C.gok fo fg (f := .builtin "sorted") (.inl ⟨_, rfl⟩) (by kernel_rfl) (C.bi _ (by decide)) (by decide +kernel) (by decide) (by kernel_rfl) rfl (by kernel_rfl) (ar_cons rfl (snd_name fo (i := 5) (by kernel_rfl) (.inl (by kernel_rfl)) (by kernel_rfl) (by kernel_rfl)) ar_nil) (oSort2_ok (by decide))) ar_nil)) (by kernel_rfl) (by kernel_rfl)) (seq_cons (st_for fo (by kernel_rfl) (sto_fun (by kernel_rfl)) (snd_name fo (i := 5) (by kernel_rfl) (.inl (by kernel_rfl)) (by kernel_rfl) (by kernel_rfl)) (seq_cons (st_if (tst_cmp (snd_name fo (i := 6) (by kernel_rfl) (.inr (.inl (by kernel_rfl))) (by kernel_rfl) (by kernel_rfl)) snd_int cNe_ok (by kernel_rfl)) (seq_cons (st_setitem (snd_comp2 fo fg (compOk_of (own := ["low", "word"]) (caps := [("mask", 6), ("words", 4)]) (by kernel_rfl) (by kernel_rfl) (by kernel_rfl) ⟨⟨(by kernel_rfl), (.inl (by kernel_rfl)), (by kernel_rfl)⟩, ⟨⟨(by kernel_rfl), (.inl (by kernel_rfl)), (by kernel_rfl)⟩, trivial⟩⟩ (by decide +kernel)) (by decide +kernel) (by decide) (fun _ => (by kernel_rfl)) (snd_sub (snd_name fo (i := 1) (by kernel_rfl) (.inl (by kernel_rfl)) (by kernel_rfl) (by kernel_rfl)) (snd_name fo (i := 6) (by kernel_rfl) (.inr (.inl (by kernel_rfl))) (by kernel_rfl) (by kernel_rfl)) (fun _ _ => (by kernel_rfl))) (fun _ _ => (by kernel_rfl)) (fun _ fo1 fg1 => (meth_get rfl (by kernel_rfl) (by kernel_rfl) (by kernel_rfl) (snd_name fo1 (i := 3) (by kernel_rfl) (.inr (.inl (by kernel_rfl))) (by kernel_rfl) (by kernel_rfl)) (ar_cons rfl (snd_name fo1 (i := 0) (by kernel_rfl) (.inl (by kernel_rfl)) (by kernel_rfl) (by kernel_rfl)) (ar_cons rfl (snd_list ar_nil) ar_nil)))) (fun _ fo1 fg1 => (snd_bin (snd_name fo1 (i := 1) (by kernel_rfl) (.inl (by kernel_rfl)) (by kernel_rfl) (by kernel_rfl)) (snd_tup (ar_cons rfl (snd_call C.gok fo1 fg1 (is_high_bit C) (by kernel_rfl) C.g_high_bit (by kernel_rfl) rfl (by kernel_rfl) (ar_cons rfl (snd_bin (snd_name fo1 (i := 0) (by kernel_rfl) (.inl (by kernel_rfl)) (by kernel_rfl) (by kernel_rfl)) (snd_name fo1 (i := 2) (by kernel_rfl) (.inr (.inl (by kernel_rfl))) (by kernel_rfl) (by kernel_rfl)) oXor_ok) ar_nil) (FOpR.le (COpR.fop (ok_high_bit C)) (by decide))) ar_nil)) oAddT_ok))) (snd_name fo (i := 4) (by kernel_rfl) (.inr (.inl (by kernel_rfl))) (by kernel_rfl) (by kernel_rfl)) (snd_name fo (i := 6) (by kernel_rfl) (.inr (.inl (by kernel_rfl))) (by kernel_rfl) (by kernel_rfl)) (by kernel_rfl)) seq_nil) seq_nil) seq_nil) (fun _ => (by kernel_rfl)) (by decide)) (seq_cons (st_expr (snd_ownstar C.gok C.cok C.me_S_done rfl (by kernel_rfl) (by kernel_rfl) (snd_name fo (i := 2) (by kernel_rfl) (.inl (by kernel_rfl)) (by kernel_rfl) (by kernel_rfl)) (sa_star rfl (snd_name fo (i := 5) (by kernel_rfl) (.inl (by kernel_rfl)) (by kernel_rfl) (by kernel_rfl))) (COpR.le (ok_S_done C) (by decide))) (by kernel_rfl) (by kernel_rfl)) seq_nil)))) seq_nil) (seq_cons (st_ret (snd_list (ar_cons rfl (snd_name fo (i := 3) (by kernel_rfl) (.inl (by kernel_rfl)) (by kernel_rfl) (by kernel_rfl)) (ar_cons rfl (snd_dcomp fo fg (compOk_of (own := ["mask"]) (caps := [("words", 4)]) (by kernel_rfl) (by kernel_rfl) (by kernel_rfl) ⟨⟨(by kernel_rfl), (.inl (by kernel_rfl)), (by kernel_rfl)⟩, trivial⟩ (by decide +kernel)) rfl (by decide) (fun _ => (by kernel_rfl)) (snd_name fo (i := 4) (by kernel_rfl) (.inr (.inl (by kernel_rfl))) (by kernel_rfl) (by kernel_rfl)) (fun _ fo1 fg1 => ts_nil) (fun _ fo1 fg1 => (snd_name fo1 (i := 0) (by kernel_rfl) (.inl (by kernel_rfl)) (by kernel_rfl) (by kernel_rfl))) (fun _ fo1 fg1 => (snd_bfun C.gok fo1 fg1 (f := .builtin "sorted") (.inl ⟨_, rfl⟩) (by kernel_rfl) (C.bi _ (by decide)) (by decide +kernel) (by decide) (by kernel_rfl) rfl (by kernel_rfl) (ar_cons rfl (snd_sub (snd_name fo1 (i := 1) (by kernel_rfl) (.inr (.inl (by kernel_rfl))) (by kernel_rfl) (by kernel_rfl)) (snd_name fo1 (i := 0) (by kernel_rfl) (.inl (by kernel_rfl)) (by kernel_rfl) (by kernel_rfl)) (fun _ _ => (by kernel_rfl))) ar_nil) (oSort2_ok (by decide))))) ar_nil)))) seq_nil)))))))
theorem ok_law_worked_off {G : Gl} (C : Ctx G) : COpR G 8 (.ref (adIn G.K "_law_worked_off")) op_law_worked_off :=
  fun_ok C.gok (k := 6) (ps := ["family"]) (bd := (bdPlain 1)) (b := b_law_worked_off) (is_law_worked_off C) sl_law_worked_off (by decide +kernel) (fun x _ _ => nofree_of (names := (fScope (stAt PySem.Challenge.pw_mq0317_02 12)).names) (by kernel_rfl) x) (ps_of (names := (fScope (stAt PySem.Challenge.pw_mq0317_02 12)).names) (by kernel_rfl)) (bind_1 (fun _ => by kernel_rfl) C.d_law_worked_off) (fun L fr fo fg => bd_law_worked_off C fo fg)
noncomputable abbrev fd_law_spelled (v : Parts) : FuncData := fdOf (stAt PySem.Challenge.pw_mq0317_02 13) "_law_spelled" v
noncomputable abbrev sl_law_spelled : List (Str × Nat) := [("family", 0), ("words", 1), ("a", 2), ("b", 3), ("c", 4), ("order", 5), ("mask", 6), ("k", 7)]
theorem is_law_spelled {G : Gl} (C : Ctx G) : FunIs G (adIn G.K "_law_spelled") (fd_law_spelled (ptIn G.K (adIn G.K "_law_spelled"))) (fBody (stAt PySem.Challenge.pw_mq0317_02 13)) := funIs_of C.gok.inK C.i_law_spelled (by kernel_rfl) (by kernel_rfl) (by kernel_rfl)
theorem bd_law_spelled {G : Gl} (C : Ctx G) {v : Parts} {a L : Addr} {fr : List Env} (fo : FOk (funFrm (fd_law_spelled v) a L sl_law_spelled fr)) (fg : FOkG (funFrm (fd_law_spelled v) a L sl_law_spelled fr)) : SndF G (funFrm (fd_law_spelled v) a L sl_law_spelled fr) 1 (execs (fBody (stAt PySem.Challenge.pw_mq0317_02 13)) (callEnvC (fd_law_spelled v) L a)) b_law_spelled := by
  unfold b_law_spelled
  exact (seq_cons (st_assign_dcomp fo fg (compOk_of (own := ["mask"]) (caps := []) (by kernel_rfl) (by kernel_rfl) (by kernel_rfl) trivial (by decide +kernel)) (by kernel_rfl) (.inl (by kernel_rfl)) (by kernel_rfl)  rfl (by decide) (fun _ => (by kernel_rfl)) (snd_name fo (i := 0) (by kernel_rfl) (.inl (by kernel_rfl)) (by kernel_rfl) (by kernel_rfl)) (fun _ fo1 fg1 => ts_nil) (fun _ fo1 fg1 => (snd_name fo1 (i := 0) (by kernel_rfl) (.inl (by kernel_rfl)) (by kernel_rfl) (by kernel_rfl))) (fun _ fo1 fg1 => (snd_list ar_nil))) (seq_cons (st_expr (meth_append rfl (by kernel_rfl) (by kernel_rfl) (by kernel_rfl) (snd_sub (snd_name fo (i := 1) (by kernel_rfl) (.inl (by kernel_rfl)) (by kernel_rfl) (by kernel_rfl)) snd_int (fun _ _ => (by kernel_rfl))) (ar_cons rfl (snd_tup ar_nil) ar_nil)) (by kernel_rfl) (by kernel_rfl)) (seq_cons (st_for fo (by kernel_rfl) (.inl (by kernel_rfl)) (snd_bfun C.gok fo fg (f := .type "range") (.inr ⟨_, rfl⟩) (by kernel_rfl) (C.bi _ (by decide)) (by decide +kernel) (by decide) (by kernel_rfl) rfl (by kernel_rfl) (ar_cons rfl snd_int ar_nil) oRange_ok) (seq_cons (st_for fo (by kernel_rfl) (.inl (by kernel_rfl)) (snd_bfun C.gok fo fg (f := .type "range") (.inr ⟨_, rfl⟩) (by kernel_rfl) (C.bi _ (by decide)) (by decide +kernel) (by decide) (by kernel_rfl) rfl (by kernel_rfl) (ar_cons rfl snd_int ar_nil) oRange_ok) (seq_cons (st_for fo (by kernel_rfl) (.inl (by kernel_rfl)) (snd_bfun C.gok fo fg (f := .type "range") (.inr ⟨_, rfl⟩) (by kernel_rfl) (C.bi _ (by decide)) (by decide +kernel) (by decide) (by kernel_rfl) rfl (by kernel_rfl) (ar_cons rfl snd_int ar_nil) oRange_ok) (seq_cons (st_if (tst_bool (all_and (tst_cmp (snd_name fo (i := 2) (by kernel_rfl) (.inl (by kernel_rfl)) (by kernel_rfl) (by kernel_rfl)) (snd_name fo (i := 3) (by kernel_rfl) (.inl (by kernel_rfl)) (by kernel_rfl) (by kernel_rfl)) cNe_ok (by kernel_rfl)) (all_and (tst_cmp (snd_name fo (i := 2) (by kernel_rfl) (.inl (by kernel_rfl)) (by kernel_rfl) (by kernel_rfl)) (snd_name fo (i := 4) (by kernel_rfl) (.inl (by kernel_rfl)) (by kernel_rfl) (by kernel_rfl)) cNe_ok (by kernel_rfl)) (all_and (tst_cmp (snd_name fo (i := 3) (by kernel_rfl) (.inl (by kernel_rfl)) (by kernel_rfl) (by kernel_rfl)) (snd_name fo (i := 4) (by kernel_rfl) (.inl (by kernel_rfl)) (by kernel_rfl) (by kernel_rfl)) cNe_ok (by kernel_rfl)) all_and0)))) (seq_cons (st_assign fo (by kernel_rfl) (.inl (by kernel_rfl)) (snd_tup (ar_cons rfl (snd_name fo (i := 2) (by kernel_rfl) (.inl (by kernel_rfl)) (by kernel_rfl) (by kernel_rfl)) (ar_cons rfl (snd_name fo (i := 3) (by kernel_rfl) (.inl (by kernel_rfl)) (by kernel_rfl) (by kernel_rfl)) (ar_cons rfl (snd_name fo (i := 4) (by kernel_rfl) (.inl (by kernel_rfl)) (by kernel_rfl) (by kernel_rfl)) (ar_cons rfl (snd_bin (snd_bin (snd_bin snd_int (snd_name fo (i := 2) (by kernel_rfl) (.inl (by kernel_rfl)) (by kernel_rfl) (by kernel_rfl)) oSub_ok) (snd_name fo (i := 3) (by kernel_rfl) (.inl (by kernel_rfl)) (by kernel_rfl) (by kernel_rfl)) oSub_ok) (snd_name fo (i := 4) (by kernel_rfl) (.inl (by kernel_rfl)) (by kernel_rfl) (by kernel_rfl)) oSub_ok) ar_nil))))) (by kernel_rfl)) (seq_cons (st_assign fo (by kernel_rfl) (.inl (by kernel_rfl)) snd_int (by kernel_rfl)) (seq_cons (st_for fo (by kernel_rfl) (.inl (by kernel_rfl)) (snd_bfun C.gok fo fg (f := .type "range") (.inr ⟨_, rfl⟩) (by kernel_rfl) (C.bi _ (by decide)) (by decide +kernel) (by decide) (by kernel_rfl) rfl (by kernel_rfl) (ar_cons rfl snd_int ar_nil) oRange_ok) (seq_cons (st_assign fo (by kernel_rfl) (.inl (by kernel_rfl)) (snd_bin (snd_name fo (i := 6) (by kernel_rfl) (.inl (by kernel_rfl)) (by kernel_rfl) (by kernel_rfl)) (snd_bin snd_int (snd_sub (snd_name fo (i := 5) (by kernel_rfl) (.inl (by kernel_rfl)) (by kernel_rfl) (by kernel_rfl)) (snd_name fo (i := 7) (by kernel_rfl) (.inl (by kernel_rfl)) (by kernel_rfl) (by kernel_rfl)) (fun _ _ => (by kernel_rfl))) oPow_ok) oAddT_ok) (by kernel_rfl)) (seq_cons (st_if (tst_cmp (snd_name fo (i := 6) (by kernel_rfl) (.inl (by kernel_rfl)) (by kernel_rfl) (by kernel_rfl)) (snd_name fo (i := 1) (by kernel_rfl) (.inl (by kernel_rfl)) (by kernel_rfl) (by kernel_rfl)) cNotIn_ok (by kernel_rfl)) (seq_cons st_brk seq_nil) seq_nil) (seq_cons (st_if (tst_cmp (snd_takeT (snd_name fo (i := 5) (by kernel_rfl) (.inl (by kernel_rfl)) (by kernel_rfl) (by kernel_rfl)) (snd_bin (snd_name fo (i := 7) (by kernel_rfl) (.inl (by kernel_rfl)) (by kernel_rfl) (by kernel_rfl)) snd_int oAddT_ok) (fun _ _ => (by kernel_rfl)) (fun _ _ => (by kernel_rfl))) (snd_sub (snd_name fo (i := 1) (by kernel_rfl) (.inl (by kernel_rfl)) (by kernel_rfl) (by kernel_rfl)) (snd_name fo (i := 6) (by kernel_rfl) (.inl (by kernel_rfl)) (by kernel_rfl) (by kernel_rfl)) (fun _ _ => (by kernel_rfl))) cNotIn_ok (by kernel_rfl)) (seq_cons (st_expr (meth_append rfl (by kernel_rfl) (by kernel_rfl) (by kernel_rfl) (snd_sub (snd_name fo (i := 1) (by kernel_rfl) (.inl (by kernel_rfl)) (by kernel_rfl) (by kernel_rfl)) (snd_name fo (i := 6) (by kernel_rfl) (.inl (by kernel_rfl)) (by kernel_rfl) (by kernel_rfl)) (fun _ _ => (by kernel_rfl))) (ar_cons rfl (snd_takeT (snd_name fo (i := 5) (by kernel_rfl) (.inl (by kernel_rfl)) (by kernel_rfl) (by kernel_rfl)) (snd_bin (snd_name fo (i := 7) (by kernel_rfl) (.inl (by kernel_rfl)) (by kernel_rfl) (by kernel_rfl)) snd_int oAddT_ok) (fun _ _ => (by kernel_rfl)) (fun _ _ => (by kernel_rfl))) ar_nil)) (by kernel_rfl) (by kernel_rfl)) seq_nil) seq_nil) seq_nil))) (fun _ => (by kernel_rfl)) (by decide)) seq_nil))) seq_nil) seq_nil) (fun _ => (by kernel_rfl)) (by decide)) seq_nil) (fun _ => (by kernel_rfl)) (by decide)) seq_nil) (fun _ => (by kernel_rfl)) (by decide)) (seq_cons (st_ret (snd_name fo (i := 1) (by kernel_rfl) (.inl (by kernel_rfl)) (by kernel_rfl) (by kernel_rfl))) seq_nil))))
theorem ok_law_spelled {G : Gl} (C : Ctx G) : COpR G 2 (.ref (adIn G.K "_law_spelled")) op_law_spelled :=
  fun_ok C.gok (k := 7) (ps := ["family"]) (bd := (bdPlain 1)) (b := b_law_spelled) (is_law_spelled C) sl_law_spelled (by decide +kernel) (fun x _ _ => nofree_of (names := (fScope (stAt PySem.Challenge.pw_mq0317_02 13)).names) (by kernel_rfl) x) (ps_of (names := (fScope (stAt PySem.Challenge.pw_mq0317_02 13)).names) (by kernel_rfl)) (bind_1 (fun _ => by kernel_rfl) C.d_law_spelled) (fun L fr fo fg => bd_law_spelled C fo fg)
noncomputable abbrev fd_law_rounds (v : Parts) : FuncData := fdOf (stAt PySem.Challenge.pw_mq0317_02 14) "_law_rounds" v
noncomputable abbrev sl_law_rounds : List (Str × Nat) := [("family", 0), ("steps", 1), ("mask", 2), ("lower", 3)]
theorem is_law_rounds {G : Gl} (C : Ctx G) : FunIs G (adIn G.K "_law_rounds") (fd_law_rounds (ptIn G.K (adIn G.K "_law_rounds"))) (fBody (stAt PySem.Challenge.pw_mq0317_02 14)) := funIs_of C.gok.inK C.i_law_rounds (by kernel_rfl) (by kernel_rfl) (by kernel_rfl)
theorem bd_law_rounds {G : Gl} (C : Ctx G) {v : Parts} {a L : Addr} {fr : List Env} (fo : FOk (funFrm (fd_law_rounds v) a L sl_law_rounds fr)) (fg : FOkG (funFrm (fd_law_rounds v) a L sl_law_rounds fr)) : SndF G (funFrm (fd_law_rounds v) a L sl_law_rounds fr) 1 (execs (fBody (stAt PySem.Challenge.pw_mq0317_02 14)) (callEnvC (fd_law_rounds v) L a)) b_law_rounds := by
  unfold b_law_rounds
  exact (seq_cons (st_assign fo (by kernel_rfl) (sto_fun (by kernel_rfl)) snd_dict0 (by kernel_rfl)) (seq_cons (st_for fo (by kernel_rfl) (sto_fun (by kernel_rfl)) (snd_bfun C.gok fo fg (f := .builtin "sorted") (.inl ⟨_, rfl⟩) (by kernel_rfl) (C.bi _ (by decide)) (by decide +kernel) (by decide) (by kernel_rfl) rfl (by kernel_rfl) (ar_cons rfl (snd_name fo (i := 0) (by kernel_rfl) (.inr (.inl (by kernel_rfl))) (by kernel_rfl) (by kernel_rfl)) ar_nil) (oSort2_ok (by decide))) (seq_cons (st_assign_comp fo fg (compOk_of (own := ["one"]) (caps := [("mask", 2)]) (by kernel_rfl) (by kernel_rfl) (by kernel_rfl) ⟨⟨(by kernel_rfl), (.inl (by kernel_rfl)), (by kernel_rfl)⟩, trivial⟩ (by decide +kernel)) (by kernel_rfl) (.inl (by kernel_rfl)) (by kernel_rfl)  rfl (by decide) (fun _ => (by kernel_rfl)) (snd_list (ar_cons rfl snd_int (ar_cons rfl snd_int (ar_cons rfl snd_int (ar_cons rfl snd_int ar_nil))))) (fun _ fo1 fg1 => (ts_one (tst_cmp (snd_bin (snd_bin (snd_name fo1 (i := 1) (by kernel_rfl) (.inr (.inl (by kernel_rfl))) (by kernel_rfl) (by kernel_rfl)) (snd_name fo1 (i := 0) (by kernel_rfl) (.inl (by kernel_rfl)) (by kernel_rfl) (by kernel_rfl)) oDiv_ok) snd_int oMod_ok) snd_int cEq_ok (by kernel_rfl)))) (fun _ fo1 fg1 => (snd_bin (snd_name fo1 (i := 1) (by kernel_rfl) (.inr (.inl (by kernel_rfl))) (by kernel_rfl) (by kernel_rfl)) (snd_name fo1 (i := 0) (by kernel_rfl) (.inl (by kernel_rfl)) (by kernel_rfl) (by kernel_rfl)) oSub_ok))) (seq_cons (st_setitem (snd_bfun C.gok fo fg (f := .builtin "max") (.inl ⟨_, rfl⟩) (by kernel_rfl) (C.bi _ (by decide)) (by decide +kernel) (by decide) (by kernel_rfl) rfl (by kernel_rfl) (ar_cons rfl (snd_bin (snd_list (ar_cons rfl snd_int ar_nil)) (snd_comp fo fg (compOk_of (own := ["low"]) (caps := [("steps", 1)]) (by kernel_rfl) (by kernel_rfl) (by kernel_rfl) ⟨⟨(by kernel_rfl), (.inl (by kernel_rfl)), (by kernel_rfl)⟩, trivial⟩ (by decide +kernel)) rfl (by decide) (fun _ => (by kernel_rfl)) (snd_name fo (i := 3) (by kernel_rfl) (.inl (by kernel_rfl)) (by kernel_rfl) (by kernel_rfl)) (fun _ fo1 fg1 => (ts_one (tst_cmp (snd_name fo1 (i := 0) (by kernel_rfl) (.inl (by kernel_rfl)) (by kernel_rfl) (by kernel_rfl)) (snd_name fo1 (i := 1) (by kernel_rfl) (.inr (.inl (by kernel_rfl))) (by kernel_rfl) (by kernel_rfl)) cIn_ok (by kernel_rfl)))) (fun _ fo1 fg1 => (snd_bin (snd_sub (snd_name fo1 (i := 1) (by kernel_rfl) (.inr (.inl (by kernel_rfl))) (by kernel_rfl) (by kernel_rfl)) (snd_name fo1 (i := 0) (by kernel_rfl) (.inl (by kernel_rfl)) (by kernel_rfl) (by kernel_rfl)) (fun _ _ => (by kernel_rfl))) snd_int oAddT_ok))) oAddT_ok) ar_nil) (oMax_ok (by decide))) (snd_name fo (i := 1) (by kernel_rfl) (.inr (.inl (by kernel_rfl))) (by kernel_rfl) (by kernel_rfl)) (snd_name fo (i := 2) (by kernel_rfl) (.inr (.inl (by kernel_rfl))) (by kernel_rfl) (by kernel_rfl)) (by kernel_rfl)) seq_nil)) (fun _ => (by kernel_rfl)) (by decide)) (seq_cons (st_ret (snd_comp fo fg (compOk_of (own := ["k"]) (caps := [("family", 0), ("steps", 1)]) (by kernel_rfl) (by kernel_rfl) (by kernel_rfl) ⟨⟨(by kernel_rfl), (.inl (by kernel_rfl)), (by kernel_rfl)⟩, ⟨⟨(by kernel_rfl), (.inl (by kernel_rfl)), (by kernel_rfl)⟩, trivial⟩⟩ (by decide +kernel)) rfl (by decide) (fun _ => (by kernel_rfl)) (snd_bfun C.gok fo fg (f := .type "range") (.inr ⟨_, rfl⟩) (by kernel_rfl) (C.bi _ (by decide)) (by decide +kernel) (by decide) (by kernel_rfl) rfl (by kernel_rfl) (ar_cons rfl (snd_bin (snd_bfun C.gok fo fg (f := .builtin "max") (.inl ⟨_, rfl⟩) (by kernel_rfl) (C.bi _ (by decide)) (by decide +kernel) (by decide) (by kernel_rfl) rfl (by kernel_rfl) (ar_cons rfl (meth_values rfl (by kernel_rfl) (by kernel_rfl) (by kernel_rfl) (snd_name fo (i := 1) (by kernel_rfl) (.inr (.inl (by kernel_rfl))) (by kernel_rfl) (by kernel_rfl)) ar_nil) ar_nil) (oMax_ok (by decide))) snd_int oAddT_ok) ar_nil) oRange_ok) (fun _ fo1 fg1 => ts_nil) (fun _ fo1 fg1 => (snd_comp fo1 fg1 (compOk_of (own := ["mask"]) (caps := [("k", 0), ("steps", 2)]) (by kernel_rfl) (by kernel_rfl) (by kernel_rfl) ⟨⟨(by kernel_rfl), (.inl (by kernel_rfl)), (by kernel_rfl)⟩, ⟨⟨(by kernel_rfl), (.inl (by kernel_rfl)), (by kernel_rfl)⟩, trivial⟩⟩ (by decide +kernel)) rfl (by decide) (fun _ => (by kernel_rfl)) (snd_bfun C.gok fo1 fg1 (f := .builtin "sorted") (.inl ⟨_, rfl⟩) (by kernel_rfl) (C.bi _ (by decide)) (by decide +kernel) (by decide) (by kernel_rfl) rfl (by kernel_rfl) (ar_cons rfl (snd_name fo1 (i := 1) (by kernel_rfl) (.inr (.inl (by kernel_rfl))) (by kernel_rfl) (by kernel_rfl)) ar_nil) (oSort2_ok (by decide))) (fun _ fo2 fg2 => (ts_one (tst_cmp (snd_sub (snd_name fo2 (i := 2) (by kernel_rfl) (.inr (.inl (by kernel_rfl))) (by kernel_rfl) (by kernel_rfl)) (snd_name fo2 (i := 0) (by kernel_rfl) (.inl (by kernel_rfl)) (by kernel_rfl) (by kernel_rfl)) (fun _ _ => (by kernel_rfl))) (snd_name fo2 (i := 1) (by kernel_rfl) (.inr (.inl (by kernel_rfl))) (by kernel_rfl) (by kernel_rfl)) cEq_ok (by kernel_rfl)))) (fun _ fo2 fg2 => (snd_name fo2 (i := 0) (by kernel_rfl) (.inl (by kernel_rfl)) (by kernel_rfl) (by kernel_rfl))))))) seq_nil)))
theorem ok_law_rounds {G : Gl} (C : Ctx G) : COpR G 2 (.ref (adIn G.K "_law_rounds")) op_law_rounds :=
  fun_ok C.gok (k := 3) (ps := ["family"]) (bd := (bdPlain 1)) (b := b_law_rounds) (is_law_rounds C) sl_law_rounds (by decide +kernel) (fun x _ _ => nofree_of (names := (fScope (stAt PySem.Challenge.pw_mq0317_02 14)).names) (by kernel_rfl) x) (ps_of (names := (fScope (stAt PySem.Challenge.pw_mq0317_02 14)).names) (by kernel_rfl)) (bind_1 (fun _ => by kernel_rfl) C.d_law_rounds) (fun L fr fo fg => bd_law_rounds C fo fg)
noncomputable abbrev fd_law (v : Parts) : FuncData := fdOf (stAt PySem.Challenge.pw_mq0317_02 15) "law" v
noncomputable abbrev sl_law : List (Str × Nat) := [("script", 0), ("family", 1), ("told", 2)]
theorem is_law {G : Gl} (C : Ctx G) : FunIs G (adIn G.K "law") (fd_law (ptIn G.K (adIn G.K "law"))) (fBody (stAt PySem.Challenge.pw_mq0317_02 15)) := funIs_of C.gok.inK C.i_law (by kernel_rfl) (by kernel_rfl) (by kernel_rfl)
theorem bd_law {G : Gl} (C : Ctx G) {v : Parts} {a L : Addr} {fr : List Env} (fo : FOk (funFrm (fd_law v) a L sl_law fr)) (fg : FOkG (funFrm (fd_law v) a L sl_law fr)) : SndF G (funFrm (fd_law v) a L sl_law fr) 8 (execs (fBody (stAt PySem.Challenge.pw_mq0317_02 15)) (callEnvC (fd_law v) L a)) b_law := by
  unfold b_law
  exact (seq_cons (st_assign fo (by kernel_rfl) (.inl (by kernel_rfl)) (snd_call C.gok fo fg (is_law_family C) (by kernel_rfl) C.g_law_family (by kernel_rfl) rfl (by kernel_rfl) (ar_cons rfl (snd_comp fo fg (compOk_of (own := ["x"]) (caps := []) (by kernel_rfl) (by kernel_rfl) (by kernel_rfl) trivial (by decide +kernel)) rfl (by decide) (fun _ => (by kernel_rfl)) (snd_take (snd_name fo (i := 0) (by kernel_rfl) (.inl (by kernel_rfl)) (by kernel_rfl) (by kernel_rfl)) snd_int (fun _ _ => (by kernel_rfl)) (fun _ _ => (by kernel_rfl))) (fun _ fo1 fg1 => ts_nil) (fun _ fo1 fg1 => (snd_bin (snd_name fo1 (i := 0) (by kernel_rfl) (.inl (by kernel_rfl)) (by kernel_rfl) (by kernel_rfl)) snd_int oMod_ok))) ar_nil) (FOpR.le (COpR.fop (ok_law_family C)) (by decide))) (by kernel_rfl)) (seq_cons (st_assign fo (by kernel_rfl) (.inl (by kernel_rfl)) (snd_call C.gok fo fg (is_law_worked_off C) (by kernel_rfl) C.g_law_worked_off (by kernel_rfl) rfl (by kernel_rfl) (ar_cons rfl (snd_name fo (i := 1) (by kernel_rfl) (.inl (by kernel_rfl)) (by kernel_rfl) (by kernel_rfl)) ar_nil) (FOpR.le (COpR.fop (ok_law_worked_off C)) (by decide))) (by kernel_rfl)) (seq_cons (st_ret (snd_and (truthR G _) (snd_cmp (snd_sub (snd_name fo (i := 2) (by kernel_rfl) (.inl (by kernel_rfl)) (by kernel_rfl) (by kernel_rfl)) snd_int (fun _ _ => (by kernel_rfl))) (snd_call C.gok fo fg (is_law_spelled C) (by kernel_rfl) C.g_law_spelled (by kernel_rfl) rfl (by kernel_rfl) (ar_cons rfl (snd_name fo (i := 1) (by kernel_rfl) (.inl (by kernel_rfl)) (by kernel_rfl) (by kernel_rfl)) ar_nil) (FOpR.le (COpR.fop (ok_law_spelled C)) (by decide))) cEq_ok (by kernel_rfl)) (snd_cmp (snd_sub (snd_name fo (i := 2) (by kernel_rfl) (.inl (by kernel_rfl)) (by kernel_rfl) (by kernel_rfl)) snd_int (fun _ _ => (by kernel_rfl))) (snd_call C.gok fo fg (is_law_rounds C) (by kernel_rfl) C.g_law_rounds (by kernel_rfl) rfl (by kernel_rfl) (ar_cons rfl (snd_name fo (i := 1) (by kernel_rfl) (.inl (by kernel_rfl)) (by kernel_rfl) (by kernel_rfl)) ar_nil) (FOpR.le (COpR.fop (ok_law_rounds C)) (by decide))) cEq_ok (by kernel_rfl)))) seq_nil)))
structure KFact (K : Frag) : Prop where
  bi : (biNames.all fun x => nsIn K mainGlobals x == some none) = true
  gTopologicalSorter : nsIn K mainGlobals "TopologicalSorter" = some (some (.ref (adIn K "TopologicalSorter")))
  kpTopologicalSorter : keepIn K (.ref (adIn K "TopologicalSorter")) = true
  mTopologicalSorter : makesIn K (adIn K "TopologicalSorter") = true
  g_NodeInfo : nsIn K mainGlobals "_NodeInfo" = some (some (.ref (adIn K "_NodeInfo")))
  kp_NodeInfo : keepIn K (.ref (adIn K "_NodeInfo")) = true
  m_NodeInfo : makesIn K (adIn K "_NodeInfo") = true
  k_NODE_OUT : nsIn K mainGlobals "_NODE_OUT" = some (some (.int (-1) (tokIn K "_NODE_OUT")))
  k_NODE_DONE : nsIn K mainGlobals "_NODE_DONE" = some (some (.int (-2) (tokIn K "_NODE_DONE")))
  cls : ClsK K (adIn K "TopologicalSorter") (adIn K "_NodeInfo")
  i_is_single_bit : isFun K (adIn K "_is_single_bit") (stAt PySem.Challenge.pw_mq0317_02 2) "_is_single_bit"
  g_is_single_bit : nsIn K mainGlobals "_is_single_bit" = some (some (.ref (adIn K "_is_single_bit")))
  d_is_single_bit : (ptIn K (adIn K "_is_single_bit")).dV = .none
  i_high_bit : isFun K (adIn K "_high_bit") (stAt PySem.Challenge.pw_mq0317_02 3) "_high_bit"
  g_high_bit : nsIn K mainGlobals "_high_bit" = some (some (.ref (adIn K "_high_bit")))
  d_high_bit : (ptIn K (adIn K "_high_bit")).dV = .none
  i_N_init : isFun K (meIn K (adIn K "_NodeInfo") "__init__") (stIn (stAt PySem.Challenge.pw_mq0317_02 7) 1) "_NodeInfo.__init__"
  f_N_init : findIn K (.ref (adIn K "_NodeInfo")) "__init__" = some (some (.ref (meIn K (adIn K "_NodeInfo") "__init__")))
  t_N_init : typeIn K (.ref (meIn K (adIn K "_NodeInfo") "__init__")) = some (.type "function")
  d_N_init : (ptIn K (meIn K (adIn K "_NodeInfo") "__init__")).dV = .none
  i_S_get_nodeinfo : isFun K (meIn K (adIn K "TopologicalSorter") "_get_nodeinfo") (stIn (stAt PySem.Challenge.pw_mq0317_02 9) 1) "TopologicalSorter._get_nodeinfo"
  me_S_get_nodeinfo : MethK K (adIn K "TopologicalSorter") "_get_nodeinfo"
  d_S_get_nodeinfo : (ptIn K (meIn K (adIn K "TopologicalSorter") "_get_nodeinfo")).dV = .none
  i_S_add : isFun K (meIn K (adIn K "TopologicalSorter") "add") (stIn (stAt PySem.Challenge.pw_mq0317_02 9) 2) "TopologicalSorter.add"
  me_S_add : MethK K (adIn K "TopologicalSorter") "add"
  d_S_add : (ptIn K (meIn K (adIn K "TopologicalSorter") "add")).dV = .none
  i_S_init : isFun K (meIn K (adIn K "TopologicalSorter") "__init__") (stIn (stAt PySem.Challenge.pw_mq0317_02 9) 0) "TopologicalSorter.__init__"
  f_S_init : findIn K (.ref (adIn K "TopologicalSorter")) "__init__" = some (some (.ref (meIn K (adIn K "TopologicalSorter") "__init__")))
  t_S_init : typeIn K (.ref (meIn K (adIn K "TopologicalSorter") "__init__")) = some (.type "function")
  d_S_init : (ptIn K (meIn K (adIn K "TopologicalSorter") "__init__")).dV = .ref (dvIn K (meIn K (adIn K "TopologicalSorter") "__init__")) ∧ seq1 K (dvIn K (meIn K (adIn K "TopologicalSorter") "__init__")) = true
  i_S_find_cycle : isFun K (meIn K (adIn K "TopologicalSorter") "_find_cycle") (stIn (stAt PySem.Challenge.pw_mq0317_02 9) 8) "TopologicalSorter._find_cycle"
  me_S_find_cycle : MethK K (adIn K "TopologicalSorter") "_find_cycle"
  d_S_find_cycle : (ptIn K (meIn K (adIn K "TopologicalSorter") "_find_cycle")).dV = .none
  i_S_prepare : isFun K (meIn K (adIn K "TopologicalSorter") "prepare") (stIn (stAt PySem.Challenge.pw_mq0317_02 9) 3) "TopologicalSorter.prepare"
  me_S_prepare : MethK K (adIn K "TopologicalSorter") "prepare"
  d_S_prepare : (ptIn K (meIn K (adIn K "TopologicalSorter") "prepare")).dV = .none
  i_S_get_ready : isFun K (meIn K (adIn K "TopologicalSorter") "get_ready") (stIn (stAt PySem.Challenge.pw_mq0317_02 9) 4) "TopologicalSorter.get_ready"
  me_S_get_ready : MethK K (adIn K "TopologicalSorter") "get_ready"
  d_S_get_ready : (ptIn K (meIn K (adIn K "TopologicalSorter") "get_ready")).dV = .none
  i_S_is_active : isFun K (meIn K (adIn K "TopologicalSorter") "is_active") (stIn (stAt PySem.Challenge.pw_mq0317_02 9) 5) "TopologicalSorter.is_active"
  me_S_is_active : MethK K (adIn K "TopologicalSorter") "is_active"
  d_S_is_active : (ptIn K (meIn K (adIn K "TopologicalSorter") "is_active")).dV = .none
  i_S_done : isFun K (meIn K (adIn K "TopologicalSorter") "done") (stIn (stAt PySem.Challenge.pw_mq0317_02 9) 7) "TopologicalSorter.done"
  me_S_done : MethK K (adIn K "TopologicalSorter") "done"
  d_S_done : (ptIn K (meIn K (adIn K "TopologicalSorter") "done")).dV = .none
  i_law_family : isFun K (adIn K "_law_family") (stAt PySem.Challenge.pw_mq0317_02 11) "_law_family"
  g_law_family : nsIn K mainGlobals "_law_family" = some (some (.ref (adIn K "_law_family")))
  d_law_family : (ptIn K (adIn K "_law_family")).dV = .none
  i_law_worked_off : isFun K (adIn K "_law_worked_off") (stAt PySem.Challenge.pw_mq0317_02 12) "_law_worked_off"
  g_law_worked_off : nsIn K mainGlobals "_law_worked_off" = some (some (.ref (adIn K "_law_worked_off")))
  d_law_worked_off : (ptIn K (adIn K "_law_worked_off")).dV = .none
  i_law_spelled : isFun K (adIn K "_law_spelled") (stAt PySem.Challenge.pw_mq0317_02 13) "_law_spelled"
  g_law_spelled : nsIn K mainGlobals "_law_spelled" = some (some (.ref (adIn K "_law_spelled")))
  d_law_spelled : (ptIn K (adIn K "_law_spelled")).dV = .none
  i_law_rounds : isFun K (adIn K "_law_rounds") (stAt PySem.Challenge.pw_mq0317_02 14) "_law_rounds"
  g_law_rounds : nsIn K mainGlobals "_law_rounds" = some (some (.ref (adIn K "_law_rounds")))
  d_law_rounds : (ptIn K (adIn K "_law_rounds")).dV = .none
  i_law : isFun K (adIn K "law") (stAt PySem.Challenge.pw_mq0317_02 15) "law"
  g_law : nsIn K mainGlobals "law" = some (some (.ref (adIn K "law")))
  d_law : (ptIn K (adIn K "law")).dV = .none
theorem ctx_of {G : Gl} (gok : GOk G) (hC : G.C = adIn G.K "TopologicalSorter") (hN : G.CN = adIn G.K "_NodeInfo") (h : KFact G.K) : Ctx G := by
  have X := gok.inK
  obtain ⟨prog, w, K, hb, C, CN, mg, mb⟩ := G
  dsimp only at hC hN h X
  subst hC hN
  exact {
    gok := gok
    cok := cls_of h.cls
    bi := fun x hx => mg_none_of X gok.ng (by have := List.all_eq_true.mp h.bi x hx; simpa using this)
    fS := mg_of X gok.ng h.gTopologicalSorter
    fN := mg_of X gok.ng h.g_NodeInfo
    kpS := h.kpTopologicalSorter
    kpN := h.kp_NodeInfo
    mS := h.mTopologicalSorter
    mN := h.m_NodeInfo
    k_NODE_OUT := ⟨_, mg_of X gok.ng h.k_NODE_OUT⟩
    k_NODE_DONE := ⟨_, mg_of X gok.ng h.k_NODE_DONE⟩
    i_is_single_bit := h.i_is_single_bit
    g_is_single_bit := mg_of X gok.ng h.g_is_single_bit
    d_is_single_bit := h.d_is_single_bit
    i_high_bit := h.i_high_bit
    g_high_bit := mg_of X gok.ng h.g_high_bit
    d_high_bit := h.d_high_bit
    i_N_init := h.i_N_init
    f_N_init := h.f_N_init
    t_N_init := h.t_N_init
    d_N_init := h.d_N_init
    i_S_get_nodeinfo := h.i_S_get_nodeinfo
    me_S_get_nodeinfo := meth_of h.me_S_get_nodeinfo (by decide +kernel) (by decide +kernel)
    d_S_get_nodeinfo := h.d_S_get_nodeinfo
    i_S_add := h.i_S_add
    me_S_add := meth_of h.me_S_add (by decide +kernel) (by decide +kernel)
    d_S_add := h.d_S_add
    i_S_init := h.i_S_init
    f_S_init := h.f_S_init
    t_S_init := h.t_S_init
    d_S_init := by obtain ⟨o, dx, k, a, b⟩ := seq1_of X h.d_S_init.2; exact ⟨_, o, dx, k, h.d_S_init.1, a, b⟩
    i_S_find_cycle := h.i_S_find_cycle
    me_S_find_cycle := meth_of h.me_S_find_cycle (by decide +kernel) (by decide +kernel)
    d_S_find_cycle := h.d_S_find_cycle
    i_S_prepare := h.i_S_prepare
    me_S_prepare := meth_of h.me_S_prepare (by decide +kernel) (by decide +kernel)
    d_S_prepare := h.d_S_prepare
    i_S_get_ready := h.i_S_get_ready
    me_S_get_ready := meth_of h.me_S_get_ready (by decide +kernel) (by decide +kernel)
    d_S_get_ready := h.d_S_get_ready
    i_S_is_active := h.i_S_is_active
    me_S_is_active := meth_of h.me_S_is_active (by decide +kernel) (by decide +kernel)
    d_S_is_active := h.d_S_is_active
    i_S_done := h.i_S_done
    me_S_done := meth_of h.me_S_done (by decide +kernel) (by decide +kernel)
    d_S_done := h.d_S_done
    i_law_family := h.i_law_family
    g_law_family := mg_of X gok.ng h.g_law_family
    d_law_family := h.d_law_family
    i_law_worked_off := h.i_law_worked_off
    g_law_worked_off := mg_of X gok.ng h.g_law_worked_off
    d_law_worked_off := h.d_law_worked_off
    i_law_spelled := h.i_law_spelled
    g_law_spelled := mg_of X gok.ng h.g_law_spelled
    d_law_spelled := h.d_law_spelled
    i_law_rounds := h.i_law_rounds
    g_law_rounds := mg_of X gok.ng h.g_law_rounds
    d_law_rounds := h.d_law_rounds
    i_law := h.i_law
    g_law := mg_of X gok.ng h.g_law
    d_law := h.d_law
  }
end Mine
end
section
set_option tactic.hygienic false
open PySem PySem.W PyProof.Rows PySem.Calls PySem.SeqAt Builtin
namespace Mine
theorem lt_of_blt {i n : Nat} (h : Nat.blt i n = true) : i < n := Nat.le_of_ble_eq_true h
section
variable {f g h : PM V} {a a2 : PM (List V)} {e e1 e2 e3 : AEnv} {H H1 H2 H3 H4 : AHeap} {X Y Z : V} {Ys Zs : List V} {i j k : Nat}
theorem ev_bin {b : Op2} (h1 : f e H = some (X, e1, H1)) (h2 : g e1 H1 = some (Y, e2, H2)) (h3 : b X Y H2 = some (Z, H3)) : eBin f g b e H = some (Z, e2, H3) := by
  unfold eBin; rw [h1, Option.bind_some, h2, Option.bind_some, h3]; rfl
theorem ev_sub (h1 : f e H = some (X, e1, H1)) (h2 : g e1 H1 = some (Y, e2, H2)) (h3 : oItem X Y H2 = some (Z, H3)) : eSub f g e H = some (Z, e2, H3) := ev_bin h1 h2 h3
theorem ev_cmp {b : Op2B} {c : Bool} (h1 : f e H = some (X, e1, H1)) (h2 : g e1 H1 = some (Y, e2, H2)) (h3 : b X Y H2 = some c) : eCmp f g b e H = some (.bool c, e2, H2) := by
  unfold eCmp; rw [h1, Option.bind_some, h2, Option.bind_some, h3]; rfl
theorem ev_named (h1 : f e H = some (X, e1, H1)) (hi : Nat.blt i e1.length = true) : eNamed i f e H = some (X, e1.set i (some X), H1) := by
  unfold eNamed mStore; rw [h1, Option.bind_some]; rw [if_pos (lt_of_blt hi)]; rfl
theorem ev_meth {kd} {op : MOp} (h1 : f e H = some (X, e1, H1)) (hk : kd X H1 = true) (h2 : a e1 H1 = some (Ys, e2, H2)) (h3 : op X Ys H2 = some (Z, H3)) : eMeth f kd a op e H = some (Z, e2, H3) := by
  unfold eMeth; rw [h1, Option.bind_some]; simp only [hk, if_true]; rw [h2, Option.bind_some, h3]; rfl
theorem ev_attr (h1 : f e H = some (X, e1, H1)) (h3 : gAttr j X H1 = some Z) : eAttr j f e H = some (Z, e1, H1) := by
  unfold eAttr; rw [h1, Option.bind_some, h3]; rfl
theorem ev_slot (h1 : f e H = some (X, e1, H1)) (h3 : gSlot j X H1 = some Z) : eSlot j f e H = some (Z, e1, H1) := by
  unfold eSlot; rw [h1, Option.bind_some, h3]; rfl
theorem ev_fun {op : FOp} (h1 : a e H = some (Ys, e1, H1)) (h3 : op Ys H1 = some (Z, H2)) : eFun a op e H = some (Z, e1, H2) := by
  unfold eFun; rw [h1, Option.bind_some, h3]; rfl
theorem ev_own {op : FOp} (h1 : f e H = some (X, e1, H1)) (hk : kInst X H1 = true) (h2 : a e1 H1 = some (Ys, e2, H2)) (h3 : op (X :: Ys) H2 = some (Z, H3)) : eOwn f a op e H = some (Z, e2, H3) := by
  unfold eOwn; rw [h1, Option.bind_some]; simp only [hk, if_true]; rw [h2, Option.bind_some, h3]; rfl
theorem ev_neg {n : Int} (h1 : f e H = some (.int n, e1, H1)) : eNeg f e H = some (.int (-n), e1, H1) := by
  unfold eNeg; rw [h1]; rfl
theorem ev_next {l p : Nat} (h1 : f e H = some (.ref i, e1, H1)) (h2 : H1[i]? = some (.iter l p)) : eNext f e H = some (.ref H1.length, e1, H1 ++ [.nxt i]) := by
  unfold eNext; rw [h1, Option.bind_some]; simp only [h2]
theorem ev_list (h1 : a e H = some (Ys, e1, H1)) (hl : Nat.ble Ys.length 100000 = true) : eList a e H = some (.ref H1.length, e1, H1 ++ [.list Ys]) := by
  unfold eList; rw [h1, Option.bind_some]; rw [if_pos (Nat.le_of_ble_eq_true hl)]
theorem ev_tup (h1 : a e H = some (Ys, e1, H1)) (hl : Nat.ble Ys.length 100000 = true) : eTup a e H = some (.tup Ys, e1, H1) := by
  unfold eTup; rw [h1, Option.bind_some]; rw [if_pos (Nat.le_of_ble_eq_true hl)]
theorem ev_takeT {n : Int} (h1 : f e H = some (.tup Ys, e1, H1)) (h2 : g e1 H1 = some (.int n, e2, H2)) (h3 : (decide (0 ≤ n) && Nat.ble Ys.length 5000) = true) : eTakeT f g e H = some (.tup (Ys.take n.toNat), e2, H2) := by
  unfold eTakeT; rw [h1, Option.bind_some, h2, Option.bind_some]
  rw [Bool.and_eq_true] at h3
  simp only [of_decide_eq_true h3.1, Nat.le_of_ble_eq_true h3.2, and_self, if_true]
theorem ev_acons (h1 : f e H = some (X, e1, H1)) (h2 : a e1 H1 = some (Ys, e2, H2)) : aCons f a e H = some (X :: Ys, e2, H2) := by
  unfold aCons; rw [h1, Option.bind_some, h2]; rfl
theorem ev_a1 (h1 : f e H = some (X, e1, H1)) : aCons f aNil e H = some ([X], e1, H1) := ev_acons h1 rfl
theorem ev_star (h1 : f e H = some (X, e1, H1)) (h2 : starItems X H1 = some Ys) : aStar f e H = some (Ys, e1, H1) := by
  unfold aStar; rw [h1, Option.bind_some, h2]; rfl
theorem ev_and_t (h1 : f e H = some (X, e1, H1)) (h2 : vTruth X H1 = some true) {r} (h3 : g e1 H1 = r) : eAnd f g e H = r := by
  unfold eAnd; rw [h1, Option.bind_some, h2]; exact h3
theorem ev_or_f (h1 : f e H = some (X, e1, H1)) (h2 : vTruth X H1 = some false) {r} (h3 : g e1 H1 = r) : eOr f g e H = r := by
  unfold eOr; rw [h1, Option.bind_some, h2]; exact h3
theorem ev_or_t (h1 : f e H = some (X, e1, H1)) (h2 : vTruth X H1 = some true) : eOr f g e H = some (X, e1, H1) := by
  unfold eOr; rw [h1, Option.bind_some, h2]; rfl
theorem ev_tcmp {b : Op2B} {c : Bool} (h1 : f e H = some (X, e1, H1)) (h2 : g e1 H1 = some (Y, e2, H2)) (h3 : b X Y H2 = some c) : tCmp f g b e H = some (c, e2, H2) := by
  unfold tCmp; rw [h1, Option.bind_some, h2, Option.bind_some, h3]; rfl
theorem ev_tval {c : Bool} (h1 : f e H = some (X, e1, H1)) (h3 : vTruth X H1 = some c) : tVal f e H = some (c, e1, H1) := by
  unfold tVal; rw [h1, Option.bind_some, h3]; rfl
theorem ev_tand {t u : PM Bool} {r} (h1 : t e H = some (true, e1, H1)) (h2 : u e1 H1 = r) : tAnd t u e H = r := by
  unfold tAnd; rw [h1, Option.bind_some]; exact h2
theorem ev_tand_f {t u : PM Bool} (h1 : t e H = some (false, e1, H1)) : tAnd t u e H = some (false, e1, H1) := by
  unfold tAnd; rw [h1, Option.bind_some]
end
section
variable {f g h : PM V} {a a2 : PM (List V)} {b c : PM Flw} {e e1 e2 e3 e4 : AEnv} {H H1 H2 H3 H4 : AHeap} {X Y Z : V} {Ys Zs : List V} {i j k : Nat} {r : Option (Flw × AEnv × AHeap)}
theorem ev_cons (h1 : b e H = some (.next, e1, H1)) (h2 : c e1 H1 = r) : mCons b c e H = r := by
  unfold mCons; rw [h1]; exact h2
theorem ev_cons_ret (h1 : b e H = some (.ret X, e1, H1)) : mCons b c e H = some (.ret X, e1, H1) := by
  unfold mCons; rw [h1]; rfl
theorem ev_cons_brk (h1 : b e H = some (.brk, e1, H1)) : mCons b c e H = some (.brk, e1, H1) := by
  unfold mCons; rw [h1]; rfl
theorem ev_cons_cont (h1 : b e H = some (.cont, e1, H1)) : mCons b c e H = some (.cont, e1, H1) := by
  unfold mCons; rw [h1]; rfl
theorem ev_ret (h1 : f e H = some (X, e1, H1)) : mCons (mRet f) c e H = some (.ret X, e1, H1) := by
  unfold mCons mRet; rw [h1]; rfl
theorem ev_if {t : PM Bool} {q : Bool} (h1 : t e H = some (q, e1, H1)) (h2 : (if q then b e1 H1 else c e1 H1) = r) : mIf t b c e H = r := by
  unfold mIf; rw [h1, Option.bind_some]; cases q <;> exact h2
theorem ev_if_f {t : PM Bool} (h1 : t e H = some (false, e1, H1)) (h2 : c e1 H1 = r) : mIf t b c e H = r := by
  unfold mIf; rw [h1, Option.bind_some]; exact h2
theorem ev_if_t {t : PM Bool} (h1 : t e H = some (true, e1, H1)) (h2 : b e1 H1 = r) : mIf t b c e H = r := by
  unfold mIf; rw [h1, Option.bind_some]; exact h2
theorem ev_assign (h1 : f e H = some (X, e1, H1)) (hi : Nat.blt i e1.length = true) : mAssign i f e H = some (.next, e1.set i (some X), H1) := by
  unfold mAssign mStore; rw [h1, Option.bind_some, if_pos (lt_of_blt hi)]; rfl
theorem ev_expr (h1 : f e H = some (X, e1, H1)) : mExprS f e H = some (.next, e1, H1) := by
  unfold mExprS; rw [h1]; rfl
theorem ev_setattr (h1 : f e H = some (X, e1, H1)) (h2 : g e1 H1 = some (Y, e2, H2)) (h3 : sAttr j Y X H2 = some H3) : mSetAttr j f g e H = some (.next, e2, H3) := by
  unfold mSetAttr; rw [h1, Option.bind_some, h2, Option.bind_some, h3]; rfl
theorem ev_setslot (h1 : f e H = some (X, e1, H1)) (h2 : g e1 H1 = some (Y, e2, H2)) (h3 : sSlot j Y X H2 = some H3) : mSetSlot j f g e H = some (.next, e2, H3) := by
  unfold mSetSlot; rw [h1, Option.bind_some, h2, Option.bind_some, h3]; rfl
theorem ev_augname {o : Op2} (h0 : eVar i e H = some (X, e, H)) (h1 : f e H = some (Y, e1, H1)) (h3 : o X Y H1 = some (Z, H2)) (hi : Nat.blt i e1.length = true) : mAugName i f o e H = some (.next, e1.set i (some Z), H2) := by
  unfold mAugName mStore; rw [h0, Option.bind_some, h1, Option.bind_some, h3, Option.bind_some, if_pos (lt_of_blt hi)]; rfl
theorem ev_augattr {o : Op2} {W : V} (h1 : f e H = some (X, e1, H1)) (h2 : gAttr j X H1 = some Y) (h3 : g e1 H1 = some (Z, e2, H2)) (h4 : o Y Z H2 = some (W, H3)) (h5 : sAttr j X W H3 = some H4) : mAugAttr j f g o e H = some (.next, e2, H4) := by
  unfold mAugAttr; rw [h1, Option.bind_some, h2, Option.bind_some, h3, Option.bind_some, h4, Option.bind_some, h5]; rfl
theorem ev_augslot {o : Op2} {W : V} (h1 : f e H = some (X, e1, H1)) (h2 : gSlot j X H1 = some Y) (h3 : g e1 H1 = some (Z, e2, H2)) (h4 : o Y Z H2 = some (W, H3)) (h5 : sSlot j X W H3 = some H4) : mAugSlot j f g o e H = some (.next, e2, H4) := by
  unfold mAugSlot; rw [h1, Option.bind_some, h2, Option.bind_some, h3, Option.bind_some, h4, Option.bind_some, h5]; rfl
theorem ev_setitem (h1 : f e H = some (X, e1, H1)) (h2 : g e1 H1 = some (Y, e2, H2)) (h3 : h e2 H2 = some (Z, e3, H3)) (h4 : oSetItem Y Z X H3 = some H4) : mSetItem f g h e H = some (.next, e3, H4) := by
  unfold mSetItem; rw [h1, Option.bind_some, h2, Option.bind_some, h3, Option.bind_some, h4]; rfl
theorem ev_subname (h1 : f e H = some (X, e1, H1)) (h2 : g e1 H1 = some (Y, e2, H2)) (h3 : h e2 H2 = some (Z, e3, H3)) (h4 : oSetItem Y Z X H3 = some H4) (hi : Nat.blt i e3.length = true) : mAssignSubName f g h i e H = some (.next, e3.set i (some X), H4) := by
  unfold mAssignSubName mStore; rw [h1, Option.bind_some, h2, Option.bind_some, h3, Option.bind_some, h4, Option.bind_some, if_pos (lt_of_blt hi)]; rfl
theorem ev_del (h1 : f e H = some (X, e1, H1)) (h2 : g e1 H1 = some (Y, e2, H2)) (h3 : oDel X Y H2 = some H3) : mDel f g e H = some (.next, e2, H3) := by
  unfold mDel; rw [h1, Option.bind_some, h2, Option.bind_some, h3]; rfl
theorem ev_for {fz fl} (h1 : f e H = some (X, e1, H1)) (h2 : vItems X H1 = some (Ys, fz)) (h3 : mForL j b Ys e1 (frzAt fz H1) = some (fl, e2, H2)) : mFor f j b e H = some (fl, e2, unfrz fz H1 H2) := by
  unfold mFor; rw [h1, Option.bind_some, h2, Option.bind_some, h3]; rfl
theorem ev_foritems {kvs fl} (h1 : f e H = some (.view true i, e1, H1)) (h2 : (H1[i]?).map O.thaw = some (.dict kvs)) (h3 : mForPL j k b kvs e1 (frzAt (some i) H1) = some (fl, e2, H2)) : mForItems f j k b e H = some (fl, e2, unfrz (some i) H1 H2) := by
  unfold mForItems; rw [h1, Option.bind_some]; simp only [h2]; rw [h3]; rfl
theorem ev_dict1 (h1 : f e (H ++ [.dict []]) = some (X, e1, H1)) (h2 : g e1 H1 = some (Y, e2, H2)) (h3 : oSetItem (.ref H.length) X Y H2 = some H3) : eDict1 f g e H = some (.ref H.length, e2, H3) := by
  unfold eDict1; rw [h1, Option.bind_some, h2, Option.bind_some, h3]; rfl
theorem ev_comp {own caps t fz} (h1 : f e H = some (X, e1, H1)) (h2 : vItems X H1 = some (Ys, fz)) (hl : Ys.length ≤ 5000) (h3 : mCompL t g Ys (capEnv own caps e1) (frzAt fz H1) = some (Zs, e2, H2)) :
    eComp f own caps t g e H = some (.ref (unfrz fz H1 H2).length, e1, unfrz fz H1 H2 ++ [.list Zs]) := by
  unfold eComp; rw [h1, Option.bind_some, h2, Option.bind_some, if_pos hl, h3]; rfl
theorem ev_comp2 {own caps fz} (h1 : f e H = some (X, e1, H1)) (h2 : vItems X H1 = some (Ys, fz)) (hl : Ys.length ≤ 5000) (h3 : mComp2 h g Ys (capEnv own caps e1) (frzAt fz H1) = some (Zs, e2, H2)) (hl2 : Zs.length ≤ 5000) :
    eComp2 f own caps h g e H = some (.ref (unfrz fz H1 H2).length, e1, unfrz fz H1 H2 ++ [.list Zs]) := by
  unfold eComp2; rw [h1, Option.bind_some, h2, Option.bind_some, if_pos hl, h3, Option.bind_some, if_pos hl2]
theorem ev_dcomp {own caps t fz kvs} (h1 : f e H = some (X, e1, H1)) (h2 : vItems X H1 = some (Ys, fz)) (hl : Ys.length ≤ 5000) (h3 : mCompD t h g Ys [] (capEnv own caps e1) (frzAt fz H1) = some (kvs, e2, H2)) :
    eDComp f own caps t h g e H = some (.ref (unfrz fz H1 H2).length, e1, unfrz fz H1 H2 ++ [.dict kvs]) := by
  unfold eDComp; rw [h1, Option.bind_some, h2, Option.bind_some, if_pos hl, h3]; rfl
theorem ev_trynext {c : PM Flw} {it l p : Nat} {vs : List V} {x : V} (h1 : f e H = some (X, e1, H1)) (h2 : nxtOf X H1 = some (it, l, p, vs)) (h3 : vs[p]? = some x) (hi : Nat.blt i e1.length = true) : mTryNext f i c e H = some (.brk, e1.set i (some x), H1.set it (.iter l (p + 1))) := by
  unfold mTryNext mStore; rw [h1, Option.bind_some, h2, Option.bind_some]; simp only [h3]; rw [if_pos (lt_of_blt hi)]; rfl
theorem ev_trystop {c : PM Flw} {it l p : Nat} {vs : List V} (h1 : f e H = some (X, e1, H1)) (h2 : nxtOf X H1 = some (it, l, p, vs)) (h3 : vs[p]? = none) (h4 : c e1 (H1.set it .dead) = r) : mTryNext f i c e H = r := by
  unfold mTryNext; rw [h1, Option.bind_some, h2, Option.bind_some]; simp only [h3]; exact h4
theorem ev_fop {bd} (h1 : bd Ys = some Zs) {e0} (h0 : Zs.map some ++ List.replicate k none = e0) (h2 : b e0 H = some (.ret X, e1, H1)) : fOp bd k b Ys H = some (X, H1) := by
  unfold fOp; rw [h1, Option.bind_some, h0, h2]; rfl
theorem ev_fop0 {bd} (h1 : bd Ys = some Zs) {e0} (h0 : Zs.map some ++ List.replicate k none = e0) (h2 : b e0 H = some (.next, e1, H1)) : fOp bd k b Ys H = some (.none, H1) := by
  unfold fOp; rw [h1, Option.bind_some, h0, h2]; rfl
theorem ev_make {op : FOp} (h1 : op (.ref (H.length + 1) :: Ys) (H ++ [.attrs [none, none, none, none]] ++ [.inst H.length]) = some (.none, H1)) : oMake op Ys H = some (.ref (H.length + 1), H1) := by
  unfold oMake; rw [h1]; rfl
theorem ev_makeN {op : FOp} (h1 : op (.ref (H.length + 1) :: Ys) (H ++ [.attrs []] ++ [.node H.length [none, none, none]]) = some (.none, H1)) : oMakeN op Ys H = some (.ref (H.length + 1), H1) := by
  unfold oMakeN; rw [h1]; rfl
theorem forL_inv {α : Type} {all : List α} (v : α → V) (j : Nat) (b : PM Flw) (I : List α → AEnv → AHeap → Prop) : ∀ (post pre : List α) (e : AEnv) (H : AHeap), I pre e H →
    (∀ pre x post' e H, pre ++ x :: post' = all → I pre e H → j < e.length ∧ ∃ fl e1 H1, b (e.set j (some (v x))) H = some (fl, e1, H1) ∧ (fl = .next ∨ fl = .cont) ∧ I (pre ++ [x]) e1 H1) → pre ++ post = all →
    ∃ e' H', mForL j b (post.map v) e H = some (.next, e', H') ∧ I all e' H'
  | [], pre, e, H, h0, st, ha => ⟨e, H, rfl, by rw [List.append_nil] at ha; rw [← ha]; exact h0⟩
  | x :: post, pre, e, H, h0, st, ha => by
    obtain ⟨hj, fl, e1, H1, q1, q2, q3⟩ := st pre x post e H ha h0
    refine exE2 (forL_inv v j b I post (pre ++ [x]) e1 H1 q3 st (by rw [List.append_assoc]; exact ha)) fun e' H' h1 => andE2 h1 fun r1 r2 => ?_
    refine exI2 e' H' ⟨?_, r2⟩
    simp only [List.map_cons, mForL, mStore, if_pos hj, Option.bind_some, q1]
    rcases q2 with rfl | rfl <;> exact r1
theorem forPL_inv {α : Type} {all : List α} (v : α → Int × V) (j k : Nat) (b : PM Flw) (I : List α → AEnv → AHeap → Prop) : ∀ (post pre : List α) (e : AEnv) (H : AHeap), I pre e H →
    (∀ pre x post' e H, pre ++ x :: post' = all → I pre e H → j < e.length ∧ k < e.length ∧ ∃ e1 H1, b ((e.set j (some (.int (v x).1))).set k (some (v x).2)) H = some (.next, e1, H1) ∧ I (pre ++ [x]) e1 H1) → pre ++ post = all →
    ∃ e' H', mForPL j k b (post.map v) e H = some (.next, e', H') ∧ I all e' H'
  | [], pre, e, H, h0, st, ha => ⟨e, H, rfl, by rw [List.append_nil] at ha; rw [← ha]; exact h0⟩
  | x :: post, pre, e, H, h0, st, ha => by
    obtain ⟨hj, hk, e1, H1, q1, q3⟩ := st pre x post e H ha h0
    refine exE2 (forPL_inv v j k b I post (pre ++ [x]) e1 H1 q3 st (by rw [List.append_assoc]; exact ha)) fun e' H' h3 => andE2 h3 fun r1 r2 => ?_
    refine exI2 e' H' ⟨?_, r2⟩
    simp only [List.map_cons, mForPL, mStore, if_pos hj, Option.bind_some, List.length_set, if_pos hk, q1]
    exact r1
end
end Mine
end
section
set_option tactic.hygienic false
open PySem PySem.W PyProof.Rows PySem.Calls PySem.SeqAt Builtin
namespace Mine
noncomputable def nodeO (a : Nat) (k v : Int) : O := .node a [some (.int k), some (.int v), some (.ref (a + 2))]
noncomputable def cells : Nat → List Int → (Int → Int) → (Int → O) → List O
  | _, [], _, _ => []
  | a, k :: r, np, sc => .attrs [] :: nodeO a k (np k) :: sc k :: cells (a + 3) r np sc
noncomputable def dk : Nat → List Int → List (Int × V)
  | _, [] => []
  | a, k :: r => (k, .ref (a + 1)) :: dk (a + 3) r
noncomputable def bad : Nat → List Int → Int → Nat
  | a, [], _ => a
  | a, x :: r, k => if x = k then a else bad (a + 3) r k
noncomputable def upd {α : Type} (f : Int → α) (k : Int) (v : α) : Int → α := fun x => if x = k then v else f x
theorem upd_self {α : Type} (f : Int → α) (k : Int) (v : α) : upd f k v k = v := if_pos rfl
theorem upd_ne {α : Type} (f : Int → α) {k x : Int} (v : α) (h : x ≠ k) : upd f k v x = f x := if_neg h
theorem cells_cons {a : Nat} {k : Int} {r : List Int} {np : Int → Int} {sc : Int → O} : cells a (k :: r) np sc = .attrs [] :: nodeO a k (np k) :: sc k :: cells (a + 3) r np sc := rfl
theorem cells_congr {np np' : Int → Int} {sc sc' : Int → O} : ∀ {K : List Int} {a : Nat}, (∀ k ∈ K, np k = np' k ∧ sc k = sc' k) → cells a K np sc = cells a K np' sc'
  | [], _, _ => rfl
  | k :: r, a, h => by
    have h0 := h k List.mem_cons_self
    unfold cells
    rw [h0.1, h0.2, cells_congr (fun x hx => h x (List.mem_cons_of_mem _ hx))]
theorem cells_snoc {np : Int → Int} {sc : Int → O} {k : Int} : ∀ {K : List Int} {a : Nat}, cells a (K ++ [k]) np sc = cells a K np sc ++ [.attrs [], nodeO (a + 3 * K.length) k (np k), sc k]
  | [], _ => rfl
  | x :: r, a => by
    have e : a + 3 + 3 * r.length = a + 3 * (r.length + 1) := by (first | lia | omega)
    show _ :: _ :: _ :: cells (a + 3) (r ++ [k]) np sc = _
    rw [cells_snoc, e]; rfl
theorem cells_len {np : Int → Int} {sc : Int → O} : ∀ {K : List Int} {a : Nat}, (cells a K np sc).length = 3 * K.length
  | [], _ => rfl
  | x :: r, a => by show (cells (a + 3) r np sc).length + 3 = 3 * (r.length + 1); rw [cells_len]; (first | lia | omega)
theorem dk_snoc {k : Int} : ∀ {K : List Int} {a : Nat}, dk a (K ++ [k]) = dk a K ++ [(k, .ref (a + 3 * K.length + 1))]
  | [], _ => rfl
  | x :: r, a => by
    have e : a + 3 + 3 * r.length = a + 3 * (r.length + 1) := by (first | lia | omega)
    show _ :: dk (a + 3) (r ++ [k]) = _
    rw [dk_snoc, e]; rfl
theorem dk_len : ∀ {K : List Int} {a : Nat}, (dk a K).length = K.length
  | [], _ => rfl
  | x :: r, a => congrArg (· + 1) dk_len
theorem dk_find {k : Int} : ∀ {K : List Int} {a : Nat}, kvFind (dk a K) k = if k ∈ K then some (.ref (bad a K k + 1)) else none
  | [], _ => rfl
  | x :: r, a => by
    unfold dk kvFind bad
    by_cases h : x = k
    · simp [h]
    · have h' : ¬ k = x := fun q => h q.symm
      simp only [h, if_false, List.mem_cons, h', false_or]
      exact dk_find
theorem kvPut_new {k : Int} {x : V} : ∀ {kvs : List (Int × V)}, kvFind kvs k = none → kvPut kvs k x = kvs ++ [(k, x)]
  | [], _ => rfl
  | p :: r, h => by
    unfold kvFind at h
    by_cases q : p.1 = k
    · rw [if_pos q] at h; cases h
    · rw [if_neg q] at h
      unfold kvPut
      rw [if_neg q, kvPut_new h]; rfl
theorem dk_keys : ∀ {K : List Int} {a : Nat}, (dk a K).map (fun p => V.int p.1) = K.map .int
  | [], _ => rfl
  | x :: r, a => congrArg (V.int x :: ·) dk_keys
theorem bad_snoc_new {k : Int} : ∀ {K : List Int} {a : Nat}, k ∉ K → bad a (K ++ [k]) k = a + 3 * K.length
  | [], _, _ => if_pos rfl
  | y :: r, a, h => by
    have q : ¬ y = k := fun z => h (z ▸ List.mem_cons_self)
    have e : a + 3 + 3 * r.length = a + 3 * (r.length + 1) := by (first | lia | omega)
    show (if y = k then a else bad (a + 3) (r ++ [k]) k) = _
    rw [if_neg q, bad_snoc_new (fun z => h (List.mem_cons_of_mem _ z)), e]; rfl
theorem bad_mem {k : Int} : ∀ {K : List Int} {a : Nat}, k ∈ K → a ≤ bad a K k ∧ bad a K k + 3 ≤ a + 3 * K.length
  | [], _, h => nomatch h
  | y :: r, a, h => by
    show a ≤ (if y = k then a else bad (a + 3) r k) ∧ (if y = k then a else bad (a + 3) r k) + 3 ≤ a + 3 * (r.length + 1)
    by_cases q : y = k
    · rw [if_pos q]; (first | lia | omega)
    · rw [if_neg q]
      have := bad_mem (a := a + 3) ((List.mem_cons.mp h).resolve_left fun z => q z.symm)
      (first | lia | omega)
theorem at_mid {α : Type} {X R : List α} {x : α} {i : Nat} (h : X.length = i) : (X ++ x :: R)[i]? = some x := by
  subst h; simp
theorem set_mid {α : Type} {X R : List α} {x y : α} {i : Nat} (h : X.length = i) : (X ++ x :: R).set i y = X ++ y :: R := by
  subst h; simp
theorem cells_app {np : Int → Int} {sc : Int → O} {K2 : List Int} : ∀ {K1 : List Int} {a : Nat}, cells a (K1 ++ K2) np sc = cells a K1 np sc ++ cells (a + 3 * K1.length) K2 np sc
  | [], _ => rfl
  | x :: r, a => by
    have e : a + 3 + 3 * r.length = a + 3 * (r.length + 1) := by (first | lia | omega)
    show _ :: _ :: _ :: cells (a + 3) (r ++ K2) np sc = _
    rw [cells_app, e]; rfl
theorem bad_split {k : Int} {t : List Int} : ∀ {s : List Int} {a : Nat}, k ∉ s → bad a (s ++ k :: t) k = a + 3 * s.length
  | [], _, _ => if_pos rfl
  | y :: r, a, h => by
    have q : ¬ y = k := fun z => h (z ▸ List.mem_cons_self)
    have e : a + 3 + 3 * r.length = a + 3 * (r.length + 1) := by (first | lia | omega)
    show (if y = k then a else bad (a + 3) (r ++ k :: t) k) = _
    rw [if_neg q, bad_split (fun z => h (List.mem_cons_of_mem _ z)), e]; rfl
theorem nodup_split {k : Int} {K : List Int} (hk : k ∈ K) (nd : K.Nodup) : ∃ s t, K = s ++ k :: t ∧ k ∉ s ∧ k ∉ t := by
  refine exE2 (List.append_of_mem hk) fun s t e0_0 => ?_
  subst e0_0
  rw [List.nodup_append] at nd
  exact exI2 s t ⟨rfl, fun q => nd.2.2 k q k List.mem_cons_self rfl, (List.nodup_cons.mp nd.2.1).1⟩
theorem upd_same {α : Type} (f : Int → α) (k : Int) : upd f k (f k) = f := funext fun x => by unfold upd; split <;> simp [*]
noncomputable def HS (P : List O) (at' dO : O) (K : List Int) (np : Int → Int) (sc : Int → O) (Q : List O) : AHeap := P ++ (at' :: .inst P.length :: dO :: (cells (P.length + 3) K np sc ++ Q))
section
variable {P Q : List O} {at' dO o : O} {K : List Int} {np : Int → Int} {sc : Int → O} {k v : Int}
theorem hs_split (hk : k ∈ K) (nd : K.Nodup) : ∃ L R : List O, L.length = bad (P.length + 3) K k ∧ ∀ v o, HS P at' dO K (upd np k v) (upd sc k o) Q = L ++ (.attrs [] :: nodeO (bad (P.length + 3) K k) k v :: o :: R) := by
  obtain ⟨s, t, rfl, h1, h2⟩ := nodup_split hk nd
  rw [bad_split h1]
  refine exI2 (P ++ (at' :: .inst P.length :: dO :: cells (P.length + 3) s np sc)) (cells (P.length + 3 + 3 * s.length + 3) t np sc ++ Q) ⟨?_, fun v o => ?_⟩
  · simp only [List.length_append, List.length_cons, cells_len]; (first | lia | omega)
  · unfold HS
    rw [cells_app, cells_congr (np := upd np k v) (sc := upd sc k o) (np' := np) (sc' := sc) (K := s) fun x hx => ⟨upd_ne _ _ (fun q => h1 (q ▸ hx)), upd_ne _ _ (fun q => h1 (q ▸ hx))⟩]
    rw [cells_cons, cells_congr (np := upd np k v) (sc := upd sc k o) (np' := np) (sc' := sc) (K := t) fun x hx => ⟨upd_ne _ _ (fun q => h2 (q ▸ hx)), upd_ne _ _ (fun q => h2 (q ▸ hx))⟩, upd_self, upd_self]
    simp only [List.append_assoc, List.cons_append]
theorem hs_node (hk : k ∈ K) (nd : K.Nodup) : (HS P at' dO K np sc Q)[bad (P.length + 3) K k + 1]? = some (nodeO (bad (P.length + 3) K k) k (np k)) := by
  refine exE2 (hs_split (P := P) (Q := Q) (at' := at') (dO := dO) (np := np) (sc := sc) hk nd) fun L R h2 => andE2 h2 fun hl e => ?_
  have := e (np k) (sc k)
  rw [upd_same, upd_same] at this
  rw [this, ← hl]; simp
theorem hs_list (hk : k ∈ K) (nd : K.Nodup) : (HS P at' dO K np sc Q)[bad (P.length + 3) K k + 2]? = some (sc k) := by
  refine exE2 (hs_split (P := P) (Q := Q) (at' := at') (dO := dO) (np := np) (sc := sc) hk nd) fun L R h3 => andE2 h3 fun hl e => ?_
  have := e (np k) (sc k)
  rw [upd_same, upd_same] at this
  rw [this, ← hl]; simp
theorem hs_setnode (hk : k ∈ K) (nd : K.Nodup) : (HS P at' dO K np sc Q).set (bad (P.length + 3) K k + 1) (nodeO (bad (P.length + 3) K k) k v) = HS P at' dO K (upd np k v) sc Q := by
  refine exE2 (hs_split (P := P) (Q := Q) (at' := at') (dO := dO) (np := np) (sc := sc) hk nd) fun L R h4 => andE2 h4 fun hl e => ?_
  have h1 := e (np k) (sc k)
  have h2 := e v (sc k)
  rw [upd_same] at h1
  rw [upd_same] at h1 h2
  rw [h1, h2, ← hl]; simp
theorem hs_setlist (hk : k ∈ K) (nd : K.Nodup) : (HS P at' dO K np sc Q).set (bad (P.length + 3) K k + 2) o = HS P at' dO K np (upd sc k o) Q := by
  refine exE2 (hs_split (P := P) (Q := Q) (at' := at') (dO := dO) (np := np) (sc := sc) hk nd) fun L R h5 => andE2 h5 fun hl e => ?_
  have h1 := e (np k) (sc k)
  have h2 := e (np k) o
  rw [upd_same, upd_same] at h1
  rw [upd_same] at h2
  rw [h1, h2, ← hl]; simp
theorem hs_at : (HS P at' dO K np sc Q)[P.length]? = some at' := by unfold HS; simp
theorem hs_inst : (HS P at' dO K np sc Q)[P.length + 1]? = some (.inst P.length) := by unfold HS; simp
theorem hs_dict : (HS P at' dO K np sc Q)[P.length + 2]? = some dO := by unfold HS; simp
theorem hs_setat : (HS P at' dO K np sc Q).set P.length o = HS P o dO K np sc Q := by unfold HS; simp
theorem hs_setdict : (HS P at' dO K np sc Q).set (P.length + 2) o = HS P at' o K np sc Q := by unfold HS; simp
theorem hs_len : (HS P at' dO K np sc Q).length = P.length + 3 + 3 * K.length + Q.length := by
  unfold HS; simp only [List.length_append, List.length_cons, cells_len]; (first | lia | omega)
theorem hs_app {T : List O} : HS P at' dO K np sc Q ++ T = HS P at' dO K np sc (Q ++ T) := by unfold HS; simp
theorem hs_q {i : Nat} : (HS P at' dO K np sc Q)[P.length + 3 + 3 * K.length + i]? = Q[i]? := by
  have e : P.length + 3 + 3 * K.length + i - P.length = 3 * K.length + i + 3 := by (first | lia | omega)
  unfold HS
  rw [List.getElem?_append_right (by (first | lia | omega)), e]
  show (cells (P.length + 3) K np sc ++ Q)[3 * K.length + i]? = _
  rw [List.getElem?_append_right (by rw [cells_len]; (first | lia | omega)), cells_len, Nat.add_sub_cancel_left]
theorem hs_setq {i : Nat} : (HS P at' dO K np sc Q).set (P.length + 3 + 3 * K.length + i) o = HS P at' dO K np sc (Q.set i o) := by
  have e : P.length + 3 + 3 * K.length + i - P.length = 3 * K.length + i + 3 := by (first | lia | omega)
  unfold HS
  rw [List.set_append_right _ _ (by (first | lia | omega)), e]
  show P ++ (_ :: _ :: _ :: (cells (P.length + 3) K np sc ++ Q).set (3 * K.length + i) o) = _
  rw [List.set_append_right _ _ (by rw [cells_len]; (first | lia | omega)), cells_len, Nat.add_sub_cancel_left]
theorem hs_lo {i : Nat} (h : i < P.length) : (HS P at' dO K np sc Q)[i]? = P[i]? := by unfold HS; exact List.getElem?_append_left h
theorem hs_setlo {i : Nat} (h : i < P.length) : (HS P at' dO K np sc Q).set i o = HS (P.set i o) at' dO K np sc Q := by
  unfold HS; rw [List.set_append_left _ _ h, List.length_set]
theorem hs_snoc : HS P at' dO K np sc [.attrs [], nodeO (P.length + 3 + 3 * K.length) k (np k), sc k] = HS P at' dO (K ++ [k]) np sc [] := by
  unfold HS; rw [cells_snoc]; simp
end
end Mine
end
section
set_option tactic.hygienic false
open PySem PySem.W PyProof.Rows PySem.Calls PySem.SeqAt Builtin
namespace Mine
noncomputable def AT (n : Nat) (r : V) (po nf : Int) : O := .attrs [some (.ref (n + 2)), some r, some (.int po), some (.int nf)]
section
variable {P Q : List O} {dO o : O} {K : List Int} {np : Int → Int} {sc : Int → O} {k v : Int} {r Y x : V} {po nf : Int} {fs : List (Option V)} {j : Nat} {kvs : List (Int × V)} {H : AHeap} {i d : Nat}
theorem ga0 {s : Nat} (h1 : H[s]? = some (.inst d)) (h2 : H[d]? = some (.attrs fs)) (hj : j < 4) (hx : fs[j]? = some (some x)) : gAttr j (.ref s) H = some x := by
  unfold gAttr; simp only [h1, h2, Option.map_some, O.thaw, hj, if_true, hx]
theorem ga (hj : j < 4) (hx : fs[j]? = some (some x)) : gAttr j (.ref (P.length + 1)) (HS P (.attrs fs) dO K np sc Q) = some x := ga0 hs_inst hs_at hj hx
theorem sa0 {s : Nat} (h1 : H[s]? = some (.inst d)) (h2 : H[d]? = some (.attrs fs)) (hj : (decide (j < 4) && decide (j < fs.length) && decide (fs.length ≤ 4)) = true) : sAttr j (.ref s) Y H = some (H.set d (.attrs (fs.set j (some Y)))) := by
  simp only [Bool.and_eq_true, decide_eq_true_eq] at hj
  unfold sAttr; simp only [h1, h2, Option.map_some, O.thaw, hj, and_self, if_true]
theorem sa (hj : (decide (j < 4) && decide (j < fs.length) && decide (fs.length ≤ 4)) = true) : sAttr j (.ref (P.length + 1)) Y (HS P (.attrs fs) dO K np sc Q) = some (HS P (.attrs (fs.set j (some Y))) dO K np sc Q) :=
  (sa0 hs_inst hs_at hj).trans (congrArg some hs_setat)
theorem ki0 {s : Nat} (h1 : H[s]? = some (.inst d)) (h2 : H[d]? = some (AT i r po nf)) : kInst (.ref s) H = true := by
  unfold kInst; simp only [refOf, h1, h2, Option.map_some, O.thaw, AT, Option.bind_some, instOf, attrsOf]; rfl
theorem ki : kInst (.ref (P.length + 1)) (HS P (AT d r po nf) dO K np sc Q) = true := ki0 hs_inst hs_at
theorem kd (h : (H[i]?).map O.thaw = some (.dict kvs)) : kDict (.ref i) H = true := by unfold kDict; simp only [h]
theorem kl {vs : List V} (h : (H[i]?).map O.thaw = some (.list vs)) : kList (.ref i) H = true := by unfold kList; simp only [h]
theorem og (h : (H[i]?).map O.thaw = some (.dict kvs)) : oGet (.ref i) [.int k] H = some ((kvFind kvs k).getD .none, H) := by unfold oGet; simp only [h]
theorem og2 (h : (H[i]?).map O.thaw = some (.dict kvs)) : oGet (.ref i) [.int k, Y] H = some ((kvFind kvs k).getD Y, H) := by unfold oGet; simp only [h]
theorem oi (h : (H[i]?).map O.thaw = some (.dict kvs)) (hf : kvFind kvs k = some x) : oItem (.ref i) (.int k) H = some (x, H) := by unfold oItem; simp only [h, hf, Option.map_some]
theorem gs (h : H[i]? = some (.node d fs)) (hj : j < 3) (hx : fs[j]? = some (some x)) : gSlot j (.ref i) H = some x := by
  unfold gSlot; simp only [h, Option.map_some, O.thaw, hj, if_true, hx]
theorem ss (h : H[i]? = some (.node d fs)) (hj : (decide (j < 3) && decide (j < fs.length)) = true) : sSlot j (.ref i) Y H = some (H.set i (.node d (fs.set j (some Y)))) := by
  simp only [Bool.and_eq_true, decide_eq_true_eq] at hj
  unfold sSlot; simp only [h, hj, and_self, if_true]
theorem oap {vs : List V} (h : H[i]? = some (.list vs)) (hl : vs.length ≤ 100000) : oAppend (.ref i) [Y] H = some (.none, H.set i (.list (vs ++ [Y]))) := by
  unfold oAppend; simp only [h, hl, if_true]
theorem osi (h : H[i]? = some (.dict kvs)) (hl : kvs.length ≤ 100000) : oSetItem (.ref i) (.int k) Y H = some (H.set i (.dict (kvPut kvs k Y))) := by
  unfold oSetItem; simp only [h, hl, if_true]
theorem dkr : ((HS P (AT d r po nf) (.dict kvs) K np sc Q)[P.length + 2]?).map O.thaw = some (.dict kvs) := by rw [hs_dict]; rfl
theorem dkf (hk : k ∈ K) {a : Nat} : kvFind (dk a K) k = some (.ref (bad a K k + 1)) := by rw [dk_find, if_pos hk]
theorem dkn (hk : k ∉ K) {a : Nat} : kvFind (dk a K) k = none := by rw [dk_find, if_neg hk]
theorem run_N_init : op_N_init [.ref (H.length + 1), .int k] (H ++ [.attrs []] ++ [.node H.length [none, none, none]]) = some (.none, H ++ [.attrs [], nodeO H.length k 0, .list []]) := by
  have e1 : ∀ x : O, (H ++ [O.attrs []] ++ [x])[H.length + 1]? = some x := fun x => by simp
  have e2 : ∀ x y : O, (H ++ [O.attrs []] ++ [x]).set (H.length + 1) y = H ++ [O.attrs []] ++ [y] := fun x y => by simp
  have e3 : ∀ x y : O, (H ++ [O.attrs []] ++ [x] ++ [y])[H.length + 1]? = some x := fun x y => by simp
  have e4 : ∀ x y z : O, (H ++ [O.attrs []] ++ [x] ++ [y]).set (H.length + 1) z = H ++ [O.attrs [], z, y] := fun x y z => by simp
  have e7 : ∀ x : O, (H ++ [O.attrs []] ++ [x]).length = H.length + 2 := fun x => by simp
  exact ev_fop0 rfl rfl (ev_cons (ev_setslot (j := 0) rfl rfl ((ss (e1 _) rfl).trans (congrArg some (e2 _ _)))) (ev_cons (ev_setslot (j := 1) rfl rfl ((ss (e1 _) rfl).trans (congrArg some (e2 _ _)))) (ev_cons (ev_setslot (j := 2) (ev_list rfl rfl) rfl ((ss (e3 _ (.list [])) rfl).trans (congrArg some ((e4 _ _ _).trans (congrArg (fun n => H ++ [O.attrs [], .node H.length [some (.int k), some (.int 0), some (.ref n)], .list []]) (e7 _)))))) rfl)))
noncomputable def HB (P : List O) (K : List Int) (np : Int → Int) (su : Int → List Int) : AHeap := HS P (AT P.length .none 0 0) (.dict (dk (P.length + 3) K)) K np (fun k => .list ((su k).map .int)) []
noncomputable def tch (K : List Int) (k : Int) : List Int := if k ∈ K then K else K ++ [k]
theorem tch_mem {K : List Int} {k x : Int} : x ∈ tch K k ↔ x ∈ K ∨ x = k := by
  unfold tch; split
  · rename_i h; exact ⟨.inl, fun q => q.elim id fun e => e ▸ h⟩
  · rw [List.mem_append, List.mem_singleton]
theorem tch_nodup {K : List Int} {k : Int} (h : K.Nodup) : (tch K k).Nodup := by
  unfold tch; split
  · exact h
  · rename_i q; exact List.nodup_append.mpr ⟨h, List.nodup_cons.mpr ⟨nofun, List.nodup_nil⟩, fun a ha b hb e => q (by rw [List.mem_singleton] at hb; rw [← hb, ← e]; exact ha)⟩
theorem run_get {su : Int → List Int} (hK : K.length ≤ 1000) (h0 : k ∉ K → np k = 0 ∧ su k = []) : op_S_get_nodeinfo [.ref (P.length + 1), .int k] (HB P K np su) = some (.ref (bad (P.length + 3) (tch K k) k + 1), HB P (tch K k) np su) := by
  by_cases hk : k ∈ K
  · have et : tch K k = K := if_pos hk
    rw [et]
    exact ev_fop rfl rfl (ev_cons (ev_if_f (ev_tcmp (ev_named (ev_meth (ev_attr rfl (ga (j := 0) (by decide) rfl)) (kd dkr) (ev_a1 rfl) ((og dkr).trans (by rw [dkf hk]; rfl))) rfl) rfl rfl) rfl) (ev_ret rfl))
  · have et : tch K k = K ++ [k] := if_neg hk
    obtain ⟨h1, h2⟩ := h0 hk
    rw [et, bad_snoc_new hk]
    have hl : (HB P K np su).length = P.length + 3 + 3 * K.length := hs_len
    have e5 : HB P K np su ++ [.attrs [], nodeO (HB P K np su).length k 0, .list []] = HS P (AT P.length .none 0 0) (.dict (dk (P.length + 3) K)) (K ++ [k]) np (fun k => .list ((su k).map .int)) [] := by
      refine (hs_app.trans (congrArg (HS _ _ _ _ _ _) ?_)).trans hs_snoc
      show [O.attrs [], nodeO (HB P K np su).length k 0, O.list []] = _
      rw [hl, h1, h2]; rfl
    have e6 : kvPut (dk (P.length + 3) K) k (.ref ((HB P K np su).length + 1)) = dk (P.length + 3) (K ++ [k]) := by rw [kvPut_new (dkn hk), dk_snoc, hl]
    rw [← hl]
    exact ev_fop rfl rfl (ev_cons (ev_if_t (ev_tcmp (ev_named (ev_meth (ev_attr rfl (ga (j := 0) (by decide) rfl)) (kd dkr) (ev_a1 rfl) ((og dkr).trans (by rw [dkn hk]; rfl))) rfl) rfl rfl) (ev_cons (ev_subname (ev_fun (ev_a1 rfl) (ev_makeN run_N_init)) (ev_attr rfl ((congrArg (gAttr 0 _) e5).trans (ga (j := 0) (by decide) rfl))) rfl ((congrArg (oSetItem _ _ _) e5).trans ((osi hs_dict (by rw [dk_len]; (first | lia | omega))).trans (congrArg some (hs_setdict.trans (congrArg (fun z => HS P _ (.dict z) _ _ _ _) e6))))) rfl) rfl)) (ev_ret rfl))
end
end Mine
end
section
set_option tactic.hygienic false
open PySem PySem.W PyProof.Rows PySem.Calls PySem.SeqAt Builtin
namespace Mine
theorem tch_len {K : List Int} {k : Int} : (tch K k).length ≤ K.length + 1 := by
  unfold tch; split
  · exact Nat.le_succ _
  · rw [List.length_append]; exact Nat.le_refl _
theorem tchs_mem {x : Int} : ∀ {l K : List Int}, x ∈ l.foldl tch K ↔ x ∈ K ∨ x ∈ l
  | [], K => ⟨.inl, fun q => q.elim id fun h => nomatch h⟩
  | y :: l, K => by rw [List.foldl_cons, tchs_mem, tch_mem, List.mem_cons, or_assoc]
theorem tchs_nodup : ∀ {l K : List Int}, K.Nodup → (l.foldl tch K).Nodup
  | [], _, h => h
  | _ :: l, _, h => tchs_nodup (l := l) (tch_nodup h)
theorem tchs_len : ∀ {l K : List Int}, (l.foldl tch K).length ≤ K.length + l.length
  | [], _ => Nat.le_refl _
  | y :: l, K => by
    have h1 := tchs_len (l := l) (K := tch K y)
    have h2 := tch_len (K := K) (k := y)
    rw [List.foldl_cons, List.length_cons]; (first | lia | omega)
theorem sc_upd {su : Int → List Int} {k : Int} {l : List Int} : upd (fun k => O.list ((su k).map .int)) k (.list (l.map .int)) = fun x => O.list ((upd su k l x).map .int) := funext fun x => by
  unfold upd; split <;> rfl
theorem mem_snoc {α : Type} {f g : Int → α} {pre : List Int} {x : Int} : (fun k => if k ∈ pre ++ [x] then f k else g k) = upd (fun k => if k ∈ pre then f k else g k) x (f x) := funext fun k => by
  unfold upd
  by_cases h : k = x
  · subst h; rw [if_pos rfl, if_pos (List.mem_append_right _ List.mem_cons_self)]
  · rw [if_neg h]; simp [h]
theorem not_pre {α : Type} {pre post all : List α} {x : α} (h : pre ++ x :: post = all) (nd : all.Nodup) : x ∉ pre := fun hx => by
  rw [← h, List.nodup_append] at nd
  exact nd.2.2 x hx x List.mem_cons_self rfl
theorem mem_of_pre {α : Type} {pre post all : List α} {x : α} (h : pre ++ x :: post = all) : x ∈ all := h ▸ List.mem_append_right _ List.mem_cons_self
theorem len_pre {α : Type} {pre post all : List α} {x : α} (h : pre ++ x :: post = all) : pre.length < all.length := by
  rw [← h, List.length_append, List.length_cons]; (first | lia | omega)
section
variable {P : List O} {K preds : List Int} {np : Int → Int} {su : Int → List Int} {node : Int}
theorem run_add (nd : K.Nodup) (hl : K.length + preds.length < 1000) (h0 : ∀ k, k ∉ K → np k = 0 ∧ su k = []) (hs : ∀ k, (su k).length ≤ 1000) (pd : preds.Nodup) :
    op_S_add (.ref (P.length + 1) :: .int node :: preds.map .int) (HB P K np su) = some (.none, HB P (preds.foldl tch (tch K node)) (upd np node (np node + preds.length)) (fun k => if k ∈ preds then su k ++ [node] else su k)) := by
  have hl1 := tch_len (K := K) (k := node)
  have nd1 := tch_nodup (k := node) nd
  have hm : node ∈ tch K node := tch_mem.mpr (.inr rfl)
  refine (forL_inv V.int 4 fb_S_add_1 (fun pre e H => (∃ x4 x5, e = [some (.ref (P.length + 1)), some (.int node), some (.tup (preds.map .int)), some (.ref (bad (P.length + 3) (tch K node) node + 1)), x4, x5]) ∧ H = HB P (pre.foldl tch (tch K node)) (upd np node (np node + preds.length)) (fun k => if k ∈ pre then su k ++ [node] else su k))
    (all := preds) preds [] _ (HB P (tch K node) (upd np node (np node + preds.length)) su) ⟨⟨none, none, rfl⟩, congrArg (HB P _ _) (funext fun k => (if_neg nofun).symm)⟩ (fun pre x post e H ha hI => ?_) rfl).elim fun e' q => q.elim fun H' r => ?_
  rotate_left
  · obtain ⟨r1, -, rfl⟩ := r
    have hN : (preds.map V.int).length = preds.length := List.length_map _
    rw [← hN] at r1 ⊢
    exact ev_fop0 (if_pos ⟨Nat.le_add_left 2 _, by show (preds.map V.int).length + 2 ≤ 5000; (first | lia | omega)⟩) rfl (ev_cons (ev_if_f (ev_tcmp (ev_attr rfl (ga (j := 1) (by decide) rfl)) rfl rfl) rfl) (ev_cons (ev_assign (ev_own rfl ki (ev_a1 rfl) (run_get (by (first | lia | omega)) (h0 _))) rfl) (ev_cons (ev_augslot rfl (gs (hs_node hm nd1) (j := 1) (by decide) rfl) (ev_fun (ev_a1 rfl) (if_pos (by show (preds.map V.int).length ≤ _; (first | lia | omega)))) rfl ((ss (hs_node hm nd1) rfl).trans (congrArg some (hs_setnode hm nd1)))) (ev_cons (ev_for rfl rfl r1) rfl))))
  · obtain ⟨⟨x4, x5, rfl⟩, rfl⟩ := hI
    have hx := not_pre ha pd
    have hlp := len_pre ha
    have hl2 := tchs_len (l := pre) (K := tch K node)
    have nd2 := tchs_nodup (l := pre) nd1
    have hmx : x ∈ tch (pre.foldl tch (tch K node)) x := tch_mem.mpr (.inr rfl)
    refine ⟨lt_of_blt rfl, .next, _, _, ev_cons (ev_assign (ev_own rfl ki (ev_a1 rfl) (run_get (by (first | lia | omega)) fun q => ?_)) rfl) (ev_cons (ev_expr (ev_meth (ev_slot rfl (gs (hs_node hmx (tch_nodup nd2)) (j := 2) (by decide) rfl)) (kl (congrArg (Option.map O.thaw) (hs_list hmx (tch_nodup nd2)))) (ev_a1 rfl) ((oap (hs_list hmx (tch_nodup nd2)) ?_).trans (congrArg some (congrArg (Prod.mk _) (hs_setlist hmx (tch_nodup nd2))))))) rfl), .inl rfl, ⟨_, _, rfl⟩, ?_⟩
    · have h1 : x ∉ K ∧ x ≠ node := ⟨fun z => q (tchs_mem.mpr (.inl (tch_mem.mpr (.inl z)))), fun z => q (tchs_mem.mpr (.inl (tch_mem.mpr (.inr z))))⟩
      rw [upd_ne _ _ h1.2, if_neg hx]
      exact h0 x h1.1
    · show (((if x ∈ pre then su x ++ [node] else su x).map V.int)).length ≤ _
      rw [List.length_map, if_neg hx]; have := hs x; (first | lia | omega)
    · rw [List.foldl_append]
      refine congrArg (fun z => HS P _ _ _ _ z _) ?_
      rw [mem_snoc, ← sc_upd]
      refine congrArg (upd _ _) (congrArg O.list ?_)
      show ((if x ∈ pre then su x ++ [node] else su x).map V.int ++ [V.int node]) = _
      rw [if_neg hx, List.map_append]; rfl
end
end Mine
end
section
set_option tactic.hygienic false
open PySem PySem.W PyProof.Rows PySem.Calls PySem.SeqAt Builtin
namespace Mine
noncomputable def keysOf (bl : Int → List Int) (F : List Int) : List Int := F.foldl (fun K m => (bl m).foldl tch (tch K m)) []
section
variable {bl : Int → List Int}
theorem keysOf_snoc {F : List Int} {m : Int} : keysOf bl (F ++ [m]) = (bl m).foldl tch (tch (keysOf bl F) m) := by
  unfold keysOf; rw [List.foldl_append]; rfl
theorem keys_mem {x : Int} : ∀ {l K : List Int}, x ∈ l.foldl (fun K m => (bl m).foldl tch (tch K m)) K ↔ x ∈ K ∨ ∃ m ∈ l, x = m ∨ x ∈ bl m
  | [], K => ⟨.inl, fun q => q.elim id fun ⟨_, h, _⟩ => nomatch h⟩
  | y :: l, K => by
    rw [List.foldl_cons, keys_mem, tchs_mem, tch_mem, or_assoc, or_assoc, ← or_assoc (a := x = y)]
    refine or_congr_right ⟨fun q => q.elim (fun h => ⟨y, List.mem_cons_self, h⟩) fun ⟨m, h1, h2⟩ => ⟨m, List.mem_cons_of_mem _ h1, h2⟩, fun ⟨m, h1, h2⟩ => (List.mem_cons.mp h1).elim (fun e => .inl (e ▸ h2)) fun h => .inr ⟨m, h, h2⟩⟩
theorem keysOf_mem {F : List Int} {x : Int} : x ∈ keysOf bl F ↔ ∃ m ∈ F, x = m ∨ x ∈ bl m := keys_mem.trans ⟨fun q => q.elim (fun h => nomatch h) id, .inr⟩
theorem keys_nodup : ∀ {l K : List Int}, K.Nodup → (l.foldl (fun K m => (bl m).foldl tch (tch K m)) K).Nodup
  | [], _, h => h
  | _ :: l, _, h => keys_nodup (l := l) (tchs_nodup (tch_nodup h))
theorem keys_len (hb : ∀ m, (bl m).length ≤ 16) : ∀ {l K : List Int}, (l.foldl (fun K m => (bl m).foldl tch (tch K m)) K).length ≤ K.length + l.length * 17
  | [], _ => Nat.le_refl _
  | y :: l, K => by
    have h1 := keys_len hb (l := l) (K := (bl y).foldl tch (tch K y))
    have h2 := tchs_len (l := bl y) (K := tch K y)
    have h3 := tch_len (K := K) (k := y)
    have h4 := hb y
    rw [List.foldl_cons, List.length_cons, Nat.add_mul]; (first | lia | omega)
end
section
variable {P : List O} {F : List Int} {bl : Int → List Int} {ba : Int → Nat} {b : Nat}
theorem frz_lo {i : Nat} {H : AHeap} {o : O} (h : H[i]? = some o) : frzAt (some i) H = H.set i (.frz o) := by unfold frzAt; simp only [h]
theorem unfrz_of {i : Nat} {H H' : AHeap} {o : O} (h : H[i]? = some o) : unfrz (some i) H H' = H'.set i o := by unfold unfrz; simp only [h]
noncomputable def npOf (bl : Int → List Int) (pre : List Int) : Int → Int := fun k => if k ∈ pre then (bl k).length else 0
noncomputable def suOf (bl : Int → List Int) (pre : List Int) : Int → List Int := fun k => pre.filter fun m => decide (k ∈ bl m)
theorem run_init (hb : P[b]? = some (.dict (F.map fun m => (m, .ref (ba m))))) (ha : ∀ m ∈ F, P[ba m]? = some (.list ((bl m).map .int))) (nd : F.Nodup) (hF : F.length ≤ 16) (hbl : ∀ m, (bl m).length ≤ 16) (hbn : ∀ m, (bl m).Nodup) :
    oMake op_S_init [.ref b] P = some (.ref (P.length + 1), HB P (keysOf bl F) (npOf bl F) (suOf bl F)) := by
  have hlt : b < P.length := (List.getElem?_eq_some_iff.mp hb).1
  refine named (P.set b (.frz (.dict (F.map fun m => (m, .ref (ba m)))))) fun P' hP' => ?_
  have hL : P'.length = P.length := by rw [hP', List.length_set]
  have hlo : ∀ {i o}, P[i]? = some o → i ≠ b → P'[i]? = some o := fun h q => by rw [hP', List.getElem?_set_ne (Ne.symm q)]; exact h
  refine (forPL_inv (fun m => (m, .ref (ba m))) 2 3 fb_S_init_1 (fun pre e H => (∃ x2 x3, e = [some (.ref (P.length + 1)), some (.ref b), x2, x3]) ∧ H = HB P' (keysOf bl pre) (npOf bl pre) (suOf bl pre))
    (all := F) F [] _ (HB P' [] (npOf bl []) (suOf bl [])) ⟨⟨none, none, rfl⟩, rfl⟩ (fun pre x post e H hx hI => ?_) rfl).elim fun e' q => q.elim fun H' r => ?_
  · obtain ⟨⟨x2, x3, rfl⟩, rfl⟩ := hI
    have hxm := mem_of_pre hx
    have hlp := len_pre hx
    have hxp := not_pre hx nd
    have hle := keys_len hbl (l := pre) (K := [])
    have hbx := hbl x
    have hne : ba x ≠ b := fun q => by have := ha x hxm; rw [q, hb] at this; cases this
    have hax : (HB P' (keysOf bl pre) (npOf bl pre) (suOf bl pre))[ba x]? = some (.list ((bl x).map .int)) :=
      (hs_lo (hL ▸ (List.getElem?_eq_some_iff.mp (ha x hxm)).1)).trans (hlo (ha x hxm) hne)
    have hst : starItems (.ref (ba x)) (HB P' (keysOf bl pre) (npOf bl pre) (suOf bl pre)) = some ((bl x).map .int) := by
      unfold starItems; simp only [hax, Option.map_some, O.thaw]
      exact if_pos (by rw [List.length_map]; (first | lia | omega))
    have hk : ∀ k, k ∉ keysOf bl pre → npOf bl pre k = 0 ∧ suOf bl pre k = [] := fun k hk => by
      rw [keysOf_mem] at hk
      refine ⟨if_neg fun q => hk ⟨k, q, .inl rfl⟩, List.filter_eq_nil_iff.mpr fun m hm q => hk ⟨m, hm, .inr (of_decide_eq_true q)⟩⟩
    have r := run_add (P := P') (node := x) (preds := bl x) (K := keysOf bl pre) (keys_nodup (l := pre) List.nodup_nil) (by show (keysOf bl pre).length + _ < _; have : (keysOf bl pre).length ≤ 0 + pre.length * 17 := hle; (first | lia | omega)) hk (fun k => Nat.le_trans (List.length_filter_le _ _) (by (first | lia | omega))) (hbn x)
    have e1 : upd (npOf bl pre) x (npOf bl pre x + (bl x).length) = npOf bl (pre ++ [x]) := by
      unfold npOf
      rw [mem_snoc, if_neg hxp, Int.zero_add]
    have e2 : (fun k => if k ∈ bl x then suOf bl pre k ++ [x] else suOf bl pre k) = suOf bl (pre ++ [x]) := funext fun k => by
      unfold suOf
      rw [List.filter_append]
      by_cases h : k ∈ bl x <;> simp [h]
    rw [hL, e1, e2, ← keysOf_snoc] at r
    exact ⟨lt_of_blt rfl, lt_of_blt rfl, _, _, ev_cons (ev_expr (ev_own rfl (hL ▸ ki) (ev_acons rfl (ev_star rfl hst)) r)) rfl, ⟨_, _, rfl⟩, rfl⟩
  · obtain ⟨r1, -, rfl⟩ := r
    have e0 : P ++ [O.attrs [none, none, none, none]] ++ [O.inst P.length] ++ [O.dict []] = HS P (.attrs [none, none, none, none]) (.dict (dk (P.length + 3) [])) [] (npOf bl []) (fun k => .list ((suOf bl [] k).map .int)) [] := by simp [HS, cells, dk]
    have eL : (P ++ [O.attrs [none, none, none, none]] ++ [O.inst P.length]).length = P.length + 2 := by simp
    have h1 : (HB P [] (npOf bl []) (suOf bl []))[b]? = some (.dict (F.map fun m => (m, V.ref (ba m)))) := (hs_lo hlt).trans hb
    have h2 : frzAt (some b) (HB P [] (npOf bl []) (suOf bl [])) = HB P' [] (npOf bl []) (suOf bl []) := by
      refine (frz_lo h1).trans ((hs_setlo hlt).trans ?_)
      unfold HB; rw [hL, ← hP']
    have e4 : P'.set b (.dict (F.map fun m => (m, V.ref (ba m)))) = P := by
      rw [hP', List.set_set]
      exact List.ext_getElem? fun i => by
        by_cases q : b = i
        · subst q; rw [List.getElem?_set_self hlt, hb]
        · rw [List.getElem?_set_ne q]
    have h3 : unfrz (some b) (HB P [] (npOf bl []) (suOf bl [])) (HB P' (keysOf bl F) (npOf bl F) (suOf bl F)) = HB P (keysOf bl F) (npOf bl F) (suOf bl F) := by
      refine (unfrz_of h1).trans ((hs_setlo (hL ▸ hlt)).trans ?_)
      rw [e4, hL]; rfl
    rw [← h2] at r1
    have ov : oView true (.ref b) [] (HB P [] (npOf bl []) (suOf bl [])) = some (.view true b, HB P [] (npOf bl []) (suOf bl [])) := by
      unfold oView; simp only [h1, Option.map_some, O.thaw]
    exact ev_make (ev_fop0 rfl rfl (ev_cons (ev_setattr (j := 0) rfl rfl ((congrArg (fun n => sAttr 0 _ (.ref n) _) eL).trans ((congrArg (sAttr 0 _ _) e0).trans (sa rfl)))) (ev_cons (ev_setattr (j := 1) rfl rfl (sa rfl)) (ev_cons (ev_setattr (j := 2) rfl rfl (sa rfl)) (ev_cons (ev_setattr (j := 3) rfl rfl (sa rfl))
      (ev_cons (ev_if_t (ev_tcmp rfl rfl rfl) (ev_cons ((ev_foritems (ev_meth rfl (kd (congrArg (Option.map O.thaw) h1)) rfl ov) (congrArg (Option.map O.thaw) h1) r1).trans (congrArg (fun z => some (Flw.next, e', z)) h3)) rfl)) rfl))))))
end
end Mine
end
section
set_option tactic.hygienic false
open PySem PySem.W PyProof.Rows PySem.Calls PySem.SeqAt Builtin
namespace Mine
noncomputable def fcE (s n b0 : Nat) (x : Option V) : AEnv := [some (.ref s), some (.ref n), some (.ref b0), some (.ref (b0 + 1)), some (.ref (b0 + 2)), some (.ref (b0 + 3)), x]
noncomputable abbrev Fr3 := Int × Nat × Nat
noncomputable def unseen (K seen : List Int) : Nat := (K.filter fun k => decide (k ∉ seen)).length
noncomputable def remOf (su : Int → List Int) : List Fr3 → Nat
  | [] => 0
  | f :: r => ((su f.1).length - f.2.2) + remOf su r
structure FcI (b0 : Nat) (B : AHeap) (K : List Int) (la : Int → Nat) (H : AHeap) (fr : List Fr3) (seen : List Int) : Prop where
  base : ∀ i, i < b0 → H[i]? = B[i]?
  st : H[b0]? = some (.list (fr.map fun f => .int f.1))
  its : H[b0 + 1]? = some (.list (fr.map fun f => .ref (f.2.1 + 1)))
  sn : H[b0 + 2]? = some (.set seen)
  dc : ∃ kvs, H[b0 + 3]? = some (.dict kvs) ∧ kvs.map (·.1) = fr.map (·.1)
  fs : ∀ f ∈ fr, f.1 ∈ K ∧ b0 + 4 ≤ f.2.1 ∧ H[f.2.1]? = some (.iter (la f.1) f.2.2) ∧ H[f.2.1 + 1]? = some (.nxt f.2.1)
  up : (fr.map (·.1)).Pairwise (· < ·)
  nd : (fr.map (·.2.1)).Nodup
  n1 : fr.length ≤ seen.length
  n2 : seen.length + unseen K seen ≤ 900
theorem rem_snoc {su : Int → List Int} {f : Fr3} : ∀ {fr : List Fr3}, remOf su (fr ++ [f]) = remOf su fr + ((su f.1).length - f.2.2)
  | [] => (Nat.zero_add _).symm ▸ rfl
  | g :: r => by
    show _ + remOf su (r ++ [f]) = _ + remOf su r + _
    rw [rem_snoc, Nat.add_assoc]
theorem kvFind_keys {k : Int} : ∀ {kvs : List (Int × V)}, (kvFind kvs k).isSome = decide (k ∈ kvs.map (·.1))
  | [] => rfl
  | p :: r => by
    unfold kvFind
    by_cases h : p.1 = k
    · simp [h]
    · have h' : ¬ k = p.1 := fun q => h q.symm
      rw [if_neg h, kvFind_keys]; simp [h']
theorem kvDel_last {k : Int} : ∀ {kvs : List (Int × V)} {ks : List Int}, kvs.map (·.1) = ks ++ [k] → k ∉ ks → (kvDel kvs k).map (·.1) = ks
  | [], ks, h, _ => by simp at h
  | p :: r, [], h, _ => by
    simp only [List.nil_append, List.map_cons, List.cons.injEq, List.map_eq_nil_iff] at h
    unfold kvDel; rw [if_pos h.1, h.2]; rfl
  | p :: r, x :: ks, h, hk => by
    simp only [List.cons_append, List.map_cons, List.cons.injEq] at h
    unfold kvDel
    rw [if_neg fun q => hk (by rw [← q, h.1]; exact List.mem_cons_self), List.map_cons, h.1, kvDel_last h.2 fun q => hk (List.mem_cons_of_mem _ q)]
theorem unseen_add {K seen : List Int} {m : Int} (hm : m ∈ K) (hs : m ∉ seen) : unseen K (seen ++ [m]) < unseen K seen := by
  have h : ∀ l : List Int, (l.filter fun k => decide (k ∉ seen ++ [m])).length ≤ (l.filter fun k => decide (k ∉ seen)).length ∧ (m ∈ l → (l.filter fun k => decide (k ∉ seen ++ [m])).length < (l.filter fun k => decide (k ∉ seen)).length) := by
    intro l
    induction l with
    | nil => exact ⟨Nat.le_refl _, fun q => nomatch q⟩
    | cons x l ih =>
      by_cases hx : x = m
      · subst hx
        rw [List.filter_cons_of_neg (by simp), List.filter_cons_of_pos (by simpa using hs), List.length_cons]
        exact ⟨Nat.le_succ_of_le ih.1, fun _ => Nat.lt_succ_of_le ih.1⟩
      · by_cases hxs : x ∈ seen
        · rw [List.filter_cons_of_neg (by simp [hxs]), List.filter_cons_of_neg (by simpa using hxs)]
          exact ⟨ih.1, fun q => ih.2 ((List.mem_cons.mp q).resolve_left fun e => hx e.symm)⟩
        · rw [List.filter_cons_of_pos (by simp [hxs, hx]), List.filter_cons_of_pos (by simpa using hxs), List.length_cons, List.length_cons]
          exact ⟨Nat.succ_le_succ ih.1, fun q => Nat.succ_lt_succ (ih.2 ((List.mem_cons.mp q).resolve_left fun e => hx e.symm))⟩
  exact (h K).2 hm
theorem it_last {H : AHeap} {i : Nat} {vs : List V} {x : V} (h : H[i]? = some (.list (vs ++ [x]))) (hl : vs.length < 1000) : oItem (.ref i) (.int (-1)) H = some (x, H) := by
  have e : ((-1 : Int) + ((vs ++ [x]).length : Int)).toNat = vs.length := by rw [List.length_append, List.length_singleton]; (first | lia | omega)
  have hl2 : (vs ++ [x]).length ≤ 100000 := by rw [List.length_append, List.length_singleton]; (first | lia | omega)
  have hl3 : -((vs ++ [x]).length : Int) ≤ -1 := by rw [List.length_append, List.length_singleton]; (first | lia | omega)
  unfold oItem
  simp only [h, Option.map_some, O.thaw, hl2, if_true, e, hl3]
  simp
theorem op_last {H : AHeap} {i : Nat} {vs : List V} {x : V} (h : H[i]? = some (.list (vs ++ [x]))) (hl : vs.length < 1000) : oPop (.ref i) [] H = some (x, H.set i (.list vs)) := by
  have hl2 : (vs ++ [x]).length ≤ 100000 := by rw [List.length_append, List.length_singleton]; (first | lia | omega)
  unfold oPop
  simp only [h, List.getLast?_concat, hl2, if_true, List.dropLast_concat]
theorem vt_list {H : AHeap} {i : Nat} {vs : List V} (h : H[i]? = some (.list vs)) (hl : vs.length ≤ 100000) : vTruth (.ref i) H = some (!vs.isEmpty) := by
  unfold vTruth; simp only [h, Option.map_some, O.thaw, hl, if_true]
theorem nx {H : AHeap} {i l p : Nat} {vs : List V} (h1 : H[i + 1]? = some (.nxt i)) (h2 : H[i]? = some (.iter l p)) (h3 : (H[l]?).map O.thaw = some (.list vs)) : nxtOf (.ref (i + 1)) H = some (i, l, p, vs) := by
  unfold nxtOf; simp only [h1, Option.map_some, O.thaw, h2, h3]
section
variable {t : PM Bool} {b o : PM Flw} {e e1 e2 : AEnv} {H H1 H2 : AHeap} {n : Nat} {r : Option (Flw × AEnv × AHeap)}
theorem ev_wh_f (h1 : t e H = some (false, e1, H1)) (h2 : o e1 H1 = r) : mWhile (n + 1) t b o e H = r := by
  unfold mWhile; rw [h1, Option.bind_some]; exact h2
theorem ev_wh_next (h1 : t e H = some (true, e1, H1)) (h2 : b e1 H1 = some (.next, e2, H2)) (h3 : mWhile n t b o e2 H2 = r) : mWhile (n + 1) t b o e H = r := by
  unfold mWhile; rw [h1, Option.bind_some]; simp only [h2, Option.bind_some]; exact h3
theorem ev_wh_brk (h1 : t e H = some (true, e1, H1)) (h2 : b e1 H1 = some (.brk, e2, H2)) : mWhile (n + 1) t b o e H = some (.next, e2, H2) := by
  unfold mWhile; rw [h1, Option.bind_some]; simp only [h2, Option.bind_some]
end
section
variable {b0 s n : Nat} {B : AHeap} {K seen : List Int} {la : Int → Nat} {su : Int → List Int}
theorem FcI.move {H : AHeap} {fr : List Fr3} {k : Int} {it p q : Nat} (h : FcI b0 B K la H (fr ++ [(k, it, p)]) seen) : FcI b0 B K la (H.set it (.iter (la k) q)) (fr ++ [(k, it, q)]) seen := by
  have hf := h.fs (k, it, p) (List.mem_append_right _ List.mem_cons_self)
  have hit : it < H.length := (List.getElem?_eq_some_iff.mp hf.2.2.1).1
  have hi4 : b0 + 4 ≤ it := hf.2.1
  have ne : ∀ {i : Nat} {x : O}, i < b0 + 4 → H[i]? = some x → (H.set it (.iter (la k) q))[i]? = some x := fun hi hx => by
    rw [List.getElem?_set_ne (by (first | lia | omega))]; exact hx
  have hnd := h.nd
  rw [List.map_append, List.nodup_append] at hnd
  refine exE1 (h.dc) fun kvs h0 => andE2 h0 fun d1 d2 => ?_
  refine ⟨fun i hi => ?_, (ne (by (first | lia | omega)) h.st).trans ?_, (ne (by (first | lia | omega)) h.its).trans ?_, ne (by (first | lia | omega)) h.sn, ⟨kvs, ne (by (first | lia | omega)) d1, d2.trans ?_⟩, fun f hm => ?_, ?_, ?_, ?_, h.n2⟩
  · rw [List.getElem?_set_ne (by (first | lia | omega))]; exact h.base i hi
  · rw [List.map_append, List.map_append]; rfl
  · rw [List.map_append, List.map_append]; rfl
  · rw [List.map_append, List.map_append]; rfl
  · have nn : it ≠ f.2.1 + 1 → H[f.2.1 + 1]? = some (.nxt f.2.1) → (H.set it (.iter (la k) q))[f.2.1 + 1]? = some (.nxt f.2.1) := fun z w => by rw [List.getElem?_set_ne z]; exact w
    rcases List.mem_append.mp hm with hm | hm
    · have g := h.fs f (List.mem_append_left _ hm)
      have z : it ≠ f.2.1 := fun e => hnd.2.2 f.2.1 (List.mem_map_of_mem hm) it List.mem_cons_self e.symm
      refine ⟨g.1, g.2.1, by rw [List.getElem?_set_ne z]; exact g.2.2.1, nn (fun e => ?_) g.2.2.2⟩
      have := hf.2.2.1
      rw [show ((k, it, p) : Fr3).2.1 = it from rfl, e, g.2.2.2] at this; cases this
    · rw [List.mem_singleton] at hm; subst hm
      exact ⟨hf.1, hf.2.1, by rw [List.getElem?_set_self hit], nn (Nat.ne_of_lt (Nat.lt_succ_self it)) hf.2.2.2⟩
  · have := h.up; rw [List.map_append] at this ⊢; exact this
  · rw [List.map_append, List.nodup_append]; exact hnd
  · have := h.n1; rw [List.length_append] at this ⊢; exact this
theorem FcI.pop {H : AHeap} {fr : List Fr3} {k : Int} {it p : Nat} {kvs : List (Int × V)} (h : FcI b0 B K la H (fr ++ [(k, it, p)]) seen) (d1 : H[b0 + 3]? = some (.dict kvs)) (d2 : kvs.map (·.1) = (fr ++ [(k, it, p)]).map (·.1)) :
    FcI b0 B K la ((((H.set it .dead).set b0 (.list (fr.map fun f => .int f.1))).set (b0 + 3) (.dict (kvDel kvs k))).set (b0 + 1) (.list (fr.map fun f => .ref (f.2.1 + 1)))) fr seen := by
  have hf := h.fs (k, it, p) (List.mem_append_right _ List.mem_cons_self)
  have hi4 : b0 + 4 ≤ it := hf.2.1
  have hl : b0 + 3 < H.length := (List.getElem?_eq_some_iff.mp d1).1
  have hnd := h.nd
  have hup := h.up
  rw [List.map_append] at d2
  rw [List.map_append, List.nodup_append] at hnd
  rw [List.map_append, List.pairwise_append] at hup
  have ne : ∀ {i : Nat} (x y z : O), i ≠ it → i ≠ b0 → i ≠ b0 + 3 → i ≠ b0 + 1 → ((((H.set it .dead).set b0 x).set (b0 + 3) y).set (b0 + 1) z)[i]? = H[i]? := fun x y z h1 h2 h3 h4 => by
    rw [List.getElem?_set_ne (Ne.symm h4), List.getElem?_set_ne (Ne.symm h3), List.getElem?_set_ne (Ne.symm h2), List.getElem?_set_ne (Ne.symm h1)]
  refine ⟨fun i hi => (ne _ _ _ (by (first | lia | omega)) (by (first | lia | omega)) (by (first | lia | omega)) (by (first | lia | omega))).trans (h.base i hi), ?_, ?_, (ne _ _ _ (by (first | lia | omega)) (by (first | lia | omega)) (by (first | lia | omega)) (by (first | lia | omega))).trans h.sn, ⟨kvDel kvs k, ?_, kvDel_last d2 fun q => ?_⟩, fun f hm => ?_, hup.1, hnd.1, ?_, h.n2⟩
  · rw [List.getElem?_set_ne (by (first | lia | omega)), List.getElem?_set_ne (by (first | lia | omega)), List.getElem?_set_self (by rw [List.length_set]; (first | lia | omega))]
  · rw [List.getElem?_set_self (by rw [List.length_set, List.length_set, List.length_set]; (first | lia | omega))]
  · rw [List.getElem?_set_ne (by (first | lia | omega)), List.getElem?_set_self (by rw [List.length_set, List.length_set]; (first | lia | omega))]
  · exact Int.lt_irrefl k (hup.2.2 k q k List.mem_cons_self)
  · have g := h.fs f (List.mem_append_left _ hm)
    have g2 := g.2.1
    have z : f.2.1 ≠ it := hnd.2.2 f.2.1 (List.mem_map_of_mem hm) it List.mem_cons_self
    have z2 : f.2.1 + 1 ≠ it := fun e => by
      have := hf.2.2.1
      rw [show ((k, it, p) : Fr3).2.1 = it from rfl, ← e, g.2.2.2] at this; cases this
    exact ⟨g.1, g2, (ne _ _ _ z (by (first | lia | omega)) (by (first | lia | omega)) (by (first | lia | omega))).trans g.2.2.1, (ne _ _ _ z2 (by (first | lia | omega)) (by (first | lia | omega)) (by (first | lia | omega))).trans g.2.2.2⟩
  · have := h.n1; rw [List.length_append] at this; exact Nat.le_trans (Nat.le_add_right _ _) this
theorem fc_in (hB : B.length = b0) (hlb : ∀ k ∈ K, (B[la k]?).map O.thaw = some (.list ((su k).map .int))) : ∀ (N : Nat) (fr : List Fr3) (H : AHeap) (x : Option V), fr.length < N → FcI b0 B K la H fr seen →
    (∃ fr' m H', mWhile N (tVal (eVar 2)) wb_S_find_cycle_1 (mCons mBrk mNil) (fcE s n b0 x) H = some (.next, fcE s n b0 (some (.int m)), H') ∧ FcI b0 B K la H' fr' seen ∧ (∃ k ∈ K, m ∈ su k ∧ ∀ f ∈ fr', f.1 ≤ k) ∧ remOf su fr' < remOf su fr) ∨
    ∃ x' H', mWhile N (tVal (eVar 2)) wb_S_find_cycle_1 (mCons mBrk mNil) (fcE s n b0 x) H = some (.brk, fcE s n b0 x', H') ∧ FcI b0 B K la H' [] seen
  | 0, _, _, _, h, _ => absurd h (Nat.not_lt_zero _)
  | N + 1, fr, H, x, hN, h => by
    rcases List.eq_nil_or_concat fr with rfl | ⟨r, ⟨k, it, p⟩, hc⟩
    · exact .inr ⟨x, H, ev_wh_f (ev_tval rfl (vt_list h.st (Nat.zero_le _))) rfl, h⟩
    · rw [List.concat_eq_append] at hc
      subst hc
      have hf := h.fs (k, it, p) (List.mem_append_right _ List.mem_cons_self)
      have hi4 : b0 + 4 ≤ it := hf.2.1
      have h1 := h.n1
      have h2 := h.n2
      have hst := h.st
      have hits := h.its
      rw [List.length_append, List.length_singleton] at h1 hN
      rw [List.map_append] at hst hits
      have tt : tVal (eVar 2) (fcE s n b0 x) H = some (true, fcE s n b0 x, H) := ev_tval rfl ((vt_list hst (by rw [List.length_append, List.length_map]; exact Nat.le_trans h1 (by (first | lia | omega)))).trans (by simp))
      have hla : (H[la k]?).map O.thaw = some (.list ((su k).map .int)) := by
        have q := hlb k hf.1
        have : la k < B.length := by
          cases z : B[la k]? with
          | none => rw [z] at q; cases q
          | some o => exact (List.getElem?_eq_some_iff.mp z).1
        rw [h.base _ (hB ▸ this)]; exact q
      have e1 : eSub (eVar 3) (eNeg (eInt 1)) (fcE s n b0 x) H = some (.ref (it + 1), fcE s n b0 x, H) := ev_sub rfl (ev_neg rfl) (it_last hits (by rw [List.length_map]; (first | lia | omega)))
      have e2 := nx hf.2.2.2 hf.2.2.1 hla
      by_cases hp : p < (su k).length
      · refine .inl ⟨r ++ [(k, it, p + 1)], (su k)[p], _, ev_wh_brk tt (ev_cons_brk (ev_trynext e1 e2 (x := .int (su k)[p]) (by rw [List.getElem?_map, List.getElem?_eq_getElem hp]; rfl) rfl)), h.move, ⟨k, hf.1, List.getElem_mem hp, fun f hm => ?_⟩, ?_⟩
        · have hup := h.up
          rw [List.map_append, List.pairwise_append] at hup
          rcases List.mem_append.mp hm with hm | hm
          · exact Int.le_of_lt (hup.2.2 f.1 (List.mem_map_of_mem hm) k List.mem_cons_self)
          · rw [List.mem_singleton] at hm; rw [hm]; exact Int.le_refl _
        · rw [rem_snoc, rem_snoc]; show _ + ((su k).length - (p + 1)) < _ + ((su k).length - p); (first | lia | omega)
      · refine exE1 (h.dc) fun kvs h1 => andE2 h1 fun d1 d2 => ?_
        have h' := h.pop d1 d2
        have ne : ∀ {i : Nat} {y z : O}, i ≠ it → H[i]? = some y → (H.set it z)[i]? = some y := fun q w => by rw [List.getElem?_set_ne (Ne.symm q)]; exact w
        have ne2 : ∀ {i : Nat} {y z w : O}, i ≠ it → i ≠ b0 → H[i]? = some y → ((H.set it z).set b0 w)[i]? = some y := fun q q2 w => by rw [List.getElem?_set_ne (Ne.symm q2)]; exact ne q w
        have ne3 : ∀ {i : Nat} {y z w u : O}, i ≠ it → i ≠ b0 → i ≠ b0 + 3 → H[i]? = some y → (((H.set it z).set b0 w).set (b0 + 3) u)[i]? = some y := fun q q2 q3 w => by rw [List.getElem?_set_ne (Ne.symm q3)]; exact ne2 q q2 w
        have st : ∃ x', wb_S_find_cycle_1 (fcE s n b0 x) H = some (.next, fcE s n b0 x', (((H.set it .dead).set b0 (.list (r.map fun f => .int f.1))).set (b0 + 3) (.dict (kvDel kvs k))).set (b0 + 1) (.list (r.map fun f => .ref (f.2.1 + 1)))) := by
          refine ⟨x, ev_cons (ev_trystop e1 e2 (List.getElem?_eq_none (by rw [List.length_map]; exact Nat.le_of_not_lt hp)) (ev_cons (ev_del rfl (ev_meth rfl (kl (congrArg (Option.map O.thaw) (ne (by (first | lia | omega)) hst))) rfl (op_last (ne (by (first | lia | omega)) hst) (by rw [List.length_map]; (first | lia | omega)))) ?_) (ev_cons (ev_expr (ev_meth rfl (kl (congrArg (Option.map O.thaw) (ne3 (by (first | lia | omega)) (by (first | lia | omega)) (by (first | lia | omega)) hits))) rfl (op_last (ne3 (by (first | lia | omega)) (by (first | lia | omega)) (by (first | lia | omega)) hits) (by rw [List.length_map]; (first | lia | omega))))) rfl))) rfl⟩
          have hkl : kvs.length = r.length + 1 := by have := congrArg List.length d2; simpa using this
          unfold oDel
          simp only [ne2 (z := .dead) (w := .list (r.map fun f => V.int f.1)) (show b0 + 3 ≠ it by (first | lia | omega)) (show b0 + 3 ≠ b0 by (first | lia | omega)) d1]
          exact if_pos ⟨by (first | lia | omega), by rw [kvFind_keys, d2]; simp⟩
        obtain ⟨x', st⟩ := st
        rcases fc_in hB hlb N r _ x' (by (first | lia | omega)) h' with ⟨fr', m, H', a1, a2, a3, a4⟩ | ⟨y, H', a1, a2⟩
        · exact .inl ⟨fr', m, H', ev_wh_next tt st a1, a2, a3, Nat.lt_of_lt_of_le a4 (by rw [rem_snoc]; exact Nat.le_add_right _ _)⟩
        · exact .inr ⟨y, H', ev_wh_next tt st a1, a2⟩
end
end Mine
end
section
set_option tactic.hygienic false
open PySem PySem.W PyProof.Rows PySem.Calls PySem.SeqAt Builtin
namespace Mine
section
variable {b0 s n : Nat} {B : AHeap} {K seen : List Int} {na la : Int → Nat} {su : Int → List Int}
theorem FcI.push {H : AHeap} {fr : List Fr3} {m : Int} {kvs : List (Int × V)} {v : V} (h : FcI b0 B K la H fr seen) (d1 : H[b0 + 3]? = some (.dict kvs)) (d2 : kvs.map (·.1) = fr.map (·.1)) (hm : m ∈ K) (hs : m ∉ seen) (hup : ∀ f ∈ fr, f.1 < m) :
    FcI b0 B K la ((((((H.set (b0 + 2) (.set (seen ++ [m]))) ++ [O.iter (la m) 0]) ++ [O.nxt H.length]).set (b0 + 1) (.list (fr.map (fun f => V.ref (f.2.1 + 1)) ++ [V.ref (H.length + 1)]))).set (b0 + 3) (.dict (kvPut kvs m v))).set b0 (.list (fr.map (fun f => V.int f.1) ++ [V.int m]))) (fr ++ [(m, H.length, 0)]) (seen ++ [m]) := by
  have hl : b0 + 3 < H.length := (List.getElem?_eq_some_iff.mp d1).1
  have e0 : ∀ {i : Nat} (x a b : O), i < H.length → i ≠ b0 + 2 → (((H.set (b0 + 2) x) ++ [a]) ++ [b])[i]? = H[i]? := fun x a b h1 h2 => by
    rw [List.getElem?_append_left (by rw [List.length_append, List.length_set]; exact Nat.lt_succ_of_lt h1), List.getElem?_append_left (by rw [List.length_set]; exact h1), List.getElem?_set_ne (Ne.symm h2)]
  have eL : ∀ (x a b : O), (((H.set (b0 + 2) x) ++ [a]) ++ [b]).length = H.length + 2 := fun x a b => by simp
  have e1 : ∀ {i : Nat} {T : List O} (x y z : O), i ≠ b0 + 1 → i ≠ b0 + 3 → i ≠ b0 → (((T.set (b0 + 1) x).set (b0 + 3) y).set b0 z)[i]? = T[i]? := fun x y z h1 h2 h3 => by
    rw [List.getElem?_set_ne (Ne.symm h3), List.getElem?_set_ne (Ne.symm h2), List.getElem?_set_ne (Ne.symm h1)]
  have hU := unseen_add hm hs
  refine ⟨fun i hi => (e1 _ _ _ (by (first | lia | omega)) (by (first | lia | omega)) (by (first | lia | omega))).trans ((e0 _ _ _ (by (first | lia | omega)) (by (first | lia | omega))).trans (h.base i hi)), ?_, ?_, ?_, ⟨kvPut kvs m v, ?_, ?_⟩, fun f hf => ?_, ?_, ?_, ?_, ?_⟩
  · rw [List.getElem?_set_self (by rw [List.length_set, List.length_set, eL]; (first | lia | omega)), List.map_append]; rfl
  · rw [List.getElem?_set_ne (by (first | lia | omega)), List.getElem?_set_ne (by (first | lia | omega)), List.getElem?_set_self (by rw [eL]; (first | lia | omega)), List.map_append]; rfl
  · rw [e1 _ _ _ (by (first | lia | omega)) (by (first | lia | omega)) (by (first | lia | omega)), List.getElem?_append_left (by simp; (first | lia | omega)), List.getElem?_append_left (by simp; (first | lia | omega)), List.getElem?_set_self (by (first | lia | omega))]
  · rw [List.getElem?_set_ne (by (first | lia | omega)), List.getElem?_set_self (by rw [List.length_set, eL]; (first | lia | omega))]
  · have hk : kvFind kvs m = none := by
      have := kvFind_keys (kvs := kvs) (k := m)
      rw [d2, decide_eq_false (fun q => by obtain ⟨f, hf, e⟩ := List.mem_map.mp q; exact Int.lt_irrefl m (e ▸ hup f hf))] at this
      exact Option.not_isSome_iff_eq_none.mp (by rw [this]; nofun)
    rw [kvPut_new hk, List.map_append, List.map_append, d2]; rfl
  · rcases List.mem_append.mp hf with hf | hf
    · have g := h.fs f hf
      have g2 := g.2.1
      have l1 := (List.getElem?_eq_some_iff.mp g.2.2.1).1
      have l2 := (List.getElem?_eq_some_iff.mp g.2.2.2).1
      exact ⟨g.1, g2, (e1 _ _ _ (by (first | lia | omega)) (by (first | lia | omega)) (by (first | lia | omega))).trans ((e0 _ _ _ l1 (by (first | lia | omega))).trans g.2.2.1), (e1 _ _ _ (by (first | lia | omega)) (by (first | lia | omega)) (by (first | lia | omega))).trans ((e0 _ _ _ l2 (by (first | lia | omega))).trans g.2.2.2)⟩
    · rw [List.mem_singleton] at hf; subst hf
      refine ⟨hm, hl, (e1 _ _ _ (by show H.length ≠ _; (first | lia | omega)) (by show H.length ≠ _; (first | lia | omega)) (by show H.length ≠ _; (first | lia | omega))).trans ?_, (e1 _ _ _ (by show H.length + 1 ≠ _; (first | lia | omega)) (by show H.length + 1 ≠ _; (first | lia | omega)) (by show H.length + 1 ≠ _; (first | lia | omega))).trans ?_⟩
      · show (((H.set (b0 + 2) _) ++ [O.iter (la m) 0]) ++ [_])[H.length]? = _
        simp
      · show (((H.set (b0 + 2) _) ++ [O.iter (la m) 0]) ++ [_])[H.length + 1]? = _
        simp
  · rw [List.map_append, List.pairwise_append]
    exact ⟨h.up, List.pairwise_singleton _ _, fun a ha b hb => by
      obtain ⟨f, hf, rfl⟩ := List.mem_map.mp ha
      rw [List.map_singleton, List.mem_singleton] at hb; rw [hb]; exact hup f hf⟩
  · rw [List.map_append, List.nodup_append]
    exact ⟨h.nd, List.nodup_cons.mpr ⟨nofun, List.nodup_nil⟩, fun a ha b hb e => by
      obtain ⟨f, hf, rfl⟩ := List.mem_map.mp ha
      rw [List.map_singleton, List.mem_singleton] at hb
      have := (List.getElem?_eq_some_iff.mp (h.fs f hf).2.2.1).1
      have e2 : f.2.1 = H.length := e.trans hb
      (first | lia | omega)⟩
  · rw [List.length_append, List.length_append]; exact Nat.succ_le_succ h.n1
  · have := h.n2; rw [List.length_append, List.length_singleton]; (first | lia | omega)
theorem fc_visit {H : AHeap} {fr : List Fr3} {m : Int} (hB : B.length = b0) (hn : ∀ k ∈ K, ∃ kvs, (B[n]?).map O.thaw = some (.dict kvs) ∧ kvFind kvs k = some (.ref (na k))) (hg : ∀ k ∈ K, ∃ d x y, B[na k]? = some (.node d [x, y, some (.ref (la k))])) (hla : ∀ k ∈ K, ∃ vs, (B[la k]?).map O.thaw = some (.list vs))
    (h : FcI b0 B K la H fr seen) (hm : m ∈ K) (hup : ∀ f ∈ fr, f.1 < m) : ∃ fr' seen' H', FcI b0 B K la H' fr' seen' ∧ (∀ f ∈ fr', f ∈ fr ∨ f = (m, H.length, 0)) ∧ unseen K seen' * 17 + remOf su fr' ≤ unseen K seen * 17 + remOf su fr + ((su m).length - 16) ∧
      ∀ c r, c (fcE s n b0 (some (.int m))) H' = r → mCons (mIf (tCmp (eVar 6) (eVar 4) cIn) (mCons (mIf (tCmp (eVar 6) (eVar 5) cIn) mFail mNil) mNil) (mCons (mExprS (eMeth (eVar 4) kSet (aCons (eVar 6) aNil) oSetAdd)) (mCons (mExprS (eMeth (eVar 3) kList (aCons (eNext (eFun (aCons (eSlot 2 (eSub (eVar 1) (eVar 6))) aNil) oIter)) aNil) oAppend)) (mCons (mSetItem (eFun (aCons (eVar 2) aNil) oLen) (eVar 5) (eVar 6)) (mCons (mExprS (eMeth (eVar 2) kList (aCons (eVar 6) aNil) oAppend)) mNil))))) c (fcE s n b0 (some (.int m))) H = r := by
  refine exE1 (h.dc) fun kvs h2 => andE2 h2 fun d1 d2 => ?_
  have hl : b0 + 3 < H.length := (List.getElem?_eq_some_iff.mp d1).1
  have e4 : tCmp (eVar 6) (eVar 4) cIn (fcE s n b0 (some (.int m))) H = some (decide (m ∈ seen), fcE s n b0 (some (.int m)), H) := ev_tcmp rfl rfl (by
    show vIn _ _ _ = _
    unfold vIn; simp only [h.sn, Option.map_some, O.thaw])
  by_cases hs : m ∈ seen
  · rw [decide_eq_true hs] at e4
    refine exI3 fr seen H ⟨h, fun f hf => .inl hf, Nat.le_add_right _ _, fun c r hc => ev_cons (ev_if_t e4 (ev_cons (ev_if_f (ev_tcmp rfl rfl ?_) rfl) rfl)) hc⟩
    show vIn _ _ _ = _
    unfold vIn; simp only [d1, Option.map_some, O.thaw, kvFind_keys, d2]
    rw [decide_eq_false (fun q => by obtain ⟨f, hf, e⟩ := List.mem_map.mp q; exact Int.lt_irrefl m (e ▸ hup f hf))]
  · rw [decide_eq_false hs] at e4
    refine exE1 (hn m hm) fun kn h3 => andE2 h3 fun n1 n2 => ?_
    refine exE3 (hg m hm) fun dd x y g1 => ?_
    obtain ⟨vs, l1⟩ := hla m hm
    have hU := unseen_add hm hs
    have hn1 := h.n1
    have hn2 := h.n2
    have lt : ∀ {i : Nat}, B[i]? ≠ none → i < b0 := fun {i} q => by
      rw [← hB]; exact Nat.lt_of_not_le fun z => q (List.getElem?_eq_none z)
    have nn := lt (i := n) fun q => by rw [q] at n1; cases n1
    have ll := lt (i := la m) fun q => by rw [q] at l1; cases l1
    have gl := lt (i := na m) fun q => by rw [q] at g1; cases g1
    have q1 : ∀ {i : Nat} {z : O}, i < b0 → (H.set (b0 + 2) z)[i]? = B[i]? := fun w => by rw [List.getElem?_set_ne (by (first | lia | omega))]; exact h.base _ w
    have q2 : ∀ {i : Nat} {z w u y : O}, i ≠ b0 + 2 → H[i]? = some y → (H.set (b0 + 2) z ++ [w] ++ [u])[i]? = some y := fun {i z w u y} a c => by
      have := (List.getElem?_eq_some_iff.mp c).1
      rw [List.append_assoc, List.getElem?_append_left (by rw [List.length_set]; exact this), List.getElem?_set_ne (Ne.symm a)]; exact c
    have hll : (H.set (b0 + 2) (.set (seen ++ [m]))).length = H.length := List.length_set
    have a1 : oSetAdd (.ref (b0 + 2)) [.int m] H = some (.none, H.set (b0 + 2) (.set (seen ++ [m]))) := by
      have : seen.length + 1 < scanBound := by unfold scanBound; (first | lia | omega)
      unfold oSetAdd; simp only [h.sn, this, if_true, hs, if_false]
    have a2 : oIter [.ref (la m)] (H.set (b0 + 2) (.set (seen ++ [m]))) = some (.ref H.length, H.set (b0 + 2) (.set (seen ++ [m])) ++ [.iter (la m) 0]) := by
      unfold oIter; simp only [congrArg (Option.map O.thaw) (q1 (z := .set (seen ++ [m])) ll), l1, hll]
    have a3 : eNext (eFun (aCons (eSlot 2 (eSub (eVar 1) (eVar 6))) aNil) oIter) (fcE s n b0 (some (.int m))) (H.set (b0 + 2) (.set (seen ++ [m]))) = some (.ref (H.length + 1), fcE s n b0 (some (.int m)), H.set (b0 + 2) (.set (seen ++ [m])) ++ [.iter (la m) 0] ++ [.nxt H.length]) :=
      (ev_next (ev_fun (ev_a1 (ev_slot (ev_sub rfl rfl (oi ((congrArg (Option.map O.thaw) (q1 nn)).trans n1) n2)) (gs ((q1 gl).trans g1) (j := 2) (by decide) rfl))) a2) (by rw [List.getElem?_append_right (Nat.le_of_eq hll), hll, Nat.sub_self]; rfl)).trans (by rw [List.length_append, hll]; rfl)
    have hfl : (fr.map fun f => V.int f.1).length ≤ 100000 := by rw [List.length_map]; (first | lia | omega)
    have hfl2 : (fr.map fun f => V.ref (f.2.1 + 1)).length ≤ 100000 := by rw [List.length_map]; (first | lia | omega)
    have hkl : kvs.length ≤ 100000 := by have := congrArg List.length d2; simp at this; (first | lia | omega)
    have n0 : ∀ {T : AHeap} {z y : O}, T[b0]? = some y → (T.set (b0 + 1) z)[b0]? = some y := fun w => by rw [List.getElem?_set_ne (by (first | lia | omega))]; exact w
    have b4 := n0 (z := .list ((fr.map fun f => V.ref (f.2.1 + 1)) ++ [.ref (H.length + 1)])) (q2 (z := .set (seen ++ [m])) (w := .iter (la m) 0) (u := .nxt H.length) (by (first | lia | omega)) h.st)
    have b5 : (((H.set (b0 + 2) (.set (seen ++ [m])) ++ [O.iter (la m) 0] ++ [O.nxt H.length]).set (b0 + 1) (.list ((fr.map fun (f : Fr3) => V.ref (f.2.1 + 1)) ++ [V.ref (H.length + 1)]))).set (b0 + 3) (.dict (kvPut kvs m (.int (fr.map fun (f : Fr3) => V.int f.1).length))))[b0]? = some (.list (fr.map fun (f : Fr3) => V.int f.1)) := by
      rw [List.getElem?_set_ne (by (first | lia | omega))]; exact b4
    refine exI3 _ _ _ ⟨h.push (v := .int (fr.map fun f => V.int f.1).length) d1 d2 hm hs hup, fun f hf => (List.mem_append.mp hf).imp id fun w => List.mem_singleton.mp w, ?_, fun c r hc => ev_cons (ev_if_f e4 (ev_cons (ev_expr (ev_meth rfl ?_ (ev_a1 rfl) a1)) (ev_cons (ev_expr (ev_meth rfl (kl (congrArg (Option.map O.thaw) ((List.getElem?_set_ne (by (first | lia | omega))).trans h.its))) (ev_a1 a3) (oap (q2 (by (first | lia | omega)) h.its) hfl2)))
      (ev_cons (ev_setitem (ev_fun (ev_a1 rfl) ?_) rfl rfl (osi ((List.getElem?_set_ne (by (first | lia | omega))).trans (q2 (by (first | lia | omega)) d1)) hkl)) (ev_cons (ev_expr (ev_meth rfl (kl (congrArg (Option.map O.thaw) b5)) (ev_a1 rfl) (oap b5 hfl))) rfl))))) hc⟩
    · rw [rem_snoc]; show _ + (_ + ((su m).length - 0)) ≤ _; (first | lia | omega)
    · unfold kSet; simp only [h.sn, Option.map_some, O.thaw]
    · unfold oLen; simp only [b4, Option.map_some, O.thaw, hfl, if_true]
end
end Mine
end
section
set_option tactic.hygienic false
open PySem PySem.W PyProof.Rows PySem.Calls PySem.SeqAt Builtin
namespace Mine
section
variable {b0 s n : Nat} {B : AHeap} {K seen : List Int} {na la : Int → Nat} {su : Int → List Int}
theorem fc_out (hB : B.length = b0) (hlb : ∀ k ∈ K, (B[la k]?).map O.thaw = some (.list ((su k).map .int))) (hn : ∀ k ∈ K, ∃ kvs, (B[n]?).map O.thaw = some (.dict kvs) ∧ kvFind kvs k = some (.ref (na k)))
    (hg : ∀ k ∈ K, ∃ d x y, B[na k]? = some (.node d [x, y, some (.ref (la k))])) (hsu : ∀ k ∈ K, (su k).length ≤ 16 ∧ ∀ m ∈ su k, m ∈ K ∧ k < m) : ∀ (N : Nat) (seen : List Int) (fr : List Fr3) (H : AHeap) (m : Int), unseen K seen * 17 + remOf su fr < N → FcI b0 B K la H fr seen → m ∈ K → (∀ f ∈ fr, f.1 < m) →
    ∃ x' H' seen', mWhile N (tVal (eBool true)) wb_S_find_cycle_2 mNil (fcE s n b0 (some (.int m))) H = some (.next, fcE s n b0 x', H') ∧ FcI b0 B K la H' [] seen'
  | 0, _, _, _, _, h, _, _, _ => absurd h (Nat.not_lt_zero _)
  | N + 1, seen, fr, H, m, hN, h, hm, hup => by
    obtain ⟨fr1, seen1, H1, h1, -, hle, ev⟩ := fc_visit (s := s) (su := su) hB hn hg (fun k hk => ⟨_, hlb k hk⟩) h hm hup
    have hsm := (hsu m hm).1
    have hn1 := h1.n1
    have hn2 := h1.n2
    rcases fc_in (s := s) (n := n) hB hlb 1000 fr1 H1 (some (.int m)) (by (first | lia | omega)) h1 with ⟨fr2, m2, H2, a1, a2, ⟨k, hk, hmk, hf⟩, a4⟩ | ⟨x', H2, a1, a2⟩
    · have hk2 := (hsu k hk).2 m2 hmk
      refine exE3 (fc_out hB hlb hn hg hsu N seen1 fr2 H2 m2 (by (first | lia | omega)) a2 hk2.1 fun f hf2 => Int.lt_of_le_of_lt (hf f hf2) hk2.2) fun x' H' seen' h1 => andE2 h1 fun r1 r2 => ?_
      exact exI3 x' H' seen' ⟨ev_wh_next (ev_tval rfl rfl) (ev _ _ (ev_cons a1 rfl)) r1, r2⟩
    · exact exI3 x' H2 seen1 ⟨ev_wh_brk (ev_tval rfl rfl) (ev _ _ (ev_cons_brk a1)), a2⟩
theorem unseen_le : unseen K seen ≤ K.length := List.length_filter_le _ _
theorem base_eq {H : AHeap} (hB : B.length = b0) (h : ∀ i, i < b0 → H[i]? = B[i]?) : H = B ++ H.drop b0 := by
  have : H.take b0 = B := List.ext_getElem? fun i => by
    by_cases q : i < b0
    · rw [List.getElem?_take_of_lt q, h i q]
    · rw [List.getElem?_eq_none (by rw [List.length_take]; (first | lia | omega)), List.getElem?_eq_none (by (first | lia | omega))]
  exact (List.take_append_drop b0 H).symm.trans (congrArg (· ++ H.drop b0) this)
end
section
variable {P Q : List O} {K : List Int} {np : Int → Int} {su : Int → List Int} {r : V} {po nf : Int}
noncomputable abbrev scO (su : Int → List Int) : Int → O := fun k => .list ((su k).map .int)
theorem run_find_cycle (nd : K.Nodup) (hK : K.length ≤ 16) (hsu : ∀ k ∈ K, (su k).length ≤ 16 ∧ ∀ m ∈ su k, m ∈ K ∧ k < m) :
    ∃ T, op_S_find_cycle [.ref (P.length + 1)] (HS P (AT P.length r po nf) (.dict (dk (P.length + 3) K)) K np (scO su) Q) = some (.none, HS P (AT P.length r po nf) (.dict (dk (P.length + 3) K)) K np (scO su) (Q ++ T)) := by
  refine named (HS P (AT P.length r po nf) (.dict (dk (P.length + 3) K)) K np (scO su) Q) fun H hH => ?_
  rw [← hH]
  refine named (HS P (AT P.length r po nf) (.frz (.dict (dk (P.length + 3) K))) K np (scO su) Q) fun B hBB => ?_
  have hl : B.length = H.length := by rw [hBB, hH, hs_len, hs_len]
  have i0 : FcI H.length B K (fun k => bad (P.length + 3) K k + 2) (B ++ [.list [], .list [], .set [], .dict []]) [] [] :=
    ⟨fun i hi => List.getElem?_append_left (hl ▸ hi), (by rw [← hl]; simp), (by rw [← hl]; simp), (by rw [← hl]; simp), ⟨[], (by rw [← hl]; simp), rfl⟩, (fun f hf => nomatch hf), List.Pairwise.nil, List.nodup_nil, Nat.le_refl _, (by have := unseen_le (K := K) (seen := []); show 0 + _ ≤ _; (first | lia | omega))⟩
  refine (forL_inv V.int 6 fb_S_find_cycle_1 (fun _ e H' => ∃ x seen, e = fcE (P.length + 1) (P.length + 2) H.length x ∧ FcI H.length B K (fun k => bad (P.length + 3) K k + 2) H' [] seen) (all := K) K [] _ _ ⟨none, [], rfl, i0⟩ (fun pre k post e H' hp hI => ?_) rfl).elim fun e' q => q.elim fun H' rr => ?_
  · obtain ⟨x, seen, rfl, h⟩ := hI
    have hk := mem_of_pre hp
    refine ⟨lt_of_blt rfl, ?_⟩
    show ∃ fl e1 H1, fb_S_find_cycle_1 (fcE (P.length + 1) (P.length + 2) H.length (some (.int k))) H' = _ ∧ _
    have e4 : tCmp (eVar 6) (eVar 4) cIn (fcE (P.length + 1) (P.length + 2) H.length (some (.int k))) H' = some (decide (k ∈ seen), fcE (P.length + 1) (P.length + 2) H.length (some (.int k)), H') := ev_tcmp rfl rfl (by
      show vIn _ _ _ = _
      unfold vIn; simp only [h.sn, Option.map_some, O.thaw])
    by_cases hs : k ∈ seen
    · rw [decide_eq_true hs] at e4
      exact exI3 .cont _ _ ⟨ev_cons_cont (ev_if_t e4 (ev_cons_cont rfl)), .inr rfl, _, _, rfl, h⟩
    · rw [decide_eq_false hs] at e4
      have hu := unseen_le (K := K) (seen := seen)
      refine exE3 (fc_out (s := P.length + 1) (n := P.length + 2) (na := fun k => bad (P.length + 3) K k + 1) hl (fun k hk => by rw [hBB]; exact congrArg (Option.map O.thaw) (hs_list hk nd)) (fun k hk => ⟨_, by rw [hBB]; exact congrArg (Option.map O.thaw) hs_dict, dkf hk⟩) (fun k hk => ⟨_, _, _, by rw [hBB]; exact hs_node hk nd⟩) hsu 1000 seen [] H' k (by show _ + 0 < _; (first | lia | omega)) h hk fun f hf => nomatch hf) fun x' H2 seen' h3 => andE2 h3 fun r1 r2 => ?_
      exact exI3 .next _ _ ⟨ev_cons (ev_if_f e4 rfl) (ev_cons r1 rfl), .inl rfl, _, _, rfl, r2⟩
  · obtain ⟨r1, x, seen, rfl, h⟩ := rr
    have e0 : H ++ [O.list []] ++ [O.list []] ++ [O.set []] ++ [O.dict []] = HS P (AT P.length r po nf) (.dict (dk (P.length + 3) K)) K np (scO su) (Q ++ [.list [], .list [], .set [], .dict []]) := by
      rw [hH]; simp only [hs_app, List.append_assoc]; rfl
    have e1 : frzAt (some (P.length + 2)) (H ++ [O.list []] ++ [O.list []] ++ [O.set []] ++ [O.dict []]) = B ++ [.list [], .list [], .set [], .dict []] := by
      rw [e0, frz_lo hs_dict, hs_setdict, hBB, hs_app]
    have e2 : unfrz (some (P.length + 2)) (H ++ [O.list []] ++ [O.list []] ++ [O.set []] ++ [O.dict []]) H' = HS P (AT P.length r po nf) (.dict (dk (P.length + 3) K)) K np (scO su) (Q ++ H'.drop H.length) := by
      rw [e0, unfrz_of hs_dict]
      refine (congrArg (fun z : List O => z.set (P.length + 2) (.dict (dk (P.length + 3) K))) (base_eq hl h.base)).trans ?_
      rw [hBB, hs_app, hs_setdict]
    rw [← e1, ← dk_keys (a := P.length + 3)] at r1
    have v1 : vItems (.ref (P.length + 2)) (H ++ [O.list []] ++ [O.list []] ++ [O.set []] ++ [O.dict []]) = some ((dk (P.length + 3) K).map (fun p => .int p.1), some (P.length + 2)) := by
      rw [e0]; unfold vItems; simp only [hs_dict, Option.map_some, O.thaw]
    have l1 : (H ++ [O.list []]).length = H.length + 1 := by simp
    have l2 : (H ++ [O.list []] ++ [O.list []]).length = H.length + 2 := by simp
    have l3 : (H ++ [O.list []] ++ [O.list []] ++ [O.set []]).length = H.length + 3 := by simp
    refine ⟨H'.drop H.length, ev_fop rfl rfl (ev_cons (ev_assign (ev_attr rfl (show gAttr 0 _ H = _ by rw [hH]; exact ga (j := 0) (by decide) rfl)) rfl) (ev_cons (ev_assign (ev_list rfl rfl) rfl) (ev_cons (ev_assign ((ev_list rfl rfl).trans (congrArg (fun n => some (V.ref n, _, _)) l1)) rfl) (ev_cons (ev_assign (ev_fun rfl (show oSet [] _ = _ from congrArg (fun n => some (V.ref n, _)) l2)) rfl)
      (ev_cons (ev_assign (show eDict0 _ _ = _ from congrArg (fun n => some (V.ref n, _, _)) l3) rfl) (ev_cons ((ev_for rfl v1 r1).trans (congrArg (fun z => some (Flw.next, _, z)) e2)) (ev_ret rfl)))))))⟩
end
end Mine
end
section
set_option tactic.hygienic false
open PySem PySem.W PyProof.Rows PySem.Calls PySem.SeqAt Builtin
namespace Mine
theorem compL_pure {α : Type} {t : PM Bool} {g : PM V} {rest : AEnv} {H : AHeap} (v u : α → V) (b : α → Bool) : ∀ (l : List α) (y : Option V), (∀ x ∈ l, t (some (v x) :: rest) H = some (b x, some (v x) :: rest, H) ∧ (b x = true → g (some (v x) :: rest) H = some (u x, some (v x) :: rest, H))) →
    ∃ y', mCompL t g (l.map v) (y :: rest) H = some ((l.filter b).map u, y' :: rest, H)
  | [], y, _ => ⟨y, rfl⟩
  | x :: l, y, h => by
    obtain ⟨h1, h2⟩ := h x List.mem_cons_self
    obtain ⟨y', r⟩ := compL_pure v u b l (some (v x)) fun z hz => h z (List.mem_cons_of_mem _ hz)
    refine ⟨y', ?_⟩
    show (t (some (v x) :: rest) H).bind _ = _
    rw [h1, Option.bind_some]
    cases hb : b x with
    | true =>
      rw [List.filter_cons_of_pos hb]
      show (g (some (v x) :: rest) H).bind _ = _
      rw [h2 hb, Option.bind_some]
      show (mCompL t g (l.map v) (some (v x) :: rest) H).bind _ = _
      rw [r]; rfl
    | false => rw [List.filter_cons_of_neg (by rw [hb]; nofun)]; exact r
theorem dk_vals : ∀ {K : List Int} {a : Nat}, K.Nodup → (dk a K).map (·.2) = K.map fun k => .ref (bad a K k + 1)
  | [], _, _ => rfl
  | x :: r, a, nd => by
    have h := List.nodup_cons.mp nd
    show V.ref (a + 1) :: (dk (a + 3) r).map (·.2) = V.ref ((if x = x then a else _) + 1) :: r.map fun k => V.ref ((if x = k then a else bad (a + 3) r k) + 1)
    rw [if_pos rfl, dk_vals h.2]
    exact congrArg (_ :: ·) (List.map_congr_left fun k hk => by rw [if_neg (fun q : x = k => h.1 (q ▸ hk))])
theorem ceq_int {a b : Int} {H : AHeap} : cEq (.int a) (.int b) H = some (a == b) := rfl
section
variable {P Q : List O} {K : List Int} {np : Int → Int} {su : Int → List Int} {r : V} {po nf : Int}
noncomputable def HR (P : List O) (K : List Int) (su : Int → List Int) (np : Int → Int) (po nf : Int) (rdy : List Int) (Q : List O) : AHeap := HS P (AT P.length (.ref (P.length + 3 + 3 * K.length)) po nf) (.dict (dk (P.length + 3) K)) K np (scO su) (.list (rdy.map .int) :: Q)
theorem run_prepare (nd : K.Nodup) (hK : K.length ≤ 16) (hsu : ∀ k ∈ K, (su k).length ≤ 16 ∧ ∀ m ∈ su k, m ∈ K ∧ k < m) :
    ∃ T, op_S_prepare [.ref (P.length + 1)] (HB P K np su) = some (.none, HR P K su np 0 0 (K.filter fun k => np k == 0) T) := by
  have fz : frzAt (some (P.length + 2)) (HB P K np su) = HS P (AT P.length .none 0 0) (.frz (.dict (dk (P.length + 3) K))) K np (scO su) [] := (frz_lo hs_dict).trans hs_setdict
  have uf : unfrz (some (P.length + 2)) (HB P K np su) (HS P (AT P.length .none 0 0) (.frz (.dict (dk (P.length + 3) K))) K np (scO su) []) = HB P K np su := (unfrz_of hs_dict).trans hs_setdict
  have hl : (HB P K np su).length = P.length + 3 + 3 * K.length := hs_len
  obtain ⟨y', c⟩ := compL_pure (t := ct_S_prepare_1) (g := ce_S_prepare_1) (rest := []) (H := HS P (AT P.length .none 0 0) (.frz (.dict (dk (P.length + 3) K))) K np (scO su) []) (fun k => V.ref (bad (P.length + 3) K k + 1)) V.int (fun k => np k == 0) K none fun k hk =>
    ⟨ev_tcmp (ev_slot rfl (gs (hs_node hk nd) (j := 1) (by decide) rfl)) rfl rfl, fun _ => ev_slot rfl (gs (hs_node hk nd) (j := 0) (by decide) rfl)⟩
  rw [← dk_vals nd, ← fz] at c
  obtain ⟨T, f⟩ := run_find_cycle (P := P) (np := np) (Q := [.list ((K.filter fun k => np k == 0).map .int)]) (r := .ref (P.length + 3 + 3 * K.length)) (po := 0) (nf := 0) nd hK hsu
  have ov : oView false (.ref (P.length + 2)) [] (HB P K np su) = some (.view false (P.length + 2), HB P K np su) := by
    unfold oView HB; simp only [hs_dict, Option.map_some, O.thaw]
  have vi : vItems (.view false (P.length + 2)) (HB P K np su) = some ((dk (P.length + 3) K).map (·.2), some (P.length + 2)) := by
    unfold vItems HB; simp only [hs_dict, Option.map_some, O.thaw]
  have e1 : eComp (eMeth (eAttr 0 (eVar 0)) kDict aNil (oView false)) ["i"] [] ct_S_prepare_1 ce_S_prepare_1 [some (.ref (P.length + 1)), none] (HB P K np su) = some (.ref (P.length + 3 + 3 * K.length), [some (.ref (P.length + 1)), none], HS P (AT P.length .none 0 0) (.dict (dk (P.length + 3) K)) K np (scO su) [.list ((K.filter fun k => np k == 0).map .int)]) :=
    (ev_comp (ev_meth (ev_attr rfl (ga (j := 0) (by decide) rfl)) (kd dkr) rfl ov) vi (by rw [List.length_map, dk_len]; (first | lia | omega)) c).trans (by rw [fz, uf, hl]; exact congrArg (fun z => some (_, _, z)) hs_app)
  exact ⟨T, ev_fop0 rfl rfl (ev_cons (ev_if_f (ev_tcmp (ev_attr rfl (ga (j := 1) (by decide) rfl)) rfl rfl) rfl) (ev_cons (ev_setattr e1 rfl (sa (j := 1) rfl)) (ev_cons (ev_assign (ev_own rfl ki rfl f) rfl) (ev_cons (ev_if_f (ev_tval rfl rfl) rfl) rfl))))⟩
theorem hr_r {rdy : List Int} : (HR P K su np po nf rdy Q)[P.length + 3 + 3 * K.length]? = some (.list (rdy.map .int)) := hs_q (i := 0)
theorem hr_setr {rdy rdy' : List Int} : (HR P K su np po nf rdy Q).set (P.length + 3 + 3 * K.length) (.list (rdy'.map .int)) = HR P K su np po nf rdy' Q := hs_setq (i := 0)
theorem run_is_active {rdy : List Int} (hr : rdy.length ≤ 16) : op_S_is_active [.ref (P.length + 1)] (HR P K su np po nf rdy Q) = some (.bool (decide (nf < po) || !rdy.isEmpty), HR P K su np po nf rdy Q) := by
  have b1 : oBoolF [.ref (P.length + 3 + 3 * K.length)] (HR P K su np po nf rdy Q) = some (.bool (!rdy.isEmpty), HR P K su np po nf rdy Q) := by
    unfold oBoolF; simp only [hr_r, Option.map_some, O.thaw, List.length_map]
    rw [if_pos (by (first | lia | omega))]
    cases rdy <;> rfl
  have c1 : eCmp (eAttr 3 (eVar 0)) (eAttr 2 (eVar 0)) cLt [some (.ref (P.length + 1))] (HR P K su np po nf rdy Q) = some (.bool (decide (nf < po)), [some (.ref (P.length + 1))], HR P K su np po nf rdy Q) := ev_cmp (ev_attr rfl (ga (j := 3) (by decide) rfl)) (ev_attr rfl (ga (j := 2) (by decide) rfl)) rfl
  refine ev_fop rfl rfl (ev_cons (ev_if_f (ev_tcmp (ev_attr rfl (ga (j := 1) (by decide) rfl)) rfl rfl) rfl) (ev_ret (e1 := [some (.ref (P.length + 1))]) ?_))
  by_cases h : nf < po
  · rw [decide_eq_true h] at c1 ⊢; exact ev_or_t c1 rfl
  · rw [decide_eq_false h] at c1 ⊢; exact ev_or_f c1 rfl (ev_fun (ev_a1 (ev_attr rfl (ga (j := 1) (by decide) rfl))) b1)
theorem run_get_ready {rdy : List Int} (nd : K.Nodup) (hr : rdy.length ≤ 16) (hrK : ∀ k ∈ rdy, k ∈ K) : op_S_get_ready [.ref (P.length + 1)] (HR P K su np po nf rdy Q) = some (.tup (rdy.map .int), HR P K su (fun k => if k ∈ rdy then -1 else np k) (po + rdy.length) nf [] Q) := by
  have t1 : oTuple [.ref (P.length + 3 + 3 * K.length)] (HR P K su np po nf rdy Q) = some (.tup (rdy.map .int), HR P K su np po nf rdy Q) := by
    unfold oTuple; simp only [hr_r, Option.map_some, O.thaw, List.length_map]
    exact if_pos (by (first | lia | omega))
  have c1 : ∀ {np : Int → Int}, oClear (.ref (P.length + 3 + 3 * K.length)) [] (HR P K su np po nf rdy Q) = some (.none, HR P K su np po nf [] Q) := fun {np} => by
    unfold oClear; simp only [hr_r, List.length_map]
    rw [if_pos (by (first | lia | omega))]
    exact congrArg (fun z => some (V.none, z)) (hr_setr (rdy' := []))
  refine (forL_inv V.int 3 fb_S_get_ready_1 (fun pre e H => (∃ x, e = [some (.ref (P.length + 1)), some (.tup (rdy.map .int)), some (.ref (P.length + 2)), x]) ∧ H = HR P K su (fun k => if k ∈ pre then -1 else np k) po nf rdy Q) (all := rdy) rdy [] _ (HR P K su np po nf rdy Q) ⟨⟨none, rfl⟩, congrArg (fun z => HR P K su z po nf rdy Q) (funext fun k => (if_neg nofun).symm)⟩ (fun pre k post e H hp hI => ?_) rfl).elim fun e' q => q.elim fun H' rr => ?_
  · obtain ⟨⟨x, rfl⟩, rfl⟩ := hI
    have hk := hrK k (mem_of_pre hp)
    refine ⟨lt_of_blt rfl, .next, _, _, ev_cons (ev_setslot rfl (ev_sub rfl rfl (oi dkr (dkf hk))) ((ss (hs_node hk nd) rfl).trans (congrArg some (hs_setnode hk nd)))) rfl, .inl rfl, ⟨_, rfl⟩, ?_⟩
    exact congrArg (fun z => HS P _ _ _ z _ _) (mem_snoc (f := fun _ => (-1 : Int)) (g := np)).symm
  · obtain ⟨r1, ⟨x, rfl⟩, rfl⟩ := rr
    have hl : (rdy.map V.int).length = rdy.length := List.length_map _
    rw [← hl]
    exact ev_fop rfl rfl (ev_cons (ev_if_f (ev_tcmp (ev_attr rfl (ga (j := 1) (by decide) rfl)) rfl rfl) rfl) (ev_cons (ev_assign (ev_fun (ev_a1 (ev_attr rfl (ga (j := 1) (by decide) rfl))) t1) rfl) (ev_cons (ev_assign (ev_attr rfl (ga (j := 0) (by decide) rfl)) rfl) (ev_cons (ev_for rfl rfl r1)
      (ev_cons (ev_expr (ev_meth (ev_attr rfl (ga (j := 1) (by decide) rfl)) (kl (congrArg (Option.map O.thaw) hr_r)) rfl c1)) (ev_cons (ev_augattr rfl (ga (j := 2) (by decide) rfl) (ev_fun (ev_a1 rfl) (if_pos (by rw [hl]; (first | lia | omega)))) rfl (sa (j := 2) rfl)) (ev_ret rfl)))))))
end
end Mine
end
section
set_option tactic.hygienic false
open PySem PySem.W PyProof.Rows PySem.Calls PySem.SeqAt Builtin
namespace Mine
noncomputable abbrev DS := (Int → Int) × List Int
noncomputable def dec1 (st : DS) (m : Int) : DS := (upd st.1 m (st.1 m - 1), if st.1 m - 1 == 0 then st.2 ++ [m] else st.2)
noncomputable def done1 (su : Int → List Int) (st : DS) (g : Int) : DS := (su g).foldl dec1 (upd st.1 g (-2), st.2)
theorem dec_len : ∀ {l : List Int} {st : DS}, (l.foldl dec1 st).2.length ≤ st.2.length + l.length
  | [], _ => Nat.le_refl _
  | m :: l, st => by
    have h := dec_len (l := l) (st := dec1 st m)
    have h2 : (dec1 st m).2.length ≤ st.2.length + 1 := by
      unfold dec1
      show (if st.1 m - 1 == 0 then st.2 ++ [m] else st.2).length ≤ _
      split
      · rw [List.length_append]; exact Nat.le_refl _
      · exact Nat.le_succ _
    rw [List.foldl_cons, List.length_cons]; (first | lia | omega)
theorem done_len {su : Int → List Int} (hs : ∀ k, (su k).length ≤ 16) : ∀ {l : List Int} {st : DS}, (l.foldl (done1 su) st).2.length ≤ st.2.length + l.length * 16
  | [], _ => Nat.le_refl _
  | g :: l, st => by
    have h := done_len hs (l := l) (st := done1 su st g)
    have h2 : (done1 su st g).2.length ≤ st.2.length + (su g).length := dec_len
    have h3 := hs g
    rw [List.foldl_cons, List.length_cons, Nat.add_mul]; (first | lia | omega)
section
variable {P Q : List O} {K : List Int} {su : Int → List Int} {po nf : Int}
theorem run_done_in {sc : Int → O} {st : DS} {l : List Int} {x0 y0 x1 x3 x4 x5 : Option V} (nd : K.Nodup) (hl : ∀ m ∈ l, m ∈ K) (hb : st.2.length + l.length ≤ 1000) : ∃ x6 x7, mForL 6 fb_S_done_1 (l.map .int) [some (.ref (P.length + 1)), x1, some (.ref (P.length + 2)), x3, x4, x5, x0, y0] (HS P (AT P.length (.ref (P.length + 3 + 3 * K.length)) po nf) (.dict (dk (P.length + 3) K)) K st.1 sc (.list (st.2.map .int) :: Q)) =
    some (.next, [some (.ref (P.length + 1)), x1, some (.ref (P.length + 2)), x3, x4, x5, x6, x7], HS P (AT P.length (.ref (P.length + 3 + 3 * K.length)) po nf) (.dict (dk (P.length + 3) K)) K (l.foldl dec1 st).1 sc (.list ((l.foldl dec1 st).2.map .int) :: Q)) := by
  refine (forL_inv V.int 6 fb_S_done_1 (fun pre e H => (∃ x6 x7, e = [some (.ref (P.length + 1)), x1, some (.ref (P.length + 2)), x3, x4, x5, x6, x7]) ∧ H = HS P (AT P.length (.ref (P.length + 3 + 3 * K.length)) po nf) (.dict (dk (P.length + 3) K)) K (pre.foldl dec1 st).1 sc (.list ((pre.foldl dec1 st).2.map .int) :: Q)) (all := l) l [] _ _ ⟨⟨x0, y0, rfl⟩, rfl⟩ (fun pre m post e H hp hI => ?_) rfl).elim fun e' q => q.elim fun H' rr => ?_
  · obtain ⟨⟨x6, x7, rfl⟩, rfl⟩ := hI
    have hm := hl m (mem_of_pre hp)
    have hlp := len_pre hp
    have hle := dec_len (l := pre) (st := st)
    rw [List.foldl_append]
    refine named (pre.foldl dec1 st) fun u hu => ?_
    rw [← hu] at hle ⊢
    have t1 : ∀ {np : Int → Int} {x : Option V}, tCmp (eSlot 1 (eVar 7)) (eInt 0) cEq [some (.ref (P.length + 1)), x1, some (.ref (P.length + 2)), x3, x4, x5, x, some (.ref (bad (P.length + 3) K m + 1))] (HS P (AT P.length (.ref (P.length + 3 + 3 * K.length)) po nf) (.dict (dk (P.length + 3) K)) K np sc (.list (u.2.map .int) :: Q)) = some (np m == 0, _, _) := ev_tcmp (ev_slot rfl (gs (hs_node hm nd) (j := 1) (by decide) rfl)) rfl rfl
    have a1 : ∀ {np : Int → Int}, oAppend (.ref (P.length + 3 + 3 * K.length)) [.int m] (HS P (AT P.length (.ref (P.length + 3 + 3 * K.length)) po nf) (.dict (dk (P.length + 3) K)) K np sc (.list (u.2.map .int) :: Q)) = some (.none, HS P (AT P.length (.ref (P.length + 3 + 3 * K.length)) po nf) (.dict (dk (P.length + 3) K)) K np sc (.list ((u.2 ++ [m]).map .int) :: Q)) := fun {np} =>
      (oap (hs_q (i := 0)) (by rw [List.length_map]; (first | lia | omega))).trans (congrArg some (congrArg (Prod.mk _) ((hs_setq (i := 0)).trans (by rw [List.map_append]; rfl))))
    have t2 := t1 (np := upd u.1 m (u.1 m - 1)) (x := some (.int m))
    rw [upd_self] at t2
    refine ⟨lt_of_blt rfl, .next, _, _, ev_cons (ev_assign (ev_sub rfl rfl (oi dkr (dkf hm))) rfl) (ev_cons (ev_augslot (W := .int (u.1 m - 1)) rfl (gs (hs_node hm nd) (j := 1) (by decide) rfl) rfl rfl ((ss (hs_node hm nd) rfl).trans (congrArg some (hs_setnode hm nd)))) (ev_cons (ev_if (r := some (Flw.next, [some (.ref (P.length + 1)), x1, some (.ref (P.length + 2)), x3, x4, x5, some (.int m), some (.ref (bad (P.length + 3) K m + 1))], HS P (AT P.length (.ref (P.length + 3 + 3 * K.length)) po nf) (.dict (dk (P.length + 3) K)) K (dec1 u m).1 sc (.list ((dec1 u m).2.map .int) :: Q))) t2 ?_) rfl)), .inl rfl, ⟨_, _, rfl⟩, rfl⟩
    unfold dec1
    by_cases hz : (u.1 m - 1 == 0) = true
    · rw [hz]; exact ev_cons (ev_expr (ev_meth (ev_attr rfl (ga (j := 1) (by decide) rfl)) (kl (congrArg (Option.map O.thaw) (hs_q (i := 0)))) (ev_a1 rfl) a1)) rfl
    · rw [eq_false_of_ne_true hz]; rfl
  · obtain ⟨r1, ⟨x6, x7, rfl⟩, rfl⟩ := rr
    exact exI2 x6 x7 r1
theorem run_done {gs' : List Int} {np : Int → Int} {rdy : List Int} (nd : K.Nodup) (hg : ∀ g ∈ gs', g ∈ K) (hgl : gs'.length ≤ 16) (hrl : rdy.length ≤ 16) (hs : ∀ k, (su k).length ≤ 16) (hsK : ∀ k ∈ K, ∀ m ∈ su k, m ∈ K) (h1 : ∀ pre g post, pre ++ g :: post = gs' → (pre.foldl (done1 su) (np, rdy)).1 g = -1) :
    op_S_done (.ref (P.length + 1) :: gs'.map .int) (HR P K su np po nf rdy Q) = some (.none, HR P K su (gs'.foldl (done1 su) (np, rdy)).1 po (nf + gs'.length) (gs'.foldl (done1 su) (np, rdy)).2 Q) := by
  refine (forL_inv V.int 3 fb_S_done_2 (fun pre e H => (∃ x3 x4 x5 x6 x7, e = [some (.ref (P.length + 1)), some (.tup (gs'.map .int)), some (.ref (P.length + 2)), x3, x4, x5, x6, x7]) ∧ H = HR P K su (pre.foldl (done1 su) (np, rdy)).1 po (nf + pre.length) (pre.foldl (done1 su) (np, rdy)).2 Q) (all := gs') gs' [] _ (HR P K su np po nf rdy Q) ⟨⟨none, none, none, none, none, rfl⟩, by show _ = HR P K su np po (nf + (0 : Nat)) rdy Q; rw [Int.natCast_zero, Int.add_zero]⟩ (fun pre g post e H hp hI => ?_) rfl).elim fun e' q => q.elim fun H' rr => ?_
  · obtain ⟨⟨x3, x4, x5, x6, x7, rfl⟩, rfl⟩ := hI
    have hgK := hg g (mem_of_pre hp)
    have hlp := len_pre hp
    have h0 := h1 pre g post hp
    have hle := done_len hs (l := pre) (st := (np, rdy))
    have hsg := hs g
    have hle2 : (pre.foldl (done1 su) (np, rdy)).2.length ≤ rdy.length + pre.length * 16 := hle
    rw [List.foldl_append]
    refine named (pre.foldl (done1 su) (np, rdy)) fun u hu => ?_
    rw [← hu] at hle2 h0 ⊢
    refine exE2 (run_done_in (P := P) (Q := Q) (po := po) (nf := nf + pre.length) (sc := upd (scO su) g (.frz (scO su g))) (st := (upd u.1 g (-2), u.2)) (l := su g) (x0 := x6) (y0 := x7) (x1 := some (.tup (gs'.map .int))) (x3 := some (.int g)) (x4 := some (.ref (bad (P.length + 3) K g + 1))) (x5 := some (.int (-1))) nd (hsK g hgK) (by show u.2.length + _ ≤ _; (first | lia | omega))) fun y6 y7 r => ?_
    have fz : frzAt (some (bad (P.length + 3) K g + 2)) (HS P (AT P.length (.ref (P.length + 3 + 3 * K.length)) po (nf + pre.length)) (.dict (dk (P.length + 3) K)) K (upd u.1 g (-2)) (scO su) (.list (u.2.map .int) :: Q)) = HS P (AT P.length (.ref (P.length + 3 + 3 * K.length)) po (nf + pre.length)) (.dict (dk (P.length + 3) K)) K (upd u.1 g (-2)) (upd (scO su) g (.frz (scO su g))) (.list (u.2.map .int) :: Q) := (frz_lo (hs_list hgK nd)).trans (hs_setlist hgK nd)
    rw [← fz] at r
    have vi : vItems (.ref (bad (P.length + 3) K g + 2)) (HS P (AT P.length (.ref (P.length + 3 + 3 * K.length)) po (nf + pre.length)) (.dict (dk (P.length + 3) K)) K (upd u.1 g (-2)) (scO su) (.list (u.2.map .int) :: Q)) = some ((su g).map .int, some (bad (P.length + 3) K g + 2)) := by
      unfold vItems; simp only [hs_list hgK nd, Option.map_some, O.thaw]
    have uz : upd (upd (scO su) g (.frz (scO su g))) g (scO su g) = scO su := funext fun k => by
      unfold upd; split
      · rename_i q; rw [q]
      · rfl
    refine ⟨lt_of_blt rfl, .next, _, _, ev_cons (ev_if_f (ev_tcmp (ev_named (ev_meth rfl (kd dkr) (ev_a1 rfl) ((og dkr).trans (by rw [dkf hgK]; rfl))) rfl) rfl rfl) rfl) (ev_cons (ev_assign (ev_slot rfl ((gs (hs_node hgK nd) (j := 1) (by decide) rfl).trans (congrArg (fun z => some (V.int z)) h0))) rfl) (ev_cons (ev_if_f (ev_tcmp rfl rfl rfl) rfl)
      (ev_cons (ev_setslot rfl rfl ((ss (hs_node hgK nd) rfl).trans (congrArg some (hs_setnode hgK nd)))) (ev_cons ((ev_for (ev_slot rfl (gs (hs_node hgK nd) (j := 2) (by decide) rfl)) vi r).trans (congrArg (fun z => some (Flw.next, _, z)) ((unfrz_of (hs_list hgK nd)).trans ((hs_setlist hgK nd).trans (congrArg (fun z => HS P _ _ K _ z _) uz))))) (ev_cons (ev_augattr rfl (ga (j := 3) (by decide) rfl) rfl rfl (sa (j := 3) rfl)) rfl))))), .inl rfl, ⟨_, _, _, _, _, rfl⟩, ?_⟩
    have : nf + (pre ++ [g]).length = nf + pre.length + 1 := by rw [List.length_append, Int.natCast_add, Int.add_assoc]; rfl
    rw [this]; rfl
  · obtain ⟨r1, ⟨x3, x4, x5, x6, x7, rfl⟩, rfl⟩ := rr
    exact ev_fop0 (if_pos ⟨Nat.le_add_left 1 _, by show (gs'.map V.int).length + 1 ≤ 5000; rw [List.length_map]; (first | lia | omega)⟩) rfl (ev_cons (ev_if_f (ev_tcmp (ev_attr rfl (ga (j := 1) (by decide) rfl)) rfl rfl) rfl) (ev_cons (ev_assign (ev_attr rfl (ga (j := 0) (by decide) rfl)) rfl) (ev_cons (ev_for rfl rfl r1) rfl)))
end
end Mine
end
section
set_option tactic.hygienic false
open PySem PySem.W PyProof.Rows PySem.Calls PySem.SeqAt Builtin
namespace Mine
noncomputable def sbit (n : Int) : Bool := if n == 0 then false else Builtin.bitAnd n (n - 1) == 0
noncomputable def isLow (m l : Int) : Bool := decide (l < m) && sbit (Builtin.bitXor l m)
noncomputable def below (F : List Int) (m : Int) : List Int := F.filter (isLow m)
noncomputable def cnt (F D : List Int) (m : Int) : Int := ((below F m).filter fun l => decide (l ∉ D)).length
section
variable {F D : List Int} {m x : Int}
theorem below_mem {l : Int} : l ∈ below F m ↔ l ∈ F ∧ isLow m l = true := List.mem_filter
theorem below_nodup (nd : F.Nodup) : (below F m).Nodup := List.Pairwise.filter _ nd
theorem below_lt {l : Int} (h : l ∈ below F m) : l < m := by
  have := (below_mem.mp h).2
  unfold isLow at this
  rw [Bool.and_eq_true] at this
  exact of_decide_eq_true this.1
theorem suOf_mem {bl : Int → List Int} : x ∈ suOf bl F m ↔ x ∈ F ∧ m ∈ bl x := List.mem_filter.trans (and_congr_right fun _ => decide_eq_true_iff)
theorem cnt_snoc_in (nd : F.Nodup) (hx : x ∈ below F m) (hD : x ∉ D) : cnt F (D ++ [x]) m = cnt F D m - 1 := by
  have h : ∀ l : List Int, l.Nodup → ((l.filter fun y => decide (y ∉ D ++ [x])).length : Int) = (l.filter fun y => decide (y ∉ D)).length - (if x ∈ l then 1 else 0) := by
    intro l
    induction l with
    | nil => intro _; rfl
    | cons y l ih =>
      intro hn
      have hn := List.nodup_cons.mp hn
      have i := ih hn.2
      by_cases hy : y = x
      · subst hy
        rw [if_neg hn.1] at i
        rw [if_pos List.mem_cons_self, List.filter_cons_of_neg (by simp), List.filter_cons_of_pos (by simpa using hD), List.length_cons, i]
        (first | lia | omega)
      · have e : (x ∈ y :: l) = (x ∈ l) := by simp [Ne.symm hy]
        by_cases hyD : y ∈ D
        · rw [List.filter_cons_of_neg (by simp [hyD]), List.filter_cons_of_neg (by simpa using hyD), i]; simp only [e]
        · rw [List.filter_cons_of_pos (by simp [hyD, hy]), List.filter_cons_of_pos (by simpa using hyD), List.length_cons, List.length_cons, Int.natCast_add, Int.natCast_add, i]
          simp only [e]; (first | lia | omega)
  have := h _ (below_nodup (m := m) nd)
  rw [if_pos hx] at this; exact this
theorem cnt_snoc_out (hx : x ∉ below F m) : cnt F (D ++ [x]) m = cnt F D m := by
  unfold cnt
  rw [List.filter_congr fun y hy => by
    have : y ≠ x := fun q => hx (q ▸ hy)
    show decide (y ∉ D ++ [x]) = decide (y ∉ D)
    simp [this]]
theorem cnt_zero : cnt F D m = 0 ↔ ∀ l ∈ below F m, l ∈ D := by
  unfold cnt
  rw [show ((((below F m).filter fun l => decide (l ∉ D)).length : Int) = 0) = (((below F m).filter fun l => decide (l ∉ D)).length = 0) from propext Int.natCast_eq_zero, List.length_eq_zero_iff, List.filter_eq_nil_iff]
  exact forall_congr' fun l => imp_congr_right fun _ => by simp
end
theorem dec_all {st : DS} : ∀ {l : List Int}, l.Nodup → l.foldl dec1 st = (fun m => if m ∈ l then st.1 m - 1 else st.1 m, st.2 ++ l.filter fun m => st.1 m - 1 == 0) := by
  intro l
  induction l generalizing st with
  | nil => intro _; show st = _; rw [List.filter_nil, List.append_nil]; rfl
  | cons x l ih =>
    intro hn
    have hn := List.nodup_cons.mp hn
    rw [List.foldl_cons, ih hn.2]
    unfold dec1
    refine Prod.ext (funext fun m => ?_) ?_
    · show (if m ∈ l then upd st.1 x (st.1 x - 1) m - 1 else upd st.1 x (st.1 x - 1) m) = if m ∈ x :: l then st.1 m - 1 else st.1 m
      by_cases h : m = x
      · subst h; rw [if_neg hn.1, if_pos List.mem_cons_self, upd_self]
      · rw [upd_ne _ _ h]; simp [h]
    · show (if (st.1 x - 1 == 0) = true then st.2 ++ [x] else st.2) ++ l.filter (fun m => upd st.1 x (st.1 x - 1) m - 1 == 0) = st.2 ++ (x :: l).filter _
      rw [List.filter_congr (q := fun m => st.1 m - 1 == 0) fun y hy => by rw [upd_ne _ _ fun q : y = x => hn.1 (q ▸ hy)]]
      by_cases h : (st.1 x - 1 == 0) = true
      · rw [if_pos h, List.filter_cons_of_pos (p := fun m => st.1 m - 1 == 0) h, List.append_assoc]; rfl
      · rw [if_neg h, List.filter_cons_of_neg (p := fun m => st.1 m - 1 == 0) h]
structure PI (F D g pre : List Int) (st : DS) : Prop where
  nd : st.2.Nodup
  rd : ∀ m, m ∈ st.2 ↔ m ∈ F ∧ m ∉ D ∧ m ∉ g ∧ ∀ l ∈ below F m, l ∈ D ++ pre
  np : ∀ m ∈ F, m ∉ D → m ∉ g → st.1 m = cnt F (D ++ pre) m
  on : ∀ m ∈ g, m ∉ pre → st.1 m = -1
section
variable {F D g pre : List Int} {st : DS}
theorem PI.step {x : Int} {post : List Int} (h : PI F D g pre st) (nd : F.Nodup) (hg : ∀ y ∈ g, y ∈ F ∧ y ∉ D ∧ ∀ l ∈ below F y, l ∈ D) (gn : g.Nodup) (hD : ∀ y ∈ D, ∀ l ∈ below F y, l ∈ D) (hp : pre ++ x :: post = g) :
    st.1 x = -1 ∧ PI F D g (pre ++ [x]) (done1 (suOf (below F) F) st x) := by
  have hx := hg x (mem_of_pre hp)
  have hxp := not_pre hp gn
  have hxm : x ∈ g := mem_of_pre hp
  have sn : (suOf (below F) F x).Nodup := List.Pairwise.filter _ nd
  have hxs : ∀ {m}, m ∈ suOf (below F) F x → m ≠ x := fun hm q => by have := below_lt (suOf_mem.mp hm).2; rw [q] at this; exact Int.lt_irrefl x this
  have hsg : ∀ {m}, m ∈ suOf (below F) F x → m ∈ F ∧ x ∈ below F m ∧ m ∉ D ∧ m ∉ g := fun hm =>
    have h1 := suOf_mem.mp hm
    ⟨h1.1, h1.2, fun q => hx.2.1 (hD _ q x h1.2), fun q => hx.2.1 ((hg _ q).2.2 x h1.2)⟩
  have hxD : x ∉ D ++ pre := fun q => (List.mem_append.mp q).elim hx.2.1 hxp
  have e : done1 (suOf (below F) F) st x = (fun m => if m ∈ suOf (below F) F x then upd st.1 x (-2) m - 1 else upd st.1 x (-2) m, st.2 ++ (suOf (below F) F x).filter fun m => upd st.1 x (-2) m - 1 == 0) := dec_all sn
  have e2 : ∀ {m}, m ∈ suOf (below F) F x → upd st.1 x (-2) m - 1 = cnt F (D ++ (pre ++ [x])) m := fun {m} hm => by
    have q := hsg hm
    rw [upd_ne _ _ (hxs hm), h.np m q.1 q.2.2.1 q.2.2.2, ← List.append_assoc, cnt_snoc_in nd q.2.1 hxD]
  have e3 : ∀ m, m ∈ (suOf (below F) F x).filter (fun m => upd st.1 x (-2) m - 1 == 0) ↔ m ∈ suOf (below F) F x ∧ ∀ l ∈ below F m, l ∈ D ++ (pre ++ [x]) := fun m => List.mem_filter.trans (and_congr_right fun hm => by
    rw [e2 hm, beq_iff_eq, cnt_zero])
  rw [e]
  refine ⟨h.on x hxm hxp, ?_, fun m => ?_, fun m hm hmD hmg => ?_, fun m hm hmp => ?_⟩
  · refine List.nodup_append.mpr ⟨h.nd, List.Pairwise.filter _ sn, fun a ha b hb q => ?_⟩
    exact hxD (((h.rd a).mp ha).2.2.2 x (q ▸ (hsg (List.mem_filter.mp hb).1).2.1))
  · rw [List.mem_append, h.rd, e3]
    constructor
    · rintro (⟨a, b, c, d⟩ | ⟨a, b⟩)
      · exact ⟨a, b, c, fun l hl => by rw [← List.append_assoc]; exact List.mem_append_left _ (d l hl)⟩
      · exact ⟨(hsg a).1, (hsg a).2.2.1, (hsg a).2.2.2, b⟩
    · rintro ⟨a, b, c, d⟩
      by_cases hm : m ∈ suOf (below F) F x
      · exact .inr ⟨hm, d⟩
      · refine .inl ⟨a, b, c, fun l hl => ?_⟩
        have := d l hl
        rw [← List.append_assoc] at this
        refine (List.mem_append.mp this).resolve_right fun q => hm (suOf_mem.mpr ⟨a, ?_⟩)
        rw [List.mem_singleton] at q; exact q ▸ hl
  · show (if m ∈ suOf (below F) F x then upd st.1 x (-2) m - 1 else upd st.1 x (-2) m) = _
    by_cases hs : m ∈ suOf (below F) F x
    · rw [if_pos hs, e2 hs]
    · rw [if_neg hs, upd_ne _ _ fun q : m = x => hmg (q ▸ hxm), h.np m hm hmD hmg, ← List.append_assoc, cnt_snoc_out fun q => hs (suOf_mem.mpr ⟨hm, q⟩)]
  · show (if m ∈ suOf (below F) F x then upd st.1 x (-2) m - 1 else upd st.1 x (-2) m) = -1
    have h1 : m ≠ x := fun q => hmp (q ▸ List.mem_append_right _ List.mem_cons_self)
    rw [if_neg fun q => (hsg q).2.2.2 hm, upd_ne _ _ h1]
    exact h.on m hm fun q => hmp (List.mem_append_left _ q)
end
end Mine
end
section
set_option tactic.hygienic false
open PySem PySem.W PyProof.Rows PySem.Calls PySem.SeqAt Builtin
namespace Mine
noncomputable def mx (l : List Nat) : Nat := l.foldr max 0
theorem mx_le {l : List Nat} {a : Nat} (h : a ∈ l) : a ≤ mx l := by
  induction l with
  | nil => nomatch h
  | cons x l ih => exact (List.mem_cons.mp h).elim (fun q => q ▸ Nat.le_max_left _ _) fun q => Nat.le_trans (ih q) (Nat.le_max_right _ _)
theorem mx_in {l : List Nat} : mx l = 0 ∨ mx l ∈ l := by
  induction l with
  | nil => exact .inl rfl
  | cons x l ih =>
    show max x (mx l) = 0 ∨ max x (mx l) ∈ x :: l
    rcases Nat.le_total x (mx l) with h | h
    · rw [Nat.max_eq_right h]; exact ih.imp id (List.mem_cons_of_mem _)
    · rw [Nat.max_eq_left h]; exact .inr List.mem_cons_self
noncomputable def rk (F : List Int) : Nat → Int → Nat
  | 0, _ => 0
  | n + 1, m => mx ((below F m).map fun l => rk F n l + 1)
noncomputable def rkF (F : List Int) (m : Int) : Nat := rk F 16 m
section
variable {F : List Int}
theorem rk_le : ∀ (n : Nat) (m : Int), rk F n m ≤ n
  | 0, _ => Nat.le_refl _
  | n + 1, m => by
    rcases mx_in (l := (below F m).map fun l => rk F n l + 1) with h | h
    · exact Nat.le_trans (Nat.le_of_eq h) (Nat.zero_le _)
    · refine exE1 (List.mem_map.mp h) fun l h0 => andE2 h0 fun _ e => ?_
      exact Nat.le_trans (Nat.le_of_eq e.symm) (Nat.succ_le_succ (rk_le n l))
theorem rk_stab (hF : ∀ x ∈ F, 0 ≤ x ∧ x < 16) : ∀ (n : Nat) (m : Int), m < n → rk F (n + 1) m = rk F n m
  | 0, m, h => by
    show mx ((below F m).map fun l => rk F 0 l + 1) = 0
    rw [show below F m = [] from List.filter_eq_nil_iff.mpr fun l hl q => by
      have h1 := below_lt (below_mem.mpr ⟨hl, q⟩); have h2 := hF l hl; have : m < 0 := h; (first | lia | omega)]; rfl
  | n + 1, m, h => by
    show mx ((below F m).map fun l => rk F (n + 1) l + 1) = mx ((below F m).map fun l => rk F n l + 1)
    rw [List.map_congr_left fun l hl => by rw [rk_stab hF n l (by have := below_lt hl; rw [Int.natCast_add] at h; have : m < n + 1 := h; (first | lia | omega))]]
theorem rkF_eq (hF : ∀ x ∈ F, 0 ≤ x ∧ x < 16) {m : Int} (hm : m ∈ F) : rkF F m = mx ((below F m).map fun l => rkF F l + 1) := (rk_stab hF 16 m (hF m hm).2).symm
theorem rk_P1 (hF : ∀ x ∈ F, 0 ≤ x ∧ x < 16) {m l : Int} (hm : m ∈ F) (hl : l ∈ below F m) : rkF F l + 1 ≤ rkF F m := by
  rw [rkF_eq hF hm]; exact mx_le (List.mem_map_of_mem (f := fun l => rkF F l + 1) hl)
theorem rk_P2 (hF : ∀ x ∈ F, 0 ≤ x ∧ x < 16) {m : Int} (hm : m ∈ F) : rkF F m = 0 ∨ ∃ l ∈ below F m, rkF F l + 1 = rkF F m := by
  have h := rkF_eq hF hm
  rcases mx_in (l := (below F m).map fun l => rkF F l + 1) with q | q
  · exact .inl (h.trans q)
  · refine exE1 (List.mem_map.mp q) fun l h1 => andE2 h1 fun hl e => ?_
    exact .inr ⟨l, hl, e.trans h.symm⟩
structure LV (F D : List Int) (k : Nat) (st : DS) : Prop where
  pi : PI F D [] [] st
  dn : ∀ m, m ∈ D ↔ m ∈ F ∧ rkF F m < k
theorem LV.rd {D : List Int} {k : Nat} {st : DS} (h : LV F D k st) (hF : ∀ x ∈ F, 0 ≤ x ∧ x < 16) (m : Int) : m ∈ st.2 ↔ m ∈ F ∧ rkF F m = k := by
  rw [h.pi.rd, h.dn]
  constructor
  · rintro ⟨a, b, _, d⟩
    refine ⟨a, Nat.le_antisymm ?_ (Nat.le_of_not_lt fun q => b ⟨a, q⟩)⟩
    rcases rk_P2 hF a with q | ⟨l, hl, e⟩
    · rw [q]; exact Nat.zero_le _
    · have := (h.dn l).mp (by have := d l hl; rwa [List.append_nil] at this)
      rw [← e]; exact this.2
  · rintro ⟨a, b⟩
    refine ⟨a, fun q => Nat.lt_irrefl k (b ▸ q.2), nofun, fun l hl => ?_⟩
    rw [List.append_nil, h.dn]
    exact ⟨(below_mem.mp hl).1, b ▸ rk_P1 hF a hl⟩
theorem LV.go {D : List Int} {k : Nat} {st : DS} (h : LV F D k st) : PI F D st.2 [] (fun m => if m ∈ st.2 then -1 else st.1 m, []) := by
  refine ⟨List.nodup_nil, fun m => ⟨(fun q => nomatch q), fun ⟨a, b, c, d⟩ => absurd ((h.pi.rd m).mpr ⟨a, b, nofun, d⟩) c⟩, fun m a b c => ?_, fun m a _ => if_pos a⟩
  show (if m ∈ st.2 then -1 else st.1 m) = _
  rw [if_neg c]; exact h.pi.np m a b nofun
theorem LV.all {D : List Int} {k : Nat} {st : DS} (h : LV F D k st) (hF : ∀ x ∈ F, 0 ≤ x ∧ x < 16) (nd : F.Nodup) : (∀ pre g post, pre ++ g :: post = st.2 → (pre.foldl (done1 (suOf (below F) F)) (fun m => if m ∈ st.2 then -1 else st.1 m, [])).1 g = -1) ∧
    LV F (D ++ st.2) (k + 1) (st.2.foldl (done1 (suOf (below F) F)) (fun m => if m ∈ st.2 then -1 else st.1 m, [])) := by
  have hg : ∀ y ∈ st.2, y ∈ F ∧ y ∉ D ∧ ∀ l ∈ below F y, l ∈ D := fun y hy => by
    have := (h.pi.rd y).mp hy
    exact ⟨this.1, this.2.1, fun l hl => by have := this.2.2.2 l hl; rwa [List.append_nil] at this⟩
  have hD : ∀ y ∈ D, ∀ l ∈ below F y, l ∈ D := fun y hy l hl => by
    have := (h.dn y).mp hy
    exact (h.dn l).mpr ⟨(below_mem.mp hl).1, Nat.lt_of_lt_of_le (rk_P1 hF this.1 hl) (Nat.le_of_lt this.2)⟩
  have st1 : ∀ (n : Nat) (pre post : List Int), pre.length = n → pre ++ post = st.2 → PI F D st.2 pre (pre.foldl (done1 (suOf (below F) F)) (fun m => if m ∈ st.2 then -1 else st.1 m, [])) := by
    intro n
    induction n with
    | zero => intro pre _ hl _; rw [List.length_eq_zero_iff.mp hl]; exact h.go
    | succ n ih =>
      intro pre post hl hp
      rcases List.eq_nil_or_concat pre with rfl | ⟨pre, x, rfl⟩
      · cases hl
      rw [List.concat_eq_append] at hl hp ⊢
      rw [List.length_append] at hl
      have hp' : pre ++ x :: post = st.2 := by rw [← hp, List.append_assoc]; rfl
      rw [List.foldl_append]
      exact ((ih _ _ (Nat.succ.inj hl) hp').step nd hg h.pi.nd hD hp').2
  refine ⟨fun pre g post hp => ((st1 _ pre _ rfl hp).step nd hg h.pi.nd hD hp).1, ?_, fun m => ?_⟩
  · have q := st1 _ st.2 [] rfl (List.append_nil _)
    refine ⟨q.nd, fun m => ?_, fun m a b _ => ?_, fun m a => nomatch a⟩
    · rw [q.rd, List.append_nil, List.mem_append, not_or]
      exact ⟨fun ⟨a, b, c, d⟩ => ⟨a, ⟨b, c⟩, nofun, d⟩, fun ⟨a, ⟨b, c⟩, _, d⟩ => ⟨a, b, c, d⟩⟩
    · rw [List.mem_append, not_or] at b
      rw [List.append_nil]; exact q.np m a b.1 b.2
  · rw [List.mem_append, h.dn, h.rd hF]
    exact ⟨fun q => q.elim (fun z => ⟨z.1, Nat.lt_succ_of_lt z.2⟩) fun z => ⟨z.1, z.2 ▸ Nat.lt_succ_self _⟩, fun ⟨a, b⟩ => (Nat.lt_or_eq_of_le (Nat.le_of_lt_succ b)).imp (⟨a, ·⟩) (⟨a, ·⟩)⟩
theorem LV.first {K : List Int} (nd : K.Nodup) (hK : ∀ x, x ∈ K ↔ x ∈ F) : LV F [] 0 (npOf (below F) F, K.filter fun k => npOf (below F) F k == 0) := by
  have e : ∀ m ∈ F, npOf (below F) F m = cnt F [] m := fun m hm => by
    unfold npOf cnt
    rw [if_pos hm, (List.filter_eq_self (p := fun l => decide (l ∉ ([] : List Int)))).mpr fun x _ => rfl]
  refine ⟨⟨List.Pairwise.filter _ nd, fun m => ?_, fun m a _ _ => e m a, fun m a => nomatch a⟩, fun m => ⟨(fun q => nomatch q), fun q => absurd q.2 (Nat.not_lt_zero _)⟩⟩
  show m ∈ K.filter (fun k => npOf (below F) F k == 0) ↔ _
  rw [List.mem_filter, hK]
  exact ⟨fun ⟨a, b⟩ => ⟨a, nofun, nofun, cnt_zero.mp ((e m a).symm.trans (beq_iff_eq.mp b))⟩, fun ⟨a, _, _, b⟩ => ⟨a, beq_iff_eq.mpr ((e m a).trans (cnt_zero.mpr b))⟩⟩
theorem LV.last {D : List Int} {k : Nat} {np : Int → Int} (h : LV F D k (np, [])) (hF : ∀ x ∈ F, 0 ≤ x ∧ x < 16) : ∀ m ∈ F, rkF F m < k := by
  have : ∀ (n : Nat) (m : Int), m ∈ F → rkF F m ≤ n → rkF F m < k := by
    intro n
    induction n with
    | zero =>
      intro m hm hn
      refine Nat.lt_of_not_le fun q => ?_
      have e : rkF F m = k := by (first | lia | omega)
      exact nomatch (h.rd hF m).mpr ⟨hm, e⟩
    | succ n ih =>
      intro m hm hn
      refine Nat.lt_of_not_le fun q => ?_
      by_cases e : rkF F m = k
      · exact nomatch (h.rd hF m).mpr ⟨hm, e⟩
      · rcases rk_P2 hF hm with z | ⟨l, hl, z⟩
        · (first | lia | omega)
        · have := ih l (below_mem.mp hl).1 (by (first | lia | omega)); (first | lia | omega)
  exact fun m hm => this _ m hm (Nat.le_refl _)
end
end Mine
end
section
set_option tactic.hygienic false
open PySem PySem.W PyProof.Rows PySem.Calls PySem.SeqAt Builtin
namespace Mine
noncomputable def bitOf (l m : Int) : Int := ((Builtin.Int.intBits (Builtin.bitXor l m) : Nat) : Int) - 1
noncomputable def maskFrom (a : Int) (w : List Int) : Int := w.foldl (fun a x => a + 2 ^ x.toNat) a
noncomputable def okFrom (F : List Int) : Int → List Int → Bool
  | a, [] => decide (a ∈ F)
  | a, x :: r => decide (a ∈ F) && okFrom F (a + 2 ^ x.toNat) r
noncomputable def dg : List Int := [0, 1, 2, 3]
noncomputable def ords : List (List Int) := dg.flatMap fun a => dg.flatMap fun b => (dg.filter fun c => a != b && (a != c && b != c)).map fun c => [a, b, c, 6 - a - b - c]
noncomputable def begs (o : List Int) : List (List Int) := [o.take 1, o.take 2, o.take 3, o.take 4]
noncomputable def ins (acc : List (List Int)) (w : List Int) : List (List Int) := if w ∈ acc then acc else acc ++ [w]
noncomputable def uni : List (List Int) := (ords.flatMap begs).foldl ins [[]]
noncomputable def spec (F : List Int) (m : Int) : List (List Int) := uni.filter fun w => maskFrom 0 w == m && okFrom F 0 w
noncomputable def stepW (F : List Int) (W : Int → List (List Int)) (m : Int) : List (List Int) := (below F m).flatMap fun l => (W l).map fun w => w ++ [bitOf l m]
theorem uni_nodup : uni.Nodup := by decide +kernel
theorem uni_back : (uni.all fun w => w == [] || (decide (w.dropLast ∈ uni) && isLow (maskFrom 0 w) (maskFrom 0 w.dropLast) && w == w.dropLast ++ [bitOf (maskFrom 0 w.dropLast) (maskFrom 0 w)])) = true := by decide +kernel
theorem uni_on : ((List.range 16).all fun m => uni.all fun w => !isLow (m : Int) (maskFrom 0 w) || (decide (w ++ [bitOf (maskFrom 0 w) m] ∈ uni) && maskFrom 0 (w ++ [bitOf (maskFrom 0 w) m]) == (m : Int))) = true := by decide +kernel
theorem uni_inj : (uni.all fun a => uni.all fun b => maskFrom 0 a != maskFrom 0 b || (wCode a != wCode b || a == b)) = true := by decide +kernel
theorem uni_sorted : uni.Pairwise fun a b => maskFrom 0 a = maskFrom 0 b → wCode a ≤ wCode b := by decide +kernel
theorem uni_len : (uni.all fun a => uni.all fun b => maskFrom 0 a != maskFrom 0 b || wOk b.length a) = true := by decide +kernel
theorem uni_short : (uni.all fun a => decide (a.length ≤ 4) && (a == [] || maskFrom 0 a != 0)) = true := by decide +kernel
theorem uni_few : ((List.range 16).all fun m => decide ((uni.filter fun w => maskFrom 0 w == (m : Int)).length ≤ 24)) = true := by decide +kernel
theorem okFrom_snoc {F : List Int} {b : Int} : ∀ {w : List Int} {a : Int}, okFrom F a (w ++ [b]) = (okFrom F a w && decide (maskFrom a (w ++ [b]) ∈ F))
  | [], a => rfl
  | x :: r, a => by
    show (decide (a ∈ F) && okFrom F (a + 2 ^ x.toNat) (r ++ [b])) = (decide (a ∈ F) && okFrom F (a + 2 ^ x.toNat) r && decide (maskFrom (a + 2 ^ x.toNat) (r ++ [b]) ∈ F))
    rw [okFrom_snoc, Bool.and_assoc]
section
variable {F : List Int} {m : Int} {w : List Int}
theorem spec_mem : w ∈ spec F m ↔ w ∈ uni ∧ maskFrom 0 w = m ∧ okFrom F 0 w = true := by
  unfold spec; rw [List.mem_filter, Bool.and_eq_true, beq_iff_eq]
theorem spec_nodup : (spec F m).Nodup := List.Pairwise.filter _ uni_nodup
theorem spec_zero (h0 : (0 : Int) ∈ F) : spec F 0 = [[]] := by
  have h : ∀ w ∈ uni, (maskFrom 0 w == 0 && okFrom F 0 w) = (w == []) := fun w hw => by
    have := List.all_eq_true.mp uni_short w hw
    rw [Bool.and_eq_true, Bool.or_eq_true] at this
    rcases this.2 with q | q
    · rw [beq_iff_eq.mp q]; show (true && decide ((0 : Int) ∈ F)) = true; rw [decide_eq_true h0]; rfl
    · have e : (maskFrom 0 w == 0) = false := by simpa using q
      have e2 : (w == []) = false := beq_eq_false_iff_ne.mpr fun z => by rw [z] at e; cases e
      rw [e, e2]; rfl
  unfold spec
  rw [List.filter_congr h]; decide +kernel
theorem spec_step {W : Int → List (List Int)} (hF : ∀ x ∈ F, 0 ≤ x ∧ x < 16) (nd : F.Nodup) (hm : m ∈ F) (h0 : m ≠ 0) (hW : ∀ l ∈ below F m, (W l).Perm (spec F l)) : (stepW F W m).Perm (spec F m) := by
  refine (List.perm_ext_iff_of_nodup ?_ spec_nodup).mpr fun w => ?_
  · refine List.pairwise_flatMap.mpr ⟨fun l hl => ?_, ?_⟩
    · exact List.pairwise_map.mpr (((hW l hl).nodup_iff.mpr spec_nodup).imp fun h q => h (List.append_cancel_right q))
    · refine List.Pairwise.imp_of_mem (fun {a b} ha hb hab x hx y hy q => ?_) (below_nodup (m := m) nd)
      obtain ⟨u, hu, rfl⟩ := List.mem_map.mp hx
      obtain ⟨v, hv, e⟩ := List.mem_map.mp hy
      have : u = v := (List.append_inj' (q.trans e.symm) rfl).1
      subst this
      exact hab ((spec_mem.mp ((hW a ha).mem_iff.mp hu)).2.1.symm.trans (spec_mem.mp ((hW b hb).mem_iff.mp hv)).2.1)
  · unfold stepW
    rw [List.mem_flatMap, spec_mem]
    constructor
    · rintro ⟨l, hl, hx⟩
      obtain ⟨u, hu, rfl⟩ := List.mem_map.mp hx
      refine andE3 (spec_mem.mp ((hW l hl).mem_iff.mp hu)) fun u1 u2 u3 => ?_
      have q := List.all_eq_true.mp (List.all_eq_true.mp uni_on m.toNat (List.mem_range.mpr (by have := hF m hm; omega))) u u1
      rw [show ((m.toNat : Nat) : Int) = m from Int.toNat_of_nonneg (hF m hm).1, u2, (below_mem.mp hl).2] at q
      simp only [Bool.not_true, Bool.false_or, Bool.and_eq_true, decide_eq_true_eq, beq_iff_eq] at q
      exact ⟨q.1, q.2, by rw [okFrom_snoc, u3, q.2, decide_eq_true hm]; rfl⟩
    · rintro ⟨h1, h2, h3⟩
      have q := List.all_eq_true.mp uni_back w h1
      rw [Bool.or_eq_true, Bool.and_eq_true, Bool.and_eq_true, beq_iff_eq, beq_iff_eq, decide_eq_true_eq] at q
      rcases q with rfl | ⟨⟨q1, q2⟩, q3⟩
      · exact absurd h2.symm h0
      · rw [h2] at q2 q3
        rw [q3, okFrom_snoc, Bool.and_eq_true] at h3
        have hl : maskFrom 0 w.dropLast ∈ F := by
          have : ∀ {u : List Int} {a : Int}, okFrom F a u = true → maskFrom a u ∈ F := by
            intro u
            induction u with
            | nil => exact fun h => of_decide_eq_true h
            | cons x r ih => exact fun h => ih ((Bool.and_eq_true _ _).mp h).2
          exact this h3.1
        have hb : maskFrom 0 w.dropLast ∈ below F m := below_mem.mpr ⟨hl, q2⟩
        exact ⟨_, hb, List.mem_map.mpr ⟨w.dropLast, (hW _ hb).mem_iff.mpr (spec_mem.mpr ⟨q1, rfl, h3.1⟩), q3.symm⟩⟩
theorem spec_sorted {l : List (List Int)} (h : l.Perm (spec F m)) : sortW l = spec F m := by
  have hp : (sortW l).Perm (spec F m) := (List.mergeSort_perm _ _).trans h
  have s1 : (sortW l).Pairwise fun a b => wCode a ≤ wCode b := (List.pairwise_mergeSort (le := fun a b => decide (wCode a ≤ wCode b)) (fun a b c h1 h2 => decide_eq_true (Int.le_trans (of_decide_eq_true h1) (of_decide_eq_true h2))) (fun a b => by
    rcases Int.le_total (wCode a) (wCode b) with q | q
    · rw [decide_eq_true q]; rfl
    · rw [decide_eq_true q]; exact Bool.or_true _) l).imp fun h => of_decide_eq_true h
  have s2 : (spec F m).Pairwise fun a b => wCode a ≤ wCode b := List.Pairwise.imp_of_mem (fun ha hb h => h ((spec_mem.mp ha).2.1.trans (spec_mem.mp hb).2.1.symm)) (List.Pairwise.filter _ uni_sorted)
  refine hp.eq_of_pairwise (fun a b ha hb h1 h2 => ?_) s1 s2
  have ha := spec_mem.mp (hp.mem_iff.mp ha)
  have hb := spec_mem.mp hb
  have q := List.all_eq_true.mp (List.all_eq_true.mp uni_inj a ha.1) b hb.1
  rw [Bool.or_eq_true, Bool.or_eq_true, bne_iff_ne, bne_iff_ne, beq_iff_eq] at q
  exact (q.resolve_left fun z => z (ha.2.1.trans hb.2.1.symm)).resolve_left fun z => z (Int.le_antisymm h1 h2)
theorem spec_ok (h : w ∈ spec F m) : w.length ≤ 4 ∧ ∀ v ∈ spec F m, wOk w.length v = true := by
  have hw := spec_mem.mp h
  have := List.all_eq_true.mp uni_short w hw.1
  rw [Bool.and_eq_true] at this
  refine ⟨of_decide_eq_true this.1, fun v hv => ?_⟩
  have hv := spec_mem.mp hv
  have q := List.all_eq_true.mp (List.all_eq_true.mp uni_len v hv.1) w hw.1
  rw [Bool.or_eq_true, bne_iff_ne] at q
  exact q.resolve_left fun z => z (hv.2.1.trans hw.2.1.symm)
theorem spec_few (hm : 0 ≤ m ∧ m < 16) : (spec F m).length ≤ 24 := by
  have q := of_decide_eq_true (List.all_eq_true.mp uni_few m.toNat (List.mem_range.mpr (by omega)))
  rw [show ((m.toNat : Nat) : Int) = m from Int.toNat_of_nonneg hm.1] at q
  refine Nat.le_trans ?_ q
  unfold spec
  rw [show (fun w => maskFrom 0 w == m && okFrom F 0 w) = fun w => (okFrom F 0 w) && (maskFrom 0 w == m) from funext fun w => Bool.and_comm _ _, ← List.filter_filter]
  exact List.length_filter_le _ _
end
end Mine
end
section
set_option tactic.hygienic false
open PySem PySem.W PyProof.Rows PySem.Calls PySem.SeqAt Builtin
namespace Mine
section
variable {H H' : AHeap} {i : Nat} {o y : O} {n : Int}
theorem set_back (h : H[i]? = some o) : (H.set i y).set i o = H := by
  rw [List.set_set]
  have hl := (List.getElem?_eq_some_iff.mp h).1
  exact List.ext_getElem? fun j => by
    by_cases q : i = j
    · subst q; rw [List.getElem?_set_self hl, h]
    · rw [List.getElem?_set_ne q]
theorem run_sbit : op_is_single_bit [.int n] H = some (.bool (sbit n), H) := by
  unfold sbit
  by_cases h : (n == 0) = true
  · rw [if_pos h]
    exact ev_fop rfl rfl (ev_cons_ret (ev_if (ev_tcmp rfl rfl ceq_int) (by rw [h]; exact ev_ret rfl)))
  · rw [if_neg h]
    exact ev_fop rfl rfl (ev_cons (ev_if (ev_tcmp rfl rfl ceq_int) (by rw [eq_false_of_ne_true h]; rfl)) (ev_cons (ev_augname rfl (ev_bin rfl rfl rfl) rfl rfl) (ev_ret (ev_cmp rfl rfl ceq_int))))
theorem run_hb : op_high_bit [.int n] H = some (.int (((Builtin.Int.intBits n : Nat) : Int) - 1), H) := ev_fop rfl rfl (ev_ret (ev_bin (ev_meth rfl rfl rfl rfl) rfl rfl))
theorem compD_inv {all : List Int} {gv : PM V} (I : List Int → List (Int × V) → AEnv → AHeap → Prop) : ∀ (post pre : List Int) (kvs : List (Int × V)) (e : AEnv) (H : AHeap), I pre kvs e H →
    (∀ pre x post kvs e H, pre ++ x :: post = all → I pre kvs e H → 0 < e.length ∧ ∃ y e1 H1, gv (e.set 0 (some (.int x))) H = some (y, e1, H1) ∧ I (pre ++ [x]) (kvPut kvs x y) e1 H1) → pre ++ post = all →
    ∃ kvs' e' H', mCompD tYes (eVar 0) gv (post.map .int) kvs e H = some (kvs', e', H') ∧ I all kvs' e' H'
  | [], pre, kvs, e, H, h0, st, ha => ⟨kvs, e, H, rfl, by rw [List.append_nil] at ha; rw [← ha]; exact h0⟩
  | x :: post, pre, kvs, e, H, h0, st, ha => by
    obtain ⟨hj, y, e1, H1, q1, q2⟩ := st pre x post kvs e H ha h0
    refine exE3 (compD_inv I post (pre ++ [x]) (kvPut kvs x y) e1 H1 q2 st (by rw [List.append_assoc]; exact ha)) fun kvs' e' H' h1 => andE2 h1 fun r1 r2 => ?_
    have e0 : eVar 0 (e.set 0 (some (.int x))) H = some (.int x, e.set 0 (some (.int x)), H) := by unfold eVar; rw [List.getElem?_set_self hj]
    refine exI3 kvs' e' H' ⟨?_, r2⟩
    show (mStore 0 (.int x) e H).bind _ = _
    rw [show mStore 0 (.int x) e H = some ((), e.set 0 (some (.int x)), H) from if_pos hj, Option.bind_some]
    show (eVar 0 (e.set 0 (some (.int x))) H).bind _ = _
    rw [e0, Option.bind_some]
    show (gv (e.set 0 (some (.int x))) H).bind _ = _
    rw [q1]; exact r1
theorem idx_pre {pre post all : List Int} {x : Int} (h : pre ++ x :: post = all) (nd : all.Nodup) : all.idxOf x = pre.length := by
  have := not_pre h nd
  rw [← h, List.idxOf_append, if_neg this, List.idxOf_cons_self, Nat.zero_add]
theorem kv_none {pre : List Int} {x : Int} {f : Int → V} (h : x ∉ pre) : kvFind (pre.map fun m => (m, f m)) x = none := by
  have := kvFind_keys (kvs := pre.map fun m => (m, f m)) (k := x)
  rw [show (pre.map fun m => (m, f m)).map (·.1) = pre by rw [List.map_map]; exact List.map_id' pre, decide_eq_false h] at this
  exact Option.not_isSome_iff_eq_none.mp (by rw [this]; nofun)
end
section
variable {H : AHeap} {F : List Int} {f : Nat} {x1 x2 x3 x4 x5 x6 : Option V}
noncomputable def lowL (F : List Int) (m : Int) : O := .list ((below F m).map .int)
theorem run_below (hf : H[f]? = some (.list (F.map .int))) (nd : F.Nodup) (hF : F.length ≤ 16) :
    eDComp (eVar 0) ["mask"] [("family", 0)] tYes (eVar 0) ce_law_worked_off_2 [some (.ref f), x1, x2, x3, x4, x5, x6] H = some (.ref (H.length + F.length), [some (.ref f), x1, x2, x3, x4, x5, x6], H ++ F.map (lowL F) ++ [.dict (F.map fun m => (m, .ref (H.length + F.idxOf m)))]) := by
  have hlt := (List.getElem?_eq_some_iff.mp hf).1
  have hL : ∀ o, (H.set f o).length = H.length := fun o => List.length_set
  refine exE3 (compD_inv (all := F) (gv := ce_law_worked_off_2) (fun pre kvs e Hx => (∃ y0, e = [y0, some (.ref f)]) ∧ kvs = pre.map (fun m => (m, .ref (H.length + F.idxOf m))) ∧ Hx = H.set f (.frz (.list (F.map .int))) ++ pre.map (lowL F)) F [] [] [none, some (.ref f)] (H.set f (.frz (.list (F.map .int)))) ⟨⟨_, rfl⟩, rfl, (List.append_nil _).symm⟩ (fun pre x post kvs e Hx hp hI => by
    obtain ⟨⟨y0, rfl⟩, rfl, hH⟩ := hI
    have hxf : Hx[f]? = some (.frz (.list (F.map .int))) := by rw [hH, List.getElem?_append_left (hL _ ▸ hlt), List.getElem?_set_self hlt]
    have hxl : Hx.length = H.length + F.idxOf x := by rw [hH, List.length_append, hL, List.length_map, idx_pre hp nd]
    obtain ⟨y', c⟩ := compL_pure (t := ct_law_worked_off_1) (g := ce_law_worked_off_1) (rest := [some (.int x)]) (H := Hx.set f (.frz (.frz (.list (F.map .int))))) V.int V.int (isLow x) F none fun l hl => ⟨by
      unfold isLow
      by_cases q : l < x
      · rw [decide_eq_true q]
        have tv : tVal (eFun (aCons (eBin (eVar 0) (eVar 1) oXor) aNil) op_is_single_bit) [some (.int l), some (.int x)] (Hx.set f (.frz (.frz (.list (F.map .int))))) = some (sbit (Builtin.bitXor l x), _, _) := ev_tval (ev_fun (ev_a1 (ev_bin rfl rfl rfl)) run_sbit) rfl
        refine ev_tand (ev_tcmp rfl rfl (congrArg some (decide_eq_true q))) ?_
        cases h : sbit (Builtin.bitXor l x) with
        | true => rw [h] at tv; exact ev_tand tv rfl
        | false => rw [h] at tv; exact ev_tand_f tv
      · rw [decide_eq_false q]; exact ev_tand_f (ev_tcmp rfl rfl (congrArg some (decide_eq_false q))), fun _ => rfl⟩
    have ec : ce_law_worked_off_2 [some (.int x), some (.ref f)] Hx = some (.ref (H.length + F.idxOf x), [some (.int x), some (.ref f)], Hx ++ [lowL F x]) := by
      refine (ev_comp (fz := some f) rfl (Ys := F.map .int) ?_ (by rw [List.length_map]; (first | lia | omega)) ((congrArg (mCompL _ _ _ _) (frz_lo hxf)).trans c)).trans ?_
      · unfold vItems; simp only [hxf, Option.map_some, O.thaw]
      · rw [unfrz_of hxf, set_back hxf, hxl]; rfl
    refine ⟨lt_of_blt rfl, _, _, _, ec, ⟨_, rfl⟩, ?_, ?_⟩
    · rw [kvPut_new (kv_none (not_pre hp nd)), List.map_append]; rfl
    · rw [hH, List.map_append, List.append_assoc]; rfl) rfl) fun kvs' e' H' h2 => andE4 h2 fun r1 h2_1 e2_2 e2_3 => ?_
  obtain ⟨y0, rfl⟩ := h2_1
  subst e2_2
  subst e2_3
  refine (ev_dcomp (fz := some f) rfl (Ys := F.map .int) ?_ (by rw [List.length_map]; (first | lia | omega)) ((congrArg (mCompD _ _ _ _ _ _) (frz_lo hf)).trans r1)).trans ?_
  · unfold vItems; simp only [hf, Option.map_some, O.thaw]
  · rw [unfrz_of hf, List.set_append_left _ _ (hL _ ▸ hlt), set_back hf, List.length_append, List.length_map]
end
end Mine
end
section
set_option tactic.hygienic false
open PySem PySem.W PyProof.Rows PySem.Calls PySem.SeqAt Builtin
namespace Mine
theorem compI_pure {α : Type} {g : PM V} {y0 : Option V} {rest : AEnv} {H : AHeap} (v u : α → V) : ∀ (l : List α) (y : Option V), (∀ x ∈ l, g (y0 :: some (v x) :: rest) H = some (u x, y0 :: some (v x) :: rest, H)) → ∃ y', mCompI 1 g (l.map v) (y0 :: y :: rest) H = some (l.map u, y0 :: y' :: rest, H)
  | [], y, _ => ⟨y, rfl⟩
  | x :: l, y, h => by
    obtain ⟨y', r⟩ := compI_pure v u l (some (v x)) fun z hz => h z (List.mem_cons_of_mem _ hz)
    refine ⟨y', ?_⟩
    show (g (y0 :: some (v x) :: rest) H).bind _ = _
    rw [h x List.mem_cons_self, Option.bind_some]
    show (mCompI 1 g (l.map v) (y0 :: some (v x) :: rest) H).bind _ = _
    rw [r]; rfl
theorem addT {w : List Int} {b : Int} {H : AHeap} (hl : w.length ≤ 1000) : oAddT (wV w) (.tup [.int b]) H = some (wV (w ++ [b]), H) := by
  cases w with
  | nil => rfl
  | cons a r =>
    have : (r.map V.int).length + 0 ≤ 100000 := by rw [List.length_map]; rw [List.length_cons] at hl; (first | lia | omega)
    show (if (r.map V.int).length + 0 ≤ 100000 then some (V.tup ((.int a :: r.map V.int) ++ [.int b]), H) else none) = _
    rw [if_pos this]; unfold wV; rw [List.map_append]; rfl
theorem run_words2 {m : Int} {wd : Nat} {ws : List (Int × V)} {W : Int → List (List Int)} : ∀ (ls : List Int) (y0 y1 : Option V) (H : AHeap), (H[wd]?).map O.thaw = some (.dict ws) →
    (∀ l ∈ ls, ((W l).length ≤ 5000 ∧ ∀ w ∈ W l, w.length ≤ 1000) ∧ ∃ i o, kvFind ws l = some (.ref i) ∧ H[i]? = some o ∧ o.thaw = .list ((W l).map wV)) →
    ∃ y0' y1', mComp2 cf_law_worked_off_1 ce_law_worked_off_3 (ls.map .int) [y0, y1, some (.int m), some (.ref wd)] H = some ((ls.flatMap fun l => (W l).map fun w => w ++ [bitOf l m]).map wV, [y0', y1', some (.int m), some (.ref wd)], H ++ List.replicate ls.length (.list []))
  | [], y0, y1, H, _, _ => ⟨y0, y1, by rw [show List.replicate ([] : List Int).length (O.list []) = [] from rfl, List.append_nil]; rfl⟩
  | l :: ls, y0, y1, H, hd, h => by
    obtain ⟨⟨hl1, hl2⟩, i, o, f1, f2, f3⟩ := h l List.mem_cons_self
    have ap : ∀ {j : Nat} {o : O}, H[j]? = some o → (H ++ [O.list []])[j]? = some o := fun q => (List.getElem?_append_left (List.getElem?_eq_some_iff.mp q).1).trans q
    have hd' : ((H ++ [O.list []])[wd]?).map O.thaw = some (.dict ws) := by
      cases q : H[wd]? with
      | none => rw [q] at hd; cases hd
      | some z => rw [ap q, ← q]; exact hd
    have f2' := ap f2
    have e1 : cf_law_worked_off_1 [some (.int l), y1, some (.int m), some (.ref wd)] H = some (.ref i, [some (.int l), y1, some (.int m), some (.ref wd)], H ++ [.list []]) :=
      ev_meth rfl (kd hd) (ev_acons rfl (ev_a1 (ev_list rfl rfl))) ((og2 hd').trans (by rw [f1]; rfl))
    obtain ⟨y2, c⟩ := compI_pure (g := ce_law_worked_off_3) (y0 := some (.int l)) (rest := [some (.int m), some (.ref wd)]) (H := (H ++ [O.list []]).set i (.frz o)) wV (fun w => wV (w ++ [bitOf l m])) (W l) y1 fun w hw =>
      ev_bin rfl (ev_tup (ev_a1 (ev_fun (ev_a1 (ev_bin rfl rfl rfl)) run_hb)) rfl) (addT (hl2 w hw))
    obtain ⟨z0, z1, r⟩ := run_words2 ls (some (.int l)) y2 (H ++ [.list []]) hd' fun k hk => by
      obtain ⟨a, i, o, f1, f2, f3⟩ := h k (List.mem_cons_of_mem _ hk)
      exact ⟨a, i, o, f1, ap f2, f3⟩
    refine exI2 z0 z1 ?_
    show (cf_law_worked_off_1 [some (.int l), y1, some (.int m), some (.ref wd)] H).bind _ = _
    rw [e1, Option.bind_some]
    show (vItems (.ref i) (H ++ [O.list []])).bind _ = _
    rw [show vItems (.ref i) (H ++ [O.list []]) = some ((W l).map wV, some i) by unfold vItems; simp only [f2', Option.map_some, f3], Option.bind_some]
    refine (if_pos (by show ((W l).map wV).length ≤ _; rw [List.length_map]; exact hl1)).trans ?_
    show (mCompI 1 ce_law_worked_off_3 ((W l).map wV) [some (.int l), y1, some (.int m), some (.ref wd)] (frzAt (some i) (H ++ [O.list []]))).bind _ = _
    rw [frz_lo f2', c, Option.bind_some]
    show (mComp2 _ _ (ls.map V.int) _ (unfrz (some i) (H ++ [O.list []]) ((H ++ [O.list []]).set i (.frz o)))).bind _ = _
    rw [unfrz_of f2', set_back f2', r, Option.bind_some, List.flatMap_cons, List.map_append, List.map_map, List.append_assoc]
    rfl
structure WR (X : List O) (F keys : List Int) (W : Int → List (List Int)) (ws : List (Int × V)) (G : List O) : Prop where
  kys : ws.map (·.1) = keys
  val : ∀ k ∈ keys, ∃ i, kvFind ws k = some (.ref (X.length + 1 + i)) ∧ G[i]? = some (.list ((W k).map wV))
  ok : ∀ k ∈ keys, (W k).Perm (spec F k)
theorem kvFind_snoc {k x : Int} {v : V} : ∀ {kvs : List (Int × V)}, kvFind (kvs ++ [(x, v)]) k = (kvFind kvs k).or (if x = k then some v else none)
  | [] => rfl
  | p :: r => by
    show (if p.1 = k then some p.2 else kvFind (r ++ [(x, v)]) k) = (if p.1 = k then some p.2 else kvFind r k).or _
    by_cases h : p.1 = k
    · rw [if_pos h, if_pos h]; rfl
    · rw [if_neg h, if_neg h, kvFind_snoc]
section
variable {X G : List O} {F keys : List Int} {W : Int → List (List Int)} {ws : List (Int × V)} {f b sO rO : Nat} {kb : List (Int × V)} {a : Int → Nat} {gv x : V} {m : Int}
theorem run_word (hF : ∀ x ∈ F, 0 ≤ x ∧ x < 16) (nd : F.Nodup) (hb : X[b]? = some (.dict kb)) (hkb : kvFind kb m = some (.ref (a m))) (ha : X[a m]? = some (lowL F m)) (h : WR X F keys W ws G) (hm : m ∈ F) (h0 : m ≠ 0) (hk : m ∉ keys) (hlow : ∀ l ∈ below F m, l ∈ keys) (hl : keys.length ≤ 1000) (hFl : F.length ≤ 16) :
    ∃ ws' E, fb_law_worked_off_1 [some (.ref f), some (.ref b), some (.ref sO), some (.ref rO), some (.ref X.length), some gv, some (.int m)] (X ++ .dict ws :: G) = some (.next, [some (.ref f), some (.ref b), some (.ref sO), some (.ref rO), some (.ref X.length), some gv, some (.int m)], X ++ .dict ws' :: (G ++ E)) ∧ WR X F (keys ++ [m]) (upd W m (stepW F W m)) ws' (G ++ E) := by
  have hbl := (List.getElem?_eq_some_iff.mp hb).1
  have hal := (List.getElem?_eq_some_iff.mp ha).1
  have lo : ∀ {j : Nat} {o : O}, X[j]? = some o → (X ++ .dict ws :: G)[j]? = some o := fun q => (List.getElem?_append_left (List.getElem?_eq_some_iff.mp q).1).trans q
  have hwd : (X ++ .dict ws :: G)[X.length]? = some (.dict ws) := at_mid rfl
  have hiG : ∀ {i : Nat}, (X ++ .dict ws :: G)[X.length + 1 + i]? = G[i]? := fun {i} => by
    rw [List.getElem?_append_right (by (first | lia | omega)), show X.length + 1 + i - X.length = i + 1 by (first | lia | omega)]; rfl
  have hbn : (below F m).length ≤ 16 := Nat.le_trans (List.length_filter_le _ _) hFl
  have hW : ∀ l ∈ below F m, (W l).Perm (spec F l) := fun l hl => h.ok l (hlow l hl)
  have hst := spec_step hF nd hm h0 hW
  have hz : ∀ {j : Nat} {o o' : O}, j ≠ a m → (X ++ .dict ws :: G)[j]? = some o → ((X ++ .dict ws :: G).set (a m) o')[j]? = some o := fun q w => by rw [List.getElem?_set_ne (Ne.symm q)]; exact w
  refine exE2 (run_words2 (m := m) (wd := X.length) (ws := ws) (W := W) (below F m) none none ((X ++ .dict ws :: G).set (a m) (.frz (lowL F m))) (congrArg (Option.map O.thaw) (hz (by (first | lia | omega)) hwd)) fun l hl => by
    obtain ⟨i, k1, k2⟩ := h.val l (hlow l hl)
    have hp := hW l hl
    have hlF := hF l (below_mem.mp hl).1
    exact ⟨⟨by rw [hp.length_eq]; exact Nat.le_trans (spec_few hlF) (by decide), fun w hw => Nat.le_trans (spec_ok (hp.mem_iff.mp hw)).1 (by decide)⟩, _, _, k1, hz (by (first | lia | omega)) (hiG.trans k2), rfl⟩) fun y0 y1 r => ?_
  have hun : unfrz (some (a m)) (X ++ .dict ws :: G) ((X ++ .dict ws :: G).set (a m) (.frz (lowL F m)) ++ List.replicate (below F m).length (.list [])) = X ++ .dict ws :: (G ++ List.replicate (below F m).length (.list [])) := by
    rw [unfrz_of (lo ha), List.set_append_left _ _ (by rw [List.length_set, List.length_append]; (first | lia | omega)), set_back (lo ha), List.append_assoc]; rfl
  have hlen : (X ++ .dict ws :: (G ++ List.replicate (below F m).length (O.list []))).length = X.length + 1 + (G.length + (below F m).length) := by
    simp only [List.length_append, List.length_cons, List.length_replicate]; (first | lia | omega)
  have e1 : eComp2 (eSub (eVar 1) (eVar 6)) ["low", "word"] [("mask", 6), ("words", 4)] cf_law_worked_off_1 ce_law_worked_off_3 [some (.ref f), some (.ref b), some (.ref sO), some (.ref rO), some (.ref X.length), some gv, some (.int m)] (X ++ .dict ws :: G) =
      some (.ref (X.length + 1 + (G.length + (below F m).length)), [some (.ref f), some (.ref b), some (.ref sO), some (.ref rO), some (.ref X.length), some gv, some (.int m)], X ++ .dict ws :: (G ++ (List.replicate (below F m).length (.list []) ++ [.list ((stepW F W m).map wV)]))) := by
    refine (ev_comp2 (fz := some (a m)) (ev_sub rfl rfl (oi (congrArg (Option.map O.thaw) (lo hb)) hkb)) (Ys := (below F m).map .int) ?_ (by rw [List.length_map]; (first | lia | omega)) ((congrArg (mComp2 _ _ _ _) (frz_lo (lo ha))).trans r) ?_).trans ?_
    · unfold vItems; simp only [lo ha, lowL, Option.map_some, O.thaw]
    · rw [List.length_map]; exact Nat.le_trans (Nat.le_of_eq hst.length_eq) (Nat.le_trans (spec_few (hF m hm)) (by decide))
    · rw [hun, hlen, List.append_assoc, List.cons_append, List.append_assoc]; rfl
  have hws : ws.length = keys.length := by rw [← h.kys, List.length_map]
  have hkn : kvFind ws m = none := by
    have := kvFind_keys (kvs := ws) (k := m)
    rw [h.kys, decide_eq_false hk] at this
    exact Option.not_isSome_iff_eq_none.mp (by rw [this]; nofun)
  have hm0 : (m == 0) = false := beq_eq_false_iff_ne.mpr h0
  refine exI2 (kvPut ws m (.ref (X.length + 1 + (G.length + (below F m).length)))) _ ⟨ev_cons (ev_if_t (ev_tcmp rfl rfl (by show Option.map (! ·) (some (m == 0)) = _; rw [hm0]; rfl)) (ev_cons (ev_setitem e1 rfl rfl ((osi (at_mid rfl) (by (first | lia | omega))).trans (congrArg some (set_mid rfl)))) rfl)) rfl, ?_, fun k hk' => ?_, fun k hk' => ?_⟩
  · rw [kvPut_new hkn, List.map_append, h.kys]; rfl
  · rw [kvPut_new hkn, kvFind_snoc]
    by_cases q : k = m
    · subst q
      exact ⟨G.length + (below F k).length, by rw [hkn, if_pos rfl]; rfl, by rw [upd_self, ← List.append_assoc]; exact at_mid (by simp)⟩
    · obtain ⟨i, k1, k2⟩ := h.val k ((List.mem_append.mp hk').resolve_right fun z => q (List.mem_singleton.mp z))
      refine ⟨i, by rw [k1]; rfl, ?_⟩
      have := (List.getElem?_eq_some_iff.mp k2).1
      rw [upd_ne _ _ q, List.getElem?_append_left this, k2]
  · by_cases q : k = m
    · subst q; rw [upd_self]; exact hst
    · rw [upd_ne _ _ q]
      exact h.ok k ((List.mem_append.mp hk').resolve_right fun z => q (List.mem_singleton.mp z))
theorem run_group {gs : List Int} (hF : ∀ x ∈ F, 0 ≤ x ∧ x < 16) (nd : F.Nodup) (hb : X[b]? = some (.dict kb)) (hkb : ∀ m ∈ F, kvFind kb m = some (.ref (a m))) (ha : ∀ m ∈ F, X[a m]? = some (lowL F m)) (h : WR X F keys W ws G) (gn : gs.Nodup) (hg : ∀ m ∈ gs, m ∈ F ∧ (m ≠ 0 → m ∉ keys) ∧ ∀ l ∈ below F m, l ∈ keys) (hl : keys.length + gs.length ≤ 1000) (hFl : F.length ≤ 16) {y : Option V} :
    ∃ W' ws' E y', mForL 6 fb_law_worked_off_1 (gs.map .int) [some (.ref f), some (.ref b), some (.ref sO), some (.ref rO), some (.ref X.length), some gv, y] (X ++ .dict ws :: G) = some (.next, [some (.ref f), some (.ref b), some (.ref sO), some (.ref rO), some (.ref X.length), some gv, y'], X ++ .dict ws' :: (G ++ E)) ∧ WR X F (keys ++ gs.filter fun m => m != 0) W' ws' (G ++ E) := by
  refine (forL_inv V.int 6 fb_law_worked_off_1 (fun pre e H => (∃ y, e = [some (.ref f), some (.ref b), some (.ref sO), some (.ref rO), some (.ref X.length), some gv, y]) ∧ ∃ W ws E, H = X ++ .dict ws :: (G ++ E) ∧ WR X F (keys ++ pre.filter fun m => m != 0) W ws (G ++ E)) (all := gs) gs [] _ (X ++ .dict ws :: G) ⟨⟨y, rfl⟩, W, ws, [], by rw [List.append_nil], by rw [List.filter_nil, List.append_nil, List.append_nil]; exact h⟩ (fun pre m post e H hp hI => ?_) rfl).elim fun e' q => q.elim fun H' rr => ?_
  · obtain ⟨⟨y, rfl⟩, W, ws, E, rfl, h⟩ := hI
    refine andE3 (hg m (mem_of_pre hp)) fun m1 m2 m3 => ?_
    have hlp := len_pre hp
    refine ⟨lt_of_blt rfl, ?_⟩
    by_cases h0 : m = 0
    · subst h0
      refine exI3 .next _ _ ⟨ev_cons (ev_if_f (ev_tcmp rfl rfl rfl) rfl) rfl, .inl rfl, ⟨_, rfl⟩, W, ws, E, rfl, ?_⟩
      rw [List.filter_append, List.filter_cons_of_neg (by decide), List.filter_nil, List.append_nil]; exact h
    · have hlf : (pre.filter fun m => m != 0).length ≤ pre.length := List.length_filter_le _ _
      refine exE2 (run_word (f := f) (sO := sO) (rO := rO) (gv := gv) (a := a) hF nd hb (hkb m m1) (ha m m1) h m1 h0 (fun z => (List.mem_append.mp z).elim (m2 h0) fun w => not_pre hp gn (List.mem_filter.mp w).1) (fun l hl => List.mem_append_left _ (m3 l hl)) (by rw [List.length_append]; (first | lia | omega)) hFl) fun ws' E' h10 => andE2 h10 fun r1 r2 => ?_
      refine exI3 .next _ _ ⟨r1, .inl rfl, ⟨_, rfl⟩, upd W m (stepW F W m), ws', E ++ E', by rw [List.append_assoc], ?_⟩
      rw [List.filter_append, List.filter_cons_of_pos (by simpa using h0), List.filter_nil, ← List.append_assoc, ← List.append_assoc]; exact r2
  · obtain ⟨r1, ⟨y', rfl⟩, W', ws', E, rfl, h'⟩ := rr
    exact exI4 W' ws' E y' ⟨r1, h'⟩
end
end Mine
end
section
set_option tactic.hygienic false
open PySem PySem.W PyProof.Rows PySem.Calls PySem.SeqAt Builtin
namespace Mine
theorem asInts_map : ∀ {l : List Int}, asInts (l.map V.int) = some l
  | [] => rfl
  | x :: l => by show (asInts (l.map V.int)).map (x :: ·) = _; rw [asInts_map]; rfl
theorem sort2_tup {g : List Int} {H : AHeap} (h : g.length < 64) : oSort2 [.tup (g.map .int)] H = some (.ref H.length, H ++ [.list ((sortI g).map .int)]) := by
  have : oSorted [.tup (g.map .int)] H = some (.ref H.length, H ++ [.list ((sortI g).map .int)]) := by
    show ((some (g.map V.int, none) : Option (List V × Option Nat)).bind fun it => (asInts it.1).bind fun ns => if ns.length < 64 then some (V.ref H.length, H ++ [O.list ((sortI ns).map .int)]) else none) = _
    rw [Option.bind_some, asInts_map, Option.bind_some, if_pos h]
  unfold oSort2; rw [this]
theorem sort2_list {g : List Int} {H : AHeap} {i : Nat} (hi : (H[i]?).map O.thaw = some (.list (g.map .int))) (h : g.length < 64) : oSort2 [.ref i] H = some (.ref H.length, H ++ [.list ((sortI g).map .int)]) := by
  have : oSorted [.ref i] H = some (.ref H.length, H ++ [.list ((sortI g).map .int)]) := by
    unfold oSorted vItems; simp only [hi, Option.bind_some, asInts_map, h, if_true]
  unfold oSort2; rw [this]
theorem nodup_len : ∀ {l F : List Int}, l.Nodup → (∀ x ∈ l, x ∈ F) → l.length ≤ F.length
  | [], _, _, _ => Nat.zero_le _
  | x :: l, F, nd, h => by
    have hn := List.nodup_cons.mp nd
    have hx := h x List.mem_cons_self
    have h1 := nodup_len (F := F.erase x) hn.2 fun y hy => (List.mem_erase_of_ne fun q : y = x => hn.1 (q ▸ hy)).mpr (h y (List.mem_cons_of_mem _ hy))
    have h2 := List.length_erase_of_mem hx
    have h3 := List.length_pos_of_mem hx
    rw [List.length_cons]; omega
noncomputable def lev (F : List Int) (j : Nat) : List Int := (sortI F).filter fun m => rkF F m == j
theorem lev_eq {F g : List Int} {j : Nat} (nd : F.Nodup) (gn : g.Nodup) (h : ∀ m, m ∈ g ↔ m ∈ F ∧ rkF F m = j) : sortI g = lev F j := by
  refine (eq_sortI ((List.perm_ext_iff_of_nodup (List.Pairwise.filter _ ((sortI_perm F).nodup_iff.mpr nd)) gn).mpr fun m => ?_) (List.Pairwise.filter _ (sortI_rises F))).symm
  rw [List.mem_filter, (sortI_perm F).mem_iff, beq_iff_eq, h]
structure RR (F : List Int) (c k : Nat) (rs : List V) (G : List O) : Prop where
  len : rs.length = k
  val : ∀ j, j < k → ∃ i, rs[j]? = some (.ref (c + i)) ∧ G[i]? = some (.list ((lev F j).map .int))
theorem RR.more {F : List Int} {c k : Nat} {rs : List V} {G E : List O} (h : RR F c k rs G) : RR F c k rs (G ++ E) := ⟨h.len, fun j hj => by
  obtain ⟨i, a, b⟩ := h.val j hj
  exact ⟨i, a, (List.getElem?_append_left (List.getElem?_eq_some_iff.mp b).1).trans b⟩⟩
theorem RR.next {F : List Int} {c k : Nat} {rs : List V} {G : List O} (h : RR F c k rs G) : RR F c (k + 1) (rs ++ [.ref (c + G.length)]) (G ++ [.list ((lev F k).map .int)]) := by
  refine ⟨by rw [List.length_append, h.len]; rfl, fun j hj => ?_⟩
  by_cases q : j < k
  · obtain ⟨i, a, b⟩ := h.more.val j q
    exact ⟨i, (List.getElem?_append_left (by rw [h.len]; exact q)).trans a, b⟩
  · have e : j = k := by (first | lia | omega)
    subst e
    exact ⟨G.length, at_mid h.len, at_mid rfl⟩
theorem WR.more {X G E : List O} {F keys : List Int} {W : Int → List (List Int)} {ws : List (Int × V)} (h : WR X F keys W ws G) : WR X F keys W ws (G ++ E) := ⟨h.kys, fun k hk => by
  refine exE1 (h.val k hk) fun i h2 => andE2 h2 fun a b => ?_
  exact ⟨i, a, (List.getElem?_append_left (List.getElem?_eq_some_iff.mp b).1).trans b⟩, h.ok⟩
theorem WR.len {X X' G : List O} {F keys : List Int} {W : Int → List (List Int)} {ws : List (Int × V)} (h : WR X F keys W ws G) (e : X.length = X'.length) : WR X' F keys W ws G := ⟨h.kys, fun k hk => by rw [← e]; exact h.val k hk, h.ok⟩
section
variable {P T : List O} {F D K : List Int} {su : Int → List Int} {np : Int → Int} {po nf : Int} {rdy : List Int} {rs : List V} {ws : List (Int × V)} {G : List O} {W : Int → List (List Int)} {b k f : Nat} {kb : List (Int × V)} {a : Int → Nat}
noncomputable def XR (P : List O) (K : List Int) (su : Int → List Int) (np : Int → Int) (po nf : Int) (rdy : List Int) (T : List O) (rs : List V) : List O := HR P K su np po nf rdy (T ++ [.list rs])
theorem xr_eq : HR P K su np po nf rdy (T ++ .list rs :: .dict ws :: G) = XR P K su np po nf rdy T rs ++ .dict ws :: G := by
  unfold XR HR; rw [hs_app]; simp
theorem xr_len : (XR P K su np po nf rdy T rs).length = P.length + 3 + 3 * K.length + (1 + T.length) + 1 := by
  unfold XR HR; rw [hs_len]; simp only [List.length_cons, List.length_append, List.length_nil]; (first | lia | omega)
theorem hr_rs : (HR P K su np po nf rdy (T ++ .list rs :: .dict ws :: G))[P.length + 3 + 3 * K.length + (1 + T.length)]? = some (.list rs) := by
  refine (hs_q (i := 1 + T.length)).trans ?_
  rw [Nat.add_comm 1]; exact at_mid rfl
theorem hr_setrs {rs' : List V} : (HR P K su np po nf rdy (T ++ .list rs :: .dict ws :: G)).set (P.length + 3 + 3 * K.length + (1 + T.length)) (.list rs') = HR P K su np po nf rdy (T ++ .list rs' :: .dict ws :: G) := by
  refine (hs_setq (i := 1 + T.length)).trans (congrArg (HS P _ _ K np _) ?_)
  rw [Nat.add_comm 1]; exact congrArg (_ :: ·) (set_mid rfl)
theorem hr_more {E : List O} : HR P K su np po nf rdy (T ++ .list rs :: .dict ws :: G) ++ E = HR P K su np po nf rdy (T ++ .list rs :: .dict ws :: (G ++ E)) := hs_app.trans (congrArg (HS P _ _ K np _) (by simp))
theorem hr_len : (HR P K su np po nf rdy (T ++ .list rs :: .dict ws :: G)).length = P.length + 3 + 3 * K.length + (1 + T.length) + 1 + 1 + G.length := by
  rw [xr_eq, List.length_append, xr_len, List.length_cons]; (first | lia | omega)
structure WO (P : List O) (F K : List Int) (b : Nat) (kb : List (Int × V)) (a : Int → Nat) : Prop where
  hF : ∀ x ∈ F, 0 ≤ x ∧ x < 16
  nd : F.Nodup
  len : F.length ≤ 16
  kn : K.Nodup
  kF : ∀ x, x ∈ K ↔ x ∈ F
  hb : P[b]? = some (.dict kb)
  hkb : ∀ m ∈ F, kvFind kb m = some (.ref (a m))
  ha : ∀ m ∈ F, P[a m]? = some (lowL F m)
theorem run_round (C : WO P F K b kb a) (hv : LV F D k (np, rdy)) (hw : WR (XR P K (suOf (below F) F) np po nf rdy T rs) F (0 :: D.filter fun m => m != 0) W ws G) (hr : RR F (P.length + 3 + 3 * K.length + (1 + T.length) + 1 + 1) k rs G) (dl : D.length + rdy.length ≤ 16) (hk : k ≤ 1000) {x5 x6 : Option V} :
    ∃ np' rdy' rs' ws' G' W' y5 y6, wb_law_worked_off_1 [some (.ref f), some (.ref b), some (.ref (P.length + 1)), some (.ref (P.length + 3 + 3 * K.length + (1 + T.length))), some (.ref (P.length + 3 + 3 * K.length + (1 + T.length) + 1)), x5, x6] (HR P K (suOf (below F) F) np po nf rdy (T ++ .list rs :: .dict ws :: G)) =
        some (.next, [some (.ref f), some (.ref b), some (.ref (P.length + 1)), some (.ref (P.length + 3 + 3 * K.length + (1 + T.length))), some (.ref (P.length + 3 + 3 * K.length + (1 + T.length) + 1)), y5, y6], HR P K (suOf (below F) F) np' (po + rdy.length) (nf + rdy.length) rdy' (T ++ .list rs' :: .dict ws' :: G')) ∧
      LV F (D ++ rdy) (k + 1) (np', rdy') ∧ WR (XR P K (suOf (below F) F) np' (po + rdy.length) (nf + rdy.length) rdy' T rs') F (0 :: (D ++ rdy).filter fun m => m != 0) W' ws' G' ∧ RR F (P.length + 3 + 3 * K.length + (1 + T.length) + 1 + 1) (k + 1) rs' G' := by
  have hrK : ∀ m ∈ rdy, m ∈ F ∧ rkF F m = k := fun m hm => (hv.rd C.hF m).mp hm
  have hs16 : ∀ x, (suOf (below F) F x).length ≤ 16 := fun x => Nat.le_trans (List.length_filter_le _ _) C.len
  obtain ⟨a1, a2⟩ := hv.all C.hF C.nd
  have kF := C.kF
  have g1 := run_get_ready (P := P) (su := suOf (below F) F) (np := np) (po := po) (nf := nf) (Q := T ++ .list rs :: .dict ws :: G) C.kn (by (first | lia | omega)) fun m hm => (kF m).mpr (hrK m hm).1
  have hlo : ∀ {np rdy rs po} {i : Nat} {o : O}, P[i]? = some o → (XR P K (suOf (below F) F) np po nf rdy T rs)[i]? = some o := fun h => (hs_lo (List.getElem?_eq_some_iff.mp h).1).trans h
  have hw2 := (hw.more (E := [.list ((sortI rdy).map .int)])).len (X' := XR P K (suOf (below F) F) (fun k => if k ∈ rdy then -1 else np k) (po + rdy.length) nf [] T (rs ++ [.ref (P.length + 3 + 3 * K.length + (1 + T.length) + 1 + 1 + G.length)])) (by rw [xr_len, xr_len])
  refine exE4 (run_group (f := f) (sO := P.length + 1) (rO := P.length + 3 + 3 * K.length + (1 + T.length)) (gv := .tup (rdy.map .int)) (gs := rdy) (y := x6) (kb := kb) (a := a) (b := b) C.hF C.nd (hlo C.hb) C.hkb (fun m hm => hlo (C.ha m hm)) hw2 hv.pi.nd (fun m hm => by
    have h1 := (hv.pi.rd m).mp hm
    refine ⟨h1.1, fun z q => ?_, fun l hl => ?_⟩
    · exact (List.mem_cons.mp q).elim z fun w => h1.2.1 (List.mem_filter.mp w).1
    · have h2 := h1.2.2.2 l hl
      rw [List.append_nil] at h2
      by_cases z : l = 0
      · rw [z]; exact List.mem_cons_self
      · exact List.mem_cons_of_mem _ (List.mem_filter.mpr ⟨h2, by simpa using z⟩)) (by
    have : (D.filter fun m => m != 0).length ≤ D.length := List.length_filter_le _ _
    rw [List.length_cons]; (first | lia | omega)) C.len) fun W' ws' E y6 h4 => andE2 h4 fun r1 r2 => ?_
  rw [xr_len] at r1
  rw [← xr_eq, ← xr_eq] at r1
  have d1 := run_done (P := P) (Q := T ++ .list (rs ++ [.ref (P.length + 3 + 3 * K.length + (1 + T.length) + 1 + 1 + G.length)]) :: .dict ws' :: (G ++ [.list ((sortI rdy).map .int)] ++ E)) (po := po + rdy.length) (nf := nf) (gs' := rdy) (su := suOf (below F) F) (np := fun k => if k ∈ rdy then -1 else np k) (rdy := []) C.kn (fun m hm => (kF m).mpr (hrK m hm).1) (by (first | lia | omega)) (Nat.zero_le _) hs16 (fun m _ x hx => (kF x).mpr (List.mem_filter.mp hx).1) a1
  have hst : starItems (.tup (rdy.map .int)) (HR P K (suOf (below F) F) (fun k => if k ∈ rdy then -1 else np k) (po + rdy.length) nf [] (T ++ .list (rs ++ [.ref (P.length + 3 + 3 * K.length + (1 + T.length) + 1 + 1 + G.length)]) :: .dict ws' :: (G ++ [.list ((sortI rdy).map .int)] ++ E))) = some (rdy.map .int) := if_pos (by rw [List.length_map]; (first | lia | omega))
  have s1 : eFun (aCons (eVar 5) aNil) oSort2 [some (.ref f), some (.ref b), some (.ref (P.length + 1)), some (.ref (P.length + 3 + 3 * K.length + (1 + T.length))), some (.ref (P.length + 3 + 3 * K.length + (1 + T.length) + 1)), some (.tup (rdy.map .int)), x6] (HR P K (suOf (below F) F) (fun k => if k ∈ rdy then -1 else np k) (po + rdy.length) nf [] (T ++ .list rs :: .dict ws :: G)) =
      some (.ref (P.length + 3 + 3 * K.length + (1 + T.length) + 1 + 1 + G.length), _, HR P K (suOf (below F) F) (fun k => if k ∈ rdy then -1 else np k) (po + rdy.length) nf [] (T ++ .list rs :: .dict ws :: (G ++ [.list ((sortI rdy).map .int)]))) :=
    (ev_fun (ev_a1 rfl) (sort2_tup (by (first | lia | omega)))).trans (by rw [hr_len, hr_more])
  refine exI8 _ _ _ ws' _ W' _ y6 ⟨ev_cons (ev_assign (ev_own rfl ki rfl g1) rfl) (ev_cons (ev_expr (ev_meth rfl (kl (congrArg (Option.map O.thaw) hr_rs)) (ev_a1 s1) ((oap hr_rs (by rw [hr.len]; (first | lia | omega))).trans (congrArg some (congrArg (Prod.mk _) hr_setrs))))) (ev_cons (ev_for rfl rfl r1) (ev_cons (ev_expr (ev_own rfl ki (ev_star rfl hst) d1)) rfl))), a2, ?_, ?_⟩
  · rw [List.filter_append]; exact r2.len (by rw [xr_len, xr_len])
  · have := hr.next
    rw [← lev_eq C.nd hv.pi.nd (hv.rd C.hF)] at this
    exact this.more
theorem run_rounds (C : WO P F K b kb a) : ∀ (n k : Nat) (D : List Int) (np : Int → Int) (po : Int) (rdy : List Int) (rs : List V) (ws : List (Int × V)) (G : List O) (W : Int → List (List Int)) (x5 x6 : Option V), (∀ m ∈ F, rkF F m + 1 < k + n) → 1 ≤ n → k + n ≤ 1000 → D.Nodup → LV F D k (np, rdy) → WR (XR P K (suOf (below F) F) np po po rdy T rs) F (0 :: D.filter fun m => m != 0) W ws G → RR F (P.length + 3 + 3 * K.length + (1 + T.length) + 1 + 1) k rs G → (∀ j, j < k → lev F j ≠ []) →
    ∃ k' D' np' po' rs' ws' G' W' y5 y6, mWhile n (tVal (eOwn (eVar 2) aNil op_S_is_active)) wb_law_worked_off_1 mNil [some (.ref f), some (.ref b), some (.ref (P.length + 1)), some (.ref (P.length + 3 + 3 * K.length + (1 + T.length))), some (.ref (P.length + 3 + 3 * K.length + (1 + T.length) + 1)), x5, x6] (HR P K (suOf (below F) F) np po po rdy (T ++ .list rs :: .dict ws :: G)) =
        some (.next, [some (.ref f), some (.ref b), some (.ref (P.length + 1)), some (.ref (P.length + 3 + 3 * K.length + (1 + T.length))), some (.ref (P.length + 3 + 3 * K.length + (1 + T.length) + 1)), y5, y6], HR P K (suOf (below F) F) np' po' po' [] (T ++ .list rs' :: .dict ws' :: G')) ∧
      D'.Nodup ∧ LV F D' k' (np', []) ∧ WR (XR P K (suOf (below F) F) np' po' po' [] T rs') F (0 :: D'.filter fun m => m != 0) W' ws' G' ∧ RR F (P.length + 3 + 3 * K.length + (1 + T.length) + 1 + 1) k' rs' G' ∧ ∀ j, j < k' → lev F j ≠ [] := by
  intro n
  induction n with
  | zero => intro _ _ _ _ _ _ _ _ _ _ _ _ h; exact absurd h (by decide)
  | succ n ih =>
    intro k D np po rdy rs ws G W x5 x6 hn h1 hkn dn hv hw hr hne
    have sub : ∀ {l : List Int}, l.Nodup → (∀ x ∈ l, x ∈ F) → l.length ≤ 16 := fun {l} hl hs => Nat.le_trans (nodup_len hl hs) C.len
    have dr : (D ++ rdy).Nodup := List.nodup_append.mpr ⟨dn, hv.pi.nd, fun x hx y hy q => ((hv.pi.rd y).mp hy).2.1 (q ▸ hx)⟩
    have dl : D.length + rdy.length ≤ 16 := by
      rw [← List.length_append]
      exact sub dr fun x hx => (List.mem_append.mp hx).elim (fun q => ((hv.dn x).mp q).1) fun q => ((hv.pi.rd x).mp q).1
    have ac := run_is_active (P := P) (K := K) (su := suOf (below F) F) (np := np) (po := po) (nf := po) (Q := T ++ .list rs :: .dict ws :: G) (rdy := rdy) (by (first | lia | omega))
    rw [decide_eq_false (Int.lt_irrefl po), Bool.false_or] at ac
    cases rdy with
    | nil => exact ⟨k, D, np, po, rs, ws, G, W, x5, x6, ev_wh_f (ev_tval (ev_own rfl ki rfl ac) rfl) rfl, dn, hv, hw, hr, hne⟩
    | cons g gs' =>
      have hg := (hv.rd C.hF g).mp List.mem_cons_self
      have hgn := hn g hg.1
      refine exE8 (run_round (f := f) (x5 := x5) (x6 := x6) C hv hw hr dl (by (first | lia | omega))) fun np' rdy' rs' ws' G' W' y5 y6 h5 => andE4 h5 fun r1 r2 r3 r4 => ?_
      refine exE10 (ih (k + 1) (D ++ g :: gs') np' (po + (g :: gs').length) rdy' rs' ws' G' W' y5 y6 (fun m hm => by have := hn m hm; (first | lia | omega)) (by (first | lia | omega)) (by (first | lia | omega)) dr r2 r3 r4 fun j hj => by
        by_cases q : j < k
        · exact hne j q
        · have e : j = k := by (first | lia | omega)
          subst e
          exact List.ne_nil_of_mem (List.mem_filter.mpr ⟨(sortI_perm F).mem_iff.mpr hg.1, beq_iff_eq.mpr hg.2⟩)) fun k' D' np2 po2 rs2 ws2 G2 W2 z5 z6 h6 => andE2 h6 fun q1 q2 => ?_
      exact exI10 k' D' np2 po2 rs2 ws2 G2 W2 z5 z6 ⟨ev_wh_next (ev_tval (ev_own rfl ki rfl ac) rfl) r1 q1, q2⟩
end
end Mine
end
section
set_option tactic.hygienic false
open PySem PySem.W PyProof.Rows PySem.Calls PySem.SeqAt Builtin
namespace Mine
theorem kvFind_map {v : Int → V} {m : Int} : ∀ {l : List Int}, m ∈ l → kvFind (l.map fun m => (m, v m)) m = some (v m)
  | x :: r, h => by
    show (if x = m then some (v x) else kvFind (r.map fun m => (m, v m)) m) = _
    by_cases q : x = m
    · rw [if_pos q, q]
    · rw [if_neg q, kvFind_map ((List.mem_cons.mp h).resolve_left fun z => q z.symm)]
theorem at_map {H R : List O} {l : List Int} {L : Int → O} {m : Int} (h : m ∈ l) : (H ++ l.map L ++ R)[H.length + l.idxOf m]? = some (L m) := by
  have hl := List.idxOf_lt_length_of_mem h
  rw [List.append_assoc, List.getElem?_append_right (Nat.le_add_right _ _), Nat.add_sub_cancel_left, List.getElem?_append_left (by rw [List.length_map]; exact hl), List.getElem?_map, List.getElem?_eq_getElem hl, List.getElem_idxOf]
  rfl
theorem asWords_map : ∀ {ws : List (List Int)}, asWords (ws.map wV) = some ws
  | [] => rfl
  | w :: r => by show (asInts (w.map V.int)).bind _ = _; rw [asInts_map, Option.bind_some, asWords_map]; rfl
theorem sort2_words {H : AHeap} {i : Nat} {ws : List (List Int)} {F : List Int} {m : Int} (hi : (H[i]?).map O.thaw = some (.list (ws.map wV))) (hp : ws.Perm (spec F m)) (hm : 0 ≤ m ∧ m < 16) (h0 : (0 : Int) ∈ F) : oSort2 [.ref i] H = some (.ref H.length, H ++ [.list ((spec F m).map wV)]) := by
  have hlen := hp.length_eq
  have hf := spec_few (F := F) hm
  have hv : vItems (.ref i) H = some (ws.map wV, some i) := by unfold vItems; simp only [hi]
  cases ws with
  | nil =>
    rw [List.eq_nil_of_length_eq_zero hlen.symm]
    exact sort2_list (g := []) hi (by decide)
  | cons w r =>
    have e1 : oSorted [.ref i] H = none := by unfold oSorted; simp only [hv, Option.bind_some]; rfl
    have e2 : oSortT [.ref i] H = some (.ref H.length, H ++ [.list ((spec F m).map wV)]) := by
      unfold oSortT
      simp only [hv, Option.bind_some, asWords_map, spec_sorted hp]
      refine if_pos ⟨by (first | lia | omega), ?_⟩
      have hw := hp.mem_iff.mp (List.mem_cons_self (a := w) (l := r))
      obtain ⟨k1, k2⟩ := spec_ok hw
      by_cases hz : w = []
      · refine .inl ?_
        have := spec_mem.mp hw
        rw [hz] at this
        have e : m = 0 := this.2.1.symm
        rw [hlen, e, spec_zero h0]; exact Nat.le_refl _
      · refine .inr ?_
        show (decide (0 < w.length) && decide (w.length ≤ 8) && (w :: r).all (wOk w.length)) = true
        rw [decide_eq_true (List.length_pos_iff.mpr hz), decide_eq_true (by (first | lia | omega) : w.length ≤ 8), List.all_eq_true.mpr fun v hv => k2 v (hp.mem_iff.mp hv)]; rfl
    unfold oSort2; rw [e1]; exact e2
section
variable {H : AHeap} {F keys : List Int} {f wd c : Nat} {ws : List (Int × V)} {G : Int → List (List Int)}
theorem run_told {x0 x1 x2 x3 x5 x6 : Option V} (hd : H[wd]? = some (.dict ws)) (hk : ws.map (·.1) = keys) (kn : keys.Nodup) (hl : keys.length ≤ 1000) (h0 : (0 : Int) ∈ F) (hv : ∀ k ∈ keys, (0 ≤ k ∧ k < 16) ∧ (G k).Perm (spec F k) ∧ ∃ i, i ≠ wd ∧ kvFind ws k = some (.ref i) ∧ H[i]? = some (.list ((G k).map wV))) :
    eDComp (eVar 4) ["mask"] [("words", 4)] tYes (eVar 0) ce_law_worked_off_4 [x0, x1, x2, x3, some (.ref wd), x5, x6] H = some (.ref (H.length + keys.length), [x0, x1, x2, x3, some (.ref wd), x5, x6], H ++ keys.map (fun k => .list ((spec F k).map wV)) ++ [.dict (keys.map fun m => (m, .ref (H.length + keys.idxOf m)))]) := by
  have hlt := (List.getElem?_eq_some_iff.mp hd).1
  have hL : ∀ o, (H.set wd o).length = H.length := fun o => List.length_set
  have step : ∀ pre x post kvs e Hx, pre ++ x :: post = keys → ((∃ y0, e = [y0, some (V.ref wd)]) ∧ kvs = pre.map (fun m => (m, V.ref (H.length + keys.idxOf m))) ∧ Hx = H.set wd (.frz (.dict ws)) ++ pre.map (fun k => O.list ((spec F k).map wV))) →
      0 < e.length ∧ ∃ y e1 H1, ce_law_worked_off_4 (e.set 0 (some (.int x))) Hx = some (y, e1, H1) ∧ (∃ y0, e1 = [y0, some (V.ref wd)]) ∧ kvPut kvs x y = (pre ++ [x]).map (fun m => (m, V.ref (H.length + keys.idxOf m))) ∧ H1 = H.set wd (.frz (.dict ws)) ++ (pre ++ [x]).map (fun k => O.list ((spec F k).map wV)) := by
    rintro pre x post kvs e Hx hp ⟨⟨y0, rfl⟩, rfl, hH⟩
    obtain ⟨a1, a2, i, a3, a4, a5⟩ := hv x (mem_of_pre hp)
    have hi := (List.getElem?_eq_some_iff.mp a5).1
    have lo : ∀ {j : Nat}, j < H.length → Hx[j]? = (H.set wd (.frz (.dict ws)))[j]? := fun q => by rw [hH, List.getElem?_append_left (by rw [hL]; exact q)]
    have hxl : Hx.length = H.length + keys.idxOf x := by rw [hH, List.length_append, hL, List.length_map, idx_pre hp kn]
    have s2 := sort2_words (H := Hx) (i := i) (by rw [lo hi, List.getElem?_set_ne (Ne.symm a3), a5]; rfl) a2 a1 h0
    refine ⟨lt_of_blt rfl, _, _, _, ev_fun (ev_a1 (ev_sub rfl rfl (oi (by rw [lo hlt, List.getElem?_set_self hlt]; rfl) a4))) s2, ⟨_, rfl⟩, ?_, ?_⟩
    · rw [kvPut_new (kv_none (not_pre hp kn)), List.map_append, hxl]; rfl
    · rw [hH, List.map_append, List.append_assoc]; rfl
  refine exE3 (compD_inv (all := keys) (gv := ce_law_worked_off_4) (fun pre kvs e Hx => (∃ y0, e = [y0, some (.ref wd)]) ∧ kvs = pre.map (fun m => (m, .ref (H.length + keys.idxOf m))) ∧ Hx = H.set wd (.frz (.dict ws)) ++ pre.map (fun k => .list ((spec F k).map wV))) keys [] [] [none, some (.ref wd)] (H.set wd (.frz (.dict ws))) ⟨⟨_, rfl⟩, rfl, (List.append_nil _).symm⟩ step rfl) fun kvs' e' H' h2 => andE4 h2 fun r1 h2_1 e2_2 e2_3 => ?_
  obtain ⟨y0, rfl⟩ := h2_1
  subst e2_2
  subst e2_3
  have hit : ws.map (fun p => V.int p.1) = keys.map .int := by rw [← hk, List.map_map]; rfl
  refine (ev_dcomp (fz := some wd) rfl (Ys := keys.map .int) ?_ (by rw [List.length_map]; (first | lia | omega)) ((congrArg (mCompD _ _ _ _ _ _) (frz_lo hd)).trans r1)).trans ?_
  · rw [← hit]; unfold vItems; simp only [hd, Option.map_some, O.thaw]
  · rw [unfrz_of hd, List.set_append_left _ _ (hL _ ▸ hlt), set_back hd, List.length_append, List.length_map]
end
structure Told (F : List Int) (H : AHeap) (R : Nat) : Prop where
  out : ∃ (rO rD k : Nat) (rs : List V) (kvs : List (Int × V)), H[R]? = some (.list [.ref rO, .ref rD]) ∧ (H[rO]? = some (.list rs) ∧ rs.length = k ∧ (∀ j, j < k → ∃ i, rs[j]? = some (.ref i) ∧ H[i]? = some (.list ((lev F j).map .int))) ∧ (∀ m ∈ F, rkF F m < k) ∧ ∀ j, j < k → lev F j ≠ []) ∧
    H[rD]? = some (.dict kvs) ∧ kvs.length = F.length ∧ ∀ p ∈ kvs, p.1 ∈ F ∧ ∃ i, p.2 = .ref i ∧ H[i]? = some (.list ((spec F p.1).map wV))
theorem run_worked_off {H : AHeap} {F : List Int} {f : Nat} (hf : H[f]? = some (.list (F.map .int))) (nd : F.Nodup) (hl : F.length ≤ 16) (hF : ∀ x ∈ F, 0 ≤ x ∧ x < 16) (h0 : (0 : Int) ∈ F) :
    ∃ R H', op_law_worked_off [.ref f] H = some (.ref R, H') ∧ Told F H' R ∧ ∀ i, i < H.length → H'[i]? = H[i]? := by
  refine named (H ++ F.map (lowL F) ++ [.dict (F.map fun m => (m, .ref (H.length + F.idxOf m)))]) fun P hP => ?_
  have hlow : ∀ {i : Nat}, i < H.length → P[i]? = H[i]? := fun h => by rw [hP, List.append_assoc, List.getElem?_append_left h]
  have hPl : H.length + F.length < P.length := by rw [hP]; simp
  have C : WO P F (keysOf (below F) F) (H.length + F.length) (F.map fun m => (m, .ref (H.length + F.idxOf m))) (fun m => H.length + F.idxOf m) :=
    ⟨hF, nd, hl, keys_nodup List.nodup_nil, fun x => keysOf_mem.trans ⟨fun ⟨m, hm, q⟩ => q.elim (fun e => e ▸ hm) fun q => (below_mem.mp q).1, fun q => ⟨x, q, .inl rfl⟩⟩, by rw [hP]; exact at_mid (by simp), fun m hm => kvFind_map hm, fun m hm => by rw [hP]; exact at_map hm⟩
  have hsu : ∀ k ∈ keysOf (below F) F, (suOf (below F) F k).length ≤ 16 ∧ ∀ m ∈ suOf (below F) F k, m ∈ keysOf (below F) F ∧ k < m := fun k _ => ⟨Nat.le_trans (List.length_filter_le _ _) hl, fun m hm => ⟨(C.kF m).mpr (suOf_mem.mp hm).1, below_lt (suOf_mem.mp hm).2⟩⟩
  have hKl : (keysOf (below F) F).length ≤ 16 := Nat.le_trans (nodup_len C.kn fun x hx => (C.kF x).mp hx) hl
  have ri := run_init (P := P) (b := H.length + F.length) (ba := fun m => H.length + F.idxOf m) C.hb (fun m hm => C.ha m hm) nd hl (fun m => Nat.le_trans (List.length_filter_le _ _) hl) (fun m => below_nodup nd)
  obtain ⟨T, rp⟩ := run_prepare (P := P) (np := npOf (below F) F) (su := suOf (below F) F) C.kn hKl hsu
  have lv := LV.first C.kn C.kF
  refine named ((keysOf (below F) F).filter fun k => npOf (below F) F k == 0) fun rdy hrdy => ?_
  rw [← hrdy] at rp lv
  refine named (P.length + 3 + 3 * (keysOf (below F) F).length + (1 + T.length)) fun rO hrO => ?_
  have L1 : (HR P (keysOf (below F) F) (suOf (below F) F) (npOf (below F) F) 0 0 rdy T).length = rO := by unfold HR; rw [hs_len, List.length_cons, hrO]; (first | lia | omega)
  have m1 : ∀ {Q E : List O}, HR P (keysOf (below F) F) (suOf (below F) F) (npOf (below F) F) 0 0 rdy Q ++ E = HR P (keysOf (below F) F) (suOf (below F) F) (npOf (below F) F) 0 0 rdy (Q ++ E) := hs_app
  have L2 : ∀ a, (HR P (keysOf (below F) F) (suOf (below F) F) (npOf (below F) F) 0 0 rdy T ++ [O.list a]).length = rO + 1 := fun a => by rw [List.length_append, L1]; rfl
  have L3 : ∀ a b, (HR P (keysOf (below F) F) (suOf (below F) F) (npOf (below F) F) 0 0 rdy T ++ [O.list a] ++ [O.dict b]).length = rO + 1 + 1 := fun a b => by rw [List.length_append, L2]; rfl
  have e3 : eList aNil [some (.ref f), some (.ref (H.length + F.length)), some (.ref (P.length + 1)), none, none, none, none] (HR P (keysOf (below F) F) (suOf (below F) F) (npOf (below F) F) 0 0 rdy T) = some (.ref rO, [some (.ref f), some (.ref (H.length + F.length)), some (.ref (P.length + 1)), none, none, none, none], HR P (keysOf (below F) F) (suOf (below F) F) (npOf (below F) F) 0 0 rdy T ++ [O.list []]) := (ev_list rfl rfl).trans (by rw [L1])
  have e5 : eDict1 (eInt 0) (eList (aCons (eTup aNil) aNil)) [some (.ref f), some (.ref (H.length + F.length)), some (.ref (P.length + 1)), some (.ref rO), none, none, none] (HR P (keysOf (below F) F) (suOf (below F) F) (npOf (below F) F) 0 0 rdy T ++ [O.list []]) =
      some (.ref (rO + 1), [some (.ref f), some (.ref (H.length + F.length)), some (.ref (P.length + 1)), some (.ref rO), none, none, none], HR P (keysOf (below F) F) (suOf (below F) F) (npOf (below F) F) 0 0 rdy (T ++ .list [] :: .dict [(0, .ref (rO + 1 + 1 + 0))] :: [.list [.tup []]])) := by
    refine (ev_dict1 rfl (ev_list (ev_a1 (ev_tup rfl rfl)) rfl) (osi (kvs := []) ?_ (Nat.zero_le _))).trans ?_
    · rw [List.append_assoc _ [_] [_]]; exact at_mid rfl
    · rw [L2, L3, List.append_assoc _ [_] [_]]
      refine congrArg (fun z => some (V.ref (rO + 1), _, z)) ((set_mid (L2 [])).trans ?_)
      rw [m1, m1]; exact congrArg _ (by simp [kvPut])
  have w0 : WR (XR P (keysOf (below F) F) (suOf (below F) F) (npOf (below F) F) 0 0 rdy T []) F (0 :: ([] : List Int).filter fun m => m != 0) (fun _ => [[]]) [(0, .ref (rO + 1 + 1 + 0))] [.list [.tup []]] :=
    ⟨rfl, fun k hk => by
      rw [List.mem_singleton.mp hk, xr_len, ← hrO]; exact ⟨0, rfl, rfl⟩, fun k hk => by rw [List.mem_singleton.mp hk, spec_zero h0]⟩
  refine exE10 (run_rounds (f := f) C 1000 0 [] (npOf (below F) F) 0 rdy [] [(0, .ref (rO + 1 + 1 + 0))] [.list [.tup []]] (fun _ => [[]]) none none (fun m hm => by have := rk_le (F := F) 16 m; show rk F 16 m + 1 < _; (first | lia | omega)) (by decide) (by decide) List.nodup_nil lv w0 ⟨rfl, fun j hj => absurd hj (Nat.not_lt_zero _)⟩ (fun j hj => absurd hj (Nat.not_lt_zero _))) fun k D np' po' rs ws G W y5 y6 h4 => andE6 h4 fun r1 r2 r3 r4 r5 r6 => ?_
  rw [← hrO] at r1 r5
  have hX : (XR P (keysOf (below F) F) (suOf (below F) F) np' po' po' [] T rs).length = rO + 1 := by rw [xr_len, ← hrO]
  refine named (HR P (keysOf (below F) F) (suOf (below F) F) np' po' po' [] (T ++ .list rs :: .dict ws :: G)) fun H6 hH6 => ?_
  rw [← hH6] at r1
  have hxe : H6 = XR P (keysOf (below F) F) (suOf (below F) F) np' po' po' [] T rs ++ .dict ws :: G := hH6.trans xr_eq
  have hGi : ∀ {i : Nat}, H6[rO + 1 + 1 + i]? = G[i]? := fun {i} => by
    rw [hxe, List.getElem?_append_right (by (first | lia | omega)), hX, show rO + 1 + 1 + i - (rO + 1) = i + 1 by (first | lia | omega)]; rfl
  refine named (0 :: D.filter fun m => m != 0) fun ks hks => ?_
  rw [← hks] at r4
  have kk : ∀ x, x ∈ ks ↔ x ∈ F := fun x => by
    have hlast := LV.last r3 hF
    rw [hks, List.mem_cons, List.mem_filter]
    constructor
    · rintro (rfl | q)
      · exact h0
      · exact ((r3.dn x).mp q.1).1
    · intro q
      by_cases z : x = 0
      · exact .inl z
      · exact .inr ⟨(r3.dn x).mpr ⟨q, hlast x q⟩, by simpa using z⟩
  have kn : ks.Nodup := hks ▸ List.nodup_cons.mpr ⟨fun q => absurd (List.mem_filter.mp q).2 (by decide), List.Pairwise.filter _ r2⟩
  have klen : ks.length = F.length := Nat.le_antisymm (nodup_len kn fun x hx => (kk x).mp hx) (nodup_len nd fun x hx => (kk x).mpr hx)
  have rt := run_told (H := H6) (F := F) (wd := rO + 1) (ws := ws) (G := W) (x0 := some (.ref f)) (x1 := some (.ref (H.length + F.length))) (x2 := some (.ref (P.length + 1))) (x3 := some (.ref rO)) (x5 := y5) (x6 := y6) (by rw [hxe]; exact at_mid hX) r4.kys kn (by (first | lia | omega)) h0 fun m hm => by
    refine exE1 (r4.val m hm) fun i h5 => andE2 h5 fun q1 q2 => ?_
    exact ⟨hF m ((kk m).mp hm), r4.ok m hm, _, by (first | lia | omega), q1, by rw [hX]; exact hGi.trans q2⟩
  have l6 : ∀ {i : Nat} {o : O} {R : List O}, H6[i]? = some o → (H6 ++ ks.map (fun k => O.list ((spec F k).map wV)) ++ R)[i]? = some o := fun h => by
    rw [List.append_assoc, List.getElem?_append_left (List.getElem?_eq_some_iff.mp h).1]; exact h
  have lm : (H6 ++ ks.map fun k => O.list ((spec F k).map wV)).length = H6.length + ks.length := by rw [List.length_append, List.length_map]
  refine exI2 _ _ ⟨ev_fop rfl rfl (ev_cons (ev_assign (hP ▸ run_below hf nd hl) rfl) (ev_cons (ev_assign (ev_fun (ev_a1 rfl) ri) rfl) (ev_cons (ev_expr (ev_own rfl ki rfl rp)) (ev_cons (ev_assign e3 rfl) (ev_cons (ev_assign e5 rfl) (ev_cons r1 (ev_ret (ev_list (ev_acons rfl (ev_a1 rt)) rfl)))))))), ⟨rO, H6.length + ks.length, k, rs, ks.map fun m => (m, V.ref (H6.length + ks.idxOf m)), at_mid rfl, ⟨?_, r5.len, fun j hj => ?_, LV.last r3 hF, r6⟩, ?_, ?_, fun p hp => ?_⟩, fun i hi => ?_⟩
  · rw [List.append_assoc]; exact l6 (by rw [hH6, hrO]; exact hr_rs)
  · refine exE1 (r5.val j hj) fun i h6 => andE2 h6 fun q1 q2 => ?_
    exact ⟨_, q1, by rw [List.append_assoc]; exact l6 (hGi.trans q2)⟩
  · rw [List.append_assoc]; exact at_mid lm
  · rw [List.length_map, klen]
  · obtain ⟨m, hm, rfl⟩ := List.mem_map.mp hp
    exact ⟨(kk m).mp hm, _, rfl, by rw [List.append_assoc]; exact at_map hm⟩
  · have hi2 : i < P.length := by (first | lia | omega)
    have hi6 : i < H6.length := by rw [hH6]; unfold HR; rw [hs_len]; (first | lia | omega)
    rw [List.append_assoc, List.append_assoc, List.getElem?_append_left hi6, hH6, ← hlow hi]; exact hs_lo hi2
end Mine
end
section
set_option tactic.hygienic false
open PySem PySem.W PyProof.Rows PySem.Calls PySem.SeqAt Builtin
namespace Mine
noncomputable def addw (F : List Int) (S : Int → List (List Int)) (w : List Int) : Int → List (List Int) :=
  if okFrom F 0 w = true then (if w ∈ S (maskFrom 0 w) then S else upd S (maskFrom 0 w) (S (maskFrom 0 w) ++ [w])) else S
noncomputable def keepW (F : List Int) (m : Int) (w : List Int) : Bool := maskFrom 0 w == m && okFrom F 0 w
theorem addw_all {F : List Int} : ∀ (l acc : List (List Int)) (S : Int → List (List Int)), (∀ m, S m = acc.filter (keepW F m)) → ∀ m, (l.foldl (addw F) S) m = (l.foldl ins acc).filter (keepW F m)
  | [], acc, S, h, m => h m
  | w :: l, acc, S, h, m => by
    refine addw_all l (ins acc w) (addw F S w) (fun k => ?_) m
    have hk : keepW F (maskFrom 0 w) w = okFrom F 0 w := by unfold keepW; rw [beq_self_eq_true, Bool.true_and]
    unfold addw ins
    by_cases ho : okFrom F 0 w = true
    · rw [if_pos ho]
      have hm : w ∈ S (maskFrom 0 w) ↔ w ∈ acc := by rw [h, List.mem_filter, hk]; exact ⟨fun q => q.1, fun q => ⟨q, ho⟩⟩
      by_cases hw : w ∈ acc
      · rw [if_pos (hm.mpr hw), if_pos hw, h]
      · rw [if_neg (fun q => hw (hm.mp q)), if_neg hw, List.filter_append]
        by_cases e : k = maskFrom 0 w
        · subst e
          rw [upd_self, h, List.filter_cons_of_pos (hk.trans ho), List.filter_nil]
        · rw [upd_ne _ _ e, h, List.filter_cons_of_neg (p := keepW F k) (by unfold keepW; rw [beq_eq_false_iff_ne.mpr (Ne.symm e)]; nofun), List.filter_nil, List.append_nil]
    · rw [if_neg ho, h]
      by_cases hw : w ∈ acc
      · rw [if_pos hw]
      · rw [if_neg hw, List.filter_append, List.filter_cons_of_neg (p := keepW F k) (by unfold keepW; rw [eq_false_of_ne_true ho, Bool.and_false]; nofun), List.filter_nil, List.append_nil]
theorem veq_words {H : AHeap} {a b : List Int} : veq 6 H (wV a) (wV b) = some (a == b) := by
  have h : ∀ a b : List Int, veqL (veq 5 H) (a.map .int) (b.map .int) = some ((a.zip b).all fun p => p.1 == p.2) := by
    intro a
    induction a with
    | nil => intro b; cases b <;> rfl
    | cons x a ih =>
      intro b
      cases b with
      | nil => rfl
      | cons y b =>
        show ((some (x == y)).bind fun p => (veqL (veq 5 H) (a.map .int) (b.map .int)).bind fun q => some (p && q)) = _
        rw [ih]; rfl
  have h2 : ∀ a b : List Int, (((a.zip b).all fun p => p.1 == p.2) && a.length == b.length) = (a == b) := by
    intro a
    induction a with
    | nil => intro b; cases b <;> rfl
    | cons x a ih =>
      intro b
      cases b with
      | nil => rfl
      | cons y b =>
        show (((x == y) && (a.zip b).all fun p => p.1 == p.2) && (a.length + 1 == b.length + 1)) = ((x == y) && (a == b))
        rw [← ih, Bool.and_assoc]
        congr 2
        rw [Bool.eq_iff_iff, beq_iff_eq, beq_iff_eq]; (first | lia | omega)
  show (veqL (veq 5 H) (a.map .int) (b.map .int)).bind (fun x => some (x && (a.map V.int).length == (b.map V.int).length)) = _
  rw [h, Option.bind_some, List.length_map, List.length_map, h2]
theorem anyEq_words {H : AHeap} {w : List Int} : ∀ {ws : List (List Int)}, anyEq H (wV w) (ws.map wV) = some (decide (w ∈ ws))
  | [] => rfl
  | a :: r => by
    show (veq 6 H (wV a) (wV w)).bind (fun p => (anyEq H (wV w) (r.map wV)).bind fun q => some (p || q)) = _
    rw [veq_words, Option.bind_some, anyEq_words, Option.bind_some]
    refine congrArg some ?_
    rw [Bool.eq_iff_iff, Bool.or_eq_true, beq_iff_eq, decide_eq_true_eq, decide_eq_true_eq, List.mem_cons]
    exact or_congr_left eq_comm
noncomputable def spH (H : AHeap) (F : List Int) (S : Int → List (List Int)) : AHeap := H ++ F.map (fun m => .list ((S m).map wV)) ++ [.dict (F.map fun m => (m, .ref (H.length + F.idxOf m)))]
section
variable {H : AHeap} {F : List Int} {S : Int → List (List Int)} {m : Int}
theorem sp_list (hm : m ∈ F) : (spH H F S)[H.length + F.idxOf m]? = some (.list ((S m).map wV)) := at_map hm
theorem sp_dict : (spH H F S)[H.length + F.length]? = some (.dict (F.map fun m => (m, .ref (H.length + F.idxOf m)))) := at_mid (by rw [List.length_append, List.length_map])
theorem sp_lo {i : Nat} (h : i < H.length) : (spH H F S)[i]? = H[i]? := by unfold spH; rw [List.append_assoc, List.getElem?_append_left h]
theorem sp_set {l : List (List Int)} (nd : F.Nodup) (hm : m ∈ F) : (spH H F S).set (H.length + F.idxOf m) (.list (l.map wV)) = spH H F (upd S m l) := by
  have hl := List.idxOf_lt_length_of_mem hm
  unfold spH
  rw [List.append_assoc, List.append_assoc, List.set_append_right _ _ (Nat.le_add_right _ _), Nat.add_sub_cancel_left, List.set_append_left _ _ (by rw [List.length_map]; exact hl)]
  refine congrArg (H ++ ·) (congrArg (· ++ _) ?_)
  refine exE2 (nodup_split hm nd) fun s t h0 => andE3 h0 fun e h1 h2 => ?_
  have hi : F.idxOf m = s.length := by rw [e, List.idxOf_append, if_neg h1, List.idxOf_cons_self, Nat.zero_add]
  rw [hi, e, List.map_append, List.map_append, List.map_cons, List.map_cons, upd_self, set_mid (by rw [List.length_map])]
  have c : ∀ {r : List Int}, m ∉ r → r.map (fun k => O.list ((S k).map wV)) = r.map fun k => O.list ((upd S m l k).map wV) := fun h => List.map_congr_left fun k hk => by rw [upd_ne S l fun q : k = m => h (q ▸ hk)]
  rw [c h1, c h2]
theorem sp_find (hm : m ∈ F) : kvFind (F.map fun m => (m, V.ref (H.length + F.idxOf m))) m = some (.ref (H.length + F.idxOf m)) := kvFind_map hm
theorem sp_in : cNotIn (.int m) (.ref (H.length + F.length)) (spH H F S) = some (!decide (m ∈ F)) := by
  show (vIn _ _ _).map _ = _
  unfold vIn; simp only [sp_dict, Option.map_some, O.thaw, kvFind_keys, List.map_map]
  rw [show ((fun p : Int × V => p.1) ∘ fun m => (m, V.ref (H.length + F.idxOf m))) = fun m => m from rfl, List.map_id']
end
section
variable {H : AHeap} {F o : List Int} {S : Int → List (List Int)} {M x : Int} {k f : Nat} {y2 y3 y4 y7 : Option V}
theorem run_beg (nd : F.Nodup) (hS : ∀ m, (S m).length ≤ 1000) (hk : k < 4) (hx : o[k]? = some x) (hx3 : 0 ≤ x ∧ x ≤ 3) (ho : o.length = 4) (hM : maskFrom 0 (o.take k) = M) (hok : okFrom F 0 (o.take k) = true) :
    fb_law_spelled_1 [some (.ref f), some (.ref (H.length + F.length)), y2, y3, y4, some (.tup (o.map .int)), some (.int M), some (.int k)] (spH H F S) = some (if okFrom F 0 (o.take (k + 1)) = true then .next else .brk, [some (.ref f), some (.ref (H.length + F.length)), y2, y3, y4, some (.tup (o.map .int)), some (.int (maskFrom 0 (o.take (k + 1)))), some (.int k)], spH H F (addw F S (o.take (k + 1)))) := by
  have ht : o.take (k + 1) = o.take k ++ [x] := by rw [List.take_add_one, hx]; rfl
  have hm : maskFrom 0 (o.take (k + 1)) = M + 2 ^ x.toNat := by rw [ht, ← hM]; unfold maskFrom; rw [List.foldl_append]; rfl
  have hkk : okFrom F 0 (o.take (k + 1)) = decide (M + 2 ^ x.toNat ∈ F) := by rw [ht, okFrom_snoc, hok, Bool.true_and, ← ht, hm]
  have i1 : oItem (.tup (o.map .int)) (.int k) (spH H F S) = some (.int x, spH H F S) := by
    show (if (0 : Int) ≤ (k : Int) ∧ (k : Int) < 100000 then ((o.map V.int)[(k : Int).toNat]?).map (fun x => (x, spH H F S)) else none) = _
    rw [if_pos ⟨Int.natCast_nonneg _, by (first | lia | omega)⟩]
    rw [Int.toNat_natCast, List.getElem?_map, hx]; rfl
  have p1 : oPow (.int 2) (.int x) (spH H F S) = some (.int (2 ^ x.toNat), spH H F S) := by
    show (if 0 ≤ x ∧ x ≤ 1000 ∧ (2 : Int).natAbs < 2 ^ 64 then some ((2 : Int) ^ x.toNat) else none).map (fun c => (V.int c, spH H F S)) = _
    rw [if_pos ⟨hx3.1, by (first | lia | omega), by decide⟩]; rfl
  have t1 : ((k : Int) + 1).toNat = k + 1 := by (first | lia | omega)
  have t2 : eTakeT (eVar 5) (eBin (eVar 7) (eInt 1) oAddT) [some (.ref f), some (.ref (H.length + F.length)), y2, y3, y4, some (.tup (o.map .int)), some (.int (M + 2 ^ x.toNat)), some (.int k)] (spH H F S) = some (wV (o.take (k + 1)), [some (.ref f), some (.ref (H.length + F.length)), y2, y3, y4, some (.tup (o.map .int)), some (.int (M + 2 ^ x.toNat)), some (.int k)], spH H F S) :=
    (ev_takeT rfl (ev_bin rfl rfl rfl) (by rw [decide_eq_true (by (first | lia | omega) : (0 : Int) ≤ (k : Int) + 1), Bool.true_and, List.length_map, ho]; rfl)).trans (by rw [t1, ← List.map_take]; rfl)
  rw [hm]
  unfold addw
  by_cases hF : M + 2 ^ x.toNat ∈ F
  · rw [hkk, decide_eq_true hF, if_pos rfl, if_pos rfl, hm]
    have c1 : cNotIn (wV (o.take (k + 1))) (.ref (H.length + F.idxOf (M + 2 ^ x.toNat))) (spH H F S) = some (!decide (o.take (k + 1) ∈ S (M + 2 ^ x.toNat))) := by
      show (vIn _ _ _).map _ = _
      unfold vIn; simp only [sp_list hF, Option.map_some, O.thaw, anyEq_words]
    refine ev_cons (ev_assign (ev_bin rfl (ev_bin rfl (ev_sub rfl rfl i1) p1) rfl) rfl) (ev_cons (ev_if_f (ev_tcmp rfl rfl (sp_in.trans (by rw [decide_eq_true hF]; rfl))) rfl) (ev_cons (ev_if (ev_tcmp t2 (ev_sub rfl rfl (oi (congrArg (Option.map O.thaw) sp_dict) (sp_find hF))) c1) (r := some (Flw.next, [some (.ref f), some (.ref (H.length + F.length)), y2, y3, y4, some (.tup (o.map .int)), some (.int (M + 2 ^ x.toNat)), some (.int k)], spH H F (if o.take (k + 1) ∈ S (M + 2 ^ x.toNat) then S else upd S (M + 2 ^ x.toNat) (S (M + 2 ^ x.toNat) ++ [o.take (k + 1)])))) ?_) rfl))
    by_cases hw : o.take (k + 1) ∈ S (M + 2 ^ x.toNat)
    · rw [decide_eq_true hw, if_pos hw]; rfl
    · rw [decide_eq_false hw, if_neg hw]
      exact ev_cons (ev_expr (ev_meth (ev_sub rfl rfl (oi (congrArg (Option.map O.thaw) sp_dict) (sp_find hF))) (kl (congrArg (Option.map O.thaw) (sp_list hF))) (ev_a1 t2) ((oap (sp_list hF) (by rw [List.length_map]; have := hS (M + 2 ^ x.toNat); (first | lia | omega))).trans (congrArg some (congrArg (Prod.mk _) (by rw [← sp_set nd hF, List.map_append]; rfl)))))) rfl
  · rw [hkk, decide_eq_false hF, if_neg nofun, if_neg nofun]
    exact ev_cons (ev_assign (ev_bin rfl (ev_bin rfl (ev_sub rfl rfl i1) p1) rfl) rfl) (ev_cons_brk (ev_if_t (ev_tcmp rfl rfl (sp_in.trans (by rw [decide_eq_false hF]; rfl))) (ev_cons_brk rfl)))
end
end Mine
end
section
set_option tactic.hygienic false
open PySem PySem.W PyProof.Rows PySem.Calls PySem.SeqAt Builtin
namespace Mine
noncomputable def Bd (B : Nat) (S : Int → List (List Int)) : Prop := ∀ m, (S m).length ≤ B
noncomputable def begF (o : List Int) : Nat → Nat → List (List Int)
  | _, 0 => []
  | k, n + 1 => o.take (k + 1) :: begF o (k + 1) n
section
variable {F : List Int}
theorem Bd.add {S : Int → List (List Int)} {B : Nat} {w : List Int} (h : Bd B S) : Bd (B + 1) (addw F S w) := fun m => by
  have := h m
  unfold addw
  split
  · split
    · (first | lia | omega)
    · unfold upd; split
      · rename_i q; rw [List.length_append, ← q]; exact Nat.succ_le_succ this
      · (first | lia | omega)
  · (first | lia | omega)
theorem Bd.adds : ∀ {l : List (List Int)} {S : Int → List (List Int)} {B : Nat}, Bd B S → Bd (B + l.length) (l.foldl (addw F) S)
  | [], _, _, h => h
  | w :: l, S, B, h => by
    have := Bd.adds (l := l) (h.add (F := F) (w := w))
    rw [List.length_cons, Nat.add_comm l.length 1, ← Nat.add_assoc]; exact this
theorem ok_take {u v : List Int} : ∀ {a : Int}, okFrom F a (u ++ v) = true → okFrom F a u = true := by
  induction u with
  | nil =>
    intro a h
    cases v with
    | nil => exact h
    | cons x v => exact ((Bool.and_eq_true _ _).mp h).1
  | cons x u ih => intro a h; have := (Bool.and_eq_true _ _).mp h; exact (Bool.and_eq_true _ _).mpr ⟨this.1, ih this.2⟩
theorem skip {o : List Int} {k : Nat} {S : Int → List (List Int)} (h : ¬ okFrom F 0 (o.take k) = true) : ∀ (n k' : Nat), k ≤ k' + 1 → (begF o k' n).foldl (addw F) S = S
  | 0, _, _ => rfl
  | n + 1, k', hk => by
    have : ¬ okFrom F 0 (o.take (k' + 1)) = true := fun q => h (by
      have e : o.take (k' + 1) = o.take k ++ (o.take (k' + 1)).drop k := by
        rw [show o.take k = (o.take (k' + 1)).take k by rw [List.take_take, Nat.min_eq_left hk], List.take_append_drop]
      rw [e] at q; exact ok_take q)
    show (begF o (k' + 1) n).foldl (addw F) (addw F S (o.take (k' + 1))) = S
    rw [show addw F S (o.take (k' + 1)) = S from if_neg this]
    exact skip h n (k' + 1) (by (first | lia | omega))
end
theorem forL_next {j : Nat} {b : PM Flw} {X : V} {l : List V} {e e1 : AEnv} {H H1 : AHeap} {r : Option (Flw × AEnv × AHeap)} (hj : Nat.blt j e.length = true) (h : b (e.set j (some X)) H = some (.next, e1, H1)) (h2 : mForL j b l e1 H1 = r) : mForL j b (X :: l) e H = r := by
  unfold mForL mStore; rw [if_pos (lt_of_blt hj), Option.bind_some]; simp only [h, Option.bind_some]; exact h2
theorem forL_brk {j : Nat} {b : PM Flw} {X : V} {l : List V} {e e1 : AEnv} {H H1 : AHeap} (hj : Nat.blt j e.length = true) (h : b (e.set j (some X)) H = some (.brk, e1, H1)) : mForL j b (X :: l) e H = some (.next, e1, H1) := by
  unfold mForL mStore; rw [if_pos (lt_of_blt hj), Option.bind_some]; simp only [h, Option.bind_some]
section
variable {H : AHeap} {F o : List Int} {f : Nat} {y2 y3 y4 : Option V}
theorem run_row (nd : F.Nodup) (ho : o.length = 4) (ho3 : ∀ x ∈ o, 0 ≤ x ∧ x ≤ 3) : ∀ (n k : Nat) (S : Int → List (List Int)) (y7 : Option V), k + n = 4 → Bd (1000 - n) S → okFrom F 0 (o.take k) = true →
    ∃ z6 z7, mForL 7 fb_law_spelled_1 (rngL 0 1 k n) [some (.ref f), some (.ref (H.length + F.length)), y2, y3, y4, some (.tup (o.map .int)), some (.int (maskFrom 0 (o.take k))), y7] (spH H F S) = some (.next, [some (.ref f), some (.ref (H.length + F.length)), y2, y3, y4, some (.tup (o.map .int)), z6, z7], spH H F ((begF o k n).foldl (addw F) S))
  | 0, k, S, y7, _, _, _ => ⟨_, _, rfl⟩
  | n + 1, k, S, y7, hk, hB, hok => by
    have hkl : k < o.length := by (first | lia | omega)
    have hx := List.getElem?_eq_getElem hkl
    have r := run_beg (H := H) (f := f) (y2 := y2) (y3 := y3) (y4 := y4) nd (fun m => Nat.le_trans (hB m) (by (first | lia | omega))) (by (first | lia | omega)) hx (ho3 _ (List.getElem_mem hkl)) ho rfl hok
    have e0 : (0 : Int) + (k : Int) * 1 = k := by (first | lia | omega)
    show ∃ z6 z7, mForL 7 fb_law_spelled_1 (.int (0 + (k : Int) * 1) :: rngL 0 1 (k + 1) n) _ _ = some (Flw.next, _, spH H F ((begF o (k + 1) n).foldl (addw F) (addw F S (o.take (k + 1)))))
    rw [e0]
    by_cases h : okFrom F 0 (o.take (k + 1)) = true
    · rw [if_pos h] at r
      refine exE2 (run_row nd ho ho3 n (k + 1) (addw F S (o.take (k + 1))) (some (.int k)) (by (first | lia | omega)) (fun m => Nat.le_trans (hB.add m) (by (first | lia | omega))) h) fun z6 z7 q => ?_
      exact exI2 z6 z7 (forL_next rfl r q)
    · rw [if_neg h] at r
      rw [skip h n (k + 1) (by (first | lia | omega))]
      exact exI2 _ _ (forL_brk rfl r)
noncomputable def stC (F : List Int) (a b : Int) (S : Int → List (List Int)) (c : Int) : Int → List (List Int) := if (a != b && (a != c && b != c)) = true then (begF [a, b, c, 6 - a - b - c] 0 4).foldl (addw F) S else S
noncomputable def stB (F : List Int) (a : Int) (S : Int → List (List Int)) (b : Int) : Int → List (List Int) := dg.foldl (stC F a b) S
noncomputable def stA (F : List Int) (S : Int → List (List Int)) (a : Int) : Int → List (List Int) := dg.foldl (stB F a) S
theorem dg_mem {x : Int} (h : x ∈ dg) : 0 ≤ x ∧ x ≤ 3 := by
  have : (dg.all fun x => decide (0 ≤ x ∧ x ≤ 3)) = true := by decide +kernel
  exact of_decide_eq_true (List.all_eq_true.mp this x h)
theorem rng4 {H : AHeap} : vItems (.rng 0 4 1) H = some (dg.map V.int, none) := rfl
theorem rng4' {H : AHeap} : vItems (.rng 0 4 1) H = some (rngL 0 1 0 4, none) := rfl
theorem Bd.stC {a b c : Int} {S : Int → List (List Int)} {B : Nat} (h : Bd B S) : Bd (B + 4) (stC F a b S c) := by
  unfold Mine.stC; split
  · exact h.adds
  · exact fun m => Nat.le_trans (h m) (by (first | lia | omega))
theorem Bd.fold {st : (Int → List (List Int)) → Int → Int → List (List Int)} {d : Nat} (hs : ∀ {S B x}, Bd B S → Bd (B + d) (st S x)) : ∀ {l : List Int} {S : Int → List (List Int)} {B : Nat}, Bd B S → Bd (B + d * l.length) (l.foldl st S)
  | [], _, _, h => h
  | x :: l, S, B, h => by
    have := Bd.fold (st := st) (d := d) (fun {S B x} h => hs (S := S) (B := B) (x := x) h) (l := l) (hs (x := x) h)
    rw [List.length_cons, Nat.mul_add, Nat.mul_one, Nat.add_comm (d * l.length), ← Nat.add_assoc]; exact this
theorem Bd.stB {a b : Int} {S : Int → List (List Int)} {B : Nat} (h : Bd B S) : Bd (B + 16) (stB F a S b) := Bd.fold (d := 4) (fun h => h.stC) (l := dg) h
theorem Bd.stA {a : Int} {S : Int → List (List Int)} {B : Nat} (h : Bd B S) : Bd (B + 64) (stA F S a) := Bd.fold (d := 16) (fun h => h.stB) (l := dg) h
theorem run_c {a b c : Int} {S : Int → List (List Int)} {y5 y6 y7 : Option V} (nd : F.Nodup) (h0 : (0 : Int) ∈ F) (hB : Bd 900 S) (ha : a ∈ dg) (hb : b ∈ dg) (hc : c ∈ dg) :
    ∃ z5 z6 z7, fb_law_spelled_2 [some (.ref f), some (.ref (H.length + F.length)), some (.int a), some (.int b), some (.int c), y5, y6, y7] (spH H F S) = some (.next, [some (.ref f), some (.ref (H.length + F.length)), some (.int a), some (.int b), some (.int c), z5, z6, z7], spH H F (stC F a b S c)) := by
  have ha := dg_mem ha
  have hb := dg_mem hb
  have hc := dg_mem hc
  have t : tAnd (tCmp (eVar 2) (eVar 3) cNe) (tAnd (tCmp (eVar 2) (eVar 4) cNe) (tAnd (tCmp (eVar 3) (eVar 4) cNe) tTrue)) [some (.ref f), some (.ref (H.length + F.length)), some (.int a), some (.int b), some (.int c), y5, y6, y7] (spH H F S) = some ((a != b && (a != c && b != c)), [some (.ref f), some (.ref (H.length + F.length)), some (.int a), some (.int b), some (.int c), y5, y6, y7], spH H F S) := by
    have t1 : ∀ {i j : Nat} {x y : Int} {e : AEnv} {H : AHeap}, e[i]? = some (some (.int x)) → e[j]? = some (some (.int y)) → tCmp (eVar i) (eVar j) cNe e H = some (x != y, e, H) := fun h1 h2 => ev_tcmp (by unfold eVar; rw [h1]) (by unfold eVar; rw [h2]) rfl
    by_cases q1 : (a != b) = true
    · by_cases q2 : (a != c) = true
      · by_cases q3 : (b != c) = true
        · rw [q1, q2, q3]; exact ev_tand (q1 ▸ t1 rfl rfl) (ev_tand (q2 ▸ t1 rfl rfl) (ev_tand (q3 ▸ t1 rfl rfl) rfl))
        · rw [q1, q2, eq_false_of_ne_true q3]; exact ev_tand (q1 ▸ t1 rfl rfl) (ev_tand (q2 ▸ t1 rfl rfl) (ev_tand_f (eq_false_of_ne_true q3 ▸ t1 rfl rfl)))
      · rw [q1, eq_false_of_ne_true q2]; exact ev_tand (q1 ▸ t1 rfl rfl) (ev_tand_f (eq_false_of_ne_true q2 ▸ t1 rfl rfl))
    · rw [eq_false_of_ne_true q1]; exact ev_tand_f (eq_false_of_ne_true q1 ▸ t1 rfl rfl)
  unfold stC
  by_cases q : (a != b && (a != c && b != c)) = true
  · rw [q] at t
    rw [if_pos q]
    have q' := q
    simp only [Bool.and_eq_true, bne_iff_ne] at q'
    refine exE2 (run_row (H := H) (f := f) (y2 := some (.int a)) (y3 := some (.int b)) (y4 := some (.int c)) (o := [a, b, c, 6 - a - b - c]) nd rfl (by
      intro x hx
      rcases List.mem_cons.mp hx with rfl | hx
      · exact ha
      rcases List.mem_cons.mp hx with rfl | hx
      · exact hb
      rcases List.mem_cons.mp hx with rfl | hx
      · exact hc
      · rw [List.mem_singleton.mp hx]; omega) 4 0 S y7 rfl (fun m => Nat.le_trans (hB m) (by decide)) (decide_eq_true h0)) fun z6 z7 r => ?_
    exact exI3 _ z6 z7 (ev_cons (ev_if_t t (ev_cons (ev_assign (ev_tup (ev_acons rfl (ev_acons rfl (ev_acons rfl (ev_a1 (ev_bin (ev_bin (ev_bin rfl rfl rfl) rfl rfl) rfl rfl))))) rfl) rfl) (ev_cons (ev_assign rfl rfl) (ev_cons (ev_for (ev_fun rfl rfl) rng4' r) rfl)))) rfl)
  · rw [eq_false_of_ne_true q] at t
    rw [if_neg q]
    exact exI3 y5 y6 y7 (ev_cons (ev_if_f t rfl) rfl)
end
end Mine
end
section
set_option tactic.hygienic false
open PySem PySem.W PyProof.Rows PySem.Calls PySem.SeqAt Builtin
namespace Mine
section
variable {H : AHeap} {F : List Int} {f : Nat}
theorem run_b {a b : Int} {S : Int → List (List Int)} {y4 y5 y6 y7 : Option V} (nd : F.Nodup) (h0 : (0 : Int) ∈ F) (hB : Bd 850 S) (ha : a ∈ dg) (hb : b ∈ dg) :
    ∃ z4 z5 z6 z7, fb_law_spelled_3 [some (.ref f), some (.ref (H.length + F.length)), some (.int a), some (.int b), y4, y5, y6, y7] (spH H F S) = some (.next, [some (.ref f), some (.ref (H.length + F.length)), some (.int a), some (.int b), z4, z5, z6, z7], spH H F (stB F a S b)) := by
  refine (forL_inv V.int 4 fb_law_spelled_2 (fun pre e Hx => (∃ z4 z5 z6 z7, e = [some (.ref f), some (.ref (H.length + F.length)), some (.int a), some (.int b), z4, z5, z6, z7]) ∧ Hx = spH H F (pre.foldl (stC F a b) S)) (all := dg) dg [] _ _ ⟨⟨y4, y5, y6, y7, rfl⟩, rfl⟩ (fun pre c post e Hx hp hI => ?_) rfl).elim fun e' q => q.elim fun H' rr => ?_
  · obtain ⟨⟨z4, z5, z6, z7, rfl⟩, rfl⟩ := hI
    have hl := len_pre hp
    have hB' := Bd.fold (st := stC F a b) (d := 4) (fun {S B x} h => h.stC) (l := pre) hB
    refine exE3 (run_c (H := H) (f := f) (y5 := z5) (y6 := z6) (y7 := z7) nd h0 (fun m => Nat.le_trans (hB' m) (by have : pre.length < 4 := hl; (first | lia | omega))) ha hb (mem_of_pre hp)) fun w5 w6 w7 r => ?_
    exact ⟨lt_of_blt rfl, .next, _, _, r, .inl rfl, ⟨_, _, _, _, rfl⟩, by rw [List.foldl_append]; rfl⟩
  · obtain ⟨r1, ⟨z4, z5, z6, z7, rfl⟩, rfl⟩ := rr
    exact exI4 z4 z5 z6 z7 (ev_cons (ev_for (ev_fun rfl rfl) rng4 r1) rfl)
theorem run_a {a : Int} {S : Int → List (List Int)} {y3 y4 y5 y6 y7 : Option V} (nd : F.Nodup) (h0 : (0 : Int) ∈ F) (hB : Bd 700 S) (ha : a ∈ dg) :
    ∃ z3 z4 z5 z6 z7, fb_law_spelled_4 [some (.ref f), some (.ref (H.length + F.length)), some (.int a), y3, y4, y5, y6, y7] (spH H F S) = some (.next, [some (.ref f), some (.ref (H.length + F.length)), some (.int a), z3, z4, z5, z6, z7], spH H F (stA F S a)) := by
  refine (forL_inv V.int 3 fb_law_spelled_3 (fun pre e Hx => (∃ z3 z4 z5 z6 z7, e = [some (.ref f), some (.ref (H.length + F.length)), some (.int a), z3, z4, z5, z6, z7]) ∧ Hx = spH H F (pre.foldl (stB F a) S)) (all := dg) dg [] _ _ ⟨⟨y3, y4, y5, y6, y7, rfl⟩, rfl⟩ (fun pre b post e Hx hp hI => ?_) rfl).elim fun e' q => q.elim fun H' rr => ?_
  · obtain ⟨⟨z3, z4, z5, z6, z7, rfl⟩, rfl⟩ := hI
    have hl := len_pre hp
    have hB' := Bd.fold (st := stB F a) (d := 16) (fun {S B x} h => h.stB) (l := pre) hB
    refine exE4 (run_b (H := H) (f := f) (y4 := z4) (y5 := z5) (y6 := z6) (y7 := z7) nd h0 (fun m => Nat.le_trans (hB' m) (by have : pre.length < 4 := hl; (first | lia | omega))) ha (mem_of_pre hp)) fun w4 w5 w6 w7 r => ?_
    exact ⟨lt_of_blt rfl, .next, _, _, r, .inl rfl, ⟨_, _, _, _, _, rfl⟩, by rw [List.foldl_append]; rfl⟩
  · obtain ⟨r1, ⟨z3, z4, z5, z6, z7, rfl⟩, rfl⟩ := rr
    exact exI5 z3 z4 z5 z6 z7 (ev_cons (ev_for (ev_fun rfl rfl) rng4 r1) rfl)
theorem loops_eq {S : Int → List (List Int)} : dg.foldl (stA F) S = (ords.flatMap begs).foldl (addw F) S := by kernel_rfl
theorem run_empty {x1 x2 x3 x4 x5 x6 x7 : Option V} (hf : H[f]? = some (.list (F.map .int))) (nd : F.Nodup) (hF : F.length ≤ 16) :
    eDComp (eVar 0) ["mask"] [] tYes (eVar 0) ce_law_spelled_1 [some (.ref f), x1, x2, x3, x4, x5, x6, x7] H = some (.ref (H.length + F.length), [some (.ref f), x1, x2, x3, x4, x5, x6, x7], spH H F fun _ => []) := by
  have hlt := (List.getElem?_eq_some_iff.mp hf).1
  have hL : ∀ o, (H.set f o).length = H.length := fun o => List.length_set
  obtain ⟨kvs', e', H', r1, ⟨y0, rfl⟩, rfl, rfl⟩ := compD_inv (all := F) (gv := ce_law_spelled_1) (fun pre kvs e Hx => (∃ y0, e = [y0]) ∧ kvs = pre.map (fun m => (m, .ref (H.length + F.idxOf m))) ∧ Hx = H.set f (.frz (.list (F.map .int))) ++ pre.map fun _ => .list []) F [] [] [none] (H.set f (.frz (.list (F.map .int)))) ⟨⟨_, rfl⟩, rfl, (List.append_nil _).symm⟩ (fun pre x post kvs e Hx hp hI => by
    obtain ⟨⟨y0, rfl⟩, rfl, hH⟩ := hI
    have hxl : Hx.length = H.length + F.idxOf x := by rw [hH, List.length_append, hL, List.length_map, idx_pre hp nd]
    refine ⟨lt_of_blt rfl, _, _, _, ev_list rfl rfl, ⟨_, rfl⟩, ?_, ?_⟩
    · rw [kvPut_new (kv_none (not_pre hp nd)), List.map_append, hxl]; rfl
    · rw [hH, List.map_append, List.append_assoc]; rfl) rfl
  refine (ev_dcomp (fz := some f) rfl (Ys := F.map .int) ?_ (by rw [List.length_map]; (first | lia | omega)) ((congrArg (mCompD _ _ _ _ _ _) (frz_lo hf)).trans r1)).trans ?_
  · unfold vItems; simp only [hf, Option.map_some, O.thaw]
  · rw [unfrz_of hf, List.set_append_left _ _ (hL _ ▸ hlt), set_back hf, List.length_append, List.length_map]; rfl
theorem run_spelled (hf : H[f]? = some (.list (F.map .int))) (nd : F.Nodup) (hl : F.length ≤ 16) (h0 : (0 : Int) ∈ F) :
    op_law_spelled [.ref f] H = some (.ref (H.length + F.length), spH H F (spec F)) := by
  have hS : ∀ m, (dg.foldl (stA F) (upd (fun _ => []) 0 [[]])) m = spec F m := fun m => by
    rw [loops_eq]
    refine addw_all (ords.flatMap begs) [[]] _ (fun k => ?_) m
    by_cases q : k = 0
    · subst q
      rw [upd_self, List.filter_cons_of_pos (p := keepW F 0) (by show (true && decide ((0 : Int) ∈ F)) = true; rw [decide_eq_true h0]; rfl)]; rfl
    · rw [upd_ne _ _ q, List.filter_cons_of_neg (p := keepW F k) (by show ¬ ((0 == k) && _) = true; rw [beq_eq_false_iff_ne.mpr (Ne.symm q)]; nofun)]; rfl
  refine (forL_inv V.int 2 fb_law_spelled_4 (fun pre e Hx => (∃ z2 z3 z4 z5 z6 z7, e = [some (.ref f), some (.ref (H.length + F.length)), z2, z3, z4, z5, z6, z7]) ∧ Hx = spH H F (pre.foldl (stA F) (upd (fun _ => []) 0 [[]]))) (all := dg) dg [] _ _ ⟨⟨none, none, none, none, none, none, rfl⟩, rfl⟩ (fun pre a post e Hx hp hI => ?_) rfl).elim fun e' q => q.elim fun H' rr => ?_
  · obtain ⟨⟨z2, z3, z4, z5, z6, z7, rfl⟩, rfl⟩ := hI
    have hl := len_pre hp
    have hB' := Bd.fold (st := stA F) (d := 64) (fun {S B x} h => h.stA) (l := pre) (S := upd (fun _ => []) 0 [[]]) (B := 1) fun m => by unfold upd; split; exact Nat.le_refl 1; exact Nat.zero_le 1
    refine exE5 (run_a (H := H) (f := f) (y3 := z3) (y4 := z4) (y5 := z5) (y6 := z6) (y7 := z7) nd h0 (fun m => Nat.le_trans (hB' m) (by have : pre.length < 4 := hl; (first | lia | omega))) (mem_of_pre hp)) fun w3 w4 w5 w6 w7 r => ?_
    exact ⟨lt_of_blt rfl, .next, _, _, r, .inl rfl, ⟨_, _, _, _, _, _, rfl⟩, by rw [List.foldl_append]; rfl⟩
  · obtain ⟨r1, ⟨z2, z3, z4, z5, z6, z7, rfl⟩, rfl⟩ := rr
    rw [← funext hS]
    exact ev_fop rfl rfl (ev_cons (ev_assign (run_empty hf nd hl) rfl) (ev_cons (ev_expr (ev_meth (ev_sub rfl rfl (oi (congrArg (Option.map O.thaw) sp_dict) (sp_find h0))) (kl (congrArg (Option.map O.thaw) (sp_list h0))) (ev_a1 (ev_tup rfl rfl)) ((oap (sp_list h0) (Nat.zero_le _)).trans (congrArg some (congrArg (Prod.mk _) (sp_set (l := [[]]) nd h0)))))) (ev_cons (ev_for (ev_fun rfl rfl) rng4 r1) (ev_ret rfl))))
end
end Mine
end
section
set_option tactic.hygienic false
open PySem PySem.W PyProof.Rows PySem.Calls PySem.SeqAt Builtin
namespace Mine
theorem compL_grow {α : Type} {all : List α} {g : PM V} (v : α → V) (I : List α → List V → AEnv → AHeap → Prop) : ∀ (post pre : List α) (us : List V) (e : AEnv) (H : AHeap), I pre us e H →
    (∀ pre x post us e H, pre ++ x :: post = all → I pre us e H → 0 < e.length ∧ ∃ y e1 H1, g (e.set 0 (some (v x))) H = some (y, e1, H1) ∧ I (pre ++ [x]) (us ++ [y]) e1 H1) → pre ++ post = all →
    ∃ zs e' H', mCompL tYes g (post.map v) e H = some (zs, e', H') ∧ I all (us ++ zs) e' H'
  | [], pre, us, e, H, h0, st, ha => ⟨[], e, H, rfl, by rw [List.append_nil] at ha ⊢; rw [← ha]; exact h0⟩
  | x :: post, pre, us, e, H, h0, st, ha => by
    obtain ⟨hj, y, e1, H1, q1, q2⟩ := st pre x post us e H ha h0
    refine exE3 (compL_grow v I post (pre ++ [x]) (us ++ [y]) e1 H1 q2 st (by rw [List.append_assoc]; exact ha)) fun zs e' H' h1 => andE2 h1 fun r1 r2 => ?_
    refine exI3 (y :: zs) e' H' ⟨?_, by rw [List.append_assoc] at r2; exact r2⟩
    show (mStore 0 (v x) e H).bind _ = _
    rw [show mStore 0 (v x) e H = some ((), e.set 0 (some (v x)), H) from if_pos hj, Option.bind_some]
    show (g (e.set 0 (some (v x))) H).bind _ = _
    rw [q1, Option.bind_some]
    show (mCompL tYes g (post.map v) e1 H1).bind _ = _
    rw [r1]; rfl
theorem mx_congr {l l' : List Nat} (h : ∀ y, y ∈ l ↔ y ∈ l') : mx l = mx l' := by
  have a : ∀ {l l' : List Nat}, (∀ y, y ∈ l → y ∈ l') → mx l ≤ mx l' := fun {l l'} h => by
    rcases mx_in (l := l) with q | q
    · rw [q]; exact Nat.zero_le _
    · exact mx_le (h _ q)
  exact Nat.le_antisymm (a fun y hy => (h y).mp hy) (a fun y hy => (h y).mpr hy)
theorem best_mx : ∀ (l : List Nat) (a : Nat), (l.map fun n : Nat => (n : Int)).foldl (fun m x => if (decide (m < x)) = true then x else m) (a : Int) = ((max a (mx l) : Nat) : Int)
  | [], a => by rw [show mx [] = 0 from rfl, Nat.max_eq_left (Nat.zero_le a)]; rfl
  | n :: l, a => by
    show (l.map fun n : Nat => (n : Int)).foldl _ (if (decide ((a : Int) < n)) = true then (n : Int) else a) = _
    have e : (if (decide ((a : Int) < n)) = true then (n : Int) else a) = ((max a n : Nat) : Int) := by
      by_cases h : (a : Int) < n
      · rw [decide_eq_true h, if_pos rfl, Nat.max_eq_right (by (first | lia | omega))]
      · rw [decide_eq_false h, if_neg nofun, Nat.max_eq_left (by (first | lia | omega))]
    rw [e, best_mx l, Nat.max_assoc]; rfl
noncomputable def lowerOf (m : Int) : List Int := ([1, 2, 4, 8].filter fun one => (m.fdiv one).fmod 2 == 1).map fun one => m - one
theorem lower_all : ((List.range 16).all fun m => (List.range 16).all fun x => decide ((x : Int) ∈ lowerOf m) == isLow m x) = true := by decide +kernel
theorem lower_iff {m x : Int} (hm : 0 ≤ m ∧ m < 16) (hx : 0 ≤ x ∧ x < 16) : x ∈ lowerOf m ↔ isLow m x = true := by
  have q := List.all_eq_true.mp (List.all_eq_true.mp lower_all m.toNat (List.mem_range.mpr (by (first | lia | omega)))) x.toNat (List.mem_range.mpr (by (first | lia | omega)))
  rw [Int.toNat_of_nonneg hm.1, Int.toNat_of_nonneg hx.1, beq_iff_eq] at q
  rw [← q, decide_eq_true_eq]
theorem rng_all : ((List.range 20).all fun n => Builtin.Range.small 0 n 1 && (Builtin.Range.rangeSize 0 n 1).toNat == n) = true := by decide +kernel
theorem rngL_eq : ∀ (n i : Nat), rngL 0 1 i n = (List.range' i n).map fun j : Nat => V.int j
  | 0, _ => rfl
  | n + 1, i => by
    show V.int (0 + (i : Int) * 1) :: rngL 0 1 (i + 1) n = V.int i :: (List.range' (i + 1) n).map fun j : Nat => V.int j
    rw [rngL_eq, show (0 : Int) + (i : Int) * 1 = i by (first | lia | omega)]
theorem rng_items {n : Nat} {H : AHeap} (h : n < 20) : vItems (.rng 0 n 1) H = some ((List.range n).map fun j : Nat => V.int j, none) := by
  have q := List.all_eq_true.mp rng_all n (List.mem_range.mpr h)
  rw [Bool.and_eq_true, beq_iff_eq] at q
  show (if Builtin.Range.small 0 n 1 then some (rngL 0 1 0 (Builtin.Range.rangeSize 0 n 1).toNat, (none : Option Nat)) else none) = _
  rw [if_pos q.1, q.2, rngL_eq, List.range_eq_range']
theorem addL {H : AHeap} {i j : Nat} {a b : List V} (h1 : (H[i]?).map O.thaw = some (.list a)) (h2 : (H[j]?).map O.thaw = some (.list b)) (hl : a.length + b.length ≤ 100000) : oAddT (.ref i) (.ref j) H = some (.ref H.length, H ++ [.list (a ++ b)]) := by
  refine (show oAddT (.ref i) (.ref j) H = oAdd (.ref i) (.ref j) H from rfl).trans ?_
  unfold oAdd; simp only [h1, h2, hl, if_true]
theorem bestL {H : AHeap} {lt : Int → Int → Bool} {X : V} {l : List Int} {fz : Option Nat} {m : Int} (h1 : vItems X H = some (l.map V.int, fz)) (h2 : best lt l = some m) : oBest lt [X] H = some (.int m, H) := by
  show (vItems X H).bind _ = _
  rw [h1, Option.bind_some]
  show (asInts (l.map V.int)).bind _ = _
  rw [asInts_map, Option.bind_some, h2]; rfl
theorem viL {H : AHeap} {i : Nat} {vs : List V} (h : (H[i]?).map O.thaw = some (.list vs)) : vItems (.ref i) H = some (vs, some i) := by unfold vItems; simp only [h]
section
variable {H : AHeap} {F : List Int} {f sd : Nat}
noncomputable def rkv (F pre : List Int) : List (Int × V) := pre.map fun m => (m, .int (rkF F m))
theorem run_step {pre post : List Int} {m : Int} {y3 : Option V} (hF : ∀ x ∈ F, 0 ≤ x ∧ x < 16) (nd : F.Nodup) (hp : pre ++ m :: post = sortI F) (hs : H[sd]? = some (.dict (rkv F pre))) (hl : F.length ≤ 16) :
    ∃ H' z3, fb_law_rounds_1 [some (.ref f), some (.ref sd), some (.int m), y3] H = some (.next, [some (.ref f), some (.ref sd), some (.int m), z3], H') ∧ H'[sd]? = some (.dict (rkv F (pre ++ [m]))) ∧ ∀ (i : Nat) (o : O), H[i]? = some o → i ≠ sd → H'[i]? = some o := by
  have hmF : m ∈ F := (sortI_perm F).mem_iff.mp (mem_of_pre hp)
  have hsl := (List.getElem?_eq_some_iff.mp hs).1
  have up : ∀ {E : List O} {i : Nat} {o : O}, H[i]? = some o → (H ++ E)[i]? = some o := fun h => (List.getElem?_append_left (List.getElem?_eq_some_iff.mp h).1).trans h
  have hpl : pre.length ≤ 16 := by
    have := len_pre hp; have := (sortI_perm F).length_eq; (first | lia | omega)
  obtain ⟨y', c1⟩ := compL_pure (t := ct_law_rounds_1) (g := ce_law_rounds_1) (rest := [some (.int m)]) (H := H ++ [.frz (.list ([1, 2, 4, 8].map V.int))]) V.int (fun one => V.int (m - one)) (fun one => (m.fdiv one).fmod 2 == 1) [1, 2, 4, 8] none fun one ho => ⟨by
    refine ev_tcmp (ev_bin (ev_bin rfl rfl (?_ : oDiv _ _ _ = some (.int (m.fdiv one), _))) rfl rfl) rfl rfl
    rcases List.mem_cons.mp ho with rfl | ho
    · rfl
    rcases List.mem_cons.mp ho with rfl | ho
    · rfl
    rcases List.mem_cons.mp ho with rfl | ho
    · rfl
    · rw [List.mem_singleton.mp ho]; rfl, fun _ => ev_bin rfl rfl rfl⟩
  have e1 : eComp (eList (aCons (eInt 1) (aCons (eInt 2) (aCons (eInt 4) (aCons (eInt 8) aNil))))) ["one"] [("mask", 2)] ct_law_rounds_1 ce_law_rounds_1 [some (.ref f), some (.ref sd), some (.int m), y3] H = some (.ref (H.length + 1), [some (.ref f), some (.ref sd), some (.int m), y3], H ++ [.list ([1, 2, 4, 8].map V.int), .list ((lowerOf m).map V.int)]) := by
    have a1 : (H ++ [O.list ([1, 2, 4, 8].map V.int)])[H.length]? = some (.list ([1, 2, 4, 8].map V.int)) := at_mid rfl
    refine (ev_comp (fz := some H.length) (Ys := [1, 2, 4, 8].map V.int) (ev_list (ev_acons rfl (ev_acons rfl (ev_acons rfl (ev_a1 rfl)))) rfl) ?_ (by decide) ((congrArg (mCompL _ _ _ _) ((frz_lo a1).trans (set_mid rfl))).trans c1)).trans ?_
    · unfold vItems; simp only [show (H ++ [O.list [V.int 1, V.int 2, V.int 4, V.int 8]])[H.length]? = some (.list [V.int 1, V.int 2, V.int 4, V.int 8]) from a1, Option.map_some, O.thaw]; rfl
    · refine (congrArg (fun z : AHeap => some (V.ref z.length, _, z ++ [O.list (([1, 2, 4, 8].filter fun one => (m.fdiv one).fmod 2 == 1).map fun one => V.int (m - one))])) ((unfrz_of a1).trans (set_mid rfl))).trans ?_
      unfold lowerOf
      rw [List.length_append, List.append_assoc, List.map_map]; rfl
  have hll : (lowerOf m).length ≤ 4 := by unfold lowerOf; rw [List.length_map]; exact List.length_filter_le _ _
  refine named ((lowerOf m).filter fun x => decide (x ∈ pre)) fun L hL => ?_
  have hLl : L.length ≤ 4 := by rw [hL]; exact Nat.le_trans (List.length_filter_le _ _) hll
  have hLm : ∀ x, x ∈ L ↔ x ∈ below F m := fun x => by
    rw [hL, List.mem_filter, decide_eq_true_eq, below_mem]
    have hpF : ∀ {y}, y ∈ pre → y ∈ F := fun hy => (sortI_perm F).mem_iff.mp (hp ▸ List.mem_append_left _ hy)
    constructor
    · rintro ⟨a, b⟩
      exact ⟨hpF b, (lower_iff (hF m hmF) (hF x (hpF b))).mp a⟩
    · rintro ⟨a, b⟩
      refine ⟨(lower_iff (hF m hmF) (hF x a)).mpr b, ?_⟩
      have hx := (sortI_perm F).mem_iff.mpr a
      have lt := below_lt (below_mem.mpr ⟨a, b⟩)
      have sr := sortI_rises F
      rw [← hp] at hx sr
      refine (List.mem_append.mp hx).resolve_right fun q => ?_
      rcases List.mem_cons.mp q with rfl | q
      · exact Int.lt_irrefl _ lt
      · exact absurd ((List.pairwise_cons.mp (List.pairwise_append.mp sr).2.1).1 x q) (Int.not_le.mpr lt)
  have hbest : best (fun a b => decide (b < a)) (0 :: L.map fun l => (rkF F l : Int) + 1) = some (rkF F m : Int) := by
    have e : (L.map fun l => (rkF F l : Int) + 1) = (L.map fun l => rkF F l + 1).map fun n : Nat => (n : Int) := by rw [List.map_map]; rfl
    show some ((L.map fun l => (rkF F l : Int) + 1).foldl (fun m x => if (decide (m < x)) = true then x else m) ((0 : Nat) : Int)) = _
    rw [e, best_mx, Nat.max_eq_right (Nat.zero_le _), rkF_eq hF hmF, mx_congr (l' := (below F m).map fun l => rkF F l + 1) fun y => by
      rw [List.mem_map, List.mem_map]; exact exists_congr fun x => and_congr_left fun _ => hLm x]
  obtain ⟨y2, c2⟩ := compL_pure (t := ct_law_rounds_2) (g := ce_law_rounds_2) (rest := [some (.ref sd)]) (H := H ++ [.list ([1, 2, 4, 8].map V.int), .frz (.list ((lowerOf m).map V.int)), .list [.int 0]]) V.int (fun x => V.int ((rkF F x : Int) + 1)) (fun x => decide (x ∈ pre)) (lowerOf m) none fun x hx => ⟨ev_tcmp rfl rfl (by
      show vIn _ _ _ = _
      unfold vIn; simp only [up hs, Option.map_some, O.thaw, kvFind_keys]
      unfold rkv; rw [List.map_map, show ((fun p : Int × V => p.1) ∘ fun m => (m, V.int (rkF F m))) = fun m => m from rfl, List.map_id']), fun hb =>
      ev_bin (ev_sub rfl rfl (oi (congrArg (Option.map O.thaw) (up hs)) (kvFind_map (of_decide_eq_true hb)))) rfl rfl⟩
  rw [← hL] at c2
  have l3 : (H ++ [O.list ([1, 2, 4, 8].map V.int), .list ((lowerOf m).map V.int)]).length = H.length + 2 := by simp
  have l4 : (H ++ [O.list ([1, 2, 4, 8].map V.int), .list ((lowerOf m).map V.int), .list [.int 0]]).length = H.length + 3 := by simp
  have e2 : eList (aCons (eInt 0) aNil) [some (.ref f), some (.ref sd), some (.int m), some (.ref (H.length + 1))] (H ++ [.list ([1, 2, 4, 8].map V.int), .list ((lowerOf m).map V.int)]) = some (.ref (H.length + 2), [some (.ref f), some (.ref sd), some (.int m), some (.ref (H.length + 1))], H ++ [.list ([1, 2, 4, 8].map V.int), .list ((lowerOf m).map V.int), .list [.int 0]]) :=
    (ev_list (ev_a1 rfl) rfl).trans (by rw [l3, List.append_assoc]; rfl)
  have a3 : (H ++ [O.list ([1, 2, 4, 8].map V.int), .list ((lowerOf m).map V.int), .list [.int 0]])[H.length + 1]? = some (.list ((lowerOf m).map V.int)) := by simp
  have s3 : ∀ o, (H ++ [O.list ([1, 2, 4, 8].map V.int), .list ((lowerOf m).map V.int), .list [.int 0]]).set (H.length + 1) o = H ++ [O.list ([1, 2, 4, 8].map V.int), o, .list [.int 0]] := fun o => by simp
  have e3 : eComp (eVar 3) ["low"] [("steps", 1)] ct_law_rounds_2 ce_law_rounds_2 [some (.ref f), some (.ref sd), some (.int m), some (.ref (H.length + 1))] (H ++ [.list ([1, 2, 4, 8].map V.int), .list ((lowerOf m).map V.int), .list [.int 0]]) = some (.ref (H.length + 3), [some (.ref f), some (.ref sd), some (.int m), some (.ref (H.length + 1))], H ++ [.list ([1, 2, 4, 8].map V.int), .list ((lowerOf m).map V.int), .list [.int 0], .list (L.map fun x => V.int ((rkF F x : Int) + 1))]) := by
    refine (ev_comp (fz := some (H.length + 1)) (Ys := (lowerOf m).map V.int) rfl ?_ (by rw [List.length_map]; (first | lia | omega)) ((congrArg (mCompL _ _ _ _) ((frz_lo a3).trans (s3 _))).trans c2)).trans ?_
    · exact viL (by rw [a3]; rfl)
    · refine (congrArg (fun z : AHeap => some (V.ref z.length, _, z ++ [O.list (L.map fun x => V.int ((rkF F x : Int) + 1))])) ((unfrz_of a3).trans ?_)).trans (by rw [l4, List.append_assoc]; rfl)
      rw [← s3, set_back a3]
  have e4 : ∀ {H' : AHeap}, H' = H ++ [.list ([1, 2, 4, 8].map V.int), .list ((lowerOf m).map V.int), .list [.int 0], .list (L.map fun x => V.int ((rkF F x : Int) + 1))] → oAddT (.ref (H.length + 2)) (.ref (H.length + 3)) H' = some (.ref H'.length, H' ++ [.list ([.int 0] ++ L.map fun x => V.int ((rkF F x : Int) + 1))]) := fun h =>
    addL (by rw [h]; simp [O.thaw]) (by rw [h]; simp [O.thaw]) (by rw [List.length_map]; show 1 + L.length ≤ _; (first | lia | omega))
  have e5 : ∀ {H' : AHeap}, oBest (fun a b => decide (b < a)) [.ref H'.length] (H' ++ [.list ([.int 0] ++ L.map fun x => V.int ((rkF F x : Int) + 1))]) = some (.int (rkF F m), _) := fun {H'} =>
    bestL (l := 0 :: L.map fun l => (rkF F l : Int) + 1) ((viL (by rw [at_mid rfl]; rfl)).trans (by rw [List.map_cons, List.map_map]; rfl)) hbest
  have up2 : ∀ {E E' : List O} {i : Nat} {o : O}, H[i]? = some o → (H ++ E ++ E')[i]? = some o := fun h => by rw [List.append_assoc]; exact up h
  refine exI2 _ _ ⟨ev_cons (ev_assign e1 rfl) (ev_cons (ev_setitem (ev_fun (ev_a1 (ev_bin e2 e3 (e4 rfl))) e5) rfl rfl (osi (up2 hs) (by unfold rkv; rw [List.length_map]; (first | lia | omega)))) rfl), ?_, fun i o ho hi => by rw [List.getElem?_set_ne (Ne.symm hi)]; exact up2 ho⟩
  rw [List.getElem?_set_self (by rw [List.append_assoc, List.length_append]; (first | lia | omega))]
  unfold rkv
  rw [kvPut_new (kv_none (not_pre hp ((sortI_perm F).nodup_iff.mpr nd))), List.map_append]; rfl
end
end Mine
end
section
set_option tactic.hygienic false
open PySem PySem.W PyProof.Rows PySem.Calls PySem.SeqAt Builtin
namespace Mine
section
variable {H : AHeap} {F : List Int} {f sd : Nat}
theorem run_lev {j : Nat} (hl : F.length ≤ 16) (hf : H[f]? = some (.list (F.map .int))) (hs : H[sd]? = some (.dict (rkv F (sortI F)))) :
    ce_law_rounds_4 [some (.int j), some (.ref f), some (.ref sd)] H = some (.ref (H.length + 1), [some (.int j), some (.ref f), some (.ref sd)], H ++ [.list ((sortI F).map .int)] ++ [.list ((lev F j).map .int)]) := by
  have a1 : (H ++ [O.list ((sortI F).map V.int)])[H.length]? = some (.list ((sortI F).map V.int)) := at_mid rfl
  have up : ∀ {E : List O} {i : Nat} {o : O}, H[i]? = some o → (H ++ E)[i]? = some o := fun h => (List.getElem?_append_left (List.getElem?_eq_some_iff.mp h).1).trans h
  obtain ⟨y', c⟩ := compL_pure (t := ct_law_rounds_3) (g := ce_law_rounds_3) (rest := [some (.int j), some (.ref sd)]) (H := H ++ [.frz (.list ((sortI F).map V.int))]) V.int V.int (fun m => rkF F m == j) (sortI F) none fun m hm => ⟨(ev_tcmp (ev_sub rfl rfl (oi (congrArg (Option.map O.thaw) (up hs)) (kvFind_map hm))) rfl rfl).trans (by
      rw [show ((rkF F m : Int) == (j : Int)) = (rkF F m == j) by rw [Bool.eq_iff_iff, beq_iff_eq, beq_iff_eq]; (first | lia | omega)]), fun _ => rfl⟩
  refine (ev_comp (fz := some H.length) (Ys := (sortI F).map V.int) (ev_fun (ev_a1 rfl) (sort2_list (by rw [hf]; rfl) (by (first | lia | omega)))) (viL (by rw [a1]; rfl)) (by rw [List.length_map, (sortI_perm F).length_eq]; (first | lia | omega)) ((congrArg (mCompL _ _ _ _) ((frz_lo a1).trans (set_mid rfl))).trans c)).trans ?_
  refine (congrArg (fun z : AHeap => some (V.ref z.length, _, z ++ [O.list (((sortI F).filter fun m => rkF F m == j).map V.int)])) ((unfrz_of a1).trans (set_mid rfl))).trans ?_
  rw [List.length_append]; rfl
noncomputable def top (F : List Int) : Nat := mx (F.map (rkF F)) + 1
theorem top_eq {k : Nat} (h0 : (0 : Int) ∈ F) (h1 : ∀ m ∈ F, rkF F m < k) (h2 : ∀ j, j < k → lev F j ≠ []) : k = top F := by
  have hk := h1 0 h0
  obtain ⟨m, hm⟩ := List.exists_mem_of_ne_nil _ (h2 (k - 1) (by (first | lia | omega)))
  have hm := List.mem_filter.mp hm
  have e : rkF F m = k - 1 := beq_iff_eq.mp hm.2
  have a := mx_le (List.mem_map_of_mem (f := rkF F) ((sortI_perm F).mem_iff.mp hm.1))
  unfold top
  rcases mx_in (l := F.map (rkF F)) with q | q
  · (first | lia | omega)
  · obtain ⟨x, hx, ex⟩ := List.mem_map.mp q
    have := h1 x hx
    (first | lia | omega)
theorem top_le : top F < 20 := by
  unfold top
  rcases mx_in (l := F.map (rkF F)) with q | q
  · (first | lia | omega)
  · obtain ⟨x, hx, ex⟩ := List.mem_map.mp q
    have : rk F 16 x ≤ 16 := rk_le 16 x
    have : rkF F x ≤ 16 := this
    (first | lia | omega)
theorem run_lrounds (hf : H[f]? = some (.list (F.map .int))) (hF : ∀ x ∈ F, 0 ≤ x ∧ x < 16) (nd : F.Nodup) (hl : F.length ≤ 16) (h0 : (0 : Int) ∈ F) :
    ∃ (R : Nat) (H' : AHeap) (us : List V), op_law_rounds [.ref f] H = some (.ref R, H') ∧ H'[R]? = some (.list us) ∧ us.length = top F ∧ (∀ j, j < top F → ∃ i, us[j]? = some (.ref i) ∧ H'[i]? = some (.list ((lev F j).map .int))) ∧ ∀ (i : Nat) (o : O), H[i]? = some o → H'[i]? = some o := by
  have up : ∀ {E : List O} {i : Nat} {o : O}, H[i]? = some o → (H ++ E)[i]? = some o := fun h => (List.getElem?_append_left (List.getElem?_eq_some_iff.mp h).1).trans h
  have hsl := (sortI_perm F).length_eq
  have so := sort2_list (g := F) (H := H ++ [O.dict []]) (i := f) (by rw [up hf]; rfl) (by (first | lia | omega))
  have l1 : (H ++ [O.dict []]).length = H.length + 1 := by simp
  rw [l1] at so
  have a1 : (H ++ [O.dict []] ++ [O.list ((sortI F).map V.int)])[H.length + 1]? = some (.list ((sortI F).map V.int)) := at_mid l1
  refine (forL_inv V.int 2 fb_law_rounds_1 (fun pre e Hx => (∃ z2 z3, e = [some (.ref f), some (.ref H.length), z2, z3]) ∧ Hx[H.length]? = some (.dict (rkv F pre)) ∧ ∀ (i : Nat) (o : O), H[i]? = some o → Hx[i]? = some o) (all := sortI F) (sortI F) [] _ (H ++ [O.dict []] ++ [.frz (.list ((sortI F).map V.int))]) ⟨⟨none, none, rfl⟩, by rw [List.append_assoc]; exact at_mid rfl, fun i o h => by rw [List.append_assoc]; exact up h⟩ (fun pre m post e Hx hp hI => ?_) rfl).elim fun e' q => q.elim fun H2 rr => ?_
  · refine andE3 hI fun h4_0 i1 i2 => ?_
    obtain ⟨z2, z3, rfl⟩ := h4_0
    refine exE2 (run_step (f := f) (y3 := z3) hF nd hp i1 hl) fun H' w3 h5 => andE3 h5 fun r1 r2 r3 => ?_
    exact ⟨lt_of_blt rfl, .next, _, _, r1, .inl rfl, ⟨_, _, rfl⟩, r2, fun i o h => r3 i o (i2 i o h) (Nat.ne_of_lt (List.getElem?_eq_some_iff.mp h).1)⟩
  · refine andE4 rr fun r1 h6_1 i1 i2 => ?_
    obtain ⟨z2, z3, rfl⟩ := h6_1
    rw [← set_mid (y := .frz (.list ((sortI F).map V.int))) (x := .list ((sortI F).map V.int)) (R := []) l1, ← frz_lo a1] at r1
    refine named (unfrz (some (H.length + 1)) (H ++ [O.dict []] ++ [O.list ((sortI F).map V.int)]) H2) fun H3 hH3 => ?_
    have e3 : H3 = H2.set (H.length + 1) (.list ((sortI F).map V.int)) := hH3.trans (unfrz_of a1)
    have b1 : H3[H.length]? = some (.dict (rkv F (sortI F))) := by rw [e3, List.getElem?_set_ne (by (first | lia | omega))]; exact i1
    have b2 : ∀ (i : Nat) (o : O), H[i]? = some o → H3[i]? = some o := fun i o h => by
      have := (List.getElem?_eq_some_iff.mp h).1
      rw [e3, List.getElem?_set_ne (by (first | lia | omega))]; exact i2 i o h
    have bm : oBest (fun a b => decide (b < a)) [.view false H.length] H3 = some (.int (mx (F.map (rkF F)) : Nat), H3) := by
      refine bestL (l := (sortI F).map fun m => (rkF F m : Int)) (fz := some H.length) ?_ ?_
      · unfold vItems; simp only [b1, Option.map_some, O.thaw]
        unfold rkv; rw [List.map_map, List.map_map]; rfl
      · have em : mx (F.map (rkF F)) = mx ((sortI F).map (rkF F)) := mx_congr fun y => by rw [((sortI_perm F).map (rkF F)).mem_iff]
        rw [em]
        cases h : sortI F with
        | nil => rw [h] at hsl; rw [List.eq_nil_of_length_eq_zero hsl.symm] at h0; exact nomatch h0
        | cons a r =>
          show some ((r.map fun m => (rkF F m : Int)).foldl (fun m x => if (decide (m < x)) = true then x else m) (rkF F a : Int)) = _
          rw [show (r.map fun m => (rkF F m : Int)) = (r.map (rkF F)).map fun n : Nat => (n : Int) by rw [List.map_map]; rfl, best_mx]; rfl
    have ov : oView false (.ref H.length) [] H3 = some (.view false H.length, H3) := by unfold oView; simp only [b1, Option.map_some, O.thaw]
    refine exE3 (compL_grow (all := List.range (top F)) (g := ce_law_rounds_4) (fun j : Nat => V.int j) (fun pre us e Hx => (∃ y0, e = [y0, some (.ref f), some (.ref H.length)]) ∧ us.length = pre.length ∧ (∀ j, j < pre.length → ∃ i, us[j]? = some (.ref i) ∧ Hx[i]? = some (.list ((lev F j).map .int))) ∧ ∀ (i : Nat) (o : O), H3[i]? = some o → Hx[i]? = some o) (List.range (top F)) [] [] [none, some (.ref f), some (.ref H.length)] H3 ⟨⟨_, rfl⟩, rfl, fun j hj => absurd hj (Nat.not_lt_zero _), fun _ _ h => h⟩ (fun pre x post us e Hx hp hI => by
      obtain ⟨⟨y0, rfl⟩, g1, g2, g3⟩ := hI
      have hx : x = pre.length := by
        have h1 : (List.range (top F))[pre.length]? = some x := by rw [← hp]; exact at_mid rfl
        exact (Option.some.inj ((List.getElem?_range (by have := len_pre hp; rwa [List.length_range] at this)).symm.trans h1)).symm
      have up3 : ∀ {a b : O} {i : Nat} {o : O}, Hx[i]? = some o → (Hx ++ [a] ++ [b])[i]? = some o := fun h => by rw [List.append_assoc]; exact (List.getElem?_append_left (List.getElem?_eq_some_iff.mp h).1).trans h
      refine ⟨lt_of_blt rfl, _, _, _, run_lev hl (g3 _ _ (b2 _ _ hf)) (g3 _ _ b1), ⟨_, rfl⟩, by rw [List.length_append, List.length_append, g1]; rfl, fun j hj => ?_, fun i o h => up3 (g3 i o h)⟩
      rw [List.length_append] at hj
      by_cases q : j < pre.length
      · obtain ⟨i, h1, h2⟩ := g2 j q
        exact ⟨i, (List.getElem?_append_left (by rw [g1]; exact q)).trans h1, up3 h2⟩
      · have e : j = pre.length := Nat.le_antisymm (Nat.le_of_lt_succ hj) (Nat.le_of_not_lt q)
        rw [e, ← g1]
        exact ⟨_, at_mid rfl, by rw [g1, ← hx]; exact at_mid (by simp)⟩) rfl) fun zs e'' H4 h7 => andE5 h7 fun c h7_1 g1 g2 g3 => ?_
    obtain ⟨y0, rfl⟩ := h7_1
    rw [List.nil_append] at g1 g2
    rw [List.length_range] at g1 g2
    have up4 : ∀ {i : Nat} {o o' : O}, H4[i]? = some o → (H4 ++ [o'])[i]? = some o := fun h => (List.getElem?_append_left (List.getElem?_eq_some_iff.mp h).1).trans h
    exact exI3 _ _ zs ⟨ev_fop rfl rfl (ev_cons (ev_assign rfl rfl) (ev_cons ((ev_for (ev_fun (ev_a1 rfl) so) (viL (by rw [a1]; rfl)) r1).trans (congrArg (fun z => some (Flw.next, _, z)) hH3.symm)) (ev_ret (ev_comp (fz := none) (ev_fun (ev_a1 (ev_bin (ev_fun (ev_a1 (ev_meth rfl (kd (by rw [b1]; rfl)) rfl ov)) bm) rfl rfl)) rfl) (rng_items (n := top F) top_le) (by rw [List.length_map, List.length_range]; have := top_le (F := F); (first | lia | omega)) c)))), at_mid rfl, g1, fun j hj => by
      obtain ⟨i, h1, h2⟩ := g2 j hj
      exact ⟨i, h1, up4 h2⟩, fun i o h => up4 (g3 i o (b2 i o h))⟩
end
end Mine
end
section
set_option tactic.hygienic false
open PySem PySem.W PyProof.Rows PySem.Calls PySem.SeqAt Builtin
namespace Mine
structure FO (F : List Int) : Prop where
  nd : F.Nodup
  rg : ∀ x ∈ F, 0 ≤ x ∧ x < 16
  z : (0 : Int) ∈ F
theorem FO.len {F : List Int} (h : FO F) : F.length ≤ 16 := by
  refine Nat.le_trans (nodup_len (F := (List.range 16).map fun n : Nat => (n : Int)) h.nd fun x hx => ?_) (by decide)
  have := h.rg x hx
  exact List.mem_map.mpr ⟨x.toNat, List.mem_range.mpr (by (first | lia | omega)), Int.toNat_of_nonneg this.1⟩
theorem anyEq_ints {H : AHeap} {k : Int} : ∀ {l : List Int}, anyEq H (.int k) (l.map .int) = some (decide (k ∈ l))
  | [] => rfl
  | a :: r => by
    show (some (a == k)).bind (fun p => (anyEq H (.int k) (r.map .int)).bind fun q => some (p || q)) = _
    rw [Option.bind_some, anyEq_ints, Option.bind_some]
    refine congrArg some ?_
    rw [Bool.eq_iff_iff, Bool.or_eq_true, beq_iff_eq, decide_eq_true_eq, decide_eq_true_eq, List.mem_cons]
    exact or_congr_left eq_comm
theorem era_map : ∀ {l : List Int} {i : Nat}, (l.map V.int).eraseIdx i = (l.eraseIdx i).map V.int
  | [], _ => rfl
  | _ :: _, 0 => rfl
  | _ :: l, i + 1 => congrArg (_ :: ·) (era_map (l := l) (i := i))
theorem run_turn {H : AHeap} {F : List Int} {x : Int} {nr fa : Nat} {y3 : Option V} (h : FO F) (hf : H[fa]? = some (.list (F.map .int))) :
    ∃ F' z3, fb_law_family_1 [some (.ref nr), some (.ref fa), some (.int x), y3] H = some (.next, [some (.ref nr), some (.ref fa), some (.int x), z3], H.set fa (.list (F'.map .int))) ∧ FO F' := by
  have hm : oMod (.int x) (.int 14) H = some (.int (x.fmod 14), H) := rfl
  have m0 := Int.fmod_nonneg_of_pos x (b := 14) (by decide)
  have m1 := Int.fmod_lt_of_pos x (b := 14) (by decide)
  have hl := h.len
  refine named (x.fmod 14 + 1) fun k hk => ?_
  have c1 : tCmp (eVar 3) (eVar 1) cIn [some (.ref nr), some (.ref fa), some (.int x), some (.int k)] H = some (decide (k ∈ F), [some (.ref nr), some (.ref fa), some (.int x), some (.int k)], H) := ev_tcmp rfl rfl (by
    show vIn _ _ _ = _
    unfold vIn; simp only [hf, Option.map_some, O.thaw, anyEq_ints])
  have e1 : mAssign 3 (eBin (eBin (eVar 2) (eInt 14) oMod) (eInt 1) oAddT) [some (.ref nr), some (.ref fa), some (.int x), y3] H = some (.next, [some (.ref nr), some (.ref fa), some (.int x), some (.int k)], H) := by rw [hk]; exact (ev_assign (ev_bin (ev_bin rfl rfl hm) rfl rfl) rfl).trans rfl
  by_cases hF : k ∈ F
  · rw [decide_eq_true hF] at c1
    have hd : delAt F k = F.idxOf k := rfl
    have hlt := List.idxOf_lt_length_of_mem hF
    have rm : oRemove (.ref fa) [.int k] H = some (.none, H.set fa (.list ((F.erase k).map .int))) := by
      unfold oRemove
      simp only [hf, asInts_map, List.length_map, hd]
      rw [if_pos ⟨by (first | lia | omega), hlt⟩, List.erase_eq_eraseIdx_of_idxOf rfl, era_map]
    refine exI2 (F.erase k) _ ⟨ev_cons e1 (ev_cons (ev_if_t c1 (ev_cons (ev_expr (ev_meth rfl (kl (by rw [hf]; rfl)) (ev_a1 rfl) rm)) rfl)) rfl), h.nd.erase k, fun y hy => h.rg y (List.mem_of_mem_erase hy), (List.mem_erase_of_ne (by (first | lia | omega))).mpr h.z⟩
  · rw [decide_eq_false hF] at c1
    refine exI2 (F ++ [k]) _ ⟨ev_cons e1 (ev_cons (ev_if_f c1 (ev_cons (ev_expr (ev_meth rfl (kl (by rw [hf]; rfl)) (ev_a1 rfl) ((oap hf (by rw [List.length_map]; (first | lia | omega))).trans (by rw [List.map_append]; rfl)))) rfl)) rfl), ?_, fun y hy => ?_, List.mem_append_left _ h.z⟩
    · exact List.nodup_append.mpr ⟨h.nd, List.nodup_cons.mpr ⟨nofun, List.nodup_nil⟩, fun a ha b hb q => hF (by rw [List.mem_singleton] at hb; rw [← hb, ← q]; exact ha)⟩
    · rcases List.mem_append.mp hy with q | q
      · exact h.rg y q
      · rw [List.mem_singleton.mp q]; (first | lia | omega)
noncomputable def F0 : List Int := [15, 14, 13, 12, 11, 10, 9, 8, 7, 6, 5, 4, 3, 2, 1, 0]
theorem F0_ok : FO F0 := ⟨by decide +kernel, by decide +kernel, by decide +kernel⟩
theorem run_family {H : AHeap} {ns : List Int} {nr : Nat} (hn : H[nr]? = some (.list (ns.map .int))) (hl : ns.length ≤ 100) : ∃ F fa H', op_law_family [.ref nr] H = some (.ref fa, H') ∧ H'[fa]? = some (.list (F.map .int)) ∧ FO F := by
  have up : ∀ {E : List O} {i : Nat} {o : O}, H[i]? = some o → (H ++ E)[i]? = some o := fun h => (List.getElem?_append_left (List.getElem?_eq_some_iff.mp h).1).trans h
  have l1 : (H ++ [O.list (F0.map V.int)]).length = H.length + 1 := by simp
  have l2 : (H ++ [O.list (F0.map V.int)] ++ [O.list [.int 2, .int 8]]).length = H.length + 2 := by simp
  have a2 : (H ++ [O.list (F0.map V.int)] ++ [O.list [.int 2, .int 8]])[H.length + 1]? = some (.list [.int 2, .int 8]) := at_mid l1
  have e2 : eBin (eList (aCons (eInt 2) (aCons (eInt 8) aNil))) (eVar 0) oAddT [some (.ref nr), some (.ref H.length), none, none] (H ++ [O.list (F0.map V.int)]) = some (.ref (H.length + 2), [some (.ref nr), some (.ref H.length), none, none], H ++ [O.list (F0.map V.int)] ++ [O.list [.int 2, .int 8]] ++ [.list ((2 :: 8 :: ns).map V.int)]) :=
    (ev_bin (ev_list (ev_acons rfl (ev_a1 rfl)) rfl) rfl (addL (by rw [l1, a2]; rfl) (by rw [List.append_assoc, up hn]; rfl) (by rw [List.length_map]; show 2 + ns.length ≤ _; (first | lia | omega)))).trans (by rw [l2]; rfl)
  have a3 : (H ++ [O.list (F0.map V.int)] ++ [O.list [.int 2, .int 8]] ++ [O.list ((2 :: 8 :: ns).map V.int)])[H.length + 2]? = some (.list ((2 :: 8 :: ns).map V.int)) := at_mid l2
  refine (forL_inv V.int 2 fb_law_family_1 (fun pre e Hx => (∃ z2 z3, e = [some (.ref nr), some (.ref H.length), z2, z3]) ∧ ∃ F, Hx[H.length]? = some (.list (F.map .int)) ∧ FO F) (all := 2 :: 8 :: ns) (2 :: 8 :: ns) [] _ (H ++ [O.list (F0.map V.int)] ++ [O.list [.int 2, .int 8]] ++ [.frz (.list ((2 :: 8 :: ns).map V.int))]) ⟨⟨none, none, rfl⟩, F0, by rw [List.append_assoc, List.append_assoc]; exact at_mid rfl, F0_ok⟩ (fun pre x post e Hx hp hI => ?_) rfl).elim fun e' q => q.elim fun H2 rr => ?_
  · obtain ⟨⟨z2, z3, rfl⟩, F, hf, hF⟩ := hI
    refine exE2 (run_turn (nr := nr) (x := x) (y3 := z3) hF hf) fun F' w3 h1 => andE2 h1 fun r1 r2 => ?_
    exact ⟨lt_of_blt rfl, .next, _, _, r1, .inl rfl, ⟨_, _, rfl⟩, F', List.getElem?_set_self (List.getElem?_eq_some_iff.mp hf).1, r2⟩
  · obtain ⟨r1, ⟨z2, z3, rfl⟩, F, hf, hF⟩ := rr
    rw [← set_mid (y := .frz (.list ((2 :: 8 :: ns).map V.int))) (x := .list ((2 :: 8 :: ns).map V.int)) (R := []) l2, ← frz_lo a3] at r1
    have or3 : oRange3 [.int 15, .int (-1), .int (-1)] H = some (.rng 15 (-1) (-1), H) := rfl
    have ol : oListF [.rng 15 (-1) (-1)] H = some (.ref H.length, H ++ [.list (F0.map V.int)]) := by
      have : (Builtin.Range.small 15 (-1) (-1) = true ∧ Builtin.Range.rangeSize 15 (-1) (-1) = ((Builtin.Range.rangeSize 15 (-1) (-1)).toNat : Int) ∧ (Builtin.Range.rangeSize 15 (-1) (-1)).toNat ≤ 5000) := by decide +kernel
      exact (if_pos (e := (none : Option (V × AHeap))) this).trans rfl
    refine exI3 F H.length _ ⟨ev_fop rfl rfl (ev_cons (ev_assign (ev_fun (ev_a1 (ev_fun (ev_acons rfl (ev_acons (ev_neg rfl) (ev_a1 (ev_neg rfl)))) or3)) ol) rfl) (ev_cons (ev_for e2 (viL (by rw [a3]; rfl)) r1) (ev_ret rfl))), ?_, hF⟩
    rw [unfrz_of a3, List.getElem?_set_ne (by (first | lia | omega))]; exact hf
theorem veqL_all {eq : V → V → Option Bool} : ∀ {as bs : List V}, (∀ (j : Nat) a b, as[j]? = some a → bs[j]? = some b → eq a b = some true) → veqL eq as bs = some true
  | [], _, _ => by cases ‹List V› <;> rfl
  | _ :: _, [], _ => rfl
  | a :: r, b :: q, h => by
    show (eq a b).bind (fun x => (veqL eq r q).bind fun y => some (x && y)) = _
    rw [h 0 a b rfl rfl, Option.bind_some, veqL_all fun j x y h1 h2 => h (j + 1) x y h1 h2]; rfl
theorem veqL_same {n : Nat} {H : AHeap} {α : Type} {v : α → V} (hv : ∀ a, veq n H (v a) (v a) = some true) {l : List α} : veqL (veq n H) (l.map v) (l.map v) = some true := veqL_all fun j a b h1 h2 => by
  rw [h1] at h2; cases h2
  rw [List.getElem?_map] at h1
  obtain ⟨x, _, rfl⟩ := Option.map_eq_some_iff.mp h1
  exact hv x
theorem veq_int {n : Nat} {H : AHeap} (a : Int) : veq (n + 1) H (.int a) (.int a) = some true := congrArg some (beq_self_eq_true a)
theorem veq_word {n : Nat} {H : AHeap} (w : List Int) : veq (n + 2) H (wV w) (wV w) = some true := by
  show (veqL (veq (n + 1) H) (w.map V.int) (w.map V.int)).bind (fun x => some (x && (w.map V.int).length == (w.map V.int).length)) = _
  rw [veqL_same fun a => veq_int a, Option.bind_some, beq_self_eq_true]; rfl
theorem veq_lists {n : Nat} {H : AHeap} {i j : Nat} {l : List V} (h1 : H[i]? = some (.list l)) (h2 : H[j]? = some (.list l)) (h : veqL (veq n H) l l = some true) : veq (n + 1) H (.ref i) (.ref j) = some true := by
  unfold veq
  by_cases q : i = j
  · simp only [q, if_true]
  · simp only [q, if_false, h1, h2, Option.map_some, O.thaw, if_true, h]
theorem run_heads {ns : List Int} (h : ns.length ≤ 100000) : eComp (eTake (eVar 0) (eInt 10)) ["x"] [] tYes ce_law_1 [some (.ext ns), none, none] [] = some (.ref 1, [some (.ext ns), none, none], [.list ((ns.take 10).map V.int), .list (((ns.take 10).map fun x => x.fmod 1000000).map V.int)]) := by
  have e0 : eTake (eVar 0) (eInt 10) [some (.ext ns), none, none] [] = some (.ref 0, [some (.ext ns), none, none], [.list ((ns.take 10).map V.int)]) := by
    show (if (0 : Int) ≤ 10 ∧ ns.length ≤ 100000 then some (V.ref 0, [O.list ((ns.take 10).map V.int)]) else none).bind (fun z => some (z.1, [some (V.ext ns), none, none], z.2)) = _
    rw [if_pos ⟨by decide, h⟩]; rfl
  obtain ⟨y', c⟩ := compL_pure (t := tYes) (g := ce_law_1) (rest := []) (H := [.frz (.list ((ns.take 10).map V.int))]) V.int (fun x => V.int (x.fmod 1000000)) (fun _ => true) (ns.take 10) none fun x _ => ⟨rfl, fun _ => ev_bin rfl rfl rfl⟩
  refine (ev_comp (fz := some 0) e0 (viL rfl) (by rw [List.length_map, List.length_take]; (first | lia | omega)) c).trans ?_
  rw [List.filter_eq_self.mpr fun _ _ => rfl, List.map_map]; rfl
theorem plain02 (ns : List Int) (hns : ns.length ≤ 63) : ∃ H', op_law [.ext ns] [] = some (.bool true, H') := by
  refine exE3 (run_family (H := [.list ((ns.take 10).map V.int), .list (((ns.take 10).map fun x => x.fmod 1000000).map V.int)]) (nr := 1) rfl (by rw [List.length_map, List.length_take]; (first | lia | omega))) fun F fa H0 h5 => andE3 h5 fun r0 f0 hF => ?_
  refine exE2 (run_worked_off f0 hF.nd hF.len hF.rg hF.z) fun R H1 h6 => andE3 h6 fun r1 h6_1 fr => ?_
  obtain ⟨rO, rD, k, rs, kvs, t1, ⟨t2, t3, t4, t5, t6⟩, t7, t8, t9⟩ := h6_1
  have lt : ∀ {H : AHeap} {i : Nat} {o : O}, H[i]? = some o → i < H.length := fun h => (List.getElem?_eq_some_iff.mp h).1
  have f1 : H1[fa]? = some (.list (F.map .int)) := (fr _ (lt f0)).trans f0
  have r2 := run_spelled f1 hF.nd hF.len hF.z
  have lo : ∀ {i : Nat} {o : O}, H1[i]? = some o → (spH H1 F (spec F))[i]? = some o := fun h => (sp_lo (lt h)).trans h
  refine exE3 (run_lrounds (lo f1) hF.rg hF.nd hF.len hF.z) fun R3 H3 us h7 => andE5 h7 fun r3 u1 u2 u3 u4 => ?_
  have hk : k = top F := top_eq hF.z t5 t6
  have q1 : cEq (.ref rD) (.ref (H1.length + F.length)) (spH H1 F (spec F)) = some true := by
    have d : ∀ l : List (Int × V), (∀ p ∈ l, p ∈ kvs) → deq (spH H1 F (spec F)) l (F.map fun m => (m, .ref (H1.length + F.idxOf m))) = some true := by
      intro l
      induction l with
      | nil => exact fun _ => rfl
      | cons p l ih =>
        intro h
        obtain ⟨p1, i, p2, p3⟩ := t9 p (h p List.mem_cons_self)
        unfold deq
        simp only [sp_find (H := H1) p1, p2, veq_lists (n := 5) (lo p3) (sp_list p1) (veqL_same fun w => veq_word w), Option.bind_some, ih fun x hx => h x (List.mem_cons_of_mem _ hx), Bool.and_self]
    unfold cEq
    simp only [lo t7, sp_dict, Option.map_some, O.thaw, List.length_map, t8, if_true]
    exact d kvs fun _ h => h
  have q2 : cEq (.ref rO) (.ref R3) H3 = some true := by
    unfold cEq
    simp only [u4 _ _ (lo t2), u1, Option.map_some, O.thaw, t3, u2, hk, if_true]
    refine veqL_all fun j a b ha hb => ?_
    have hj : j < top F := by have := (List.getElem?_eq_some_iff.mp hb).1; (first | lia | omega)
    refine exE1 (t4 j (hk ▸ hj)) fun i h9 => andE2 h9 fun v1 v2 => ?_
    refine exE1 (u3 j hj) fun i' h10 => andE2 h10 fun w1 w2 => ?_
    rw [v1] at ha; rw [w1] at hb
    cases ha; cases hb
    exact veq_lists (n := 5) (u4 _ _ (lo v2)) w2 (veqL_same fun a => veq_int a)
  have b1 : oItem (.ref R) (.int 1) H1 = some (.ref rD, H1) := by unfold oItem; simp only [t1, Option.map_some, O.thaw]; rfl
  have b0 : oItem (.ref R) (.int 0) (spH H1 F (spec F)) = some (.ref rO, spH H1 F (spec F)) := by unfold oItem; simp only [lo t1, Option.map_some, O.thaw]; rfl
  exact ⟨_, ev_fop rfl rfl (ev_cons (ev_assign (ev_fun (ev_a1 (run_heads (by (first | lia | omega)))) r0) rfl) (ev_cons (ev_assign (ev_fun (ev_a1 rfl) r1) rfl) (ev_ret (ev_and_t (ev_cmp (ev_sub rfl rfl b1) (ev_fun (ev_a1 rfl) r2) q1) rfl (ev_cmp (ev_sub rfl rfl b0) (ev_fun (ev_a1 rfl) r3) q2)))))⟩
end Mine
end
section
set_option tactic.hygienic false
open PySem PySem.W PyProof.Rows PySem.Calls PySem.SeqAt Builtin
namespace Mine
theorem fop_ret {bd : List V → Option (List V)} {k : Nat} {b : PM Flw} {Ys Zs : List V} {H H' : AHeap} (h : fOp bd k b Ys H = some (.bool true, H')) (hb : bd Ys = some Zs) : ∃ e, b (Zs.map some ++ List.replicate k none) H = some (.ret (.bool true), e, H') := by
  unfold fOp at h
  rw [hb, Option.bind_some] at h
  obtain ⟨⟨fl, e, H₁⟩, h1, h2⟩ := Option.bind_eq_some_iff.mp h
  cases fl <;> cases h2
  exact ⟨e, h1⟩
noncomputable abbrev lawSt : Stmt := stAt PySem.Challenge.pw_mq0317_02 15
theorem law_top {prog : Program} {w : World} {K : Frag} {s₁ : Shared} {mg mb : Str → Option Value} (X : K.In s₁.heap) (hng : s₁.heap.Ns mainGlobals mg) (hnb : s₁.heap.Ns builtinsNs mb) (hnl : s₁.heap.NoLimit)
    (hbl : ∀ x : Str, x ≠ "__name__" → mb x = bootBuiltins x) (h : KFact K) {fa : Addr} (hmg : mg "law" = some (.ref fa)) {l : Addr} {vs : List Value} {ns : List Int} (hL : s₁.heap.IsList l vs.toArray) (hI : IntsAre vs ns) (hn : ns.length ≤ 63)
    {R : Result → Shared → Prop} (hR : ∀ s', (∀ b o, s₁.heap.get? b = some o → s'.heap.get? b = some o) → s' = { s₁ with heap := s'.heap, toks := s'.toks } → R (.ok (.ret (.bool true))) s') :
    codeAny (model prog w) callerA (.call (.ref fa) ⟨[.ref l], []⟩) R s₁ := by
  have gok : GOk ⟨prog, w, K, s₁.heap, adIn K "TopologicalSorter", adIn K "_NodeInfo", mg, mb⟩ := ⟨X, hng, hnb, hnl, hbl⟩
  have C := ctx_of gok rfl rfl h
  have hfa : fa = adIn K "law" := by
    have := C.g_law
    rw [show (Gl.mg ⟨prog, w, K, s₁.heap, adIn K "TopologicalSorter", adIn K "_NodeInfo", mg, mb⟩) = mg from rfl, hmg] at this
    cases this; rfl
  subst hfa
  have hst : ∃ o, s₁.heap.get? cStatics = some o := by
    obtain ⟨mm, ⟨o, _, _, g, _⟩, _⟩ := hnl
    exact ⟨o, g⟩
  obtain ⟨H', p⟩ := plain02 ns hn
  obtain ⟨e, q⟩ := fop_ret (Zs := [.ext ns]) p rfl
  refine entry_ok gok (is_law C) sl_law (d := 8) (k := 2) (by decide +kernel) (fun x _ _ => nofree_of (names := (fScope lawSt).names) (by kernel_rfl) x) (ps_of (ps := ["script"]) (names := (fScope lawSt).names) (by kernel_rfl))
    (fun L fr fo fg => bd_law C fo fg) (Zs := [.ext ns]) ((fd_none (fd := fd_law (ptIn K (adIn K "law"))) C.d_law _).trans (by kernel_rfl)) rfl rfl hst (VRs.one (by simp only [VR]; exact ⟨l, vs, rfl, hL, hI⟩)) q rfl rfl (by decide) (by decide) fun y ρ' s' hy hk hs => ?_
  cases hy
  exact hR s' hk hs
end Mine
end
namespace Mine
theorem law_said : PySem.Challenge.rw_mq0317_02.wellSaid = true := by kernel_rfl
end Mine
local macro_rules
  | `(tactic| refine PySem.W.holds_open $args*) => `(tactic| (refine (PySem.W.holds_open $args*); (case hl => (intro w; kernel_rfl))))
local macro_rules
  | `(tactic| o_law) => `(tactic| refine PySem.W.holds_law Mine.law_said fun said => ?_)
namespace Mine
set_option maxHeartbeats 8000000 in
open_top hd for PySem.Challenge.rw_mq0317_02
end Mine
set_option maxHeartbeats 8000000 in
theorem PySem.Challenge.cw_mq0317_02_holds : PySem.Challenge.rw_mq0317_02.Holds := by
  refine Mine.hd ?_
  k_fill
  intro w s₀ s₁ mg mb G Y fa o pm cd doc dV kV ho hd hcd hD hmg hg args vals as hpre hlay hrd hwl hlo
  have KX := kIn_of Y
  refine Ground.open G ?_
  intro T B D TE TW
  wrow_args hpre hlay hrd hwl hlo
  all_goals (first | refine callC_kw (enter_call ?_) | refine enter_call ?_)
  refine Mine.law_top KX T.g T.b T.nolimit T.builtins ?kf hmg (by assumption) (by assumption) (by omega) ?hR
  case hR =>
    intro s' hk hs
    refine GoodW.toG ⟨.inl ⟨_, .bool true, [], rfl, fun _ => rfl, .bool true, ?_, fun _ => ⟨.nil, fun _ h => nomatch h⟩⟩, hk, by rw [hs], by rw [hs]; exact hg⟩
    kernel_rfl
  case kf => exact {
      bi := by kernel_rfl
      gTopologicalSorter := by kernel_rfl
      kpTopologicalSorter := by kernel_rfl
      mTopologicalSorter := by kernel_rfl
      g_NodeInfo := by kernel_rfl
      kp_NodeInfo := by kernel_rfl
      m_NodeInfo := by kernel_rfl
      k_NODE_OUT := by kernel_rfl
      k_NODE_DONE := by kernel_rfl
      cls := { get := by kernel_rfl, set := by kernel_rfl, over := by kernel_rfl, hd := by kernel_rfl, a0 := by kernel_rfl, a1 := by kernel_rfl, a2 := by kernel_rfl, a3 := by kernel_rfl, getN := by kernel_rfl, setN := by kernel_rfl, overN := by kernel_rfl, clsN := by kernel_rfl, s0 := ⟨by kernel_rfl, by kernel_rfl, by kernel_rfl, by kernel_rfl, by kernel_rfl⟩, s1 := ⟨by kernel_rfl, by kernel_rfl, by kernel_rfl, by kernel_rfl, by kernel_rfl⟩, s2 := ⟨by kernel_rfl, by kernel_rfl, by kernel_rfl, by kernel_rfl, by kernel_rfl⟩ }
      i_is_single_bit := ⟨by kernel_rfl, by kernel_rfl, by kernel_rfl⟩
      g_is_single_bit := by kernel_rfl
      d_is_single_bit := by kernel_rfl
      i_high_bit := ⟨by kernel_rfl, by kernel_rfl, by kernel_rfl⟩
      g_high_bit := by kernel_rfl
      d_high_bit := by kernel_rfl
      i_N_init := ⟨by kernel_rfl, by kernel_rfl, by kernel_rfl⟩
      f_N_init := by kernel_rfl
      t_N_init := by kernel_rfl
      d_N_init := by kernel_rfl
      i_S_get_nodeinfo := ⟨by kernel_rfl, by kernel_rfl, by kernel_rfl⟩
      me_S_get_nodeinfo := ⟨by kernel_rfl, by kernel_rfl, by kernel_rfl, by kernel_rfl, by kernel_rfl⟩
      d_S_get_nodeinfo := by kernel_rfl
      i_S_add := ⟨by kernel_rfl, by kernel_rfl, by kernel_rfl⟩
      me_S_add := ⟨by kernel_rfl, by kernel_rfl, by kernel_rfl, by kernel_rfl, by kernel_rfl⟩
      d_S_add := by kernel_rfl
      i_S_init := ⟨by kernel_rfl, by kernel_rfl, by kernel_rfl⟩
      f_S_init := by kernel_rfl
      t_S_init := by kernel_rfl
      d_S_init := ⟨by kernel_rfl, by kernel_rfl⟩
      i_S_find_cycle := ⟨by kernel_rfl, by kernel_rfl, by kernel_rfl⟩
      me_S_find_cycle := ⟨by kernel_rfl, by kernel_rfl, by kernel_rfl, by kernel_rfl, by kernel_rfl⟩
      d_S_find_cycle := by kernel_rfl
      i_S_prepare := ⟨by kernel_rfl, by kernel_rfl, by kernel_rfl⟩
      me_S_prepare := ⟨by kernel_rfl, by kernel_rfl, by kernel_rfl, by kernel_rfl, by kernel_rfl⟩
      d_S_prepare := by kernel_rfl
      i_S_get_ready := ⟨by kernel_rfl, by kernel_rfl, by kernel_rfl⟩
      me_S_get_ready := ⟨by kernel_rfl, by kernel_rfl, by kernel_rfl, by kernel_rfl, by kernel_rfl⟩
      d_S_get_ready := by kernel_rfl
      i_S_is_active := ⟨by kernel_rfl, by kernel_rfl, by kernel_rfl⟩
      me_S_is_active := ⟨by kernel_rfl, by kernel_rfl, by kernel_rfl, by kernel_rfl, by kernel_rfl⟩
      d_S_is_active := by kernel_rfl
      i_S_done := ⟨by kernel_rfl, by kernel_rfl, by kernel_rfl⟩
      me_S_done := ⟨by kernel_rfl, by kernel_rfl, by kernel_rfl, by kernel_rfl, by kernel_rfl⟩
      d_S_done := by kernel_rfl
      i_law_family := ⟨by kernel_rfl, by kernel_rfl, by kernel_rfl⟩
      g_law_family := by kernel_rfl
      d_law_family := by kernel_rfl
      i_law_worked_off := ⟨by kernel_rfl, by kernel_rfl, by kernel_rfl⟩
      g_law_worked_off := by kernel_rfl
      d_law_worked_off := by kernel_rfl
      i_law_spelled := ⟨by kernel_rfl, by kernel_rfl, by kernel_rfl⟩
      g_law_spelled := by kernel_rfl
      d_law_spelled := by kernel_rfl
      i_law_rounds := ⟨by kernel_rfl, by kernel_rfl, by kernel_rfl⟩
      g_law_rounds := by kernel_rfl
      d_law_rounds := by kernel_rfl
      i_law := ⟨by kernel_rfl, by kernel_rfl, by kernel_rfl⟩
      g_law := by kernel_rfl
      d_law := by kernel_rfl
  }
#print axioms PySem.Challenge.cw_mq0317_02_holds
