import PyProof.Rows.All
import Wide.All
import OpenK.AllK
import Wide.FinOn
import PySem.Challenge.RW_ta0143_02
set_option Elab.async false
set_option linter.all false
set_option genSizeOf false
set_option genInjectivity false
section
open PySem PySem.W PyProof.Rows
namespace Mine
/-! equations that cannot be, and what equations of values say: a lemma's use is far smaller than what the tactic for cases writes -/
theorem nnS {α : Type} {a : α} {P : Prop} (h : none = some a) : P := by cases h
theorem nSn {α : Type} {a : α} {P : Prop} (h : some a = none) : P := by cases h
theorem nFT {P : Prop} (h : false = true) : P := by cases h
theorem nTF {P : Prop} (h : true = false) : P := by cases h
theorem nNC {α : Type} {a : α} {l : List α} {P : Prop} (h : [] = a :: l) : P := by cases h
theorem nCN {α : Type} {a : α} {l : List α} {P : Prop} (h : a :: l = []) : P := by cases h
theorem nAny {α : Type} (f : α → Nat) {a b : α} {P : Prop} (h : a = b) (e : Nat.beq (f a) (f b) = false) : P := by
  rw [h] at e
  exact False.elim (Nat.ne_of_beq_eq_false e rfl)
theorem s1E {α : Type} {a b : α} (h : some a = some b) : a = b := Option.some.inj h
section
variable {α β γ : Type} {a a' : α} {b b' : β} {c c' : γ}
theorem p2A (h : (a, b) = (a', b')) : a = a' := congrArg (·.1) h
theorem p2B (h : (a, b) = (a', b')) : b = b' := congrArg (·.2) h
theorem s2A (h : some (a, b) = some (a', b')) : a = a' := p2A (s1E h)
theorem s2B (h : some (a, b) = some (a', b')) : b = b' := p2B (s1E h)
theorem s3A (h : some (a, b, c) = some (a', b', c')) : a = a' := p2A (s1E h)
theorem s3B (h : some (a, b, c) = some (a', b', c')) : b = b' := p2A (p2B (s1E h))
theorem s3C (h : some (a, b, c) = some (a', b', c')) : c = c' := p2B (p2B (s1E h))
end
open Classical in
/-- the thing of which P says, where there is one -/
noncomputable def pick {α : Type} (P : α → Prop) : Option α := if h : ∃ a, P a then some h.choose else none
theorem pick_ok {α : Type} {P : α → Prop} {a : α} (h : pick P = some a) : P a := by
  unfold pick at h
  by_cases q : ∃ a, P a
  · rw [dif_pos q] at h
    exact (s1E h) ▸ q.choose_spec
  · rw [dif_neg q] at h
    exact nnS h
theorem pick_mk {α : Type} {P : α → Prop} {a : α} (h : P a) (u : ∀ b, P b → b = a) : pick P = some a := by
  unfold pick
  rw [dif_pos ⟨a, h⟩]
  exact congrArg some (u _ (Exists.choose_spec ⟨a, h⟩))
end Mine
end
section
namespace Mine
/-! what is told by ∃ and ∧, taken apart by one lemma's use -/
theorem xA  {P0 : Prop} {P1 : Prop} (h : (P0 ∧ P1)) {G : Prop} (k : P0 → P1 → G) : G := k h.1 h.2
theorem xE {T0 : Type} {P0 : T0 → Prop} (h : (∃ a0 : T0, P0 a0)) {G : Prop} (k : ∀ a0 : T0, P0 a0 → G) : G := h.elim fun a0 h0 => k a0 h0
theorem xAA  {P0 : Prop} {P1 : Prop} {P2 : Prop} (h : (P0 ∧ (P1 ∧ P2))) {G : Prop} (k : P0 → P1 → P2 → G) : G := k h.1 h.2.1 h.2.2
theorem xEA {T0 : Type} {P0 : T0 → Prop} {P1 : T0 → Prop} (h : (∃ a0 : T0, (P0 a0 ∧ P1 a0))) {G : Prop} (k : ∀ a0 : T0, P0 a0 → P1 a0 → G) : G := h.elim fun a0 h0 => k a0 h0.1 h0.2
theorem xEE {T0 : Type} {T1 : Type} {P0 : T0 → T1 → Prop} (h : (∃ a0 : T0, (∃ a1 : T1, P0 a0 a1))) {G : Prop} (k : ∀ a0 : T0, ∀ a1 : T1, P0 a0 a1 → G) : G := h.elim fun a0 h0 => h0.elim fun a1 h1 => k a0 a1 h1
theorem xAAA  {P0 : Prop} {P1 : Prop} {P2 : Prop} {P3 : Prop} (h : (P0 ∧ (P1 ∧ (P2 ∧ P3)))) {G : Prop} (k : P0 → P1 → P2 → P3 → G) : G := k h.1 h.2.1 h.2.2.1 h.2.2.2
theorem xEAA {T0 : Type} {P0 : T0 → Prop} {P1 : T0 → Prop} {P2 : T0 → Prop} (h : (∃ a0 : T0, (P0 a0 ∧ (P1 a0 ∧ P2 a0)))) {G : Prop} (k : ∀ a0 : T0, P0 a0 → P1 a0 → P2 a0 → G) : G := h.elim fun a0 h0 => k a0 h0.1 h0.2.1 h0.2.2
theorem xEEA {T0 : Type} {T1 : Type} {P0 : T0 → T1 → Prop} {P1 : T0 → T1 → Prop} (h : (∃ a0 : T0, (∃ a1 : T1, (P0 a0 a1 ∧ P1 a0 a1)))) {G : Prop} (k : ∀ a0 : T0, ∀ a1 : T1, P0 a0 a1 → P1 a0 a1 → G) : G := h.elim fun a0 h0 => h0.elim fun a1 h1 => k a0 a1 h1.1 h1.2
theorem xAEAA {T0 : Type} {P0 : Prop} {P1 : T0 → Prop} {P2 : T0 → Prop} {P3 : T0 → Prop} (h : (P0 ∧ (∃ a0 : T0, (P1 a0 ∧ (P2 a0 ∧ P3 a0))))) {G : Prop} (k : P0 → ∀ a0 : T0, P1 a0 → P2 a0 → P3 a0 → G) : G := h.2.elim fun a0 h1 => k h.1 a0 h1.1 h1.2.1 h1.2.2
theorem xAEEA {T0 : Type} {T1 : Type} {P0 : Prop} {P1 : T0 → T1 → Prop} {P2 : T0 → T1 → Prop} (h : (P0 ∧ (∃ a0 : T0, (∃ a1 : T1, (P1 a0 a1 ∧ P2 a0 a1))))) {G : Prop} (k : P0 → ∀ a0 : T0, ∀ a1 : T1, P1 a0 a1 → P2 a0 a1 → G) : G := h.2.elim fun a0 h1 => h1.elim fun a1 h2 => k h.1 a0 a1 h2.1 h2.2
theorem xEAAA {T0 : Type} {P0 : T0 → Prop} {P1 : T0 → Prop} {P2 : T0 → Prop} {P3 : T0 → Prop} (h : (∃ a0 : T0, (P0 a0 ∧ (P1 a0 ∧ (P2 a0 ∧ P3 a0))))) {G : Prop} (k : ∀ a0 : T0, P0 a0 → P1 a0 → P2 a0 → P3 a0 → G) : G := h.elim fun a0 h0 => k a0 h0.1 h0.2.1 h0.2.2.1 h0.2.2.2
theorem xEAAE {T0 : Type} {T1 : Type} {P0 : T0 → Prop} {P1 : T0 → Prop} {P2 : T0 → T1 → Prop} (h : (∃ a0 : T0, (P0 a0 ∧ (P1 a0 ∧ (∃ a1 : T1, P2 a0 a1))))) {G : Prop} (k : ∀ a0 : T0, P0 a0 → P1 a0 → ∀ a1 : T1, P2 a0 a1 → G) : G := h.elim fun a0 h0 => h0.2.2.elim fun a1 h3 => k a0 h0.1 h0.2.1 a1 h3
theorem xEEAA {T0 : Type} {T1 : Type} {P0 : T0 → T1 → Prop} {P1 : T0 → T1 → Prop} {P2 : T0 → T1 → Prop} (h : (∃ a0 : T0, (∃ a1 : T1, (P0 a0 a1 ∧ (P1 a0 a1 ∧ P2 a0 a1))))) {G : Prop} (k : ∀ a0 : T0, ∀ a1 : T1, P0 a0 a1 → P1 a0 a1 → P2 a0 a1 → G) : G := h.elim fun a0 h0 => h0.elim fun a1 h1 => k a0 a1 h1.1 h1.2.1 h1.2.2
theorem xEEEA {T0 : Type} {T1 : Type} {T2 : Type} {P0 : T0 → T1 → T2 → Prop} {P1 : T0 → T1 → T2 → Prop} (h : (∃ a0 : T0, (∃ a1 : T1, (∃ a2 : T2, (P0 a0 a1 a2 ∧ P1 a0 a1 a2))))) {G : Prop} (k : ∀ a0 : T0, ∀ a1 : T1, ∀ a2 : T2, P0 a0 a1 a2 → P1 a0 a1 a2 → G) : G := h.elim fun a0 h0 => h0.elim fun a1 h1 => h1.elim fun a2 h2 => k a0 a1 a2 h2.1 h2.2
theorem xEEAAA {T0 : Type} {T1 : Type} {P0 : T0 → T1 → Prop} {P1 : T0 → T1 → Prop} {P2 : T0 → T1 → Prop} {P3 : T0 → T1 → Prop} (h : (∃ a0 : T0, (∃ a1 : T1, (P0 a0 a1 ∧ (P1 a0 a1 ∧ (P2 a0 a1 ∧ P3 a0 a1)))))) {G : Prop} (k : ∀ a0 : T0, ∀ a1 : T1, P0 a0 a1 → P1 a0 a1 → P2 a0 a1 → P3 a0 a1 → G) : G := h.elim fun a0 h0 => h0.elim fun a1 h1 => k a0 a1 h1.1 h1.2.1 h1.2.2.1 h1.2.2.2
theorem xEEEAA {T0 : Type} {T1 : Type} {T2 : Type} {P0 : T0 → T1 → T2 → Prop} {P1 : T0 → T1 → T2 → Prop} {P2 : T0 → T1 → T2 → Prop} (h : (∃ a0 : T0, (∃ a1 : T1, (∃ a2 : T2, (P0 a0 a1 a2 ∧ (P1 a0 a1 a2 ∧ P2 a0 a1 a2)))))) {G : Prop} (k : ∀ a0 : T0, ∀ a1 : T1, ∀ a2 : T2, P0 a0 a1 a2 → P1 a0 a1 a2 → P2 a0 a1 a2 → G) : G := h.elim fun a0 h0 => h0.elim fun a1 h1 => h1.elim fun a2 h2 => k a0 a1 a2 h2.1 h2.2.1 h2.2.2
theorem xEEEAAAA {T0 : Type} {T1 : Type} {T2 : Type} {P0 : T0 → T1 → T2 → Prop} {P1 : T0 → T1 → T2 → Prop} {P2 : T0 → T1 → T2 → Prop} {P3 : T0 → T1 → T2 → Prop} {P4 : T0 → T1 → T2 → Prop} (h : (∃ a0 : T0, (∃ a1 : T1, (∃ a2 : T2, (P0 a0 a1 a2 ∧ (P1 a0 a1 a2 ∧ (P2 a0 a1 a2 ∧ (P3 a0 a1 a2 ∧ P4 a0 a1 a2)))))))) {G : Prop} (k : ∀ a0 : T0, ∀ a1 : T1, ∀ a2 : T2, P0 a0 a1 a2 → P1 a0 a1 a2 → P2 a0 a1 a2 → P3 a0 a1 a2 → P4 a0 a1 a2 → G) : G := h.elim fun a0 h0 => h0.elim fun a1 h1 => h1.elim fun a2 h2 => k a0 a1 a2 h2.1 h2.2.1 h2.2.2.1 h2.2.2.2.1 h2.2.2.2.2
theorem xEEEAAAAA {T0 : Type} {T1 : Type} {T2 : Type} {P0 : T0 → T1 → T2 → Prop} {P1 : T0 → T1 → T2 → Prop} {P2 : T0 → T1 → T2 → Prop} {P3 : T0 → T1 → T2 → Prop} {P4 : T0 → T1 → T2 → Prop} {P5 : T0 → T1 → T2 → Prop} (h : (∃ a0 : T0, (∃ a1 : T1, (∃ a2 : T2, (P0 a0 a1 a2 ∧ (P1 a0 a1 a2 ∧ (P2 a0 a1 a2 ∧ (P3 a0 a1 a2 ∧ (P4 a0 a1 a2 ∧ P5 a0 a1 a2))))))))) {G : Prop} (k : ∀ a0 : T0, ∀ a1 : T1, ∀ a2 : T2, P0 a0 a1 a2 → P1 a0 a1 a2 → P2 a0 a1 a2 → P3 a0 a1 a2 → P4 a0 a1 a2 → P5 a0 a1 a2 → G) : G := h.elim fun a0 h0 => h0.elim fun a1 h1 => h1.elim fun a2 h2 => k a0 a1 a2 h2.1 h2.2.1 h2.2.2.1 h2.2.2.2.1 h2.2.2.2.2.1 h2.2.2.2.2.2
theorem xEEEEAAAAAA {T0 : Type} {T1 : Type} {T2 : Type} {T3 : Type} {P0 : T0 → T1 → T2 → T3 → Prop} {P1 : T0 → T1 → T2 → T3 → Prop} {P2 : T0 → T1 → T2 → T3 → Prop} {P3 : T0 → T1 → T2 → T3 → Prop} {P4 : T0 → T1 → T2 → T3 → Prop} {P5 : T0 → T1 → T2 → T3 → Prop} {P6 : T0 → T1 → T2 → T3 → Prop} (h : (∃ a0 : T0, (∃ a1 : T1, (∃ a2 : T2, (∃ a3 : T3, (P0 a0 a1 a2 a3 ∧ (P1 a0 a1 a2 a3 ∧ (P2 a0 a1 a2 a3 ∧ (P3 a0 a1 a2 a3 ∧ (P4 a0 a1 a2 a3 ∧ (P5 a0 a1 a2 a3 ∧ P6 a0 a1 a2 a3))))))))))) {G : Prop} (k : ∀ a0 : T0, ∀ a1 : T1, ∀ a2 : T2, ∀ a3 : T3, P0 a0 a1 a2 a3 → P1 a0 a1 a2 a3 → P2 a0 a1 a2 a3 → P3 a0 a1 a2 a3 → P4 a0 a1 a2 a3 → P5 a0 a1 a2 a3 → P6 a0 a1 a2 a3 → G) : G := h.elim fun a0 h0 => h0.elim fun a1 h1 => h1.elim fun a2 h2 => h2.elim fun a3 h3 => k a0 a1 a2 a3 h3.1 h3.2.1 h3.2.2.1 h3.2.2.2.1 h3.2.2.2.2.1 h3.2.2.2.2.2.1 h3.2.2.2.2.2.2
end Mine
end
section
open PySem PySem.W PyProof.Rows
namespace Mine

inductive D where
  | none
  | bool (b : Bool)
  | int (i : Int)
  | str (s : PySem.Str)
  | tup (ds : List D)
  | lst (ds : List D)
  | dct (es : List (PySem.Str × D))
  | ref (n : Nat)
  | glob (v : Value)
  | exc (X : String) (msg : PySem.Str)
  | rng (a b : Int)

inductive AO where
  | lst (ds : List D)
  | ins (C : Addr) (at_ : List (PySem.Str × D))
  | dead

noncomputable abbrev Adr := List (Addr × Addr)

noncomputable def regOf (p : Addr × Addr) : AO → List Addr
  | .dead => []
  | .lst _ => [p.1]
  | .ins _ _ => [p.1, p.2]

noncomputable def reg : Adr → List AO → List Addr
  | p :: ps, o :: os => regOf p o ++ reg ps os
  | _, _ => []

structure Amb where
  prog : Program
  w : World
  K : Frag
  base : Heap
  mg : PySem.Str → Option Value
  mb : PySem.Str → Option Value

structure Amb.Ok (G : Amb) : Prop where
  inK : G.K.In G.base
  g : G.base.Ns mainGlobals G.mg
  b : G.base.Ns builtinsNs G.mb
  nolimit : G.base.NoLimit
  builtins : ∀ x : PySem.Str, x ≠ "__name__" → G.mb x = bootBuiltins x

noncomputable abbrev Amb.M (G : Amb) : Model := model G.prog G.w

/-- an activation: what stands around a running tree -/
structure Cx where
  A : Around
  fenv : Env
  outer : List Env
  X : List Addr

noncomputable def Cx.stack (c : Cx) : List Env := c.fenv :: c.outer
noncomputable def Cx.fs (c : Cx) : List Addr := c.stack.filterMap (·.frame)

/-- a ghost state: the addresses of the store's objects, the store, the heap -/
structure Gs where
  adr : Adr
  σ : List AO
  h : Heap

noncomputable def Gs.reg (S : Gs) : List Addr := Mine.reg S.adr S.σ
noncomputable def vol (c : Cx) (S : Gs) : List Addr := S.reg ++ (c.fs ++ c.X)

mutual
inductive VR (P : Params) (adr : Adr) (V : List Addr) (h : Heap) : Value → D → Prop
  | none : VR P adr V h Value.none D.none
  | bool (b : Bool) : VR P adr V h (Value.bool b) (D.bool b)
  | int (i : Int) (t : Tok) : VR P adr V h (Value.int i t) (D.int i)
  | str (x : PySem.Str) (t : Tok) : x.length ≤ sizeLine → VR P adr V h (Value.str x t) (D.str x)
  | tup {a : Addr} {o : Obj} {vs : Array Value} {n : Nat} {ds : List D} : h.get? a = some o → o.cls = .type "tuple" → o.data = .seq vs n → vs.size ≤ sizeLine → a ∉ V → VRs P adr V h vs.toList ds → VR P adr V h (Value.ref a) (D.tup ds)
  | lst {a : Addr} {o : Obj} {vs : Array Value} {n : Nat} {ds : List D} : h.get? a = some o → o.cls = .type "list" → o.data = .seq vs n → vs.size ≤ sizeLine → a ∉ V → VRs P adr V h vs.toList ds → VR P adr V h (Value.ref a) (D.lst ds)
  | dct {a : Addr} {es : Array DictEntry} {n : Nat} {ds : List (PySem.Str × D)} : 1 < a → h.get? a = some { cls := .type "dict", dict := Option.none, data := .dict es n, slots := #[] } → (ds.map (·.1)).Nodup → a ∉ V → VRe P adr V h es.toList ds → VR P adr V h (Value.ref a) (D.dct ds)
  | ref {n : Nat} {p : Addr × Addr} : adr[n]? = some p → VR P adr V h (Value.ref p.1) (D.ref n)
  | glob (v : Value) : VR P adr V h v (D.glob v)
  | exc {e t : Addr} {oe : Obj} {vs : Array Value} {X : String} {msg : PySem.Str} {tk : Tok} : h.get? e = some oe → oe.cls = .type X → oe.data = .fields vs → vs[0]? = some (.ref t) → h.TupAt t [.str msg tk] → e ∉ V → t ∉ V → VR P adr V h (Value.ref e) (D.exc X msg)
  | rng {r : Addr} {a b : Int} {t u v : Tok} : IsRange h r a b 1 t u v → r ∉ V → VR P adr V h (Value.ref r) (D.rng a b)
inductive VRs (P : Params) (adr : Adr) (V : List Addr) (h : Heap) : List Value → List D → Prop
  | nil : VRs P adr V h [] []
  | cons {v : Value} {d : D} {vs : List Value} {ds : List D} : VR P adr V h v d → VRs P adr V h vs ds → VRs P adr V h (v :: vs) (d :: ds)
inductive VRe (P : Params) (adr : Adr) (V : List Addr) (h : Heap) : List DictEntry → List (PySem.Str × D) → Prop
  | nil : VRe P adr V h [] []
  | cons {e : DictEntry} {x : PySem.Str} {t : Tok} {d : D} {es : List DictEntry} {ds : List (PySem.Str × D)} : e.key = .str x t → e.hash = PyData.keyHash P x → VR P adr V h e.val d → VRe P adr V h es ds → VRe P adr V h (e :: es) ((x, d) :: ds)
end

section
variable {P : Params} {adr adr' : Adr} {V V' : List Addr} {h h' : Heap}

noncomputable def Pres (V : List Addr) (h h' : Heap) : Prop := ∀ a o, a ∉ V → h.get? a = some o → h'.get? a = some o
noncomputable def AdrLe (adr adr' : Adr) : Prop := ∀ (n : Nat) (p : Addr × Addr), adr[n]? = some p → adr'[n]? = some p
noncomputable def VolLe (h : Heap) (V V' : List Addr) : Prop := ∀ a, a ∈ V' → a ∈ V ∨ h.get? a = Option.none

theorem AdrLe.refl (adr : Adr) : AdrLe adr adr := fun _ _ e => e
theorem AdrLe.trans {a b c : Adr} (x : AdrLe a b) (y : AdrLe b c) : AdrLe a c := fun n p e => y n p (x n p e)
theorem AdrLe.append (a b : Adr) : AdrLe a (a ++ b) := fun n p e => by
  rw [List.getElem?_append_left (List.getElem?_eq_some_iff.mp e).1]; exact e
theorem VolLe.of_sub (h : Heap) (hs : ∀ a, a ∈ V' → a ∈ V) : VolLe h V V' := fun a ha => .inl (hs a ha)

theorem VolLe.notin (k : VolLe h V V') {a : Addr} {o : Obj} (e : h.get? a = some o) (ha : a ∉ V) : a ∉ V' := fun hm => by
  rcases k a hm with q | q
  · exact ha q
  · rw [e] at q; cases q

section
variable (hp : Pres V h h') (ha : AdrLe adr adr') (hv : VolLe h V V')
include hp ha hv
theorem VR.mono {v : Value} {d : D} (r : VR P adr V h v d) : VR P adr' V' h' v d :=
  VR.rec (motive_1 := fun v d _ => VR P adr' V' h' v d) (motive_2 := fun vs ds _ => VRs P adr' V' h' vs ds) (motive_3 := fun es ds _ => VRe P adr' V' h' es ds)
    .none (fun b => .bool b) (fun i t => .int i t) (fun x t hx => .str x t hx) (fun e c d z n _ r => .tup (hp _ _ n e) c d z (hv.notin e n) r) (fun e c d z n _ r => .lst (hp _ _ n e) c d z (hv.notin e n) r) (fun b e q n _ r => .dct b (hp _ _ n e) q (hv.notin e n) r) (fun e => .ref (ha _ _ e)) (fun v => .glob v)
    (fun e c d k ht n1 n2 => .exc (hp _ _ n1 e) c d k (let ⟨ot, nt, ht, r⟩ := ht; ⟨ot, nt, hp _ _ n2 ht, r⟩) (hv.notin e n1) (let ⟨_, _, ht, _⟩ := ht; hv.notin ht n2)) (fun e n => .rng (hp _ _ n e) (hv.notin e n))
    .nil (fun _ _ e r => .cons e r) .nil (fun e k _ _ v r => .cons e k v r) r
theorem VRs.mono {v : List Value} {d : List D} (r : VRs P adr V h v d) : VRs P adr' V' h' v d :=
  VRs.rec (motive_1 := fun v d _ => VR P adr' V' h' v d) (motive_2 := fun vs ds _ => VRs P adr' V' h' vs ds) (motive_3 := fun es ds _ => VRe P adr' V' h' es ds)
    .none (fun b => .bool b) (fun i t => .int i t) (fun x t hx => .str x t hx) (fun e c d z n _ r => .tup (hp _ _ n e) c d z (hv.notin e n) r) (fun e c d z n _ r => .lst (hp _ _ n e) c d z (hv.notin e n) r) (fun b e q n _ r => .dct b (hp _ _ n e) q (hv.notin e n) r) (fun e => .ref (ha _ _ e)) (fun v => .glob v)
    (fun e c d k ht n1 n2 => .exc (hp _ _ n1 e) c d k (let ⟨ot, nt, ht, r⟩ := ht; ⟨ot, nt, hp _ _ n2 ht, r⟩) (hv.notin e n1) (let ⟨_, _, ht, _⟩ := ht; hv.notin ht n2)) (fun e n => .rng (hp _ _ n e) (hv.notin e n))
    .nil (fun _ _ e r => .cons e r) .nil (fun e k _ _ v r => .cons e k v r) r
theorem VRe.mono {v : List DictEntry} {d : List (PySem.Str × D)} (r : VRe P adr V h v d) : VRe P adr' V' h' v d :=
  VRe.rec (motive_1 := fun v d _ => VR P adr' V' h' v d) (motive_2 := fun vs ds _ => VRs P adr' V' h' vs ds) (motive_3 := fun es ds _ => VRe P adr' V' h' es ds)
    .none (fun b => .bool b) (fun i t => .int i t) (fun x t hx => .str x t hx) (fun e c d z n _ r => .tup (hp _ _ n e) c d z (hv.notin e n) r) (fun e c d z n _ r => .lst (hp _ _ n e) c d z (hv.notin e n) r) (fun b e q n _ r => .dct b (hp _ _ n e) q (hv.notin e n) r) (fun e => .ref (ha _ _ e)) (fun v => .glob v)
    (fun e c d k ht n1 n2 => .exc (hp _ _ n1 e) c d k (let ⟨ot, nt, ht, r⟩ := ht; ⟨ot, nt, hp _ _ n2 ht, r⟩) (hv.notin e n1) (let ⟨_, _, ht, _⟩ := ht; hv.notin ht n2)) (fun e n => .rng (hp _ _ n e) (hv.notin e n))
    .nil (fun _ _ e r => .cons e r) .nil (fun e k _ _ v r => .cons e k v r) r
end

theorem VRs.ind {C : List Value → List D → Prop} (h0 : C [] []) (h1 : ∀ v d vs ds, VR P adr V h v d → VRs P adr V h vs ds → C vs ds → C (v :: vs) (d :: ds)) {vs : List Value} {ds : List D} (r : VRs P adr V h vs ds) : C vs ds :=
  VRs.rec (motive_1 := fun _ _ _ => True) (motive_2 := fun vs ds _ => C vs ds) (motive_3 := fun _ _ _ => True) ⟨⟩ (fun _ => ⟨⟩) (fun _ _ => ⟨⟩) (fun _ _ _ => ⟨⟩) (fun _ _ _ _ _ _ _ => ⟨⟩) (fun _ _ _ _ _ _ _ => ⟨⟩) (fun _ _ _ _ _ _ => ⟨⟩) (fun _ => ⟨⟩) (fun _ => ⟨⟩) (fun _ _ _ _ _ _ _ => ⟨⟩) (fun _ _ => ⟨⟩) h0 (fun r rs _ c => h1 _ _ _ _ r rs c) ⟨⟩ (fun _ _ _ _ _ _ => ⟨⟩) r
theorem VRe.ind {C : List DictEntry → List (PySem.Str × D) → Prop} (h0 : C [] []) (h1 : ∀ e x t d es ds, e.key = .str x t → e.hash = PyData.keyHash P x → VR P adr V h e.val d → VRe P adr V h es ds → C es ds → C (e :: es) ((x, d) :: ds)) {es : List DictEntry} {ds : List (PySem.Str × D)} (r : VRe P adr V h es ds) : C es ds :=
  VRe.rec (motive_1 := fun _ _ _ => True) (motive_2 := fun _ _ _ => True) (motive_3 := fun es ds _ => C es ds) ⟨⟩ (fun _ => ⟨⟩) (fun _ _ => ⟨⟩) (fun _ _ _ => ⟨⟩) (fun _ _ _ _ _ _ _ => ⟨⟩) (fun _ _ _ _ _ _ _ => ⟨⟩) (fun _ _ _ _ _ _ => ⟨⟩) (fun _ => ⟨⟩) (fun _ => ⟨⟩) (fun _ _ _ _ _ _ _ => ⟨⟩) (fun _ _ => ⟨⟩) ⟨⟩ (fun _ _ _ _ => ⟨⟩) h0 (fun k hh v r _ c => h1 _ _ _ _ _ _ k hh v r c) r
theorem VRs.length {vs : List Value} {ds : List D} (r : VRs P adr V h vs ds) : vs.length = ds.length := by
  exact VRs.ind (C := fun vs ds => vs.length = ds.length) rfl (fun _ _ _ _ _ _ ih => congrArg (· + 1) ih) r
theorem VRs.get {vs : List Value} {ds : List D} (r : VRs P adr V h vs ds) {k : Nat} {d : D} (hk : ds[k]? = some d) : ∃ v, vs[k]? = some v ∧ VR P adr V h v d :=
  VRs.ind (C := fun vs ds => ∀ k d, ds[k]? = some d → ∃ v, vs[k]? = some v ∧ VR P adr V h v d) (fun _ _ e => nnS e)
    (fun v d' _ _ rv _ ih k d e => match k with
      | 0 => ⟨v, rfl, (Option.some.inj e) ▸ rv⟩
      | k + 1 => ih k d e) r k d hk
theorem VRs.append {vs ws : List Value} {ds es : List D} (r : VRs P adr V h vs ds) (q : VRs P adr V h ws es) : VRs P adr V h (vs ++ ws) (ds ++ es) := by
  induction vs generalizing ds with
  | nil => cases r; exact q
  | cons v vs ih => cases r with | cons e r => exact .cons e (ih r)
theorem VRs.one {v : Value} {d : D} (e : VR P adr V h v d) : VRs P adr V h [v] [d] := .cons e .nil
theorem VRs.take {vs : List Value} {ds : List D} (r : VRs P adr V h vs ds) (k : Nat) : VRs P adr V h (vs.take k) (ds.take k) := by
  induction vs generalizing ds k with
  | nil => cases r; simpa using VRs.nil
  | cons v vs ih =>
    cases r with
    | cons e r =>
      cases k with
      | zero => exact .nil
      | succ k => exact .cons e (ih r k)
theorem VRs.get_val {vs : List Value} {ds : List D} (r : VRs P adr V h vs ds) {k : Nat} {v : Value} (hk : vs[k]? = some v) : ∃ d, ds[k]? = some d ∧ VR P adr V h v d := by
  have hlt : k < ds.length := by rw [← r.length]; exact (List.getElem?_eq_some_iff.mp hk).1
  (refine xEA (r.get (List.getElem?_eq_getElem hlt)) fun w hw e => ?_)
  rw [hk] at hw; cases hw
  exact ⟨_, List.getElem?_eq_getElem hlt, e⟩
end

section
variable {P : Params} {adr : Adr} {V : List Addr} {h : Heap} {v : Value}
/-- what a value's relation says, by its shape -/
noncomputable def VRsh (P : Params) (adr : Adr) (V : List Addr) (h : Heap) (v : Value) : D → Prop
  | .none => v = .none
  | .bool b => v = .bool b
  | .int i => ∃ t, v = .int i t
  | .str x => ∃ t, v = .str x t ∧ x.length ≤ sizeLine
  | .tup ds => ∃ a o vs n, v = .ref a ∧ h.get? a = some o ∧ o.cls = .type "tuple" ∧ o.data = .seq vs n ∧ vs.size ≤ sizeLine ∧ a ∉ V ∧ VRs P adr V h vs.toList ds
  | .lst ds => ∃ a o vs n, v = .ref a ∧ h.get? a = some o ∧ o.cls = .type "list" ∧ o.data = .seq vs n ∧ vs.size ≤ sizeLine ∧ a ∉ V ∧ VRs P adr V h vs.toList ds
  | .dct ds => ∃ a es n, v = .ref a ∧ 1 < a ∧ h.get? a = some { cls := .type "dict", dict := Option.none, data := .dict es n, slots := #[] } ∧ (ds.map (·.1)).Nodup ∧ a ∉ V ∧ VRe P adr V h es.toList ds
  | .ref n => ∃ p, v = .ref p.1 ∧ adr[n]? = some p
  | .glob g => v = g
  | .exc X msg => ∃ e t oe vs tk, v = .ref e ∧ h.get? e = some oe ∧ oe.cls = .type X ∧ oe.data = .fields vs ∧ vs[0]? = some (.ref t) ∧ h.TupAt t [.str msg tk] ∧ e ∉ V ∧ t ∉ V
  | .rng a b => ∃ q t u w, v = .ref q ∧ IsRange h q a b 1 t u w ∧ q ∉ V
theorem VR.inv {d : D} (r : VR P adr V h v d) : VRsh P adr V h v d := by
  cases r with
  | none => exact rfl
  | bool b => exact rfl
  | int i t => exact ⟨t, rfl⟩
  | str x t hx => exact ⟨t, rfl, hx⟩
  | tup h1 h2 h3 h4 h5 h6 => exact ⟨_, _, _, _, rfl, h1, h2, h3, h4, h5, h6⟩
  | lst h1 h2 h3 h4 h5 h6 => exact ⟨_, _, _, _, rfl, h1, h2, h3, h4, h5, h6⟩
  | dct h1 h2 h3 h4 h5 => exact ⟨_, _, _, rfl, h1, h2, h3, h4, h5⟩
  | ref hp => exact ⟨_, rfl, hp⟩
  | glob => exact rfl
  | exc h1 h2 h3 h4 h5 h6 h7 => exact ⟨_, _, _, _, _, rfl, h1, h2, h3, h4, h5, h6, h7⟩
  | rng h1 h2 => exact ⟨_, _, _, _, rfl, h1, h2⟩
theorem VR.i_none (r : VR P adr V h v .none) : v = .none := r.inv
theorem VR.i_bool {b : Bool} (r : VR P adr V h v (.bool b)) : v = .bool b := r.inv
theorem VR.i_int {i : Int} (r : VR P adr V h v (.int i)) : ∃ t, v = .int i t := r.inv
theorem VR.i_str {x : PySem.Str} (r : VR P adr V h v (.str x)) : ∃ t, v = .str x t ∧ x.length ≤ sizeLine := r.inv
theorem VR.i_tup {ds : List D} (r : VR P adr V h v (.tup ds)) : ∃ a o vs n, v = .ref a ∧ h.get? a = some o ∧ o.cls = .type "tuple" ∧ o.data = .seq vs n ∧ vs.size ≤ sizeLine ∧ a ∉ V ∧ VRs P adr V h vs.toList ds := r.inv
theorem VR.i_lst {ds : List D} (r : VR P adr V h v (.lst ds)) : ∃ a o vs n, v = .ref a ∧ h.get? a = some o ∧ o.cls = .type "list" ∧ o.data = .seq vs n ∧ vs.size ≤ sizeLine ∧ a ∉ V ∧ VRs P adr V h vs.toList ds := r.inv
theorem VR.i_dctF {ds : List (PySem.Str × D)} (r : VR P adr V h v (.dct ds)) : ∃ a es n, v = .ref a ∧ 1 < a ∧ h.get? a = some { cls := .type "dict", dict := Option.none, data := .dict es n, slots := #[] } ∧ (ds.map (·.1)).Nodup ∧ a ∉ V ∧ VRe P adr V h es.toList ds := r.inv
theorem VR.i_dct1 {ds : List (PySem.Str × D)} (r : VR P adr V h v (.dct ds)) : ∃ a, v = .ref a ∧ 1 < a := let ⟨a, _, _, e, b, _⟩ := r.i_dctF; ⟨a, e, b⟩
theorem VR.i_dct {ds : List (PySem.Str × D)} (r : VR P adr V h v (.dct ds)) : ∃ a, v = .ref a := let ⟨a, e, _⟩ := r.i_dct1; ⟨a, e⟩
theorem VR.i_ref {n : Nat} (r : VR P adr V h v (.ref n)) : ∃ p, v = .ref p.1 ∧ adr[n]? = some p := r.inv
theorem VR.i_glob {g : Value} (r : VR P adr V h v (.glob g)) : v = g := r.inv
theorem VR.i_exc {X : String} {msg : PySem.Str} (r : VR P adr V h v (.exc X msg)) : ∃ e t oe vs tk, v = .ref e ∧ h.get? e = some oe ∧ oe.cls = .type X ∧ oe.data = .fields vs ∧ vs[0]? = some (.ref t) ∧ h.TupAt t [.str msg tk] ∧ e ∉ V ∧ t ∉ V := r.inv
/-- a value that is not None -/
noncomputable def D.solid : D → Bool
  | .bool _ | .int _ | .str _ | .tup _ | .lst _ | .ref _ => true
  | _ => false
theorem VR.solid {d : D} (hd : d.solid = true) (r : VR P adr V h v d) : v ≠ .none := by
  intro e
  subst e
  cases r
  · cases hd
  · cases hd
theorem VRs.i_cons {vs : List Value} {d : D} {ds : List D} (r : VRs P adr V h vs (d :: ds)) : ∃ v ws, vs = v :: ws ∧ VR P adr V h v d ∧ VRs P adr V h ws ds := by
  cases r with
  | cons a b => exact ⟨_, _, rfl, a, b⟩
theorem VRs.i_nil {vs : List Value} (r : VRs P adr V h vs []) : vs = [] := by cases r; rfl
theorem VRs.i_one {vs : List Value} {d : D} (r : VRs P adr V h vs [d]) : ∃ v, vs = [v] ∧ VR P adr V h v d := by
  (refine xEEAA r.i_cons fun v ws q0z a b => ?_; subst q0z)
  exact ⟨v, by rw [b.i_nil], a⟩
theorem VRs.i_two {vs : List Value} {d e : D} (r : VRs P adr V h vs [d, e]) : ∃ v w, vs = [v, w] ∧ VR P adr V h v d ∧ VR P adr V h w e := by
  (refine xEEAA r.i_cons fun v ws q0z a b => ?_; subst q0z)
  (refine xEA b.i_one fun w e b' => ?_)
  subst e
  exact ⟨v, w, rfl, a, b'⟩
end
/-- how a store's object lies -/
noncomputable def ORep (P : Params) (adr : Adr) (V : List Addr) (h : Heap) (p : Addr × Addr) : AO → Prop
  | .dead => True
  | .lst ds => ∃ n vs, h.get? p.1 = some { cls := .type "list", dict := none, data := .seq vs n, slots := #[] } ∧ vs.size ≤ sizeLine ∧ VRs P adr V h vs.toList ds
  | .ins C at_ => h.get? p.1 = some (instObj C p.2) ∧ ∃ es n, h.get? p.2 = some { cls := .type "dict", dict := none, data := .dict es n, slots := #[] } ∧ VRe P adr V h es.toList at_

structure Heaps (G : Amb) (c : Cx) (S : Gs) : Prop where
  ok : G.Ok
  stays : G.base.StaysIn S.h
  frames : c.A.frames = some c.stack
  funs : S.h.FunFrames G.base c.stack
  fdict : ∀ L ∈ c.fs, (∃ o es n, S.h.get? L = some o ∧ o.data = .dict es n) ∧ L ∉ S.reg
  xs : ∀ L ∈ c.X, (∃ o, S.h.get? L = some o) ∧ L ∉ S.reg ∧ G.base.get? L = none
  len : S.adr.length = S.σ.length
  store : ∀ (n : Nat) (p : Addr × Addr) (o : AO), S.adr[n]? = some p → S.σ[n]? = some o → ORep G.w.params S.adr (vol c S) S.h p o
  new : ∀ a ∈ S.reg, G.base.get? a = none
  nodup : S.reg.Nodup

/-- an expression's step -/
structure Ext (c : Cx) (S S' : Gs) : Prop where
  adr : AdrLe S.adr S'.adr
  keep : ∀ b o, S.h.get? b = some o → b ∉ S.reg → S'.h.get? b = some o ∨ (b ∈ c.fs ∧ ∃ sl, S'.h.get? b = some { o with slots := sl })
  fresh : ∀ a ∈ S'.reg, a ∈ S.reg ∨ S.h.get? a = none
  live : ∀ a o, S.h.get? a = some o → ∃ o', S'.h.get? a = some o'

theorem Ext.refl (c : Cx) (S : Gs) : Ext c S S := ⟨.refl _, fun _ _ e _ => .inl e, fun _ h => .inl h, fun _ o e => ⟨o, e⟩⟩
theorem Ext.trans {c : Cx} {S S' S'' : Gs} (x : Ext c S S') (y : Ext c S' S'') : Ext c S S'' := by
  refine ⟨x.adr.trans y.adr, fun b o e hb => ?_, fun a ha => ?_, fun a o e => ?_⟩
  · have hb' : b ∉ S'.reg := fun hm => by
      rcases x.fresh b hm with q | q
      · exact hb q
      · rw [e] at q; cases q
    rcases x.keep b o e hb with q | ⟨hf, sl, q⟩
    · exact y.keep b o q hb'
    · rcases y.keep b _ q hb' with q' | ⟨hf', sl', q'⟩
      · exact .inr ⟨hf, sl, q'⟩
      · exact .inr ⟨hf, sl', q'⟩
  · rcases y.fresh a ha with q | q
    · exact x.fresh a q
    · refine .inr ?_
      cases e : S.h.get? a with
      | none => rfl
      | some o => (refine xE (x.live a o e) fun o' e' => ?_); rw [q] at e'; cases e'
  · (refine xE (x.live a o e) fun o' e' => ?_)
    exact y.live a o' e'
theorem Ext.pres {c : Cx} {S S' : Gs} (x : Ext c S S') : Pres (vol c S) S.h S'.h := fun a o hn e => by
  have h1 : a ∉ S.reg := fun q => hn (List.mem_append_left _ q)
  rcases x.keep a o e h1 with q | ⟨hf, _⟩
  · exact q
  · exact absurd (List.mem_append_right _ (List.mem_append_left _ hf)) hn
theorem Ext.volLe {c : Cx} {S S' : Gs} (x : Ext c S S') : VolLe S.h (vol c S) (vol c S') := fun a ha => by
  rcases List.mem_append.mp ha with q | q
  · rcases x.fresh a q with r | r
    · exact .inl (List.mem_append_left _ r)
    · exact .inr r
  · exact .inl (List.mem_append_right _ q)

noncomputable def Rv (G : Amb) (c : Cx) (S : Gs) (v : Value) (d : D) : Prop := VR G.w.params S.adr (vol c S) S.h v d
noncomputable def Rvs (G : Amb) (c : Cx) (S : Gs) (v : List Value) (d : List D) : Prop := VRs G.w.params S.adr (vol c S) S.h v d
theorem Rv.ext {G : Amb} {c : Cx} {S S' : Gs} {v : Value} {d : D} (r : Rv G c S v d) (x : Ext c S S') : Rv G c S' v d := VR.mono x.pres x.adr x.volLe r
theorem Rvs.ext {G : Amb} {c : Cx} {S S' : Gs} {v : List Value} {d : List D} (r : Rvs G c S v d) (x : Ext c S S') : Rvs G c S' v d := VRs.mono x.pres x.adr x.volLe r

theorem Ext.ns {c : Cx} {S S' : Gs} (x : Ext c S S') {L : Addr} {m : PySem.Str → Option Value} (hL : L ∉ S.reg) (hn : S.h.Ns L m) : S'.h.Ns L m := by
  (refine xEEEAA hn fun o es ep ho hd r => ?_; try clear hn)
  rcases x.keep L o ho hL with q | ⟨_, sl, q⟩
  · exact ⟨o, es, ep, q, hd, r⟩
  · exact ⟨_, es, ep, q, hd, r⟩
theorem Ext.cell {c : Cx} {S S' : Gs} (x : Ext c S S') {k : Addr} {v : Option Value} (hk : k ∉ S.reg) (hc : S.h.IsCell k v) : S'.h.IsCell k v := by
  (refine xEA hc fun o ho hd => ?_; try clear hc)
  rcases x.keep k o ho hk with q | ⟨_, sl, q⟩
  · exact ⟨o, q, hd⟩
  · exact ⟨_, q, hd⟩

noncomputable abbrev Fr := PySem.Str → Option D
noncomputable def upd (fr : Fr) (x : PySem.Str) (d : D) : Fr := fun y => if y = x then some d else fr y

/-- the running frame's names -/
structure EnvOk (G : Amb) (c : Cx) (env : Env) (fr : Fr) (S : Gs) : Prop where
  kind : env.scope.kind = .function
  glob : env.globals = mainGlobals
  blt : env.builtins = builtinsNs
  frame : env.frame = c.fenv.frame
  loc : env.locals ∈ c.fs ++ c.X
  vars : ∃ m, S.h.Ns env.locals m ∧ ∀ x d, fr x = some d → env.kindOf x = some .local → ∃ v, m x = some v ∧ Rv G c S v d
  cell : ∀ x, (env.kindOf x = some .cell ∨ env.kindOf x = some .free) → ∃ k v0, env.cells.lookup x = some k ∧ S.h.IsCell k v0 ∧ ∀ d, fr x = some d → ∃ v, v0 = some v ∧ Rv G c S v d
  own : ∀ x k, env.cells.lookup x = some k → k ∈ c.X
  apart : ∀ x y k, env.cells.lookup x = some k → env.cells.lookup y = some k → x = y

theorem Heaps.big {G : Amb} {c : Cx} {S : Gs} (H : Heaps G c S) : 1 < S.h.objs.size := by
  (refine xEEEA H.ok.g fun o _ _ ho _ => ?_)
  have := Heap.lt_size (H.stays _ _ ho)
  exact Nat.lt_trans (by decide) this
theorem Heaps.vol_new {G : Amb} {c : Cx} {S : Gs} (H : Heaps G c S) {a : Addr} (ha : a ∈ vol c S) : G.base.get? a = none := by
  rcases List.mem_append.mp ha with q | q
  · exact H.new a q
  · rcases List.mem_append.mp q with q | q
    · exact (H.funs.mem q).1
    · exact (H.xs a q).2.2

theorem Ext.env {G : Amb} {c : Cx} {env : Env} {fr : Fr} {S S' : Gs} (H : Heaps G c S) (x : Ext c S S') (V : EnvOk G c env fr S) : EnvOk G c env fr S' := by
  have hL : env.locals ∉ S.reg := by
    rcases List.mem_append.mp V.loc with q | q
    · exact (H.fdict _ q).2
    · exact (H.xs _ q).2.1
  refine ⟨V.kind, V.glob, V.blt, V.frame, V.loc, ?_, fun y hy => ?_, V.own, V.apart⟩
  · (refine xEA V.vars fun m hn hm => ?_)
    exact ⟨m, x.ns hL hn, fun y d hd hk => let ⟨v, hv, r⟩ := hm y d hd hk; ⟨v, hv, r.ext x⟩⟩
  · (refine xEEAA (V.cell y hy) fun k v0 hl hc hd => ?_)
    exact ⟨k, v0, hl, x.cell (H.xs k (V.own y k hl)).2.1 hc, fun d q => let ⟨v, hv, r⟩ := hd d q; ⟨v, hv, r.ext x⟩⟩
end Mine
end
section
open PySem PySem.W PyProof.Rows
namespace Mine

/-- the shared state with another heap and another token -/
noncomputable abbrev ShT (s : Shared) (h : Heap) (tk : Nat) : Shared := { s with heap := h, toks := tk }
inductive Out (α : Type) where
  | val (a : α)
  | exc (X : String) (msg : PySem.Str)
theorem nVE {α : Type} {a : α} {X : String} {m : PySem.Str} {P : Prop} (h : Out.val a = Out.exc X m) : P := by cases h
theorem nEV {α : Type} {a : α} {X : String} {m : PySem.Str} {P : Prop} (h : Out.exc X m = Out.val a) : P := by cases h
theorem valE {α : Type} {a b : α} (h : Out.val a = Out.val b) : a = b := by cases h; rfl
theorem excA {α : Type} {X Y : String} {m k : PySem.Str} (h : (Out.exc X m : Out α) = .exc Y k) : X = Y := by cases h; rfl
theorem excB {α : Type} {X Y : String} {m k : PySem.Str} (h : (Out.exc X m : Out α) = .exc Y k) : m = k := by cases h; rfl

/-- an exception on its way: hr is the heap when it was raised, the left frames' objects out of sight -/
noncomputable def Thr (G : Amb) (c : Cx) (hr : Heap) (e : Addr) (X : String) (msg : PySem.Str) (h' : Heap) : Prop :=
  (∃ tk, Heap.MadeExcOf hr h' e (.type X) [.str msg tk]) ∨
  ∃ t tk, h'.TupAt t [.str msg tk] ∧ hr.get? t = none ∧ hr.get? e = none ∧ hr.UpToSlots h' ∧
    (Heap.FlyingW (hideAll hr c.fs) c.stack e (.type X) (.ref t) h' ∨ ∃ L, c.fenv.frame = some L ∧ Heap.HeldW (hideAll hr c.fs) c.stack e (.type X) (.ref t) L h')

/-- what a tree does: from S (its heap is s's) to an outcome, the store behind it being σ' -/
noncomputable def Tr {α β : Type} (G : Amb) (c : Cx) (S : Gs) (s : Shared) (R : Gs → α → β → Prop) (t : Sem α) (out : Out β) (σ' : List AO) : Prop :=
  ∀ (Q : α → Shared → Prop) (E : Value → Shared → Prop),
    (∀ b, out = .val b → ∀ a (S' : Gs) tk, S'.σ = σ' → Heaps G c S' → Ext c S S' → R S' a b → Q a (ShT s S'.h tk)) →
    (∀ X msg, out = .exc X msg → ∀ (S' : Gs) e h' tk, S'.σ = σ' → Heaps G c S' → Ext c S S' → Thr G c S'.h e X msg h' → E (.ref e) (ShT s h' tk)) →
    wpAny G.M c.A t Q E s

section
variable {G : Amb} {c : Cx} {S : Gs} {s : Shared}

theorem Tr.cast {α β : Type} {R : Gs → α → β → Prop} {t : Sem α} {o o' : Out β} {σ1 σ' : List AO} (e : some (o, σ1) = some (o', σ')) (h : Tr G c S s R t o σ1) : Tr G c S s R t o' σ' := by (have k1 := s2A e; have k2 := s2B e; clear e; subst k1 k2); exact h
theorem Tr.pure {α β : Type} {R : Gs → α → β → Prop} {a : α} {b : β} (H : Heaps G c S) (hs : s.heap = S.h) (h : R S a b) : Tr G c S s R (pure a : Sem α) (.val b) S.σ :=
  fun Q E hv _ => wpAny_pure (by have := hv b rfl a S s.toks rfl H (.refl ..) h; rw [← hs] at this; exact this)

theorem Tr.bind {α β γ δ : Type} {R₁ : Gs → α → β → Prop} {R₂ : Gs → γ → δ → Prop} {t : Sem α} {f : α → Sem γ} {out₁ : Out β} {out₂ : Out δ} {σ₁ σ₂ : List AO}
    (h₁ : Tr G c S s R₁ t out₁ σ₁)
    (hv : ∀ b, out₁ = .val b → ∀ a (S₁ : Gs) tk, S₁.σ = σ₁ → Heaps G c S₁ → Ext c S S₁ → R₁ S₁ a b → Tr G c S₁ (ShT s S₁.h tk) R₂ (f a) out₂ σ₂)
    (he : ∀ X msg, out₁ = .exc X msg → out₂ = .exc X msg ∧ σ₂ = σ₁) : Tr G c S s R₂ (t >>= f) out₂ σ₂ := by
  intro Q E hq hx
  refine wpAny_bind (h₁ _ E (fun b hb a S₁ tk e1 H1 x1 r1 => ?_) fun X msg hm S₁ e h' tk e1 H1 x1 th => ?_)
  · exact hv b hb a S₁ tk e1 H1 x1 r1 Q E (fun b2 hb2 a2 S2 tk2 e2 H2 x2 r2 => hq b2 hb2 a2 S2 tk2 e2 H2 (x1.trans x2) r2)
      fun X msg hm S2 e h' tk2 e2 H2 x2 th => hx X msg hm S2 e h' tk2 e2 H2 (x1.trans x2) th
  · (refine xA (he X msg hm) fun h2 h3 => ?_)
    exact hx X msg h2 S₁ e h' tk (e1.trans h3.symm) H1 x1 th

theorem Tr.mono {α β : Type} {R R' : Gs → α → β → Prop} {t : Sem α} {out : Out β} {σ' : List AO} (h : Tr G c S s R t out σ') (hr : ∀ S' a b, Ext c S S' → R S' a b → R' S' a b) : Tr G c S s R' t out σ' :=
  fun Q E hq hx => h Q E (fun b hb a S' tk e H x r => hq b hb a S' tk e H x (hr _ _ _ x r)) hx

theorem Tr.of_wp {α β : Type} {R : Gs → α → β → Prop} {t : Sem α} {b : β} {σ' : List AO}
    (h : ∀ (Q : α → Shared → Prop) (E : Value → Shared → Prop), (∀ a (S' : Gs) tk, S'.σ = σ' → Heaps G c S' → Ext c S S' → R S' a b → Q a (ShT s S'.h tk)) → wpAny G.M c.A t Q E s) :
    Tr G c S s R t (.val b) σ' := fun Q E hq _ => h Q E fun a S' tk e H x r => hq b rfl a S' tk e H x r

/-- ahead: steps that touch nothing -/
theorem Tr.of_imp {α β : Type} {R : Gs → α → β → Prop} {t t' : Sem α} {out : Out β} {σ' : List AO} (h : Tr G c S s R t out σ')
    (k : ∀ (Q : α → Shared → Prop) (E : Value → Shared → Prop), wpAny G.M c.A t Q E s → wpAny G.M c.A t' Q E s) : Tr G c S s R t' out σ' :=
  fun Q E hq hx => k Q E (h Q E hq hx)

theorem Tr.standAt {α β : Type} {R : Gs → α → β → Prop} {p : Pos} {f : Unit → Sem α} {out : Out β} {σ' : List AO} (h : Tr G c S s R (f ()) out σ') : Tr G c S s R (standAt p >>= f) out σ' :=
  h.of_imp fun _ _ w => wpAny_bind (wpAny_standAt w)
theorem Tr.holding {α β : Type} {R : Gs → α → β → Prop} {vs : List Value} {t : Sem α} {out : Out β} {σ' : List AO} (h : Tr G c S s R t out σ') : Tr G c S s R (PySem.holding vs t) out σ' :=
  h.of_imp fun _ _ w => wpAny_holding w
end

noncomputable abbrev Mo (β : Type) := Fr → List AO → Option (Out β × List AO)
noncomputable def Mo.pure {β : Type} (b : β) : Mo β := fun _ σ => some (.val b, σ)
noncomputable def Mo.fail {β : Type} : Mo β := fun _ _ => none
noncomputable def Mo.bind {α β : Type} (m : Mo α) (f : α → Mo β) : Mo β := fun fr σ => match m fr σ with
  | some (.val a, σ') => f a fr σ'
  | some (.exc X msg, σ') => some (.exc X msg, σ')
  | none => none
noncomputable def Mo.opt {β : Type} (o : Option β) : Mo β := fun _ σ => o.map fun b => (.val b, σ)
noncomputable def Mo.st {β : Type} (f : List AO → Option (Out β × List AO)) : Mo β := fun _ σ => f σ
noncomputable def Mo.var (x : PySem.Str) : Mo D := fun fr σ => (fr x).map fun d => (.val d, σ)

structure Run (G : Amb) (hn : Bool) (n : Nat) (Z : Scope) (c : Cx) (env : Env) (fr : Fr) (S : Gs) (s : Shared) : Prop where
  scope : env.scope = Z
  room : c.A.depth + 3 * n < recursionLimit
  units : c.A.units + 30 * n < cLine
  hand : hn = true → c.A.handled = none
  heap : s.heap = S.h
  H : Heaps G c S
  V : EnvOk G c env fr S

theorem Run.step {G : Amb} {hn : Bool} {n : Nat} {Z : Scope} {c : Cx} {env : Env} {fr : Fr} {S S' : Gs} {s : Shared} {tk : Nat} (r : Run G hn n Z c env fr S s) (H : Heaps G c S') (x : Ext c S S') :
    Run G hn n Z c env fr S' (ShT s S'.h tk) := ⟨r.scope, r.room, r.units, r.hand, rfl, H, x.env r.H r.V⟩

noncomputable def Ev (G : Amb) (hn : Bool) (n : Nat) (Z : Scope) (e : Expr) (m : Mo D) : Prop :=
  ∀ c env fr S s out σ', Run G hn n Z c env fr S s → m fr S.σ = some (out, σ') → Tr G c S s (Rv G c) (eval e env) out σ'

/-- a test -/
noncomputable def Cd (G : Amb) (hn : Bool) (n : Nat) (Z : Scope) (e : Expr) (m : Mo Bool) : Prop :=
  ∀ c env fr S s out σ', Run G hn n Z c env fr S s → m fr S.σ = some (out, σ') → Tr G c S s (fun _ a b => a = b) (isTrue e env (eval e env)) out σ'

section
variable {G : Amb} {c : Cx} {S : Gs} {s : Shared} {fr : Fr}
theorem Tr.bindM {α β γ δ : Type} {R₁ : Gs → α → β → Prop} {R₂ : Gs → γ → δ → Prop} {t : Sem α} {k : α → Sem γ} {m : Mo β} {f : β → Mo δ} {out : Out δ} {σ' : List AO}
    (hm : Mo.bind m f fr S.σ = some (out, σ')) (h₁ : ∀ out₁ σ₁, m fr S.σ = some (out₁, σ₁) → Tr G c S s R₁ t out₁ σ₁)
    (hv : ∀ b a (S₁ : Gs) tk, Heaps G c S₁ → Ext c S S₁ → R₁ S₁ a b → f b fr S₁.σ = some (out, σ') → Tr G c S₁ (ShT s S₁.h tk) R₂ (k a) out σ') :
    Tr G c S s R₂ (t >>= k) out σ' := by
  unfold Mo.bind at hm
  cases q : m fr S.σ with
  | none => rw [q] at hm; exact nnS hm
  | some p =>
    obtain ⟨o₁, σ₁⟩ := p
    rw [q] at hm
    cases o₁ with
    | val b =>
      refine Tr.bind (h₁ _ _ q) (fun b' hb => ?_) fun X msg hx => by exact nVE hx
      (have k1 := valE hb; clear hb; subst k1)
      exact fun a S₁ tk e1 H1 x1 r1 => hv b a S₁ tk H1 x1 r1 (e1.symm ▸ hm)
    | exc X msg =>
      refine Tr.bind (h₁ _ _ q) (fun b' hb => by exact nEV hb) fun X' msg' hx => ?_
      (have k1 := excA hx; have k2 := excB hx; clear hx; subst k1 k2); (have k1 := s2A hm; have k2 := s2B hm; clear hm; subst k1 k2)
      exact ⟨rfl, rfl⟩
end

section
variable {G : Amb} {hn : Bool} {n : Nat} {Z : Scope}

/-- a value: a step that makes none of the store's objects and touches no object -/
theorem Tr.tok {G : Amb} {c : Cx} {S : Gs} {s : Shared} {α β : Type} {R : Gs → α → β → Prop} {t : Sem α} {b : β} (H : Heaps G c S) (hs : s.heap = S.h)
    (h : ∀ (Q : α → Shared → Prop) (E : Value → Shared → Prop), (∀ a tk, R S a b → Q a { s with toks := tk }) → wpAny G.M c.A t Q E s) : Tr G c S s R t (.val b) S.σ :=
  Tr.of_wp fun Q E hq => h Q E fun a tk r => by
    have := hq a S tk rfl H (.refl ..) r
    rw [← hs] at this; exact this

theorem Ev.kNone {k pos} : Ev G hn n Z (.Constant .none k pos) (Mo.pure .none) := by
  intro c env fr S s out σ' r hm
  refine Tr.cast hm ?_
  exact Tr.tok r.H r.heap fun Q E hq => wpAny_pure (hq _ s.toks .none)
theorem Ev.kBool {b k pos} : Ev G hn n Z (.Constant (.bool b) k pos) (Mo.pure (.bool b)) := by
  intro c env fr S s out σ' r hm
  refine Tr.cast hm ?_
  exact Tr.tok r.H r.heap fun Q E hq => wpAny_pure (hq _ s.toks (.bool b))
theorem Ev.kInt {i k pos} : Ev G hn n Z (.Constant (.int i) k pos) (Mo.pure (.int i)) := by
  intro c env fr S s out σ' r hm
  refine Tr.cast hm ?_
  exact Tr.tok r.H r.heap fun Q E hq => wpAny_mkInt (hq _ _ (.int i _))
theorem Ev.kStr {x k pos} (hx : x.length ≤ sizeLine) : Ev G hn n Z (.Constant (.str x) k pos) (Mo.pure (.str x)) := by
  intro c env fr S s out σ' r hm
  refine Tr.cast hm ?_
  exact Tr.tok r.H r.heap fun Q E hq => wpAny_mkText (hq _ _ (.str x _ hx))

theorem kindOf_scope {env : Env} {Z : Scope} {x : PySem.Str} (h : env.scope = Z) : env.kindOf x = Z.names.lookup x := by unfold Env.kindOf; rw [h]

theorem Ev.loc {x pos} (hk : Z.names.lookup x = some .local) (hd : (x == ("__debug__" : PySem.Str)) = false) : Ev G hn n Z (.Name x pos) (Mo.var x) := by
  intro c env fr S s out σ' r hm
  unfold Mo.var at hm
  (refine xEA (Option.map_eq_some_iff.mp hm) fun d hd1 hd2 => ?_)
  (have k1 := p2A hd2; have k2 := p2B hd2; clear hd2; subst k1 k2)
  (refine xEA r.V.vars fun m hns hv => ?_)
  (refine xEA (hv x d hd1 ((kindOf_scope r.scope).trans hk)) fun v hmv rv => ?_)
  exact Tr.tok r.H r.heap fun Q E hq => wpAny_Name (wpAny_loadName_local r.V.kind ((kindOf_scope r.scope).trans hk) (by rw [r.heap]; exact hns) hmv (hq _ s.toks rv)) hd
theorem Ev.cel {x pos} (hk : Z.names.lookup x = some .cell) (hd : (x == ("__debug__" : PySem.Str)) = false) : Ev G hn n Z (.Name x pos) (Mo.var x) := by
  intro c env fr S s out σ' r hm
  unfold Mo.var at hm
  (refine xEA (Option.map_eq_some_iff.mp hm) fun d hd1 hd2 => ?_)
  (have k1 := p2A hd2; have k2 := p2B hd2; clear hd2; subst k1 k2)
  have hk' := (kindOf_scope r.scope).trans hk
  (refine xEEAA (r.V.cell x (.inl hk')) fun k v0 hl hc hv => ?_)
  (refine xEA (hv d hd1) fun v q0z rv => ?_; subst q0z)
  exact Tr.tok r.H r.heap fun Q E hq => wpAny_Name (wpAny_loadName_cell r.V.kind hk' hl (by rw [r.heap]; exact hc) (hq _ s.toks rv)) hd
theorem Heaps.kin {c : Cx} {S : Gs} (H : Heaps G c S) : G.K.In S.h := H.ok.inK.keeps H.stays
theorem Ev.glo {x pos v} (hk : Z.names.lookup x = some .globalImplicit) (e : nsIn G.K mainGlobals x = some (some v)) (hd : (x == ("__debug__" : PySem.Str)) = false) : Ev G hn n Z (.Name x pos) (Mo.pure (.glob v)) := by
  intro c env fr S s out σ' r hm
  refine Tr.cast hm ?_
  refine Tr.tok r.H r.heap fun Q E hq => Calls.Name_function_global r.V.kind ((kindOf_scope r.scope).trans hk) (Calls.loadGlobal_global (mg := G.mg) (v := v) ?_ (mg_of r.H.ok.inK r.H.ok.g e) (hq _ s.toks (.glob v))) hd
  rw [r.V.glob, r.heap]; exact r.H.ok.g.keeps r.H.stays
theorem Ev.blt {x pos v} (hk : Z.names.lookup x = some .globalImplicit) (e : nsIn G.K mainGlobals x = some none) (hv : bootBuiltins x = some v) (hnm : x ≠ "__name__") (hd : (x == ("__debug__" : PySem.Str)) = false) : Ev G hn n Z (.Name x pos) (Mo.pure (.glob v)) := by
  intro c env fr S s out σ' r hm
  refine Tr.cast hm ?_
  refine Tr.tok r.H r.heap fun Q E hq => Calls.Name_function_global r.V.kind ((kindOf_scope r.scope).trans hk) (Calls.loadGlobal_builtin (mg := G.mg) (mb := G.mb) (v := v) ?_ (mg_none_of r.H.ok.inK r.H.ok.g e) ?_ ((r.H.ok.builtins x hnm).trans hv) (hq _ s.toks (.glob v))) hd
  · rw [r.V.glob, r.heap]; exact r.H.ok.g.keeps r.H.stays
  · rw [r.V.blt, r.heap]; exact r.H.ok.b.keeps r.H.stays
end
end Mine
end
section
open PySem PySem.W PyProof.Rows
namespace Mine

theorem mem_reg : ∀ {adr : Adr} {σ : List AO} {a : Addr}, a ∈ reg adr σ → ∃ (n : Nat) (p : Addr × Addr) (o : AO), adr[n]? = some p ∧ σ[n]? = some o ∧ a ∈ regOf p o
  | [], _, _, h => by cases h
  | _ :: _, [], _, h => by cases h
  | p :: ps, o :: os, a, h => by
    rcases List.mem_append.mp h with q | q
    · exact ⟨0, p, o, rfl, rfl, q⟩
    · (refine xEEEAA (mem_reg q) fun n p' o' h1 h2 h3 => ?_)
      exact ⟨n + 1, p', o', h1, h2, h3⟩
theorem reg_mem : ∀ {adr : Adr} {σ : List AO} {n : Nat} {p : Addr × Addr} {o : AO}, adr[n]? = some p → σ[n]? = some o → ∀ a ∈ regOf p o, a ∈ reg adr σ
  | [], _, n, _, _, h, _, _, _ => by simp at h
  | _ :: _, [], n, _, _, _, h, _, _ => by simp at h
  | p :: ps, o :: os, 0, _, _, h1, h2, a, ha => by
    simp at h1 h2; subst h1 h2
    exact List.mem_append_left _ ha
  | p :: ps, o :: os, n + 1, _, _, h1, h2, a, ha => List.mem_append_right _ (reg_mem (by simpa using h1) (by simpa using h2) a ha)
theorem reg_append : ∀ {adr : Adr} {σ : List AO} {p : Addr × Addr} {o : AO}, adr.length = σ.length → reg (adr ++ [p]) (σ ++ [o]) = reg adr σ ++ regOf p o
  | [], [], p, o, _ => by simp [reg]
  | [], _ :: _, _, _, h => by simp at h
  | _ :: _, [], _, _, h => by simp at h
  | p :: ps, o :: os, p', o', h => by
    show regOf p o ++ reg (ps ++ [p']) (os ++ [o']) = _
    rw [reg_append (by simpa using h)]
    show _ = (regOf p o ++ reg ps os) ++ _
    rw [List.append_assoc]

section
variable {G : Amb} {c : Cx} {S : Gs}

theorem Heaps.reg_some (H : Heaps G c S) {a : Addr} (ha : a ∈ S.reg) : ∃ o, S.h.get? a = some o := by
  (refine xEEEAA (mem_reg ha) fun n p o h1 h2 h3 => ?_)
  have := H.store n p o h1 h2
  cases o with
  | dead => cases h3
  | lst ds =>
    (refine xEEA this fun _ _ ho _ => ?_; try clear this)
    cases h3 with
    | head => exact ⟨_, ho⟩
    | tail _ q => cases q
  | ins C at_ =>
    (refine xAEEA this fun ho _ _ hd _ => ?_; try clear this)
    cases h3 with
    | head => exact ⟨_, ho⟩
    | tail _ q =>
      cases q with
      | head => exact ⟨_, hd⟩
      | tail _ q => cases q
theorem Heaps.fs_some (H : Heaps G c S) {a : Addr} (ha : a ∈ c.fs) : ∃ o, S.h.get? a = some o := by
  (refine xA (H.fdict a ha) fun q0z _ => ?_; refine xEEEA q0z fun o _ _ ho _ => ?_)
  exact ⟨o, ho⟩
theorem Heaps.vol_some (H : Heaps G c S) {a : Addr} (ha : a ∈ vol c S) : ∃ o, S.h.get? a = some o := by
  rcases List.mem_append.mp ha with q | q
  · exact H.reg_some q
  · rcases List.mem_append.mp q with q | q
    · exact H.fs_some q
    · exact (H.xs a q).1
theorem Heaps.size_notin (H : Heaps G c S) : S.h.objs.size ∉ vol c S := fun hm => by
  (refine xE (H.vol_some hm) fun o ho => ?_)
  exact Nat.lt_irrefl _ (Heap.lt_size ho)

theorem ORep.mono {P : Params} {adr adr' : Adr} {V V' : List Addr} {h h' : Heap} {p : Addr × Addr} {o : AO} (hp : Pres V h h') (ha : AdrLe adr adr') (hv : VolLe h V V') (hk : ∀ a ∈ regOf p o, ∀ x, h.get? a = some x → h'.get? a = some x) (r : ORep P adr V h p o) : ORep P adr' V' h' p o := by
  cases o with
  | dead => trivial
  | lst ds =>
    obtain ⟨n, vs, ho, hz, r⟩ := r
    exact ⟨n, vs, hk _ (.head _) _ ho, hz, VRs.mono hp ha hv r⟩
  | ins C at_ =>
    obtain ⟨ho, es, n, hd, r⟩ := r
    exact ⟨hk _ (.head _) _ ho, es, n, hk _ (.tail _ (.head _)) _ hd, VRe.mono hp ha hv r⟩

/-- all that stands stays: the heap is only grown -/
theorem Heaps.grow (H : Heaps G c S) {h' : Heap} (k : ∀ b o, S.h.get? b = some o → h'.get? b = some o) : Heaps G c { S with h := h' } ∧ Ext c S { S with h := h' } := by
  have xx : Ext c S { S with h := h' } := ⟨.refl _, fun b o e _ => .inl (k b o e), fun _ h => .inl h, fun a o e => ⟨o, k a o e⟩⟩
  refine ⟨⟨H.ok, fun b o e => k b o (H.stays b o e), H.frames, H.funs.of_keeps fun b o e _ => ⟨o, k b o e, rfl⟩, fun L hL => ?_, fun L hL => ?_, H.len, fun n p o h1 h2 => ?_, H.new, H.nodup⟩, xx⟩
  · (refine xA (H.fdict L hL) fun q0z r => ?_; refine xEEEA q0z fun o es m ho hd => ?_)
    exact ⟨⟨o, es, m, k _ _ ho, hd⟩, r⟩
  · (refine xA (H.xs L hL) fun q0z r => ?_; refine xE q0z fun o ho => ?_)
    exact ⟨⟨o, k _ _ ho⟩, r⟩
  · exact ORep.mono xx.pres xx.adr xx.volLe (fun a _ x e => k a x e) (H.store n p o h1 h2)
theorem Heaps.push (H : Heaps G c S) (o : Obj) : Heaps G c { S with h := S.h.push o } ∧ Ext c S { S with h := S.h.push o } := H.grow fun _ _ e => Heap.get?_push_of_some _ e
end
end Mine
end
section
open PySem PySem.W PyProof.Rows
namespace Mine

/-- what a tree without names asks of where it runs -/
structure Ho (G : Amb) (hn : Bool) (n : Nat) (c : Cx) (S : Gs) (s : Shared) : Prop where
  room : c.A.depth + 3 * n < recursionLimit
  units : c.A.units + 30 * n < cLine
  hand : hn = true → c.A.handled = none
  heap : s.heap = S.h
  H : Heaps G c S
theorem Run.ho {G : Amb} {hn : Bool} {n : Nat} {Z : Scope} {c : Cx} {env : Env} {fr : Fr} {S : Gs} {s : Shared} (r : Run G hn n Z c env fr S s) : Ho G hn n c S s := ⟨r.room, r.units, r.hand, r.heap, r.H⟩
noncomputable abbrev F1 := D → List AO → Option (Out D × List AO)
noncomputable abbrev F2 := D → D → List AO → Option (Out D × List AO)
noncomputable def Op1 (G : Amb) (hn : Bool) (n : Nat) (t : Value → Sem Value) (f : F1) : Prop :=
  ∀ c S s v d out σ', Ho G hn n c S s → Rv G c S v d → f d S.σ = some (out, σ') → Tr G c S s (Rv G c) (t v) out σ'
noncomputable def Op2 (G : Amb) (hn : Bool) (n : Nat) (t : Value → Value → Sem Value) (f : F2) : Prop :=
  ∀ c S s va vb da db out σ', Ho G hn n c S s → Rv G c S va da → Rv G c S vb db → f da db S.σ = some (out, σ') → Tr G c S s (Rv G c) (t va vb) out σ'

noncomputable def Mo.op1 (f : F1) (m : Mo D) : Mo D := Mo.bind m fun a _ σ => f a σ
noncomputable def Mo.op2 (f : F2) (m k : Mo D) : Mo D := Mo.bind m fun a => Mo.bind k fun b _ σ => f a b σ

noncomputable def truD : D → Option Bool
  | .none => some false
  | .bool b => some b
  | .int i => some (decide (i ≠ 0))
  | .str x => some (decide (x.length ≠ 0))
  | .lst ds => some (!ds.isEmpty)
  | _ => Option.none
noncomputable def Mo.tru (m : Mo D) : Mo Bool := Mo.bind m fun a => Mo.opt (truD a)

section
variable {G : Amb} {hn : Bool} {n : Nat} {Z : Scope} {c : Cx} {S : Gs} {s : Shared}

theorem trOperate {R : Gs → Value → D → Prop} {vs : List Value} {t : Sem Value} {out : Out D} {σ' : List AO} (h : Tr G c S s R t out σ') : Tr G c S s R (operate vs t) out σ' :=
  h.of_imp fun _ _ w => wpAny_operating w

theorem Ev.bin {l r : Expr} {op : Operator} {pos : Pos} {ml mr : Mo D} {f : F2} (hl : Ev G hn n Z l ml) (hr : Ev G hn n Z r mr) (ho : Op2 G hn n (binaryOp op) f) : Ev G hn n Z (.BinOp l op r pos) (Mo.op2 f ml mr) := by
  intro c env fr S s out σ' q hm
  show Tr G c S s (Rv G c) (do let a ← eval l env; let b ← holding [a] (eval r env); standAt pos; operate [a, b] (binaryOp op a b)) out σ'
  refine Tr.bindM hm (fun o1 σ1 h1 => hl c env fr S s o1 σ1 q h1) fun da va S1 tk H1 x1 ra h2 => ?_
  have q1 := q.step (tk := tk) H1 x1
  refine Tr.bindM h2 (fun o2 σ2 h3 => (hr c env fr S1 _ o2 σ2 q1 h3).holding) fun db vb S2 tk2 H2 x2 rb h4 => ?_
  have q2 := q1.step (tk := tk2) H2 x2
  exact Tr.standAt (trOperate (ho c S2 _ va vb da db out σ' q2.ho (ra.ext x2) rb h4))

theorem Ev.cmp {l r : Expr} {op : CmpOp} {pos : Pos} {ml mr : Mo D} {f : F2} (hl : Ev G hn n Z l ml) (hr : Ev G hn n Z r mr) (ho : Op2 G hn n (compareOp op) f) (hb : behindInMarks op r = false := by rfl) : Ev G hn n Z (.Compare l [op] [r] pos) (Mo.op2 f ml mr) := by
  intro c env fr S s out σ' q hm
  rw [eval_Compare1, markedBehindIn_of_false hb]
  refine Tr.bindM hm (fun o1 σ1 h1 => hl c env fr S s o1 σ1 q h1) fun da va S1 tk H1 x1 ra h2 => ?_
  have q1 := q.step (tk := tk) H1 x1
  refine Tr.bindM h2 (fun o2 σ2 h3 => (hr c env fr S1 _ o2 σ2 q1 h3).holding) fun db vb S2 tk2 H2 x2 rb h4 => ?_
  have q2 := q1.step (tk := tk2) H2 x2
  exact Tr.standAt (trOperate (ho c S2 _ va vb da db out σ' q2.ho (ra.ext x2) rb h4))

theorem sizeLine63 {k : Nat} (h : k ≤ sizeLine) : (k : Int) < 2 ^ 63 := by
  have : sizeLine = 16777216 := rfl
  omega

/-- truth of a value -/
theorem trTruthy {v : Value} {d : D} {b : Bool} (q : Ho G hn n c S s) (r : Rv G c S v d) (ht : truD d = some b) : Tr G c S s (fun _ a b => a = b) (truthy v) (.val b) S.σ := by
  refine Tr.tok q.H q.heap fun Q E hq => ?_
  cases r with
  | none => (have k1 := s1E ht; clear ht; subst k1); exact wpAny_pure (hq _ s.toks rfl)
  | bool b' => (have k1 := s1E ht; clear ht; subst k1); exact wpAny_pure (hq _ s.toks rfl)
  | int i t =>
    (have k1 := s1E ht; clear ht; subst k1)
    refine truthy_int (hq _ s.toks ?_)
    by_cases h : i = 0 <;> simp [h]
  | str x t hx =>
    (have k1 := s1E ht; clear ht; subst k1)
    refine PySem.P.truthy_str (by have := sizeLine63 hx; omega) (hq _ _ ?_)
    by_cases h : x.length = 0 <;> simp [h]
  | tup e hc hd hz hv rs => exact nnS ht
  | @lst a o vs n ds e hc hd hz hv rs =>
    (have k1 := s1E ht; clear ht; subst k1)
    refine wpAny_truthy_list (items := vs) ⟨_, by rw [q.heap]; exact e, hc, _, hd⟩ (sizeLine63 hz) (hq _ _ ?_)
    have := rs.length
    cases ds with
    | nil => simp at this; simp [this]
    | cons d ds =>
      have : vs ≠ #[] := by intro h; subst h; simp at this
      simp [this]
  | dct => exact nnS ht
  | ref => exact nnS ht
  | glob => exact nnS ht
  | exc => exact nnS ht
  | rng => exact nnS ht

theorem Cd.val {e : Expr} {m : Mo D} (h : Ev G hn n Z e m) (he : ∀ env, isTrue e env (eval e env) = (do let v ← eval e env; standAt e.pos; holding [v] (truthy v)) := by intro _; rfl) : Cd G hn n Z e (Mo.tru m) := by
  intro c env fr S s out σ' q hm
  rw [he]
  refine Tr.bindM hm (fun o1 σ1 h1 => h c env fr S s o1 σ1 q h1) fun da va S1 tk H1 x1 ra h2 => ?_
  (refine xEA (Option.map_eq_some_iff.mp h2) fun b hb h3 => ?_)
  (have k1 := p2A h3; have k2 := p2B h3; clear h3; subst k1 k2)
  exact Tr.standAt (Tr.holding (trTruthy (q.step H1 x1).ho ra hb))

/-- tests of two parts -/
noncomputable def Mo.ite {α : Type} (m : Mo Bool) (a b : Mo α) : Mo α := Mo.bind m fun t => if t then a else b

theorem Cd.cmp {l r : Expr} {op : CmpOp} {pos : Pos} {ml mr : Mo D} {f : F2} (hl : Ev G hn n Z l ml) (hr : Ev G hn n Z r mr) (ho : Op2 G hn n (compareOp op) f) (hb : behindInMarks op r = false := by rfl) : Cd G hn n Z (.Compare l [op] [r] pos) (Mo.tru (Mo.op2 f ml mr)) := by
  intro c env fr S s out σ' q hm
  rw [isTrue_Compare1, markedBehindIn_of_false hb]
  have hm' : Mo.bind ml (fun a => Mo.bind mr fun b => Mo.bind (fun _ σ => f a b σ) fun t => Mo.opt (truD t)) fr S.σ = some (out, σ') := by
    rw [← hm]
    unfold Mo.tru Mo.op2 Mo.bind
    dsimp only
    cases ml fr S.σ with
    | none => rfl
    | some p =>
      obtain ⟨o1, σ1⟩ := p
      cases o1 with
      | exc => rfl
      | val a =>
        dsimp only
        cases mr fr σ1 with
        | none => rfl
        | some p =>
          obtain ⟨o1, σ1⟩ := p
          cases o1 with
          | exc => rfl
          | val b => rfl
  refine Tr.bindM hm' (fun o1 σ1 h1 => hl c env fr S s o1 σ1 q h1) fun da va S1 tk H1 x1 ra h2 => ?_
  have q1 := q.step (tk := tk) H1 x1
  refine Tr.bindM h2 (fun o2 σ2 h3 => (hr c env fr S1 _ o2 σ2 q1 h3).holding) fun db vb S2 tk2 H2 x2 rb h4 => ?_
  have q2 := q1.step (tk := tk2) H2 x2
  refine Tr.standAt (Tr.bindM h4 (fun o3 σ3 h5 => trOperate (ho c S2 _ va vb da db o3 σ3 q2.ho (ra.ext x2) rb h5)) fun dt vt S3 tk3 H3 x3 rt h6 => ?_)
  (refine xEA (Option.map_eq_some_iff.mp h6) fun b hb h7 => ?_)
  (have k1 := p2A h7; have k2 := p2B h7; clear h7; subst k1 k2)
  exact Tr.holding (trTruthy (q2.step H3 x3).ho rt hb)

theorem Ev.ite {t a b : Expr} {pos : Pos} {mt : Mo Bool} {ma mb : Mo D} (ht : Cd G hn n Z t mt) (ha : Ev G hn n Z a ma) (hb : Ev G hn n Z b mb) : Ev G hn n Z (.IfExp t a b pos) (Mo.ite mt ma mb) := by
  intro c env fr S s out σ' q hm
  show Tr G c S s (Rv G c) (do if ← isTrue t env (eval t env) then eval a env else eval b env) out σ'
  refine Tr.bindM hm (fun o1 σ1 h1 => ht c env fr S s o1 σ1 q h1) fun b' a' S1 tk H1 x1 ra h2 => ?_
  subst ra
  cases a' with
  | true => exact ha c env fr S1 _ out σ' (q.step H1 x1) h2
  | false => exact hb c env fr S1 _ out σ' (q.step H1 x1) h2
noncomputable def Mo.ands : List (Mo Bool) → Mo Bool
  | [] => Mo.pure true
  | m :: r => Mo.bind m fun b => if b then Mo.ands r else Mo.pure false
noncomputable def Mo.ors : List (Mo Bool) → Mo Bool
  | [] => Mo.pure false
  | m :: r => Mo.bind m fun b => if b then Mo.pure true else Mo.ors r
noncomputable def CdL (G : Amb) (hn : Bool) (n : Nat) (Z : Scope) : List Expr → List (Mo Bool) → Prop
  | [], [] => True
  | e :: es, m :: ms => Cd G hn n Z e m ∧ CdL G hn n Z es ms
  | _, _ => False

theorem trOrs : ∀ {es : List Expr} {ms : List (Mo Bool)}, CdL G hn n Z es ms → ∀ {c env fr S s out σ'}, Run G hn n Z c env fr S s → Mo.ors ms fr S.σ = some (out, σ') → Tr G c S s (fun _ a b => a = b) (allTrue .Or es env) out σ'
  | [], [], _, c, env, fr, S, s, out, σ', q, hm => by refine Tr.cast hm ?_; exact Tr.pure q.H q.heap rfl
  | [], _ :: _, h, _, _, _, _, _, _, _, _, _ => h.elim
  | _ :: _, [], h, _, _, _, _, _, _, _, _, _ => h.elim
  | e :: es, m :: ms, h, c, env, fr, S, s, out, σ', q, hm => by
    show Tr G c S s _ (do match BoolOp.Or, ← isTrue e env (eval e env) with | .And, false => pure false | .Or, true => pure true | _, _ => allTrue .Or es env) out σ'
    refine Tr.bindM hm (fun o1 σ1 h1 => h.1 c env fr S s o1 σ1 q h1) fun b' a' S1 tk H1 x1 ra h2 => ?_
    subst ra
    cases a' with
    | false => exact trOrs h.2 (q.step H1 x1) h2
    | true => refine Tr.cast h2 ?_; exact Tr.pure H1 rfl rfl
theorem Cd.or {es : List Expr} {pos : Pos} {ms : List (Mo Bool)} (h : CdL G hn n Z es ms) : Cd G hn n Z (.BoolOp .Or es pos) (Mo.ors ms) := by
  intro c env fr S s out σ' q hm
  rw [arm_isTrue_BoolOp]
  exact trOrs h q hm

/-- BoolOp for its value -/
noncomputable def Mo.andV : List (Mo D) → Mo D
  | [] => Mo.fail
  | [m] => m
  | m :: r => Mo.bind m fun v => Mo.bind (Mo.opt (truD v)) fun b => if b then Mo.andV r else Mo.pure v
noncomputable def Mo.orV : List (Mo D) → Mo D
  | [] => Mo.fail
  | [m] => m
  | m :: r => Mo.bind m fun v => Mo.bind (Mo.opt (truD v)) fun b => if b then Mo.pure v else Mo.orV r
noncomputable def EvL (G : Amb) (hn : Bool) (n : Nat) (Z : Scope) : List Expr → List (Mo D) → Prop
  | [], [] => True
  | e :: es, m :: ms => Ev G hn n Z e m ∧ EvL G hn n Z es ms
  | _, _ => False

theorem bindOpt {α β : Type} {o : Option α} {f : α → Mo β} {fr : Fr} {σ : List AO} {r : Out β × List AO} (h : Mo.bind (Mo.opt o) f fr σ = some r) : ∃ a, o = some a ∧ f a fr σ = some r := by
  unfold Mo.bind Mo.opt at h
  cases o with
  | none => exact nnS h
  | some a => exact ⟨a, rfl, h⟩

theorem trAndV {pos : Pos} : ∀ {es : List Expr} {ms : List (Mo D)}, EvL G hn n Z es ms → ∀ {c env fr S s out σ'}, Run G hn n Z c env fr S s → Mo.andV ms fr S.σ = some (out, σ') → Tr G c S s (Rv G c) (boolOp pos .And (evalEach es env)) out σ'
  | [], [], _, c, env, fr, S, s, out, σ', q, hm => by exact nnS hm
  | [], _ :: _, h, _, _, _, _, _, _, _, _, _ => h.elim
  | _ :: _, [], h, _, _, _, _, _, _, _, _, _ => h.elim
  | [_], _ :: _ :: _, h, _, _, _, _, _, _, _, _, _ => h.2.elim
  | _ :: _ :: _, [_], h, _, _, _, _, _, _, _, _, _ => h.2.elim
  | [e], [m], h, c, env, fr, S, s, out, σ', q, hm => h.1 c env fr S s out σ' q hm
  | e :: e2 :: es, m :: m2 :: ms, h, c, env, fr, S, s, out, σ', q, hm => by
    show Tr G c S s _ (do
      let v ← eval e env
      standAt pos
      let t ← holding [v] (truthy v)
      match BoolOp.And, t with
      | .And, false | .Or, true => pure v
      | _, _ => boolOp pos .And (evalEach (e2 :: es) env)) out σ'
    refine Tr.bindM hm (fun o1 σ1 h1 => h.1 c env fr S s o1 σ1 q h1) fun d v S1 tk H1 x1 ra h2 => ?_
    have q1 := q.step (tk := tk) H1 x1
    (refine xEA (bindOpt h2) fun b hb h3 => ?_)
    refine Tr.standAt (Tr.bind (Tr.holding (trTruthy q1.ho ra hb)) (fun b' hb' b'' S2 tk2 e2 H2 x2 r2 => ?_) fun _ _ hx => by exact nVE hx)
    (have k1 := valE hb'; clear hb'; subst k1)
    subst r2
    cases b'' with
    | true => exact trAndV h.2 (q1.step H2 x2) (by rw [e2]; exact h3)
    | false => refine Tr.cast h3 ?_; rw [← e2]; exact Tr.pure H2 rfl (ra.ext x2)
theorem Ev.and {es : List Expr} {pos : Pos} {ms : List (Mo D)} (h : EvL G hn n Z es ms) : Ev G hn n Z (.BoolOp .And es pos) (Mo.andV ms) := fun _ _ _ _ _ _ _ q hm => trAndV h q hm
/-- displays -/
noncomputable def Mo.seq : List (Mo D) → Mo (List D)
  | [] => Mo.pure []
  | m :: r => Mo.bind m fun d => Mo.bind (Mo.seq r) fun ds => Mo.pure (d :: ds)
noncomputable def notStar : Expr → Bool
  | .Starred .. => false
  | _ => true
theorem starEach_cons {e : Expr} {es : List Expr} {env : Env} (h : notStar e = true) : starEach (e :: es) env = (false, eval e env) :: starEach es env := by
  cases e <;> first | rfl | exact nFT h

theorem trSpliced {pos : Pos} : ∀ {es : List Expr} {ms : List (Mo D)}, EvL G hn n Z es ms → es.all notStar = true → ∀ {c env fr S s out σ'}, Run G hn n Z c env fr S s → Mo.seq ms fr S.σ = some (out, σ') →
    Tr G c S s (Rvs G c) (spliced (backTo pos (starEach es env))) out σ'
  | [], [], _, _, c, env, fr, S, s, out, σ', q, hm => by refine Tr.cast hm ?_; exact Tr.pure q.H q.heap .nil
  | [], _ :: _, h, _, _, _, _, _, _, _, _, _, _ => h.elim
  | _ :: _, [], h, _, _, _, _, _, _, _, _, _, _ => h.elim
  | e :: es, m :: ms, h, hs, c, env, fr, S, s, out, σ', q, hm => by
    have hs2 := Bool.and_eq_true_iff.mp hs
    rw [starEach_cons hs2.1]
    show Tr G c S s _ (do
      let v ← eval e env
      return [v] ++ (← holding [v] (spliced (backTo pos (starEach es env))))) out σ'
    refine Tr.bindM hm (fun o1 σ1 h1 => h.1 c env fr S s o1 σ1 q h1) fun d v S1 tk H1 x1 ra h2 => ?_
    have q1 := q.step (tk := tk) H1 x1
    refine Tr.bindM h2 (fun o2 σ2 h3 => (trSpliced h.2 hs2.2 q1 h3).holding) fun ds vs S2 tk2 H2 x2 rb h4 => ?_
    refine Tr.cast h4 ?_
    exact Tr.pure H2 rfl (.cons (ra.ext x2) rb)

theorem Rv.newTup (H : Heaps G c S) {vs : List Value} {ds : List D} (hr : Rvs G c S vs ds) (hl : vs.length ≤ sizeLine) {nn : Nat} : Rv G c { S with h := S.h.push { cls := .type "tuple", data := .seq vs.toArray nn } } (.ref S.h.objs.size) (.tup ds) := by
  refine .tup (Heap.get?_push_size _ rfl) rfl rfl (by simpa using hl) H.size_notin ?_
  exact (show Rvs G c _ vs ds from hr.ext (H.push _).2)
theorem Rv.newLst (H : Heaps G c S) {vs : List Value} {ds : List D} (hr : Rvs G c S vs ds) (hl : vs.length ≤ sizeLine) {nn : Nat} : Rv G c { S with h := S.h.push { cls := .type "list", data := .seq vs.toArray nn } } (.ref S.h.objs.size) (.lst ds) := by
  refine .lst (Heap.get?_push_size _ rfl) rfl rfl (by simpa using hl) H.size_notin ?_
  exact (show Rvs G c _ vs ds from hr.ext (H.push _).2)

theorem trNewTuple {vs : List Value} {ds : List D} (q : Ho G hn n c S s) (hr : Rvs G c S vs ds) (hl : ds.length ≤ sizeLine) : Tr G c S s (Rv G c) (newTuple vs) (.val (.tup ds)) S.σ := by
  have hl' : vs.length ≤ sizeLine := by have := VRs.length hr; omega
  refine Tr.of_wp fun Q E hq => wpAny_newObj_type ?_ (by show vs.toArray.size ≤ sizeLine; simpa using hl')
  have := hq (.ref S.h.objs.size) { S with h := S.h.push { cls := .type "tuple", data := .seq vs.toArray } } s.toks rfl (q.H.push _).1 (q.H.push _).2 (Rv.newTup q.H hr hl')
  rw [← q.heap] at this; exact this
theorem trNewList {vs : List Value} {ds : List D} (q : Ho G hn n c S s) (hr : Rvs G c S vs ds) (hl : ds.length ≤ sizeLine) : Tr G c S s (Rv G c) (newList vs) (.val (.lst ds)) S.σ := by
  have hl' : vs.length ≤ sizeLine := by have := VRs.length hr; omega
  refine Tr.of_wp fun Q E hq => wpAny_newObj_type ?_ (by show vs.toArray.size ≤ sizeLine; simpa using hl')
  have := hq (.ref S.h.objs.size) { S with h := S.h.push { cls := .type "list", data := .seq vs.toArray } } s.toks rfl (q.H.push _).1 (q.H.push _).2 (Rv.newLst q.H hr hl')
  rw [← q.heap] at this; exact this

noncomputable def Mo.guard {β : Type} (p : Bool) (b : β) : Mo β := Mo.opt (if p then some b else none)
noncomputable def Mo.tup (ms : List (Mo D)) : Mo D := Mo.bind (Mo.seq ms) fun ds => Mo.guard (decide (ds.length ≤ sizeLine)) (.tup ds)
noncomputable def Mo.lst (ms : List (Mo D)) : Mo D := Mo.bind (Mo.seq ms) fun ds => Mo.guard (decide (ds.length ≤ sizeLine)) (.lst ds)
theorem guardE {β : Type} {p : Bool} {b : β} {fr : Fr} {σ : List AO} {r : Out β × List AO} (h : Mo.guard p b fr σ = some r) : p = true ∧ r = (.val b, σ) := by
  unfold Mo.guard Mo.opt at h
  cases p with
  | false => exact nnS h
  | true => (have k1 := s1E h; clear h; subst k1); exact ⟨rfl, rfl⟩

theorem Ev.tup {es : List Expr} {k : Nat} {pos : Pos} {ms : List (Mo D)} (h : EvL G hn n Z es ms) (hs : es.all notStar = true) : Ev G hn n Z (.Tuple es k pos) (Mo.tup ms) := by
  intro c env fr S s out σ' q hm
  show Tr G c S s (Rv G c) (do standAt pos; newTuple (← spliced (backTo pos (starEach es env)))) out σ'
  refine Tr.standAt (Tr.bindM hm (fun o1 σ1 h1 => trSpliced h hs q h1) fun ds vs S1 tk H1 x1 ra h2 => ?_)
  (refine xA (guardE h2) fun hg e => ?_)
  (have k1 := p2A e; have k2 := p2B e; clear e; subst k1 k2)
  exact trNewTuple (q.step H1 x1).ho ra (of_decide_eq_true hg)
theorem Ev.lst {es : List Expr} {pos : Pos} {ms : List (Mo D)} (h : EvL G hn n Z es ms) (hs : es.all notStar = true) : Ev G hn n Z (.List es pos) (Mo.lst ms) := by
  intro c env fr S s out σ' q hm
  show Tr G c S s (Rv G c) (do standAt pos; newList (← spliced (backTo pos (starEach es env)))) out σ'
  refine Tr.standAt (Tr.bindM hm (fun o1 σ1 h1 => trSpliced h hs q h1) fun ds vs S1 tk H1 x1 ra h2 => ?_)
  (refine xA (guardE h2) fun hg e => ?_)
  (have k1 := p2A e; have k2 := p2B e; clear e; subst k1 k2)
  exact trNewList (q.step H1 x1).ho ra (of_decide_eq_true hg)
end
end Mine
end
section
open PySem PySem.W PyProof.Rows
namespace Mine

noncomputable def Own (env : Env) (a : Addr) : Prop := a = env.locals ∨ ∃ x, env.cells.lookup x = some a

/-- a statement's step: the frame's own names may turn -/
structure ExtS (c : Cx) (env : Env) (S S' : Gs) : Prop where
  adr : AdrLe S.adr S'.adr
  keep : ∀ b o, S.h.get? b = some o → b ∉ S.reg → ¬ Own env b → S'.h.get? b = some o ∨ (b ∈ c.fs ∧ ∃ sl, S'.h.get? b = some { o with slots := sl })
  fresh : ∀ a ∈ S'.reg, a ∈ S.reg ∨ S.h.get? a = none
  live : ∀ a o, S.h.get? a = some o → ∃ o', S'.h.get? a = some o'

theorem Ext.s {c : Cx} {S S' : Gs} (x : Ext c S S') (env : Env) : ExtS c env S S' := ⟨x.adr, fun b o e h _ => x.keep b o e h, x.fresh, x.live⟩
theorem ExtS.refl (c : Cx) (env : Env) (S : Gs) : ExtS c env S S := (Ext.refl c S).s env
theorem ExtS.trans {c : Cx} {env : Env} {S S' S'' : Gs} (x : ExtS c env S S') (y : ExtS c env S' S'') : ExtS c env S S'' := by
  refine ⟨x.adr.trans y.adr, fun b o e hb ho => ?_, fun a ha => ?_, fun a o e => ?_⟩
  · have hb' : b ∉ S'.reg := fun hm => by
      rcases x.fresh b hm with q | q
      · exact hb q
      · rw [e] at q; exact nSn q
    rcases x.keep b o e hb ho with q | ⟨hf, sl, q⟩
    · exact y.keep b o q hb' ho
    · rcases y.keep b _ q hb' ho with q' | ⟨hf', sl', q'⟩
      · exact .inr ⟨hf, sl, q'⟩
      · exact .inr ⟨hf, sl', q'⟩
  · rcases y.fresh a ha with q | q
    · exact x.fresh a q
    · refine .inr ?_
      cases e : S.h.get? a with
      | none => rfl
      | some o => (refine xE (x.live a o e) fun o' e' => ?_); rw [q] at e'; exact nnS e'
  · (refine xE (x.live a o e) fun o' e' => ?_)
    exact y.live a o' e'
theorem ExtS.pres {c : Cx} {env : Env} {S S' : Gs} (x : ExtS c env S S') (hown : ∀ a, Own env a → a ∈ c.fs ++ c.X) : Pres (vol c S) S.h S'.h := fun a o hn e => by
  have h1 : a ∉ S.reg := fun q => hn (List.mem_append_left _ q)
  have h2 : ¬ Own env a := fun q => hn (List.mem_append_right _ (hown a q))
  rcases x.keep a o e h1 h2 with q | ⟨hf, _⟩
  · exact q
  · exact absurd (List.mem_append_right _ (List.mem_append_left _ hf)) hn
theorem ExtS.volLe {c : Cx} {env : Env} {S S' : Gs} (x : ExtS c env S S') : VolLe S.h (vol c S) (vol c S') := fun a ha => by
  rcases List.mem_append.mp ha with q | q
  · rcases x.fresh a q with r | r
    · exact .inl (List.mem_append_left _ r)
    · exact .inr r
  · exact .inl (List.mem_append_right _ q)
theorem Rv.extS {G : Amb} {c : Cx} {env : Env} {S S' : Gs} {v : Value} {d : D} (r : Rv G c S v d) (x : ExtS c env S S') (hown : ∀ a, Own env a → a ∈ c.fs ++ c.X) : Rv G c S' v d := VR.mono (x.pres hown) x.adr x.volLe r
theorem Rvs.extS {G : Amb} {c : Cx} {env : Env} {S S' : Gs} {v : List Value} {d : List D} (r : Rvs G c S v d) (x : ExtS c env S S') (hown : ∀ a, Own env a → a ∈ c.fs ++ c.X) : Rvs G c S' v d := VRs.mono (x.pres hown) x.adr x.volLe r

/-- a tree that turns the frame's names, too -/
noncomputable def TrF {α β : Type} (G : Amb) (c : Cx) (env : Env) (S : Gs) (s : Shared) (R : Gs → α → β → Prop) (t : Sem α) (out : Out β) (fr' : Fr) (σ' : List AO) : Prop :=
  ∀ (Q : α → Shared → Prop) (E : Value → Shared → Prop),
    (∀ b, out = .val b → ∀ a (S' : Gs) tk, S'.σ = σ' → Heaps G c S' → ExtS c env S S' → EnvOk G c env fr' S' → R S' a b → Q a (ShT s S'.h tk)) →
    (∀ X msg, out = .exc X msg → ∀ (S' : Gs) e h' tk, S'.σ = σ' → Heaps G c S' → ExtS c env S S' → EnvOk G c env fr' S' → Thr G c S'.h e X msg h' → E (.ref e) (ShT s h' tk)) →
    wpAny G.M c.A t Q E s

noncomputable abbrev Mf (β : Type) := Fr → List AO → Option (Out β × Fr × List AO)
noncomputable def Mf.pure {β : Type} (b : β) : Mf β := fun fr σ => some (.val b, fr, σ)
noncomputable def Mf.lift {β : Type} (m : Mo β) : Mf β := fun fr σ => (m fr σ).map fun p => (p.1, fr, p.2)
noncomputable def Mf.bind {α β : Type} (m : Mf α) (f : α → Mf β) : Mf β := fun fr σ => match m fr σ with
  | some (.val a, fr', σ') => f a fr' σ'
  | some (.exc X msg, fr', σ') => some (.exc X msg, fr', σ')
  | none => none
noncomputable def Mf.set (x : PySem.Str) (d : D) : Mf Unit := fun fr σ => some (.val (), upd fr x d, σ)

section
variable {G : Amb} {c : Cx} {env : Env} {S : Gs} {s : Shared} {fr fr' : Fr} {hn : Bool} {n : Nat} {Z : Scope}

theorem Run.stepS {S' : Gs} {tk : Nat} (r : Run G hn n Z c env fr S s) (H : Heaps G c S') (V : EnvOk G c env fr' S') : Run G hn n Z c env fr' S' (ShT s S'.h tk) :=
  ⟨r.scope, r.room, r.units, r.hand, rfl, H, V⟩

theorem TrF.cast {α β : Type} {R : Gs → α → β → Prop} {t : Sem α} {o o' : Out β} {fr1 : Fr} {σ1 σ' : List AO} (e : some (o, fr1, σ1) = some (o', fr', σ')) (h : TrF G c env S s R t o fr1 σ1) : TrF G c env S s R t o' fr' σ' := by (have k1 := s3A e; have k2 := s3B e; have k3 := s3C e; clear e; subst k1 k2 k3); exact h
theorem Tr.f {α β : Type} {R : Gs → α → β → Prop} {t : Sem α} {out : Out β} {σ' : List AO} (h : Tr G c S s R t out σ') (H : Heaps G c S) (V : EnvOk G c env fr S) : TrF G c env S s R t out fr σ' :=
  fun Q E hq hx => h Q E (fun b hb a S' tk e H' x r => hq b hb a S' tk e H' (x.s env) (x.env H V) r) fun X msg hm S' e h' tk e' H' x th => hx X msg hm S' e h' tk e' H' (x.s env) (x.env H V) th

theorem TrF.pure {α β : Type} {R : Gs → α → β → Prop} {a : α} {b : β} (H : Heaps G c S) (V : EnvOk G c env fr S) (hs : s.heap = S.h) (h : R S a b) : TrF G c env S s R (pure a : Sem α) (.val b) fr S.σ :=
  (Tr.pure H hs h).f H V

theorem TrF.bindM {α β γ δ : Type} {R₁ : Gs → α → β → Prop} {R₂ : Gs → γ → δ → Prop} {t : Sem α} {k : α → Sem γ} {m : Mf β} {f : β → Mf δ} {out : Out δ} {σ' : List AO}
    (hm : Mf.bind m f fr S.σ = some (out, fr', σ')) (h₁ : ∀ out₁ fr₁ σ₁, m fr S.σ = some (out₁, fr₁, σ₁) → TrF G c env S s R₁ t out₁ fr₁ σ₁)
    (hv : ∀ b fr₁ a (S₁ : Gs) tk, Heaps G c S₁ → ExtS c env S S₁ → EnvOk G c env fr₁ S₁ → R₁ S₁ a b → f b fr₁ S₁.σ = some (out, fr', σ') → TrF G c env S₁ (ShT s S₁.h tk) R₂ (k a) out fr' σ') :
    TrF G c env S s R₂ (t >>= k) out fr' σ' := by
  unfold Mf.bind at hm
  cases q : m fr S.σ with
  | none => rw [q] at hm; exact nnS hm
  | some p =>
    obtain ⟨o₁, fr₁, σ₁⟩ := p
    rw [q] at hm
    intro Q E hq hx
    cases o₁ with
    | val b =>
      refine wpAny_bind (h₁ _ _ _ q _ E (fun b' hb a S₁ tk e1 H1 x1 v1 r1 => ?_) fun X msg hm => by exact nVE hm)
      (have k1 := valE hb; clear hb; subst k1)
      exact hv b fr₁ a S₁ tk H1 x1 v1 r1 (e1.symm ▸ hm) Q E (fun b2 hb2 a2 S2 tk2 e2 H2 x2 v2 r2 => hq b2 hb2 a2 S2 tk2 e2 H2 (x1.trans x2) v2 r2)
        fun X msg hm S2 e h' tk2 e2 H2 x2 v2 th => hx X msg hm S2 e h' tk2 e2 H2 (x1.trans x2) v2 th
    | exc X msg =>
      (have k1 := s3A hm; have k2 := s3B hm; have k3 := s3C hm; clear hm; subst k1 k2 k3)
      refine wpAny_bind (h₁ _ _ _ q _ E (fun b' hb => by exact nEV hb) fun X' msg' hm S₁ e h' tk e1 H1 x1 v1 th => ?_)
      (have k1 := excA hm; have k2 := excB hm; clear hm; subst k1 k2)
      exact hx _ _ rfl S₁ e h' tk e1 H1 x1 v1 th

theorem TrF.of_imp {α β : Type} {R : Gs → α → β → Prop} {t t' : Sem α} {out : Out β} {σ' : List AO} (h : TrF G c env S s R t out fr' σ')
    (k : ∀ (Q : α → Shared → Prop) (E : Value → Shared → Prop), wpAny G.M c.A t Q E s → wpAny G.M c.A t' Q E s) : TrF G c env S s R t' out fr' σ' :=
  fun Q E hq hx => k Q E (h Q E hq hx)
theorem TrF.standAt {α β : Type} {R : Gs → α → β → Prop} {p : Pos} {f : Unit → Sem α} {out : Out β} {σ' : List AO} (h : TrF G c env S s R (f ()) out fr' σ') : TrF G c env S s R (standAt p >>= f) out fr' σ' :=
  h.of_imp fun _ _ w => wpAny_bind (wpAny_standAt w)
theorem TrF.rule {α β : Type} {R : Gs → α → β → Prop} {p : String} {f : Unit → Sem α} {out : Out β} {σ' : List AO} (h : TrF G c env S s R (f ()) out fr' σ') : TrF G c env S s R (PySem.rule p >>= f) out fr' σ' :=
  h.of_imp fun _ _ w => wpAny_bind (wpAny_rule w)
theorem TrF.holding {α β : Type} {R : Gs → α → β → Prop} {vs : List Value} {t : Sem α} {out : Out β} {σ' : List AO} (h : TrF G c env S s R t out fr' σ') : TrF G c env S s R (PySem.holding vs t) out fr' σ' :=
  h.of_imp fun _ _ w => wpAny_holding w
theorem bindLift {α β : Type} {m : Mo α} {f : α → Mf β} {σ : List AO} {r : Out β × Fr × List AO} (h : Mf.bind (Mf.lift m) f fr σ = some r) :
    (∃ a σ1, m fr σ = some (.val a, σ1) ∧ f a fr σ1 = some r) ∨ ∃ X msg σ1, m fr σ = some (.exc X msg, σ1) ∧ r = (.exc X msg, fr, σ1) := by
  unfold Mf.bind Mf.lift at h
  cases q : m fr σ with
  | none => rw [q] at h; exact nnS h
  | some p =>
    obtain ⟨o, σ1⟩ := p
    rw [q] at h
    cases o with
    | val a => exact .inl ⟨a, σ1, rfl, h⟩
    | exc X msg => (have k1 := s1E h; clear h; subst k1); exact .inr ⟨X, msg, σ1, rfl, rfl⟩

/-- an expression ahead -/
theorem TrF.bindE {α β γ δ : Type} {R₁ : Gs → α → β → Prop} {R₂ : Gs → γ → δ → Prop} {t : Sem α} {k : α → Sem γ} {m : Mo β} {f : β → Mf δ} {out : Out δ} {σ' : List AO} (q : Run G hn n Z c env fr S s)
    (hm : Mf.bind (Mf.lift m) f fr S.σ = some (out, fr', σ')) (h₁ : ∀ out₁ σ₁, m fr S.σ = some (out₁, σ₁) → Tr G c S s R₁ t out₁ σ₁)
    (hv : ∀ b a (S₁ : Gs) tk, Run G hn n Z c env fr S₁ (ShT s S₁.h tk) → Ext c S S₁ → R₁ S₁ a b → f b fr S₁.σ = some (out, fr', σ') → TrF G c env S₁ (ShT s S₁.h tk) R₂ (k a) out fr' σ') :
    TrF G c env S s R₂ (t >>= k) out fr' σ' := by
  intro Q E hq hx
  rcases bindLift hm with ⟨a, σ1, h1, h2⟩ | ⟨X, msg, σ1, h1, e⟩
  · refine wpAny_bind (h₁ _ _ h1 _ E (fun b' hb a' S₁ tk e1 H1 x1 r1 => ?_) fun X msg hm => by exact nVE hm)
    (have k1 := valE hb; clear hb; subst k1)
    exact hv a a' S₁ tk (q.step H1 x1) x1 r1 (e1.symm ▸ h2) Q E (fun b2 hb2 a2 S2 tk2 e2 H2 x2 v2 r2 => hq b2 hb2 a2 S2 tk2 e2 H2 ((x1.s env).trans x2) v2 r2)
      fun X msg hm S2 e h' tk2 e2 H2 x2 v2 th => hx X msg hm S2 e h' tk2 e2 H2 ((x1.s env).trans x2) v2 th
  · cases e
    refine wpAny_bind (h₁ _ _ h1 _ E (fun b' hb => by exact nEV hb) fun X' msg' hm S₁ e h' tk e1 H1 x1 th => ?_)
    (have k1 := excA hm; have k2 := excB hm; clear hm; subst k1 k2)
    exact hx _ _ rfl S₁ e h' tk e1 H1 (x1.s env) (x1.env q.H q.V) th

theorem funFrames_of {h h' base : Heap} : ∀ {l : List Env}, h.FunFrames base l → (∀ L ∈ l.filterMap (·.frame), ∀ o, h.get? L = some o → (∀ vs, o.data ≠ .fields vs) → ∃ o', h'.get? L = some o' ∧ ∀ vs, o'.data ≠ .fields vs) → h'.FunFrames base l
  | [], _, _ => trivial
  | e :: r, ⟨hk, ⟨L, o, hf, hn, ho, hd⟩, hr⟩, k => by
    have hm : ∀ L', L' ∈ r.filterMap (·.frame) → L' ∈ (e :: r).filterMap (·.frame) := fun L' hL' => by rw [List.filterMap_cons, hf]; exact .tail _ hL'
    (refine xEA (k L (by rw [List.filterMap_cons, hf]; exact .head _) o ho hd) fun o' ho' hd' => ?_)
    exact ⟨hk, ⟨L, o', hf, hn, ho', hd'⟩, funFrames_of hr fun L' hL' => k L' (hm L' hL')⟩

/-- the frame's own object turns -/
theorem Heaps.atLocals (H : Heaps G c S) (hL : env.locals ∈ c.fs ++ c.X) {h' : Heap} {m : PySem.Str → Option Value} (hs : Heap.SameBut env.locals S.h h') (hm : h'.Ns env.locals m) : Heaps G c { S with h := h' } ∧ ExtS c env S { S with h := h' } := by
  have hLr : env.locals ∉ S.reg := by
    rcases List.mem_append.mp hL with q | q
    · exact (H.fdict _ q).2
    · exact (H.xs _ q).2.1
  have hv : env.locals ∈ vol c S := List.mem_append_right _ hL
  have hb := H.vol_new hv
  (refine xEEEAA hm fun oL esL epL hoL hdL _ => ?_; try clear hm)
  have same : ∀ b o, b ≠ env.locals → S.h.get? b = some o → h'.get? b = some o := fun b o hb e => hs.extBut b o hb e
  have xx : ExtS c env S { S with h := h' } := ⟨.refl _, fun b o e _ ho => .inl (same b o (fun q => ho (.inl q)) e), fun _ h => .inl h, fun a o e => by
    by_cases q : a = env.locals
    · subst q; exact ⟨_, hoL⟩
    · exact ⟨o, same a o q e⟩⟩
  have pres : Pres (vol c S) S.h h' := fun a o hn e => same a o (fun q => hn (q ▸ hv)) e
  refine ⟨⟨H.ok, fun b o e => same b o (fun q => by rw [q, hb] at e; exact nnS e) (H.stays b o e), H.frames, ?_, fun L hL' => ?_, fun L hL' => ?_, H.len, fun n p o h1 h2 => ?_, H.new, H.nodup⟩, xx⟩
  · have ff : ∀ l : List Env, S.h.FunFrames G.base l → h'.FunFrames G.base l := by
      intro l
      induction l with
      | nil => intro _; trivial
      | cons e r ih =>
        rintro ⟨hk, ⟨L, o, hf, hn, ho, hd⟩, hr⟩
        refine ⟨hk, ?_, ih hr⟩
        by_cases q : L = env.locals
        · subst q; exact ⟨_, oL, hf, hn, hoL, fun vs q => by rw [hdL] at q; exact nAny PySem.Data.ctorIdx q rfl⟩
        · exact ⟨L, o, hf, hn, same L o q ho, hd⟩
    exact ff _ H.funs
  · (refine xA (H.fdict L hL') fun q0z r => ?_; refine xEEEA q0z fun o es m ho hd => ?_)
    by_cases q : L = env.locals
    · subst q; exact ⟨⟨oL, esL, epL, hoL, hdL⟩, r⟩
    · exact ⟨⟨o, es, m, same _ _ q ho, hd⟩, r⟩
  · (refine xA (H.xs L hL') fun q0z r => ?_; refine xE q0z fun o ho => ?_)
    by_cases q : L = env.locals
    · subst q; exact ⟨⟨oL, hoL⟩, r⟩
    · exact ⟨⟨o, same _ _ q ho⟩, r⟩
  · refine ORep.mono pres (.refl _) (.of_sub _ fun _ h => h) (fun a ha x e => same a x (fun q => hLr ?_) e) (H.store n p o h1 h2)
    rw [← q]; exact reg_mem h1 h2 a ha

theorem EnvOk.ownIn (V : EnvOk G c env fr S) : ∀ a, Own env a → a ∈ c.fs ++ c.X := fun a ha => by
  rcases ha with rfl | ⟨x, hx⟩
  · exact V.loc
  · exact List.mem_append_right _ (V.own x a hx)

theorem upd_self {fr : Fr} {x : PySem.Str} {d : D} : upd fr x d x = some d := if_pos rfl
theorem upd_ne {fr : Fr} {x y : PySem.Str} {d : D} (h : y ≠ x) : upd fr x d y = fr y := if_neg h

theorem EnvOk.setLocal (H : Heaps G c S) (V : EnvOk G c env fr S) {x : PySem.Str} {v : Value} {d : D} (hk : env.kindOf x = some .local) (r : Rv G c S v d) {m : PySem.Str → Option Value} {h' : Heap} (hm : S.h.Ns env.locals m)
    (hval : ∀ y d, fr y = some d → env.kindOf y = some .local → ∃ v, m y = some v ∧ Rv G c S v d)
    (hs : Heap.SameBut env.locals S.h h') (hm' : h'.Ns env.locals (fun y => if y = x then some v else m y)) : EnvOk G c env (upd fr x d) { S with h := h' } := by
  (refine xA (H.atLocals V.loc hs hm') fun H' xx => ?_)
  refine ⟨V.kind, V.glob, V.blt, V.frame, V.loc, ⟨_, hm', fun y dy hy hky => ?_⟩, fun y hy => ?_, V.own, V.apart⟩
  · by_cases q : y = x
    · subst q
      rw [upd_self] at hy; (have k1 := s1E hy; clear hy; subst k1)
      exact ⟨v, if_pos rfl, r.extS xx V.ownIn⟩
    · rw [upd_ne q] at hy
      (refine xEA (hval y dy hy hky) fun w hw rw' => ?_)
      exact ⟨w, by rw [if_neg q]; exact hw, rw'.extS xx V.ownIn⟩
  · (refine xEEAA (V.cell y hy) fun k v0 hl hc hd => ?_)
    have hne : k ≠ env.locals := fun q => by
      (refine xEA hc fun o ho hdo => ?_; try clear hc)
      (refine xEEEAA hm fun o2 _ _ ho2 hdo2 _ => ?_; try clear hm)
      rw [q, ho2] at ho; (have k1 := s1E ho; clear ho; subst k1); rw [hdo2] at hdo; exact nAny PySem.Data.ctorIdx hdo rfl
    refine ⟨k, v0, hl, hc.sameBut hs hne, fun dy hy' => ?_⟩
    have q : y ≠ x := fun q => by subst q; rw [hk] at hy; rcases hy with h | h <;> cases h
    rw [upd_ne q] at hy'
    (refine xEA (hd dy hy') fun w hw rw' => ?_)
    exact ⟨w, hw, rw'.extS xx V.ownIn⟩

theorem trStoreLocal (q : Run G hn n Z c env fr S s) {x : PySem.Str} {v : Value} {d : D} (hk : Z.names.lookup x = some .local) (r : Rv G c S v d) :
    TrF G c env S s (fun _ _ _ => True) (bindName env x v) (.val ()) (upd fr x d) S.σ := by
  intro Q E hq _
  have hk' := (kindOf_scope q.scope).trans hk
  (refine xEA q.V.vars fun m hm hval => ?_)
  have hp : (env.scope.kind == .class || (env.scope.kind == .module && env.locals != env.globals)) = false := by rw [q.V.kind]; rfl
  refine wpAny_bindName (wpAny_storeName_local hk' (by rw [q.heap]; exact hm) (fun h' hm' hs => ?_) hp)
  rw [q.heap] at hs
  (refine xA (q.H.atLocals q.V.loc hs hm') fun H' xx => ?_)
  exact hq () rfl () { S with h := h' } _ rfl H' xx (q.V.setLocal q.H hk' r hm hval hs hm') trivial

/-- a cell turns -/
theorem Heaps.atCell (H : Heaps G c S) {k : Addr} {v0 v1 : Option Value} {h' : Heap} (hX : k ∈ c.X) (h0 : S.h.IsCell k v0) (hs : Heap.SameBut k S.h h') (h1 : h'.IsCell k v1) {x : PySem.Str} (hx : env.cells.lookup x = some k) : Heaps G c { S with h := h' } ∧ ExtS c env S { S with h := h' } := by
  (refine xAA (H.xs k hX) fun q0z hr hb => ?_; refine xE q0z fun _ _ => ?_)
  have hv : k ∈ vol c S := List.mem_append_right _ (List.mem_append_right _ hX)
  (refine xEA h0 fun o0 ho0 hd0 => ?_; try clear h0)
  (refine xEA h1 fun o1 ho1 hd1 => ?_; try clear h1)
  have same : ∀ b o, b ≠ k → S.h.get? b = some o → h'.get? b = some o := fun b o hb e => hs.extBut b o hb e
  have hfs : k ∉ c.fs := fun q => by
    (refine xA (H.fdict k q) fun q0z _ => ?_; refine xEEEA q0z fun o es m ho hd => ?_)
    rw [ho0] at ho; (have k1 := s1E ho; clear ho; subst k1); rw [hd0] at hd; exact nAny PySem.Data.ctorIdx hd rfl
  have xx : ExtS c env S { S with h := h' } := ⟨.refl _, fun b o e _ ho => .inl (same b o (fun q => ho (.inr ⟨x, q ▸ hx⟩)) e), fun _ h => .inl h, fun a o e => by
    by_cases q : a = k
    · subst q; exact ⟨_, ho1⟩
    · exact ⟨o, same a o q e⟩⟩
  have pres : Pres (vol c S) S.h h' := fun a o hn e => same a o (fun q => hn (q ▸ hv)) e
  refine ⟨⟨H.ok, fun b o e => same b o (fun q => by rw [q, hb] at e; exact nnS e) (H.stays b o e), H.frames, ?_, fun L hL' => ?_, fun L hL' => ?_, H.len, fun n p o h1 h2 => ?_, H.new, H.nodup⟩, xx⟩
  · exact funFrames_of H.funs fun L hL o ho hd => ⟨o, same L o (fun q => hfs (q ▸ hL)) ho, hd⟩
  · (refine xA (H.fdict L hL') fun q0z r => ?_; refine xEEEA q0z fun o es m ho hd => ?_)
    exact ⟨⟨o, es, m, same _ _ (fun q => hfs (q ▸ hL')) ho, hd⟩, r⟩
  · (refine xA (H.xs L hL') fun q0z r => ?_; refine xE q0z fun o ho => ?_)
    by_cases q : L = k
    · subst q; exact ⟨⟨o1, ho1⟩, r⟩
    · exact ⟨⟨o, same _ _ q ho⟩, r⟩
  · refine ORep.mono pres (.refl _) (.of_sub _ fun _ h => h) (fun a ha x e => same a x (fun q => hr ?_) e) (H.store n p o h1 h2)
    rw [← q]; exact reg_mem h1 h2 a ha

theorem trStoreCell (q : Run G hn n Z c env fr S s) {x : PySem.Str} {v : Value} {d : D} (hk : Z.names.lookup x = some .cell) (r : Rv G c S v d) :
    TrF G c env S s (fun _ _ _ => True) (bindName env x v) (.val ()) (upd fr x d) S.σ := by
  intro Q E hq _
  have hk' := (kindOf_scope q.scope).trans hk
  (refine xEEAA (q.V.cell x (.inl hk')) fun k v0 hl hc _ => ?_)
  refine wpAny_bindName (wpAny_storeName_cell q.V.kind hk' hl (by rw [q.heap]; exact hc) (fun h' hc' hs => ?_))
  rw [q.heap] at hs
  (refine xA (q.H.atCell (env := env) (q.V.own x k hl) hc hs hc' hl) fun H' xx => ?_)
  refine hq () rfl () { S with h := h' } _ rfl H' xx ⟨q.V.kind, q.V.glob, q.V.blt, q.V.frame, q.V.loc, ?_, fun y hy => ?_, q.V.own, q.V.apart⟩ trivial
  · (refine xEA q.V.vars fun m hm hval => ?_)
    have hne : env.locals ≠ k := fun e => by
      (refine xEA hc fun o ho hdo => ?_; try clear hc)
      (refine xEEEAA hm fun o2 _ _ ho2 hdo2 _ => ?_; try clear hm)
      rw [← e, ho2] at ho; (have k1 := s1E ho; clear ho; subst k1); rw [hdo2] at hdo; exact nAny PySem.Data.ctorIdx hdo rfl
    refine ⟨m, hm.sameBut hs hne, fun y dy hy hky => ?_⟩
    have e : y ≠ x := fun e => by subst e; rw [hk'] at hky; cases hky
    rw [upd_ne e] at hy
    (refine xEA (hval y dy hy hky) fun w hw rw' => ?_)
    exact ⟨w, hw, rw'.extS xx q.V.ownIn⟩
  · (refine xEEAA (q.V.cell y hy) fun k2 v2 hl2 hc2 hd2 => ?_)
    by_cases e : y = x
    · subst e
      rw [hl] at hl2; (have k1 := s1E hl2; clear hl2; subst k1)
      refine ⟨k, some v, hl, hc', fun dy hy' => ?_⟩
      rw [upd_self] at hy'; (have k1 := s1E hy'; clear hy'; subst k1)
      exact ⟨v, rfl, r.extS xx q.V.ownIn⟩
    · have hne : k2 ≠ k := fun e' => e (q.V.apart y x k (e' ▸ hl2) hl)
      refine ⟨k2, v2, hl2, hc2.sameBut hs hne, fun dy hy' => ?_⟩
      rw [upd_ne e] at hy'
      (refine xEA (hd2 dy hy') fun w hw rw' => ?_)
      exact ⟨w, hw, rw'.extS xx q.V.ownIn⟩

/-- a store to one target -/
noncomputable def As (G : Amb) (hn : Bool) (n : Nat) (Z : Scope) (t : Expr) (f : D → Mf Unit) : Prop :=
  ∀ c env fr S s v d out fr' σ', Run G hn n Z c env fr S s → Rv G c S v d → f d fr S.σ = some (out, fr', σ') → TrF G c env S s (fun _ _ _ => True) (assign t env v) out fr' σ'
noncomputable def NameK (Z : Scope) (x : PySem.Str) : Prop := Z.names.lookup x = some .local ∨ Z.names.lookup x = some .cell
theorem trBind (q : Run G hn n Z c env fr S s) {x : PySem.Str} {v : Value} {d : D} (hk : NameK Z x) (r : Rv G c S v d) : TrF G c env S s (fun _ _ _ => True) (bindName env x v) (.val ()) (upd fr x d) S.σ :=
  hk.elim (fun h => trStoreLocal q h r) fun h => trStoreCell q h r
theorem As.name {x : PySem.Str} {pos : Pos} (hk : NameK Z x) : As G hn n Z (.Name x pos) (Mf.set x) := by
  intro c env fr S s v d out fr' σ' q r hm
  refine TrF.cast hm ?_
  show TrF G c env S s _ (do PySem.standAt pos; bindName env x v) _ _ _
  exact TrF.standAt (trBind q hk r)

/-- statements -/
inductive SF where
  | next
  | brk
  | cont
  | ret (d : D)
noncomputable def RF (G : Amb) (c : Cx) (S : Gs) : Flow → SF → Prop
  | .next, .next => True
  | .brk, .brk => True
  | .cont, .cont => True
  | .ret v, .ret d => Rv G c S v d
  | _, _ => False
noncomputable def Ex (G : Amb) (hn : Bool) (n : Nat) (Z : Scope) (st : Stmt) (m : Mf SF) : Prop :=
  ∀ c env fr S s out fr' σ', Run G hn n Z c env fr S s → c.fenv = env → env.frame = some env.locals → m fr S.σ = some (out, fr', σ') → TrF G c env S s (RF G c) (exec st env) out fr' σ'
noncomputable def Exs (G : Amb) (hn : Bool) (n : Nat) (Z : Scope) (st : List Stmt) (m : Mf SF) : Prop :=
  ∀ c env fr S s out fr' σ', Run G hn n Z c env fr S s → c.fenv = env → env.frame = some env.locals → m fr S.σ = some (out, fr', σ') → TrF G c env S s (RF G c) (execs st env) out fr' σ'
noncomputable def Mf.seq (m k : Mf SF) : Mf SF := Mf.bind m fun f => match f with
  | .next => k
  | .brk => Mf.pure .brk
  | .cont => Mf.pure .cont
  | .ret d => Mf.pure (.ret d)

theorem Exs.nil : Exs G hn n Z [] (Mf.pure .next) := by
  intro c env fr S s out fr' σ' q _ _ hm
  refine TrF.cast hm ?_
  exact TrF.pure (a := Flow.next) q.H q.V q.heap trivial
theorem Exs.cons {st : Stmt} {rest : List Stmt} {m k : Mf SF} (h1 : Ex G hn n Z st m) (h2 : Exs G hn n Z rest k) : Exs G hn n Z (st :: rest) (Mf.seq m k) := by
  intro c env fr S s out fr' σ' q hf hl hm
  rw [execs_cons]
  refine TrF.bindM hm (fun o1 f1 σ1 e1 => h1 c env fr S s o1 f1 σ1 q hf hl e1) fun b fr1 a S1 tk H1 x1 V1 r1 e2 => ?_
  cases a with
  | next => cases b with
    | next => exact h2 c env fr1 S1 _ out fr' σ' (q.stepS H1 V1) hf hl e2
    | _ => exact r1.elim
  | brk => cases b with
    | brk => refine TrF.cast e2 ?_; exact TrF.pure (a := Flow.brk) H1 V1 rfl trivial
    | _ => exact r1.elim
  | cont => cases b with
    | cont => refine TrF.cast e2 ?_; exact TrF.pure (a := Flow.cont) H1 V1 rfl trivial
    | _ => exact r1.elim
  | ret v => cases b with
    | ret d => refine TrF.cast e2 ?_; exact TrF.pure (a := Flow.ret v) H1 V1 rfl r1
    | _ => exact r1.elim

theorem Ex.ret {e : Expr} {pos : Pos} {m : Mo D} (h : Ev G hn n Z e m) : Ex G hn n Z (.Return (some e) pos) (Mf.bind (Mf.lift m) fun d => Mf.pure (.ret d)) := by
  intro c env fr S s out fr' σ' q _ _ hm
  rw [exec_Return_some]
  refine TrF.standAt (TrF.bindE q hm (fun o1 σ1 e1 => h c env fr S s o1 σ1 q e1) fun b a S1 tk q1 x1 r1 e2 => ?_)
  refine TrF.cast e2 ?_
  exact TrF.pure (a := Flow.ret a) q1.H q1.V rfl r1
theorem Ex.ite {t : Expr} {b o : List Stmt} {pos : Pos} {mt : Mo Bool} {mb mo : Mf SF} (ht : Cd G hn n Z t mt) (hb : Exs G hn n Z b mb) (ho : Exs G hn n Z o mo) : Ex G hn n Z (.If t b o pos) (Mf.bind (Mf.lift mt) fun c => if c then mb else mo) := by
  intro c env fr S s out fr' σ' q hf hl hm
  rw [exec_If]
  refine TrF.standAt (TrF.bindE q hm (fun o1 σ1 e1 => ht c env fr S s o1 σ1 q e1) fun b a S1 tk q1 x1 r1 e2 => ?_)
  subst r1
  cases a with
  | true => exact hb c env fr S1 _ out fr' σ' q1 hf hl e2
  | false => exact ho c env fr S1 _ out fr' σ' q1 hf hl e2

theorem Ex.asgn {t value : Expr} {pos : Pos} {m : Mo D} {f : D → Mf Unit} (h : Ev G hn n Z value m) (ha : As G hn n Z t f)
    (hst : ∀ env, env.scope = Z → (assignEach [t] env).map (·.2) = [assign t env] ∧ swapsWithSole [t] value pos.line env = pure false ∧ swappedStores [t] value env = pure none) :
    Ex G hn n Z (.Assign [t] value pos) (Mf.bind (Mf.lift m) fun d => Mf.bind (f d) fun _ => Mf.pure .next) := by
  intro c env fr S s out fr' σ' q hf hl hm
  (refine xAA (hst env q.scope) fun e1 e2 e3 => ?_)
  rw [exec_Assign_arm, e1, e2, e3]
  show TrF G c env S s (RF G c) (do
    PySem.standAt pos
    let v ← eval value env
    (do assign t env v; Pure.pure Flow.next)) out fr' σ'
  refine TrF.standAt (TrF.bindE q hm (fun o1 σ1 e1 => h c env fr S s o1 σ1 q e1) fun d a S1 tk q1 x1 r1 e2 => ?_)
  refine TrF.bindM e2 (fun o1 f1 σ1 e4 => ha c env fr S1 _ a d o1 f1 σ1 q1 r1 e4) fun b fr1 _ S2 tk2 H2 x2 V2 _ e5 => ?_
  refine TrF.cast e5 ?_
  exact TrF.pure (a := Flow.next) H2 V2 rfl trivial
end
end Mine
end
section
open PySem PySem.W PyProof.Rows
namespace Mine

noncomputable def frB : List (PySem.Str × D) → Fr → Fr
  | [], fr => fr
  | (x, d) :: r, fr => frB r (upd fr x d)
noncomputable def Rbs (G : Amb) (c : Cx) (S : Gs) : List (PySem.Str × Value) → List (PySem.Str × D) → Prop
  | [], [] => True
  | (x, v) :: r, (y, d) :: q => x = y ∧ Rv G c S v d ∧ Rbs G c S r q
  | _, _ => False

section
variable {G : Amb} {c : Cx} {S : Gs} {s : Shared}

theorem Rbs.ext {S' : Gs} (x : Ext c S S') : ∀ {b : List (PySem.Str × Value)} {bd : List (PySem.Str × D)}, Rbs G c S b bd → Rbs G c S' b bd
  | [], [], _ => trivial
  | (_, _) :: _, (_, _) :: _, ⟨h1, h2, h3⟩ => ⟨h1, h2.ext x, Rbs.ext x h3⟩

theorem Rbs.i_nil {kw : List (PySem.Str × Value)} (h : Rbs G c S kw []) : kw = [] := by
  cases kw with
  | nil => rfl
  | cons => exact h.elim

noncomputable def HasV (R : Value → D → Prop) (kindOf : PySem.Str → Option NameKind) (m cm : PySem.Str → Option Value) (fr : Fr) : Prop :=
  ∀ x d, fr x = some d → (kindOf x = some .local → ∃ v, m x = some v ∧ R v d) ∧ (kindOf x = some .cell → ∃ v, cm x = some v ∧ R v d)
theorem hasV_bind {kindOf : PySem.Str → Option NameKind} : ∀ {b : List (PySem.Str × Value)} {bd : List (PySem.Str × D)}, Rbs G c S b bd → ∀ {m cm : PySem.Str → Option Value} {fr : Fr}, HasV (Rv G c S) kindOf m cm fr →
    HasV (Rv G c S) kindOf (bindL kindOf b m) (bindC kindOf b cm) (frB bd fr)
  | [], [], _, _, _, _, h => h
  | (x, v) :: r, (y, d) :: q, ⟨h1, h2, h3⟩, m, cm, fr, h => by
    subst h1
    refine hasV_bind h3 fun z dz hz => ?_
    by_cases e : z = x
    · subst e
      rw [upd_self] at hz; (have k1 := s1E hz; clear hz; subst k1)
      refine ⟨fun hk => ?_, fun hk => ?_⟩
      · rw [if_pos hk]; exact ⟨v, if_pos rfl, h2⟩
      · have : ¬ kindOf z = some .local := by rw [hk]; intro q; cases q
        rw [if_neg this]; exact ⟨v, if_pos rfl, h2⟩
    · rw [upd_ne e] at hz
      (refine xA (h z dz hz) fun h4 h5 => ?_)
      refine ⟨fun hk => ?_, fun hk => ?_⟩
      · (refine xEA (h4 hk) fun w hw rw' => ?_)
        refine ⟨w, ?_, rw'⟩
        by_cases hx : kindOf x = some .local
        · rw [if_pos hx]; simp only [if_neg e]; exact hw
        · rw [if_neg hx]; exact hw
      · (refine xEA (h5 hk) fun w hw rw' => ?_)
        refine ⟨w, ?_, rw'⟩
        by_cases hx : kindOf x = some .local
        · rw [if_pos hx]; exact hw
        · rw [if_neg hx]; simp only [if_neg e]; exact hw

theorem Heaps.setA {A : Around} (H : Heaps G c S) (h : A.frames = c.A.frames) : Heaps G { c with A := A } S :=
  ⟨H.ok, H.stays, h.trans H.frames, H.funs, H.fdict, H.xs, H.len, H.store, H.new, H.nodup⟩

/-- the callee's place -/
noncomputable def Cx.push (c : Cx) (env : Env) (ks : List Addr) : Cx := { A := c.A.deeper env, fenv := env, outer := c.stack, X := ks ++ c.X }

theorem Cx.push_fs {env : Env} {ks : List Addr} {L : Addr} (hf : env.frame = some L) : (c.push env ks).fs = L :: c.fs := by
  show (env :: c.stack).filterMap (·.frame) = _
  rw [List.filterMap_cons, hf]; rfl

structure Entered (G : Amb) (c : Cx) (S : Gs) (env : Env) (ks : List Addr) (h₁ : Heap) : Prop where
  H : Heaps G (c.push env ks) { S with h := h₁ }
  keep : ∀ b o, S.h.get? b = some o → h₁.get? b = some o
  loc : S.h.get? env.locals = none
  cells : ∀ a ∈ ks, S.h.get? a = none

theorem Heaps.enter (H : Heaps G c S) {env : Env} {ks : List Addr} {h₁ : Heap} {m : PySem.Str → Option Value} (hf : env.frame = some env.locals) (hkind : env.scope.kind = .function)
    (hL : S.h.get? env.locals = none) (hk : ∀ a ∈ ks, S.h.get? a = none ∧ ∃ o, h₁.get? a = some o) (hn : h₁.Ns env.locals m) (keep : ∀ b o, S.h.get? b = some o → h₁.get? b = some o) :
    Entered G c S env ks h₁ := by
  have base_none : ∀ a, S.h.get? a = none → G.base.get? a = none := fun a e => by
    cases q : G.base.get? a with
    | none => rfl
    | some o => rw [H.stays a o q] at e; exact nSn e
  have notreg : ∀ a, S.h.get? a = none → a ∉ S.reg := fun a e hm => by
    (refine xE (H.reg_some hm) fun o ho => ?_)
    rw [e] at ho; exact nnS ho
  (refine xEEEAA hn fun oL esL epL hoL hdL _ => ?_; try clear hn)
  refine ⟨⟨H.ok, fun b o e => keep b o (H.stays b o e), ?_, ?_, fun L hLm => ?_, fun L hLm => ?_, H.len, fun n p o h1 h2 => ?_, H.new, H.nodup⟩, keep, hL, fun a ha => (hk a ha).1⟩
  · show (c.A.deeper env).frames = some (env :: c.stack)
    exact Around.frames_deeper H.frames
  · refine ⟨by show env.scope.kind ≠ .module; rw [hkind]; decide, ⟨env.locals, oL, hf, base_none _ hL, hoL, fun vs q => by rw [hdL] at q; exact nAny PySem.Data.ctorIdx q rfl⟩, H.funs.of_keeps fun b o e _ => ⟨o, keep b o e, rfl⟩⟩
  · rw [Cx.push_fs hf] at hLm
    rcases List.mem_cons.mp hLm with e | hm
    · subst e; exact ⟨⟨oL, esL, epL, hoL, hdL⟩, notreg _ hL⟩
    · (refine xA (H.fdict L hm) fun q0z r => ?_; refine xEEEA q0z fun o es q ho hd => ?_)
      exact ⟨⟨o, es, q, keep _ _ ho, hd⟩, r⟩
  · rcases List.mem_append.mp hLm with hm | hm
    · exact ⟨(hk L hm).2, notreg _ (hk L hm).1, base_none _ (hk L hm).1⟩
    · (refine xA (H.xs L hm) fun q0z r => ?_; refine xE q0z fun o ho => ?_)
      exact ⟨⟨o, keep _ _ ho⟩, r⟩
  · refine ORep.mono (V := vol c S) (h := S.h) (fun a o _ e => keep a o e) (.refl _) (fun a ha => ?_) (fun a _ x e => keep a x e) (H.store n p o h1 h2)
    rcases List.mem_append.mp ha with q | q
    · exact .inl (List.mem_append_left _ q)
    · rcases List.mem_append.mp q with q | q
      · rw [Cx.push_fs hf] at q
        rcases List.mem_cons.mp q with e | q
        · subst e; exact .inr hL
        · exact .inl (List.mem_append_right _ (List.mem_append_left _ q))
      · rcases List.mem_append.mp q with q | q
        · exact .inr (hk a q).1
        · exact .inl (List.mem_append_right _ (List.mem_append_right _ q))

theorem Entered.vol {env : Env} {ks : List Addr} {h₁ : Heap} (x : Entered G c S env ks h₁) (hf : env.frame = some env.locals) : VolLe S.h (vol c S) (vol (c.push env ks) { S with h := h₁ }) := fun a ha => by
  rcases List.mem_append.mp ha with q | q
  · exact .inl (List.mem_append_left _ q)
  · rcases List.mem_append.mp q with q | q
    · rw [Cx.push_fs hf] at q
      rcases List.mem_cons.mp q with e | q
      · subst e; exact .inr x.loc
      · exact .inl (List.mem_append_right _ (List.mem_append_left _ q))
    · rcases List.mem_append.mp q with q | q
      · exact .inr (x.cells a q)
      · exact .inl (List.mem_append_right _ (List.mem_append_right _ q))
theorem Entered.rv {env : Env} {ks : List Addr} {h₁ : Heap} (x : Entered G c S env ks h₁) (hf : env.frame = some env.locals) {v : Value} {d : D} (r : Rv G c S v d) : Rv G (c.push env ks) { S with h := h₁ } v d :=
  VR.mono (fun a o _ e => x.keep a o e) (.refl _) (x.vol hf) r
theorem vol_sub {env : Env} {ks : List Addr} (hf : env.frame = some env.locals) (S' : Gs) : ∀ a, a ∈ vol c S' → a ∈ vol (c.push env ks) S' := fun a ha => by
  rcases List.mem_append.mp ha with q | q
  · exact List.mem_append_left _ q
  · rcases List.mem_append.mp q with q | q
    · exact List.mem_append_right _ (List.mem_append_left _ (by rw [Cx.push_fs hf]; exact .tail _ q))
    · exact List.mem_append_right _ (List.mem_append_right _ (List.mem_append_right _ q))
theorem Entered.back {env : Env} {ks : List Addr} {h₁ : Heap} (x : Entered G c S env ks h₁) (H0 : Heaps G c S) (hf : env.frame = some env.locals) (hown : ∀ a, Own env a → a = env.locals ∨ a ∈ ks) {S' : Gs} (H' : Heaps G (c.push env ks) S') (xx : ExtS (c.push env ks) env { S with h := h₁ } S') :
    Heaps G c S' ∧ Ext c S S' := by
  have vs := vol_sub (c := c) (ks := ks) hf S'
  refine ⟨⟨H'.ok, H'.stays, H0.frames, H'.funs.2.2, fun L hL => H'.fdict L (by rw [Cx.push_fs hf]; exact .tail _ hL), fun L hL => H'.xs L (List.mem_append_right _ hL), H'.len, fun n p o h1 h2 => ?_, H'.new, H'.nodup⟩, xx.adr, fun b o e hb => ?_, fun a ha => ?_, fun a o e => xx.live a o (x.keep a o e)⟩
  · exact ORep.mono (fun a o _ e => e) (.refl _) (.of_sub _ vs) (fun a _ o e => e) (H'.store n p o h1 h2)
  · have hno : ¬ Own env b := fun ho => by
      rcases hown b ho with q | q
      · subst q; rw [x.loc] at e; exact nnS e
      · rw [x.cells b q] at e; exact nnS e
    rcases xx.keep b o (x.keep b o e) hb hno with q | ⟨hm, sl, q⟩
    · exact .inl q
    · rw [Cx.push_fs hf] at hm
      rcases List.mem_cons.mp hm with e' | hm
      · subst e'; rw [x.loc] at e; exact nnS e
      · exact .inr ⟨hm, sl, q⟩
  · rcases xx.fresh a ha with q | q
    · exact .inl q
    · refine .inr ?_
      cases e : S.h.get? a with
      | none => rfl
      | some o => have := x.keep a o e; rw [q] at this; exact nnS this
end

/-- an exception leaves a frame -/
theorem hide_sub {h : Heap} {L : Addr} {fs : List Addr} : (hideAll (hideAll h [L]) fs).StaysIn (hideAll h (L :: fs)) := fun b o e => by
  have h1 : b ∉ fs := fun hm => by rw [hideAll_none fs hm] at e; exact nnS e
  have e1 := of_hideAll fs e
  have h2 : b ≠ L := fun hm => by rw [hideAll_none [L] (hm ▸ .head _)] at e1; exact nnS e1
  exact hideAll_get _ (of_hideAll _ e1) fun hm => by
    rcases List.mem_cons.mp hm with q | q
    · exact h2 q
    · exact h1 q
theorem trLeave {G : Amb} {c : Cx} {env : Env} {ks : List Addr} {Sr : Gs} (H : Heaps G (c.push env ks) Sr) (hf : env.frame = some env.locals) {e : Addr} {X : String} {msg : PySem.Str} {s : Shared} (th : Thr G (c.push env ks) Sr.h e X msg s.heap)
    {Q : Unit → Shared → Prop} {E : Value → Shared → Prop} (hq : ∀ h', Thr G c (hideAll Sr.h [env.locals]) e X msg h' → Q () { s with heap := h' }) : wpAny G.M (c.A.deeper env) (leaving env (.ref e)) Q E s := by
  have hfr : (c.A.deeper env).frames = some (env :: c.stack) := H.frames
  have hfs : (c.push env ks).fs = env.locals :: c.fs := Cx.push_fs hf
  have none_of : ∀ b, Sr.h.get? b = none → (hideAll Sr.h [env.locals]).get? b = none := fun b q => by
    cases e' : (hideAll Sr.h [env.locals]).get? b with
    | none => rfl
    | some o => have := of_hideAll _ e'; rw [q] at this; exact nnS this
  have slots_of : ∀ {h' : Heap}, Sr.h.UpToSlots h' → (hideAll Sr.h [env.locals]).UpToSlots h' := fun x b o e => x b o (of_hideAll _ e)
  rcases th with ⟨tk, mk⟩ | ⟨t, tk, h3, h4, h5, h6, h7⟩
  · refine wpAny_leaves_madeW (base := hideAll Sr.h (c.push env ks).fs) hfr hf (fun b o q => of_hideAll _ q) ?_ mk fun h' t x1 x2 x3 x4 => ?_
    · exact funFrames_hide H.funs fun e' he a ha => List.mem_filterMap.mpr ⟨e', he, ha⟩
    · have htn : Sr.h.get? t = none := by
        cases q : Sr.h.get? t with
        | none => rfl
        | some o =>
          have : t ∈ (c.push env ks).fs := Classical.byContradiction fun hn => by
            have := hideAll_get _ q hn; rw [x3] at this; exact nnS this
          (refine xA (H.fdict t this) fun q0z _ => ?_; refine xEEEA q0z fun o' es n ho' hd' => ?_)
          (refine xEEAA x2 fun oT nT hoT hcT hdT => ?_; try clear x2)
          rw [ho'] at q; (have k1 := (s1E q).symm; clear q; subst k1)
          have := mk.keeps t o ho'
          (refine xE (x4 t o this fun vs q => by rw [hd'] at q; cases q) fun sl hsl => ?_)
          rw [hoT] at hsl; (have k1 := s1E hsl; clear hsl; subst k1)
          rw [hd'] at hdT; exact nAny PySem.Data.ctorIdx hdT rfl
      rw [hfs] at x1
      exact hq h' (.inr ⟨t, tk, x2, none_of t htn, none_of e mk.new, slots_of ((Heap.UpToSlots.of_keeps mk.keeps).trans x4), .inl (flyingW_base hide_sub x1)⟩)
  · rcases h7 with fl | ⟨L, hL, hd⟩
    · refine wpAny_leaves_onW hfr hf fl fun h' x1 x2 => ?_
      rw [hfs] at x1
      exact hq h' (.inr ⟨t, tk, h3.of_slots x2, none_of t h4, none_of e h5, slots_of (h6.trans x2), .inl (flyingW_base hide_sub x1)⟩)
    · have hL' : env.frame = some L := hL
      unfold leaving
      refine wpAny_bind (wpAny_noteFrame_againW hL' hd.2.2.2 ?_)
      refine wpAny_landsW hd fun h' fl x2 => ?_
      (refine xAAA fl fun k1 k2 q0z k4 => ?_; try clear fl; refine xAA q0z fun _ _ k3 => ?_)
      have x1 : Heap.FlyingW (hideAll Sr.h (c.push env ks).fs) c.stack e (.type X) (.ref t) h' := ⟨k1, k2, k3, k4⟩
      rw [hfs] at x1
      exact hq h' (.inr ⟨t, tk, h3.of_slots x2, none_of t h4, none_of e h5, slots_of (h6.trans x2), .inl (flyingW_base hide_sub x1)⟩)

/-- behind a left frame: its object out of sight -/
theorem Heaps.left {G : Amb} {c : Cx} {env : Env} {ks : List Addr} {S : Gs} {S' : Gs} {fr : PySem.Str → Option Value} (H0 : Heaps G c S) (H' : Heaps G (c.push env ks) S') (hf : env.frame = some env.locals) (x : Ext c S S') (hL : S.h.get? env.locals = none) (Hc : Heaps G c S') :
    Heaps G c ⟨S'.adr, S'.σ, hideAll S'.h [env.locals]⟩ ∧ Ext c S ⟨S'.adr, S'.σ, hideAll S'.h [env.locals]⟩ := by
  have hfs : (c.push env ks).fs = env.locals :: c.fs := Cx.push_fs hf
  have hLV : env.locals ∈ vol (c.push env ks) S' := List.mem_append_right _ (List.mem_append_left _ (by rw [hfs]; exact .head _))
  have off : ∀ b o, b ≠ env.locals → S'.h.get? b = some o → (hideAll S'.h [env.locals]).get? b = some o := fun b o hb e => hideAll_get _ e fun hm => hb (List.mem_singleton.mp hm)
  have hreg : env.locals ∉ S'.reg := (H'.fdict _ (by rw [hfs]; exact .head _)).2
  have hbase : G.base.get? env.locals = none := H'.vol_new hLV
  have nfs : ∀ L, L ∈ c.fs → L ≠ env.locals := fun L hm q => by
    (refine xA (H0.fdict L hm) fun q0z _ => ?_; refine xEEEA q0z fun o _ _ ho _ => ?_)
    rw [q, hL] at ho; exact nnS ho
  have nX : ∀ L, L ∈ c.X → L ≠ env.locals := fun L hm q => by
    (refine xA (H0.xs L hm) fun q0z _ => ?_; refine xE q0z fun o ho => ?_)
    rw [q, hL] at ho; exact nnS ho
  have sub : ∀ a, a ∈ vol c S' → a ∈ vol (c.push env ks) S' := vol_sub hf S'
  refine ⟨⟨Hc.ok, fun b o e => off b o (fun q => by rw [q, hbase] at e; exact nnS e) (Hc.stays b o e), Hc.frames, ?_, fun L hm => ?_, fun L hm => ?_, Hc.len, fun n p o h1 h2 => ?_, Hc.new, Hc.nodup⟩, x.adr, fun b o e hb => ?_, x.fresh, fun a o e => ?_⟩
  · exact funFrames_of Hc.funs fun L hm o e hd => ⟨o, off L o (nfs L hm) e, hd⟩
  · (refine xA (Hc.fdict L hm) fun q0z r => ?_; refine xEEEA q0z fun o es m e hd => ?_)
    exact ⟨⟨o, es, m, off L o (nfs L hm) e, hd⟩, r⟩
  · (refine xA (Hc.xs L hm) fun q0z r => ?_; refine xE q0z fun o e => ?_)
    exact ⟨⟨o, off L o (nX L hm) e⟩, r⟩
  · exact ORep.mono (fun a o hn e => off a o (fun q => hn (q ▸ hLV)) e) (.refl _) (.of_sub _ sub) (fun a ha o e => off a o (fun q => hreg (q ▸ reg_mem h1 h2 a ha)) e) (H'.store n p o h1 h2)
  · have hbL : b ≠ env.locals := fun q => by rw [q, hL] at e; exact nnS e
    rcases x.keep b o e hb with q | ⟨hm, sl, q⟩
    · exact .inl (off b _ hbL q)
    · exact .inr ⟨hm, sl, off b _ hbL q⟩
  · (refine xE (x.live a o e) fun o' e' => ?_)
    exact ⟨o', off a o' (fun q => by rw [q, hL] at e; exact nnS e) e'⟩

noncomputable def Mf.fn (m : Mf SF) (fr : Fr) (σ : List AO) : Option (Out D × List AO) := match m fr σ with
  | some (.val (.ret d), _, σ') => some (.val d, σ')
  | some (.val .next, _, σ') => some (.val .none, σ')
  | some (.val .brk, _, _) => none
  | some (.val .cont, _, _) => none
  | some (.exc X msg, _, σ') => some (.exc X msg, σ')
  | none => none

/-- what a call of f does -/
noncomputable abbrev Fm := List D → List (PySem.Str × D) → List AO → Option (Out D × List AO)
noncomputable def Rkw (G : Amb) (c : Cx) (S : Gs) : List (PySem.Str × Value) → List (PySem.Str × D) → Prop := Rbs G c S
noncomputable def Fn (G : Amb) (hn : Bool) (n : Nat) (f : Addr) (mf : Fm) : Prop :=
  ∀ c S s vs ds kw kd out σ', Ho G hn n c S s → Rvs G c S vs ds → Rbs G c S kw kd → mf ds kd S.σ = some (out, σ') →
    ∀ (Q : Value → Shared → Prop) (E : Value → Shared → Prop),
      (∀ b, out = .val b → ∀ a (S' : Gs) tk, S'.σ = σ' → Heaps G c S' → Ext c S S' → Rv G c S' a b → Q a (ShT s S'.h tk)) →
      (∀ X msg, out = .exc X msg → ∀ (S' : Gs) e h' tk, S'.σ = σ' → Heaps G c S' → Ext c S S' → Thr G c S'.h e X msg h' → E (.ref e) (ShT s h' tk)) →
      codeAny G.M c.A (.call (.ref f) ⟨vs, kw⟩) (fun r s' => match r with | .ok (.ret v) => Q v s' | .ok _ => False | .error e => E e s') s

/-- the binding of the arguments -/
noncomputable def Bnd (G : Amb) (fd : FuncData) (bf : List D → List (PySem.Str × D) → Option (List (PySem.Str × D))) : Prop :=
  ∀ c S s vs ds kw kd bd, Heaps G c S → s.heap = S.h → Rvs G c S vs ds → Rbs G c S kw kd → bf ds kd = some bd → Tr G c S s (fun S' b bd => Rbs G c S' b bd ∧ b.map (·.1) = bd.map (·.1)) (bindArgs fd ⟨vs, kw⟩) (.val bd) S.σ

theorem Rbs.cx {G : Amb} {c c' : Cx} {S : Gs} (h1 : c'.fs = c.fs) (h2 : c'.X = c.X) : ∀ {b : List (PySem.Str × Value)} {bd : List (PySem.Str × D)}, Rbs G c S b bd → Rbs G c' S b bd
  | [], [], _ => trivial
  | (_, _) :: _, (_, _) :: _, ⟨e, r, h⟩ => ⟨e, by unfold Rv vol at *; rw [h1, h2]; exact r, Rbs.cx h1 h2 h⟩
theorem Rbs.names {G : Amb} {c : Cx} {S : Gs} : ∀ {b : List (PySem.Str × Value)} {bd : List (PySem.Str × D)}, Rbs G c S b bd → b.map (·.1) = bd.map (·.1)
  | [], [], _ => rfl
  | (_, _) :: _, (_, _) :: _, ⟨h1, _, h3⟩ => by rw [List.map_cons, List.map_cons, h1, Rbs.names h3]

theorem Fn.of_body {G : Amb} {hn : Bool} {n : Nat} {f : Addr} {oc : Value} {od : Option Addr} {osl : Array (Option Value)} {fd : FuncData} {body : List Stmt} {m : Mf SF} {bf : List D → List (PySem.Str × D) → Option (List (PySem.Str × D))}
    (hK : G.K.lookup f = some ⟨oc, od, .func fd, osl⟩) (hb : fd.body = .stmts body) (hg : fd.globals = mainGlobals) (hcl : fd.closure = []) (hbl : fd.builtins = builtinsNs)
    (hcd : codeIn G.K fd.code fd.qualname = true) (hkind : fd.scope.kind = .function) (hco : fd.scope.isCoroutine = false) (hgen : fd.scope.isGenerator = false)
    (hfree : (fd.scope.names.all fun y => y.2 != .free) = true)
    (hbind : Bnd G fd bf) (hnames : ∀ ds kd bd, bf ds kd = some bd → (bd.all fun y => fd.scope.names.lookup y.1 == some .local || fd.scope.names.lookup y.1 == some .cell) = true)
    (hbody : Exs G hn n fd.scope body m) :
    Fn G hn (n + 1) f (fun ds kd σ => (bf ds kd).bind fun bd => Mf.fn m (frB bd fun _ => none) σ) := by
  intro c S s vs ds kw kd out σ' q hv hk hm
  (refine xEA (Option.bind_eq_some_iff.mp hm) fun bd hbd hm => ?_)
  intro Q E hq hx
  have H := q.H
  have hroom : c.A.depth < recursionLimit := by have := q.room; omega
  have hobj := H.kin _ _ hK
  have hcr := codeRec_of H.kin hcd
  refine codeAny_call_function (fd := fd) (body := body) hroom (by rw [q.heap]; exact hobj) rfl hco hgen hb (by rw [q.heap]; exact hcr) ?_
  have H1 : Heaps G { c with A := c.A.in1 } S := H.setA rfl
  refine hbind { c with A := c.A.in1 } S s vs ds kw kd bd H1 q.heap hv (Rbs.cx (c := c) (c' := { c with A := c.A.in1 }) rfl rfl hk) hbd _ _ (fun bd' hbd' binds S1 tk1 e1 HB xB rB => ?_) fun X msg hh => by exact nVE hh
  (have k1 := valE hbd'; clear hbd'; subst k1)
  rw [hg, hcl, hbl]
  have HB' : Heaps G c S1 := HB.setA rfl
  have rB1 : Rbs G c S1 binds bd := Rbs.cx (c := { c with A := c.A.in1 }) (c' := c) rfl rfl rB.1
  have hnm := hnames ds kd bd hbd
  have hkinds : ∀ x ∈ binds, fd.scope.names.lookup x.1 = some .local ∨ (fd.scope.names.lookup x.1 = some .cell ∧ ((cellsFrom (S1.h.objs.size + 1) fd.scope.names []).lookup x.1).isSome = true) := by
    refine kindsX ?_ _
    have e : (binds.all fun y => fd.scope.names.lookup y.1 == some .local || fd.scope.names.lookup y.1 == some .cell) = ((binds.map (·.1)).all fun y => fd.scope.names.lookup y == some .local || fd.scope.names.lookup y == some .cell) := by
      rw [List.all_map]; rfl
    have e' : (bd.all fun y => fd.scope.names.lookup y.1 == some .local || fd.scope.names.lookup y.1 == some .cell) = ((bd.map (·.1)).all fun y => fd.scope.names.lookup y == some .local || fd.scope.names.lookup y == some .cell) := by
      rw [List.all_map]; rfl
    rw [e, rB.2, ← e']; exact hnm
  refine wpAny_newFunctionEnv_cells hkind hkinds fun env he s₁ x => ?_
  have x0 := x.toInCall
  (refine xEE x0.same fun h₁ tk₁ es => ?_)
  subst es
  have hlim : h₁.NoLimit := (H.ok.nolimit.keeps HB.stays).keeps x0.keep
  refine ⟨hlim, codeAny_func ?_⟩
  have hscope : env.scope = fd.scope := by rw [he]; rfl
  have hloc : env.locals = S1.h.objs.size := by rw [he]; rfl
  have hcells : env.cells = cellsFrom (S1.h.objs.size + 1) fd.scope.names [] := by rw [he]; rfl
  have hframe : env.frame = some env.locals := by rw [he]; rfl
  have hks : ∀ a ∈ env.cells.filterMap (fun p => env.cells.lookup p.1), S1.h.get? a = none ∧ ∃ o, h₁.get? a = some o := fun a ha => by
    (refine xEA (List.mem_filterMap.mp ha) fun q0z _ hy => ?_; obtain ⟨y, a'⟩ := q0z)
    have hab := x.above y a (mem_of_lookup hy)
    (refine xEA (x.cell y a hy) fun o ho _ => ?_)
    exact ⟨Heap.get?_none_of_le (by rw [hloc] at hab; exact Nat.le_of_lt hab), o, ho⟩
  have hown : ∀ a, Own env a → a = env.locals ∨ a ∈ env.cells.filterMap (fun p => env.cells.lookup p.1) := fun a ha => by
    rcases ha with e | ⟨y, hy⟩
    · exact .inl e
    · exact .inr (List.mem_filterMap.mpr ⟨(y, a), mem_of_lookup hy, hy⟩)
  have EN := HB'.enter (env := env) (ks := env.cells.filterMap (fun p => env.cells.lookup p.1)) (h₁ := h₁) hframe (by rw [hscope]; exact hkind) (Heap.get?_none_of_le (by rw [hloc]; exact Nat.le_refl _)) hks x0.ns x0.keep
  have kof : ∀ y, env.kindOf y = fd.scope.names.lookup y := fun y => kindOf_scope hscope
  have HV := hasV_bind (kindOf := env.kindOf) rB1 (m := fun _ => none) (cm := fun _ => none) (fr := fun _ => none) (fun y d e => by exact nnS e)
  have VV : EnvOk G (c.push env (env.cells.filterMap (fun p => env.cells.lookup p.1))) env (frB bd fun _ => none) { S1 with h := h₁ } := by
    refine ⟨by rw [hscope]; exact hkind, by rw [he]; rfl, by rw [he]; rfl, rfl, ?_, ⟨_, x0.ns, fun y d hy hk => ?_⟩, fun y hy => ?_, fun y k hy => ?_, fun y z k hy hz => ?_⟩
    · refine List.mem_append_left _ ?_
      rw [Cx.push_fs hframe]; exact .head _
    · (refine xEA ((HV y d hy).1 hk) fun v hv1 hv2 => ?_)
      exact ⟨v, hv1, EN.rv hframe hv2⟩
    · have hyc : env.kindOf y = some .cell := by
        rcases hy with h | h
        · exact h
        · exfalso
          rw [kof] at h
          have := List.all_eq_true.mp hfree (y, .free) (mem_of_lookup h)
          simp at this
      have hs : (env.cells.lookup y).isSome = true := by rw [hcells]; exact cellsFrom_some _ _ _ (.inl (by rw [← kof]; exact hyc))
      (refine xE (Option.isSome_iff_exists.mp hs) fun k hk => ?_)
      refine ⟨k, _, hk, x.cell y k hk, fun d hd => ?_⟩
      (refine xEA ((HV y d hd).2 hyc) fun v hv1 hv2 => ?_)
      exact ⟨v, hv1, EN.rv hframe hv2⟩
    · exact List.mem_append_left _ (List.mem_filterMap.mpr ⟨(y, k), mem_of_lookup hy, hy⟩)
    · exact name_of_addr x.apart (mem_of_lookup hy) (mem_of_lookup hz)
  have RR : Run G hn n fd.scope (c.push env (env.cells.filterMap (fun p => env.cells.lookup p.1))) env (frB bd fun _ => none) { S1 with h := h₁ } (ShT s h₁ tk₁) :=
    ⟨hscope, by show c.A.depth + 1 + 3 * n < recursionLimit; have := q.room; omega, by show c.A.units + 3 + 30 * n < cLine; have := q.units; omega, q.hand, rfl, EN.H, VV⟩
  -- the body
  cases hmm : m (frB bd fun _ => none) S.σ with
  | none => unfold Mf.fn at hm; rw [hmm] at hm; exact nnS hm
  | some p =>
    obtain ⟨o, fr', σ1⟩ := p
    have hb1 := hbody _ env _ { S1 with h := h₁ } _ o fr' σ1 RR rfl hframe (by rw [← hmm, ← e1])
    unfold Mf.fn at hm
    rw [hmm] at hm
    refine hb1 _ _ (fun f ho a S' tk' e' H' x' V' r' => ?_) fun X msg ho S' e h' tk' e' H' x' V' th => ?_
    · subst ho
      (refine xA (EN.back HB' hframe hown H' x') fun HC XC => ?_)
      have XC' : Ext c S S' := Ext.trans ⟨xB.adr, xB.keep, xB.fresh, xB.live⟩ XC
      have back : ∀ {v d}, Rv G (c.push env (env.cells.filterMap (fun p => env.cells.lookup p.1))) S' v d → Rv G c S' v d := fun r => VR.mono (fun a o _ e => e) (.refl _) (.of_sub _ (vol_sub hframe S')) r
      cases f with
      | next =>
        (have k1 := s2A hm; have k2 := s2B hm; clear hm; subst k1 k2)
        cases a with
        | next => exact hq .none rfl .none S' tk' e' HC XC' .none
        | _ => exact r'.elim
      | ret d =>
        (have k1 := s2A hm; have k2 := s2B hm; clear hm; subst k1 k2)
        cases a with
        | ret v => exact hq d rfl v S' tk' e' HC XC' (back r')
        | _ => exact r'.elim
      | brk => exact nnS hm
      | cont => exact nnS hm
    · subst ho
      (have k1 := s2A hm; have k2 := s2B hm; clear hm; subst k1 k2)
      (refine xA (EN.back HB' hframe hown H' x') fun HC XC => ?_)
      have XC' : Ext c S S' := Ext.trans ⟨xB.adr, xB.keep, xB.fresh, xB.live⟩ XC
      have hLS : S.h.get? env.locals = none := by
        cases q : S.h.get? env.locals with
        | none => rfl
        | some o =>
          (refine xE (xB.live _ o q) fun o' e'' => ?_)
          rw [EN.loc] at e''; exact nnS e''
      (refine xA (Heaps.left (fr := fun _ => none) H H' hframe XC' hLS HC) fun HL XL => ?_)
      refine trLeave (Sr := S') H' hframe th fun h'' th' => ?_
      exact hx X msg rfl ⟨S'.adr, S'.σ, hideAll S'.h [env.locals]⟩ e h'' tk' e' HL XL th'
end Mine
end
section
open PySem PySem.W PyProof.Rows
namespace Mine

/-- keywords of a call -/
noncomputable def EvK (G : Amb) (hn : Bool) (n : Nat) (Z : Scope) : List Keyword → List (PySem.Str × Mo D) → Prop
  | [], [] => True
  | ⟨some x, e, _⟩ :: es, (y, m) :: ms => x = y ∧ Ev G hn n Z e m ∧ EvK G hn n Z es ms
  | _, _ => False
noncomputable def Mo.seqK : List (PySem.Str × Mo D) → Mo (List (PySem.Str × D))
  | [] => Mo.pure []
  | (x, m) :: r => Mo.bind m fun d => Mo.bind (Mo.seqK r) fun ds => Mo.pure ((x, d) :: ds)
noncomputable def Mo.args (ms : List (Mo D)) (ks : List (PySem.Str × Mo D)) : Mo (List D × List (PySem.Str × D)) :=
  Mo.bind (Mo.seq ms) fun ds => Mo.bind (Mo.seqK ks) fun kd => Mo.pure (ds, kd)

section
variable {G : Amb} {hn : Bool} {n : Nat} {Z : Scope} {c : Cx} {S : Gs} {s : Shared}

noncomputable def RKs (G : Amb) (c : Cx) (S : Gs) (ks : List (PySem.Str × Mo D)) (vs : List Value) (kd : List (PySem.Str × D)) : Prop := Rbs G c S ((ks.map (·.1)).zip vs) kd

theorem trEvalAll {pos : Pos} : ∀ {es : List Keyword} {ms : List (PySem.Str × Mo D)}, EvK G hn n Z es ms → ∀ {c env fr S s out σ'}, Run G hn n Z c env fr S s → Mo.seqK ms fr S.σ = some (out, σ') →
    Tr G c S s (fun S' => RKs G c S' ms) (evalAll ((backToKw pos (keywordEach es env)).map (·.2))) out σ'
  | [], [], _, c, env, fr, S, s, out, σ', q, hm => by refine Tr.cast hm ?_; exact Tr.pure q.H q.heap trivial
  | [], _ :: _, h, _, _, _, _, _, _, _, _, _ => h.elim
  | ⟨some _, _, _⟩ :: _, [], h, _, _, _, _, _, _, _, _, _ => h.elim
  | ⟨none, _, _⟩ :: _, [], h, _, _, _, _, _, _, _, _, _ => h.elim
  | ⟨none, _, _⟩ :: _, _ :: _, h, _, _, _, _, _, _, _, _, _ => h.elim
  | ⟨some x, e, _⟩ :: es, (y, m) :: ms, h, c, env, fr, S, s, out, σ', q, hm => by
    show Tr G c S s _ (do
      let v ← (do let v ← eval e env; PySem.standAt pos; Pure.pure v)
      return v :: (← PySem.holding [v] (evalAll ((backToKw pos (keywordEach es env)).map (·.2))))) out σ'
    refine Tr.bindM (R₁ := Rv G c) hm (fun o1 σ1 h1 => ?_) fun d v S1 tk H1 x1 ra h2 => ?_
    · refine (h.2.1 c env fr S s o1 σ1 q h1).of_imp fun Q E w => wpAny_bind (wpAny_mono w (fun _ _ z => ?_) fun _ _ z => z)
      exact wpAny_bind (wpAny_standAt (wpAny_pure z))
    · skip
      have q1 := q.step (tk := tk) H1 x1
      refine Tr.bindM h2 (fun o2 σ2 h3 => (trEvalAll h.2.2 q1 h3).holding) fun ds vs S2 tk2 H2 x2 rb h4 => ?_
      refine Tr.cast h4 ?_
      exact Tr.pure H2 rfl (show RKs G c S2 ((y, m) :: ms) (v :: vs) ((y, d) :: ds) from ⟨rfl, ra.ext x2, rb⟩)

theorem kw_names {pos : Pos} {env : Env} : ∀ {es : List Keyword} {ms : List (PySem.Str × Mo D)}, EvK G hn n Z es ms → (backToKw pos (keywordEach es env)).filterMap (·.1) = ms.map (·.1) ∧ (backToKw pos (keywordEach es env)).all (·.1.isSome) = true
  | [], [], _ => ⟨rfl, rfl⟩
  | [], _ :: _, h => h.elim
  | ⟨some _, _, _⟩ :: _, [], h => h.elim
  | ⟨none, _, _⟩ :: _, [], h => h.elim
  | ⟨none, _, _⟩ :: _, _ :: _, h => h.elim
  | ⟨some x, e, _⟩ :: es, (y, m) :: ms, h => by
    have ih := kw_names (pos := pos) (env := env) h.2.2
    have hx := h.1
    subst hx
    exact ⟨congrArg (x :: ·) ih.1, by rw [← ih.2]; rfl⟩

theorem star_all {pos : Pos} {env : Env} : ∀ {es : List Expr}, es.all notStar = true → (backTo pos (starEach es env)).any (·.1) = false
  | [], _ => rfl
  | e :: es, h => by
    have h2 := Bool.and_eq_true_iff.mp h
    rw [starEach_cons h2.1]
    have ih := star_all (pos := pos) (env := env) h2.2
    show (false || (backTo pos (starEach es env)).any (·.1)) = false
    rw [ih]; rfl

noncomputable def RArgs (G : Amb) (c : Cx) (S : Gs) (a : Args) (b : List D × List (PySem.Str × D)) : Prop := Rvs G c S a.pos b.1 ∧ Rbs G c S a.kw b.2

theorem trArgs {f : Value} {pos : Pos} {es : List Expr} {ks : List Keyword} {ms : List (Mo D)} {mk : List (PySem.Str × Mo D)} (h : EvL G hn n Z es ms) (hs : es.all notStar = true) (hk : EvK G hn n Z ks mk)
    {env : Env} {fr : Fr} {out : Out (List D × List (PySem.Str × D))} {σ' : List AO} (q : Run G hn n Z c env fr S s) (hm : Mo.args ms mk fr S.σ = some (out, σ')) :
    Tr G c S s (RArgs G c) (evalArgs f true (backTo pos (starEach es env)) (backToKw pos (keywordEach ks env))) out σ' := by
  have hst := star_all (pos := pos) (env := env) hs
  have hkn := kw_names (pos := pos) (env := env) hk
  have hsp : ∀ {out σ'}, Mo.seq ms fr S.σ = some (out, σ') → Tr G c S s (Rvs G c) (spliced (backTo pos (starEach es env))) out σ' := fun h1 => trSpliced h hs q h1
  have tail : ∀ ds σ2 (S1 : Gs) tk vs, S1.σ = σ2 → Heaps G c S1 → Ext c S S1 → Rvs G c S1 vs ds → Mo.bind (Mo.seqK mk) (fun kd => Mo.pure (ds, kd)) fr S1.σ = some (out, σ') →
      Tr G c S1 (ShT s S1.h tk) (RArgs G c) (evalAll ((backToKw pos (keywordEach ks env)).map (·.2)) >>= fun kv => (Pure.pure vs : Sem (List Value)) >>= fun p => Pure.pure ⟨p, ((backToKw pos (keywordEach ks env)).filterMap (·.1)).zip kv⟩) out σ' := by
    intro ds σ2 S1 tk vs e1 H1 x1 ra h2
    have q1 := q.step (tk := tk) H1 x1
    refine Tr.bindM h2 (fun o2 σ2 h3 => trEvalAll hk q1 h3) fun kd kv S2 tk2 H2 x2 rb h4 => ?_
    refine Tr.cast h4 ?_
    rw [hkn.1]
    exact Tr.of_imp (Tr.pure (a := (⟨vs, List.zip (mk.map (fun p : PySem.Str × Mo D => p.1)) kv⟩ : Args)) (b := (ds, kd)) (R := RArgs G c) H2 rfl ⟨ra.ext x2, rb⟩) fun Q E w => wpAny_bind (wpAny_pure w)
  unfold evalArgs
  generalize hT : backTo pos (starEach es env) = T at hsp hst
  have fin : Tr G c S s (RArgs G c) (spliced T >>= fun vs => PySem.holding (vs ++ []) (evalAll ((backToKw pos (keywordEach ks env)).map (·.2)) >>= fun kv => (Pure.pure vs : Sem (List Value)) >>= fun p => Pure.pure ⟨p, ((backToKw pos (keywordEach ks env)).filterMap (·.1)).zip kv⟩)) out σ' := by
    refine Tr.bindM hm (fun o1 σ1 h1 => hsp h1) fun ds vs S1 tk H1 x1 ra h2 => ?_
    exact Tr.holding (tail ds _ S1 tk vs rfl H1 x1 ra h2)
  cases T with
  | nil =>
    simp only [hkn.2, if_true]
    exact fin
  | cons p r =>
    obtain ⟨b, x⟩ := p
    cases b with
    | true => exact nTF hst
    | false =>
      simp only [hkn.2, if_true]
      exact fin
end
end Mine
end
section
open PySem PySem.W PyProof.Rows
namespace Mine

noncomputable def Ca (G : Amb) (hn : Bool) (n : Nat) (f : Value) (mf : Fm) : Prop :=
  ∀ c S s vs ds kw kd out σ', Ho G hn n c S s → Rvs G c S vs ds → Rbs G c S kw kd → mf ds kd S.σ = some (out, σ') → Tr G c S s (Rv G c) (call f vs kw) out σ'
theorem Fn.ca {G : Amb} {hn : Bool} {n : Nat} {f : Addr} {mf : Fm} (h : Fn G hn n f mf) : Ca G hn n (.ref f) mf := fun c S s vs ds kw kd out σ' q hv hk hm Q E hq hx => wpAny_call (h c S s vs ds kw kd out σ' q hv hk hm Q E hq hx)
noncomputable def Kep (G : Amb) (f : Value) : Prop := ∀ h, G.K.In h → ∃ k, Looks G.M h (keeperOf f) k

theorem Kep.blt {G : Amb} {id : String} : Kep G (.builtin id) := fun _ _ => ⟨.machine, Looks.of_pure rfl⟩
theorem Kep.typ {G : Amb} {id : String} : Kep G (.type id) := fun _ _ => ⟨.machine, Looks.of_pure rfl⟩
theorem Kep.fn {G : Amb} {f : Addr} {oc : Value} {od : Option Addr} {osl : Array (Option Value)} {fd : FuncData} (hK : G.K.lookup f = some ⟨oc, od, .func fd, osl⟩) : Kep G (.ref f) := fun _ X => ⟨.frame, (Looks.ld (X _ _ hK)).andThen .now⟩
theorem Kep.cls {G : Amb} {f : Addr} {oc : Value} {od : Option Addr} {osl : Array (Option Value)} {cd : ClassData} {r : Option Value} (hK : G.K.lookup f = some ⟨oc, od, .cls cd, osl⟩) (hs : specialIn G.K (.ref f) "__call__" = some r) : Kep G (.ref f) :=
  fun _ X => ⟨_, (Looks.ld (X _ _ hK)).andThen ((looks_specialIn X hs).andThen .now)⟩

section
variable {G : Amb} {hn : Bool} {n : Nat} {Z : Scope} {c : Cx} {S : Gs} {s : Shared}

theorem trCallWith {pos : Pos} {f : Value} {mf : Fm} {es : List Expr} {ks : List Keyword} {ms : List (Mo D)} {mk : List (PySem.Str × Mo D)} (h : EvL G hn n Z es ms) (hs : es.all notStar = true) (hk : EvK G hn n Z ks mk)
    (hf : Kep G f) (hc : Ca G hn n f mf) {env : Env} {fr : Fr} {out : Out D} {σ' : List AO} (q : Run G hn n Z c env fr S s) {first : List Value} {fd : List D} (rf : Rvs G c S first fd)
    (hm : Mo.bind (Mo.args ms mk) (fun a _ σ => mf (fd ++ a.1) a.2 σ) fr S.σ = some (out, σ')) :
    Tr G c S s (Rv G c) (callWith pos f first (backTo pos (starEach es env)) (backToKw pos (keywordEach ks env))) out σ' := by
  unfold callWith
  refine Tr.bindM hm (fun o1 σ1 h1 => Tr.holding (trArgs h hs hk q h1)) fun b a S1 tk H1 x1 ra h2 => ?_
  have q1 := q.step (tk := tk) H1 x1
  refine Tr.standAt ?_
  have ht := hc c S1 _ (first ++ a.pos) (fd ++ b.1) a.kw b.2 out σ' q1.ho (VRs.append (rf.ext x1) ra.1) ra.2 h2
  intro Q E hq hx
  have hst := star_all (pos := pos) (env := env) hs
  have hsk : ((backTo pos (starEach es env)).any (·.1) || (backToKw pos (keywordEach ks env)).any (·.1.isNone)) = false := by
    rw [hst, Bool.false_or]
    have := (kw_names (pos := pos) (env := env) hk).2
    rw [List.any_eq_false]
    intro x hx
    have := List.all_eq_true.mp this x hx
    cases hh : x.1 with
    | none => rw [hh] at this; exact nFT this
    | some y => intro q; exact nFT q
  (refine xE (hf S1.h H1.kin) fun k hk' => ?_)
  have tail : ∀ {t : Sem Value}, wpAny G.M c.A t Q E (ShT s S1.h tk) → wpAny G.M c.A (t >>= fun r => PySem.holding [r] PySem.point >>= fun _ => Pure.pure r) Q E (ShT s S1.h tk) :=
    fun ht => wpAny_bind (wpAny_mono ht (fun r s₂ hr => wpAny_bind (wpAny_holding (wpAny_point (wpAny_pure hr)))) fun _ _ x => x)
  have w := ht Q E hq hx
  dsimp only
  rw [hsk]
  refine wpAny_bind (hk'.here ?_)
  cases k with
  | frame =>
    dsimp only
    split
    · exact tail w
    · exact tail (by unfold callMarked; exact Calls.wpAny_keep w)
  | boundFrame =>
    dsimp only
    split
    · exact tail w
    · exact tail (by unfold callMarked; exact Calls.wpAny_keep w)
  | machine => exact tail w
  | caller => exact tail (wpAny_operating w)

noncomputable def Mo.calF (mf : Fm) (ms : List (Mo D)) (mk : List (PySem.Str × Mo D)) : Mo D := Mo.bind (Mo.args ms mk) fun a _ σ => mf a.1 a.2 σ
/-- a call of a name -/
theorem Ev.call {x : PySem.Str} {p pos : Pos} {f : Value} {mf : Fm} {es : List Expr} {ks : List Keyword} {ms : List (Mo D)} {mk : List (PySem.Str × Mo D)} (hx : Ev G hn n Z (.Name x p) (Mo.pure (.glob f))) (h : EvL G hn n Z es ms) (hk : EvK G hn n Z ks mk)
    (hf : Kep G f) (hc : Ca G hn n f mf) (hs : es.all notStar = true := by rfl) : Ev G hn n Z (.Call (.Name x p) es ks pos) (Mo.calF mf ms mk) := by
  intro c env fr S s out σ' q hm
  rw [arm_eval_Call_Name']
  refine Tr.bind (hx c env fr S s _ _ q rfl) (fun b hb a S1 tk e1 H1 x1 r1 => ?_) fun _ _ h => by exact nVE h
  (have k1 := valE hb; clear hb; subst k1)
  have ev := VR.i_glob r1
  subst ev
  exact trCallWith (fd := []) h hs hk hf hc (q.step H1 x1) .nil (by rw [e1]; exact hm)

/-- a method found -/
noncomputable def Gm (G : Amb) (name : PySem.Str) (P : D → List AO → Bool) (f : Value) : Prop :=
  ∀ c S s v d pl Q E, Heaps G c S → s.heap = S.h → Rv G c S v d → P d S.σ = true → (∀ tk, Q (f, [v]) { s with toks := tk }) → wpAny G.M c.A (getMethod v name pl) Q E s

noncomputable def Mo.chk (p : List AO → Bool) : Mo Unit := fun _ σ => if p σ then some (.val (), σ) else none
theorem bindChk {β : Type} {p : List AO → Bool} {f : Unit → Mo β} {fr : Fr} {σ : List AO} {r : Out β × List AO} (h : Mo.bind (Mo.chk p) f fr σ = some r) : p σ = true ∧ f () fr σ = some r := by
  unfold Mo.bind Mo.chk at h
  cases hp : p σ with
  | true => simp only [hp, if_true] at h; exact ⟨rfl, h⟩
  | false => simp [hp] at h
noncomputable def Mo.meth (P : D → List AO → Bool) (mf : Fm) (mo : Mo D) (ms : List (Mo D)) (mk : List (PySem.Str × Mo D)) : Mo D :=
  Mo.bind mo fun d => Mo.bind (Mo.chk (P d)) fun _ => Mo.bind (Mo.args ms mk) fun a _ σ => mf (d :: a.1) a.2 σ

theorem Ev.meth {o : Expr} {name : PySem.Str} {apos pos : Pos} {P : D → List AO → Bool} {f : Value} {mf : Fm} {es : List Expr} {ks : List Keyword} {mo : Mo D} {ms : List (Mo D)} {mk : List (PySem.Str × Mo D)} (ho : Ev G hn n Z o mo) (h : EvL G hn n Z es ms) (hk : EvK G hn n Z ks mk)
    (hg : Gm G name P f) (hf : Kep G f) (hc : Ca G hn n f mf) (hs : es.all notStar = true := by rfl) (hbase : ∀ env, attributeBase o name env (eval o env) = eval o env := by intro _; rfl)
    (hfew : ∀ env, methodCallForm (es.length + ks.length) (backTo pos (starEach es env)) (backToKw pos (keywordEach ks env)) = true := by intro _; rfl)
    (hline : (apos.endLine == pos.line) = true := by rfl) :
    Ev G hn n Z (.Call (.Attribute o name apos) es ks pos) (Mo.meth P mf mo ms mk) := by
  intro c env fr S s out σ' q hm
  rw [arm_eval_Call, hbase]
  refine Tr.bindM hm (fun o1 σ1 h1 => ho c env fr S s o1 σ1 q h1) fun d ov S1 tk H1 x1 ra h2 => ?_
  refine Tr.standAt ?_
  (refine xA (bindChk h2) fun hP h3 => ?_)
  unfold methodCall
  rw [hfew]
  have hp : methodCallPos true o env apos pos = Pure.pure pos := by unfold methodCallPos; simp [hline]
  have q1 := q.step (tk := tk) H1 x1
  intro Q E hq hx
  refine wpAny_bind (wpAny_holding (hg c S1 _ ov d _ _ _ H1 rfl ra hP fun tk' => ?_))
  rw [hp]
  refine wpAny_bind (wpAny_pure ?_)
  have q2 : Run G hn n Z c env fr S1 (ShT s S1.h tk') := q.step H1 x1
  exact trCallWith (fd := [d]) h hs hk hf hc q2 (VRs.one ra) h3 Q E hq hx

/-- an object of a class in the store -/
theorem Heaps.inst (H : Heaps G c S) {k : Nat} {C : Addr} {at_ : List (PySem.Str × D)} {v : Value} (r : Rv G c S v (.ref k)) (hk : S.σ[k]? = some (.ins C at_)) :
    ∃ (p : Addr × Addr) (es : Array DictEntry) (m : Nat) (sl : Array (Option Value)), v = .ref p.1 ∧ S.adr[k]? = some p ∧ InstAt S.h p.1 (instObj C p.2) C (some { cls := .type "dict", dict := none, data := .dict es m, slots := sl }) ∧ S.h.get? p.2 = some { cls := .type "dict", dict := none, data := .dict es m, slots := sl } ∧ VRe G.w.params S.adr (vol c S) S.h es.toList at_ := by
  (refine xEA r.i_ref fun p q0z hp => ?_; subst q0z)
  · (refine xAEEA (H.store k p _ hp hk) fun h1 es m h2 h3 => ?_)
    exact ⟨p, es, m, #[], rfl, hp, ⟨h1, rfl, rfl, h2⟩, h2, h3⟩
theorem Heaps.instX (H : Heaps G c S) {k : Nat} {C : Addr} {at_ : List (PySem.Str × D)} {v : Value} (r : Rv G c S v (.ref k)) (hk : S.σ[k]? = some (.ins C at_)) :
    ∃ (p : Addr × Addr) (es : List DictEntry) (m : Nat), v = .ref p.1 ∧ S.adr[k]? = some p ∧ InstAt S.h p.1 (instObj C p.2) C (some (dictOf es m)) ∧ S.h.get? p.2 = some (dictOf es m) ∧ S.h.get? p.1 = some (instObj C p.2) ∧ VRe G.w.params S.adr (vol c S) S.h es at_ := by
  (refine xEA r.i_ref fun p q0z hp => ?_; subst q0z)
  · (refine xAEEA (H.store k p _ hp hk) fun h1 es m h2 h3 => ?_)
    exact ⟨p, es.toList, m, rfl, hp, ⟨h1, rfl, rfl, h2⟩, h2, h1, h3⟩

theorem VRe.getL {P : Params} {adr : Adr} {V : List Addr} {h : Heap} (name : PySem.Str) {es : List DictEntry} {at_ : List (PySem.Str × D)} (r : VRe P adr V h es at_) :
    (at_.lookup name = none → W.getL name es = some none) ∧ ∀ d, at_.lookup name = some d → ∃ v, W.getL name es = some (some v) ∧ VR P adr V h v d :=
  VRe.ind (C := fun es at_ => (at_.lookup name = none → W.getL name es = some none) ∧ ∀ d, at_.lookup name = some d → ∃ v, W.getL name es = some (some v) ∧ VR P adr V h v d) ⟨fun _ => rfl, fun d e => nnS e⟩
    (fun e x t d es ds hk _ hv _ ih => by
      have hs : e.key.isStr name = (x == name) := by rw [hk]; rfl
      have hr : e.refKey = false := by unfold DictEntry.refKey; rw [hk]
      clear hk
      unfold W.getL at ih ⊢
      rw [List.find?_cons, hs]
      by_cases q : x = name
      · subst q
        rw [List.lookup_cons_self, beq_self_eq_true x]
        exact ⟨fun e => nSn e, fun d' e' => ⟨_, rfl, s1E e' ▸ hv⟩⟩
      · rw [List.lookup_cons, beq_eq_false_iff_ne.mpr fun e : name = x => q e.symm, beq_eq_false_iff_ne.mpr q, List.any_cons, hr, Bool.false_or]
        exact ih) r

noncomputable def isIns (C : Addr) (name : PySem.Str) (d : D) (σ : List AO) : Bool := match d with
  | .ref k => (match σ[k]? with
    | some (.ins C' at_) => C' == C && (at_.lookup name).isNone
    | _ => false)
  | _ => false
theorem isIns_of {C : Addr} {name : PySem.Str} {d : D} {σ : List AO} (h : isIns C name d σ = true) : ∃ k at_, d = .ref k ∧ σ[k]? = some (.ins C at_) ∧ at_.lookup name = none := by
  unfold isIns at h
  split at h
  · rename_i k
    split at h
    · rename_i C' at_ e
      (refine xA (Bool.and_eq_true_iff.mp h) fun h1 h2 => ?_)
      rw [beq_iff_eq] at h1
      subst h1
      exact ⟨k, at_, rfl, e, Option.isNone_iff_eq_none.mp h2⟩
    · exact nFT h
  · exact nFT h

theorem Gm.ins {C f : Addr} {name : PySem.Str} (hg : plainGet G.K C name = true) (hf : findIn G.K (.ref C) name = some (some (.ref f))) (ht : isFn G.K (.ref f) = true) : Gm G name (isIns C name) (.ref f) := by
  intro c S s v d pl Q E H hs r hP hq
  (refine xEEAA (isIns_of hP) fun k at_ q0z hk hl => ?_; subst q0z)
  (refine xEE (H.inst r hk) fun p es w1z => ?_; refine xEEAAA w1z fun m sl q0z hp I w2z => ?_; refine xA w2z fun _ re => ?_; subst q0z)
  (refine xA (plainGet_of hg) fun g1 g2 => ?_)
  rw [← hs] at I
  refine method_fn (by rw [hs]; exact H.kin) I g1 g2 hf (beq_iff_eq.mp ht) ?_ (hq s.toks)
  show (W.getL name es.toList).map _ = _
  rw [(VRe.getL name re).1 hl]; rfl

/-- a read of an own attribute -/
noncomputable def Mo.attr (C : Addr) (name : PySem.Str) (mo : Mo D) : Mo D := Mo.bind mo fun d _ σ => match d with
  | .ref k => match σ[k]? with
    | some (.ins C' at_) => if C' = C then match at_.lookup name with
        | some (.ref j) => some (.val (.ref j), σ)
        | _ => none
      else none
    | _ => none
  | _ => none
theorem Ev.attr {o : Expr} {name : PySem.Str} {pos : Pos} {C : Addr} {mo : Mo D} {attr : Option Value} (ho : Ev G hn n Z o mo) (hg : plainGet G.K C name = true) (hh : hasDictIn G.K C = true) (ha : findIn G.K (.ref C) name = some attr) (hno : noGet G.K attr = true)
    (hbase : ∀ env, attributeBase o name env (eval o env) = eval o env := by intro _; rfl) (hname : ∀ o' r, letTemporaryGo o o' r = Pure.pure () := by intro _ _; rfl) : Ev G hn n Z (.Attribute o name pos) (Mo.attr C name mo) := by
  intro c env fr S s out σ' q hm
  rw [arm_eval_Attribute, hbase]
  refine Tr.bindM hm (fun o1 σ1 h1 => ho c env fr S s o1 σ1 q h1) fun d ov S1 tk H1 x1 ra h2 => ?_
  split at h2
  · rename_i k
    split at h2
    · rename_i C' at_ hk
      split at h2
      · rename_i hC
        subst hC
        split at h2
        · rename_i j hl
          refine Tr.cast h2 ?_
          refine Tr.standAt (Tr.tok H1 rfl fun Q E hq => ?_)
          (refine xEE (H1.inst ra hk) fun p es w3z => ?_; refine xEEAAA w3z fun m sl q0z hp I w4z => ?_; refine xA w4z fun _ re => ?_; subst q0z)
          (refine xA (plainGet_of hg) fun g1 g2 => ?_)
          (refine xEA ((VRe.getL name re).2 _ hl) fun v hv rv => ?_)
          have hhv : handedIn v = true := by refine xEA (VR.i_ref rv) fun _ ev _ => ?_; subst ev; rfl
          refine wpAny_bind (wpAny_holding (get_value (s := (ShT s S1.h tk)) H1.kin I g1 (findObj_own hh ha hno (by exact hv)) hhv ?_))
          rw [hname]
          exact wpAny_bind (wpAny_pure (wpAny_pure (hq v _ rv)))
        · exact nnS h2
      · exact nnS h2
    · exact nnS h2
  · exact nnS h2
end
end Mine
end
section
open PySem PySem.W PyProof.Rows
namespace Mine

theorem AdrLe.snoc (a : Adr) (p : Addr × Addr) : AdrLe a (a ++ [p]) := .append a [p]

theorem reg_apart : ∀ {adr : Adr} {σ : List AO}, (reg adr σ).Nodup → ∀ {n k : Nat} {p q : Addr × Addr} {o u : AO}, n ≠ k → adr[n]? = some p → σ[n]? = some o → adr[k]? = some q → σ[k]? = some u → ∀ a, a ∈ regOf p o → a ∉ regOf q u
  | [], _, _, n, k, _, _, _, _, _, h, _, _, _, _, _ => by simp at h
  | _ :: _, [], _, n, k, _, _, _, _, _, _, h, _, _, _, _ => by simp at h
  | p :: ps, o :: os, hn, n, k, p', q', o', u', hne, h1, h2, h3, h4, a, ha => by
    (refine xAA (List.nodup_append.mp (show (regOf p o ++ reg ps os).Nodup from hn)) fun n1 n2 n3 => ?_)
    cases n with
    | zero =>
      cases k with
      | zero => exact absurd rfl hne
      | succ k =>
        simp at h1 h2; subst h1 h2
        intro hb
        exact n3 a ha a (reg_mem (by simpa using h3) (by simpa using h4) a hb) rfl
    | succ n =>
      cases k with
      | zero =>
        simp at h3 h4; subst h3 h4
        intro hb
        exact n3 a hb a (reg_mem (by simpa using h1) (by simpa using h2) a ha) rfl
      | succ k => exact reg_apart n2 (fun e => hne (congrArg (· + 1) e)) (by simpa using h1) (by simpa using h2) (by simpa using h3) (by simpa using h4) a ha
theorem reg_set : ∀ {adr : Adr} {σ : List AO} {k : Nat} {p : Addr × Addr} {o o' : AO}, adr[k]? = some p → σ[k]? = some o → (regOf p o').Sublist (regOf p o) → (reg adr (σ.set k o')).Sublist (reg adr σ)
  | [], _, k, _, _, _, h, _, _ => by simp at h
  | _ :: _, [], k, _, _, _, _, h, _ => by simp at h
  | p :: ps, o :: os, 0, _, _, o', h1, h2, hs => by
    simp at h1 h2; subst h1 h2
    exact List.Sublist.append hs (.refl _)
  | p :: ps, o :: os, k + 1, _, _, o', h1, h2, hs => List.Sublist.append (.refl _) (reg_set (by simpa using h1) (by simpa using h2) hs)

section
variable {G : Amb} {c : Cx} {S : Gs}

/-- one of the store's objects turns -/
theorem Heaps.turn (H : Heaps G c S) {k : Nat} {p : Addr × Addr} {o o' : AO} (hp : S.adr[k]? = some p) (ho : S.σ[k]? = some o) (hreg : (regOf p o').Sublist (regOf p o)) {h' : Heap}
    (same : ∀ b x, b ∉ regOf p o → S.h.get? b = some x → h'.get? b = some x) (live : ∀ b, b ∈ regOf p o → ∃ x, h'.get? b = some x) (rep : ORep G.w.params S.adr (vol c S) h' p o') :
    Heaps G c ⟨S.adr, S.σ.set k o', h'⟩ ∧ Ext c S ⟨S.adr, S.σ.set k o', h'⟩ := by
  have hr : ∀ b, b ∈ regOf p o → b ∈ S.reg := fun b hb => reg_mem hp ho b hb
  have hsub : (reg S.adr (S.σ.set k o')).Sublist S.reg := reg_set hp ho hreg
  have xx : Ext c S ⟨S.adr, S.σ.set k o', h'⟩ := ⟨.refl _, fun b x e hb => .inl (same b x (fun q => hb (hr b q)) e), fun a ha => .inl (hsub.subset ha), fun a x e => by
    by_cases q : a ∈ regOf p o
    · exact live a q
    · exact ⟨x, same a x q e⟩⟩
  have off : ∀ L, L ∉ S.reg → ∀ x, S.h.get? L = some x → h'.get? L = some x := fun L hL x e => same L x (fun q => hL (hr L q)) e
  refine ⟨⟨H.ok, fun b x e => off b (fun q => by rw [H.new b q] at e; exact nnS e) x (H.stays b x e), H.frames, ?_, fun L hL => ?_, fun L hL => ?_, by rw [List.length_set]; exact H.len, fun n q u h1 h2 => ?_, fun a ha => H.new a (hsub.subset ha), H.nodup.sublist hsub⟩, xx⟩
  · exact funFrames_of H.funs fun L hL x e hd => ⟨x, off L (H.fdict L hL).2 x e, hd⟩
  · (refine xA (H.fdict L hL) fun q0z r => ?_; refine xEEEA q0z fun x es m e hd => ?_)
    exact ⟨⟨x, es, m, off L r x e, hd⟩, fun q => r (hsub.subset q)⟩
  · (refine xAA (H.xs L hL) fun q0z r b => ?_; refine xE q0z fun x e => ?_)
    exact ⟨⟨x, off L r x e⟩, fun q => r (hsub.subset q), b⟩
  · have h1' : S.adr[n]? = some q := h1
    have h2' : (S.σ.set k o')[n]? = some u := h2
    by_cases e : n = k
    · subst e
      rw [List.getElem?_set_self (List.getElem?_eq_some_iff.mp ho).1] at h2'
      rw [hp] at h1'
      (have k1 := s1E h1'; clear h1'; subst k1); (have k1 := s1E h2'; clear h2'; subst k1)
      exact ORep.mono (fun a x _ e => e) (.refl _) (.of_sub _ fun a ha => (List.mem_append.mp ha).elim (fun z => List.mem_append_left _ (hsub.subset z)) (List.mem_append_right _)) (fun a _ x e => e) rep
    · rw [List.getElem?_set_ne (fun q => e q.symm)] at h2'
      refine ORep.mono xx.pres xx.adr xx.volLe (fun a ha x e' => same a x (reg_apart H.nodup e h1' h2' hp ho a ha) e') (H.store n q u h1' h2')

/-- a new one -/
theorem Heaps.born (H : Heaps G c S) {p : Addr × Addr} {o : AO} {h' : Heap} (k : ∀ b x, S.h.get? b = some x → h'.get? b = some x) (hn : ∀ a, a ∈ regOf p o → S.h.get? a = none ∧ ∃ x, h'.get? a = some x) (hnd : (regOf p o).Nodup)
    (rep : Ext c S ⟨S.adr ++ [p], S.σ ++ [o], h'⟩ → ORep G.w.params (S.adr ++ [p]) (vol c ⟨S.adr ++ [p], S.σ ++ [o], h'⟩) h' p o) :
    Heaps G c ⟨S.adr ++ [p], S.σ ++ [o], h'⟩ ∧ Ext c S ⟨S.adr ++ [p], S.σ ++ [o], h'⟩ := by
  have hreg : reg (S.adr ++ [p]) (S.σ ++ [o]) = S.reg ++ regOf p o := reg_append H.len
  have xx : Ext c S ⟨S.adr ++ [p], S.σ ++ [o], h'⟩ := ⟨.snoc _ _, fun b x e _ => .inl (k b x e), fun a ha => by
    have ha' : a ∈ reg (S.adr ++ [p]) (S.σ ++ [o]) := ha
    rw [hreg] at ha'
    rcases List.mem_append.mp ha' with q | q
    · exact .inl q
    · exact .inr (hn a q).1, fun a x e => ⟨x, k a x e⟩⟩
  have noin : ∀ a x, S.h.get? a = some x → a ∉ regOf p o := fun a x e hm => by rw [(hn a hm).1] at e; exact nnS e
  have base_none : ∀ a, S.h.get? a = none → G.base.get? a = none := fun a e => by
    cases q : G.base.get? a with
    | none => rfl
    | some o => rw [H.stays a o q] at e; exact nSn e
  have mem : ∀ a, a ∈ (⟨S.adr ++ [p], S.σ ++ [o], h'⟩ : Gs).reg → a ∈ S.reg ∨ a ∈ regOf p o := fun a ha => by
    have ha' : a ∈ reg (S.adr ++ [p]) (S.σ ++ [o]) := ha
    rw [hreg] at ha'; exact List.mem_append.mp ha'
  refine ⟨⟨H.ok, fun b x e => k b x (H.stays b x e), H.frames, H.funs.of_keeps fun b o e _ => ⟨o, k b o e, rfl⟩, fun L hL => ?_, fun L hL => ?_, by rw [List.length_append, List.length_append, H.len]; rfl, fun n q u h1 h2 => ?_, fun a ha => ?_, ?_⟩, xx⟩
  · (refine xA (H.fdict L hL) fun q0z r => ?_; refine xEEEA q0z fun x es m e hd => ?_)
    exact ⟨⟨x, es, m, k _ _ e, hd⟩, fun q => (mem L q).elim r (noin L x e)⟩
  · (refine xAA (H.xs L hL) fun q0z r b => ?_; refine xE q0z fun x e => ?_)
    exact ⟨⟨x, k _ _ e⟩, fun q => (mem L q).elim r (noin L x e), b⟩
  · have h1' : (S.adr ++ [p])[n]? = some q := h1
    have h2' : (S.σ ++ [o])[n]? = some u := h2
    by_cases e : n < S.adr.length
    · rw [List.getElem?_append_left e] at h1'
      rw [List.getElem?_append_left (by rw [← H.len]; exact e)] at h2'
      exact ORep.mono xx.pres xx.adr xx.volLe (fun a _ x e => k a x e) (H.store n q u h1' h2')
    · have hn' : n = S.adr.length := by
        have := (List.getElem?_eq_some_iff.mp h1').1
        simp at this; omega
      subst hn'
      rw [List.getElem?_append_right (Nat.le_refl _), Nat.sub_self] at h1'
      rw [H.len, List.getElem?_append_right (Nat.le_refl _), Nat.sub_self] at h2'
      (have k1 := s1E h1'; clear h1'; subst k1); (have k1 := s1E h2'; clear h2'; subst k1)
      exact rep xx
  · rcases mem a ha with q | q
    · exact H.new a q
    · exact base_none a (hn a q).1
  · show (reg (S.adr ++ [p]) (S.σ ++ [o])).Nodup
    rw [hreg]
    exact List.nodup_append.mpr ⟨H.nodup, hnd, fun a ha b hb e => by
      subst e
      (refine xE (H.reg_some ha) fun x hx => ?_)
      exact noin a x hx hb⟩

theorem Rv.mv {h' : Heap} {v : Value} {d : D} (r : Rv G c S v d) (k : ∀ b x, b ∉ S.reg → S.h.get? b = some x → h'.get? b = some x) : VR G.w.params S.adr (vol c S) h' v d :=
  VR.mono (fun a x hn e => k a x (fun q => hn (List.mem_append_left _ q)) e) (.refl _) (.of_sub _ fun _ h => h) r
theorem Rvs.mv {h' : Heap} {v : List Value} {d : List D} (r : Rvs G c S v d) (k : ∀ b x, b ∉ S.reg → S.h.get? b = some x → h'.get? b = some x) : VRs G.w.params S.adr (vol c S) h' v d :=
  VRs.mono (fun a x hn e => k a x (fun q => hn (List.mem_append_left _ q)) e) (.refl _) (.of_sub _ fun _ h => h) r

/-- a store's list -/
theorem Heaps.lst (H : Heaps G c S) {k : Nat} {ds : List D} {v : Value} (r : Rv G c S v (.ref k)) (hk : S.σ[k]? = some (.lst ds)) :
    ∃ (p : Addr × Addr) (o : Obj) (m : Nat) (vs : Array Value), v = .ref p.1 ∧ S.adr[k]? = some p ∧ S.h.get? p.1 = some o ∧ o.cls = .type "list" ∧ o.data = .seq vs m ∧ vs.size ≤ sizeLine ∧ Rvs G c S vs.toList ds := by
  (refine xEA r.i_ref fun p q0z hp => ?_; subst q0z)
  · (refine xEEAA (H.store k p _ hp hk) fun m vs h1 h4 h5 => ?_)
    exact ⟨p, _, m, vs, rfl, hp, h1, rfl, rfl, h4, h5⟩
theorem Heaps.lstX (H : Heaps G c S) {k : Nat} {ds : List D} {v : Value} (r : Rv G c S v (.ref k)) (hk : S.σ[k]? = some (.lst ds)) :
    ∃ (p : Addr × Addr) (m : Nat) (vs : Array Value), v = .ref p.1 ∧ S.adr[k]? = some p ∧ S.h.get? p.1 = some { cls := .type "list", dict := none, data := .seq vs m, slots := #[] } ∧ vs.size ≤ sizeLine ∧ Rvs G c S vs.toList ds := by
  (refine xEA r.i_ref fun p q0z hp => ?_; subst q0z)
  · (refine xEEAA (H.store k p _ hp hk) fun m vs h1 h4 h5 => ?_)
    exact ⟨p, m, vs, rfl, hp, h1, h4, h5⟩

/-- the store's list takes other items -/
theorem Heaps.setLst (H : Heaps G c S) {k : Nat} {ds ds' : List D} {p : Addr × Addr} (hp : S.adr[k]? = some p) (hk : S.σ[k]? = some (.lst ds)) {h' : Heap} (hs : Heap.SameBut p.1 S.h h') {m : Nat} {vs : Array Value}
    (ho : h'.get? p.1 = some { cls := .type "list", dict := none, data := .seq vs m, slots := #[] }) (hz : vs.size ≤ sizeLine) (hr : Rvs G c S vs.toList ds') :
    Heaps G c ⟨S.adr, S.σ.set k (.lst ds'), h'⟩ ∧ Ext c S ⟨S.adr, S.σ.set k (.lst ds'), h'⟩ := by
  have hin : p.1 ∈ S.reg := reg_mem hp hk p.1 (.head _)
  refine H.turn (o' := .lst ds') hp hk (List.Sublist.refl _) (fun b x hb e => hs.extBut b x (fun q => hb (q ▸ .head _)) e) (fun b hb => ?_) ⟨m, vs, ho, hz, hr.mv fun b x hb e => hs.extBut b x (fun q => hb (q ▸ hin)) e⟩
  cases hb with
  | head => exact ⟨_, ho⟩
  | tail _ q => cases q

/-- a new list for the store -/
theorem Heaps.bornLst (H : Heaps G c S) {a : Addr} {h' : Heap} (k : ∀ b x, S.h.get? b = some x → h'.get? b = some x) (hn : S.h.get? a = none) {m : Nat} {vs : Array Value} {ds : List D}
    (ho : h'.get? a = some { cls := .type "list", dict := none, data := .seq vs m, slots := #[] }) (hz : vs.size ≤ sizeLine) (hr : Rvs G c S vs.toList ds) :
    Heaps G c ⟨S.adr ++ [(a, a)], S.σ ++ [.lst ds], h'⟩ ∧ Ext c S ⟨S.adr ++ [(a, a)], S.σ ++ [.lst ds], h'⟩ ∧ Rv G c ⟨S.adr ++ [(a, a)], S.σ ++ [.lst ds], h'⟩ (.ref a) (.ref S.σ.length) := by
  obtain ⟨H', x'⟩ := H.born (p := (a, a)) (o := .lst ds) k (fun b hb => by
    cases hb with
    | head => exact ⟨hn, _, ho⟩
    | tail _ q => cases q) (List.nodup_cons.mpr ⟨List.not_mem_nil, .nil⟩) fun x => ⟨m, vs, ho, hz, hr.ext x⟩
  refine ⟨H', x', .ref (p := (a, a)) ?_⟩
  show (S.adr ++ [(a, a)])[S.σ.length]? = _
  rw [← H.len, List.getElem?_append_right (Nat.le_refl _), Nat.sub_self]; rfl

end
end Mine
end
section
open PySem PySem.W PyProof.Rows
namespace Mine

/-- an exception noted by the frame -/
noncomputable def ThrH (G : Amb) (c : Cx) (hr : Heap) (e : Addr) (X : String) (msg : PySem.Str) (h' : Heap) : Prop :=
  ∃ t tk, h'.TupAt t [.str msg tk] ∧ hr.get? t = none ∧ hr.get? e = none ∧ hr.UpToSlots h' ∧
    ∃ L, c.fenv.frame = some L ∧ Heap.HeldW (hideAll hr c.fs) c.stack e (.type X) (.ref t) L h'
theorem ThrH.thr {G : Amb} {c : Cx} {hr : Heap} {e : Addr} {X : String} {msg : PySem.Str} {h' : Heap} (x : ThrH G c hr e X msg h') : Thr G c hr e X msg h' :=
  let ⟨t, tk, a3, a4, a5, a6, a7⟩ := x; .inr ⟨t, tk, a3, a4, a5, a6, .inr a7⟩

section
variable {M : Model} {A : Around} {E : Value → Shared → Prop} {s : Shared}
theorem setFlight_heldW {base : Heap} {l : List Env} {e L : Addr} {cls a0 fl : Value} {Q : Unit → Shared → Prop} (hkb : base.StaysIn s.heap) (hen : base.get? e = none) (hl : s.heap.FunFrames base l) (R : s.heap.TracedAtW base e cls a0 fl)
    (h : ∀ h', Heap.HeldW base l e cls a0 L h' → s.heap.UpToSlots h' → Q () { s with heap := h' }) : wpAny M A (do
      if (← field (.ref e) 1) == .none then unsupported "frame.own-activation:exception-without-traceback"
      setFlight (.ref e) (some L)) Q E s := by
  (refine xEE R fun oe vs w5z => ?_; refine xEEEAAAAA w5z fun T oT ts he hcls hd h1 hnT w6z => ?_; refine xAAA w6z fun hTe hT hdT h3 => ?_; try clear R)
  have hsz3 : 3 < ts.size := (Array.getElem?_eq_some_iff.mp h3).1
  have other : ∀ b, b ≠ T → (s.heap.update T (Obj.mapFields (·.setIfInBounds 3 ((some L).elim Value.none fun f => rawInt f)))).get? b = s.heap.get? b :=
    fun b hb => Heap.get?_update_other _ _ (Ne.symm hb)
  have noRecord : ∀ b o, s.heap.get? b = some o → (∀ vs, o.data ≠ .fields vs) → b ≠ T := fun b o hb hnf q => by
    rw [q, hT] at hb; injection hb with hb; subst hb; exact hnf ts hdT
  refine wpAny_bind (wpAny_field he hd h1 ?_)
  rw [if_neg (show ¬ ((Value.ref T == Value.none) = true) from by simp)]
  unfold setFlight
  refine wpAny_bind (wpAny_field he hd h1 ?_)
  rw [if_pos (show (Value.ref T != Value.none) = true from by simp)]
  refine wpAny_setField hT hdT hsz3 (h _ ⟨fun b o hbo => (other b fun q => by rw [q, hnT] at hbo; exact nnS hbo).trans (hkb b o hbo), hen,
    hl.of_keeps fun b o hb hnf => ⟨o, (other b (noRecord b o hb hnf)).trans hb, rfl⟩, ?_⟩ fun b o hb hnf => ⟨o.slots, (other b (noRecord b o hb hnf)).trans hb⟩)
  exact ⟨oe, vs, T, _, _, (other e (Ne.symm hTe)).trans he, hcls, hd, h1, hnT, hTe, Heap.get?_update_self _ hT (Obj.isFreed_of_fields (Obj.data_mapFields hdT _)), Obj.data_mapFields hdT _, by simp [hsz3]⟩
end

section
variable {G : Amb} {c : Cx} {S : Gs} {s : Shared} {env : Env}

theorem trNote (H : Heaps G c S) (hf : c.fenv = env) {L : Addr} (hL : env.frame = some L) {e : Addr} {X : String} {msg : PySem.Str} (th : Thr G c S.h e X msg s.heap) {Q : Unit → Shared → Prop} {E : Value → Shared → Prop}
    (hq : ∀ h', ThrH G c S.h e X msg h' → Q () { s with heap := h' }) : wpAny G.M c.A (noteFrame (.ref e) env) Q E s := by
  subst hf
  have hfr : c.A.frames = some (c.fenv :: c.outer) := H.frames
  rcases th with ⟨tk, mk⟩ | ⟨t, tk, h3, h4, h5, h6, fl | ⟨L', hL', hd⟩⟩
  · (refine xEAA mk.there fun t he htn ht => ?_)
    have stay : (hideAll S.h c.fs).StaysIn s.heap := fun b o q => mk.keeps b o (of_hideAll _ q)
    have hnone : ∀ b, S.h.get? b = none → (hideAll S.h c.fs).get? b = none := fun b q => by
      cases e' : (hideAll S.h c.fs).get? b with
      | none => rfl
      | some o => have := of_hideAll _ e'; rw [q] at this; exact nnS this
    have ff : S.h.FunFrames (hideAll S.h c.fs) (c.fenv :: c.outer) := funFrames_hide H.funs fun e' he a ha => List.mem_filterMap.mpr ⟨e', he, ha⟩
    have ff' : s.heap.FunFrames (hideAll S.h c.fs) (c.fenv :: c.outer) := ff.of_keeps fun b o hb _ => ⟨o, mk.keeps b o hb, rfl⟩
    unfold noteFrame
    simp only [hL]
    refine wpAny_bind (wpAny_field he rfl (x := .none) rfl ?_)
    rw [if_neg (by decide)]
    refine wpAny_entryW (base := hideAll S.h c.fs) hfr ff' hL he stay (hnone e mk.new) rfl (Nat.lt_of_lt_of_le (by decide : 1 < 6) (Nat.le_refl 6)) (a0 := .ref t) rfl fun h' hN => ?_
    (refine xAAA hN fun k1 k2 k3 k4 => ?_; try clear hN)
    have sl : s.heap.UpToSlots h' := k4
    exact hq h' ⟨t, tk, Heap.TupAt.of_slots ⟨_, _, ht, rfl, rfl⟩ sl, htn, mk.new, (Heap.UpToSlots.of_keeps mk.keeps).trans sl, L, hL, k1, hnone e mk.new, k2, k3⟩
  · refine wpAny_looks_onW hfr hL fl fun h' hh sl => ?_
    exact hq h' ⟨t, tk, h3.of_slots sl, h4, h5, h6.trans sl, L, hL, hh⟩
  · rw [hL] at hL'; (have k1 := s1E hL'; clear hL'; subst k1)
    exact wpAny_noteFrame_againW hL hd.2.2.2 (by have := hq s.heap ⟨t, tk, h3, h4, h5, h6, L, hL, hd⟩; exact this)

theorem trCameBack (hf : c.fenv = env) {L : Addr} (hL : env.frame = some L) {hr : Heap} {e : Addr} {X : String} {msg : PySem.Str} (th : ThrH G c hr e X msg s.heap) {E : Value → Shared → Prop}
    (hq : ∀ h', Thr G c hr e X msg h' → E (.ref e) { s with heap := h' }) : cameBackBy G.M c.A env E (.ref e) s := by
  subst hf
  (refine xEEAAA th fun t tk h3 h4 h5 w7z => ?_; refine xA w7z fun h6 w8z => ?_; refine xEA w8z fun L' hL' hd => ?_; try clear th)
  rw [hL] at hL'; (have k1 := s1E hL'; clear hL'; subst k1)
  unfold cameBackBy
  rw [hL]
  (refine xAAA hd fun k1 k2 k3 k4 => ?_; try clear hd)
  exact setFlight_heldW (Q := fun _ s'' => E (.ref e) s'') k1 k2 k3 k4 fun h' hh sl => hq h' (ThrH.thr ⟨t, tk, h3.of_slots sl, h4, h5, h6.trans sl, L, hL, hh⟩)
end
end Mine
end
section
open PySem PySem.W PyProof.Rows
namespace Mine

noncomputable def Cx.addX (c : Cx) (its : List Addr) : Cx := { c with X := its ++ c.X }

section
variable {G : Amb} {c : Cx} {S S' : Gs} {its : List Addr} {env : Env} {fr : Fr}

theorem vol_addX {a : Addr} : a ∈ vol (c.addX its) S ↔ a ∈ its ∨ a ∈ vol c S := by
  unfold vol Cx.addX
  simp only [List.mem_append]
  constructor
  · rintro (h | h | h | h)
    · exact .inr (.inl h)
    · exact .inr (.inr (.inl h))
    · exact .inl h
    · exact .inr (.inr (.inr h))
  · rintro (h | h | h | h)
    · exact .inr (.inr (.inl h))
    · exact .inl h
    · exact .inr (.inl h)
    · exact .inr (.inr (.inr h))
theorem Rv.addX (r : Rv G c S v d) (x : Ext c S S') (hi : ∀ a ∈ its, S.h.get? a = none) : Rv G (c.addX its) S' v d :=
  VR.mono x.pres x.adr (fun a ha => (vol_addX.mp ha).elim (fun q => .inr (hi a q)) (x.volLe a)) r
theorem Rv.dropX (r : Rv G (c.addX its) S v d) : Rv G c S v d := VR.mono (fun _ _ _ e => e) (.refl _) (.of_sub _ fun _ ha => vol_addX.mpr (.inr ha)) r
theorem Rvs.dropX (r : Rvs G (c.addX its) S v d) : Rvs G c S v d := VRs.mono (fun _ _ _ e => e) (.refl _) (.of_sub _ fun _ ha => vol_addX.mpr (.inr ha)) r
theorem EnvOk.addX (H : Heaps G c S) (V : EnvOk G c env fr S) (x : Ext c S S') (hi : ∀ a ∈ its, S.h.get? a = none) : EnvOk G (c.addX its) env fr S' := by
  have V' := x.env H V
  have hL : env.locals ∉ S.reg := by
    rcases List.mem_append.mp V.loc with q | q
    · exact (H.fdict _ q).2
    · exact (H.xs _ q).2.1
  refine ⟨V.kind, V.glob, V.blt, V.frame, ?_, ?_, fun y hy => ?_, fun y k hk => List.mem_append_right _ (V.own y k hk), V.apart⟩
  · refine Classical.byContradiction fun nQ => ?_
    rcases List.mem_append.mp V.loc with q | q
    · refine nQ ?_
      clear nQ
      exact List.mem_append_left _ q
    · refine nQ ?_
      clear nQ
      exact List.mem_append_right _ (List.mem_append_right _ q)
  · refine Classical.byContradiction fun nQ => ?_
    (refine xEA V.vars fun m hn hm => ?_)
    refine nQ ?_
    clear nQ
    exact ⟨m, x.ns hL hn, fun y d hd hk => let ⟨v, hv, r⟩ := hm y d hd hk; ⟨v, hv, r.addX x hi⟩⟩
  · refine Classical.byContradiction fun nQ => ?_
    (refine xEEAA (V.cell y hy) fun k v0 hl hc hd => ?_)
    refine nQ ?_
    clear nQ
    exact ⟨k, v0, hl, x.cell (H.xs k (V.own y k hl)).2.1 hc, fun d q => let ⟨v, hv, r⟩ := hd d q; ⟨v, hv, r.addX x hi⟩⟩
theorem EnvOk.dropX (V0 : EnvOk G c env fr0 S0) (V : EnvOk G (c.addX its) env fr S) : EnvOk G c env fr S := by
  refine ⟨V.kind, V.glob, V.blt, V.frame, V0.loc, ?_, fun y hy => ?_, V0.own, V.apart⟩
  · refine Classical.byContradiction fun nQ => ?_
    (refine xEA V.vars fun m hn hm => ?_)
    refine nQ ?_
    clear nQ
    exact ⟨m, hn, fun y d hd hk => let ⟨v, hv, r⟩ := hm y d hd hk; ⟨v, hv, r.dropX⟩⟩
  · refine Classical.byContradiction fun nQ => ?_
    (refine xEEAA (V.cell y hy) fun k v0 hl hc hd => ?_)
    refine nQ ?_
    clear nQ
    exact ⟨k, v0, hl, hc, fun d q => let ⟨v, hv, r⟩ := hd d q; ⟨v, hv, r.dropX⟩⟩
theorem Heaps.dropX (H : Heaps G (c.addX its) S) : Heaps G c S :=
  ⟨H.ok, H.stays, H.frames, H.funs, H.fdict, fun L hL => H.xs L (List.mem_append_right _ hL), H.len, fun n p o h1 h2 => ORep.mono (fun _ _ _ e => e) (.refl _) (.of_sub _ fun _ ha => vol_addX.mpr (.inr ha)) (fun _ _ _ e => e) (H.store n p o h1 h2), H.new, H.nodup⟩

/-- fresh objects set apart -/
theorem Heaps.addX (H : Heaps G c S) {h' : Heap} (k : ∀ b o, S.h.get? b = some o → h'.get? b = some o) (hi : ∀ a ∈ its, S.h.get? a = none ∧ ∃ o, h'.get? a = some o) : Heaps G (c.addX its) { S with h := h' } ∧ Ext c S { S with h := h' } := by
  (refine xA (H.grow k) fun H' x => ?_)
  have base_none : ∀ a, S.h.get? a = none → G.base.get? a = none := fun a e => by
    cases q : G.base.get? a with
    | none => rfl
    | some o => rw [H.stays a o q] at e; exact nSn e
  refine ⟨⟨H.ok, H'.stays, H.frames, H'.funs, H'.fdict, fun L hL => ?_, H.len, fun n p o h1 h2 => ?_, H.new, H.nodup⟩, x⟩
  · refine Classical.byContradiction fun nQ => ?_
    rcases List.mem_append.mp hL with q | q
    · (refine xA (hi L q) fun h1 w9z => ?_; refine xE w9z fun o h2 => ?_)
      refine nQ ?_
      clear nQ
      exact ⟨⟨o, h2⟩, fun hm => (by (refine xE (H.reg_some hm) fun o ho => ?_); rw [h1] at ho; exact nnS ho), base_none L h1⟩
    · refine nQ ?_
      clear nQ
      exact H'.xs L q
  · exact ORep.mono x.pres x.adr (fun a ha => (vol_addX.mp ha).elim (fun q => .inr (hi a q).1) (x.volLe a)) (fun a _ o e => k a o e) (H.store n p o h1 h2)

/-- the objects set apart turn; the rest is kept -/
structure Apart (c : Cx) (its : List Addr) : Prop where
  off : ∀ a ∈ its, a ∉ c.fs ++ c.X
theorem Heaps.turnX (H : Heaps G (c.addX its) S) (ap : Apart c its) {h' : Heap} (k : ∀ b o, b ∉ its → S.h.get? b = some o → h'.get? b = some o) (live : ∀ a ∈ its, ∃ o, h'.get? a = some o) : Heaps G (c.addX its) { S with h := h' } := by
  have hreg : ∀ a ∈ its, a ∉ S.reg := fun a ha => (H.xs a (List.mem_append_left _ ha)).2.1
  have off : ∀ L, L ∉ its → ∀ o, S.h.get? L = some o → h'.get? L = some o := fun L hL o e => k L o hL e
  refine ⟨H.ok, fun b o e => k b o (fun q => by rw [(H.xs b (List.mem_append_left _ q)).2.2] at e; exact nnS e) (H.stays b o e), H.frames, ?_, fun L hL => ?_, fun L hL => ?_, H.len, fun n p o h1 h2 => ?_, H.new, H.nodup⟩
  · exact funFrames_of H.funs fun L hL o e hd => ⟨o, off L (fun q => ap.off L q (List.mem_append_left _ hL)) o e, hd⟩
  · refine Classical.byContradiction fun nQ => ?_
    (refine xA (H.fdict L hL) fun q0z r => ?_; refine xEEEA q0z fun o es m e hd => ?_)
    refine nQ ?_
    clear nQ
    exact ⟨⟨o, es, m, off L (fun q => ap.off L q (List.mem_append_left _ hL)) o e, hd⟩, r⟩
  · refine Classical.byContradiction fun nQ => ?_
    (refine xA (H.xs L hL) fun q0z r => ?_; refine xE q0z fun o e => ?_)
    by_cases q : L ∈ its
    · refine nQ ?_
      clear nQ
      exact ⟨live L q, r⟩
    · refine nQ ?_
      clear nQ
      exact ⟨⟨o, off L q o e⟩, r⟩
  · exact ORep.mono (fun a o hn e => k a o (fun q => hn (vol_addX.mpr (.inl q))) e) (.refl _) (.of_sub _ fun _ h => h) (fun a ha o e => k a o (fun q => hreg a q (reg_mem h1 h2 a ha)) e) (H.store n p o h1 h2)
theorem Heaps.endX (H : Heaps G (c.addX its) S) (ap : Apart c its) {h' : Heap} (k : ∀ b o, b ∉ its → S.h.get? b = some o → h'.get? b = some o) : Heaps G c { S with h := h' } := by
  have hreg : ∀ a ∈ its, a ∉ S.reg := fun a ha => (H.xs a (List.mem_append_left _ ha)).2.1
  have off : ∀ L, L ∉ its → ∀ o, S.h.get? L = some o → h'.get? L = some o := fun L hL o e => k L o hL e
  refine ⟨H.ok, fun b o e => k b o (fun q => by rw [(H.xs b (List.mem_append_left _ q)).2.2] at e; exact nnS e) (H.stays b o e), H.frames, ?_, fun L hL => ?_, fun L hL => ?_, H.len, fun n p o h1 h2 => ?_, H.new, H.nodup⟩
  · exact funFrames_of H.funs fun L hL o e hd => ⟨o, off L (fun q => ap.off L q (List.mem_append_left _ hL)) o e, hd⟩
  · refine Classical.byContradiction fun nQ => ?_
    (refine xA (H.fdict L hL) fun q0z r => ?_; refine xEEEA q0z fun o es m e hd => ?_)
    refine nQ ?_
    clear nQ
    exact ⟨⟨o, es, m, off L (fun q => ap.off L q (List.mem_append_left _ hL)) o e, hd⟩, r⟩
  · refine Classical.byContradiction fun nQ => ?_
    (refine xA (H.xs L (List.mem_append_right _ hL)) fun q0z r => ?_; refine xE q0z fun o e => ?_)
    refine nQ ?_
    clear nQ
    exact ⟨⟨o, off L (fun q => ap.off L q (List.mem_append_right _ hL)) o e⟩, r⟩
  · exact ORep.mono (V := vol (c.addX its) S) (h := S.h) (fun a o hn e => k a o (fun q => hn (vol_addX.mpr (.inl q))) e) (.refl _) (.of_sub _ fun _ h => vol_addX.mpr (.inr h)) (fun a ha o e => k a o (fun q => hreg a q (reg_mem h1 h2 a ha)) e) (H.store n p o h1 h2)
theorem Rv.turnX (r : Rv G (c.addX its) S v d) {h' : Heap} (k : ∀ b o, b ∉ its → S.h.get? b = some o → h'.get? b = some o) : Rv G (c.addX its) { S with h := h' } v d :=
  VR.mono (fun a o hn e => k a o (fun q => hn (vol_addX.mpr (.inl q))) e) (.refl _) (.of_sub _ fun _ h => h) r
theorem Rvs.turnX (r : Rvs G (c.addX its) S v d) {h' : Heap} (k : ∀ b o, b ∉ its → S.h.get? b = some o → h'.get? b = some o) : Rvs G (c.addX its) { S with h := h' } v d :=
  VRs.mono (fun a o hn e => k a o (fun q => hn (vol_addX.mpr (.inl q))) e) (.refl _) (.of_sub _ fun _ h => h) r
theorem EnvOk.turnX (V0 : EnvOk G c env fr0 S0) (ap : Apart c its) (V : EnvOk G (c.addX its) env fr S) {h' : Heap} (k : ∀ b o, b ∉ its → S.h.get? b = some o → h'.get? b = some o) : EnvOk G (c.addX its) env fr { S with h := h' } := by
  refine ⟨V.kind, V.glob, V.blt, V.frame, V.loc, ?_, fun y hy => ?_, V.own, V.apart⟩
  · refine Classical.byContradiction fun nQ => ?_
    (refine xEA V.vars fun m q0z hm => ?_; refine xEEEA q0z fun o es ep ho r => ?_)
    refine nQ ?_
    clear nQ
    exact ⟨m, ⟨o, es, ep, k _ _ (fun q => ap.off _ q V0.loc) ho, r⟩, fun y d hd hk => let ⟨v, hv, r⟩ := hm y d hd hk; ⟨v, hv, r.turnX k⟩⟩
  · refine Classical.byContradiction fun nQ => ?_
    (refine xEEAA (V.cell y hy) fun a v0 hl q0z hd => ?_; refine xEA q0z fun o ho r => ?_)
    refine nQ ?_
    clear nQ
    exact ⟨a, v0, hl, ⟨o, k _ _ (fun q => ap.off _ q (List.mem_append_right _ (V0.own y a hl))) ho, r⟩, fun d q => let ⟨v, hv, r⟩ := hd d q; ⟨v, hv, r.turnX k⟩⟩
theorem ExtS.turnX (x : ExtS c env S S') (hi : ∀ a ∈ its, S.h.get? a = none) {h' : Heap} (k : ∀ b o, b ∉ its → S'.h.get? b = some o → h'.get? b = some o) : ExtS c env S { S' with h := h' } := by
  have nin : ∀ b o, S.h.get? b = some o → b ∉ its := fun b o e q => by rw [hi b q] at e; exact nnS e
  refine ⟨x.adr, fun b o e hb ho => ?_, x.fresh, fun a o e => ?_⟩
  · refine Classical.byContradiction fun nQ => ?_
    rcases x.keep b o e hb ho with q | ⟨hf, sl, q⟩
    · refine nQ ?_
      clear nQ
      exact .inl (k b o (nin b o e) q)
    · refine nQ ?_
      clear nQ
      exact .inr ⟨hf, sl, k b _ (nin b o e) q⟩
  · (refine xE (x.live a o e) fun o' e' => ?_)
    exact ⟨o', k a o' (nin a o e) e'⟩
theorem Ext.turnX (x : Ext c S S') (hi : ∀ a ∈ its, S.h.get? a = none) {h' : Heap} (k : ∀ b o, b ∉ its → S'.h.get? b = some o → h'.get? b = some o) : Ext c S { S' with h := h' } := by
  have nin : ∀ b o, S.h.get? b = some o → b ∉ its := fun b o e q => by rw [hi b q] at e; exact nnS e
  refine ⟨x.adr, fun b o e hb => ?_, x.fresh, fun a o e => ?_⟩
  · refine Classical.byContradiction fun nQ => ?_
    rcases x.keep b o e hb with q | ⟨hf, sl, q⟩
    · refine nQ ?_
      clear nQ
      exact .inl (k b o (nin b o e) q)
    · refine nQ ?_
      clear nQ
      exact .inr ⟨hf, sl, k b _ (nin b o e) q⟩
  · (refine xE (x.live a o e) fun o' e' => ?_)
    exact ⟨o', k a o' (nin a o e) e'⟩
theorem ExtS.ofX (x : ExtS (c.addX its) env S S') : ExtS c env S S' := ⟨x.adr, x.keep, x.fresh, x.live⟩
end

/-- an iterator -/
structure WalkN (G : Amb) (c : Cx) (its : List Addr) (it : Addr) (target : Expr) (ds : List D) (P : List AO → Prop) (It : Nat → Gs → Prop) : Prop where
  stable : ∀ i S S', It i S → AdrLe S.adr S'.adr → Pres (vol c S) S.h S'.h → VolLe S.h (vol c S) (vol c S') → (∀ b ∈ its, ∀ o, S.h.get? b = some o → S'.h.get? b = some o) → It i S'
  item : ∀ i S s d (Q : Value → Shared → Prop) (E : Value → Shared → Prop), It i S → Heaps G c S → s.heap = S.h → P S.σ → ds[i]? = some d →
    (∀ v h' tk, (∀ b o, b ∉ its → S.h.get? b = some o → h'.get? b = some o) → (∀ b ∈ its, ∃ o, h'.get? b = some o) → It (i + 1) { S with h := h' } → Rv G c { S with h := h' } v d → Q v (ShT s h' tk)) →
    wpAny G.M c.A (pyNext (.ref it)) (fun r s₁ => ∃ v, r = some v ∧ wpAny G.M c.A (letOwnedTupleGo target (.ref it) v) (fun _ s₂ => Q v s₂) E s₁) E s
  done : ∀ S s (Q : Option Value → Shared → Prop) (E : Value → Shared → Prop), It ds.length S → Heaps G c S → s.heap = S.h → P S.σ →
    (∀ h' tk, (∀ b o, b ∉ its → S.h.get? b = some o → h'.get? b = some o) → Q none (ShT s h' tk)) → wpAny G.M c.A (pyNext (.ref it)) Q E s
structure Walk (G : Amb) (c : Cx) (its : List Addr) (it : Addr) (target : Expr) (ds : List D) (P : List AO → Prop) (It : Nat → Gs → Prop) : Prop extends WalkN G c its it target ds P It where
  self : ∀ i S s (Q : Value → Shared → Prop) (E : Value → Shared → Prop), It i S → s.heap = S.h → Q (.ref it) s → wpAny G.M c.A (pyIter (.ref it)) Q E s

structure Src where
  ds : List D
  P : List AO → Prop

/-- the iterator of a clause -/
noncomputable def RIt (G : Amb) (c : Cx) (S0 : Gs) (target : Expr) (S : Gs) (a : Value) (x : Src) : Prop :=
  ∃ it its It, a = .ref it ∧ (∀ b ∈ its, S0.h.get? b = none) ∧ Heaps G (c.addX its) S ∧ It 0 S ∧ Walk G (c.addX its) its it target x.ds x.P It
noncomputable def RItN (G : Amb) (c : Cx) (S0 : Gs) (target : Expr) (S : Gs) (a : Value) (x : Src) : Prop :=
  ∃ it its It, a = .ref it ∧ (∀ b ∈ its, S0.h.get? b = none) ∧ Heaps G (c.addX its) S ∧ It 0 S ∧ WalkN G (c.addX its) its it target x.ds x.P It
noncomputable def Itr (G : Amb) (hn : Bool) (n : Nat) (Z : Scope) (target iter : Expr) (m : Mo Src) : Prop :=
  ∀ c env fr S s out σ', Run G hn n Z c env fr S s → m fr S.σ = some (out, σ') →
    Tr G c S s (RItN G c S target) (do let x ← foldedSetIterable iter env (← eval iter env); PySem.standAt iter.pos; PySem.holding [x] (pyIter x)) out σ'

open Classical in
noncomputable def Mf.each (P : List AO → Prop) (tgt : D → Mf Unit) (body : Mf SF) : List D → Mf SF
  | [] => fun fr σ => if P σ then some (.val .next, fr, σ) else none
  | d :: ds => fun fr σ => if P σ then Mf.bind (tgt d) (fun _ => Mf.bind body fun r => match r with
      | .next => Mf.each P tgt body ds
      | .cont => Mf.each P tgt body ds
      | .brk => Mf.pure .next
      | .ret d => Mf.pure (.ret d)) fr σ else none

section
variable {G : Amb} {c : Cx} {its : List Addr} {env : Env} {hn : Bool} {n : Nat} {Z : Scope}

theorem item_post {M : Model} {A : Around} {it : Value} {target : Expr} {s : Shared} {B : Value → Shared → Prop} {N : Shared → Prop} {E : Value → Shared → Prop}
    (h : wpAny M A (pyNext it) (fun r s1 => ∃ v, r = some v ∧ wpAny M A (letOwnedTupleGo target it v) (fun _ s2 => B v s2) E s1) E s) :
    wpAny M A (pyNext it) (fun r s1 => match r with | none => N s1 | some v => wpAny M A (letOwnedTupleGo target it v) (fun _ s1' => B v s1') E s1) E s :=
  wpAny_mono h (fun r s1 hr => by obtain ⟨v, rfl, hr⟩ := hr; exact hr) fun _ _ z => z

theorem each_P {P : List AO → Prop} {tgt : D → Mf Unit} {body : Mf SF} {d : D} {ds : List D} {fr : Fr} {σ : List AO} {r : Out SF × Fr × List AO} (h : Mf.each P tgt body (d :: ds) fr σ = some r) :
    P σ ∧ Mf.bind (tgt d) (fun _ => Mf.bind body fun r => match r with
      | .next => Mf.each P tgt body ds
      | .cont => Mf.each P tgt body ds
      | .brk => Mf.pure .next
      | .ret d => Mf.pure (.ret d)) fr σ = some r := by
  unfold Mf.each at h
  by_cases hP : P σ
  · rw [if_pos hP] at h; exact ⟨hP, h⟩
  · rw [if_neg hP] at h; exact nnS h
theorem Mf.bind_inv {α β : Type} {m : Mf α} {f : α → Mf β} {fr fr' : Fr} {σ σ' : List AO} {out : Out β} (h : Mf.bind m f fr σ = some (out, fr', σ')) :
    ∃ oA frA σA, m fr σ = some (oA, frA, σA) ∧ (∀ X msg, oA = .exc X msg → out = .exc X msg ∧ fr' = frA ∧ σ' = σA) ∧ ∀ a, oA = .val a → f a frA σA = some (out, fr', σ') := by
  unfold Mf.bind at h
  split at h
  · rename_i a frA σA e
    exact ⟨_, _, _, e, fun X msg q => (by exact nVE q), fun a q => (by (have k1 := valE q; clear q; subst k1); exact h)⟩
  · rename_i X msg frA σA e
    (have k1 := s3A h; have k2 := s3B h; have k3 := s3C h; clear h; subst k1 k2 k3)
    exact ⟨_, _, _, e, fun X msg q => (by (have k1 := excA q; have k2 := excB q; clear q; subst k1 k2); exact ⟨rfl, rfl, rfl⟩), fun a q => (by exact nEV q)⟩
  · exact nnS h
theorem rfElim {G : Amb} {c : Cx} {S : Gs} {R : Flow → SF → Prop} {f : Flow} {b : SF} (r : RF G c S f b) (h1 : R .next .next) (h2 : R .cont .cont) (h3 : R .brk .brk) (h4 : ∀ w d, Rv G c S w d → R (.ret w) (.ret d)) : R f b := by
  cases b with
  | next => cases f with
    | next => exact h1
    | _ => exact False.elim r
  | cont => cases f with
    | cont => exact h2
    | _ => exact False.elim r
  | brk => cases f with
    | brk => exact h3
    | _ => exact False.elim r
  | ret d => cases f with
    | ret w => exact h4 w d r
    | _ => exact False.elim r
theorem each_nilE {P : List AO → Prop} {tgt : D → Mf Unit} {body : Mf SF} {fr fr' : Fr} {σ σ' : List AO} {out : Out SF} (h : Mf.each P tgt body [] fr σ = some (out, fr', σ')) {X : Prop} (k : P σ → Out.val SF.next = out → fr = fr' → σ = σ' → X) : X := by
  unfold Mf.each at h
  by_cases hP : P σ
  · rw [if_pos hP] at h; exact k hP (s3A h) (s3B h) (s3C h)
  · rw [if_neg hP] at h; exact nnS h
/-- the loop's rule, its outcomes named -/
theorem forLoop_any {R : Result → Shared → Prop} {A : Around} {target : Expr} {it : Value} {body : List Stmt} {s : Shared} (I : Nat → Shared → Prop)
    (turn : ∀ n s (U : Flow → Shared → Prop) (N : Shared → Prop) (E : Value → Shared → Prop), (∀ m s', m < n → I m s' → U .next s') → (∀ m s', m < n → I m s' → U .cont s') → (∀ s', R (.ok .next) s' → U .brk s') → (∀ v s', R (.ok (.ret v)) s' → U (.ret v) s') → (∀ s', R (.ok .next) s' → N s') →
      (∀ e s', notedBy G.M A env (fun e s' => R (.error e) s') e s' → E e s') → I n s → wpAny G.M A (pyNext it) (fun r s₁ => match r with
      | none => N s₁
      | some v => wpAny G.M A (letOwnedTupleGo target it v) (fun _ s₁' => wpAny G.M A (assign target env v) (fun _ s₂ => wpAny G.M A (execs body env) U E s₂) E s₁') E s₁) E s)
    (n : Nat) (h : I n s) : codeAny G.M A (.forLoop target it body [] env) R s := by
  refine codeAny_forLoop_any I (fun n s hI => ?_) n h
  refine wpAny_mono (turn n s (fun f s₃ => match f with | .next | .cont => ∃ m, m < n ∧ I m s₃ | .brk => R (.ok .next) s₃ | .ret v => R (.ok (.ret v)) s₃) (R (.ok .next)) _ (fun m s' h1 h2 => ⟨m, h1, h2⟩) (fun m s' h1 h2 => ⟨m, h1, h2⟩) (fun _ z => z) (fun _ _ z => z) (fun _ z => z) (fun _ _ z => z) hI) (fun r s₁ h₁ => ?_) fun _ _ z => z
  cases r with
  | none => exact wpAny_execs_nil h₁
  | some v => exact h₁
/-- what stands between the turns -/
noncomputable def FJ (G : Amb) (c : Cx) (its : List Addr) (env : Env) (S : Gs) (It : Nat → Gs → Prop) (run : List D → Mf SF) (ds : List D) (q : Out SF × Fr × List AO) (i : Nat) (fr1 : Fr) (S' : Gs) : Prop :=
  It i S' ∧ Heaps G (c.addX its) S' ∧ EnvOk G (c.addX its) env fr1 S' ∧ ExtS c env S S' ∧ run (ds.drop i) fr1 S'.σ = some q
inductive FInv (N : Nat) (J : Nat → Fr → Gs → Prop) (s : Shared) : Nat → Shared → Prop
  | mk (i : Nat) (fr1 : Fr) (S' : Gs) (tk : Nat) : i ≤ N → J i fr1 S' → FInv N J s (N + 1 - i) (ShT s S'.h tk)
theorem forBody_ok {target : Expr} {body : List Stmt} {tgt : D → Mf Unit} {mb : Mf SF} (ht : As G hn n Z target tgt) (hb : Exs G hn n Z body mb) {fr : Fr} {S : Gs} {s : Shared} {v : Value} {d : D} (q : Run G hn n Z c env fr S s) (hf : c.fenv = env) (hl : env.frame = some env.locals) (rv : Rv G c S v d)
    {f : SF → Mf SF} {out : Out SF} {fr' : Fr} {σ' : List AO} (hm : Mf.bind (tgt d) (fun _ => Mf.bind mb f) fr S.σ = some (out, fr', σ')) {U : Flow → Shared → Prop} {E : Value → Shared → Prop}
    (kx : ∀ X msg, out = .exc X msg → ∀ (S2 : Gs) e h' tk, S2.σ = σ' → Heaps G c S2 → ExtS c env S S2 → EnvOk G c env fr' S2 → Thr G c S2.h e X msg h' → E (.ref e) (ShT s h' tk))
    (kv : ∀ fl b frB (S2 : Gs) tk, RF G c S2 fl b → f b frB S2.σ = some (out, fr', σ') → Heaps G c S2 → ExtS c env S S2 → EnvOk G c env frB S2 → U fl (ShT s S2.h tk)) :
    wpAny G.M c.A (assign target env v) (fun _ s₂ => wpAny G.M c.A (execs body env) U E s₂) E s := by
  refine xEEEAA (Mf.bind_inv hm) fun oA frA σA hA hAX hAV => ?_
  clear hm
  refine ht c env fr S s v d oA frA σA q rv hA _ _ (fun b' hb' u SA tkA eA HA xA VA _ => ?_) fun X msg ho SA e h'' tkA eA HA xA VA th => kx X msg (hAX X msg ho).1 SA e h'' tkA (eA.trans (hAX X msg ho).2.2.symm) HA xA ((hAX X msg ho).2.1.symm ▸ VA) th
  refine xEEEAA (Mf.bind_inv (hAV b' hb')) fun oB frB σB hB hBX hBV => ?_
  clear hAX hAV rv
  refine hb c env frA SA _ oB frB σB (q.stepS HA VA) hf hl ((congrArg (mb frA) eA).trans hB) _ _ (fun b hb' fl SB tkB eB HB xB VB rB => kv fl b frB SB tkB rB (eB.symm ▸ hBV b hb') HB (xA.trans xB) VB) fun X msg ho SB e h'' tkB eB HB xB VB th => kx X msg (hBX X msg ho).1 SB e h'' tkB (eB.trans (hBX X msg ho).2.2.symm) HB (xA.trans xB) ((hBX X msg ho).2.1.symm ▸ VB) th
theorem forTail_ok {target : Expr} {body : List Stmt} {tgt : D → Mf Unit} {mb : Mf SF} (ht : As G hn n Z target tgt) (hb : Exs G hn n Z body mb) {fr fr' : Fr} {S S1 : Gs} {s : Shared} (q : Run G hn n Z c env fr S s) (hf : c.fenv = env) (hl : env.frame = some env.locals) {it : Addr} {It : Nat → Gs → Prop} {x : Src} {out : Out SF} {σ' : List AO} {tk1 : Nat}
    (hnew : ∀ b ∈ its, S.h.get? b = none) (HX : Heaps G (c.addX its) S1) (hIt : It 0 S1) (W : WalkN G (c.addX its) its it target x.ds x.P It) (x1 : Ext c S S1) (h2 : Mf.each x.P tgt mb x.ds fr S1.σ = some (out, fr', σ')) {Q : Flow → Shared → Prop} {E : Value → Shared → Prop}
    (hq : ∀ b, out = .val b → ∀ a (S' : Gs) tk, S'.σ = σ' → Heaps G c S' → ExtS c env S S' → EnvOk G c env fr' S' → RF G c S' a b → Q a (ShT s S'.h tk))
    (hx : ∀ X msg, out = .exc X msg → ∀ (S' : Gs) e h' tk, S'.σ = σ' → Heaps G c S' → ExtS c env S S' → EnvOk G c env fr' S' → Thr G c S'.h e X msg h' → E (.ref e) (ShT s h' tk)) :
    wpAny G.M c.A (runOwn (.forLoop target (.ref it) body [] env) env) Q E (ShT s S1.h tk1) := by
  have ap : Apart c its := ⟨fun a ha hm' => by
    rcases List.mem_append.mp hm' with z | z
    · (refine xE (q.H.fs_some z) fun o ho => ?_); rw [hnew a ha] at ho; exact nnS ho
    · (refine xE ((q.H.xs a z).1) fun o ho => ?_); rw [hnew a ha] at ho; exact nnS ho⟩
  refine wpAny_runOwn ?_
  refine forLoop_any (FInv x.ds.length (FJ G c its env S It (Mf.each x.P tgt mb) x.ds (out, fr', σ')) s) ?_ (x.ds.length + 1) (.mk 0 fr S1 tk1 (Nat.zero_le _) ⟨hIt, HX, q.V.addX q.H x1 hnew, x1.s env, h2⟩)
  intro k s' U N E' hU1 hU2 hU3 hU4 hN hE hJ
  cases hJ with
  | mk i fr1 S' tk hile hJ =>
  refine xAAA hJ fun hI H' V' hJ => ?_
  refine xA hJ fun XX hmod => ?_
  by_cases hlt : i < x.ds.length
  · rw [List.drop_eq_getElem_cons hlt] at hmod
    refine xA (each_P hmod) fun hP hmod => ?_
    refine item_post ?_
    refine W.item i S' (ShT s S'.h tk) x.ds[i] _ _ hI H' rfl hP (List.getElem?_eq_getElem hlt) fun v h' tk' hk hlive hI' rv => ?_
    have H1' := H'.turnX ap hk hlive
    have V1' := EnvOk.turnX q.V ap V' hk
    have X1' := XX.turnX hnew hk
    have hlt' : x.ds.length + 1 - (i + 1) < x.ds.length + 1 - i := by omega
    refine forBody_ok (c := c.addX its) ht hb ⟨q.scope, q.room, q.units, q.hand, rfl, H1', V1'⟩ hf hl rv hmod (fun X msg ho S2 e h'' tk2 e2 H2 x2 V2 th => hE _ _ ?_) fun fl b frB SB tkB rB hk2 HB xB VB => ?_
    · refine trNote (G := G) (c := c) (S := S2) (s := (ShT s h'' tk2)) H2.dropX hf hl (show Thr G c S2.h e X msg h'' from th) fun h3 th2 => ?_
      refine trCameBack (c := c) hf hl th2 fun h4 th3 => ?_
      exact hx X msg ho S2 e h4 tk2 e2 H2.dropX (X1'.trans x2.ofX) (EnvOk.dropX q.V V2) th3
    · have XB := X1'.trans xB.ofX
      have IB : It (i + 1) SB := by
        refine W.stable _ _ SB hI' xB.adr (xB.pres V1'.ownIn) xB.volLe fun b hb o e => ?_
        have hno : ¬ Own env b := fun ho => ho.elim (fun z => ap.off b hb (z ▸ q.V.loc)) fun ⟨y, z⟩ => ap.off b hb (List.mem_append_right _ (q.V.own y b z))
        exact (xB.keep b o e (H1'.xs b (List.mem_append_left _ hb)).2.1 hno).elim id fun z => absurd (List.mem_append_left _ z.1) (ap.off b hb)
      revert hk2
      apply rfElim rB
      · exact fun h => hU1 _ _ hlt' (.mk (i + 1) frB SB tkB hlt ⟨IB, HB, VB, XB, h⟩)
      · exact fun h => hU2 _ _ hlt' (.mk (i + 1) frB SB tkB hlt ⟨IB, HB, VB, XB, h⟩)
      · exact fun h => hU3 _ (hq _ (s3A h).symm .next SB tkB (s3C h) HB.dropX XB (s3B h ▸ EnvOk.dropX q.V VB) trivial)
      · exact fun w d rw h => hU4 _ _ (hq _ (s3A h).symm (.ret w) SB tkB (s3C h) HB.dropX XB (s3B h ▸ EnvOk.dropX q.V VB) (Rv.dropX rw))
  · have hi' : i = x.ds.length := Nat.le_antisymm hile (Nat.le_of_not_lt hlt)
    subst hi'
    rw [List.drop_length] at hmod
    refine each_nilE hmod fun hP k1 k2 k3 => ?_
    refine W.done S' (ShT s S'.h tk) _ _ hI H' rfl hP fun h' tk' hk => hN _ ?_
    exact hq _ k1.symm .next { S' with h := h' } tk' k3 (H'.endX ap hk) (XX.turnX hnew hk) (k2 ▸ EnvOk.dropX q.V (EnvOk.turnX q.V ap V' hk)) trivial
theorem Ex.for {target iter : Expr} {body : List Stmt} {pos : Pos} {m : Mo Src} {tgt : D → Mf Unit} {mb : Mf SF} (hi : Itr G hn n Z target iter m) (ht : As G hn n Z target tgt) (hb : Exs G hn n Z body mb) :
    Ex G hn n Z (.For target iter body [] pos) (Mf.bind (Mf.lift m) fun x => Mf.each x.P tgt mb x.ds) := by
  intro c env fr S s out fr' σ' q hf hl hm
  rw [exec_For]
  show TrF G c env S s (RF G c) (do
    PySem.standAt pos
    let x ← foldedSetIterable iter env (← eval iter env)
    PySem.standAt iter.pos
    runOwn (.forLoop target (← PySem.holding [x] (pyIter x)) body [] env) env) out fr' σ'
  refine TrF.standAt ?_
  have main : TrF G c env S s (RF G c) ((do let x ← foldedSetIterable iter env (← eval iter env); PySem.standAt iter.pos; PySem.holding [x] (pyIter x)) >>= fun it => runOwn (.forLoop target it body [] env) env) out fr' σ' := by
    intro Q E hq hx
    rcases bindLift hm with ⟨x, σ1, h1, h2⟩ | ⟨X, msg, σ1, h1, e⟩
    rotate_left
    · cases e
      refine wpAny_bind (hi c env fr S s _ _ q h1 _ E (fun b' hb => by exact nEV hb) fun X' msg' hm' S₁ e h' tk e1 H1 x1 th => ?_)
      (have k1 := excA hm'; have k2 := excB hm'; clear hm'; subst k1 k2)
      exact hx _ _ rfl S₁ e h' tk e1 H1 (x1.s env) (x1.env q.H q.V) th
    refine wpAny_bind (hi c env fr S s _ _ q h1 _ E (fun b' hb' a' S1 tk1 e1 H1 x1 r1 => ?_) fun X msg hm' => by exact nVE hm')
    (have k1 := valE hb'; clear hb'; subst k1)
    (refine xEEEAAAA r1 fun it its It q0z hnew HX hIt W => ?_; try clear r1; subst q0z)
    exact forTail_ok ht hb q hf hl hnew HX hIt W x1 (e1.symm ▸ h2) hq hx
  simp only [bind_assoc] at main
  exact main
end
end Mine
end
section
open PySem PySem.W PyProof.Rows
namespace Mine

theorem goPlain {M : Model} {A : Around} {target : Expr} {it : Addr} {v : Value} {s : Shared} {o : Obj} {nm : String} {Q : Unit → Shared → Prop} {E : Value → Shared → Prop} (ho : s.heap.get? it = some o) (hc : o.cls = .type nm)
    (hn : ["enumerate", "zip", "dict_itemiterator", "dict_reverseitemiterator", "odict_iterator", "itertools.zip_longest", "itertools.pairwise"].contains nm = false) (h : Q () s) : wpAny M A (letOwnedTupleGo target (.ref it) v) Q E s := by
  have key : wpAny M A (do
      let (.ref r, .ref a) := ((Value.ref it, v) : Value × Value) | return
      let o ← load r
      match o.cls, o.data with
      | .type n, .fields vs =>
        if ["enumerate", "zip", "dict_itemiterator", "dict_reverseitemiterator", "odict_iterator", "itertools.zip_longest", "itertools.pairwise"].contains n && vs[0]? == some (rawInt a) then
          PySem.rule "for.unpacks-the-owned-tuple"
          updateField r 0 .none
      | _, _ => pure ()) Q E s := by
    cases v with
    | ref a =>
      refine wpAny_bind (wpAny_load ho ?_)
      rw [hc]
      cases o.data with
      | fields vs =>
        dsimp only
        rw [hn, Bool.false_and]
        exact wpAny_pure h
      | _ => exact wpAny_pure h
    | _ => exact wpAny_pure h
  unfold letOwnedTupleGo
  cases target <;> first | exact wpAny_pure h | exact key

theorem range_size1 (a b : Int) : Builtin.Range.rangeSize a b 1 = (((b - a).toNat : Nat) : Int) := by
  unfold Builtin.Range.rangeSize
  rw [if_pos (by decide)]
  split <;> omega
theorem range_small1 {a b : Int} (b1 : -(2 ^ 61) ≤ a) (b2 : a ≤ 2 ^ 61) (b3 : -(2 ^ 61) ≤ b) (b4 : b ≤ 2 ^ 61) : Builtin.Range.small a b 1 = true := by
  have e61 : (2 : Int) ^ 61 = 2305843009213693952 := by decide
  have e63 : (2 : Int) ^ 63 = 9223372036854775808 := by decide
  rw [e61] at b1 b2 b3 b4
  unfold Builtin.Range.small
  rw [range_size1]
  unfold Builtin.Range.rangeFitsLong
  rw [e63]
  simp only [Bool.and_eq_true, Bool.or_eq_true, decide_eq_true_eq, beq_iff_eq]
  refine ⟨⟨⟨⟨⟨by omega, by omega⟩, by omega, by omega⟩, by omega, by omega⟩, by omega, by omega⟩, .inr ?_⟩
  rw [if_pos (by decide)]
  simp only [Bool.and_eq_true, decide_eq_true_eq]
  omega

section
variable {G : Amb} {c : Cx} {S : Gs} {s : Shared}

/-- from a kit's walk, the container frozen -/
theorem Walk.of {its fp : List Addr} {it : Addr} {target : Expr} {ds : List D} {nn : Nat} {P : Nat → Value → Prop} {St : Nat → Heap → Prop} {nm : String} (W : Walks G.prog G.w c.A it fp its nn P St) (hnn : nn = ds.length) (Val : Gs → Prop)
    (hval : ∀ S S', Val S → AdrLe S.adr S'.adr → Pres (vol c S) S.h S'.h → VolLe S.h (vol c S) (vol c S') → Val S')
    (hX : ∀ b ∈ its, b ∈ c.X)
    (hfp : ∀ S, Val S → ∀ b ∈ fp, b ∈ its ∨ (b ∉ vol c S ∧ ∃ o, S.h.get? b = some o))
    (hP : ∀ S i v d, Val S → P i v → ds[i]? = some d → Rv G c S v d)
    (hst : ∀ i h, St i h → ∀ b ∈ its, ∃ o, h.get? b = some o)
    (hcls : ∀ i h, St i h → ∃ o, h.get? it = some o ∧ o.cls = .type nm)
    (hn : ["enumerate", "zip", "dict_itemiterator", "dict_reverseitemiterator", "odict_iterator", "itertools.zip_longest", "itertools.pairwise"].contains nm = false := by decide) :
    Walk G c its it target ds (fun _ => True) (fun i S => St i S.h ∧ Val S) := by
  have vX : ∀ S : Gs, ∀ b ∈ its, b ∈ vol c S := fun S b hb => List.mem_append_right _ (List.mem_append_right _ (hX b hb))
  refine ⟨⟨fun i S S' h ha hp hv hk => ⟨W.frame i S.h S'.h h.1 fun b hb o e => ?_, hval S S' h.2 ha hp hv⟩, fun i S s d Q E h H hs _ hd hQ => ?_, fun S s Q E h H hs _ hQ => ?_⟩, fun i S s Q E h hs hQ => W.self i s Q E (by rw [hs]; exact h.1) hQ⟩
  · rcases hfp S h.2 b hb with q | ⟨q, _⟩
    · exact hk b q o e
    · exact hp b o q e
  · have hlt : i < nn := by rw [hnn]; exact (List.getElem?_eq_some_iff.mp hd).1
    refine W.item i s _ E hlt (by rw [hs]; exact h.1) fun v h' tk hPv hSt hk => ⟨v, rfl, ?_⟩
    rw [hs] at hk
    (refine xEA (hcls _ _ hSt) fun o ho hc => ?_)
    refine goPlain (s := (ShT s h' tk)) ho hc hn ?_
    have vv : Val { S with h := h' } := hval S { S with h := h' } h.2 (.refl _) (fun a o hn e => hk a o (fun q => hn (vX S a q)) e) (.of_sub _ fun _ q => q)
    exact hQ v h' tk hk (hst _ _ hSt) ⟨hSt, vv⟩ (hP _ i v d vv hPv hd)
  · exact W.done s Q E (by rw [hs, hnn]; exact h.1) fun h' tk hk => hQ h' tk (by rw [hs] at hk; exact hk)

noncomputable def chars (x : PySem.Str) : List D := x.cps.toList.map fun k => .str ⟨#[k]⟩
noncomputable def intsD (a b : Int) : List D := (List.range (b - a).toNat).map fun i => .int (a + (i : Nat))
noncomputable def inR : Int → Bool
  | .ofNat n => Nat.ble n 2305843009213693951
  | .negSucc n => Nat.ble n 2305843009213693951
theorem inR_iff {i : Int} : inR i = true ↔ -(2 ^ 61) ≤ i ∧ i < 2 ^ 61 := by
  have e61 : (2 : Int) ^ 61 = 2305843009213693952 := by decide
  rw [e61]
  cases i with
  | ofNat n => unfold inR; rw [Nat.ble_eq]; have : Int.ofNat n = (n : Int) := rfl; omega
  | negSucc n => unfold inR; rw [Nat.ble_eq]; omega
theorem inR_nat {n : Nat} (h : n ≤ 1000000) : inR (n : Int) = true := by show Nat.ble n _ = true; rw [Nat.ble_eq]; omega
noncomputable def srcD (d : D) (σ : List AO) : Option Src := match d with
  | .lst ds => some ⟨ds, fun _ => True⟩
  | .tup ds => some ⟨ds, fun _ => True⟩
  | .str x => some ⟨chars x, fun _ => True⟩
  | .rng a b => if (inR a && inR b) = true then some ⟨intsD a b, fun _ => True⟩ else none
  | .ref k => match σ[k]? with
    | some (.lst ds) => some ⟨ds, fun σ => σ[k]? = some (.lst ds)⟩
    | _ => none
  | _ => none

noncomputable def ItAt (h : Heap) (it : Addr) (v : Value) (d : D) : Prop := match d with
  | .lst _ => ∃ a, v = .ref a ∧ h.IsListIter it a 0
  | .ref _ => ∃ a, v = .ref a ∧ h.IsListIter it a 0
  | .tup _ => ∃ a, v = .ref a ∧ h.IsTupleIter it a 0
  | .str x => ∃ t, v = .str x t ∧ (h.IsStrIter it "str_ascii_iterator" x t 0 ∨ h.IsStrIter it "str_iterator" x t 0)
  | .rng a b => IsRangeIter h it a (((b - a).toNat : Nat) : Int) 1
  | _ => False

theorem Walk.make (H : Heaps G c S) (hh : c.A.handled = none) {it : Addr} (hit : it ∈ c.X) {v : Value} {d : D} {target : Expr} {x : Src} (r : Rv G c S v d) (ha : ItAt S.h it v d) (hx : srcD d S.σ = some x) : ∃ It, It 0 S ∧ Walk G c [it] it target x.ds x.P It := by
  have hX : ∀ b ∈ [it], b ∈ c.X := fun b hb => by rcases List.mem_singleton.mp hb with rfl; exact hit
  have seqVal : ∀ {a : Addr} {o1 : Obj} {vs : Array Value} {ds : List D}, S.h.get? a = some o1 → a ∉ vol c S → Rvs G c S vs.toList ds → ∀ (p : Heap → Prop) (pst : ∀ h h' : Heap, p h → (∀ o, h.get? a = some o → h'.get? a = some o) → p h'), p S.h →
      let Val : Gs → Prop := fun S' => p S'.h ∧ a ∉ vol c S' ∧ (∃ o, S'.h.get? a = some o) ∧ Rvs G c S' vs.toList ds
      Val S ∧ (∀ S1 S2, Val S1 → AdrLe S1.adr S2.adr → Pres (vol c S1) S1.h S2.h → VolLe S1.h (vol c S1) (vol c S2) → Val S2) := by
    intro a o1 vs ds ho hn hr p pst hp
    refine ⟨⟨hp, hn, ⟨o1, ho⟩, hr⟩, fun S1 S2 h ha hpr hv => ?_⟩
    (refine xAAA h fun h1 h2 q0z h4 => ?_; try clear h; refine xE q0z fun o2 h3 => ?_)
    exact ⟨pst _ _ h1 fun o e => hpr a o h2 e, hv.notin h3 h2, ⟨o2, hpr a o2 h2 h3⟩, VRs.mono hpr ha hv h4⟩
  have inV : it ∈ vol c S := List.mem_append_right _ (List.mem_append_right _ hit)
  cases r with
  | none => exact nnS hx
  | bool => exact nnS hx
  | int => exact nnS hx
  | dct => exact nnS hx
  | glob => exact nnS hx
  | exc => exact nnS hx
  | @lst a o vs n ds ho hc hd hz hn hr =>
    (have k1 := s1E hx; clear hx; subst k1)
    (refine xEA ha fun a' e hi => ?_; try clear ha)
    (have k1 := Value.ref.inj e; clear e; subst k1)
    (refine xA (seqVal ho hn hr (fun h => h.IsList a vs) (fun h h' x k => x.at k) ⟨o, ho, hc, n, hd⟩) fun v0 vst => ?_)
    have W := Walk.of (G := G) (c := c) (target := target) (ds := ds) (nm := "list_iterator") (Walks.list (prog := G.prog) (w := G.w) (A := c.A) hh it a (fun e => hn (e ▸ inV)) vs) (by have := VRs.length hr; simpa using this) _ vst hX
      (fun S' h b hb => by
        rcases List.mem_cons.mp hb with e | hb
        · exact .inl (by rw [e]; exact .head _)
        · rcases List.mem_singleton.mp hb with e
          rw [e]; exact .inr ⟨h.2.1, h.2.2.1⟩)
      (fun S' i v d h hp hd => by
        (refine xEA (VRs.get h.2.2.2 hd) fun w hw rw' => ?_)
        have : vs[i]? = some w := by simpa using hw
        rw [hp] at this; (have k1 := s1E this; clear this; subst k1); exact rw')
      (fun i h st b hb => by rcases List.mem_singleton.mp hb with e; (refine xEA (st.1) fun o ho _ => ?_); exact ⟨o, by rw [e]; exact ho⟩)
      (fun i h st => by (refine xEAA (st.1) fun o ho hc _ => ?_); exact ⟨o, ho, hc⟩)
    exact ⟨_, ⟨⟨hi, v0.1⟩, v0⟩, W⟩
  | @tup a o vs n ds ho hc hd hz hn hr =>
    (have k1 := s1E hx; clear hx; subst k1)
    (refine xEA ha fun a' e hi => ?_; try clear ha)
    (have k1 := Value.ref.inj e; clear e; subst k1)
    (refine xA (seqVal ho hn hr (fun h => h.IsTuple a vs) (fun h h' x k => let ⟨o, ho, r⟩ := x; ⟨o, k o ho, r⟩) ⟨o, ho, hc, n, hd⟩) fun v0 vst => ?_)
    have W := Walk.of (G := G) (c := c) (target := target) (ds := ds) (nm := "tuple_iterator") (Walks.tuple (prog := G.prog) (w := G.w) (A := c.A) hh it a (fun e => hn (e ▸ inV)) vs) (by have := VRs.length hr; simpa using this) _ vst hX
      (fun S' h b hb => by
        rcases List.mem_cons.mp hb with e | hb
        · exact .inl (by rw [e]; exact .head _)
        · rcases List.mem_singleton.mp hb with e
          rw [e]; exact .inr ⟨h.2.1, h.2.2.1⟩)
      (fun S' i v d h hp hd => by
        (refine xEA (VRs.get h.2.2.2 hd) fun w hw rw' => ?_)
        have : vs[i]? = some w := by simpa using hw
        rw [hp] at this; (have k1 := s1E this; clear this; subst k1); exact rw')
      (fun i h st b hb => by rcases List.mem_singleton.mp hb with e; (refine xEA (st.1) fun o ho _ => ?_); exact ⟨o, by rw [e]; exact ho⟩)
      (fun i h st => by (refine xEAA (st.1) fun o ho hc _ => ?_); exact ⟨o, ho, hc⟩)
    exact ⟨_, ⟨⟨hi, v0.1⟩, v0⟩, W⟩
  | @str y t hy =>
    (have k1 := s1E hx; clear hx; subst k1)
    (refine xEA ha fun t' e hi => ?_; try clear ha)
    cases e
    have get : ∀ i d, (chars y)[i]? = some d → ∃ k, y.cps[i]? = some k ∧ d = D.str ⟨#[k]⟩ := fun i d h => by
      unfold chars at h
      rw [List.getElem?_map] at h
      (refine xEA (Option.map_eq_some_iff.mp h) fun k hk e => ?_)
      exact ⟨k, by simpa using hk, e.symm⟩
    have one : ∀ (S' : Gs) i v d, True → SignAt y i v → (chars y)[i]? = some d → Rv G c S' v d := fun S' i v d _ hp hd => by
      (refine xEA (get i d hd) fun k hk q0z => ?_; subst q0z)
      (refine xEEA hp fun k' u hk' q0z => ?_; try clear hp; subst q0z)
      rw [hk] at hk'; (have k1 := s1E hk'; clear hk'; subst k1)
      exact .str _ _ (by show 1 ≤ sizeLine; decide)
    rcases hi with hi | hi
    · have W := Walk.of (G := G) (c := c) (target := target) (ds := chars y) (nm := "str_ascii_iterator") (Walks.strAscii (prog := G.prog) (w := G.w) (A := c.A) hh it y t) (by unfold chars; simp) (fun _ => True) (fun _ _ _ _ _ _ => trivial) hX
        (fun S' h b hb => .inl hb) (fun S' i v d h hp hd => one S' i v d trivial hp hd)
        (fun i h st b hb => by rcases List.mem_singleton.mp hb with e; (refine xEA st fun o ho _ => ?_; try clear st); exact ⟨o, by rw [e]; exact ho⟩)
        (fun i h st => by (refine xEAA st fun o ho hc _ => ?_; try clear st); exact ⟨o, ho, hc⟩)
      exact ⟨_, ⟨hi, trivial⟩, W⟩
    · have W := Walk.of (G := G) (c := c) (target := target) (ds := chars y) (nm := "str_iterator") (Walks.strWide (prog := G.prog) (w := G.w) (A := c.A) hh it y t) (by unfold chars; simp) (fun _ => True) (fun _ _ _ _ _ _ => trivial) hX
        (fun S' h b hb => .inl hb) (fun S' i v d h hp hd => one S' i v d trivial hp hd)
        (fun i h st b hb => by rcases List.mem_singleton.mp hb with e; (refine xEA st fun o ho _ => ?_; try clear st); exact ⟨o, by rw [e]; exact ho⟩)
        (fun i h st => by (refine xEAA st fun o ho hc _ => ?_; try clear st); exact ⟨o, ho, hc⟩)
      exact ⟨_, ⟨hi, trivial⟩, W⟩
  | @rng rr a b t u w hr hn =>
    unfold srcD at hx
    dsimp only at hx
    split at hx
    rotate_left
    · exact nnS hx
    (have k1 := s1E hx; clear hx; subst k1)
    have W := Walk.of (G := G) (c := c) (target := target) (ds := intsD a b) (nm := "range_iterator") (Walks.range (prog := G.prog) (w := G.w) (A := c.A) hh it a 1 (b - a).toNat) (by unfold intsD; simp) (fun _ => True) (fun _ _ _ _ _ _ => trivial) hX
      (fun S' h b hb => .inl hb) (fun S' i v d h hp hd => by
        (refine xE hp fun t q0z => ?_; try clear hp; subst q0z)
        unfold intsD at hd
        rw [List.getElem?_map] at hd
        (refine xEA (Option.map_eq_some_iff.mp hd) fun k hk e => ?_)
        obtain ⟨hk1, hk2⟩ := List.getElem?_eq_some_iff.mp hk
        rw [List.getElem_range] at hk2
        subst hk2
        rw [← e, Int.mul_one]
        exact .int _ _)
      (fun i h st b hb => by rcases List.mem_singleton.mp hb with e; exact ⟨_, by rw [e]; exact st⟩)
      (fun i h st => ⟨_, st, rfl⟩)
    refine ⟨_, ⟨?_, trivial⟩, W⟩
    have ha' : IsRangeIter S.h it a (((b - a).toNat : Nat) : Int) 1 := ha
    have e1 : a + ((0 : Nat) : Int) * 1 = a := by simp
    have e2 : (((b - a).toNat : Nat) : Int) - ((0 : Nat) : Int) = (((b - a).toNat : Nat) : Int) := by simp
    show IsRangeIter S.h it (a + ((0 : Nat) : Int) * 1) ((((b - a).toNat : Nat) : Int) - ((0 : Nat) : Int)) 1
    rw [e1, e2]; exact ha'
  | @ref k p hp =>
    unfold srcD at hx
    dsimp only at hx
    split at hx
    rotate_left
    · exact nnS hx
    rename_i ds hk
    (have k1 := s1E hx; clear hx; subst k1)
    (refine xEA ha fun a' e hi => ?_; try clear ha)
    (have k1 := Value.ref.inj e; clear e; subst k1)
    refine ⟨fun i S' => S'.h.IsListIter it p.1 i ∧ S'.adr[k]? = some p, ⟨hi, hp⟩, ?_⟩
    have lst : ∀ {S' : Gs}, Heaps G c S' → S'.adr[k]? = some p → S'.σ[k]? = some (.lst ds) → ∃ vs', S'.h.IsList p.1 vs' ∧ Rvs G c S' vs'.toList ds := fun H' ha hk' => by
      (refine xEEEEAAAAAA (H'.lst (v := .ref p.1) (.ref ha) hk') fun p2 o2 m2 vs2 e2 hp2 ho2 hc2 hd2 hz2 hr2 => ?_)
      rw [ha] at hp2; (have k1 := s1E hp2; clear hp2; subst k1)
      exact ⟨vs2, ⟨o2, ho2, hc2, m2, hd2⟩, hr2⟩
    refine ⟨⟨fun i S1 S2 h ha hpr hv hk => ⟨h.1.at fun o e => hk _ (.head _) o e, ha k p h.2⟩, fun i S1 s1 d Q1 E1 h H1 hs1 hP hd hQ => ?_, fun S1 s1 Q1 E1 h H1 hs1 hP hQ => ?_⟩, fun i S1 s1 Q1 E1 h hs1 hQ => wpAny_pyIter_listiter (by rw [hs1]; exact h.1) hQ⟩
    · (refine xEA (lst H1 h.2 hP) fun vs' hl' hr' => ?_)
      (refine xEA (VRs.get hr' hd) fun v hv rv => ?_)
      refine wpAny_pyNext_list_item (by rw [hs1]; exact h.1) (by rw [hs1]; exact hl') (x := v) (by simpa using hv) fun h' hit' hs' => ⟨v, rfl, ?_⟩
      rw [hs1] at hs'
      have hk' : ∀ b o, b ∉ [it] → S1.h.get? b = some o → h'.get? b = some o := fun b o hb e => hs'.extBut b o (fun q => hb (by rw [q]; exact .head _)) e
      (refine xEAA (id hit') fun oi hoi hci _ => ?_)
      refine goPlain (nm := "list_iterator") (s := { s1 with heap := h' }) hoi hci (by decide) ?_
      exact hQ v h' s1.toks hk' (fun b hb => by rcases List.mem_singleton.mp hb with e; exact ⟨oi, by rw [e]; exact hoi⟩) ⟨hit', h.2⟩ (VR.mono (fun b o hn e => hk' b o (fun q => hn (List.mem_append_right _ (List.mem_append_right _ (hX b q)))) e) (.refl _) (.of_sub _ fun _ h => h) rv)
    · (refine xEA (lst H1 h.2 hP) fun vs' hl' hr' => ?_)
      refine wpAny_pyNext_list_end hh (by rw [hs1]; exact h.1) (by rw [hs1]; exact hl') ?_ fun h' he => ?_
      · have := VRs.length hr'
        simp at this
        simp [this]
      · rw [hs1] at he
        exact hQ h' s1.toks fun b o hb e => he b o (fun q => hb (by rw [q]; exact .head _)) e

/-- an iterator, made -/
theorem trIterRaw (H : Heaps G c S) (hs : s.heap = S.h) {v : Value} {d : D} {x : Src} (r : Rv G c S v d) (hx : srcD d S.σ = some x) {Q : Value → Shared → Prop} {E : Value → Shared → Prop}
    (hq : ∀ o : Obj, o.isFreed = false → ItAt (S.h.push o) S.h.objs.size v d → Q (.ref S.h.objs.size) { s with heap := S.h.push o }) : wpAny G.M c.A (pyIter v) Q E s := by
  cases r with
  | none => exact nnS hx
  | bool => exact nnS hx
  | int => exact nnS hx
  | dct => exact nnS hx
  | glob => exact nnS hx
  | exc => exact nnS hx
  | @lst a o vs n ds ho hc hd hz hn hr =>
    have hl : s.heap.IsList a vs := ⟨o, by rw [hs]; exact ho, hc, n, hd⟩
    refine wpAny_pyIter_list hl ?_
    rw [hs]
    exact hq _ rfl ⟨a, rfl, _, Heap.get?_push_size _ rfl, rfl, rfl⟩
  | @tup a o vs n ds ho hc hd hz hn hr =>
    have hl : s.heap.IsTuple a vs := ⟨o, by rw [hs]; exact ho, hc, n, hd⟩
    refine wpAny_pyIter_tuple hl ?_
    rw [hs]
    exact hq _ rfl ⟨a, rfl, _, Heap.get?_push_size _ rfl, rfl, rfl⟩
  | @str y t hy =>
    cases ha : y.cps.all (· < 128)
    · refine wpAny_pyIter_wide ha ?_
      rw [hs]
      exact hq _ rfl ⟨t, rfl, .inr ⟨_, Heap.get?_push_size _ rfl, rfl, rfl⟩⟩
    · refine wpAny_pyIter_ascii ha ?_
      rw [hs]
      exact hq _ rfl ⟨t, rfl, .inl ⟨_, Heap.get?_push_size _ rfl, rfl, rfl⟩⟩
  | @rng rr a b t u w hr hn =>
    unfold srcD at hx
    dsimp only at hx
    split at hx
    rotate_left
    · exact nnS hx
    rename_i hb
    (refine xA (Bool.and_eq_true_iff.mp hb) fun hb1 hb2 => ?_)
    (refine xA (inR_iff.mp hb1) fun b1 b2 => ?_)
    (refine xA (inR_iff.mp hb2) fun b3 b4 => ?_)
    refine wpAny_pyIter_range (by rw [hs]; exact hr) (range_small1 b1 (Int.le_of_lt b2) b3 (Int.le_of_lt b4)) ?_
    rw [hs, range_size1]
    exact hq _ rfl (Heap.get?_push_size _ rfl)
  | @ref k p hp =>
    unfold srcD at hx
    dsimp only at hx
    split at hx
    rotate_left
    · exact nnS hx
    rename_i ds hk
    (refine xEEEEAAAAAA (H.lst (.ref hp) hk) fun p' o m vs e' hp' ho hc hd hz hr => ?_)
    rw [hp] at hp'; (have k1 := s1E hp'; clear hp'; subst k1)
    refine wpAny_pyIter_list (s := s) ⟨o, by rw [hs]; exact ho, hc, m, hd⟩ ?_
    rw [hs]
    exact hq _ rfl ⟨p.1, rfl, _, Heap.get?_push_size _ rfl, rfl, rfl⟩

theorem trIter (H : Heaps G c S) (hs : s.heap = S.h) (hh : c.A.handled = none) {v : Value} {d : D} {target : Expr} {x : Src} (r : Rv G c S v d) (hx : srcD d S.σ = some x) : Tr G c S s (RIt G c S target) (pyIter v) (.val x) S.σ := by
  refine Tr.of_wp fun Q E hq => ?_
  refine trIterRaw H hs r hx fun o hf hI => ?_
  have fresh1 : ∀ b ∈ [S.h.objs.size], S.h.get? b = none := fun b hb => by
    rcases List.mem_singleton.mp hb with rfl
    exact Heap.get?_none_of_le (Nat.le_refl _)
  (refine xA (H.addX (its := [S.h.objs.size]) (h' := S.h.push o) (fun _ _ e => Heap.get?_push_of_some _ e) fun a ha => ⟨fresh1 a ha, by rcases List.mem_singleton.mp ha with rfl; exact ⟨o, Heap.get?_push_size _ hf⟩⟩) fun H1 x1 => ?_)
  have r1 : Rv G (c.addX [S.h.objs.size]) { S with h := S.h.push o } v d := r.addX x1 fresh1
  (refine xEA (Walk.make (target := target) H1 hh (List.mem_append_left _ (.head _)) r1 hI hx) fun It h0 W => ?_)
  exact hq (.ref S.h.objs.size) { S with h := S.h.push o } s.toks rfl H1.dropX x1 ⟨S.h.objs.size, [S.h.objs.size], It, rfl, fresh1, H1, h0, W⟩
end

noncomputable def Mo.src (m : Mo D) : Mo Src := Mo.bind m fun d _ σ => (srcD d σ).map fun x => (.val x, σ)
theorem Itr.ev {G : Amb} {n : Nat} {Z : Scope} {target iter : Expr} {m : Mo D} (h : Ev G true n Z iter m) (hf : ∀ env x, foldedSetIterable iter env x = Pure.pure x := by intro _ _; rfl) : Itr G true n Z target iter (Mo.src m) := by
  intro c env fr S s out σ' q hm
  refine Tr.bindM hm (fun o1 σ1 h1 => h c env fr S s o1 σ1 q h1) fun d v S1 tk H1 x1 ra h2 => ?_
  (refine xEA (Option.map_eq_some_iff.mp h2) fun x hx e => ?_)
  (have k1 := p2A e; have k2 := p2B e; clear e; subst k1 k2)
  rw [hf]
  refine Tr.of_imp (t := pyIter v) ?_ fun Q E w => wpAny_bind (wpAny_pure (wpAny_bind (wpAny_standAt (wpAny_holding w))))
  refine (trIter (target := target) H1 rfl (q.hand rfl) ra hx).mono fun S' a b xx r => ?_
  (refine xEEEAA r fun it its It h1 h2 h3 => ?_; try clear r)
  refine ⟨it, its, It, h1, fun b hb => ?_, ⟨h3.1, h3.2.1, h3.2.2.toWalkN⟩⟩
  cases e : S.h.get? b with
  | none => rfl
  | some o => (refine xE (x1.live b o e) fun o' e' => ?_); rw [h2 b hb] at e'; exact nnS e'
end Mine
end
section
open PySem PySem.W PyProof.Rows
namespace Mine

/-- a step that may turn what O names -/
structure ExtO (c : Cx) (O : List Addr) (S S' : Gs) : Prop where
  adr : AdrLe S.adr S'.adr
  keep : ∀ b o, S.h.get? b = some o → b ∉ S.reg → b ∉ O → S'.h.get? b = some o ∨ (b ∈ c.fs ∧ ∃ sl, S'.h.get? b = some { o with slots := sl })
  fresh : ∀ a ∈ S'.reg, a ∈ S.reg ∨ S.h.get? a = none
  live : ∀ a o, S.h.get? a = some o → ∃ o', S'.h.get? a = some o'
theorem Ext.o {c : Cx} {S S' : Gs} (x : Ext c S S') (O : List Addr) : ExtO c O S S' := ⟨x.adr, fun b o e h _ => x.keep b o e h, x.fresh, x.live⟩
theorem ExtO.refl (c : Cx) (O : List Addr) (S : Gs) : ExtO c O S S := (Ext.refl c S).o O
theorem ExtO.trans {c : Cx} {O : List Addr} {S S' S'' : Gs} (x : ExtO c O S S') (y : ExtO c O S' S'') : ExtO c O S S'' := by
  refine ⟨x.adr.trans y.adr, fun b o e hb ho => ?_, fun a ha => ?_, fun a o e => ?_⟩
  · have hb' : b ∉ S'.reg := fun hm => by
      rcases x.fresh b hm with q | q
      · exact hb q
      · rw [e] at q; exact nSn q
    rcases x.keep b o e hb ho with q | ⟨hf, sl, q⟩
    · exact y.keep b o q hb' ho
    · rcases y.keep b _ q hb' ho with q' | ⟨hf', sl', q'⟩
      · exact .inr ⟨hf, sl, q'⟩
      · exact .inr ⟨hf, sl', q'⟩
  · rcases y.fresh a ha with q | q
    · exact x.fresh a q
    · refine .inr ?_
      cases e : S.h.get? a with
      | none => rfl
      | some o => (refine xE (x.live a o e) fun o' e' => ?_); rw [q] at e'; exact nnS e'
  · (refine xE (x.live a o e) fun o' e' => ?_)
    exact y.live a o' e'
theorem ExtO.pres {c : Cx} {O : List Addr} {S S' : Gs} (x : ExtO c O S S') (hown : ∀ a ∈ O, a ∈ c.fs ++ c.X) : Pres (vol c S) S.h S'.h := fun a o hn e => by
  have h1 : a ∉ S.reg := fun q => hn (List.mem_append_left _ q)
  have h2 : a ∉ O := fun q => hn (List.mem_append_right _ (hown a q))
  rcases x.keep a o e h1 h2 with q | ⟨hf, _⟩
  · exact q
  · exact absurd (List.mem_append_right _ (List.mem_append_left _ hf)) hn
theorem ExtO.volLe {c : Cx} {O : List Addr} {S S' : Gs} (x : ExtO c O S S') : VolLe S.h (vol c S) (vol c S') := fun a ha => by
  rcases List.mem_append.mp ha with q | q
  · rcases x.fresh a q with r | r
    · exact .inl (List.mem_append_left _ r)
    · exact .inr r
  · exact .inl (List.mem_append_right _ q)
theorem Rv.extO {G : Amb} {c : Cx} {O : List Addr} {S S' : Gs} {v : Value} {d : D} (r : Rv G c S v d) (x : ExtO c O S S') (hown : ∀ a ∈ O, a ∈ c.fs ++ c.X) : Rv G c S' v d := VR.mono (x.pres hown) x.adr x.volLe r
theorem Rvs.extO {G : Amb} {c : Cx} {O : List Addr} {S S' : Gs} {v : List Value} {d : List D} (r : Rvs G c S v d) (x : ExtO c O S S') (hown : ∀ a ∈ O, a ∈ c.fs ++ c.X) : Rvs G c S' v d := VRs.mono (x.pres hown) x.adr x.volLe r
theorem ExtO.cx {c : Cx} {O its : List Addr} {S S' : Gs} (x : ExtO (c.addX its) O S S') : ExtO c O S S' := ⟨x.adr, x.keep, x.fresh, x.live⟩
theorem ExtO.wide {c : Cx} {O O' : List Addr} {S S' : Gs} (x : ExtO c O S S') (h : ∀ a ∈ O, a ∈ O') : ExtO c O' S S' := ⟨x.adr, fun b o e hb ho => x.keep b o e hb fun q => ho (h b q), x.fresh, x.live⟩

/-- a store to a comprehension's target -/
noncomputable def AsC (G : Amb) (n : Nat) (Z : Scope) (W : List PySem.Str) (t : Expr) (f : D → Fr → Fr) (ok : D → Bool) : Prop :=
  ∀ c env O fr S s v d, Run G true n Z c env fr S s → (∀ a ∈ O, a ∈ c.fs ++ c.X) → env.locals ∈ O → (∀ x ∈ W, ∀ k, env.cells.lookup x = some k → k ∈ O) → Rv G c S v d → ok d = true →
    ∀ (Q : Unit → Shared → Prop) (E : Value → Shared → Prop), (∀ (S' : Gs) tk, S'.σ = S.σ → Heaps G c S' → ExtO c O S S' → EnvOk G c env (f d fr) S' → Q () (ShT s S'.h tk)) → wpAny G.M c.A (assign t env v) Q E s

section
variable {G : Amb} {c : Cx} {env : Env} {S : Gs} {s : Shared} {fr : Fr} {n : Nat} {Z : Scope} {W : List PySem.Str}

theorem bindC_local {hn : Bool} (q : Run G hn n Z c env fr S s) {O : List Addr} (hO : env.locals ∈ O) {x : PySem.Str} {v : Value} {d : D} (hk : Z.names.lookup x = some .local) (r : Rv G c S v d) {Q : Unit → Shared → Prop} {E : Value → Shared → Prop}
    (hq : ∀ (S' : Gs) tk, S'.σ = S.σ → Heaps G c S' → ExtO c O S S' → EnvOk G c env (upd fr x d) S' → Q () (ShT s S'.h tk)) : wpAny G.M c.A (bindName env x v) Q E s := by
  have hk' := (kindOf_scope q.scope).trans hk
  (refine xEA q.V.vars fun m hm hval => ?_)
  have hp : (env.scope.kind == .class || (env.scope.kind == .module && env.locals != env.globals)) = false := by rw [q.V.kind]; rfl
  refine wpAny_bindName (wpAny_storeName_local hk' (by rw [q.heap]; exact hm) (fun h' hm' hs => ?_) hp)
  rw [q.heap] at hs
  (refine xA (q.H.atLocals q.V.loc hs hm') fun H' xx => ?_)
  refine hq { S with h := h' } _ rfl H' ⟨.refl _, fun b o e _ ho => .inl (hs.extBut b o (fun z => ho (z ▸ hO)) e), fun _ h => .inl h, fun a o e => ?_⟩ (q.V.setLocal q.H hk' r hm hval hs hm')
  exact xx.live a o e
theorem bindC_cell {hn : Bool} (q : Run G hn n Z c env fr S s) {O : List Addr} {x : PySem.Str} (hO : ∀ k, env.cells.lookup x = some k → k ∈ O) {v : Value} {d : D} (hk : Z.names.lookup x = some .cell) (r : Rv G c S v d) {Q : Unit → Shared → Prop} {E : Value → Shared → Prop}
    (hq : ∀ (S' : Gs) tk, S'.σ = S.σ → Heaps G c S' → ExtO c O S S' → EnvOk G c env (upd fr x d) S' → Q () (ShT s S'.h tk)) : wpAny G.M c.A (bindName env x v) Q E s := by
  have hk' := (kindOf_scope q.scope).trans hk
  (refine xEEAA (q.V.cell x (.inl hk')) fun k v0 hl hc _ => ?_)
  refine wpAny_bindName (wpAny_storeName_cell q.V.kind hk' hl (by rw [q.heap]; exact hc) (fun h' hc' hs => ?_))
  rw [q.heap] at hs
  (refine xA (q.H.atCell (env := env) (q.V.own x k hl) hc hs hc' hl) fun H' xx => ?_)
  have xx' : ExtO c O S { S with h := h' } := ⟨.refl _, fun b o e _ ho => .inl (hs.extBut b o (fun z => ho (z ▸ hO k hl)) e), fun _ h => .inl h, fun a o e => xx.live a o e⟩
  refine hq { S with h := h' } _ rfl H' xx' ⟨q.V.kind, q.V.glob, q.V.blt, q.V.frame, q.V.loc, ?_, fun y hy => ?_, q.V.own, q.V.apart⟩
  · (refine xEA q.V.vars fun m hm hval => ?_)
    have hne : env.locals ≠ k := fun e => by
      (refine xEA hc fun o ho hdo => ?_; try clear hc)
      (refine xEEEAA hm fun o2 _ _ ho2 hdo2 _ => ?_; try clear hm)
      rw [← e, ho2] at ho; (have k1 := s1E ho; clear ho; subst k1); rw [hdo2] at hdo; exact nAny PySem.Data.ctorIdx hdo rfl
    refine ⟨m, hm.sameBut hs hne, fun y dy hy hky => ?_⟩
    have e : y ≠ x := fun e => by subst e; rw [hk'] at hky; cases hky
    rw [upd_ne e] at hy
    (refine xEA (hval y dy hy hky) fun w hw rw' => ?_)
    exact ⟨w, hw, rw'.extS xx q.V.ownIn⟩
  · (refine xEEAA (q.V.cell y hy) fun k2 v2 hl2 hc2 hd2 => ?_)
    by_cases e : y = x
    · subst e
      rw [hl] at hl2; (have k1 := s1E hl2; clear hl2; subst k1)
      refine ⟨k, some v, hl, hc', fun dy hy' => ?_⟩
      rw [upd_self] at hy'; (have k1 := s1E hy'; clear hy'; subst k1)
      exact ⟨v, rfl, r.extS xx q.V.ownIn⟩
    · have hne : k2 ≠ k := fun e' => e (q.V.apart y x k (e' ▸ hl2) hl)
      refine ⟨k2, v2, hl2, hc2.sameBut hs hne, fun dy hy' => ?_⟩
      rw [upd_ne e] at hy'
      (refine xEA (hd2 dy hy') fun w hw rw' => ?_)
      exact ⟨w, hw, rw'.extS xx q.V.ownIn⟩

theorem AsC.name {x : PySem.Str} {pos : Pos} (hk : Z.names.lookup x = some .local) : AsC G n Z W (.Name x pos) (fun d fr => upd fr x d) (fun _ => true) := by
  intro c env O fr S s v d q hI hO hW r _ Q E hq
  show wpAny _ _ (do PySem.standAt pos; bindName env x v) Q E s
  exact wpAny_bind (wpAny_standAt (bindC_local q hO hk r hq))
theorem AsC.cel {x : PySem.Str} {pos : Pos} (hk : Z.names.lookup x = some .cell) (hx : x ∈ W) : AsC G n Z W (.Name x pos) (fun d fr => upd fr x d) (fun _ => true) := by
  intro c env O fr S s v d q hI hO hW r _ Q E hq
  show wpAny _ _ (do PySem.standAt pos; bindName env x v) Q E s
  exact wpAny_bind (wpAny_standAt (bindC_cell q (hW x hx) hk r hq))
noncomputable def isPair : D → Bool
  | .tup [_, _] => true
  | _ => false
noncomputable def setPair (x y : PySem.Str) (d : D) (fr : Fr) : Fr := match d with
  | .tup [a, b] => upd (upd fr x a) y b
  | _ => fr
theorem ext_fresh {S : Gs} {h' : Heap} (k : Heap.ExtBut S.h.objs.size S.h h') : ∀ b o, S.h.get? b = some o → h'.get? b = some o := fun b o e => k b o (Nat.ne_of_lt (Heap.lt_size e)) e
theorem AsC.pair {x y : PySem.Str} {p1 p2 pos : Pos} {k : Nat} (hx : Z.names.lookup x = some .local) (hy : Z.names.lookup y = some .local) : AsC G n Z W (.Tuple [.Name x p1, .Name y p2] k pos) (setPair x y) isPair := by
  intro c env O fr S s v d q hI hO hW r hok Q E hq
  unfold isPair at hok
  split at hok
  rotate_left
  · exact nFT hok
  rename_i d1 d2
  refine xEEEEAAAAAA (VR.i_tup r) fun a o vs nn ev ho hc hd _ _ hr => ?_
  subst ev
  refine xEEAA (VRs.i_two hr) fun v1 v2 e r10 r20 => ?_
  clear r hr
  · have hsz : vs.size = 2 := by rw [← Array.length_toList, e]; rfl
    have ht : s.heap.IsTuple a vs := ⟨o, by rw [q.heap]; exact ho, hc, nn, hd⟩
    refine wpAny_assign_Tuple (q.hand rfl) ht hsz.symm rfl fun h' hk => ?_
    rw [q.heap] at hk
    obtain ⟨H1, x1⟩ := q.H.grow (h' := h') (ext_fresh hk)
    have q1 : Run G true n Z c env fr { S with h := h' } { s with heap := h' } := q.step (tk := s.toks) H1 x1
    rw [e]
    have r1 : Rv G c { S with h := h' } v1 d1 := Rv.ext r10 x1
    have r2 : Rv G c { S with h := h' } v2 d2 := Rv.ext r20 x1
    show wpAny _ _ (do PySem.holding [v2] (assign (.Name x p1) env v1); assignInOrder [assign (.Name y p2) env] [v2]) Q E _
    refine wpAny_bind (wpAny_holding (AsC.name (W := W) (pos := p1) hx c env O fr _ _ v1 d1 q1 hI hO hW r1 rfl _ _ fun S2 tk e2 H2 x2 V2 => ?_))
    have q2 : Run G true n Z c env (upd fr x d1) S2 (ShT s S2.h tk) := ⟨q.scope, q.room, q.units, q.hand, rfl, H2, V2⟩
    show wpAny _ _ (do PySem.holding [] (assign (.Name y p2) env v2); assignInOrder [] []) Q E _
    refine wpAny_bind (wpAny_holding (AsC.name (W := W) (pos := p2) hy c env O _ _ _ v2 d2 q2 hI hO hW (r2.extO x2 hI) rfl _ _ fun S3 tk3 e3 H3 x3 V3 => ?_))
    exact wpAny_pure (hq S3 tk3 (e3.trans e2) H3 (((x1.o O).trans x2).trans x3) V3)
end
end Mine
end
section
open PySem PySem.W PyProof.Rows
namespace Mine

noncomputable abbrev Em (β : Type) := Fr → List AO → Option (List β × Fr × List AO)
open Classical in
noncomputable def lcEach {β : Type} (P : List AO → Prop) (tgt : D → Fr → Fr) (ok : D → Bool) (test : Mo Bool) (em : Em β) : List D → Em β
  | [] => fun fr σ => if P σ then some ([], fr, σ) else none
  | d :: ds => fun fr σ => if P σ then (if ok d then (match test (tgt d fr) σ with
      | some (.val true, σ1) => (match em (tgt d fr) σ1 with
        | some (ys, fr2, σ2) => (lcEach P tgt ok test em ds fr2 σ2).map fun r => (ys ++ r.1, r.2)
        | none => none)
      | some (.val false, σ1) => lcEach P tgt ok test em ds (tgt d fr) σ1
      | some (.exc _ _, _) => none
      | none => none) else none) else none
noncomputable def emOne (m : Mo D) : Em D := fun fr σ => match m fr σ with
  | some (.val d, σ') => some ([d], fr, σ')
  | some (.exc _ _, _) => none
  | none => none
noncomputable def emSrc {β : Type} (m : Mo Src) (tgt : D → Fr → Fr) (ok : D → Bool) (test : Mo Bool) (em : Em β) : Em β := fun fr σ => match m fr σ with
  | some (.val x, σ') => lcEach x.P tgt ok test em x.ds fr σ'
  | _ => none

structure Accu (G : Amb) (O A0 : List Addr) {β : Type} (Acc : Cx → Gs → List β → Prop) : Prop where
  ext : ∀ c S S' ys, (∀ a ∈ A0, a ∈ c.X) → Heaps G c S → (∀ a ∈ O, a ∈ c.fs ++ c.X) → Acc c S ys → ExtO c O S S' → Acc c S' ys
  add : ∀ c its S S' ys, (∀ a ∈ A0, a ∈ c.X) → Heaps G c S → Acc c S ys → Ext c S S' → (∀ a ∈ its, S.h.get? a = none) → Acc (c.addX its) S' ys
  drop : ∀ c its S ys, Acc (c.addX its) S ys → Acc c S ys
  turn : ∀ c its S ys (h' : Heap), (∀ a ∈ A0, a ∈ c.X) → Apart c its → Acc (c.addX its) S ys → (∀ b o, b ∉ its → S.h.get? b = some o → h'.get? b = some o) → Acc (c.addX its) { S with h := h' } ys

theorem EnvOk.turnX' {G : Amb} {c : Cx} {its : List Addr} {env : Env} {fr : Fr} {S : Gs} (ap : Apart c its) (hloc : env.locals ∈ c.fs ++ c.X) (hown : ∀ x k, env.cells.lookup x = some k → k ∈ c.X) (V : EnvOk G (c.addX its) env fr S) {h' : Heap} (k : ∀ b o, b ∉ its → S.h.get? b = some o → h'.get? b = some o) : EnvOk G (c.addX its) env fr { S with h := h' } := by
  refine ⟨V.kind, V.glob, V.blt, V.frame, V.loc, ?_, fun y hy => ?_, V.own, V.apart⟩
  · (refine xEA V.vars fun m q0z hm => ?_; refine xEEEA q0z fun o es ep ho r => ?_)
    exact ⟨m, ⟨o, es, ep, k _ _ (fun q => ap.off _ q hloc) ho, r⟩, fun y d hd hk => let ⟨v, hv, r⟩ := hm y d hd hk; ⟨v, hv, r.turnX k⟩⟩
  · (refine xEEAA (V.cell y hy) fun a v0 hl q0z hd => ?_; refine xEA q0z fun o ho r => ?_)
    exact ⟨a, v0, hl, ⟨o, k _ _ (fun q => ap.off _ q (List.mem_append_right _ (hown y a hl))) ho, r⟩, fun d q => let ⟨v, hv, r⟩ := hd d q; ⟨v, hv, r.turnX k⟩⟩
theorem EnvOk.dropX' {G : Amb} {c : Cx} {its : List Addr} {env : Env} {fr : Fr} {S : Gs} (hloc : env.locals ∈ c.fs ++ c.X) (hown : ∀ x k, env.cells.lookup x = some k → k ∈ c.X) (V : EnvOk G (c.addX its) env fr S) : EnvOk G c env fr S := by
  refine ⟨V.kind, V.glob, V.blt, V.frame, hloc, ?_, fun y hy => ?_, hown, V.apart⟩
  · (refine xEA V.vars fun m hn hm => ?_)
    exact ⟨m, hn, fun y d hd hk => let ⟨v, hv, r⟩ := hm y d hd hk; ⟨v, hv, r.dropX⟩⟩
  · (refine xEEAA (V.cell y hy) fun k v0 hl hc hd => ?_)
    exact ⟨k, v0, hl, hc, fun d q => let ⟨v, hv, r⟩ := hd d q; ⟨v, hv, r.dropX⟩⟩
theorem ExtO.turnIn {c : Cx} {O its : List Addr} {S S' : Gs} (x : ExtO c (its ++ O) S S') {h' : Heap} (k : ∀ b o, b ∉ its → S'.h.get? b = some o → h'.get? b = some o) (live : ∀ a ∈ its, ∃ o, h'.get? a = some o) : ExtO c (its ++ O) S { S' with h := h' } := by
  refine ⟨x.adr, fun b o e hb ho => ?_, x.fresh, fun a o e => ?_⟩
  · have nin : b ∉ its := fun q => ho (List.mem_append_left _ q)
    rcases x.keep b o e hb ho with q | ⟨hf, sl, q⟩
    · exact .inl (k b o nin q)
    · exact .inr ⟨hf, sl, k b _ nin q⟩
  · by_cases hi : a ∈ its
    · exact live a hi
    · (refine xE (x.live a o e) fun o' e' => ?_)
      exact ⟨o', k a o' hi e'⟩

structure ExtEnd (c : Cx) (its O : List Addr) (S S' : Gs) : Prop where
  adr : AdrLe S.adr S'.adr
  keep : ∀ b o, S.h.get? b = some o → b ∉ S.reg → b ∉ its ++ O → S'.h.get? b = some o ∨ (b ∈ c.fs ∧ ∃ sl, S'.h.get? b = some { o with slots := sl })
  fresh : ∀ a ∈ S'.reg, a ∈ S.reg ∨ S.h.get? a = none
  live : ∀ a o, a ∉ its → S.h.get? a = some o → ∃ o', S'.h.get? a = some o'
theorem ExtO.endIn {c : Cx} {O its : List Addr} {S S' : Gs} (x : ExtO c (its ++ O) S S') {h' : Heap} (k : ∀ b o, b ∉ its → S'.h.get? b = some o → h'.get? b = some o) : ExtEnd c its O S { S' with h := h' } := by
  refine ⟨x.adr, fun b o e hb ho => ?_, x.fresh, fun a o hi e => ?_⟩
  · have nin : b ∉ its := fun q => ho (List.mem_append_left _ q)
    rcases x.keep b o e hb ho with q | ⟨hf, sl, q⟩
    · exact .inl (k b o nin q)
    · exact .inr ⟨hf, sl, k b _ nin q⟩
  · (refine xE (x.live a o e) fun o' e' => ?_)
    exact ⟨o', k a o' hi e'⟩
theorem ExtO.join {c : Cx} {O O' its : List Addr} {S S1 S' : Gs} (x : ExtO c O S S1) (hi : ∀ a ∈ its, S.h.get? a = none) (hO : ∀ a ∈ O', a ∈ O ∨ S.h.get? a = none) (y : ExtEnd c its O' S1 S') : ExtO c O S S' := by
  have nin : ∀ b o, S.h.get? b = some o → b ∉ its := fun b o e q => by rw [hi b q] at e; exact nnS e
  refine ⟨x.adr.trans y.adr, fun b o e hb ho => ?_, fun a ha => ?_, fun a o e => ?_⟩
  · have hb' : b ∉ S1.reg := fun hm => by
      rcases x.fresh b hm with q | q
      · exact hb q
      · rw [e] at q; exact nSn q
    have ho' : b ∉ its ++ O' := fun hm => by
      rcases List.mem_append.mp hm with q | q
      · exact nin b o e q
      · rcases hO b q with z | z
        · exact ho z
        · rw [e] at z; exact nSn z
    rcases x.keep b o e hb ho with q | ⟨hf, sl, q⟩
    · exact y.keep b o q hb' ho'
    · rcases y.keep b _ q hb' ho' with q' | ⟨hf', sl', q'⟩
      · exact .inr ⟨hf, sl, q'⟩
      · exact .inr ⟨hf, sl', q'⟩
  · rcases y.fresh a ha with q | q
    · exact x.fresh a q
    · refine .inr ?_
      cases e : S.h.get? a with
      | none => rfl
      | some o => (refine xE (x.live a o e) fun o' e' => ?_); rw [q] at e'; exact nnS e'
  · (refine xE (x.live a o e) fun o' e' => ?_)
    exact y.live a o' (nin a o e) e'
theorem ExtO.ext {c : Cx} {S S' : Gs} (x : ExtO c [] S S') : Ext c S S' := ⟨x.adr, fun b o e hb => x.keep b o e hb (by simp), x.fresh, x.live⟩

/-- what a clause lays down -/
noncomputable def EmT (G : Amb) (n : Nat) (Z : Scope) (env : Env) (O : List Addr) (c0 : Cx) {β : Type} (Acc : Cx → Gs → List β → Prop) (Good : List β → Prop) (t : Sem Unit) (em : Em β) : Prop :=
  ∀ c, (∀ a, a ∈ c0.fs ++ c0.X → a ∈ c.fs ++ c.X) → ∀ fr S s ys zs fr' σ', Run G true n Z c env fr S s → c.fs = c0.fs → Acc c S ys → em fr S.σ = some (zs, fr', σ') → Good (ys ++ zs) →
    ∀ (Q : Unit → Shared → Prop) (E : Value → Shared → Prop), (∀ (S' : Gs) tk, S'.σ = σ' → Heaps G c S' → ExtO c O S S' → EnvOk G c env fr' S' → Acc c S' (ys ++ zs) → Q () (ShT s S'.h tk)) → wpAny G.M c.A t Q E s

noncomputable def testsOf (ifs : List Expr) (env : Env) : Sem Bool := forIn ifs true fun c r => if r = true then do let ok ← isTrue c env (eval c env); pure (ForInStep.yield ok) else pure (ForInStep.yield r)
noncomputable def Ts (G : Amb) (n : Nat) (Z : Scope) (ifs : List Expr) (m : Mo Bool) : Prop :=
  ∀ c env fr S s b σ', Run G true n Z c env fr S s → m fr S.σ = some (.val b, σ') → Tr G c S s (fun _ a b => a = b) (testsOf ifs env) (.val b) σ'
theorem Ts.nil {G : Amb} {n : Nat} {Z : Scope} : Ts G n Z [] (Mo.pure true) := by
  intro c env fr S s b σ' q hm
  cases hm
  exact Tr.pure q.H q.heap rfl
theorem Ts.one {G : Amb} {n : Nat} {Z : Scope} {e : Expr} {m : Mo Bool} (h : Cd G true n Z e m) : Ts G n Z [e] m := by
  intro c env fr S s b σ' q hm
  intro Q E hq hx
  exact PySem.wpAny_tests_one (h c env fr S s _ _ q hm Q E hq hx)

section
variable {G : Amb} {c : Cx} {its : List Addr} {env : Env} {n : Nat} {Z : Scope} {W : List PySem.Str} {O : List Addr} {β : Type} {Acc : Cx → Gs → List β → Prop} {Good : List β → Prop}

theorem codeAny_compLoop_all {e : Expr} {depth : Nat} {target : Expr} {ifs : List Expr} {it acc : Value} {emit : Sem Unit} {A : Around} {R : Result → Shared → Prop} {s : Shared} (p : Pos)
    (heq : compTurn e depth it acc env = (PySem.standAt p >>= fun _ => pyNext it >>= fun r => match r with
      | none => pure (.done .next)
      | some v => letOwnedTupleGo target it v >>= fun _ => assign target env v >>= fun _ => testsOf ifs env >>= fun ok => (if ok = true then (emit >>= fun _ => again (.compLoop e depth it acc env)) else again (.compLoop e depth it acc env))))
    (hq : (Code.compLoop e depth it acc env).quiet = true) (hw : A.under (.compLoop e depth it acc env) = A)
    (hden : (model G.prog G.w).den (.compLoop e depth it acc env) = (compTurn e depth it acc env).onRaise (fun x => do noteFrame x env; theTreesLotGoes x))
    (I : Nat → Shared → Prop)
    (turn : ∀ n s (K F : Shared → Prop) (E : Value → Shared → Prop), (∀ m s', m < n → I m s' → K s') → (∀ s', R (.ok .next) s' → F s') → I n s → wpAny G.M A (pyNext it) (fun r s₁ => match r with
      | none => F s₁
      | some v => wpAny G.M A (letOwnedTupleGo target it v) (fun _ s₁' => wpAny G.M A (assign target env v) (fun _ s₂ =>
          wpAny G.M A (testsOf ifs env) (fun ok s₃ => if ok = true then wpAny G.M A emit (fun _ s₅ => K s₅) E s₃ else K s₃) E s₂) E s₁') E s₁) E s)
    (n : Nat) (h : I n s) : codeAny (model G.prog G.w) A (.compLoop e depth it acc env) R s := by
  refine codeAny_loop hq I (fun n s hI => ?_) n h
  rw [hw, hden]
  refine wpAny_noted ?_
  rw [heq]
  refine wpAny_bind (wpAny_standAt (wpAny_bind (wpAny_mono (turn n s (fun s' => ∃ m, m < n ∧ I m s') (R (.ok .next)) _ (fun m s' h1 h2 => ⟨m, h1, h2⟩) (fun _ z => z) hI) (fun r s₁ h₁ => ?_) fun _ _ h' => h')))
  cases r with
  | none => exact wpAny_pure h₁
  | some v =>
    refine wpAny_bind (wpAny_mono h₁ (fun _ s₁' h₁' => wpAny_bind (wpAny_mono h₁' (fun _ s₂ h₂ => wpAny_bind (wpAny_mono h₂ (fun ok s₃ h₃ => ?_) fun _ _ h' => h')) fun _ _ h' => h')) fun _ _ h' => h')
    cases ok with
    | false => exact wpAny_pure ⟨rfl, h₃⟩
    | true => exact wpAny_bind (wpAny_mono h₃ (fun _ s₅ h₅ => wpAny_pure ⟨rfl, h₅⟩) fun _ _ h' => h')

theorem item_postC {M : Model} {A : Around} {it : Value} {target : Expr} {s : Shared} {B : Value → Shared → Prop} {N : Shared → Prop} {E : Value → Shared → Prop}
    (h : wpAny M A (pyNext it) (fun r s1 => ∃ v, r = some v ∧ wpAny M A (letOwnedTupleGo target it v) (fun _ s2 => B v s2) E s1) E s) :
    wpAny M A (pyNext it) (fun r s1 => match r with | none => N s1 | some v => wpAny M A (letOwnedTupleGo target it v) (fun _ s1' => B v s1') E s1) E s :=
  wpAny_mono h (fun r s1 hr => by obtain ⟨v, rfl, hr⟩ := hr; exact hr) fun _ _ z => z

theorem lcEach_nilE {P : List AO → Prop} {tgt : D → Fr → Fr} {ok : D → Bool} {test : Mo Bool} {em : Em β} {fr : Fr} {σ : List AO} {zs : List β} {q : Fr × List AO} (h : lcEach P tgt ok test em [] fr σ = some (zs, q)) {X : Prop} (k : P σ → zs = [] → q = (fr, σ) → X) : X := by
  unfold lcEach at h
  by_cases hP : P σ
  · rw [if_pos hP] at h
    exact k hP (s2A h).symm (s2B h).symm
  · rw [if_neg hP] at h
    exact nnS h
theorem lcEach_consE {P : List AO → Prop} {tgt : D → Fr → Fr} {ok : D → Bool} {test : Mo Bool} {em : Em β} {d : D} {ds : List D} {fr : Fr} {σ : List AO} {zs : List β} {q : Fr × List AO} (h : lcEach P tgt ok test em (d :: ds) fr σ = some (zs, q)) {X : Prop}
    (k : P σ → ok d = true → ∀ b σt, test (tgt d fr) σ = some (.val b, σt) → (b = false → lcEach P tgt ok test em ds (tgt d fr) σt = some (zs, q)) →
      (b = true → ∃ ye fre σe, em (tgt d fr) σt = some (ye, fre, σe) ∧ ∃ zr, lcEach P tgt ok test em ds fre σe = some (zr, q) ∧ ye ++ zr = zs) → X) : X := by
  unfold lcEach at h
  by_cases hP : P σ
  rotate_left
  · rw [if_neg hP] at h
    exact nnS h
  rw [if_pos hP] at h
  by_cases ho : ok d = true
  rotate_left
  · rw [if_neg ho] at h
    exact nnS h
  rw [if_pos ho] at h
  cases ht : test (tgt d fr) σ with
  | none => rw [ht] at h; exact nnS h
  | some pr =>
    rw [ht] at h
    obtain ⟨ot, σt⟩ := pr
    cases ot with
    | exc => exact nnS h
    | val b =>
      refine k hP ho b σt ht (fun e => ?_) fun e => ?_
      · subst e; exact h
      · subst e
        dsimp only at h
        cases he : em (tgt d fr) σt with
        | none => rw [he] at h; exact nnS h
        | some pe =>
          rw [he] at h
          obtain ⟨ye, fre, σe⟩ := pe
          refine xEA (Option.map_eq_some_iff.mp h) fun r hr er => ⟨ye, fre, σe, rfl, r.1, ?_, p2A er⟩
          rw [hr, ← p2B er]
/-- what stands between the turns -/
noncomputable def CJ (G : Amb) (c : Cx) (its : List Addr) (env : Env) (O2 : List Addr) (S1 : Gs) (Acc : Cx → Gs → List β → Prop) (It : Nat → Gs → Prop) (ys zs : List β) (run : List D → Em β) (ds : List D) (q : Fr × List AO) (i : Nat) (ys1 : List β) (fr1 : Fr) (S' : Gs) : Prop :=
  It i S' ∧ Heaps G (c.addX its) S' ∧ EnvOk G (c.addX its) env fr1 S' ∧ ExtO c (its ++ O2) S1 S' ∧ Acc (c.addX its) S' (ys ++ ys1) ∧ ∃ zs1, ys1 ++ zs1 = zs ∧ run (ds.drop i) fr1 S'.σ = some (zs1, q)
inductive CInv (N : Nat) (J : Nat → List β → Fr → Gs → Prop) (s : Shared) : Nat → Shared → Prop
  | mk (i : Nat) (ys1 : List β) (fr1 : Fr) (S' : Gs) (tk : Nat) : i ≤ N → J i ys1 fr1 S' → CInv N J s (N + 1 - i) (ShT s S'.h tk)
theorem EmT.addX {O2 : List Addr} {emit : Sem Unit} {em : Em β} (hE : EmT G n Z env O2 c Acc Good emit em) : EmT G n Z env O2 (c.addX its) Acc Good emit em := fun c' h => hE c' fun a ha => h a (by
  rcases List.mem_append.mp ha with z | z
  · exact List.mem_append_left _ z
  · exact List.mem_append_right _ (List.mem_append_right _ z))
theorem mem_addX {O : List Addr} (hI : ∀ a ∈ O, a ∈ c.fs ++ c.X) : ∀ a ∈ O, a ∈ (c.addX its).fs ++ (c.addX its).X := fun a ha => by
  rcases List.mem_append.mp (hI a ha) with z | z
  · exact List.mem_append_left _ z
  · exact List.mem_append_right _ (List.mem_append_right _ z)
/-- one turn -/
theorem compBody_ok {target : Expr} {ifs : List Expr} {emit : Sem Unit} {tgt : D → Fr → Fr} {ok : D → Bool} {test : Mo Bool} {em : Em β} {A0 : List Addr} (hA0 : ∀ a ∈ A0, a ∈ c.X) (hacc : Accu G O A0 Acc) (hT : AsC G n Z W target tgt ok) (hS : Ts G n Z ifs test)
    {O2 : List Addr} (hsub : ∀ a ∈ O, a ∈ O2) (hE : EmT G n Z env O2 c Acc Good emit em) (hI : ∀ a ∈ O, a ∈ c.fs ++ c.X) (hO : env.locals ∈ O) (hW : ∀ x ∈ W, ∀ k, env.cells.lookup x = some k → k ∈ O)
    {fr : Fr} {S : Gs} {s : Shared} {v : Value} {d : D} (q : Run G true n Z c env fr S s) (rv : Rv G c S v d) (hok : ok d = true) {ys : List β} (A1 : Acc c S ys) {b : Bool} {σt : List AO} (hte : test (tgt d fr) S.σ = some (.val b, σt)) {K : Shared → Prop} {E : Value → Shared → Prop}
    (kf : b = false → ∀ (S3 : Gs) tk, S3.σ = σt → Heaps G c S3 → ExtO c O2 S S3 → EnvOk G c env (tgt d fr) S3 → Acc c S3 ys → K (ShT s S3.h tk))
    (kt : b = true → ∃ ye fre σe, em (tgt d fr) σt = some (ye, fre, σe) ∧ Good (ys ++ ye) ∧ ∀ (S3 : Gs) tk, S3.σ = σe → Heaps G c S3 → ExtO c O2 S S3 → EnvOk G c env fre S3 → Acc c S3 (ys ++ ye) → K (ShT s S3.h tk)) :
    wpAny G.M c.A (assign target env v) (fun _ s₂ => wpAny G.M c.A (testsOf ifs env) (fun ok s₃ => if ok = true then wpAny G.M c.A emit (fun _ s₅ => K s₅) E s₃ else K s₃) E s₂) E s := by
  refine hT c env O fr S s v d q hI hO hW rv hok _ _ fun SA tkA eA HA xA VA => ?_
  have AA := hacc.ext _ _ _ _ hA0 q.H hI A1 xA
  refine hS c env _ SA _ b σt ⟨q.scope, q.room, q.units, q.hand, rfl, HA, VA⟩ ((congrArg _ eA).trans hte) _ _ (fun b' hb' u ST tkT eT HT xT rT => ?_) fun X msg ho => nVE ho
  have rT : u = b := rT.trans (valE hb').symm
  have VT := xT.env HA VA
  have AT := hacc.ext _ _ _ _ hA0 HA hI AA (xT.o O)
  have XT := (xA.wide hsub).trans (xT.o O2)
  cases u with
  | false =>
    rw [if_neg Bool.false_ne_true]
    exact kf rT.symm ST tkT eT HT XT VT AT
  | true =>
    rw [if_pos rfl]
    refine xEEEAA (kt rT.symm) fun ye fre σe hee hg kk => ?_
    exact hE c (fun _ h => h) _ ST _ ys ye fre σe ⟨q.scope, q.room, q.units, q.hand, rfl, HT, VT⟩ rfl AT ((congrArg _ eT).trans hee) hg _ _ fun SE tkE eE HE xE VE AE => kk SE tkE eE HE (XT.trans xE) VE AE
/-- a clause's loop -/
theorem compLoop_ok {e : Expr} {depth : Nat} {target : Expr} {ifs : List Expr} {it : Addr} {acc : Value} {emit : Sem Unit} {tgt : D → Fr → Fr} {ok : D → Bool} {test : Mo Bool} {em : Em β} (p : Pos)
    (heq : compTurn e depth (.ref it) acc env = (PySem.standAt p >>= fun _ => pyNext (.ref it) >>= fun r => match r with
      | none => pure (.done .next)
      | some v => letOwnedTupleGo target (.ref it) v >>= fun _ => assign target env v >>= fun _ => testsOf ifs env >>= fun ok => (if ok = true then (emit >>= fun _ => again (.compLoop e depth (.ref it) acc env)) else again (.compLoop e depth (.ref it) acc env))))
    (hq : (Code.compLoop e depth (.ref it) acc env).quiet = true) (hw : c.A.under (.compLoop e depth (.ref it) acc env) = c.A)
    (hden : (model G.prog G.w).den (.compLoop e depth (.ref it) acc env) = (compTurn e depth (.ref it) acc env).onRaise (fun x => do noteFrame x env; theTreesLotGoes x))
    {A0 : List Addr} (hA0 : ∀ a ∈ A0, a ∈ c.X) (hacc : Accu G O A0 Acc) (hT : AsC G n Z W target tgt ok) (hS : Ts G n Z ifs test) {O2 : List Addr} (hsub : ∀ a ∈ O, a ∈ O2) (hI2 : ∀ a ∈ O2, a ∈ c.fs ++ c.X) (hE : EmT G n Z env O2 c Acc Good emit em) (hgood : ∀ a b, Good (a ++ b) → Good a)
    {fr : Fr} {S1 : Gs} {s : Shared} {ys : List β} {P : List AO → Prop} {It : Nat → Gs → Prop} {ds : List D} (ap : Apart c its) (hloc : env.locals ∈ c.fs ++ c.X) (hown : ∀ x k, env.cells.lookup x = some k → k ∈ c.X)
    (hI : ∀ a ∈ O, a ∈ c.fs ++ c.X) (hO : env.locals ∈ O) (hW : ∀ x ∈ W, ∀ k, env.cells.lookup x = some k → k ∈ O) (tk0 : Nat) (q : Run G true n Z (c.addX its) env fr S1 (ShT s S1.h tk0)) (A1 : Acc (c.addX its) S1 ys)
    (hIt : It 0 S1) (Wk : Walk G (c.addX its) its it target ds P It) {zs : List β} {fr' : Fr} {σ' : List AO} (hm : lcEach P tgt ok test em ds fr S1.σ = some (zs, fr', σ')) (hlen : Good (ys ++ zs))
    {R : Result → Shared → Prop} (hR : ∀ (S' : Gs) tk, S'.σ = σ' → Heaps G c S' → ExtEnd c its O2 S1 S' → EnvOk G c env fr' S' → Acc c S' (ys ++ zs) → R (.ok .next) (ShT s S'.h tk)) :
    codeAny (model G.prog G.w) c.A (.compLoop e depth (.ref it) acc env) R (ShT s S1.h tk0) := by
  have hIX2 := mem_addX (its := its) hI2
  refine codeAny_compLoop_all p heq hq hw hden (CInv ds.length (CJ G c its env O2 S1 Acc It ys zs (lcEach P tgt ok test em) ds (fr', σ')) s) ?_ (ds.length + 1) (.mk 0 [] fr S1 tk0 (Nat.zero_le _) ⟨hIt, q.H, q.V, ExtO.refl _ _ _, (List.append_nil ys).symm ▸ A1, zs, rfl, hm⟩)
  intro k s' K F E hK hF hJ
  cases hJ with
  | mk i ys1 fr1 S' tk hile hJ =>
  refine xAAA hJ fun hIi H' V' hJ => ?_
  refine xAA hJ fun XX hA hJ => ?_
  refine xEA hJ fun zs1 hz hmod => ?_
  by_cases hlt : i < ds.length
  · rw [List.drop_eq_getElem_cons hlt] at hmod
    refine lcEach_consE hmod fun hP hok b σt hte kf kt => ?_
    clear hmod
    refine item_postC ?_
    refine Wk.item i S' (ShT s S'.h tk) ds[i] _ _ hIi H' rfl hP (List.getElem?_eq_getElem hlt) fun v h' tk' hk hlive hI' rv => ?_
    have H1' := H'.turnX ap hk hlive
    have V1' := EnvOk.turnX' ap hloc hown V' hk
    have stab : ∀ {Sb : Gs}, ExtO (c.addX its) O2 { S' with h := h' } Sb → It (i + 1) Sb := fun {Sb} xab => by
      refine Wk.stable _ _ Sb hI' xab.adr (xab.pres hIX2) xab.volLe fun b hb o e => ?_
      exact (xab.keep b o e (H1'.xs b (List.mem_append_left _ hb)).2.1 (fun z => ap.off b hb (hI2 b z))).elim id fun z => absurd (List.mem_append_left _ z.1) (ap.off b hb)
    have XT : ∀ {Sb : Gs}, ExtO (c.addX its) O2 { S' with h := h' } Sb → ExtO c (its ++ O2) S1 Sb := fun x => (XX.turnIn hk hlive).trans (x.cx.wide fun a ha => List.mem_append_right _ ha)
    have hlt' : ds.length + 1 - (i + 1) < ds.length + 1 - i := by omega
    refine compBody_ok (c := c.addX its) (fun a ha => List.mem_append_right _ (hA0 a ha)) hacc hT hS hsub hE.addX (mem_addX hI) hO hW ⟨q.scope, q.room, q.units, q.hand, rfl, H1', V1'⟩ rv hok (hacc.turn _ _ _ _ h' hA0 ap hA hk) hte (fun hb S3 tk3 e3 H3 x3 V3 A3 => ?_) fun hb => ?_
    · exact hK _ _ hlt' (.mk (i + 1) ys1 _ S3 tk3 hlt ⟨stab x3, H3, V3, XT x3, A3, zs1, hz, e3.symm ▸ kf hb⟩)
    · refine xEEEA (kt hb) fun ye fre σe hee hzr => ?_
      refine xEA hzr fun zr hr hz2 => ?_
      have hz3 : (ys1 ++ ye) ++ zr = zs := by rw [List.append_assoc, hz2, hz]
      refine ⟨ye, fre, σe, hee, hgood _ zr ?_, fun S3 tk3 e3 H3 x3 V3 A3 => hK _ _ hlt' (.mk (i + 1) (ys1 ++ ye) _ S3 tk3 hlt ⟨stab x3, H3, V3, XT x3, List.append_assoc ys ys1 ye ▸ A3, zr, hz3, e3.symm ▸ hr⟩)⟩
      rw [List.append_assoc, List.append_assoc, hz2, hz]
      exact hlen
  · have hi' : i = ds.length := Nat.le_antisymm hile (Nat.le_of_not_lt hlt)
    subst hi'
    rw [List.drop_length] at hmod
    refine lcEach_nilE hmod fun hP e1 e2 => ?_
    refine Wk.done S' (ShT s S'.h tk) _ _ hIi H' rfl hP fun h' tk' hk => hF _ ?_
    rw [e1, List.append_nil] at hz
    subst hz
    rw [p2A e2] at *
    exact hR { S' with h := h' } tk' (p2B e2).symm (H'.endX ap hk) (XX.endIn hk) (EnvOk.dropX' hloc hown (EnvOk.turnX' ap hloc hown V' hk)) (hacc.drop _ _ _ _ (hacc.turn _ _ _ _ h' hA0 ap hA hk))
end
end Mine
end
section
open PySem PySem.W PyProof.Rows
namespace Mine

section
variable {G : Amb} {c : Cx} {S : Gs} {env : Env} {fr : Fr}

/-- one object set apart turns -/
theorem Heaps.atX (H : Heaps G c S) {a : Addr} (ha : a ∈ c.X) (hfs : a ∉ c.fs) {h' : Heap} (hs : Heap.SameBut a S.h h') (live : ∃ o, h'.get? a = some o) : Heaps G c { S with h := h' } := by
  (refine xAA (H.xs a ha) fun _ hreg hb => ?_)
  have hv : a ∈ vol c S := List.mem_append_right _ (List.mem_append_right _ ha)
  have off : ∀ L, L ≠ a → ∀ o, S.h.get? L = some o → h'.get? L = some o := fun L hL o e => hs.extBut L o hL e
  refine ⟨H.ok, fun b o e => off b (fun q => by rw [q, hb] at e; exact nnS e) o (H.stays b o e), H.frames, ?_, fun L hL => ?_, fun L hL => ?_, H.len, fun n p o h1 h2 => ?_, H.new, H.nodup⟩
  · exact funFrames_of H.funs fun L hL o e hd => ⟨o, off L (fun q => hfs (q ▸ hL)) o e, hd⟩
  · (refine xA (H.fdict L hL) fun q0z r => ?_; refine xEEEA q0z fun o es m e hd => ?_)
    exact ⟨⟨o, es, m, off L (fun q => hfs (q ▸ hL)) o e, hd⟩, r⟩
  · (refine xA (H.xs L hL) fun q0z r => ?_; refine xE q0z fun o e => ?_)
    by_cases q : L = a
    · subst q; exact ⟨live, r⟩
    · exact ⟨⟨o, off L q o e⟩, r⟩
  · exact ORep.mono (fun b o hn e => off b (fun q => hn (q ▸ hv)) o e) (.refl _) (.of_sub _ fun _ h => h) (fun b hb o e => off b (fun q => hreg (q ▸ reg_mem h1 h2 b hb)) o e) (H.store n p o h1 h2)
theorem Rv.atX (r : Rv G c S v d) {a : Addr} (ha : a ∈ c.X) {h' : Heap} (hs : Heap.SameBut a S.h h') : Rv G c { S with h := h' } v d :=
  VR.mono (fun b o hn e => hs.extBut b o (fun q => hn (q ▸ List.mem_append_right _ (List.mem_append_right _ ha))) e) (.refl _) (.of_sub _ fun _ h => h) r
theorem Rvs.atX (r : Rvs G c S v d) {a : Addr} (ha : a ∈ c.X) {h' : Heap} (hs : Heap.SameBut a S.h h') : Rvs G c { S with h := h' } v d :=
  VRs.mono (fun b o hn e => hs.extBut b o (fun q => hn (q ▸ List.mem_append_right _ (List.mem_append_right _ ha))) e) (.refl _) (.of_sub _ fun _ h => h) r
theorem EnvOk.atX (V : EnvOk G c env fr S) {a : Addr} (ha : a ∈ c.X) (hl : a ≠ env.locals) (hk : ∀ x k, env.cells.lookup x = some k → a ≠ k) {h' : Heap} (hs : Heap.SameBut a S.h h') : EnvOk G c env fr { S with h := h' } := by
  have off : ∀ L, L ≠ a → ∀ o, S.h.get? L = some o → h'.get? L = some o := fun L hL o e => hs.extBut L o hL e
  refine ⟨V.kind, V.glob, V.blt, V.frame, V.loc, ?_, fun y hy => ?_, V.own, V.apart⟩
  · (refine xEA V.vars fun m q0z hm => ?_; refine xEEEA q0z fun o es ep ho r => ?_)
    exact ⟨m, ⟨o, es, ep, off _ (fun q => hl q.symm) _ ho, r⟩, fun y d hd hk => let ⟨v, hv, r⟩ := hm y d hd hk; ⟨v, hv, r.atX ha hs⟩⟩
  · (refine xEEAA (V.cell y hy) fun b v0 hb q0z hd => ?_; refine xEA q0z fun o ho r => ?_)
    exact ⟨b, v0, hb, ⟨o, off _ (fun q => hk y b hb q.symm) _ ho, r⟩, fun d q => let ⟨v, hv, r⟩ := hd d q; ⟨v, hv, r.atX ha hs⟩⟩
theorem ExtO.atX (H : Heaps G c S) {a : Addr} {O : List Addr} (ha : a ∈ O) {h' : Heap} (hs : Heap.SameBut a S.h h') (live : ∃ o, h'.get? a = some o) : ExtO c O S { S with h := h' } :=
  ⟨.refl _, fun b o e _ ho => .inl (hs.extBut b o (fun q => ho (q ▸ ha)) e), fun _ h => .inl h, fun b o e => by
    by_cases q : b = a
    · subst q; exact live
    · exact ⟨o, hs.extBut b o q e⟩⟩
end

/-- a list under way -/
noncomputable def AccL (G : Amb) (a : Addr) (c : Cx) (S : Gs) (ys : List D) : Prop := a ∉ c.fs ∧ ∃ n vs, S.h.get? a = some { cls := .type "list", dict := none, data := .seq vs n, slots := #[] } ∧ Rvs G c S vs.toList ys

theorem Accu.lst {G : Amb} {a : Addr} {O : List Addr} (hO : a ∉ O) : Accu G O [a] (AccL G a) where
  ext := fun c S S' ys hA H hI h x => by
    (refine xAEEA h fun hf n vs h3 h4 => ?_; try clear h)
    refine ⟨hf, n, vs, ?_, h4.extO x hI⟩
    rcases x.keep a _ h3 (H.xs a (hA a (.head _))).2.1 hO with q | ⟨hf', _⟩
    · exact q
    · exact absurd hf' hf
  add := fun c its S S' ys hA H h x hi => by
    (refine xAEEA h fun hf n vs h3 h4 => ?_; try clear h)
    refine ⟨hf, n, vs, ?_, VRs.mono x.pres x.adr (fun a ha => (vol_addX.mp ha).elim (fun q => .inr (hi a q)) (x.volLe a)) h4⟩
    rcases x.keep a _ h3 (H.xs a (hA a (.head _))).2.1 with q | ⟨hf', _⟩
    · exact q
    · exact absurd hf' hf
  drop := fun c its S ys h => by
    (refine xAEEA h fun hf n vs h3 h4 => ?_; try clear h)
    exact ⟨hf, n, vs, h3, h4.dropX⟩
  turn := fun c its S ys h' hA ap h k => by
    (refine xAEEA h fun hf n vs h3 h4 => ?_; try clear h)
    have hn : a ∉ its := fun q => ap.off a q (List.mem_append_right _ (hA a (.head _)))
    exact ⟨hf, n, vs, k a _ hn h3, h4.turnX k⟩

theorem append_isL {prog : Program} {w : World} {A : Around} {E : Value → Shared → Prop} {s : Shared} {l : Addr} {items : Array Value} {n : Nat} {v : Value} {Q : Value → Shared → Prop} (hl : s.heap.get? l = some { cls := .type "list", dict := none, data := .seq items n, slots := #[] }) (hsz : items.size ≤ sizeLine)
    (hQ : ∀ h' n', h'.get? l = some { cls := .type "list", dict := none, data := .seq (items.push v) n', slots := #[] } → Heap.SameBut l s.heap h' → Q .none { s with heap := h' }) : wpAny (model prog w) A (call (.builtin "list.append") [.ref l, v]) Q E s := by
  refine call_meets PySem.F.slot_list_append ⟨_, hl, rfl⟩ PySem.F.entry_list_append (PySem.F.args_list_append_2 _ _) (PySem.list_append l items n v hsz) ⟨hl, hQ _ _ (IsL.update hl fun xs => xs.push v) (Heap.SameBut.update ..)⟩

noncomputable def GoodL (ys : List D) : Prop := ys.length ≤ sizeLine

/-- an element laid down -/
theorem EmT.lst {G : Amb} {n : Nat} {Z : Scope} {env : Env} {a : Addr} {O : List Addr} {c0 : Cx} {elt : Expr} {m : Mo D} (h : Ev G true n Z elt m) (ha : a ∈ c0.X) (hf : a ∉ c0.fs) (hO : a ∈ O) (hl : a ≠ env.locals) (hk : ∀ x k, env.cells.lookup x = some k → a ≠ k) :
    EmT G n Z env O c0 (AccL G a) GoodL (eval elt env >>= fun x => call (.builtin "list.append") [.ref a, x] >>= fun _ => Pure.pure ()) (emOne m) := by
  intro c hc fr S s ys zs fr' σ' q hfs hA hm hg Q E hq
  have haX : a ∈ c.X := by
    rcases List.mem_append.mp (hc a (List.mem_append_right _ ha)) with z | z
    · rw [hfs] at z; exact absurd z hf
    · exact z
  have haf : a ∉ c.fs := by rw [hfs]; exact hf
  unfold emOne at hm
  cases hmm : m fr S.σ with
  | none => rw [hmm] at hm; exact nnS hm
  | some p =>
    obtain ⟨o, σ1⟩ := p
    rw [hmm] at hm
    cases o with
    | exc => exact nnS hm
    | val d =>
      (have k1 := s3A hm; have k2 := s3B hm; have k3 := s3C hm; clear hm; subst k1 k2 k3)
      refine wpAny_bind (h c env fr S s _ _ q hmm _ E (fun b hb v S1 tk e1 H1 x1 r1 => ?_) fun _ _ ho => by exact nVE ho)
      (have k1 := valE hb; clear hb; subst k1)
      (refine xAEEA hA fun _ nn vs h3 h4 => ?_; try clear hA)
      have h3' : S1.h.get? a = some { cls := .type "list", dict := none, data := .seq vs nn, slots := #[] } := by
        rcases x1.keep a _ h3 (q.H.xs a haX).2.1 with q | ⟨hf', _⟩
        · exact q
        · exact absurd hf' haf
      have h4' := h4.ext x1
      have hz : vs.size ≤ sizeLine := by
        have e1 := VRs.length h4
        have e2 : (ys ++ [d]).length ≤ sizeLine := hg
        simp at e1 e2
        omega
      refine wpAny_bind (append_isL (s := (ShT s S1.h tk)) h3' hz fun h' n' hl' hs' => ?_)
      have live : ∃ o, h'.get? a = some o := ⟨_, hl'⟩
      refine wpAny_pure (hq { S1 with h := h' } tk e1 (H1.atX haX haf hs' live) ((x1.o O).trans (ExtO.atX H1 hO hs' live)) ((x1.env q.H q.V).atX haX hl hk hs') ⟨haf, n', vs.push v, hl', ?_⟩)
      rw [Array.toList_push]
      exact VRs.append (h4'.atX haX hs') (VRs.one (r1.atX haX hs'))
end Mine
end
section
open PySem PySem.W PyProof.Rows
namespace Mine

/-- the code of a clause -/
structure Clause (G : Amb) (e : Expr) (depth : Nat) (acc : Value) (env : Env) (target : Expr) (ifs : List Expr) (emit : Sem Unit) (p : Pos) : Prop where
  loop : ∀ it, compTurn e depth it acc env = (PySem.standAt p >>= fun _ => pyNext it >>= fun r => match r with
      | none => pure (.done .next)
      | some v => letOwnedTupleGo target it v >>= fun _ => assign target env v >>= fun _ => testsOf ifs env >>= fun ok => (if ok = true then (emit >>= fun _ => again (.compLoop e depth it acc env)) else again (.compLoop e depth it acc env)))
  quiet : ∀ it, (Code.compLoop e depth it acc env).quiet = true
  under : ∀ (A : Around) it, A.under (.compLoop e depth it acc env) = A
  den : ∀ it, (model G.prog G.w).den (.compLoop e depth it acc env) = (compTurn e depth it acc env).onRaise (fun x => do noteFrame x env; theTreesLotGoes x)
  underS : ∀ (A : Around) it, A.under (.compStart e depth it acc env) = A
  denS : ∀ it, (model G.prog G.w).den (.compStart e depth it acc env) = (compStart e depth it acc env).onRaise (fun x => do noteFrame x env; PySem.standAt theWindowsPlace)
  async : ((clausesOf e)[depth]?).elim false (·.is_async != 0) = false

section
variable {G : Amb} {e : Expr} {depth : Nat} {acc : Value} {env : Env} {target : Expr} {ifs : List Expr} {emit : Sem Unit} {p : Pos}

theorem Clause.start (C : Clause G e depth acc env target ifs emit p) {A : Around} {it : Value} {R : Result → Shared → Prop} {s : Shared} (h0 : codeAny (model G.prog G.w) A (.compLoop e depth it acc env) R s)
    (h : ∀ (Q : Value → Shared → Prop) (E : Value → Shared → Prop), Q it s → wpAny (model G.prog G.w) A (pyIter it) Q E s) : codeAny (model G.prog G.w) A (.compStart e depth it acc env) R s := by
  refine codeAny_of_tree ?_
  rw [C.underS, C.denS]
  refine wpAny_notedAt ?_
  unfold compStart
  rw [C.async]
  show wpAny _ _ (ask >>= _) _ _ s
  refine wpAny_bind (wpAny_askSetting (wpAny_ite ?_))
  split
  · exact wpAny_bind (wpAny_pure (wpAny_pure (And.intro (C.quiet it) h0)))
  · refine wpAny_bind (wpAny_rule ?_)
    cases hq : (clausesOf e)[depth]? with
    | none => exact wpAny_bind (h _ _ (wpAny_pure (And.intro (C.quiet it) h0)))
    | some g => exact wpAny_bind (wpAny_standAt (wpAny_bind (h _ _ (wpAny_pure (And.intro (C.quiet it) h0)))))

theorem EmT.weak {n : Nat} {Z : Scope} {O : List Addr} {c0 c : Cx} {β : Type} {Acc : Cx → Gs → List β → Prop} {Good : List β → Prop} {t : Sem Unit} {em : Em β} (h : EmT G n Z env O c0 Acc Good t em) (hs : ∀ a, a ∈ c0.fs ++ c0.X → a ∈ c.fs ++ c.X) (hf : c.fs = c0.fs) : EmT G n Z env O c Acc Good t em :=
  fun c' hc fr S s ys zs fr' σ' q hfs hA hm hg Q E hq => h c' (fun a ha => hc a (hs a ha)) fr S s ys zs fr' σ' q (hfs.trans hf) hA hm hg Q E hq

/-- a second clause -/
theorem EmT.src {n : Nat} {Z : Scope} {O O2 A0 : List Addr} {c0 : Cx} {β : Type} {Acc : Cx → Gs → List β → Prop} {Good : List β → Prop} {em : Em β} {W : List PySem.Str} {tgt : D → Fr → Fr} {ok : D → Bool} {test : Mo Bool} {iter : Expr} {m : Mo D} {pi : Pos}
    (C : Clause G e depth acc env target ifs emit p) (hf : ∀ x, foldedSetIterable iter env x = Pure.pure x) (hA0 : ∀ a ∈ A0, a ∈ c0.X) (hacc : Accu G O A0 Acc) (hT : AsC G n Z W target tgt ok) (hS : Ts G n Z ifs test) (hsub : ∀ a ∈ O, a ∈ O2) (hI2 : ∀ a ∈ O2, a ∈ c0.fs ++ c0.X)
    (hE : EmT G n Z env O2 c0 Acc Good emit em) (hgood : ∀ a b, Good (a ++ b) → Good a) (hO : env.locals ∈ O) (hW : ∀ x ∈ W, ∀ k, env.cells.lookup x = some k → k ∈ O) (hAf : ∀ a ∈ A0, a ∉ c0.fs) (h : Ev G true n Z iter m) :
    EmT G n Z env O2 c0 Acc Good (eval iter env >>= fun x => PySem.standAt pi >>= fun _ => foldedSetIterable iter env x >>= fun x => PySem.holding [x] (pyIter x) >>= fun it => runOwn (.compStart e depth it acc env) env >>= fun _ => Pure.pure ()) (emSrc (Mo.src m) tgt ok test em) := by
  intro c hc fr S s ys zs fr' σ' q hfs hA hm hg Q E hq
  unfold emSrc at hm
  cases hmm : Mo.src m fr S.σ with
  | none => rw [hmm] at hm; exact nnS hm
  | some pp =>
    obtain ⟨o, σ1⟩ := pp
    rw [hmm] at hm
    cases o with
    | exc => exact nnS hm
    | val x =>
      dsimp only at hm
      unfold Mo.src Mo.bind at hmm
      cases hm1 : m fr S.σ with
      | none => rw [hm1] at hmm; exact nnS hmm
      | some p1 =>
        obtain ⟨o1, σ0⟩ := p1
        rw [hm1] at hmm
        cases o1 with
        | exc => cases hmm
        | val d =>
          (refine xEA (Option.map_eq_some_iff.mp hmm) fun x' hx ex => ?_)
          cases ex
          have hin : ∀ a ∈ O2, a ∈ c.fs ++ c.X := fun a ha => hc a (hI2 a ha)
          have hAc : ∀ a ∈ A0, a ∈ c.X := fun a ha => by
            rcases List.mem_append.mp (hc a (List.mem_append_right _ (hA0 a ha))) with z | z
            · rw [hfs] at z; exact absurd z (hAf a ha)
            · exact z
          refine wpAny_bind (h c env fr S s _ _ q hm1 _ E (fun b hb v S1 tk1 e1 H1 x1 r1 => ?_) fun _ _ ho => by exact nVE ho)
          (have k1 := valE hb; clear hb; subst k1)
          refine wpAny_bind (wpAny_standAt (wpAny_bind (wpAny_of_eq (hf v) (wpAny_bind (wpAny_holding ?_)))))
          refine trIter (target := target) H1 rfl (q.hand rfl) r1 (by rw [e1]; exact hx) _ E (fun b hb a S2 tk2 e2 H2 x2 r2 => ?_) fun _ _ ho => by exact nVE ho
          (have k1 := valE hb; clear hb; subst k1)
          (refine xEEEAAAA r2 fun it its It q0z hnew HX hIt Wk => ?_; try clear r2; subst q0z)
          refine wpAny_bind (wpAny_runOwn ?_)
          have hnewS : ∀ a ∈ its, S.h.get? a = none := fun a ha => by
            cases e' : S.h.get? a with
            | none => rfl
            | some o => (refine xE (x1.live a o e') fun o' e'' => ?_); rw [hnew a ha] at e''; exact nnS e''
          have ap : Apart c its := ⟨fun a ha hm' => by
            rcases List.mem_append.mp hm' with z | z
            · (refine xE (q.H.fs_some z) fun o ho => ?_); rw [hnewS a ha] at ho; exact nnS ho
            · (refine xE ((q.H.xs a z).1) fun o ho => ?_); rw [hnewS a ha] at ho; exact nnS ho⟩
          have q2 : Run G true n Z (c.addX its) env fr S2 (ShT s S2.h tk2) := ⟨q.scope, q.room, q.units, q.hand, rfl, HX, q.V.addX q.H (x1.trans x2) hnewS⟩
          have A2 := hacc.add c its S S2 ys hAc q.H hA (x1.trans x2) hnewS
          have loop : codeAny (model G.prog G.w) c.A (.compLoop e depth (.ref it) acc env) (fun r s' => match r with | .ok f => wpAny G.M c.A (Pure.pure ()) Q E s' | .error e => cameBackBy (model G.prog G.w) c.A env E e s') (ShT s S2.h tk2) := by
            refine compLoop_ok p (C.loop _) (C.quiet _) (C.under _ _) (C.den _) hAc hacc hT hS hsub hin (hE.weak hc hfs) hgood ap q.V.loc q.V.own (fun a ha => hin a (hsub a ha)) hO hW tk2 q2 A2 hIt Wk (by rw [e2, e1]; exact hm) hg fun S' tk' e' H' xe V' A' => ?_
            exact wpAny_pure (hq S' tk' e' H' (ExtO.join ((x1.trans x2).o O2) hnewS (fun a ha => .inl ha) xe) V' A')
          exact C.start loop fun Q' E' hQ => Wk.self 0 S2 _ Q' E' hIt rfl hQ
end
end Mine
end
section
open PySem PySem.W PyProof.Rows
namespace Mine

noncomputable def relab (scope Z : Scope) : Scope := { scope with names := scope.names.map fun (n, k) => if (k == .free && Z.kind == .function && Z.names.lookup n == some .cell) then (n, .cell) else (n, k) }
theorem relabel_eq {scope Z : Scope} {env : Env} (h : env.scope = Z) : relabel scope env = relab scope Z := by subst h; rfl

theorem lookup_relab {Z : Scope} : ∀ {names : List (PySem.Str × NameKind)} {x : PySem.Str},
    (names.map fun (n, k) => if (k == NameKind.free && Z.kind == .function && Z.names.lookup n == some .cell) then (n, NameKind.cell) else (n, k)).lookup x = (names.lookup x).map fun k => if (k == NameKind.free && Z.kind == .function && Z.names.lookup x == some .cell) then NameKind.cell else k
  | [], _ => rfl
  | (n, k) :: r, x => by
    have ih := lookup_relab (Z := Z) (names := r) (x := x)
    show List.lookup x ((if (k == NameKind.free && Z.kind == .function && Z.names.lookup n == some .cell) = true then (n, NameKind.cell) else (n, k)) :: _) = _
    by_cases hx : x = n
    · subst hx
      rw [List.lookup_cons_self, Option.map_some]
      split <;> rw [List.lookup_cons_self]
    · have hx' : (x == n) = false := by simpa using hx
      by_cases hc : (k == NameKind.free && Z.kind == .function && Z.names.lookup n == some .cell) = true
      · rw [if_pos hc]; simp only [List.lookup_cons, hx']; exact ih
      · rw [if_neg hc]; simp only [List.lookup_cons, hx']; exact ih

theorem closure_ok {env : Env} : ∀ (names : List (PySem.Str × NameKind)) (cs : List (PySem.Str × Addr)), (∀ x ∈ names, x.2 = .free → (env.cells.lookup x.1).isSome = true) →
    ∃ cl, (forIn names cs fun (x : PySem.Str × NameKind) (r : List (PySem.Str × Addr)) => (if x.2 == .free then (do let a ← PySem.cellOf env x.1; pure (ForInStep.yield ((x.1, a) :: r))) else pure (ForInStep.yield r) : Sem (ForInStep (List (PySem.Str × Addr))))) = pure (cl ++ cs) ∧
      (∀ x k, cl.lookup x = some k → env.cells.lookup x = some k) ∧ ∀ x, (x, NameKind.free) ∈ names → (cl.lookup x).isSome = true
  | [], cs, _ => ⟨[], rfl, (fun _ _ e => by exact nnS e), fun _ h => by cases h⟩
  | (n, k) :: r, cs, h => by
    rw [List.forIn_cons]
    by_cases hk : k = .free
    · subst hk
      (refine xE (Option.isSome_iff_exists.mp (h (n, .free) (.head _) rfl)) fun a ha => ?_)
      (refine xEAA (closure_ok (env := env) r ((n, a) :: cs) fun x hx => h x (.tail _ hx)) fun cl h1 h2 h3 => ?_)
      refine ⟨cl ++ [(n, a)], ?_, fun x k' hl => ?_, fun x hx => ?_⟩
      · have e1 : PySem.cellOf env n = pure a := by unfold PySem.cellOf; rw [ha]
        show ((do let a ← PySem.cellOf env n; pure (ForInStep.yield ((n, a) :: cs)) : Sem _) >>= _) = _
        rw [e1]
        show (forIn r ((n, a) :: cs) _ : Sem _) = _
        rw [List.append_assoc]
        exact h1
      · rw [List.lookup_append] at hl
        cases e : cl.lookup x with
        | some k2 => rw [e] at hl; (have k1 := s1E hl; clear hl; subst k1); exact h2 x _ e
        | none =>
          rw [e, Option.none_or, List.lookup_cons] at hl
          by_cases hx : x = n
          · subst hx; rw [beq_self_eq_true] at hl; (have k1 := s1E hl; clear hl; subst k1); exact ha
          · have hx' : (x == n) = false := by simpa using hx
            rw [hx'] at hl; exact nnS hl
      · rw [List.lookup_append]
        rcases List.mem_cons.mp hx with e | hx
        · cases e
          rw [List.lookup_cons_self]
          cases List.lookup n cl <;> rfl
        · (refine xE (Option.isSome_iff_exists.mp (h3 x hx)) fun k2 e => ?_)
          rw [e]; rfl
    · have hk' : (k == NameKind.free) = false := by simpa using hk
      (refine xEAA (closure_ok (env := env) r cs fun x hx => h x (.tail _ hx)) fun cl h1 h2 h3 => ?_)
      refine ⟨cl, ?_, h2, fun x hx => ?_⟩
      · show ((if (k == NameKind.free) = true then _ else pure (ForInStep.yield cs) : Sem _) >>= _) = _
        rw [hk']
        exact h1
      · rcases List.mem_cons.mp hx with e | hx
        · (have k1 := p2A e; have k2 := p2B e; clear e; subst k1 k2); exact absurd rfl hk
        · exact h3 x hx
theorem closureFor_ok {scope : Scope} {env : Env} (h : ∀ x ∈ scope.names, x.2 = .free → (env.cells.lookup x.1).isSome = true) :
    ∃ cl, closureFor scope env = pure cl ∧ (∀ x k, cl.lookup x = some k → env.cells.lookup x = some k) ∧ ∀ x, (x, NameKind.free) ∈ scope.names → (cl.lookup x).isSome = true := by
  (refine xEA (closure_ok (env := env) scope.names [] h) fun cl h1 h2 => ?_)
  refine ⟨cl, ?_, h2⟩
  rw [List.append_nil] at h1
  unfold closureFor
  show (forIn scope.names [] _ >>= fun cs => pure cs) = _
  rw [bind_pure, ← h1]

theorem cellsFrom_append : ∀ (names : List (PySem.Str × NameKind)) (n : Nat) (a b : List (PySem.Str × Addr)), cellsFrom n names (a ++ b) = cellsFrom n names a ++ b
  | [], _, _, _ => rfl
  | (x, k) :: r, n, a, b => by
    unfold cellsFrom
    split
    · exact cellsFrom_append r (n + 1) ((x, n) :: a) b
    · exact cellsFrom_append r n a b
theorem cellsFrom_mem : ∀ (names : List (PySem.Str × NameKind)) (n : Nat) (a : List (PySem.Str × Addr)) {x : PySem.Str} {k : Addr}, (x, k) ∈ cellsFrom n names a → (x, k) ∈ a ∨ (x, NameKind.cell) ∈ names
  | [], _, _, _, _, h => .inl h
  | (y, kd) :: r, n, a, x, k, h => by
    unfold cellsFrom at h
    split at h
    · rename_i hk
      rcases cellsFrom_mem r _ _ h with q | q
      · rcases List.mem_cons.mp q with e | q
        · (have k1 := p2A e; have k2 := p2B e; clear e; subst k1 k2)
          rw [beq_iff_eq] at hk
          subst hk
          exact .inr (.head _)
        · exact .inl q
      · exact .inr (.tail _ q)
    · rcases cellsFrom_mem r _ _ h with q | q
      · exact .inl q
      · exact .inr (.tail _ q)

theorem wpAny_compEnv {M : Model} {A : Around} {E : Value → Shared → Prop} {s : Shared} {scope : Scope} {env : Env} {cl : List (PySem.Str × Addr)} {Q : Env → Shared → Prop}
    (hq : Q { scope, locals := s.heap.objs.size, globals := env.globals, cells := cellsFrom (s.heap.objs.size + 1) scope.names cl, qual := env.qual, func := none, code := env.code, frame := env.frame, builtins := env.builtins }
      { s with heap := pushCells (s.heap.push { cls := .type "dict", data := .dict #[] }) scope.names }) : wpAny M A (newFunctionEnv scope env.globals cl [] env.qual none .none (some env)) Q E s := by
  simp only [newFunctionEnv, Option.isSome_some, if_true]
  refine wpAny_bind (wpAny_alloc ?_)
  refine wpAny_bind (wpAny_layCells _ (fun name kind cells => by cases hkc : kind == NameKind.cell <;> simp [hkc]) _ _ _ _ ?_)
  rw [show ({ s with heap := s.heap.push { cls := .type "dict", data := .dict #[] } } : Shared).heap.objs.size = s.heap.objs.size + 1 from Heap.size_push ..]
  exact wpAny_bind (wpAny_pure (wpAny_pure hq))
noncomputable def frIn (scope : Scope) (fr : Fr) : Fr := fun x => if scope.names.lookup x = some .free then fr x else none

/-- what stands behind a comprehension's loop -/
structure CompMid (G : Amb) (c : Cx) (S : Gs) {β : Type} (Acc : Cx → Gs → List β → Prop) (zs : List β) (σ' : List AO) (D0 C : Addr) (its : List Addr) (S' : Gs) : Prop where
  H : Heaps G (c.addX its) S'
  ap : Apart c its
  there : D0 ∈ its
  thereC : C ∈ its
  ne : D0 ≠ C
  acc : Acc (c.addX its) S' zs
  ext : Ext c S S'
  new : ∀ a ∈ its, S.h.get? a = none
  σ : S'.σ = σ'
  big : 1 < D0

noncomputable def goodScope (scope Z : Scope) (W : List PySem.Str) : Bool :=
  scope.kind == .function && decide ((scope.names.map (·.1)).Nodup) && (scope.names.all fun x => x.2 != .free || Z.names.lookup x.1 == some .cell || Z.names.lookup x.1 == some .free) && (W.all fun x => scope.names.lookup x == some .cell) &&
    (scope.names.all fun x => x.2 != .local || scope.names.lookup x.1 == some .local)

theorem lookup_of_mem {names : List (PySem.Str × NameKind)} (hn : (names.map (·.1)).Nodup) {x : PySem.Str} {k : NameKind} (h : (x, k) ∈ names) : names.lookup x = some k := by
  induction names with
  | nil => cases h
  | cons p r ih =>
    obtain ⟨y, ky⟩ := p
    (refine xA (List.nodup_cons.mp (show (y :: r.map (·.1)).Nodup from hn)) fun h1 h2 => ?_)
    rcases List.mem_cons.mp h with e | hr
    · (have k1 := p2A e; have k2 := p2B e; clear e; subst k1 k2); exact List.lookup_cons_self
    · have : x ≠ y := fun e => h1 (List.mem_map.mpr ⟨(x, k), hr, e⟩)
      rw [List.lookup_cons, show (x == y) = false by simpa using this]
      exact ih h2 hr

noncomputable abbrev addrs (l : List (PySem.Str × Addr)) : List Addr := l.map fun p => p.2

theorem trComp {G : Amb} {c : Cx} {S : Gs} {s : Shared} {env : Env} {fr : Fr} {n : Nat} {Z scope : Scope} {e : Expr} {g : Comprehension} {gs : List Comprehension} {pos p : Pos} {newAcc : Sem Value} {accObj : Obj} {emit : Value → Env → Sem Unit} {W : List PySem.Str}
    {β : Type} {Acc : Addr → Cx → Gs → List β → Prop} {Good : List β → Prop} {em : Em β} {tgt : D → Fr → Fr} {ok : D → Bool} {test : Mo Bool} {m : Mo D} (q : Run G true n Z c env fr S s)
    (hcl : clausesOf e = g :: gs) (hs : ∀ env x, foldedSetIterable g.iter env x = Pure.pure x) (hsc : goodScope scope Z W = true)
    (hacc0 : accObj.isFreed = false) (hnew : ∀ (M : Model) (A : Around) (Q : Value → Shared → Prop) E (s : Shared), Q (.ref s.heap.objs.size) { s with heap := s.heap.push accObj } → wpAny M A newAcc Q E s)
    (hA : ∀ (D0 : Addr) (O : List Addr), D0 ∉ O → Accu G O [D0] (Acc D0)) (hA0 : ∀ (D0 : Addr) (c : Cx) (S : Gs), D0 ∉ c.fs → S.h.get? D0 = some accObj → Acc D0 c S [])
    (hE : ∀ (D0 : Addr) (O : List Addr) (c0 : Cx) (cenv : Env), D0 ∈ c0.X → D0 ∉ c0.fs → D0 ∈ O → D0 ≠ cenv.locals → (∀ x k, cenv.cells.lookup x = some k → D0 ≠ k) → (∀ a ∈ O, a ∈ c0.fs ++ c0.X) → cenv.locals ∈ O → (∀ x ∈ W, ∀ k, cenv.cells.lookup x = some k → k ∈ O) → cenv.locals ≠ D0 → (∃ O1 : List Addr, D0 ∉ O1 ∧ (∀ a ∈ O1, a ∈ O) ∧ cenv.locals ∈ O1 ∧ ∀ x ∈ W, ∀ k, cenv.cells.lookup x = some k → k ∈ O1) →
      EmT G n (relab scope Z) cenv O c0 (Acc D0) Good (emit (.ref D0) cenv) em)
    (hgood : ∀ a b, Good (a ++ b) → Good a) (hT : AsC G n (relab scope Z) W g.target tgt ok) (hTs : Ts G n (relab scope Z) g.ifs test) (hC : ∀ (D0 : Addr) (cenv : Env), Clause G e 0 (.ref D0) cenv g.target g.ifs (emit (.ref D0) cenv) p)
    (hi : Ev G true n Z g.iter m) {d : D} {σ1 : List AO} (hm : m fr S.σ = some (.val d, σ1)) {x : Src} (hx : srcD d σ1 = some x) {zs : List β} {fr' : Fr} {σ' : List AO} (hl : lcEach x.P tgt ok test em x.ds (frIn scope fr) σ1 = some (zs, fr', σ')) (hg : Good zs)
    {use : Option (Value → Sem Unit)} {Q : Value → Shared → Prop} {E : Value → Shared → Prop} (hq : ∀ (D0 C : Addr) (its : List Addr) (S' : Gs) tk m', CompMid G c S (Acc D0) zs σ' D0 C its S' → S'.h.Ns C m' → compPost G.M c.A E use Q (.ref D0) C (.ok .next) (ShT s S'.h tk)) :
    wpAny G.M c.A (comprehension e scope env pos newAcc false (eval g.iter env) use) Q E s := by
  unfold goodScope at hsc
  simp only [Bool.and_eq_true, decide_eq_true_eq, beq_iff_eq] at hsc
  (refine xA hsc fun q0z hloc => ?_; try clear hsc; refine xA q0z fun q1z hWc => ?_; refine xA q1z fun q2z hfree => ?_; refine xA q2z fun hkind hnd => ?_)
  have hfree' : ∀ y ∈ scope.names, y.2 = .free → env.kindOf y.1 = some .cell ∨ env.kindOf y.1 = some .free := fun y hy hk => by
    have := List.all_eq_true.mp hfree y hy
    rw [hk] at this
    simp only [bne_self_eq_false, Bool.false_or, Bool.or_eq_true, beq_iff_eq] at this
    rw [kindOf_scope q.scope]; exact this
  have cellOk : ∀ {S' : Gs} {y}, EnvOk G c env fr S' → (env.kindOf y = some .cell ∨ env.kindOf y = some .free) → (env.cells.lookup y).isSome = true := fun V hy => by
    (refine xEEA (V.cell _ hy) fun k _ hk _ => ?_)
    rw [hk]; rfl
  (refine xEAA (closureFor_ok (scope := scope) (env := env) fun y hy hk => cellOk q.V (hfree' y hy hk)) fun cl hclos hcl1 hcl2 => ?_)
  refine wpAny_comprehension_free (use := use) hcl (hs env) hclos hkind (fun y hy hk => ?_) ?_
  · have := List.all_eq_true.mp hloc y hy
    rw [hk] at this
    simpa using this
  refine hi c env fr S s _ _ q hm _ E (fun b hb v S1 tk1 e1 H1 x1 r1 => ?_) fun _ _ ho => by exact nVE ho
  (have k1 := valE hb; clear hb; subst k1)
  refine trIterRaw (s := (ShT s S1.h tk1)) H1 rfl r1 (by rw [e1]; exact hx) fun o hof hIt => ?_
  refine hnew _ _ _ _ _ ?_
  refine wpAny_compEnv ?_
  have sz2 : (S1.h.push o).objs.size = S1.h.objs.size + 1 := Heap.size_push ..
  have sz3 : ((S1.h.push o).push accObj).objs.size = S1.h.objs.size + 2 := by rw [Heap.size_push, sz2]
  have sz4 : (((S1.h.push o).push accObj).push { cls := .type "dict", data := .dict #[] }).objs.size = S1.h.objs.size + 3 := by rw [Heap.size_push, sz3]
  show codeAny G.M c.A (.compStart e 0 (.ref S1.h.objs.size) (.ref (S1.h.push o).objs.size) _) _ _
  dsimp only
  rw [sz2, sz3]
  have eD : (S1.h.push o).objs.size = S1.h.objs.size + 1 := sz2
  generalize hh4 : pushCells (((S1.h.push o).push accObj).push { cls := .type "dict", data := .dict #[] }) scope.names = h4
  have cok := cellsFrom_ok scope.names (((S1.h.push o).push accObj).push { cls := .type "dict", data := .dict #[] }) (S1.h.objs.size + 3) [] ⟨fun _ _ hm => (nomatch hm), List.Pairwise.nil⟩ (by rw [sz4]; exact Nat.le_refl _)
  rw [sz4, hh4] at cok
  have pk : ∀ b x, (((S1.h.push o).push accObj).push { cls := .type "dict", data := .dict #[] }).get? b = some x → h4.get? b = some x := fun b x e => by rw [← hh4]; exact pushCells_keeps _ _ b x e
  have gC : h4.Ns (S1.h.objs.size + 2) (fun _ => none) := by
    have := (Heap.Ns.new ((S1.h.push o).push accObj) (.type "dict")).keeps pk
    rw [sz3] at this; exact this
  have gD : h4.get? (S1.h.objs.size + 1) = some accObj := pk _ _ (Heap.get?_push_of_some _ (by rw [← sz2]; exact Heap.get?_push_size _ hacc0))
  have gI : h4.get? S1.h.objs.size = some o := pk _ _ (Heap.get?_push_of_some _ (Heap.get?_push_of_some _ (Heap.get?_push_size _ hof)))
  have k4 : ∀ b x, S1.h.get? b = some x → h4.get? b = some x := fun b x e => pk _ _ (Heap.get?_push_of_some _ (Heap.get?_push_of_some _ (Heap.get?_push_of_some _ e)))
  have hcells : cellsFrom (S1.h.objs.size + 2 + 1) scope.names cl = cellsFrom (S1.h.objs.size + 3) scope.names [] ++ cl := cellsFrom_append scope.names (S1.h.objs.size + 3) [] cl
  rw [hcells]
  generalize hnw : cellsFrom (S1.h.objs.size + 3) scope.names [] = new at cok
  have nwlt : ∀ y k, (y, k) ∈ new → S1.h.objs.size + 3 ≤ k := fun y k h => (cok.empty y k h).2
  have nwcell : ∀ y k, (y, k) ∈ new → h4.IsCell k none := fun y k h => (cok.empty y k h).1
  have nwname : ∀ y k, (y, k) ∈ new → (y, NameKind.cell) ∈ scope.names := fun y k h => by
    rw [← hnw] at h
    rcases cellsFrom_mem _ _ _ h with q | q
    · cases q
    · exact q
  have nwsome : ∀ y, scope.names.lookup y = some .cell → (new.lookup y).isSome = true := fun y hy => by rw [← hnw]; exact cellsFrom_some _ _ _ (.inl hy)
  have fr1 : ∀ a, S1.h.objs.size ≤ a → S1.h.get? a = none := fun a ha => Heap.get?_none_of_le ha
  have hnewAll : ∀ a ∈ S1.h.objs.size :: (S1.h.objs.size + 1) :: (S1.h.objs.size + 2) :: addrs new, S1.h.get? a = none ∧ ∃ x, h4.get? a = some x := fun a ha => by
    rcases List.mem_cons.mp ha with rfl | ha
    · exact ⟨fr1 _ (Nat.le_refl _), o, gI⟩
    rcases List.mem_cons.mp ha with rfl | ha
    · exact ⟨fr1 _ (by omega), _, gD⟩
    rcases List.mem_cons.mp ha with rfl | ha
    · (refine xEEEA gC fun x _ _ hx _ => ?_; try clear gC)
      exact ⟨fr1 _ (by omega), x, hx⟩
    · (refine xEA (List.mem_map.mp ha) fun q0z hm q1z => ?_; obtain ⟨y, k⟩ := q0z; subst q1z)
      (refine xEA (nwcell y k hm) fun x hx _ => ?_)
      exact ⟨fr1 _ (Nat.le_trans (by omega) (nwlt y k hm)), x, hx⟩
  (refine xA (H1.addX (its := S1.h.objs.size :: (S1.h.objs.size + 1) :: (S1.h.objs.size + 2) :: addrs new) k4 hnewAll) fun H4 x4 => ?_)
  have V1 := x1.env q.H q.V
  have V4 : EnvOk G (c.addX (S1.h.objs.size :: (S1.h.objs.size + 1) :: (S1.h.objs.size + 2) :: addrs new)) { scope := relabel scope env, locals := S1.h.objs.size + 2, globals := env.globals, cells := new ++ cl, qual := env.qual, func := none, code := env.code, frame := env.frame, builtins := env.builtins } (frIn scope fr) { S1 with h := h4 } := by
    have lk : ∀ y k, (new ++ cl).lookup y = some k → (y, k) ∈ new ∨ env.cells.lookup y = some k := fun y k h => by
      rw [List.lookup_append] at h
      cases e : new.lookup y with
      | some k2 => rw [e] at h; (have k1 := s1E h; clear h; subst k1); exact .inl (mem_of_lookup e)
      | none => rw [e, Option.none_or] at h; exact .inr (hcl1 y k h)
    refine ⟨hkind, V1.glob, V1.blt, V1.frame, List.mem_append_right _ (List.mem_append_left _ (.tail _ (.tail _ (.head _)))), ⟨_, gC, fun y dy hy hky => ?_⟩, fun y hy => ?_, fun y k hk => ?_, fun y z k hy hz => ?_⟩
    · exfalso
      unfold frIn at hy
      split at hy
      · rename_i hfr
        have : (relabel scope env).names.lookup y = some .local := hky
        rw [relabel_eq rfl] at this
        unfold relab at this
        rw [lookup_relab, hfr] at this
        simp only [Option.map_some, Option.some.injEq] at this
        split at this <;> cases this
      · exact nnS hy
    · have hy' : ∃ k0, scope.names.lookup y = some k0 ∧ (k0 = .cell ∨ k0 = .free) := by
        have hy2 : (relabel scope env).names.lookup y = some .cell ∨ (relabel scope env).names.lookup y = some .free := hy
        rw [relabel_eq rfl] at hy2
        unfold relab at hy2
        rw [lookup_relab] at hy2
        cases e : scope.names.lookup y with
        | none => rw [e] at hy2; rcases hy2 with h | h <;> exact nnS h
        | some k0 =>
          refine ⟨k0, rfl, ?_⟩
          rw [e] at hy2
          cases k0 <;> first | exact .inl rfl | exact .inr rfl | (rcases hy2 with h | h <;> cases h)
      (refine xEA hy' fun k0 hk0 hcf => ?_; try clear hy')
      rcases hcf with rfl | rfl
      · (refine xE (Option.isSome_iff_exists.mp (nwsome y hk0)) fun k hk => ?_)
        refine ⟨k, none, ?_, nwcell y k (mem_of_lookup hk), fun d hd => ?_⟩
        · show (new ++ cl).lookup y = some k
          rw [List.lookup_append, hk]; rfl
        · unfold frIn at hd
          rw [hk0, if_neg (by decide)] at hd; exact nnS hd
      · have hmem := mem_of_lookup hk0
        (refine xE (Option.isSome_iff_exists.mp (hcl2 y hmem)) fun k hk => ?_)
        have hnone : new.lookup y = none := by
          cases e : new.lookup y with
          | none => rfl
          | some k2 =>
            have := lookup_of_mem hnd (nwname y k2 (mem_of_lookup e))
            rw [hk0] at this; cases this
        (refine xEEAA (V1.cell y (hfree' _ hmem rfl)) fun k' v0 hl' hc' hd' => ?_)
        rw [hcl1 y k hk] at hl'
        (have k1 := s1E hl'; clear hl'; subst k1)
        refine ⟨k, v0, ?_, hc'.keeps k4, fun d hd => ?_⟩
        · show (new ++ cl).lookup y = some k
          rw [List.lookup_append, hnone]; exact hk
        · unfold frIn at hd
          rw [hk0, if_pos rfl] at hd
          (refine xEA (hd' d hd) fun v' h1 h2 => ?_)
          exact ⟨v', h1, h2.addX x4 fun a ha => (hnewAll a ha).1⟩
    · rcases lk y k hk with h | h
      · exact List.mem_append_left _ (.tail _ (.tail _ (.tail _ (List.mem_map.mpr ⟨(y, k), h, rfl⟩))))
      · exact List.mem_append_right _ (V1.own y k h)
    · have old : ∀ y, env.cells.lookup y = some k → k < S1.h.objs.size := fun y h => by
        (refine xA (H1.xs k (V1.own y k h)) fun q0z _ => ?_; refine xE q0z fun x hx => ?_)
        exact Heap.lt_size hx
      rcases lk y k hy with h | h <;> rcases lk z k hz with h' | h'
      · exact name_of_addr cok.apart h h'
      · exact absurd (Nat.lt_of_lt_of_le (old z h') (Nat.le_trans (Nat.le_add_right _ 3) (nwlt y k h))) (Nat.lt_irrefl _)
      · exact absurd (Nat.lt_of_lt_of_le (old y h) (Nat.le_trans (Nat.le_add_right _ 3) (nwlt z k h'))) (Nat.lt_irrefl _)
      · exact V1.apart y z k h h'
  have apR : Apart c (S1.h.objs.size :: (S1.h.objs.size + 1) :: (S1.h.objs.size + 2) :: addrs new) := ⟨fun a ha hm' => by
    have := (hnewAll a ha).1
    rcases List.mem_append.mp hm' with z | z
    · (refine xE (H1.fs_some z) fun x hx => ?_); rw [this] at hx; exact nnS hx
    · (refine xE ((H1.xs a z).1) fun x hx => ?_); rw [this] at hx; exact nnS hx⟩
  have apR' : Apart c ((S1.h.objs.size + 1) :: (S1.h.objs.size + 2) :: addrs new) := ⟨fun a ha => apR.off a (.tail _ ha)⟩
  have hnin : S1.h.objs.size ∉ (S1.h.objs.size + 1) :: (S1.h.objs.size + 2) :: addrs new := fun hm' => by
    rcases List.mem_cons.mp hm' with z | hm'
    · omega
    rcases List.mem_cons.mp hm' with z | hm'
    · omega
    · (refine xEA (List.mem_map.mp hm') fun q0z hm'' e => ?_; obtain ⟨y, k⟩ := q0z)
      have := nwlt y k hm''
      have e' : k = S1.h.objs.size := e
      omega
  have apI : Apart (c.addX ((S1.h.objs.size + 1) :: (S1.h.objs.size + 2) :: addrs new)) [S1.h.objs.size] := ⟨fun a ha hm' => by
    rcases List.mem_singleton.mp ha with rfl
    rcases List.mem_append.mp hm' with z | z
    · exact apR.off _ (.head _) (List.mem_append_left _ z)
    · rcases List.mem_append.mp z with z | z
      · exact hnin z
      · exact apR.off _ (.head _) (List.mem_append_right _ z)⟩
  have r4 : Rv G ((c.addX ((S1.h.objs.size + 1) :: (S1.h.objs.size + 2) :: addrs new)).addX [S1.h.objs.size]) { S1 with h := h4 } v d := r1.addX x4 fun a ha => (hnewAll a ha).1
  have hIt4 : ItAt h4 S1.h.objs.size v d := by
    have step : ∀ x, (S1.h.push o).get? S1.h.objs.size = some x → h4.get? S1.h.objs.size = some x := fun x hx => pk _ _ (Heap.get?_push_of_some _ (Heap.get?_push_of_some _ hx))
    unfold ItAt at hIt ⊢
    split at hIt
    · (refine xEA hIt fun a e w11z => ?_; refine xEA w11z fun x hx r => ?_; try clear hIt); exact ⟨a, e, x, step x hx, r⟩
    · (refine xEA hIt fun a e w12z => ?_; refine xEA w12z fun x hx r => ?_; try clear hIt); exact ⟨a, e, x, step x hx, r⟩
    · (refine xEA hIt fun a e w13z => ?_; refine xEA w13z fun x hx r => ?_; try clear hIt); exact ⟨a, e, x, step x hx, r⟩
    · (refine xEA hIt fun a e q0z => ?_; try clear hIt; obtain ⟨x, hx, r⟩ | ⟨x, hx, r⟩ := q0z)
      · exact ⟨a, e, .inl ⟨x, step x hx, r⟩⟩
      · exact ⟨a, e, .inr ⟨x, step x hx, r⟩⟩
    · exact step _ hIt
    · exact hIt.elim
  (refine xEA (Walk.make (G := G) (target := g.target) (c := (c.addX ((S1.h.objs.size + 1) :: (S1.h.objs.size + 2) :: addrs new)).addX [S1.h.objs.size]) (S := { S1 with h := h4 }) H4 (q.hand rfl) (List.mem_append_left _ (.head _)) r4 hIt4 (by rw [e1]; exact hx)) fun It hI0 Wk => ?_)
  have locIn : S1.h.objs.size + 2 ∈ (S1.h.objs.size + 2) :: addrs new := .head _
  have hWO : ∀ x ∈ W, ∀ k, (new ++ cl).lookup x = some k → k ∈ (S1.h.objs.size + 2) :: addrs new := fun x hx k hk => by
    have hc : scope.names.lookup x = some .cell := by
      have := List.all_eq_true.mp hWc x hx
      simpa using this
    (refine xE (Option.isSome_iff_exists.mp (nwsome x hc)) fun k2 hk2 => ?_)
    rw [List.lookup_append, hk2] at hk
    (have k1 := (s1E hk).symm; clear hk; subst k1)
    exact .tail _ (List.mem_map.mpr ⟨(x, k), mem_of_lookup hk2, rfl⟩)
  have hsc2 : (relabel scope env) = relab scope Z := relabel_eq q.scope
  have dNo : S1.h.objs.size + 1 ∉ (S1.h.objs.size + 2) :: addrs new := fun hm' => by
    rcases List.mem_cons.mp hm' with z | hm'
    · omega
    · (refine xEA (List.mem_map.mp hm') fun q0z hm'' e => ?_; obtain ⟨y, k⟩ := q0z)
      have := nwlt y k hm''
      have e' : k = S1.h.objs.size + 1 := e
      omega
  have O2in : ∀ a ∈ (S1.h.objs.size + 1) :: (S1.h.objs.size + 2) :: addrs new, a ∈ (c.addX ((S1.h.objs.size + 1) :: (S1.h.objs.size + 2) :: addrs new)).fs ++ (c.addX ((S1.h.objs.size + 1) :: (S1.h.objs.size + 2) :: addrs new)).X := fun a ha => List.mem_append_right _ (List.mem_append_left _ ha)
  have ownB : ∀ x k, (new ++ cl).lookup x = some k → k ∈ (c.addX ((S1.h.objs.size + 1) :: (S1.h.objs.size + 2) :: addrs new)).X := fun x k hk => by
    rw [List.lookup_append] at hk
    cases e : new.lookup x with
    | some k2 => rw [e] at hk; (have k1 := (s1E hk).symm; clear hk; subst k1); exact List.mem_append_left _ (.tail _ (.tail _ (List.mem_map.mpr ⟨(x, k), mem_of_lookup e, rfl⟩)))
    | none => rw [e, Option.none_or] at hk; exact List.mem_append_right _ (V1.own x k (hcl1 x k hk))
  have dCell : ∀ x k, (new ++ cl).lookup x = some k → S1.h.objs.size + 1 ≠ k := fun x k hk z => by
    rw [List.lookup_append] at hk
    cases e : new.lookup x with
    | some k2 => rw [e] at hk; (have k1 := (s1E hk).symm; clear hk; subst k1); have := nwlt x k (mem_of_lookup e); omega
    | none =>
      rw [e, Option.none_or] at hk
      (refine xA (H1.xs k (V1.own x k (hcl1 x k hk))) fun q0z _ => ?_; refine xE q0z fun y hy => ?_)
      have h1 := Heap.lt_size hy
      rw [← z] at h1
      exact absurd (Nat.lt_of_succ_lt h1) (Nat.lt_irrefl _)
  refine (hC (S1.h.objs.size + 1) _).start ?_ fun Q' E' hQ => Wk.self 0 { S1 with h := h4 } _ Q' E' hI0 rfl hQ
  refine compLoop_ok (c := c.addX ((S1.h.objs.size + 1) :: (S1.h.objs.size + 2) :: addrs new)) (its := [S1.h.objs.size]) (O := (S1.h.objs.size + 2) :: addrs new) (O2 := (S1.h.objs.size + 1) :: (S1.h.objs.size + 2) :: addrs new) (A0 := [S1.h.objs.size + 1]) (W := W) (ys := []) (Acc := Acc (S1.h.objs.size + 1)) (Good := Good) (n := n) (Z := relab scope Z)
    p ((hC _ _).loop _) ((hC _ _).quiet _) ((hC _ _).under _ _) ((hC _ _).den _) (fun a ha => by rcases List.mem_singleton.mp ha with rfl; exact List.mem_append_left _ (.head _)) (hA _ _ dNo) hT hTs (fun a ha => .tail _ ha) O2in
    (hE _ _ _ _ (List.mem_append_left _ (.head _)) (fun z => apR'.off _ (.head _) (List.mem_append_left _ z)) (.head _) (Nat.ne_of_lt (Nat.lt_succ_self _)) dCell O2in (.tail _ (.head _)) (fun x hx k hk => .tail _ (hWO x hx k hk)) (Nat.ne_of_gt (Nat.lt_succ_self _)) ⟨_, dNo, fun a ha => .tail _ ha, .head _, hWO⟩)
    hgood apI (List.mem_append_right _ (List.mem_append_left _ (.tail _ (.head _)))) ownB (fun a ha => O2in a (.tail _ ha)) (.head _) hWO tk1 ⟨hsc2, q.room, q.units, q.hand, rfl, H4, V4⟩ (hA0 _ _ _ (fun z => apR'.off _ (.head _) (List.mem_append_left _ z)) gD) hI0 Wk (by rw [e1]; exact hl) hg fun S' tk' e' H' xe V' A' => ?_
  (refine xEA V'.vars fun m' hns _ => ?_)
  refine hq (S1.h.objs.size + 1) (S1.h.objs.size + 2) ((S1.h.objs.size + 1) :: (S1.h.objs.size + 2) :: addrs new) S' tk' m' ⟨H', apR', .head _, .tail _ (.head _), Nat.ne_of_lt (Nat.lt_succ_self _), A', ?_, fun a ha => ?_, e', Nat.lt_succ_of_lt H1.big⟩ hns
  · have xe' : ExtEnd c [S1.h.objs.size] ((S1.h.objs.size + 1) :: (S1.h.objs.size + 2) :: addrs new) { S1 with h := h4 } S' := ⟨xe.adr, xe.keep, xe.fresh, xe.live⟩
    have j := ExtO.join (x4.o []) (fun a ha => by rcases List.mem_singleton.mp ha with rfl; exact fr1 _ (Nat.le_refl _)) (fun a ha => .inr (hnewAll a (.tail _ ha)).1) xe'
    exact x1.trans j.ext
  · cases e : S.h.get? a with
    | none => rfl
    | some o => (refine xE (x1.live _ o e) fun o' e'' => ?_); rw [(hnewAll a (.tail _ ha)).1] at e''; exact nnS e''
end Mine
end
section
open PySem PySem.W PyProof.Rows
namespace Mine

section
variable {G : Amb} {env : Env} {elt target iter target2 iter2 key : Expr} {ifs ifs2 : List Expr} {scope : Scope} {pos : Pos} {acc : Value}

noncomputable def emitL (elt : Expr) (acc : Value) (env : Env) : Sem Unit := eval elt env >>= fun x => call (.builtin "list.append") [acc, x] >>= fun _ => Pure.pure ()
theorem Clause.list1 : Clause G (.ListComp elt [⟨target, iter, ifs, 0⟩] scope pos) 0 acc env target ifs (emitL elt acc env) iter.pos where
  loop := fun it => by rfl
  quiet := fun _ => rfl
  under := fun _ _ => rfl
  den := fun _ => rfl
  underS := fun _ _ => rfl
  denS := fun _ => rfl
  async := rfl
theorem Clause.list2b : Clause G (.ListComp elt [⟨target, iter, ifs, 0⟩, ⟨target2, iter2, ifs2, 0⟩] scope pos) 1 acc env target2 ifs2 (emitL elt acc env) iter2.pos where
  loop := fun it => by rfl
  quiet := fun _ => rfl
  under := fun _ _ => rfl
  den := fun _ => rfl
  underS := fun _ _ => rfl
  denS := fun _ => rfl
  async := rfl
noncomputable def emitN (e iter2 : Expr) (acc : Value) (env : Env) : Sem Unit := eval iter2 env >>= fun x => PySem.standAt iter2.pos >>= fun _ => foldedSetIterable iter2 env x >>= fun x => PySem.holding [x] (pyIter x) >>= fun it => runOwn (.compStart e 1 it acc env) env >>= fun _ => Pure.pure ()
theorem Clause.list2a : Clause G (.ListComp elt [⟨target, iter, ifs, 0⟩, ⟨target2, iter2, ifs2, 0⟩] scope pos) 0 acc env target ifs (emitN (.ListComp elt [⟨target, iter, ifs, 0⟩, ⟨target2, iter2, ifs2, 0⟩] scope pos) iter2 acc env) iter.pos where
  loop := fun it => by simp only [emitN, bind_assoc, pure_bind]; rfl
  quiet := fun _ => rfl
  under := fun _ _ => rfl
  den := fun _ => rfl
  underS := fun _ _ => rfl
  denS := fun _ => rfl
  async := rfl
noncomputable def emitD (key val : Expr) (acc : Value) (env : Env) : Sem Unit := eval key env >>= fun kv => PySem.holding [kv] (eval val env) >>= fun vv => match acc with
  | .ref d => PySem.standAt { key.pos with endLine := val.pos.endLine, endCol := val.pos.endCol } >>= fun _ => PySem.holding [kv, vv] (dictSet d kv vv)
  | _ => unsupported "internal:dictcomp"
theorem Clause.dict1 : Clause G (.DictComp key elt [⟨target, iter, ifs, 0⟩] scope pos) 0 acc env target ifs (emitD key elt acc env) iter.pos where
  loop := fun it => by rfl
  quiet := fun _ => rfl
  under := fun _ _ => rfl
  den := fun _ => rfl
  underS := fun _ _ => rfl
  denS := fun _ => rfl
  async := rfl
end
end Mine
end
section
open PySem PySem.W PyProof.Rows
namespace Mine

noncomputable def AccD (G : Amb) (a : Addr) (c : Cx) (S : Gs) (ys : List (PySem.Str × D)) : Prop := a ∉ c.fs ∧ ∃ kvs, S.h.DictOf (strKind G.prog G.w) a kvs ∧ kvs.map (·.1) = ys.map (·.1) ∧ Rvs G c S (kvs.map (·.2)) (ys.map (·.2))
noncomputable def GoodD (ys : List (PySem.Str × D)) : Prop := (ys.map (·.1)).Nodup ∧ ys.length ≤ sizeLine

theorem dictOf_keep {G : Amb} {h h' : Heap} {a : Addr} {kvs : List (PySem.Str × Value)} (x : h.DictOf (strKind G.prog G.w) a kvs) (k : ∀ o, h.get? a = some o → h'.get? a = some o) : h'.DictOf (strKind G.prog G.w) a kvs :=
  let ⟨o, es, ep, ho, r⟩ := x; ⟨o, es, ep, k o ho, r⟩

theorem Accu.dct {G : Amb} {a : Addr} {O : List Addr} (hO : a ∉ O) : Accu G O [a] (AccD G a) where
  ext := fun c S S' ys hA H hI h x => by
    (refine xAEAA h fun hf vs h3 h5 h4 => ?_; try clear h)
    refine ⟨hf, vs, dictOf_keep h3 fun o ho => ?_, h5, h4.extO x hI⟩
    rcases x.keep a o ho (H.xs a (hA a (.head _))).2.1 hO with q | ⟨hf', _⟩
    · exact q
    · exact absurd hf' hf
  add := fun c its S S' ys hA H h x hi => by
    (refine xAEAA h fun hf vs h3 h5 h4 => ?_; try clear h)
    refine ⟨hf, vs, dictOf_keep h3 fun o ho => ?_, h5, VRs.mono x.pres x.adr (fun a ha => (vol_addX.mp ha).elim (fun q => .inr (hi a q)) (x.volLe a)) h4⟩
    rcases x.keep a o ho (H.xs a (hA a (.head _))).2.1 with q | ⟨hf', _⟩
    · exact q
    · exact absurd hf' hf
  drop := fun c its S ys h => by
    (refine xAEAA h fun hf vs h3 h5 h4 => ?_; try clear h)
    exact ⟨hf, vs, h3, h5, h4.dropX⟩
  turn := fun c its S ys h' hA ap h k => by
    (refine xAEAA h fun hf vs h3 h5 h4 => ?_; try clear h)
    have hn : a ∉ its := fun q => ap.off a q (List.mem_append_right _ (hA a (.head _)))
    exact ⟨hf, vs, dictOf_keep h3 fun o ho => k a o hn ho, h5, h4.turnX k⟩

noncomputable def emPair (mk mv : Mo D) : Em (PySem.Str × D) := fun fr σ => match mk fr σ with
  | some (.val (.str x), σ1) => (match mv fr σ1 with
    | some (.val d, σ2) => some ([(x, d)], fr, σ2)
    | _ => none)
  | _ => none

theorem EmT.dct {G : Amb} {n : Nat} {Z : Scope} {env : Env} {a : Addr} {O : List Addr} {c0 : Cx} {key val : Expr} {mk mv : Mo D} (hk1 : Ev G true n Z key mk) (hv1 : Ev G true n Z val mv) (ha : a ∈ c0.X) (hf : a ∉ c0.fs) (hO : a ∈ O) (hl : a ≠ env.locals) (hk : ∀ x k, env.cells.lookup x = some k → a ≠ k) :
    EmT G n Z env O c0 (AccD G a) GoodD (emitD key val (.ref a) env) (emPair mk mv) := by
  intro c hc fr S s ys zs fr' σ' q hfs hA hm hg Q E hq
  have haX : a ∈ c.X := by
    rcases List.mem_append.mp (hc a (List.mem_append_right _ ha)) with z | z
    · rw [hfs] at z; exact absurd z hf
    · exact z
  have haf : a ∉ c.fs := by rw [hfs]; exact hf
  unfold emPair at hm
  split at hm
  rotate_left
  · exact nnS hm
  rename_i x σ1 hm1
  split at hm
  rotate_left
  · exact nnS hm
  rename_i d σ2 hm2
  (have k1 := s3A hm; have k2 := s3B hm; have k3 := s3C hm; clear hm; subst k1 k2 k3)
  unfold emitD
  refine wpAny_bind (hk1 c env fr S s _ _ q hm1 _ E (fun b hb v S1 tk e1 H1 x1 r1 => ?_) fun _ _ ho => by exact nVE ho)
  (have k1 := valE hb; clear hb; subst k1)
  refine xEA (VR.i_str r1) fun t ev hx => ?_
  subst ev
  have q1 := q.step (tk := tk) H1 x1
  refine wpAny_bind (wpAny_holding (hv1 c env fr S1 _ _ _ q1 (by rw [e1]; exact hm2) _ E (fun b hb v S2 tk2 e2 H2 x2 r2 => ?_) fun _ _ ho => by exact nVE ho))
  (have k1 := valE hb; clear hb; subst k1)
  have hA2 : AccD G a c S2 ys := (Accu.dct (O := []) (by simp)).ext c S S2 ys (fun b hb => by rcases List.mem_singleton.mp hb with rfl; exact haX) q.H (by simp) hA ((x1.trans x2).o [])
  (refine xAEAA hA2 fun _ kvs h3 h5 h4 => ?_; try clear hA2)
  have hlen : kvs.length = ys.length := by have := congrArg List.length h5; simpa using this
  have hnin : x ∉ kvs.map (·.1) := by
    have := hg.1
    rw [List.map_append, ← h5] at this
    (refine xAA (List.nodup_append.mp this) fun _ _ h => ?_)
    exact fun hm => h x hm x (by simp) rfl
  have hst : stored kvs x v = kvs ++ [(x, v)] := by
    unfold stored
    rw [if_neg]
    intro hany
    (refine xEA (List.any_eq_true.mp hany) fun kv hkv e => ?_)
    exact hnin (List.mem_map.mpr ⟨kv, hkv, by simpa using e⟩)
  refine wpAny_bind (wpAny_standAt (wpAny_holding ?_))
  refine wpAny_dictSet_pairs (knd := strKind G.prog G.w) (k := x) (s := (ShT s S2.h tk2)) (by show Value.isStrOf x (.str x t) = true; unfold Value.isStrOf; exact beq_self_eq_true x) h3 (fun h' hd' hs' => ?_) ?_
  · rw [hst] at hd'
    have live : ∃ o, h'.get? a = some o := by (refine xEEEA hd' fun o _ _ ho _ => ?_; try clear hd'); exact ⟨o, ho⟩
    refine hq { S2 with h := h' } (tk2 + 1) e2 (H2.atX haX haf hs' live) (((x1.trans x2).o O).trans (ExtO.atX H2 hO hs' live)) (((x1.trans x2).env q.H q.V).atX haX hl hk hs') ⟨haf, kvs ++ [(x, v)], hd', ?_, ?_⟩
    · rw [List.map_append, List.map_append, h5]; rfl
    · rw [List.map_append, List.map_append]
      exact VRs.append (h4.atX haX hs') (VRs.one (r2.atX haX hs'))
  · have := hg.2
    rw [List.length_append] at this
    simp at this
    omega

theorem vre_of {G : Amb} {P : Params} (hP : P = G.w.params) {adr : Adr} {V : List Addr} {h : Heap} : ∀ {es : List DictEntry} {kvs : List (PySem.Str × Value)} {ys : List (PySem.Str × D)}, (∀ e ∈ es, ∃ k, Value.isStrOf k e.key = true ∧ e.hash = hashStr G.w k) → Pairs (strKind G.prog G.w) es kvs → kvs.map (·.1) = ys.map (·.1) → VRs P adr V h (kvs.map (·.2)) (ys.map (·.2)) → VRe P adr V h es ys
  | [], _, ys, _, .nil, hm, _ => by
    cases ys with
    | nil => exact .nil
    | cons => exact nNC hm
  | e :: es, kv :: kvs, ys, hk, .cons h1 h2 hr, hm, hv => by
    cases ys with
    | nil => exact nCN hm
    | cons y ys =>
      obtain ⟨x, d⟩ := y
      simp only [List.map_cons, List.cons.injEq] at hm
      (refine xA hm fun hm1 hm2 => ?_; try clear hm)
      rw [List.map_cons, List.map_cons] at hv
      cases hv with
      | cons hv1 hv2 =>
        (refine xE (Value.isStrOf_shape h1) fun t ht => ?_)
        (refine xEA (hk e (.head _)) fun k hk1 hk2 => ?_)
        (refine xE (Value.isStrOf_shape hk1) fun t' ht' => ?_)
        rw [ht] at ht'
        cases ht'
        rw [hm1] at ht hk2
        refine .cons ht ?_ (by rw [h2]; exact hv1) (vre_of hP (fun e' he' => hk e' (.tail _ he')) hr hm2 hv2)
        rw [hk2, hP]; rfl
end Mine
end
section
open PySem PySem.W PyProof.Rows
namespace Mine

section
variable {G : Amb} {c : Cx} {S S' : Gs} {D0 C : Addr} {its : List Addr} {σ' : List AO} {h' : Heap}

theorem CompMid.off {β : Type} {Acc : Cx → Gs → List β → Prop} {zs : List β} (M : CompMid G c S Acc zs σ' D0 C its S') : D0 ∉ vol c { S' with h := h' } := fun hm => by
  rcases List.mem_append.mp hm with q | q
  · exact (M.H.xs D0 (List.mem_append_left _ M.there)).2.1 q
  · exact M.ap.off D0 M.there q
theorem CompMid.back {β : Type} {Acc : Cx → Gs → List β → Prop} {zs : List β} (M : CompMid G c S Acc zs σ' D0 C its S') (hs : Heap.SameBut C S'.h h') : Heaps G c { S' with h := h' } ∧ Ext c S { S' with h := h' } :=
  ⟨M.H.endX M.ap fun b o hb e => hs.extBut b o (fun z => hb (z ▸ M.thereC)) e, M.ext.turnX (its := [C]) (fun a ha => by rcases List.mem_singleton.mp ha with rfl; exact M.new _ M.thereC) fun b o hb e => hs.extBut b o (fun z => hb (z ▸ .head _)) e⟩
theorem CompMid.lstF {zs : List D} (M : CompMid G c S (AccL G D0) zs σ' D0 C its S') (hs : Heap.SameBut C S'.h h') (hz : zs.length ≤ sizeLine) : Rv G c { S' with h := h' } (.ref D0) (.lst zs) := by
  (refine xAEEA M.acc fun _ n vs ho hr => ?_)
  refine .lst (hs.extBut _ _ M.ne ho) rfl rfl ?_ M.off ?_
  · have := VRs.length hr; simp at this; omega
  · exact VRs.mono (fun a o hn e => hs.extBut a o (fun z => hn (z ▸ vol_addX.mpr (.inl M.thereC))) e) (.refl _) (.of_sub _ fun a ha => vol_addX.mpr (.inr ha)) hr
theorem CompMid.dctF {zs : List (PySem.Str × D)} (M : CompMid G c S (AccD G D0) zs σ' D0 C its S') (hs : Heap.SameBut C S'.h h') : Rv G c { S' with h := h' } (.ref D0) (.dct zs) := by
  (refine xAEAA M.acc fun _ kvs q0z h5 hr => ?_; refine xEEEAAAAA q0z fun o es ep ho hex hd hk hp hn => ?_)
  obtain ⟨oc, od, odt, osl⟩ := o
  (refine xAA hex fun e1 e2 e3 => ?_; try clear hex)
  dsimp only at e1 e2 e3 hd
  subst e1 e2 e3 hd
  refine .dct M.big (hs.extBut _ _ M.ne ho) (by rw [← h5]; exact hn) M.off ?_
  refine vre_of rfl (fun e he => ?_) hp h5 (VRs.mono (fun a o hn e => hs.extBut a o (fun z => hn (z ▸ vol_addX.mpr (.inl M.thereC))) e) (.refl _) (.of_sub _ fun a ha => vol_addX.mpr (.inr ha)) hr)
  exact hk e (by simpa using he)

/-- the list, taken into the store -/
theorem CompMid.lstR {zs : List D} (M : CompMid G c S (AccL G D0) zs σ' D0 C its S') (hs : Heap.SameBut C S'.h h') (hz : zs.length ≤ sizeLine) :
    Heaps G c ⟨S'.adr ++ [(D0, D0)], S'.σ ++ [.lst zs], h'⟩ ∧ Ext c S ⟨S'.adr ++ [(D0, D0)], S'.σ ++ [.lst zs], h'⟩ ∧ Rv G c ⟨S'.adr ++ [(D0, D0)], S'.σ ++ [.lst zs], h'⟩ (.ref D0) (.ref S'.σ.length) := by
  (refine xAEEA M.acc fun _ n vs ho hr => ?_)
  (refine xA (M.back hs) fun H x => ?_)
  have hreg : reg (S'.adr ++ [(D0, D0)]) (S'.σ ++ [.lst zs]) = S'.reg ++ [D0] := reg_append H.len
  have hnr : D0 ∉ S'.reg := (M.H.xs D0 (List.mem_append_left _ M.there)).2.1
  have hbase := (M.H.xs D0 (List.mem_append_left _ M.there)).2.2
  have mem : ∀ a, a ∈ (⟨S'.adr ++ [(D0, D0)], S'.σ ++ [.lst zs], h'⟩ : Gs).reg → a ∈ S'.reg ∨ a = D0 := fun a ha => by
    have ha' : a ∈ reg (S'.adr ++ [(D0, D0)]) (S'.σ ++ [.lst zs]) := ha
    rw [hreg] at ha'
    rcases List.mem_append.mp ha' with q | q
    · exact .inl q
    · exact .inr (List.mem_singleton.mp q)
  have volsub : ∀ a, a ∈ vol c ⟨S'.adr ++ [(D0, D0)], S'.σ ++ [.lst zs], h'⟩ → a ∈ vol (c.addX its) S' := fun a ha => by
    rcases List.mem_append.mp ha with q | q
    · rcases mem a q with z | z
      · exact List.mem_append_left _ z
      · exact vol_addX.mpr (.inl (z ▸ M.there))
    · exact vol_addX.mpr (.inr (List.mem_append_right _ q))
  have kk : Pres (vol (c.addX its) S') S'.h h' := fun a o hn e => hs.extBut a o (fun z => hn (z ▸ vol_addX.mpr (.inl M.thereC))) e
  have hsz : vs.size ≤ sizeLine := by have := VRs.length hr; simp at this; omega
  refine ⟨⟨H.ok, H.stays, H.frames, H.funs, fun L hL => ?_, fun L hL => ?_, ?_, fun j q u h1 h2 => ?_, fun a ha => ?_, ?_⟩, ⟨x.adr.trans (.snoc _ _), fun b o e hb => x.keep b o e hb, fun a ha => ?_, x.live⟩, .ref (p := (D0, D0)) ?_⟩
  · (refine xA (H.fdict L hL) fun h1 h2 => ?_)
    exact ⟨h1, fun q => (mem L q).elim h2 fun z => M.ap.off D0 M.there (List.mem_append_left _ (z ▸ hL))⟩
  · (refine xAA (H.xs L hL) fun h1 h2 h3 => ?_)
    exact ⟨h1, fun q => (mem L q).elim h2 fun z => M.ap.off D0 M.there (List.mem_append_right _ (z ▸ hL)), h3⟩
  · show (S'.adr ++ _).length = (S'.σ ++ _).length
    have := H.len
    simp at this ⊢; exact this
  · have h1' : (S'.adr ++ [(D0, D0)])[j]? = some q := h1
    have h2' : (S'.σ ++ [.lst zs])[j]? = some u := h2
    have hlen : S'.adr.length = S'.σ.length := H.len
    by_cases e : j < S'.adr.length
    · rw [List.getElem?_append_left e] at h1'
      rw [List.getElem?_append_left (by rw [← hlen]; exact e)] at h2'
      refine ORep.mono kk (.snoc _ _) (.of_sub _ volsub) (fun a ha o e' => hs.extBut a o (fun z => ?_) e') (M.H.store j q u h1' h2')
      exact (M.H.xs C (List.mem_append_left _ M.thereC)).2.1 (z ▸ reg_mem h1' h2' a ha)
    · have hj : j = S'.adr.length := by
        have := (List.getElem?_eq_some_iff.mp h1').1
        simp at this; omega
      subst hj
      rw [List.getElem?_append_right (Nat.le_refl _), Nat.sub_self] at h1'
      rw [hlen, List.getElem?_append_right (Nat.le_refl _), Nat.sub_self] at h2'
      (have k1 := s1E h1'; clear h1'; subst k1); (have k1 := s1E h2'; clear h2'; subst k1)
      exact ⟨n, vs, hs.extBut _ _ M.ne ho, hsz, VRs.mono kk (.snoc _ _) (.of_sub _ volsub) hr⟩
  · rcases mem a ha with q | q
    · exact H.new a q
    · rw [q]; exact hbase
  · show (reg (S'.adr ++ [(D0, D0)]) (S'.σ ++ [.lst zs])).Nodup
    rw [hreg]
    exact List.nodup_append.mpr ⟨H.nodup, List.nodup_cons.mpr ⟨List.not_mem_nil, .nil⟩, fun a ha b hb e => by
      rcases List.mem_singleton.mp hb with rfl
      exact hnr (e ▸ ha)⟩
  · rcases mem a ha with q | q
    · exact x.fresh a q
    · rw [q]; exact .inr (M.new D0 M.there)
  · show (S'.adr ++ [(D0, D0)])[S'.σ.length]? = _
    have hlen : S'.adr.length = S'.σ.length := H.len
    rw [← hlen, List.getElem?_append_right (Nat.le_refl _), Nat.sub_self]; rfl
end

noncomputable def lcRun {β : Type} (scope : Scope) (m : Mo D) (tgt : D → Fr → Fr) (ok : D → Bool) (test : Mo Bool) (em : Em β) : Fr → List AO → Option (List β × List AO) := fun fr σ => match m fr σ with
  | some (.val d, σ1) => (srcD d σ1).bind fun x => (lcEach x.P tgt ok test em x.ds (frIn scope fr) σ1).map fun r => (r.1, r.2.2)
  | _ => none
theorem lcRunE {β : Type} {scope : Scope} {m : Mo D} {tgt : D → Fr → Fr} {ok : D → Bool} {test : Mo Bool} {em : Em β} {fr : Fr} {σ σ' : List AO} {zs : List β} (h : lcRun scope m tgt ok test em fr σ = some (zs, σ')) :
    ∃ d σ1 x fr', m fr σ = some (.val d, σ1) ∧ srcD d σ1 = some x ∧ lcEach x.P tgt ok test em x.ds (frIn scope fr) σ1 = some (zs, fr', σ') := by
  unfold lcRun at h
  split at h
  rotate_left
  · exact nnS h
  rename_i d σ1 hm
  (refine xEA (Option.bind_eq_some_iff.mp h) fun x hx h => ?_)
  (refine xEA (Option.map_eq_some_iff.mp h) fun r hr e => ?_)
  (have k1 := p2A e; have k2 := p2B e; clear e; subst k1 k2)
  exact ⟨d, σ1, x, r.2.1, hm, hx, hr⟩
noncomputable def Mo.lc (scope : Scope) (m : Mo D) (tgt : D → Fr → Fr) (ok : D → Bool) (test : Mo Bool) (em : Em D) : Mo D := fun fr σ => match lcRun scope m tgt ok test em fr σ with
  | some (zs, σ') => if zs.length ≤ sizeLine then some (.val (.lst zs), σ') else none
  | none => none
noncomputable def Mo.lcR (scope : Scope) (m : Mo D) (tgt : D → Fr → Fr) (ok : D → Bool) (test : Mo Bool) (em : Em D) : Mo D := fun fr σ => match lcRun scope m tgt ok test em fr σ with
  | some (zs, σ') => if zs.length ≤ sizeLine then some (.val (.ref σ'.length), σ' ++ [.lst zs]) else none
  | none => none
noncomputable def Mo.dc (scope : Scope) (m : Mo D) (tgt : D → Fr → Fr) (ok : D → Bool) (test : Mo Bool) (em : Em (PySem.Str × D)) : Mo D := fun fr σ => match lcRun scope m tgt ok test em fr σ with
  | some (zs, σ') => if (zs.map (·.1)).Nodup ∧ zs.length ≤ sizeLine then some (.val (.dct zs), σ') else none
  | none => none

section
variable {G : Amb} {n : Nat} {Z : Scope} {elt target iter target2 iter2 key : Expr} {ifs ifs2 : List Expr} {scope : Scope} {pos : Pos} {W : List PySem.Str} {m m2 : Mo D} {tgt tgt2 : D → Fr → Fr} {ok ok2 : D → Bool} {test test2 : Mo Bool} {me mk : Mo D}

/-- what a comprehension's core gives, whatever is done with it -/
noncomputable def CompL (G : Amb) (n : Nat) (Z : Scope) (e : Expr) (run : Fr → List AO → Option (List D × List AO)) : Prop :=
  ∀ c env fr S s zs σ', Run G true n Z c env fr S s → run fr S.σ = some (zs, σ') → zs.length ≤ sizeLine → ∀ (use : Option (Value → Sem Unit)) (Q : Value → Shared → Prop) (E : Value → Shared → Prop),
    (∀ (D0 C : Addr) (its : List Addr) (S' : Gs) tk m', CompMid G c S (AccL G D0) zs σ' D0 C its S' → S'.h.Ns C m' → compPost G.M c.A E use Q (.ref D0) C (.ok .next) (ShT s S'.h tk)) →
    wpAny G.M c.A (match e with | .ListComp _ gens scope pos => comprehension e scope env (firstIterPos gens pos) (newList []) (firstAsync gens) (firstIter gens env) use | _ => unsupported "") Q E s

theorem newList_raw (M : Model) (A : Around) (Q : Value → Shared → Prop) (E : Value → Shared → Prop) (s : Shared) (h : Q (.ref s.heap.objs.size) { s with heap := s.heap.push { cls := .type "list", data := .seq #[] } }) : wpAny M A (newList []) Q E s :=
  wpAny_newObj_type h (by show (0 : Nat) ≤ sizeLine; exact Nat.zero_le _)
theorem newDict_raw (M : Model) (A : Around) (Q : Value → Shared → Prop) (E : Value → Shared → Prop) (s : Shared) (h : Q (.ref s.heap.objs.size) { s with heap := s.heap.push { cls := .type "dict", data := .dict #[] } }) : wpAny M A newDict Q E s :=
  wpAny_newObj_type h (by first | trivial | exact Nat.zero_le _ | (unfold sizeOk; trivial))

theorem CompL.one (hi : Ev G true n Z iter m) (hT : AsC G n (relab scope Z) W target tgt ok) (hTs : Ts G n (relab scope Z) ifs test) (he : Ev G true n (relab scope Z) elt me) (hsc : goodScope scope Z W = true)
    (hs : ∀ env x, foldedSetIterable iter env x = Pure.pure x := by intro _ _; rfl) : CompL G n Z (.ListComp elt [⟨target, iter, ifs, 0⟩] scope pos) (lcRun scope m tgt ok test (emOne me)) := by
  intro c env fr S s zs σ' q hm hz use Q E hq
  (refine xEE (lcRunE hm) fun d σ1 w14z => ?_; refine xEEAA w14z fun x fr' h1 h2 h3 => ?_)
  exact trComp (g := ⟨target, iter, ifs, 0⟩) (Good := GoodL) (Acc := AccL G) (emit := emitL elt) q rfl hs hsc rfl newList_raw (fun D0 O h => Accu.lst h) (fun D0 c S hf h => ⟨hf, 0, #[], h, .nil⟩)
    (fun D0 O c0 cenv a1 a2 a3 a4 a5 _ _ _ _ _ => EmT.lst he a1 a2 a3 a4 a5) (fun a b h => by unfold GoodL at h ⊢; rw [List.length_append] at h; omega) hT hTs (fun _ _ => Clause.list1) hi h1 h2 h3 hz hq
theorem CompL.two (hi : Ev G true n Z iter m) (hT : AsC G n (relab scope Z) W target tgt ok) (hTs : Ts G n (relab scope Z) ifs test) (hi2 : Ev G true n (relab scope Z) iter2 m2) (hT2 : AsC G n (relab scope Z) W target2 tgt2 ok2) (hTs2 : Ts G n (relab scope Z) ifs2 test2)
    (he : Ev G true n (relab scope Z) elt me) (hsc : goodScope scope Z W = true) (hs : ∀ env x, foldedSetIterable iter env x = Pure.pure x := by intro _ _; rfl) (hs2 : ∀ env x, foldedSetIterable iter2 env x = Pure.pure x := by intro _ _; rfl) :
    CompL G n Z (.ListComp elt [⟨target, iter, ifs, 0⟩, ⟨target2, iter2, ifs2, 0⟩] scope pos) (lcRun scope m tgt ok test (emSrc (Mo.src m2) tgt2 ok2 test2 (emOne me))) := by
  intro c env fr S s zs σ' q hm hz use Q E hq
  (refine xEE (lcRunE hm) fun d σ1 w15z => ?_; refine xEEAA w15z fun x fr' h1 h2 h3 => ?_)
  have hgood : ∀ a b : List D, GoodL (a ++ b) → GoodL a := fun a b h => by unfold GoodL at h ⊢; rw [List.length_append] at h; omega
  exact trComp (g := ⟨target, iter, ifs, 0⟩) (Good := GoodL) (Acc := AccL G) (emit := emitN (.ListComp elt [⟨target, iter, ifs, 0⟩, ⟨target2, iter2, ifs2, 0⟩] scope pos) iter2) q rfl hs hsc rfl newList_raw (fun D0 O h => Accu.lst h) (fun D0 c S hf h => ⟨hf, 0, #[], h, .nil⟩)
    (fun D0 O c0 cenv a1 a2 a3 a4 a5 a6 a7 a8 _ ⟨O1, b1, b2, b3, b4⟩ => EmT.src (O := O1) (A0 := [D0]) Clause.list2b (hs2 cenv) (fun a ha => by rcases List.mem_singleton.mp ha with rfl; exact a1) (Accu.lst b1) hT2 hTs2 b2 a6 (EmT.lst he a1 a2 a3 a4 a5) hgood b3 b4
      (fun a ha => by rcases List.mem_singleton.mp ha with rfl; exact a2) hi2) hgood hT hTs (fun _ _ => Clause.list2a) hi h1 h2 h3 hz hq

theorem Ev.lcF {gens : List Comprehension} {run : Fr → List AO → Option (List D × List AO)} (h : CompL G n Z (.ListComp elt gens scope pos) run) : Ev G true n Z (.ListComp elt gens scope pos) (fun fr σ => match run fr σ with
    | some (zs, σ') => if zs.length ≤ sizeLine then some (.val (.lst zs), σ') else none
    | none => none) := by
  intro c env fr S s out σ' q hm
  dsimp only at hm
  split at hm
  rotate_left
  · exact nnS hm
  rename_i zs σ1 hr
  split at hm
  rotate_left
  · exact nnS hm
  rename_i hz
  (have k1 := (s2A hm).symm; have k2 := (s2B hm).symm; clear hm; subst k1 k2)
  intro Q E hq _
  refine h c env fr S s zs σ' q hr hz none Q E fun D0 C its S' tk m' M hn => ⟨m', hn, fun h' hs => ?_⟩
  (refine xA (M.back hs) fun H x => ?_)
  exact hq _ rfl (.ref D0) { S' with h := h' } tk M.σ H x (M.lstF hs hz)
theorem Ev.lcR {gens : List Comprehension} {run : Fr → List AO → Option (List D × List AO)} (h : CompL G n Z (.ListComp elt gens scope pos) run) : Ev G true n Z (.ListComp elt gens scope pos) (fun fr σ => match run fr σ with
    | some (zs, σ') => if zs.length ≤ sizeLine then some (.val (.ref σ'.length), σ' ++ [.lst zs]) else none
    | none => none) := by
  intro c env fr S s out σ' q hm
  dsimp only at hm
  split at hm
  rotate_left
  · exact nnS hm
  rename_i zs σ1 hr
  split at hm
  rotate_left
  · exact nnS hm
  rename_i hz
  refine Tr.cast hm ?_
  intro Q E hq _
  refine h c env fr S s zs _ q hr hz none Q E fun D0 C its S' tk m' M hn => ⟨m', hn, fun h' hs => ?_⟩
  (refine xAA (M.lstR hs hz) fun H x r => ?_)
  have hσ := M.σ
  exact hq _ rfl (.ref D0) ⟨S'.adr ++ [(D0, D0)], S'.σ ++ [.lst zs], h'⟩ tk (by show S'.σ ++ _ = _; rw [hσ]) H x (by rw [hσ] at r ⊢; exact r)
end
end Mine
end
section
open PySem PySem.W PyProof.Rows
namespace Mine

section
variable {G : Amb} {c : Cx} {env : Env} {S : Gs} {s : Shared} {fr fr' : Fr} {hn : Bool} {n : Nat} {Z : Scope}

theorem interactive_fun {env : Env} (V : EnvOk G c env fr S) : interactive env = false := by unfold interactive; rw [V.kind]; rfl

theorem Ex.expr {e : Expr} {pos : Pos} {m : Mo D} (h : Ev G hn n Z e m) (hs : ∀ env, swapsWith e none pos.line env = Pure.pure false := by intro _; rfl) : Ex G hn n Z (.Expr e pos) (Mf.bind (Mf.lift m) fun _ => Mf.pure .next) := by
  intro c env fr S s out fr' σ' q hf hl hm
  rw [exec_Expr env e pos (interactive_fun q.V) (hs env)]
  refine TrF.standAt (TrF.bindE q hm (fun o1 σ1 e1 => h c env fr S s o1 σ1 q e1) fun b a S1 tk q1 x1 r1 e2 => ?_)
  refine TrF.cast e2 ?_
  intro Q E hq hx
  exact wpAny_dropValue (hq _ rfl .next S1 tk rfl q1.H (.refl ..) q1.V trivial)

/-- tuple targets -/
noncomputable def AsAll (G : Amb) (hn : Bool) (n : Nat) (Z : Scope) : List Expr → List (D → Mf Unit) → Prop
  | [], [] => True
  | e :: es, f :: fs => As G hn n Z e f ∧ AsAll G hn n Z es fs
  | _, _ => False
noncomputable def Mf.goA : List (D → Mf Unit) → List D → Mf Unit
  | f :: fs, d :: ds => Mf.bind (f d) fun _ => Mf.goA fs ds
  | _, _ => Mf.pure ()
noncomputable def Mf.tupA (fs : List (D → Mf Unit)) (d : D) : Mf Unit := match d with
  | .tup ds => if ds.length = fs.length then Mf.goA fs ds else fun _ _ => none
  | _ => fun _ _ => none

theorem assignEach_cons {t : Expr} {ts : List Expr} {env : Env} (h : notStar t = true) : assignEach (t :: ts) env = (false, assign t env) :: assignEach ts env := by
  cases t <;> first | rfl | exact nFT h
theorem assignEach_len {env : Env} : ∀ {ts : List Expr}, ts.all notStar = true → (assignEach ts env).length = ts.length ∧ (assignEach ts env).findIdx? (·.1) = none
  | [], _ => ⟨rfl, rfl⟩
  | t :: ts, h => by
    have h2 := Bool.and_eq_true_iff.mp h
    rw [assignEach_cons h2.1]
    have ih := assignEach_len (env := env) h2.2
    refine ⟨by rw [List.length_cons, List.length_cons, ih.1], ?_⟩
    rw [List.findIdx?_cons, ih.2]; rfl
theorem asAll_len : ∀ {ts : List Expr} {fs : List (D → Mf Unit)}, AsAll G hn n Z ts fs → ts.length = fs.length
  | [], [], _ => rfl
  | [], _ :: _, h => h.elim
  | _ :: _, [], h => h.elim
  | t :: ts, f :: fs, h => by rw [List.length_cons, List.length_cons, asAll_len h.2]

theorem trGoA {env : Env} : ∀ {ts : List Expr} {fs : List (D → Mf Unit)}, AsAll G hn n Z ts fs → ts.all notStar = true → ∀ {c fr S s vs ds out fr' σ'}, Run G hn n Z c env fr S s → Rvs G c S vs ds → vs.length = ts.length → Mf.goA fs ds fr S.σ = some (out, fr', σ') →
    TrF G c env S s (fun _ _ _ => True) (assignInOrder ((assignEach ts env).map (·.2)) vs) out fr' σ'
  | [], [], _, _, c, fr, S, s, vs, ds, out, fr', σ', q, r, hlen, hm => by
    cases vs with
    | nil => refine TrF.cast hm ?_; exact TrF.pure q.H q.V q.heap trivial
    | cons => cases hlen
  | [], _ :: _, h, _, _, _, _, _, _, _, _, _, _, _, _, _, _ => h.elim
  | _ :: _, [], h, _, _, _, _, _, _, _, _, _, _, _, _, _, _ => h.elim
  | t :: ts, f :: fs, h, hs, c, fr, S, s, vs, ds, out, fr', σ', q, r, hlen, hm => by
    have h2 := Bool.and_eq_true_iff.mp hs
    cases vs with
    | nil => cases hlen
    | cons v vs =>
      cases r with
      | @cons _ d _ ds rv rs =>
        rw [assignEach_cons h2.1]
        show TrF G c env S s _ (do PySem.holding vs (assign t env v); assignInOrder ((assignEach ts env).map (·.2)) vs) out fr' σ'
        refine TrF.bindM hm (fun o1 f1 σ1 e1 => TrF.holding (h.1 c env fr S s v d o1 f1 σ1 q rv e1)) fun b fr1 a S1 tk H1 x1 V1 _ e2 => ?_
        exact trGoA h.2 h2.2 (q.stepS H1 V1) (Rvs.extS rs x1 q.V.ownIn) (by simpa using hlen) e2

theorem As.tup {ts : List Expr} {k : Nat} {pos : Pos} {fs : List (D → Mf Unit)} (h : AsAll G true n Z ts fs) (hs : ts.all notStar = true) : As G true n Z (.Tuple ts k pos) (Mf.tupA fs) := by
  intro c env fr S s v d out fr' σ' q r hm
  unfold Mf.tupA at hm
  split at hm
  rotate_left
  · exact nnS hm
  rename_i ds
  split at hm
  rotate_left
  · exact nnS hm
  rename_i hlen
  refine xEEEEAAAAAA (VR.i_tup r) fun a o vs nn ev ho hc hd _ _ hr => ?_
  subst ev
  · have hl := VRs.length hr
    have hel := assignEach_len (env := env) hs
    have hsz : (assignEach ts env).length = vs.size := by
      rw [hel.1, asAll_len h, ← hlen, ← hl]; simp
    intro Q E hq hx
    have ht : s.heap.IsTuple a vs := ⟨o, by rw [q.heap]; exact ho, hc, nn, hd⟩
    refine wpAny_assign_Tuple (q.hand rfl) ht hsz hel.2 fun h' hk => ?_
    rw [q.heap] at hk
    (refine xA (q.H.grow (h' := h') (ext_fresh hk)) fun H1 x1 => ?_)
    have q1 : Run G true n Z c env fr { S with h := h' } { s with heap := h' } := q.step (tk := s.toks) H1 x1
    refine trGoA h hs q1 (Rvs.ext hr x1) (by rw [Array.length_toList, ← hsz, hel.1]) hm Q E (fun b hb a' S' tk e H x V r => hq b hb a' S' tk e H ((x1.s env).trans x) V r) fun X msg ho S' e h2 tk e2 H x V th => hx X msg ho S' e h2 tk e2 H ((x1.s env).trans x) V th

/-- two names at once, their stores swapped -/
noncomputable def Mf.swap2 (x y : PySem.Str) (d : D) : Mf Unit := match d with
  | .tup [a, b] => Mf.bind (Mf.set y b) fun _ => Mf.set x a
  | _ => fun _ _ => none
theorem Ex.swap2 {t1 t2 value : Expr} {k : Nat} {p1 p2 pt pos : Pos} {x y : PySem.Str} {m : Mo D} (h : Ev G true n Z value m) (hx : NameK Z x) (hy : NameK Z y)
    (hst : ∀ env, env.scope = Z → swapsWithSole [.Tuple [.Name x p1, .Name y p2] k pt] value pos.line env = Pure.pure false ∧ swappedStores [.Tuple [.Name x p1, .Name y p2] k pt] value env = Pure.pure (some [x, y])) :
    Ex G true n Z (.Assign [.Tuple [.Name x p1, .Name y p2] k pt] value pos) (Mf.bind (Mf.lift m) fun d => Mf.bind (Mf.swap2 x y d) fun _ => Mf.pure .next) := by
  intro c env fr S s out fr' σ' q hf hl hm
  (refine xA (hst env q.scope) fun e2 e3 => ?_)
  rw [exec_Assign_arm, e2, e3]
  show TrF G c env S s (RF G c) (do
    PySem.standAt pos
    let v ← eval value env
    (do
      PySem.rule "assign.swapped-stores"
      let items ← unpackItems v 2 none
      assignInOrder [bindName env y, bindName env x] items.reverse
      Pure.pure Flow.next)) out fr' σ'
  refine TrF.standAt (TrF.bindE q hm (fun o1 σ1 e1 => h c env fr S s o1 σ1 q e1) fun d a S1 tk q1 x1 r1 e2 => ?_)
  unfold Mf.swap2 at e2
  split at e2
  rotate_left
  · exact nnS e2
  rename_i d1 d2
  refine TrF.cast e2 ?_
  refine TrF.rule ?_
  intro Q E hq hx'
  refine xEEEEAAAAAA (VR.i_tup r1) fun a o vs nn ev ho hc hd _ _ hr => ?_
  subst ev
  refine xEEAA (VRs.i_two hr) fun v1 v2 e r10 r20 => ?_
  clear r1 hr
  · have hsz : vs.size = 2 := by rw [← Array.length_toList, e]; rfl
    have ht : ((ShT s S1.h tk) : Shared).heap.IsTuple a vs := ⟨o, ho, hc, nn, hd⟩
    rw [← hsz]
    refine wpAny_bind (wpAny_unpackItems_tuple (q.hand rfl) ht fun h' hk => ?_)
    obtain ⟨H2, x2⟩ := q1.H.grow (h' := h') (ext_fresh hk)
    have q2 : Run G true n Z c env fr { S1 with h := h' } (ShT s h' tk) := q1.step (tk := tk) H2 x2
    rw [e]
    have r1 : Rv G c { S1 with h := h' } v1 d1 := Rv.ext r10 x2
    have r2 : Rv G c { S1 with h := h' } v2 d2 := Rv.ext r20 x2
    show wpAny _ _ (do
      (do PySem.holding [v1] (bindName env y v2); (do PySem.holding [] (bindName env x v1); assignInOrder [] []))
      Pure.pure Flow.next) Q E _
    refine wpAny_bind (wpAny_bind (wpAny_holding (trBind q2 hy r2 _ _ (fun b hb u S3 tk3 e3 H3 x3 V3 _ => ?_) fun _ _ ho => by exact nVE ho)))
    have q3 := q2.stepS (tk := tk3) H3 V3
    refine wpAny_bind (wpAny_holding (trBind q3 hx (Rv.extS r1 x3 q2.V.ownIn) _ _ (fun b hb u S4 tk4 e4 H4 x4 V4 _ => ?_) fun _ _ ho => by exact nVE ho))
    refine wpAny_pure (wpAny_pure (hq _ rfl .next S4 tk4 ?_ H4 (((x2.s env).trans x3).trans x4) V4 trivial))
    rw [e4, e3]

/-- a comprehension's value stored as it is made -/
theorem Ex.asgnF {elt : Expr} {gens : List Comprehension} {scope : Scope} {pc pos pt : Pos} {x : PySem.Str} {run : Fr → List AO → Option (List D × List AO)} (h : CompL G n Z (.ListComp elt gens scope pc) run) (hx : NameK Z x)
    (hst : ∀ env, env.scope = Z → swapsWithSole [.Name x pt] (.ListComp elt gens scope pc) pos.line env = Pure.pure true) :
    Ex G true n Z (.Assign [.Name x pt] (.ListComp elt gens scope pc) pos) (fun fr σ => match run fr σ with
      | some (zs, σ') => if zs.length ≤ sizeLine then some (.val .next, upd fr x (.lst zs), σ') else none
      | none => none) := by
  intro c env fr S s out fr' σ' q hf hl hm
  dsimp only at hm
  split at hm
  rotate_left
  · exact nnS hm
  rename_i zs σ1 hr
  split at hm
  rotate_left
  · exact nnS hm
  rename_i hz
  cases hm
  rw [exec_Assign_arm, hst env q.scope]
  show TrF G c env S s (RF G c) (do
    PySem.standAt pos
    (do
      let _ ← comprehension (.ListComp elt gens scope pc) scope env (firstIterPos gens pc) (newList []) (firstAsync gens) (firstIter gens env) (some fun v => assign (.Name x pt) env v)
      Pure.pure ())
    Pure.pure Flow.next) _ _ _
  refine TrF.standAt ?_
  intro Q E hq hxx
  refine wpAny_bind (wpAny_bind (h c env fr S s zs σ' q hr hz (some fun v => assign (.Name x pt) env v) _ E fun D0 C its S' tk m' M hn => ?_))
  -- the store, C still apart
  have apC : Apart c [C] := ⟨fun a ha => by rcases List.mem_singleton.mp ha with rfl; exact M.ap.off _ M.thereC⟩
  have sub : ∀ a, a ∈ vol (c.addX [C]) S' → a ∈ vol (c.addX its) S' := fun a ha => (vol_addX.mp ha).elim (fun z => by rcases List.mem_singleton.mp z with rfl; exact vol_addX.mpr (.inl M.thereC)) fun z => vol_addX.mpr (.inr z)
  have HC : Heaps G (c.addX [C]) S' := ⟨M.H.ok, M.H.stays, M.H.frames, M.H.funs, M.H.fdict, fun L hL => M.H.xs L (by
      rcases List.mem_append.mp hL with z | z
      · rcases List.mem_singleton.mp z with rfl; exact List.mem_append_left _ M.thereC
      · exact List.mem_append_right _ z), M.H.len, fun n p o h1 h2 => ORep.mono (fun _ _ _ e => e) (.refl _) (.of_sub _ sub) (fun _ _ _ e => e) (M.H.store n p o h1 h2), M.H.new, M.H.nodup⟩
  have VC : EnvOk G (c.addX [C]) env fr S' := q.V.addX q.H M.ext fun a ha => by rcases List.mem_singleton.mp ha with rfl; exact M.new _ M.thereC
  have qC : Run G true n Z (c.addX [C]) env fr S' (ShT s S'.h tk) := ⟨q.scope, q.room, q.units, q.hand, rfl, HC, VC⟩
  have rC : Rv G (c.addX [C]) S' (.ref D0) (.lst zs) := by
    (refine xAEEA M.acc fun _ nn vs ho hr => ?_)
    refine .lst ho rfl rfl (by have := VRs.length hr; simp at this; omega) (fun hm => ?_) (VRs.mono (fun _ _ _ e => e) (.refl _) (.of_sub _ sub) hr)
    rcases vol_addX.mp hm with z | z
    · rcases List.mem_singleton.mp z with e; exact M.ne e
    · exact M.off (h' := S'.h) z
  show wpAny _ _ (do PySem.standAt pt; bindName env x (.ref D0)) _ _ _
  refine wpAny_bind (wpAny_standAt (trBind qC hx rC _ _ (fun b hb u S2 tk2 e2 H2 x2 V2 _ => ?_) fun _ _ ho => by cases ho))
  have hCns : C ∉ S'.reg := (HC.xs C (List.mem_append_left _ (.head _))).2.1
  have hCo : ¬ Own env C := fun ho => by
    rcases ho with z | ⟨y, z⟩
    · exact apC.off C (.head _) (z ▸ q.V.loc)
    · exact apC.off C (.head _) (List.mem_append_right _ (q.V.own y C z))
  (refine xEEEAA hn fun oC esC epC hoC hdC hrest => ?_; try clear hn)
  have hn2 : S2.h.Ns C m' := by
    rcases x2.keep C oC hoC hCns hCo with z | ⟨hfz, _⟩
    · exact ⟨oC, esC, epC, z, hdC, hrest⟩
    · exact absurd (List.mem_append_left _ hfz) (apC.off C (.head _))
  refine ⟨m', hn2, fun h' hs => wpAny_pure (wpAny_pure ?_)⟩
  have kk : ∀ b o, b ∉ [C] → S2.h.get? b = some o → h'.get? b = some o := fun b o hb e => hs.extBut b o (fun z => hb (z ▸ .head _)) e
  have xx : ExtS c env S S2 := (M.ext.s env).trans x2.ofX
  refine hq _ rfl .next { S2 with h := h' } tk2 (e2.trans M.σ) (H2.endX apC kk) (xx.turnX (fun a ha => by rcases List.mem_singleton.mp ha with rfl; exact M.new _ M.thereC) kk) ?_ trivial
  exact EnvOk.dropX q.V (EnvOk.turnX' apC q.V.loc q.V.own V2 kk)
end
end Mine
end
section
open PySem PySem.W PyProof.Rows
namespace Mine

section
variable {G : Amb} {c : Cx} {env : Env} {S : Gs} {s : Shared} {fr fr' : Fr} {hn : Bool} {n : Nat} {Z : Scope}

theorem CompMid.sub {β : Type} {Acc : Cx → Gs → List β → Prop} {zs : List β} {σ' : List AO} {D0 C : Addr} {its as : List Addr} {S' : Gs} (M : CompMid G c S Acc zs σ' D0 C its S') (hs : ∀ a ∈ as, a ∈ its) : Heaps G (c.addX as) S' :=
  ⟨M.H.ok, M.H.stays, M.H.frames, M.H.funs, M.H.fdict, fun L hL => M.H.xs L (by
      rcases List.mem_append.mp hL with z | z
      · exact List.mem_append_left _ (hs L z)
      · exact List.mem_append_right _ z), M.H.len, fun n p o h1 h2 => ORep.mono (fun _ _ _ e => e) (.refl _) (.of_sub _ fun a ha => (vol_addX.mp ha).elim (fun z => vol_addX.mpr (.inl (hs a z))) fun z => vol_addX.mpr (.inr z)) (fun _ _ _ e => e) (M.H.store n p o h1 h2), M.H.new, M.H.nodup⟩

/-- behind the loop of a comprehension, its value stored by its use -/
theorem trUse {x : PySem.Str} {pt : Pos} (q : Run G true n Z c env fr S s) (hx : NameK Z x) {β : Type} {Acc : Cx → Gs → List β → Prop} {zs : List β} {σ' σ2 : List AO} {D0 C : Addr} {its : List Addr} {S' S2 : Gs} {m' : PySem.Str → Option Value} {tk : Nat} {d : D} (M : CompMid G c S Acc zs σ' D0 C its S')
    (hn : S'.h.Ns C m') (h2 : S2.h = S'.h) (H2 : Heaps G (c.addX [C]) S2) (x2 : Ext c S S2) (rC : Rv G (c.addX [C]) S2 (.ref D0) d) (hσ : S2.σ = σ2) {Q : Unit → Shared → Prop} {E : Value → Shared → Prop}
    (hq : ∀ (S3 : Gs) tk, S3.σ = σ2 → Heaps G c S3 → ExtS c env S S3 → EnvOk G c env (upd fr x d) S3 → Q () (ShT s S3.h tk)) :
    wpAny G.M c.A (assign (.Name x pt) env (.ref D0)) (fun _ s'' => ∃ m, s''.heap.Ns C m ∧ ∀ h', Heap.SameBut C s''.heap h' → Q () { s'' with heap := h' }) E (ShT s S'.h tk) := by
  have apC : Apart c [C] := ⟨fun a ha => by rcases List.mem_singleton.mp ha with rfl; exact M.ap.off _ M.thereC⟩
  have VC : EnvOk G (c.addX [C]) env fr S2 := q.V.addX q.H x2 fun a ha => by rcases List.mem_singleton.mp ha with rfl; exact M.new _ M.thereC
  rw [← h2] at hn ⊢
  have qC : Run G true n Z (c.addX [C]) env fr S2 (ShT s S2.h tk) := ⟨q.scope, q.room, q.units, q.hand, rfl, H2, VC⟩
  show wpAny _ _ (do PySem.standAt pt; bindName env x (.ref D0)) _ _ _
  refine wpAny_bind (wpAny_standAt (trBind qC hx rC _ _ (fun b hb u S3 tk3 e3 H3 x3 V3 _ => ?_) fun _ _ ho => by exact nVE ho))
  have hCns : C ∉ S2.reg := (H2.xs C (List.mem_append_left _ (.head _))).2.1
  have hCo : ¬ Own env C := fun ho => by
    rcases ho with z | ⟨y, z⟩
    · exact apC.off C (.head _) (z ▸ q.V.loc)
    · exact apC.off C (.head _) (List.mem_append_right _ (q.V.own y C z))
  (refine xEEEAA hn fun oC esC epC hoC hdC hrest => ?_; try clear hn)
  have hn2 : S3.h.Ns C m' := by
    rcases x3.keep C oC hoC hCns hCo with z | ⟨hfz, _⟩
    · exact ⟨oC, esC, epC, z, hdC, hrest⟩
    · exact absurd (List.mem_append_left _ hfz) (apC.off C (.head _))
  refine ⟨m', hn2, fun h' hs => ?_⟩
  have kk : ∀ b o, b ∉ [C] → S3.h.get? b = some o → h'.get? b = some o := fun b o hb e => hs.extBut b o (fun z => hb (z ▸ .head _)) e
  have xx : ExtS c env S S3 := (x2.s env).trans x3.ofX
  exact hq { S3 with h := h' } tk3 (e3.trans hσ) (H3.endX apC kk) (xx.turnX (fun a ha => by rcases List.mem_singleton.mp ha with rfl; exact M.new _ M.thereC) kk) (EnvOk.dropX q.V (EnvOk.turnX' apC q.V.loc q.V.own V3 kk))

end

/-- a comprehension that makes a dict -/
noncomputable def CompDct (G : Amb) (n : Nat) (Z : Scope) (e : Expr) (run : Fr → List AO → Option (List (PySem.Str × D) × List AO)) : Prop :=
  ∀ c env fr S s zs σ', Run G true n Z c env fr S s → run fr S.σ = some (zs, σ') → GoodD zs → ∀ (use : Option (Value → Sem Unit)) (Q : Value → Shared → Prop) (E : Value → Shared → Prop),
    (∀ (D0 C : Addr) (its : List Addr) (S' : Gs) tk m', CompMid G c S (AccD G D0) zs σ' D0 C its S' → S'.h.Ns C m' → compPost G.M c.A E use Q (.ref D0) C (.ok .next) (ShT s S'.h tk)) →
    wpAny G.M c.A (match e with | .DictComp _ _ gens scope pos => comprehension e scope env (firstIterPos gens pos) newDict (firstAsync gens) (firstIter gens env) use | _ => unsupported "") Q E s

section
variable {G : Amb} {n : Nat} {Z : Scope} {val target iter key : Expr} {ifs : List Expr} {scope : Scope} {pos : Pos} {W : List PySem.Str} {m : Mo D} {tgt : D → Fr → Fr} {ok : D → Bool} {test : Mo Bool} {mk mv : Mo D}

theorem goodD_pre (a b : List (PySem.Str × D)) (h : GoodD (a ++ b)) : GoodD a := by
  (refine xA h fun h1 h2 => ?_; try clear h)
  rw [List.map_append] at h1
  rw [List.length_append] at h2
  exact ⟨(List.nodup_append.mp h1).1, by omega⟩
theorem CompDct.one (hi : Ev G true n Z iter m) (hT : AsC G n (relab scope Z) W target tgt ok) (hTs : Ts G n (relab scope Z) ifs test) (hk : Ev G true n (relab scope Z) key mk) (hv : Ev G true n (relab scope Z) val mv) (hsc : goodScope scope Z W = true)
    (hs : ∀ env x, foldedSetIterable iter env x = Pure.pure x := by intro _ _; rfl) : CompDct G n Z (.DictComp key val [⟨target, iter, ifs, 0⟩] scope pos) (lcRun scope m tgt ok test (emPair mk mv)) := by
  intro c env fr S s zs σ' q hm hz use Q E hq
  (refine xEE (lcRunE hm) fun d σ1 w16z => ?_; refine xEEAA w16z fun x fr' h1 h2 h3 => ?_)
  exact trComp (g := ⟨target, iter, ifs, 0⟩) (Good := GoodD) (Acc := AccD G) (emit := emitD key val) q rfl hs hsc rfl newDict_raw (fun D0 O h => Accu.dct h)
    (fun D0 c S hf h => ⟨hf, [], ⟨_, #[], 0, h, ⟨rfl, rfl, rfl⟩, rfl, (fun e he => by simp at he), .nil, List.Pairwise.nil⟩, rfl, .nil⟩)
    (fun D0 O c0 cenv a1 a2 a3 a4 a5 _ _ _ _ _ => EmT.dct hk hv a1 a2 a3 a4 a5) goodD_pre hT hTs (fun _ _ => Clause.dict1) hi h1 h2 h3 hz hq

open Classical in
theorem Ev.dcF {gens : List Comprehension} {run : Fr → List AO → Option (List (PySem.Str × D) × List AO)} (h : CompDct G n Z (.DictComp key val gens scope pos) run) : Ev G true n Z (.DictComp key val gens scope pos) (fun fr σ => match run fr σ with
    | some (zs, σ') => if GoodD zs then some (.val (.dct zs), σ') else none
    | none => none) := by
  intro c env fr S s out σ' q hm
  dsimp only at hm
  split at hm
  rotate_left
  · exact nnS hm
  rename_i zs σ1 hr
  split at hm
  rotate_left
  · exact nnS hm
  rename_i hz
  (have k1 := (s2A hm).symm; have k2 := (s2B hm).symm; clear hm; subst k1 k2)
  intro Q E hq _
  refine h c env fr S s zs σ' q hr hz none Q E fun D0 C its S' tk m' M hn => ⟨m', hn, fun h' hs => ?_⟩
  (refine xA (M.back hs) fun H x => ?_)
  exact hq _ rfl (.ref D0) { S' with h := h' } tk M.σ H x (M.dctF hs)

open Classical in
theorem Ex.asgnD {gens : List Comprehension} {pt ps : Pos} {x : PySem.Str} {run : Fr → List AO → Option (List (PySem.Str × D) × List AO)} (h : CompDct G n Z (.DictComp key val gens scope pos) run) (hx : NameK Z x)
    (hst : ∀ env, env.scope = Z → swapsWithSole [.Name x pt] (.DictComp key val gens scope pos) ps.line env = Pure.pure true) :
    Ex G true n Z (.Assign [.Name x pt] (.DictComp key val gens scope pos) ps) (fun fr σ => match run fr σ with
      | some (zs, σ') => if GoodD zs then some (.val .next, upd fr x (.dct zs), σ') else none
      | none => none) := by
  intro c env fr S s out fr' σ' q hf hl hm
  dsimp only at hm
  split at hm
  rotate_left
  · exact nnS hm
  rename_i zs σ1 hr
  split at hm
  rotate_left
  · exact nnS hm
  rename_i hz
  refine TrF.cast hm ?_
  rw [exec_Assign_arm, hst env q.scope]
  show TrF G c env S s (RF G c) (do
    PySem.standAt ps
    (do
      let _ ← comprehension (.DictComp key val gens scope pos) scope env (firstIterPos gens pos) newDict (firstAsync gens) (firstIter gens env) (some fun v => assign (.Name x pt) env v)
      Pure.pure ())
    Pure.pure Flow.next) _ _ _
  refine TrF.standAt ?_
  intro Q E hq hxx
  refine wpAny_bind (wpAny_bind (h c env fr S s zs _ q hr hz (some fun v => assign (.Name x pt) env v) _ E fun D0 C its S' tk m' M hn => ?_))
  have HC : Heaps G (c.addX [C]) S' := M.sub (as := [C]) fun a ha => by rcases List.mem_singleton.mp ha with rfl; exact M.thereC
  have sub : ∀ a, a ∈ vol (c.addX [C]) S' → a ∈ vol (c.addX its) S' := fun a ha => (vol_addX.mp ha).elim (fun z => by rcases List.mem_singleton.mp z with rfl; exact vol_addX.mpr (.inl M.thereC)) fun z => vol_addX.mpr (.inr z)
  have rC : Rv G (c.addX [C]) S' (.ref D0) (.dct zs) := by
    (refine xAEAA M.acc fun _ kvs q0z h5 hr => ?_; refine xEEEAAAAA q0z fun o es ep ho hex hd hk hp hnn => ?_)
    obtain ⟨oc, od, odt, osl⟩ := o
    (refine xAA hex fun e1 e2 e3 => ?_; try clear hex)
    dsimp only at e1 e2 e3 hd
    subst e1 e2 e3 hd
    refine .dct M.big ho (by rw [← h5]; exact hnn) (fun hm => ?_) (vre_of rfl (fun e he => hk e (by simpa using he)) hp h5 (VRs.mono (fun _ _ _ e => e) (.refl _) (.of_sub _ sub) hr))
    rcases vol_addX.mp hm with z | z
    · exact M.ne (List.mem_singleton.mp z)
    · exact M.off (h' := S'.h) z
  refine trUse (Q := fun u s'' => wpAny G.M c.A (Pure.pure ()) (fun _ s' => wpAny G.M c.A (Pure.pure Flow.next) Q E s') E s'') q hx M hn rfl HC M.ext rC M.σ fun S3 tk3 e3 H3 x3 V3 => ?_
  exact wpAny_pure (wpAny_pure (hq _ rfl .next S3 tk3 e3 H3 x3 V3 trivial))
end
end Mine
end
section
open PySem PySem.W PyProof.Rows
namespace Mine

noncomputable def dele (fr : Fr) (x : PySem.Str) : Fr := fun y => if y = x then none else fr y

section
variable {G : Amb} {c : Cx} {S : Gs} {s : Shared} {env : Env} {fr : Fr} {n : Nat} {Z : Scope}

/-- the heap behind a caught exception -/
theorem Heaps.caught (H : Heaps G c S) {h5 : Heap} (k : (hideAll S.h c.fs).StaysIn h5) (sl : S.h.UpToSlots h5) : Heaps G c { S with h := h5 } ∧ Ext c S { S with h := h5 } := by
  have off : ∀ b o, b ∉ c.fs → S.h.get? b = some o → h5.get? b = some o := fun b o hb e => k b o (hideAll_get _ e hb)
  have onf : ∀ b o, b ∈ c.fs → S.h.get? b = some o → ∃ sl, h5.get? b = some { o with slots := sl } := fun b o hb e => by
    (refine xA (H.fdict b hb) fun q0z _ => ?_; refine xEEEA q0z fun o' es m e' hd => ?_)
    rw [e] at e'; (have k1 := s1E e'; clear e'; subst k1)
    exact sl b o e fun vs q => by rw [hd] at q; exact nAny PySem.Data.ctorIdx q rfl
  have x : Ext c S { S with h := h5 } := ⟨.refl _, fun b o e _ => by
    by_cases hb : b ∈ c.fs
    · exact .inr ⟨hb, onf b o hb e⟩
    · exact .inl (off b o hb e), fun _ h => .inl h, fun b o e => by
    by_cases hb : b ∈ c.fs
    · (refine xE (onf b o hb e) fun sl h => ?_); exact ⟨_, h⟩
    · exact ⟨o, off b o hb e⟩⟩
  refine ⟨⟨H.ok, fun b o e => off b o (fun hb => by rw [(H.funs.mem hb).1] at e; exact nnS e) (H.stays b o e), H.frames, ?_, fun L hL => ?_, fun L hL => ?_, H.len, fun j p o h1 h2 => ?_, H.new, H.nodup⟩, x⟩
  · refine funFrames_of H.funs fun L hL o e hd => ?_
    (refine xE (onf L o hL e) fun sl h => ?_)
    exact ⟨_, h, hd⟩
  · (refine xA (H.fdict L hL) fun q0z r => ?_; refine xEEEA q0z fun o es m e hd => ?_)
    (refine xE (onf L o hL e) fun sl h => ?_)
    exact ⟨⟨_, es, m, h, hd⟩, r⟩
  · (refine xA (H.xs L hL) fun q0z r => ?_; refine xE q0z fun o e => ?_)
    (refine xE (x.live L o e) fun o' e' => ?_)
    exact ⟨⟨o', e'⟩, r⟩
  · exact ORep.mono x.pres x.adr x.volLe (fun a ha o e => off a o (fun hf => (H.fdict a hf).2 (reg_mem h1 h2 a ha)) e) (H.store j p o h1 h2)

theorem nameBlt {x : PySem.Str} {pos : Pos} {v : Value} (H : Heaps G c S) (V : EnvOk G c env fr S) (hs : s.heap = S.h) {A : Around} (hk : env.kindOf x = some .globalImplicit) (e : nsIn G.K mainGlobals x = some none) (hv : bootBuiltins x = some v) (hnm : x ≠ "__name__") (hd : (x == ("__debug__" : PySem.Str)) = false)
    {Q : Value → Shared → Prop} {E : Value → Shared → Prop} (hq : Q v s) : wpAny G.M A (eval (.Name x pos) env) Q E s := by
  refine Calls.Name_function_global V.kind hk (Calls.loadGlobal_builtin (mg := G.mg) (mb := G.mb) (v := v) ?_ (mg_none_of H.ok.inK H.ok.g e) ?_ ((H.ok.builtins x hnm).trans hv) hq) hd
  · rw [V.glob, hs]; exact H.ok.g.keeps H.stays
  · rw [V.blt, hs]; exact H.ok.b.keeps H.stays

noncomputable def subE (X T : String) : Option Bool := if X = "ValueError" ∨ X = "AssertionError" ∨ X = "TypeError" then (if T = "ValueError" ∨ T = "AssertionError" ∨ T = "TypeError" then some (decide (X = T)) else none) else none
theorem subE_ok {X T : String} {b : Bool} (h : subE X T = some b) : isSubtype (.type X) (.type T) = pure b := by
  unfold subE at h
  split at h
  · rename_i hX
    split at h
    · rename_i hT
      (have k1 := s1E h; clear h; subst k1)
      rcases hX with rfl | rfl | rfl <;> rcases hT with rfl | rfl | rfl <;> (rw [isSubtype_type]; kernel_rfl)
    · exact nnS h
  · exact nnS h
theorem excE_ok {T : String} (hT : T = "ValueError" ∨ T = "AssertionError" ∨ T = "TypeError") : isSubtype (.type T) (.type "BaseException") = pure true ∧ isSubtype (.type ((Manifest.find? T).elim "type" fun x => x.metatype)) (.type "tuple") = pure false := by
  rcases hT with rfl | rfl | rfl
  · exact ⟨PySem.F.isExc_ValueError, PySem.F.notTuple_ValueError⟩
  · exact ⟨PySem.F.isExc_AssertionError, PySem.F.notTuple_AssertionError⟩
  · exact ⟨PySem.F.isExc_TypeError, PySem.F.notTuple_TypeError⟩
theorem subE_T {X T : String} {b : Bool} (h : subE X T = some b) : T = "ValueError" ∨ T = "AssertionError" ∨ T = "TypeError" := by
  unfold subE at h
  split at h
  · split at h
    · assumption
    · exact nnS h
  · exact nnS h

structure Hdl where
  T : String
  n : PySem.Str
  m : Mf SF
structure HdlOk (G : Amb) (n : Nat) (Z : Scope) (x : PySem.Str) (suite : List Stmt) (d : Hdl) : Prop where
  kind : Z.names.lookup x = some .globalImplicit
  glo : nsIn G.K mainGlobals x = some none
  blt : bootBuiltins x = some (.type d.T)
  nn : x ≠ "__name__"
  dbg : (x == ("__debug__" : PySem.Str)) = false
  loc : Z.names.lookup d.n = some .local
  suite : Exs G false n Z suite d.m
noncomputable def HdlsOk (G : Amb) (n : Nat) (Z : Scope) : List ExceptHandler → List Hdl → Prop
  | [], [] => True
  | h :: hs, d :: ds => (∃ x np b₀ suite pos, h = .ExceptHandler (some (.Name x np)) (some d.n) (b₀ :: suite) pos ∧ HdlOk G n Z x (b₀ :: suite) d) ∧ HdlsOk G n Z hs ds
  | _, _ => False
noncomputable def Mf.catch : List Hdl → String → PySem.Str → Mf SF
  | [], _, _ => fun _ _ => none
  | h :: r, X, msg => match subE X h.T with
    | some true => fun fr σ => match h.m (upd fr h.n (.exc X msg)) σ with
      | some (.val f, fr', σ') => some (.val f, dele fr' h.n, σ')
      | _ => none
    | some false => Mf.catch r X msg
    | none => fun _ _ => none
noncomputable def Mf.try (body : Mf SF) (hs : List Hdl) : Mf SF := fun fr σ => match body fr σ with
  | some (.exc X msg, fr', σ') => Mf.catch hs X msg fr' σ'
  | r => r

theorem trUnbind {A : Around} (H : Heaps G c S) (V : EnvOk G c env fr S) (hs : s.heap = S.h) {x : PySem.Str} {p : Pos} (hk : env.kindOf x = some .local) {d : D} (hb : fr x = some d) {Q : Unit → Shared → Prop} {E : Value → Shared → Prop}
    (hq : ∀ (S' : Gs), S'.σ = S.σ → Heaps G c S' → ExtS c env S S' → EnvOk G c env (dele fr x) S' → Q () { s with heap := S'.h }) : wpAny G.M A (unbindBehindTheSuite env x p) Q E s := by
  (refine xEA V.vars fun m hm hval => ?_)
  (refine xEA (hval x d hb hk) fun w hw _ => ?_)
  have hp : (env.scope.kind == .class || (env.scope.kind == .module && env.locals != env.globals)) = false := by rw [V.kind]; rfl
  unfold unbindBehindTheSuite
  refine wpAny_onRaise (wpAny_unbindName_local hk (by rw [hs]; exact hm) hw hp fun h' u hm' hs' => ?_)
  rw [hs] at hs'
  (refine xA (H.atLocals V.loc hs' hm') fun H' xx => ?_)
  refine hq { S with h := h' } rfl H' xx ⟨V.kind, V.glob, V.blt, V.frame, V.loc, ⟨_, hm', fun y dy hy hky => ?_⟩, fun y hy => ?_, V.own, V.apart⟩
  · unfold dele at hy
    split at hy
    · exact nnS hy
    · rename_i hne
      (refine xEA (hval y dy hy hky) fun w' hw' r => ?_)
      exact ⟨w', by rw [if_neg hne]; exact hw', r.extS xx V.ownIn⟩
  · (refine xEEAA (V.cell y hy) fun k v0 hl hc hd => ?_)
    have hne : k ≠ env.locals := fun q => by
      (refine xEA hc fun o ho hdo => ?_; try clear hc)
      (refine xEEEAA hm fun o2 _ _ ho2 hdo2 _ => ?_; try clear hm)
      rw [q, ho2] at ho; (have k1 := s1E ho; clear ho; subst k1); rw [hdo2] at hdo; exact nAny PySem.Data.ctorIdx hdo rfl
    refine ⟨k, v0, hl, hc.sameBut hs' hne, fun dy hy' => ?_⟩
    unfold dele at hy'
    split at hy'
    · exact nnS hy'
    · (refine xEA (hd dy hy') fun w' hw' r => ?_)
      exact ⟨w', hw', r.extS xx V.ownIn⟩

theorem trHandle {L : Addr} (hf : c.fenv = env) (hlc : env.frame = some env.locals) (scope : env.scope = Z) (room : c.A.depth + 3 * n < recursionLimit) (units : c.A.units + 30 * n < cLine) (H : Heaps G c S) (V : EnvOk G c env fr S) {e t : Addr} {X : String} {msg : PySem.Str} {tk : Tok}
    (he : S.h.get? e = none) (ht : S.h.get? t = none) : ∀ {hs : List ExceptHandler} {ds : List Hdl}, HdlsOk G n Z hs ds → ∀ {s : Shared}, Heap.FlyingW (hideAll S.h c.fs) c.stack e (.type X) (.ref t) s.heap → s.heap.TupAt t [.str msg tk] → S.h.UpToSlots s.heap →
      ∀ {out fr' σ'}, Mf.catch ds X msg fr S.σ = some (out, fr', σ') → ∀ {Q : Flow → Shared → Prop} {E : Value → Shared → Prop},
        (∀ b, out = .val b → ∀ a (S' : Gs) tk, S'.σ = σ' → Heaps G c S' → ExtS c env S S' → EnvOk G c env fr' S' → RF G c S' a b → Q a (ShT s S'.h tk)) → wpAny G.M c.A (handleBy (.ref e) env hs) Q E s
  | [], [], _, _, _, _, _, _, _, _, hm, _, _, _ => by exact nnS hm
  | [], _ :: _, h, _, _, _, _, _, _, _, _, _, _, _ => h.elim
  | _ :: _, [], h, _, _, _, _, _, _, _, _, _, _, _ => h.elim
  | h₁ :: hs, d :: ds, h, s, fl, tup, sl, out, fr', σ', hm, Q, E, hq => by
    (refine xA h fun q0z hrest => ?_; try clear h; refine xEE q0z fun x np w17z => ?_; refine xEEEA w17z fun b₀ suite pos q1z ok => ?_; subst q1z)
    unfold Mf.catch at hm
    cases hsub : subE X d.T with
    | none => rw [hsub] at hm; exact nnS hm
    | some b =>
      rw [hsub] at hm
      (refine xA (excE_ok (subE_T hsub)) fun hexc hnt => ?_)
      (refine xA (H.caught (h5 := s.heap) fl.1 sl) fun H5 x5 => ?_)
      have V5 := x5.env H V
      (refine xEA fl.there fun ob hob hobc => ?_)
      refine wpAny_handleBy_builtin_as (X := X) (T := d.T) (b := b) hexc hnt (subE_ok hsub) ?_
      refine nameBlt (S := { S with h := s.heap }) H5 V5 rfl ((kindOf_scope scope).trans ok.kind) ok.glo ok.blt ok.nn ok.dbg ⟨rfl, ⟨ob, hob, hobc⟩, ?_⟩
      cases b with
      | false =>
        rw [if_neg (by decide)]
        exact trHandle (L := L) hf hlc scope room units H V he ht hrest fl tup sl hm hq
      | true =>
        rw [if_pos rfl]
        dsimp only at hm
        split at hm
        rotate_left
        · exact nnS hm
        rename_i f frs σs hmm
        (have k1 := s3A hm; have k2 := s3B hm; have k3 := s3C hm; clear hm; subst k1 k2 k3)
        refine lands_againW fl fun h6 fl6 sl6 => ?_
        (refine xA (H.caught (h5 := h6) fl6.1 (sl.trans sl6)) fun H6 x6 => ?_)
        have V6 := x6.env H V
        (refine xEEAAA fl6.first fun oe ws hoe hoec hoed hoe0 => ?_)
        have tup6 := tup.of_slots sl6
        have nin : ∀ a, S.h.get? a = none → a ∉ vol c { S with h := h6 } := fun a ha hm => by
          (refine xE (H.vol_some (show a ∈ vol c S from hm)) fun o ho => ?_)
          rw [ha] at ho; exact nnS ho
        have rv : Rv G c { S with h := h6 } (.ref e) (.exc X msg) := .exc hoe hoec hoed hoe0 tup6 (nin e he) (nin t ht)
        have hk' : env.kindOf d.n = some .local := (kindOf_scope scope).trans ok.loc
        -- the name bound
        (refine xEA V6.vars fun m hmN hval => ?_)
        have hp : (env.scope.kind == .class || (env.scope.kind == .module && env.locals != env.globals)) = false := by rw [V6.kind]; rfl
        refine wpAny_storeName_local hk' hmN (fun h7 hm7 hs7 => ?_) hp
        have hs7' : Heap.SameBut env.locals h6 h7 := hs7
        (refine xA (H6.atLocals (env := env) V6.loc hs7' hm7) fun H7 x7 => ?_)
        have V7 := V6.setLocal H6 hk' rv hmN hval hs7' hm7
        have HM : Heaps G { c with A := c.A.mark (some (.ref e)) } { S with h := h7 } := H7.setA rfl
        have VM : EnvOk G { c with A := c.A.mark (some (.ref e)) } env (upd fr d.n (.exc X msg)) { S with h := h7 } := ⟨V7.kind, V7.glob, V7.blt, V7.frame, V7.loc, V7.vars, V7.cell, V7.own, V7.apart⟩
        have qM : Run G false n Z { c with A := c.A.mark (some (.ref e)) } env (upd fr d.n (.exc X msg)) { S with h := h7 } (ShT s h7 (s.toks + 1)) := ⟨scope, room, units, (fun h => by exact nFT h), rfl, HM, VM⟩
        refine ok.suite { c with A := c.A.mark (some (.ref e)) } env _ _ _ _ _ _ qM hf hlc hmm _ _ (fun b hb a S8 tk8 e8 H8 x8 V8 r8 => ?_) fun _ _ ho => by exact nVE ho
        (have k1 := valE hb; clear hb; subst k1)
        have H8' : Heaps G c S8 := H8.setA rfl
        have V8' : EnvOk G c env frs S8 := ⟨V8.kind, V8.glob, V8.blt, V8.frame, V8.loc, V8.vars, V8.cell, V8.own, V8.apart⟩
        have x8' : ExtS c env { S with h := h7 } S8 := ⟨x8.adr, x8.keep, x8.fresh, x8.live⟩
        have q8 : Run G false n Z c env frs S8 (ShT s S8.h tk8) := ⟨scope, room, units, (fun h => by exact nFT h), rfl, H8', V8'⟩
        refine wpAny_bind (trStoreLocal q8 ok.loc (.none) _ _ (fun _ _ u S9 tk9 e9 H9 x9 V9 _ => ?_) fun _ _ ho => by exact nVE ho)
        refine trUnbind (s := (ShT s S9.h tk9)) H9 V9 rfl hk' (d := .none) upd_self fun S10 e10 H10 x10 V10 => ?_
        have e1 : dele (upd frs d.n .none) d.n = dele frs d.n := by
          funext y
          unfold dele upd
          by_cases hy : y = d.n <;> simp [hy]
        rw [e1] at V10
        have xx : ExtS c env S8 S10 := x9.trans x10
        have rf : RF G c S10 a f := by
          have r8' : RF G c S8 a f := r8
          cases a with
          | ret v => cases f with
            | ret dd => exact Rv.extS r8' xx V8'.ownIn
            | _ => exact r8'.elim
          | next => cases f <;> exact r8'
          | brk => cases f <;> exact r8'
          | cont => cases f <;> exact r8'
        exact hq _ rfl a S10 tk9 ((e10.trans e9).trans e8) H10 ((((x6.s env).trans x7).trans x8').trans xx) V10 rf

theorem Ex.try {body : List Stmt} {h₀ : ExceptHandler} {hs : List ExceptHandler} {pos : Pos} {m : Mf SF} {ds : List Hdl} (hb : Exs G true n Z body m) (hh : HdlsOk G n Z (h₀ :: hs) ds) : Ex G true n Z (.Try body (h₀ :: hs) [] [] pos) (Mf.try m ds) := by
  intro c env fr S s out fr' σ' q hf hl hm
  show TrF G c env S s (RF G c) (do PySem.standAt pos; tryStmt false (execs body env) (h₀ :: hs) (execs [] env) [] env) out fr' σ'
  refine TrF.standAt ?_
  intro Q E hq hx
  refine wpAny_tryStmt_except ?_
  unfold Mf.try at hm
  cases hmm : m fr S.σ with
  | none => rw [hmm] at hm; exact nnS hm
  | some p =>
    obtain ⟨o, fr1, σ1⟩ := p
    rw [hmm] at hm
    cases o with
    | val f =>
      (have k1 := s3A hm; have k2 := s3B hm; have k3 := s3C hm; clear hm; subst k1 k2 k3)
      refine hb c env fr S s _ _ _ q hf hl hmm _ _ (fun b hb' a S' tk e' H' x' V' r' => ?_) fun _ _ ho => by exact nVE ho
      (have k1 := valE hb'; clear hb'; subst k1)
      have fin := hq f rfl a S' tk e' H' x' V' r'
      cases a with
      | next => exact wpAny_execs_nil fin
      | _ => exact fin
    | exc X msg =>
      dsimp only at hm
      refine hb c env fr S s _ _ _ q hf hl hmm _ _ (fun b hb' => by exact nEV hb') fun X' msg' ho S' e h' tk e' H' x' V' th => ?_
      (have k1 := excA ho; have k2 := excB ho; clear ho; subst k1 k2)
      refine trNote (s := (ShT s h' tk)) H' hf hl th fun h4 th4 => ?_
      (refine xEEAAA th4 fun t tk' k3 k4 k5 w18z => ?_; refine xA w18z fun k6 w19z => ?_; refine xEA w19z fun L hL hd => ?_; try clear th4)
      refine wpAny_landsW (s := (ShT s h4 tk)) hd fun h5 fl sl5 => ?_
      refine trHandle (L := L) (s := (ShT s h5 tk)) hf hl q.scope q.room q.units H' V' k5 k4 hh fl (k3.of_slots sl5) (k6.trans sl5) (by rw [e']; exact hm) fun b hb' a S'' tk'' e'' H'' x'' V'' r'' => ?_
      exact hq b hb' a S'' tk'' e'' H'' (x'.trans x'') V'' r''
end
end Mine
end
section
open PySem PySem.W PyProof.Rows
namespace Mine

section
variable {G : Amb} {n : Nat} {Z : Scope}

theorem Ex.raise {X newId initId : String} (F : ExcCallFacts X newId initId) (FR : ExcRaiseFacts X) {x : PySem.Str} {np cpos pos : Pos} {a : Expr} {m : Mo D} (hk : Z.names.lookup x = some .globalImplicit) (e : nsIn G.K mainGlobals x = some none) (hv : bootBuiltins x = some (.type X)) (hnm : x ≠ "__name__")
    (hd : (x == ("__debug__" : PySem.Str)) = false) (h : Ev G true n Z a m) (hs : notStar a = true) : Ex G true n Z (.Raise (some (.Call (.Name x np) [a] [] cpos)) none pos) (Mf.bind (Mf.lift m) fun d fr σ => match d with
      | .str msg => some (.exc X msg, fr, σ)
      | _ => none) := by
  intro c env fr S s out fr' σ' q hf hl hm
  intro Q E hq hx
  have hk' := (kindOf_scope q.scope).trans hk
  have hst := star_all (pos := cpos) (env := env) (es := [a]) (by show (notStar a && true) = true; rw [hs]; rfl)
  refine wpAny_Raise_call F FR (q.hand rfl) hst (nameBlt q.H q.V q.heap hk' e hv hnm hd ⟨rfl, ?_⟩)
  have es : starEach [a] env = [(false, eval a env)] := starEach_cons hs
  rw [es]
  refine Calls.evalArgs_plain (Calls.spliced_cons ?_)
  rcases bindLift hm with ⟨d, σ1, h1, h2⟩ | ⟨X', msg, σ1, h1, e'⟩
  · refine h c env fr S s _ _ q h1 _ _ (fun b hb v S1 tk e1 H1 x1 r1 => ?_) fun _ _ ho => by exact nVE ho
    (have k1 := valE hb; clear hb; subst k1)
    refine Calls.spliced_nil ⟨rfl, by show 1 ≤ sizeLine; decide, fun h' ex hex => ?_⟩
    split at h2
    rotate_left
    · exact nnS h2
    rename_i msg
    (have k1 := s3A h2; have k2 := s3B h2; have k3 := s3C h2; clear h2; subst k1 k2 k3)
    refine xEA (VR.i_str r1) fun _ ev _ => ?_
    subst ev
    exact hx X msg rfl S1 ex h' tk e1 H1 (x1.s env) (x1.env q.H q.V) (.inl ⟨_, Heap.MadeExc.of hex⟩)
  · cases e'
    refine h c env fr S s _ _ q h1 _ _ (fun b hb => by exact nEV hb) fun X2 msg2 ho S1 ex h' tk e1 H1 x1 th => ?_
    (have k1 := excA ho; have k2 := excB ho; clear ho; subst k1 k2)
    exact hx X' msg rfl S1 ex h' tk e1 H1 (x1.s env) (x1.env q.H q.V) th
end
end Mine
end
section
open PySem PySem.W PyProof.Rows
namespace Mine

mutual
noncomputable def pyD (look : Nat → Option PyData) : D → Option PyData
  | .none => some .none
  | .bool b => some (.bool b)
  | .int i => some (.int i)
  | .str x => some (.str x)
  | .tup ds => (pyDs look ds).map .tuple
  | .lst ds => (pyDs look ds).map .list
  | .ref n => look n
  | _ => none
noncomputable def pyDs (look : Nat → Option PyData) : List D → Option (List PyData)
  | [] => some []
  | d :: ds => (pyD look d).bind fun x => (pyDs look ds).map fun xs => x :: xs
end
noncomputable def look0 : Nat → Option PyData := fun _ => none
noncomputable def look1 (σ : List AO) (n : Nat) : Option PyData := match σ[n]? with
  | some (.lst ds) => (pyDs look0 ds).map .list
  | _ => none
noncomputable def look2 (σ : List AO) (n : Nat) : Option PyData := match σ[n]? with
  | some (.lst ds) => (pyDs (look1 σ) ds).map .list
  | _ => none

section
variable {P : Params} {adr : Adr} {V : List Addr} {h : Heap} {look : Nat → Option PyData}

mutual
theorem reads_of (hl : ∀ n p x, adr[n]? = some p → look n = some x → ∃ as, Reads h (.ref p.1) x as) : ∀ {d : D} {v : Value} {x : PyData}, VR P adr V h v d → pyD look d = some x → ∃ as, Reads h v x as
  | .none, _, _, r, e => by have q := r.i_none; subst q; (have k1 := s1E e; clear e; subst k1); exact ⟨_, .none⟩
  | .bool _, _, _, r, e => by have q := r.i_bool; subst q; (have k1 := s1E e; clear e; subst k1); exact ⟨_, .bool _⟩
  | .int _, _, _, r, e => by refine xE r.i_int fun t q => ?_; subst q; (have k1 := s1E e; clear e; subst k1); exact ⟨_, .int _ _⟩
  | .str _, _, _, r, e => by refine xEA r.i_str fun t q _ => ?_; subst q; (have k1 := s1E e; clear e; subst k1); exact ⟨_, .str _ _⟩
  | .tup ds, _, _, r, e => by
    refine xEEEEAAAAAA r.i_tup fun a o vs nn q h1 h2 h3 _ _ h6 => ?_
    subst q
    · skip
      (refine xEA (Option.map_eq_some_iff.mp e) fun xs hx e' => ?_)
      subst e'
      (refine xE (readsAll_of hl h6 hx) fun as ra => ?_)
      exact ⟨_, .tuple h1 h2 h3 ra⟩
  | .lst ds, _, _, r, e => by
    refine xEEEEAAAAAA r.i_lst fun a o vs nn q h1 h2 h3 _ _ h6 => ?_
    subst q
    · skip
      (refine xEA (Option.map_eq_some_iff.mp e) fun xs hx e' => ?_)
      subst e'
      (refine xE (readsAll_of hl h6 hx) fun as ra => ?_)
      exact ⟨_, .list h1 h2 h3 ra⟩
  | .ref n, _, _, r, e => by
    refine xEA r.i_ref fun p q hp => ?_
    subst q
    exact hl _ _ _ hp e
  | .dct _, _, _, _, e => by exact nnS e
  | .glob _, _, _, _, e => by exact nnS e
  | .exc _ _, _, _, _, e => by exact nnS e
  | .rng _ _, _, _, _, e => by exact nnS e
theorem readsAll_of (hl : ∀ n p x, adr[n]? = some p → look n = some x → ∃ as, Reads h (.ref p.1) x as) : ∀ {ds : List D} {vs : List Value} {xs : List PyData}, VRs P adr V h vs ds → pyDs look ds = some xs → ∃ as, ReadsAll h vs xs as
  | [], _, _, r, e => by have q := r.i_nil; subst q; (have k1 := s1E e; clear e; subst k1); exact ⟨_, .nil⟩
  | d :: ds, _, _, r, e => by
    refine xEEAA r.i_cons fun v ws q rv rs => ?_
    subst q
    · skip
      (refine xEA (Option.bind_eq_some_iff.mp e) fun x hx e => ?_)
      (refine xEA (Option.map_eq_some_iff.mp e) fun xs hxs e' => ?_)
      subst e'
      (refine xE (reads_of hl rv hx) fun as ra => ?_)
      (refine xE (readsAll_of hl rs hxs) fun bs rb => ?_)
      exact ⟨_, .cons ra rb⟩
end
end

section
variable {G : Amb} {hn : Bool} {n : Nat} {Z : Scope} {c : Cx} {S : Gs} {s : Shared}
theorem look1_ok (H : Heaps G c S) : ∀ n p x, S.adr[n]? = some p → look1 S.σ n = some x → ∃ as, Reads S.h (.ref p.1) x as := fun n p x hp e => by
  unfold look1 at e
  split at e
  · rename_i ds hk
    (refine xEA (Option.map_eq_some_iff.mp e) fun xs hx e' => ?_)
    subst e'
    (refine xEEAA (H.store n p _ hp hk) fun m vs h1 h4 h5 => ?_)
    (refine xE (readsAll_of (look := look0) (fun _ _ _ _ e => by exact nnS e) h5 hx) fun as ra => ?_)
    exact ⟨_, .list h1 rfl rfl ra⟩
  · exact nnS e
theorem look2_ok (H : Heaps G c S) : ∀ n p x, S.adr[n]? = some p → look2 S.σ n = some x → ∃ as, Reads S.h (.ref p.1) x as := fun n p x hp e => by
  unfold look2 at e
  split at e
  · rename_i ds hk
    (refine xEA (Option.map_eq_some_iff.mp e) fun xs hx e' => ?_)
    subst e'
    (refine xEEAA (H.store n p _ hp hk) fun m vs h1 h4 h5 => ?_)
    (refine xE (readsAll_of (look1_ok H) h5 hx) fun as ra => ?_)
    exact ⟨_, .list h1 rfl rfl ra⟩
  · exact nnS e
noncomputable def py (σ : List AO) (d : D) : Option PyData := (pyD (look2 σ) d).bind fun x => if SeqAt.shaped x then some x else none
theorem py_ok (H : Heaps G c S) {v : Value} {d : D} {x : PyData} (r : Rv G c S v d) (e : py S.σ d = some x) : (∃ as, Reads S.h v x as) ∧ SeqAt.shaped x = true := by
  unfold py at e
  (refine xEA (Option.bind_eq_some_iff.mp e) fun y hy e => ?_)
  split at e
  · rename_i hs
    (have k1 := s1E e; clear e; subst k1)
    exact ⟨reads_of (look2_ok H) r hy, hs⟩
  · exact nnS e

noncomputable def opEq : F2 := fun a b σ => (py σ a).bind fun x => (py σ b).map fun y => (.val (.bool (PyData.eqv x y)), σ)
noncomputable def opNe : F2 := fun a b σ => (py σ a).bind fun x => (py σ b).map fun y => (.val (.bool (!PyData.eqv x y)), σ)
theorem Ho.u64 (q : Ho G hn n c S s) (h3 : 3 ≤ n) : c.A.units + 64 < cLine := by have := q.units; omega
theorem Op2.eq (h3 : 3 ≤ n) : Op2 G hn n (compareOp .Eq) opEq := by
  intro c S s va vb da db out σ' q ra rb hm
  (refine xEA (Option.bind_eq_some_iff.mp hm) fun x hx hm => ?_)
  (refine xEA (Option.map_eq_some_iff.mp hm) fun y hy e => ?_)
  (have k1 := p2A e; have k2 := p2B e; clear e; subst k1 k2)
  (refine xA (py_ok q.H ra hx) fun q0z s1 => ?_; refine xE q0z fun as r1 => ?_)
  (refine xA (py_ok q.H rb hy) fun q0z s2 => ?_; refine xE q0z fun bs r2 => ?_)
  exact Tr.tok q.H q.heap fun Q E hq => eq_dataH (by rw [q.heap]; exact r1) (by rw [q.heap]; exact r2) s1 s2 (q.u64 h3) (hq _ s.toks (.bool _))
theorem Op2.ne (h3 : 3 ≤ n) : Op2 G hn n (compareOp .NotEq) opNe := by
  intro c S s va vb da db out σ' q ra rb hm
  (refine xEA (Option.bind_eq_some_iff.mp hm) fun x hx hm => ?_)
  (refine xEA (Option.map_eq_some_iff.mp hm) fun y hy e => ?_)
  (have k1 := p2A e; have k2 := p2B e; clear e; subst k1 k2)
  (refine xA (py_ok q.H ra hx) fun q0z s1 => ?_; refine xE q0z fun as r1 => ?_)
  (refine xA (py_ok q.H rb hy) fun q0z s2 => ?_; refine xE q0z fun bs r2 => ?_)
  exact Tr.tok q.H q.heap fun Q E hq => ne_dataH (by rw [q.heap]; exact r1) (by rw [q.heap]; exact r2) s1 s2 (q.u64 h3) (hq _ s.toks (.bool _))
end
end Mine
end
section
open PySem PySem.W PyProof.Rows
namespace Mine

section
variable {G : Amb} {hn : Bool} {n : Nat} {Z : Scope} {c : Cx} {S : Gs} {s : Shared}

/-- an operator of two values that leaves all as it is -/
theorem Op2.pure {t : Value → Value → Sem Value} {f : D → D → Option D}
    (h : ∀ c S s va vb da db d, Ho G hn n c S s → Rv G c S va da → Rv G c S vb db → f da db = some d → ∀ (Q : Value → Shared → Prop) (E : Value → Shared → Prop), (∀ v tk, Rv G c S v d → Q v { s with toks := tk }) → wpAny G.M c.A (t va vb) Q E s) :
    Op2 G hn n t (fun a b σ => (f a b).map fun d => (.val d, σ)) := by
  intro c S s va vb da db out σ' q ra rb hm
  (refine xEA (Option.map_eq_some_iff.mp hm) fun d hd e => ?_)
  (have k1 := p2A e; have k2 := p2B e; clear e; subst k1 k2)
  exact Tr.tok q.H q.heap fun Q E hq => h c S s va vb da db d q ra rb hd Q E hq

noncomputable def fAdd : D → D → Option D
  | .int a, .int b => some (.int (a + b))
  | .str x, .str y => if x.length + y.length ≤ sizeLine then some (.str (x ++ y)) else none
  | _, _ => none
noncomputable def fSub : D → D → Option D
  | .int a, .int b => some (.int (a - b))
  | _, _ => none
noncomputable def fMul : D → D → Option D
  | .int a, .int b => if a.natAbs < 2 ^ 60 ∧ b.natAbs < 2 ^ 60 then some (.int (a * b)) else none
  | _, _ => none
noncomputable def fMod : D → D → Option D
  | .int a, .int b => if b ≠ 0 then some (.int (a.fmod b)) else none
  | _, _ => none
noncomputable def fDiv : D → D → Option D
  | .int a, .int b => if b ≠ 0 ∧ b.natAbs < 1073741824 then some (.int (a.fdiv b)) else none
  | _, _ => none
noncomputable def fPow : D → D → Option D
  | .int a, .int b => if 0 ≤ b ∧ (Builtin.Int.intBits a : Int) * b ≤ 2 ^ 27 then some (.int (a ^ b.toNat)) else none
  | _, _ => none
theorem Str.length_append (x y : PySem.Str) : (x ++ y).length = x.length + y.length := by
  show (x.cps ++ y.cps).size = _
  exact Array.size_append

theorem Op2.add : Op2 G hn n (binaryOp .Add) (fun a b σ => (fAdd a b).map fun d => (.val d, σ)) := Op2.pure fun c S s va vb da db d q ra rb h Q E hq => by
  unfold fAdd at h
  split at h
  · (have k1 := s1E h; clear h; subst k1); (refine xE ra.i_int fun _ q0z => ?_; subst q0z); (refine xE rb.i_int fun _ q0z => ?_; subst q0z); exact PyProof.Rows.add_int (hq _ _ (.int _ _))
  · split at h
    · rename_i hsz
      (have k1 := s1E h; clear h; subst k1); (refine xEA ra.i_str fun _ q0z _ => ?_; subst q0z); (refine xEA rb.i_str fun _ q0z _ => ?_; subst q0z)
      exact PyProof.Rows.add_str (fun t' tk => hq _ tk (.str _ _ (by rw [Str.length_append]; exact hsz))) hsz
    · exact nnS h
  · exact nnS h
theorem Op2.sub : Op2 G hn n (binaryOp .Sub) (fun a b σ => (fSub a b).map fun d => (.val d, σ)) := Op2.pure fun c S s va vb da db d q ra rb h Q E hq => by
  unfold fSub at h
  split at h
  · (have k1 := s1E h; clear h; subst k1); (refine xE ra.i_int fun _ q0z => ?_; subst q0z); (refine xE rb.i_int fun _ q0z => ?_; subst q0z); exact PyProof.Rows.sub_int (hq _ _ (.int _ _))
  · exact nnS h
theorem Op2.mod : Op2 G hn n (binaryOp .Mod) (fun a b σ => (fMod a b).map fun d => (.val d, σ)) := Op2.pure fun c S s va vb da db d q ra rb h Q E hq => by
  unfold fMod at h
  split at h
  · split at h
    · rename_i hb
      (have k1 := s1E h; clear h; subst k1); (refine xE ra.i_int fun _ q0z => ?_; subst q0z); (refine xE rb.i_int fun _ q0z => ?_; subst q0z); exact PyProof.Rows.mod_int hb (hq _ _ (.int _ _))
    · exact nnS h
  · exact nnS h
theorem Op2.fdiv : Op2 G hn n (binaryOp .FloorDiv) (fun a b σ => (fDiv a b).map fun d => (.val d, σ)) := Op2.pure fun c S s va vb da db d q ra rb h Q E hq => by
  unfold fDiv at h
  split at h
  · split at h
    · rename_i hb
      (have k1 := s1E h; clear h; subst k1); (refine xE ra.i_int fun _ q0z => ?_; subst q0z); (refine xE rb.i_int fun _ q0z => ?_; subst q0z); exact PyProof.Rows.floordiv_int hb.1 (hq _ _ (.int _ _)) (.inl (PyProof.noPylong_small hb.2))
    · exact nnS h
  · exact nnS h
theorem Op2.pow : Op2 G hn n (binaryOp .Pow) (fun a b σ => (fPow a b).map fun d => (.val d, σ)) := Op2.pure fun c S s va vb da db d q ra rb h Q E hq => by
  unfold fPow at h
  split at h
  · split at h
    · rename_i hb
      (have k1 := s1E h; clear h; subst k1); (refine xE ra.i_int fun _ q0z => ?_; subst q0z); (refine xE rb.i_int fun _ q0z => ?_; subst q0z); exact PyProof.Rows.pow_int hb.1 hb.2 (hq _ _ (.int _ _))
    · exact nnS h
  · exact nnS h

noncomputable def fLt : D → D → Option D
  | .int a, .int b => some (.bool (decide (a < b)))
  | .str x, .str y => some (.bool (decide (x.cps.toList < y.cps.toList)))
  | _, _ => none
noncomputable def fGt : D → D → Option D
  | .int a, .int b => some (.bool (decide (b < a)))
  | .str x, .str y => some (.bool (decide (y.cps.toList < x.cps.toList)))
  | _, _ => none
noncomputable def fGe : D → D → Option D
  | .int a, .int b => some (.bool (decide (b ≤ a)))
  | .str x, .str y => some (.bool (!decide (x.cps.toList < y.cps.toList)))
  | _, _ => none
theorem Op2.lt : Op2 G hn n (compareOp .Lt) (fun a b σ => (fLt a b).map fun d => (.val d, σ)) := Op2.pure fun c S s va vb da db d q ra rb h Q E hq => by
  unfold fLt at h
  split at h
  · (have k1 := s1E h; clear h; subst k1); (refine xE ra.i_int fun _ q0z => ?_; subst q0z); (refine xE rb.i_int fun _ q0z => ?_; subst q0z); exact PyProof.Rows.lt_int (hq _ s.toks (.bool _))
  · (have k1 := s1E h; clear h; subst k1); (refine xEA ra.i_str fun _ q0z _ => ?_; subst q0z); (refine xEA rb.i_str fun _ q0z _ => ?_; subst q0z); exact PyProof.Rows.lt_str (hq _ s.toks (.bool _))
  · exact nnS h
theorem Op2.gt : Op2 G hn n (compareOp .Gt) (fun a b σ => (fGt a b).map fun d => (.val d, σ)) := Op2.pure fun c S s va vb da db d q ra rb h Q E hq => by
  unfold fGt at h
  split at h
  · (have k1 := s1E h; clear h; subst k1); (refine xE ra.i_int fun _ q0z => ?_; subst q0z); (refine xE rb.i_int fun _ q0z => ?_; subst q0z); exact PyProof.Rows.gt_int (hq _ s.toks (.bool _))
  · (have k1 := s1E h; clear h; subst k1); (refine xEA ra.i_str fun _ q0z _ => ?_; subst q0z); (refine xEA rb.i_str fun _ q0z _ => ?_; subst q0z); exact PySem.P.gt_str (hq _ s.toks (.bool _))
  · exact nnS h
theorem Op2.ge : Op2 G hn n (compareOp .GtE) (fun a b σ => (fGe a b).map fun d => (.val d, σ)) := Op2.pure fun c S s va vb da db d q ra rb h Q E hq => by
  unfold fGe at h
  split at h
  · (have k1 := s1E h; clear h; subst k1); (refine xE ra.i_int fun _ q0z => ?_; subst q0z); (refine xE rb.i_int fun _ q0z => ?_; subst q0z); exact PyProof.Rows.ge_int (hq _ s.toks (.bool _))
  · (have k1 := s1E h; clear h; subst k1); (refine xEA ra.i_str fun _ q0z _ => ?_; subst q0z); (refine xEA rb.i_str fun _ q0z _ => ?_; subst q0z); exact PySem.P.ge_str (hq _ s.toks (.bool _))
  · exact nnS h

/-- is, is not: against None and between types -/
noncomputable def fIs (a b : D) : Option Bool := match b with
  | .none => (match a with
    | .none => some true
    | d => if d.solid = true then some false else none)
  | .glob (.type Y) => (match a with
    | .glob (.type X) => some (X == Y)
    | _ => none)
  | _ => none
theorem type_beq (X Y : String) : (Value.type X == Value.type Y) = (X == Y) := by
  by_cases h : X = Y
  · subst h; simp
  · have : Value.type X ≠ Value.type Y := fun e => h (by (have k1 := Value.type.inj e; clear e; subst k1); rfl)
    rw [beq_eq_false_iff_ne.mpr this, beq_eq_false_iff_ne.mpr h]
theorem fIs_none {a b : D} {t : Bool} (h : fIs a b = some t) : (b = .none ∧ ((a = .none ∧ t = true) ∨ (a.solid = true ∧ t = false))) ∨ ∃ X Y, a = .glob (.type X) ∧ b = .glob (.type Y) ∧ t = (X == Y) := by
  unfold fIs at h
  split at h
  · split at h
    · (have k1 := s1E h; clear h; subst k1); exact .inl ⟨rfl, .inl ⟨rfl, rfl⟩⟩
    · split at h
      · rename_i hd
        (have k1 := s1E h; clear h; subst k1); exact .inl ⟨rfl, .inr ⟨hd, rfl⟩⟩
      · exact nnS h
  · split at h
    · (have k1 := s1E h; clear h; subst k1); exact .inr ⟨_, _, rfl, rfl, rfl⟩
    · exact nnS h
  · exact nnS h
theorem Op2.is : Op2 G hn n (compareOp .Is) (fun a b σ => ((fIs a b).map D.bool).map fun d => (.val d, σ)) := Op2.pure fun c S s va vb da db d q ra rb h Q E hq => by
  (refine xEA (Option.map_eq_some_iff.mp h) fun b hb q0z => ?_; subst q0z)
  rcases fIs_none hb with ⟨rfl, ⟨rfl, rfl⟩ | ⟨hs, rfl⟩⟩ | ⟨X, Y, rfl, rfl, rfl⟩
  · obtain rfl := ra.i_none
    obtain rfl := rb.i_none
    exact PySem.wpAny_is_self rfl (hq _ s.toks (.bool _))
  · obtain rfl := rb.i_none
    exact PyProof.Rows.is_none_ne (ra.solid hs) (hq _ s.toks (.bool _))
  · obtain rfl := ra.i_glob
    obtain rfl := rb.i_glob
    exact PySem.wpAny_is_plain rfl (by rw [type_beq]; exact hq _ s.toks (.bool _))
theorem Op2.isNot : Op2 G hn n (compareOp .IsNot) (fun a b σ => ((fIs a b).map fun t => D.bool (!t)).map fun d => (.val d, σ)) := Op2.pure fun c S s va vb da db d q ra rb h Q E hq => by
  (refine xEA (Option.map_eq_some_iff.mp h) fun b hb q0z => ?_; subst q0z)
  rcases fIs_none hb with ⟨rfl, ⟨rfl, rfl⟩ | ⟨hs, rfl⟩⟩ | ⟨X, Y, rfl, rfl, rfl⟩
  · obtain rfl := ra.i_none
    obtain rfl := rb.i_none
    exact PySem.wpAny_isNot_self rfl (hq _ s.toks (.bool _))
  · obtain rfl := rb.i_none
    exact PyProof.Rows.isnot_none_ne (ra.solid hs) (hq _ s.toks (.bool _))
  · obtain rfl := ra.i_glob
    obtain rfl := rb.i_glob
    exact PySem.wpAny_isNot_plain rfl (by rw [type_beq]; exact hq _ s.toks (.bool _))

/-- membership in a list or a tuple -/
noncomputable def opIn : F2 := fun a b σ => (py σ a).bind fun x => (py σ b).bind fun y => match y with
  | .list ys => some (.val (.bool (ys.any fun y => PyData.eqv y x)), σ)
  | .tuple ys => some (.val (.bool (ys.any fun y => PyData.eqv y x)), σ)
  | _ => none
noncomputable def opNotIn : F2 := fun a b σ => (py σ a).bind fun x => (py σ b).bind fun y => match y with
  | .list ys => some (.val (.bool (!ys.any fun y => PyData.eqv y x)), σ)
  | .tuple ys => some (.val (.bool (!ys.any fun y => PyData.eqv y x)), σ)
  | _ => none
end
end Mine
end
section
open PySem PySem.W PyProof.Rows
namespace Mine

section
variable {G : Amb} {hn : Bool} {n : Nat} {Z : Scope} {c : Cx} {S : Gs} {s : Shared}

/-- the kinds that an index goes to -/
noncomputable def isSub : D → List AO → Bool
  | .lst _, _ => true
  | .tup _, _ => true
  | .str _, _ => true
  | .dct _, _ => true
  | .ref k, σ => match σ[k]? with
    | some (.lst _) => true
    | _ => false
  | _, _ => false
theorem subKind (H : Heaps G c S) (hs : s.heap = S.h) {v : Value} {d : D} (r : Rv G c S v d) (h : isSub d S.σ = true) : ∃ T id, s.TypeIs v T ∧ typeLookup (.type T) "__getitem__" = pure (some (.builtin id)) := by
  cases r with
  | none => exact nFT h
  | bool => exact nFT h
  | int => exact nFT h
  | glob => exact nFT h
  | exc => exact nFT h
  | rng => exact nFT h
  | str x t hx => exact ⟨"str", _, typeIs_str s x t, PySem.F.slot_str_getitem.lookup⟩
  | tup h1 h2 h3 => exact ⟨"tuple", _, ⟨_, by rw [hs]; exact h1, h2⟩, PySem.F.slot_tuple_getitem.lookup⟩
  | lst h1 h2 h3 => exact ⟨"list", _, ⟨_, by rw [hs]; exact h1, h2⟩, PySem.slot_list_getitem.lookup⟩
  | dct h0 h1 => exact ⟨"dict", _, ⟨_, by rw [hs]; exact h1, rfl⟩, PySem.F.slot_dict_getitem.lookup⟩
  | @ref k p hp =>
    unfold isSub at h
    dsimp only at h
    split at h
    · rename_i ds hk
      (refine xEEAA (H.store k p _ hp hk) fun m vs h1 h4 h5 => ?_)
      exact ⟨"list", _, ⟨_, by rw [hs]; exact h1, rfl⟩, PySem.slot_list_getitem.lookup⟩
    · exact nFT h

noncomputable def notSlice : Expr → Bool
  | .Slice .. => false
  | _ => true
theorem subscripted_plain {slice : Expr} (h : notSlice slice = true) (o i : Value) : subscripted slice false o i = operate [o, i] (getItem o i) := by
  cases slice <;> first | rfl | exact nFT h

theorem Ev.sub {value slice : Expr} {pos : Pos} {mo mi : Mo D} {f : F2} (ho : Ev G hn n Z value mo) (hi : Ev G hn n Z slice mi) (hf : Op2 G hn n getItem f) (hs : notSlice slice = true) :
    Ev G hn n Z (.Subscript value slice pos) (Mo.bind mo fun a => Mo.bind mi fun b _ σ => if isSub a σ then f a b σ else none) := by
  intro c env fr S s out σ' q hm
  rw [arm_eval_Subscript]
  refine Tr.bindM hm (fun o1 σ1 h1 => ho c env fr S s o1 σ1 q h1) fun da va S1 tk H1 x1 ra h2 => ?_
  have q1 := q.step (tk := tk) H1 x1
  refine Tr.bindM h2 (fun o2 σ2 h3 => (hi c env fr S1 _ o2 σ2 q1 h3).holding) fun db vb S2 tk2 H2 x2 rb h4 => ?_
  have q2 := q1.step (tk := tk2) H2 x2
  split at h4
  rotate_left
  · exact nnS h4
  rename_i hsub
  have t := hf c S2 _ va vb da db out σ' q2.ho (ra.ext x2) rb h4
  refine Tr.standAt ?_
  intro Q E hq hx
  (refine xEEA (subKind (s := (ShT s S2.h tk2)) H2 rfl (ra.ext x2) hsub) fun T id hT hl => ?_)
  refine wpAny_bind ?_
  rw [getitemInPython_of_ne hT.not_modules]
  refine wpAny_bind (wpAny_specialOf hT hl ?_)
  refine wpAny_pure ?_
  rw [subscripted_plain hs]
  exact wpAny_bind (wpAny_operating (t _ E (fun b hb a S' tk' e H x r => wpAny_bind (wpAny_letTemporaryGo (wpAny_pure (hq b hb a S' tk' e H x r)))) hx))

/-- an item by its place -/
noncomputable def atIdx (ds : List D) (i : Int) : Option D := (seqIndex? i ds.length).bind fun k => ds[k]?
noncomputable def fIdx (σ : List AO) : D → D → Option D
  | .lst ds, .int i => if inR i = true then atIdx ds i else none
  | .tup ds, .int i => if inR i = true then atIdx ds i else none
  | .ref k, .int i => match σ[k]? with
    | some (.lst ds) => if inR i = true then atIdx ds i else none
    | _ => none
  | .str x, .int i => if inR i = true then ((seqIndex? i x.length).bind (x.cps[·]?)).map fun k => .str ⟨#[k]⟩ else none
  | .dct es, .str x => (es.find? fun e => e.1 = x).map (·.2)
  | _, _ => none
theorem seqIndex_pos {k : Int} {n j : Nat} (h : seqIndex? k n = some j) : (0 ≤ k ∧ j = k.toNat) ∨ (k < 0 ∧ -(n : Int) ≤ k ∧ j = (k + n).toNat) := by
  unfold seqIndex? at h
  by_cases hk : k < 0
  · simp only [hk, if_true] at h
    split at h
    · rename_i hc
      simp only [Bool.and_eq_true, decide_eq_true_eq] at hc
      (have k1 := s1E h; clear h; subst k1)
      exact .inr ⟨hk, by omega, rfl⟩
    · exact nnS h
  · simp only [hk, if_false] at h
    split at h
    · (have k1 := s1E h; clear h; subst k1); exact .inl ⟨by omega, rfl⟩
    · exact nnS h
theorem getList {A : Around} {s : Shared} {prog : Program} {w : World} {l : Addr} {vs : Array Value} {i : Int} {t : Tok} {v : Value} {j : Nat} (hl : s.heap.IsList l vs) (hb : -(2 ^ 61) ≤ i ∧ i < 2 ^ 61) (hj : seqIndex? i vs.size = some j) (hv : vs[j]? = some v)
    {Q : Value → Shared → Prop} {E : Value → Shared → Prop} (h : Q v s) : wpAny (model prog w) A (getItem (.ref l) (.int i t)) Q E s := by
  have e62 : (2 : Int) ^ 61 = 2305843009213693952 := by decide
  have e63 : (2 : Int) ^ 63 = 9223372036854775808 := by decide
  rw [e62] at hb
  rcases seqIndex_pos hj with ⟨h0, rfl⟩ | ⟨h0, h1, rfl⟩
  · exact wpAny_getItem_list hl h0 (by rw [e63]; omega) hv h
  · exact wpAny_getItem_list_neg hl h0 h1 (by rw [e63]; omega) hv h
theorem atIdx_get {P : Params} {adr : Adr} {V : List Addr} {h : Heap} {vs : Array Value} {ds : List D} (r : VRs P adr V h vs.toList ds) {i : Int} {d : D} (e : atIdx ds i = some d) : ∃ j v, seqIndex? i vs.size = some j ∧ vs[j]? = some v ∧ VR P adr V h v d := by
  (refine xEA (Option.bind_eq_some_iff.mp e) fun j hj hd => ?_)
  obtain ⟨v, hv, rv⟩ := r.get hd
  have hlen := r.length
  exact ⟨j, v, by rw [show vs.size = ds.length by simpa using hlen]; exact hj, by simpa using hv, rv⟩

theorem valueAt_of {G : Amb} {P : Params} {adr : Adr} {V : List Addr} {h : Heap} {es : List DictEntry} {ds : List (PySem.Str × D)} (hP : P = G.w.params) (r : VRe P adr V h es ds) :
    ∃ kvs, Pairs (strKind G.prog G.w) es kvs ∧ kvs.map (·.1) = ds.map (·.1) ∧ VRs P adr V h (kvs.map (·.2)) (ds.map (·.2)) ∧ (∀ e ∈ es, ∃ k, Value.isStrOf k e.key = true ∧ e.hash = hashStr G.w k) :=
  VRe.ind (C := fun es ds => ∃ kvs, Pairs (strKind G.prog G.w) es kvs ∧ kvs.map (·.1) = ds.map (·.1) ∧ VRs P adr V h (kvs.map (·.2)) (ds.map (·.2)) ∧ (∀ e ∈ es, ∃ k, Value.isStrOf k e.key = true ∧ e.hash = hashStr G.w k)) ⟨[], .nil, rfl, .nil, fun _ h => nomatch h⟩
    (fun e x t d es ds hk hh hv _ ih => by
      (refine xEAAA ih fun kvs h1 h2 h3 h4 => ?_; try clear ih)
      have q : Value.isStrOf x e.key = true := by rw [hk]; exact beq_self_eq_true x
      exact ⟨(x, e.val) :: kvs, .cons q rfl h1, congrArg (x :: ·) h2, .cons hv h3, fun e' he' => (List.mem_cons.mp he').elim (fun e0 => e0 ▸ ⟨x, q, by rw [hh, hP]; rfl⟩) (h4 e')⟩) r
theorem dictOf_of {a : Addr} {es : List (PySem.Str × D)} (r : Rv G c S (.ref a) (.dct es)) : ∃ kvs, S.h.DictOf (strKind G.prog G.w) a kvs ∧ kvs.map (·.1) = es.map (·.1) ∧ Rvs G c S (kvs.map (·.2)) (es.map (·.2)) := by
  cases r with
  | @dct _ es' nn ds h0 h1 hn h2 h3 =>
    (refine xEAAA (valueAt_of rfl h3) fun kvs k1 k2 k3 k4 => ?_)
    refine ⟨kvs, ⟨_, es', nn, h1, ⟨rfl, rfl, rfl⟩, rfl, fun e he => k4 e (by simpa using he), k1, by rw [k2]; exact hn⟩, k2, k3⟩
theorem find_pairs {P : Params} {adr : Adr} {V : List Addr} {h : Heap} {x : PySem.Str} : ∀ {kvs : List (PySem.Str × Value)} {ds : List (PySem.Str × D)} {d : D}, kvs.map (·.1) = ds.map (·.1) → VRs P adr V h (kvs.map (·.2)) (ds.map (·.2)) → (ds.find? fun e => e.1 = x).map (·.2) = some d →
    ∃ v, valueAt kvs x = some v ∧ VR P adr V h v d
  | [], [], _, _, _, e => by exact nnS e
  | [], _ :: _, _, h, _, _ => by exact nNC h
  | _ :: _, [], _, h, _, _ => by exact nCN h
  | (k, v) :: kvs, (k', d') :: ds, d, h, r, e => by
    rw [List.map_cons, List.map_cons] at h r
    cases r with
    | cons rv rs =>
      simp only [List.cons.injEq] at h
      (refine xA h fun h1 h2 => ?_; try clear h)
      have h1' : k = k' := h1
      subst h1'
      by_cases hk : k = x
      · rw [List.find?_cons_of_pos (by simpa using hk)] at e
        (have k1 := s1E e; clear e; subst k1)
        exact ⟨v, by unfold valueAt; rw [List.find?_cons_of_pos (by simpa using hk)]; rfl, rv⟩
      · rw [List.find?_cons_of_neg (by simpa using hk)] at e
        (refine xEA (find_pairs h2 rs e) fun w hw rw' => ?_)
        exact ⟨w, by unfold valueAt at hw ⊢; rw [List.find?_cons_of_neg (by simpa using hk)]; exact hw, rw'⟩

theorem Op2.idx : Op2 G hn n getItem (fun a b σ => (fIdx σ a b).map fun d => (.val d, σ)) := by
  intro c S s va vb da db out σ' q ra rb hm
  (refine xEA (Option.map_eq_some_iff.mp hm) fun d hd e => ?_)
  (have k1 := p2A e; have k2 := p2B e; clear e; subst k1 k2)
  refine Tr.tok q.H q.heap fun Q E hq => ?_
  unfold fIdx at hd
  split at hd
  · split at hd
    · rename_i hb
      replace hb := inR_iff.mp hb
      (refine xE rb.i_int fun _ q0z => ?_; subst q0z)
      (refine xEEEEAAAAAA ra.i_lst fun _ _ _ _ q0z h1 h2 h3 h4 h5 h6 => ?_; subst q0z)
      · (refine xEEAA (atIdx_get h6 hd) fun j v hj hv rv => ?_)
        exact getList ⟨_, by rw [q.heap]; exact h1, h2, _, h3⟩ hb hj hv (hq v s.toks rv)
    · exact nnS hd
  · split at hd
    · rename_i hb
      replace hb := inR_iff.mp hb
      (refine xE rb.i_int fun _ q0z => ?_; subst q0z)
      (refine xEEEEAAAAAA ra.i_tup fun _ _ _ _ q0z h1 h2 h3 h4 h5 h6 => ?_; subst q0z)
      · (refine xEEAA (atIdx_get h6 hd) fun j v hj hv rv => ?_)
        have e62 : (2 : Int) ^ 61 = 2305843009213693952 := by decide
        have e63 : (2 : Int) ^ 63 = 9223372036854775808 := by decide
        rw [e62] at hb
        exact PyProof.Rows.getItem_tuple ⟨_, by rw [q.heap]; exact h1, h2, _, h3⟩ (by rw [e63]; omega) (by rw [e63]; omega) hj hv (hq v s.toks rv)
    · exact nnS hd
  · split at hd
    · rename_i k i ds hk
      split at hd
      · rename_i hb
        replace hb := inR_iff.mp hb
        (refine xE rb.i_int fun _ q0z => ?_; subst q0z)
        (refine xEEEEAAAAAA (q.H.lst ra hk) fun p o m vs q0z hp ho hc hdd hz hr => ?_; subst q0z)
        (refine xEEAA (atIdx_get hr hd) fun j v hj hv rv => ?_)
        exact getList ⟨o, by rw [q.heap]; exact ho, hc, m, hdd⟩ hb hj hv (hq v s.toks rv)
      · exact nnS hd
    · exact nnS hd
  · split at hd
    · rename_i hb
      replace hb := inR_iff.mp hb
      (refine xEA (Option.map_eq_some_iff.mp hd) fun k hk q0z => ?_; subst q0z)
      (refine xE rb.i_int fun _ q0z => ?_; subst q0z)
      (refine xEA ra.i_str fun _ q0z _ => ?_; subst q0z)
      have e62 : (2 : Int) ^ 61 = 2305843009213693952 := by decide
      have e63 : (2 : Int) ^ 63 = 9223372036854775808 := by decide
      rw [e62] at hb
      refine PyProof.Rows.getItem_str ?_ hk (hq _ _ (.str _ _ (by show 1 ≤ sizeLine; decide)))
      rw [e63]
      simp only [Bool.or_eq_false_iff, decide_eq_false_iff_not]
      omega
    · exact nnS hd
  · rename_i es x
    (refine xEA rb.i_str fun t q0z hx => ?_; subst q0z)
    (refine xE ra.i_dct fun a q0z => ?_; subst q0z)
    · (refine xEAA (dictOf_of ra) fun kvs k1 k2 k3 => ?_)
      (refine xEA (find_pairs k2 k3 hd) fun v hv rv => ?_)
      exact wpAny_getItem_of (knd := strKind G.prog G.w) (k := x) (by show Value.isStrOf x (.str x t) = true; unfold Value.isStrOf; exact beq_self_eq_true x) (by rw [q.heap]; exact k1.mapOf) hv (hq v _ rv)
  · exact nnS hd
end
end Mine
end
section
open PySem PySem.W PyProof.Rows
namespace Mine

section
variable {G : Amb} {hn : Bool} {n : Nat} {Z : Scope} {c : Cx} {S : Gs} {s : Shared}

noncomputable def EvP (G : Amb) (hn : Bool) (n : Nat) (Z : Scope) : Option Expr → Option (Mo D) → Prop
  | none, none => True
  | some e, some m => Ev G hn n Z e m
  | _, _ => False
noncomputable def Mo.part : Option (Mo D) → Mo (Option Int)
  | none => Mo.pure none
  | some m => Mo.bind m fun d _ σ => match d with
    | .int i => some (.val (some i), σ)
    | _ => none
noncomputable def RPart (v : Value) (p : Option Int) : Prop := match p with
  | none => v = .none
  | some i => ∃ t, v = .int i t
theorem trPart {e : Option Expr} {m : Option (Mo D)} (h : EvP G hn n Z e m) {env : Env} {fr : Fr} {out : Out (Option Int)} {σ' : List AO} (q : Run G hn n Z c env fr S s) (hm : Mo.part m fr S.σ = some (out, σ')) : Tr G c S s (fun _ v p => RPart v p) (valueOrNone (evalOpt e env)) out σ' := by
  cases e with
  | none => cases m with
    | none => refine Tr.cast hm ?_; exact Tr.pure q.H q.heap rfl
    | some m => exact h.elim
  | some e => cases m with
    | none => exact h.elim
    | some m =>
      show Tr G c S s _ (eval e env) out σ'
      have hm : Mo.bind m (fun d _ σ => match d with
        | .int i => some (.val (some i), σ)
        | _ => none) fr S.σ = some (out, σ') := hm
      unfold Mo.bind at hm
      cases hmm : m fr S.σ with
      | none => rw [hmm] at hm; exact nnS hm
      | some p =>
        obtain ⟨o, σ1⟩ := p
        rw [hmm] at hm
        intro Q E hq hx
        cases o with
        | exc X msg =>
          (have k1 := s2A hm; have k2 := s2B hm; clear hm; subst k1 k2)
          exact h c env fr S s _ _ q hmm Q E (fun b hb => by exact nEV hb) fun X' msg' ho S' e h' tk e1 H1 x1 th => (by (have k1 := excA ho; have k2 := excB ho; clear ho; subst k1 k2); exact hx _ _ rfl S' e h' tk e1 H1 x1 th)
        | val d =>
          dsimp only at hm
          split at hm
          · rename_i i
            (have k1 := s2A hm; have k2 := s2B hm; clear hm; subst k1 k2)
            refine h c env fr S s _ _ q hmm Q E (fun b hb v S1 tk e1 H1 x1 r1 => ?_) fun _ _ ho => by exact nVE ho
            (have k1 := valE hb; clear hb; subst k1)
            refine xE (VR.i_int r1) fun _ ev => ?_
            subst ev
            exact hq _ rfl _ S1 tk e1 H1 x1 ⟨_, rfl⟩
          · exact nnS hm

noncomputable def sliceD (ds : List D) (lo hi st : Option Int) : List D := (sliceRange (sliceBounds lo hi st ds.length).1 (sliceBounds lo hi st ds.length).2.1 (sliceBounds lo hi st ds.length).2.2).filterMap (ds[·]?)
theorem sliceD_rel {P : Params} {adr : Adr} {V : List Addr} {h : Heap} {vs : Array Value} {ds : List D} (r : VRs P adr V h vs.toList ds) (lo hi st : Option Int) : VRs P adr V h (slicePick vs lo hi st).toList (sliceD ds lo hi st) := by
  have hlen : vs.size = ds.length := by simpa using r.length
  unfold slicePick sliceD
  rw [hlen]
  generalize sliceRange (sliceBounds lo hi st ds.length).1 (sliceBounds lo hi st ds.length).2.1 (sliceBounds lo hi st ds.length).2.2 = ks
  show VRs P adr V h (ks.filterMap (vs[·]?)) (ks.filterMap (ds[·]?))
  induction ks with
  | nil => exact .nil
  | cons k ks ih =>
    rw [List.filterMap_cons, List.filterMap_cons]
    cases hv : vs[k]? with
    | none =>
      have hd : ds[k]? = none := by rw [List.getElem?_eq_none_iff, ← hlen]; simpa using hv
      rw [hd]; exact ih
    | some v =>
      (refine xEA (r.get_val (k := k) (by simpa using hv)) fun d hd rv => ?_)
      rw [hd]; exact .cons rv ih

noncomputable def lstOf (d : D) (σ : List AO) : Option (List D) := match d with
  | .lst ds => some ds
  | .ref k => match σ[k]? with
    | some (.lst ds) => some ds
    | _ => none
  | _ => none
theorem lstOf_ok (H : Heaps G c S) {v : Value} {d : D} {ds : List D} (r : Rv G c S v d) (h : lstOf d S.σ = some ds) : ∃ a vs, v = .ref a ∧ S.h.IsList a vs ∧ vs.size ≤ sizeLine ∧ Rvs G c S vs.toList ds := by
  unfold lstOf at h
  split at h
  · (have k1 := s1E h; clear h; subst k1)
    (refine xEEEEAAAAAA r.i_lst fun _ _ _ _ q0z h1 h2 h3 h4 h5 h6 => ?_; subst q0z)
    exact ⟨_, _, rfl, ⟨_, h1, h2, _, h3⟩, h4, h6⟩
  · split at h
    · rename_i k ds' hk
      (have k1 := s1E h; clear h; subst k1)
      (refine xEEEEAAAAAA (H.lst r hk) fun p o m vs q0z hp ho hc hd hz hr => ?_; subst q0z)
      exact ⟨p.1, vs, rfl, ⟨o, ho, hc, m, hd⟩, hz, hr⟩
    · exact nnS h
  · exact nnS h

/-- the value of a slice of a list: the list made last -/
theorem trSliceL {value : Expr} {lo hi st : Option Expr} {ps pos : Pos} {mo : Mo D} {ml mh ms : Option (Mo D)} {env : Env} {fr : Fr} (hv : Ev G hn n Z value mo) (h1 : EvP G hn n Z lo ml) (h2 : EvP G hn n Z hi mh) (h3 : EvP G hn n Z st ms) (q : Run G hn n Z c env fr S s)
    {da : D} {σ1 σ2 σ3 σ4 : List AO} {pl ph pt : Option Int} {ds : List D} (e1 : mo fr S.σ = some (.val da, σ1)) (e2 : Mo.part ml fr σ1 = some (.val pl, σ2)) (e3 : Mo.part mh fr σ2 = some (.val ph, σ3)) (e4 : Mo.part ms fr σ3 = some (.val pt, σ4)) (hl : lstOf da σ4 = some ds) (h0 : pt ≠ some 0)
    {Q : Value → Shared → Prop} {E : Value → Shared → Prop} (hq : ∀ (S' : Gs) tk vs, S'.σ = σ4 → Heaps G c S' → Ext c S S' → Rvs G c S' vs.toList (sliceD ds pl ph pt) → vs.size ≤ sizeLine → Q (.ref S'.h.objs.size) (ShT s (S'.h.push { cls := .type "list", data := .seq vs }) tk)) :
    wpAny G.M c.A (eval (.Subscript value (.Slice lo hi st ps) pos) env) Q E s := by
  rw [arm_eval_Subscript]
  refine wpAny_bind (hv c env fr S s _ _ q e1 _ E (fun b hb va S1 tk1 x1e H1 x1 ra => ?_) fun _ _ ho => by exact nVE ho)
  (have k1 := valE hb; clear hb; subst k1); subst x1e
  have q1 := q.step (tk := tk1) H1 x1
  rw [arm_eval_Slice]
  refine wpAny_bind (wpAny_holding (wpAny_bind (trPart h1 q1 e2 _ E (fun b hb vl S2 tk2 x2e H2 x2 rl => ?_) fun _ _ ho => by exact nVE ho)))
  (have k1 := valE hb; clear hb; subst k1); subst x2e
  have q2 := q1.step (tk := tk2) H2 x2
  refine wpAny_bind (wpAny_holding (trPart h2 q2 e3 _ E (fun b hb vu S3 tk3 x3e H3 x3 ru => ?_) fun _ _ ho => by exact nVE ho))
  (have k1 := valE hb; clear hb; subst k1); subst x3e
  have q3 := q2.step (tk := tk3) H3 x3
  refine wpAny_bind (wpAny_holding (trPart h3 q3 e4 _ E (fun b hb vt S4 tk4 x4e H4 x4 rt => ?_) fun _ _ ho => by exact nVE ho))
  (have k1 := valE hb; clear hb; subst k1); subst x4e
  refine wpAny_newObj_type ?_
  have ra4 := ((ra.ext x2).ext x3).ext x4
  (refine xEEAAA (lstOf_ok H4 ra4 hl) fun a vs q0z hlist hz hr => ?_; subst q0z)
  (refine xA (H4.push { cls := .type "slice", data := .fields #[vl, vu, vt] }) fun H5 x5 => ?_)
  have hlist5 : (S4.h.push { cls := .type "slice", data := .fields #[vl, vu, vt] }).IsList a vs := hlist.push _
  have hsl : (S4.h.push { cls := .type "slice", data := .fields #[vl, vu, vt] }).IsSliceOf S4.h.objs.size vl vu vt := .new ..
  have part : ∀ {v p}, RPart v p → IsPart v p := fun {v p} h => by
    cases p with
    | none => cases h; exact .none
    | some i => (refine xE h fun t q0z => ?_; try clear h; subst q0z); exact .int i t
  refine wpAny_bind (wpAny_standAt ?_)
  have hT : ((ShT s (S4.h.push { cls := .type "slice", data := .fields #[vl, vu, vt] }) tk4) : Shared).TypeIs (.ref a) "list" := hlist5.typeIs
  refine wpAny_bind ?_
  rw [getitemInPython_of_ne hT.not_modules]
  refine wpAny_bind (wpAny_specialOf hT PySem.slot_list_getitem.lookup ?_)
  refine wpAny_pure ?_
  have fin : wpAny G.M c.A (getItem (.ref a) (.ref S4.h.objs.size)) (fun r s₃ => wpAny G.M c.A (letTemporaryGo value (.ref a) r >>= fun _ => Pure.pure r) Q E s₃) E (ShT s (S4.h.push { cls := .type "slice", data := .fields #[vl, vu, vt] }) tk4) := by
    refine wpAny_getItem_list_slice hlist5 hsl (part rl) (part ru) (part rt) h0 ?_ hz
    refine wpAny_bind (wpAny_letTemporaryGo (wpAny_pure ?_))
    refine hq { S4 with h := S4.h.push { cls := .type "slice", data := .fields #[vl, vu, vt] } } tk4 (slicePick vs pl ph pt) rfl H5 (((x1.trans x2).trans x3).trans (x4.trans x5)) (sliceD_rel (hr.ext x5) _ _ _) ?_
    exact Nat.le_trans (slicePick_size_le ..) hz
  refine wpAny_bind ?_
  cases st with
  | none => exact wpAny_operating fin
  | some e => exact wpAny_operating fin

noncomputable def Mo.slice (mo : Mo D) (ml mh ms : Option (Mo D)) : Mo (List D) := Mo.bind mo fun da => Mo.bind (Mo.part ml) fun pl => Mo.bind (Mo.part mh) fun ph => Mo.bind (Mo.part ms) fun pt _ σ => if pt ≠ some 0 then (lstOf da σ).map fun ds => (.val (sliceD ds pl ph pt), σ) else none
theorem bindVal {α β : Type} {m : Mo α} {f : α → Mo β} {fr : Fr} {σ σ' : List AO} {b : β} (h : Mo.bind m f fr σ = some (.val b, σ')) : ∃ a σ1, m fr σ = some (.val a, σ1) ∧ f a fr σ1 = some (.val b, σ') := by
  unfold Mo.bind at h
  generalize m fr σ = p at h ⊢
  rcases p with _ | ⟨_ | _, _⟩
  · exact nnS h
  · exact ⟨_, _, rfl, h⟩
  · cases h
theorem bindO {α β : Type} {m : Mo α} {f : α → Mo β} {fr : Fr} {σ σ' : List AO} {out : Out β} (h : Mo.bind m f fr σ = some (out, σ')) :
    ∃ o σ1, m fr σ = some (o, σ1) ∧ (∀ X msg, o = .exc X msg → out = .exc X msg ∧ σ' = σ1) ∧ ∀ a, o = .val a → f a fr σ1 = some (out, σ') := by
  unfold Mo.bind at h
  generalize m fr σ = p at h ⊢
  rcases p with _ | ⟨_ | _, _⟩
  · exact nnS h
  · exact ⟨_, _, rfl, fun X msg q => (by exact nVE q), fun a q => (by (have k1 := valE q; clear q; subst k1); exact h)⟩
  · (have k1 := s2A h; have k2 := s2B h; clear h; subst k1 k2)
    exact ⟨_, _, rfl, fun X msg q => (by (have k1 := excA q; have k2 := excB q; clear q; subst k1 k2); exact ⟨rfl, rfl⟩), fun a q => (by exact nEV q)⟩
theorem if_val {α : Type} {p : Prop} [Decidable p] {x : Option α} {r : α} (h : (if p then x else none) = some r) : p ∧ x = some r := by
  by_cases q : p
  · rw [if_pos q] at h; exact ⟨q, h⟩
  · rw [if_neg q] at h; exact nnS h
theorem sliceE {mo : Mo D} {ml mh ms : Option (Mo D)} {fr : Fr} {σ σ4 : List AO} {zs : List D} (h : Mo.slice mo ml mh ms fr σ = some (.val zs, σ4)) :
    ∃ da σ1 σ2 σ3 pl ph pt ds, mo fr σ = some (.val da, σ1) ∧ Mo.part ml fr σ1 = some (.val pl, σ2) ∧ Mo.part mh fr σ2 = some (.val ph, σ3) ∧ Mo.part ms fr σ3 = some (.val pt, σ4) ∧ lstOf da σ4 = some ds ∧ pt ≠ some 0 ∧ zs = sliceD ds pl ph pt := by
  (refine xEEA (bindVal h) fun da σ1 h1 h => ?_)
  (refine xEEA (bindVal h) fun pl σ2 h2 h => ?_)
  (refine xEEA (bindVal h) fun ph σ3 h3 h => ?_)
  (refine xEEA (bindVal h) fun pt σ5 h4 h => ?_)
  have h0 := if_val h
  (refine xEA (Option.map_eq_some_iff.mp h0.2) fun ds hds e => ?_)
  cases e
  exact ⟨da, σ1, σ2, σ3, pl, ph, pt, ds, h1, h2, h3, h4, hds, h0.1, rfl⟩
theorem Ev.slcF {value : Expr} {lo hi st : Option Expr} {ps pos : Pos} {mo : Mo D} {ml mh ms : Option (Mo D)} (hv : Ev G hn n Z value mo) (h1 : EvP G hn n Z lo ml) (h2 : EvP G hn n Z hi mh) (h3 : EvP G hn n Z st ms) :
    Ev G hn n Z (.Subscript value (.Slice lo hi st ps) pos) (fun fr σ => match Mo.slice mo ml mh ms fr σ with
      | some (.val zs, σ') => some (.val (.lst zs), σ')
      | _ => none) := by
  intro c env fr S s out σ' q hm
  dsimp only at hm
  split at hm
  rotate_left
  · exact nnS hm
  rename_i zs σ1 hs
  refine Tr.cast hm ?_
  (refine xEE (sliceE hs) fun da σ1 w20z => ?_; refine xEE w20z fun σ2 σ3 w21z => ?_; refine xEEEEAAAAAA w21z fun pl ph pt ds e1 e2 e3 e4 hl h0 q0z => ?_; subst q0z)
  intro Q E hq hx
  refine trSliceL hv h1 h2 h3 q e1 e2 e3 e4 hl h0 fun S' tk vs e' H' x' r' hz => ?_
  have hz' : vs.toList.length ≤ sizeLine := by simpa using hz
  exact hq _ rfl _ { S' with h := S'.h.push { cls := .type "list", data := .seq vs } } tk e' (H'.push _).1 (x'.trans (H'.push _).2) (by have := Rv.newLst H' r' hz' (nn := 0); simpa using this)
theorem Ev.slcR {value : Expr} {lo hi st : Option Expr} {ps pos : Pos} {mo : Mo D} {ml mh ms : Option (Mo D)} (hv : Ev G hn n Z value mo) (h1 : EvP G hn n Z lo ml) (h2 : EvP G hn n Z hi mh) (h3 : EvP G hn n Z st ms) :
    Ev G hn n Z (.Subscript value (.Slice lo hi st ps) pos) (fun fr σ => match Mo.slice mo ml mh ms fr σ with
      | some (.val zs, σ') => some (.val (.ref σ'.length), σ' ++ [.lst zs])
      | _ => none) := by
  intro c env fr S s out σ' q hm
  dsimp only at hm
  split at hm
  rotate_left
  · exact nnS hm
  rename_i zs σ1 hs
  refine Tr.cast hm ?_
  (refine xEE (sliceE hs) fun da σ1 w22z => ?_; refine xEE w22z fun σ2 σ3 w23z => ?_; refine xEEEEAAAAAA w23z fun pl ph pt ds e1 e2 e3 e4 hl h0 q0z => ?_; subst q0z)
  intro Q E hq hx
  refine trSliceL hv h1 h2 h3 q e1 e2 e3 e4 hl h0 fun S' tk vs e' H' x' r' hz => ?_
  (refine xAA (H'.bornLst (a := S'.h.objs.size) (h' := S'.h.push { cls := .type "list", data := .seq vs }) (fun _ _ e => Heap.get?_push_of_some _ e) (Heap.get?_none_of_le (Nat.le_refl _)) (Heap.get?_push_size _ rfl) hz r') fun Hb xb rb => ?_)
  exact hq _ rfl _ ⟨S'.adr ++ [(S'.h.objs.size, S'.h.objs.size)], S'.σ ++ [.lst (sliceD ds pl ph pt)], S'.h.push { cls := .type "list", data := .seq vs }⟩ tk (by show S'.σ ++ _ = _; rw [e']) Hb (x'.trans xb) (by rw [← e']; exact rb)
end
end Mine
end
section
open PySem PySem.W PyProof.Rows
namespace Mine

section
variable {G : Amb} {hn : Bool} {n : Nat} {Z : Scope} {c : Cx} {S : Gs} {s : Shared}

noncomputable def sliceS (x : PySem.Str) (lo hi : Option Int) : PySem.Str := if (Builtin.Str.strSliceIndices lo hi 1 x.length).length == x.length then x else ⟨((Builtin.Str.strSliceIndices lo hi 1 x.length).filterMap (x.cps[·]?)).toArray⟩

theorem Ev.slcS {value : Expr} {lo hi : Option Expr} {ps pos : Pos} {mo : Mo D} {ml mh : Option (Mo D)} (hv : Ev G hn n Z value mo) (h1 : EvP G hn n Z lo ml) (h2 : EvP G hn n Z hi mh) :
    Ev G hn n Z (.Subscript value (.Slice lo hi none ps) pos) (Mo.bind mo fun da => Mo.bind (Mo.part ml) fun pl => Mo.bind (Mo.part mh) fun ph _ σ => match da with
      | .str x => if (sliceS x pl ph).length ≤ sizeLine then some (.val (.str (sliceS x pl ph)), σ) else none
      | _ => none) := by
  intro c env fr S s out σ' q hm
  rw [arm_eval_Subscript]
  refine Tr.bindM hm (fun o1 σ1 e1 => hv c env fr S s o1 σ1 q e1) fun da va S1 tk H1 x1 ra hm1 => ?_
  have q1 := q.step (tk := tk) H1 x1
  intro Q E hq hx
  rw [arm_eval_Slice]
  refine wpAny_bind (wpAny_holding (wpAny_bind ?_))
  (refine xEEAA (bindO hm1) fun o3 σ3 h3 hX3 hV3 => ?_)
  refine trPart h1 q1 h3 _ E (fun pl hb vl S2 tk2 e2 H2 x2 rl => ?_) fun X msg ho S' e h' tk e1 H' x' th => ?_
  rotate_left
  · exact hx X msg (hX3 X msg ho).1 S' e h' tk (e1.trans (hX3 X msg ho).2.symm) H' x' th
  have hm2 := hV3 pl hb
  rw [← e2] at hm2
  have q2 := q1.step (tk := tk2) H2 x2
  refine wpAny_bind (wpAny_holding ?_)
  (refine xEEAA (bindO hm2) fun o4 σ4 h4 hX4 hV4 => ?_)
  refine trPart h2 q2 h4 _ E (fun ph hb vu S3 tk3 e3 H3 x3 ru => ?_) fun X msg ho S' e h' tk e1 H' x' th => ?_
  rotate_left
  · exact hx X msg (hX4 X msg ho).1 S' e h' tk (e1.trans (hX4 X msg ho).2.symm) H' (x2.trans x') th
  have hm3 := hV4 ph hb
  rw [← e3] at hm3
  clear hV4 hX4 h4 hm2 hV3 hX3 h3 hm1 hm
  refine Classical.byContradiction fun nQ => ?_
  split at hm3
  rotate_left
  · exact nnS hm3
  rename_i x
  split at hm3
  rotate_left
  · exact nnS hm3
  rename_i hsz
  (have k1 := s2A hm3; have k2 := s2B hm3; clear hm3; subst k1 k2)
  (refine xEA ra.i_str fun t q0z hxl => ?_; subst q0z)
  refine nQ ?_
  clear nQ
  refine wpAny_bind (wpAny_holding ?_)
  show wpAny _ _ (Pure.pure Value.none) _ _ _
  refine wpAny_pure (wpAny_newObj_type ?_)
  refine Classical.byContradiction fun nQ => ?_
  (refine xA (H3.push { cls := .type "slice", data := .fields #[vl, vu, .none] }) fun H5 x5 => ?_)
  have part : ∀ {v p}, RPart v p → ∃ pt : Option (Int × Tok), v = partValue pt ∧ pt.map (·.1) = p := fun {v p} h => by
    cases p with
    | none => cases h; exact ⟨none, rfl, rfl⟩
    | some i => (refine xE h fun t q0z => ?_; try clear h; subst q0z); exact ⟨some (i, t), rfl, rfl⟩
  (refine xEA (part rl) fun l q0z el => ?_; subst q0z)
  (refine xEA (part ru) fun u q0z eu => ?_; subst q0z)
  refine nQ ?_
  clear nQ
  refine wpAny_bind (wpAny_standAt ?_)
  have hT : ((ShT s (S3.h.push { cls := .type "slice", data := .fields #[partValue l, partValue u, .none] }) tk3) : Shared).TypeIs (.str x t) "str" := typeIs_str _ x t
  refine wpAny_bind ?_
  rw [getitemInPython_of_ne hT.not_modules]
  refine wpAny_bind (wpAny_specialOf hT PySem.F.slot_str_getitem.lookup ?_)
  refine wpAny_pure ?_
  show wpAny _ _ (operate _ (getItem (.str x t) (.ref S3.h.objs.size)) >>= _) _ _ _
  refine wpAny_bind (wpAny_operating (wpAny_getItem_str_slice (l := l) (u := u) (st := none) ⟨_, Heap.get?_push_size _ rfl, rfl, rfl⟩ rfl ?_))
  have fin : ∀ (t' : Tok) tk', wpAny G.M c.A (letTemporaryGo value (.str x t) (.str (sliceS x pl ph) t') >>= fun _ => Pure.pure (.str (sliceS x pl ph) t')) Q E (ShT s (S3.h.push { cls := .type "slice", data := .fields #[partValue l, partValue u, .none] }) tk') := fun t' tk' =>
    wpAny_bind (wpAny_letTemporaryGo (wpAny_pure (hq _ rfl _ { S3 with h := S3.h.push { cls := .type "slice", data := .fields #[partValue l, partValue u, .none] } } tk' rfl H5 ((x2.trans x3).trans x5) (.str _ _ hsz))))
  unfold sliceMade slicePicked
  rw [el, eu]
  unfold sliceS at fin hsz
  refine Classical.byContradiction fun nQ => ?_
  by_cases hc : ((Builtin.Str.strSliceIndices pl ph 1 x.length).length == x.length) = true
  · rw [if_pos hc] at hsz
    simp only [hc, if_true] at fin
    refine nQ ?_
    clear nQ
    rw [if_pos (show ((((none : Option (Int × Tok)).map (·.1)).getD 1 == 1) && ((Builtin.Str.strSliceIndices pl ph (((none : Option (Int × Tok)).map (·.1)).getD 1) x.length).length == x.length)) = true from hc)]
    exact fin t tk3
  · rw [if_neg hc] at hsz
    simp only [hc, if_false] at fin
    refine nQ ?_
    clear nQ
    rw [if_neg (show ¬ ((((none : Option (Int × Tok)).map (·.1)).getD 1 == 1) && ((Builtin.Str.strSliceIndices pl ph (((none : Option (Int × Tok)).map (·.1)).getD 1) x.length).length == x.length)) = true from hc)]
    exact ⟨hsz, fin _ _⟩
end
end Mine
end
section
open PySem PySem.W PyProof.Rows
namespace Mine

section
variable {G : Amb} {hn : Bool} {n : Nat} {Z : Scope} {c : Cx} {S : Gs} {s : Shared}

/-- a function of one argument -/
noncomputable def one1 (f : F1) : Fm := fun ds kd σ => match ds, kd with
  | [d], [] => f d σ
  | _, _ => none
noncomputable def one2 (f : F2) : Fm := fun ds kd σ => match ds, kd with
  | [a, b], [] => f a b σ
  | _, _ => none
theorem Ca.one {f : Value} {g : F1} (h : Op1 G hn n (fun v => call f [v]) g) : Ca G hn n f (one1 g) := by
  intro c S s vs ds kw kd out σ' q hv hk hm
  unfold one1 at hm
  split at hm
  · refine xEA (VRs.i_one hv) fun v e r1 => ?_
    subst e
    cases kw with
    | nil => exact h c S s _ _ out σ' q r1 hm
    | cons => exact hk.elim
  · exact nnS hm
theorem Ca.two {f : Value} {g : F2} (h : Op2 G hn n (fun v w => call f [v, w]) g) : Ca G hn n f (one2 g) := by
  intro c S s vs ds kw kd out σ' q hv hk hm
  unfold one2 at hm
  split at hm
  · refine xEEAA (VRs.i_two hv) fun v w e r1 r2 => ?_
    subst e
    cases kw with
    | nil => exact h c S s _ _ _ _ out σ' q r1 r2 hm
    | cons => exact hk.elim
  · exact nnS hm

/-- len -/
noncomputable def fLen : F1 := fun d σ => match d with
  | .str x => some (.val (.int x.length), σ)
  | .tup ds => some (.val (.int ds.length), σ)
  | d => (lstOf d σ).map fun ds => (.val (.int ds.length), σ)
theorem Ca.len : Ca G hn n (.builtin "len") (one1 fLen) := Ca.one (by
  intro c S s v d out σ' q r hm
  unfold fLen at hm
  split at hm
  · refine Tr.cast hm ?_
    (refine xEA r.i_str fun t q0z hx => ?_; subst q0z)
    exact Tr.tok q.H q.heap fun Q E hq => PyProof.Rows.len_str (by have := sizeLine63 hx; omega) (hq _ _ (.int _ _))
  · refine Tr.cast hm ?_
    (refine xEEEEAAAAAA r.i_tup fun _ _ _ _ q0z h1 h2 h3 h4 h5 h6 => ?_; subst q0z)
    · have hl := VRs.length h6
      exact Tr.tok q.H q.heap fun Q E hq => PyProof.Rows.len_tuple ⟨_, by rw [q.heap]; exact h1, h2, _, h3⟩ (sizeLine63 h4) (by rw [← hl] at hq; simpa using hq _ (s.toks + 1 + 1) (.int _ (s.toks + 1)))
  · (refine xEA (Option.map_eq_some_iff.mp hm) fun ds hds e => ?_)
    (have k1 := p2A e; have k2 := p2B e; clear e; subst k1 k2)
    (refine xEEAAA (lstOf_ok q.H r hds) fun a vs q0z hl hz hr => ?_; subst q0z)
    have hlen := VRs.length hr
    exact Tr.tok q.H q.heap fun Q E hq => Calls.call_len_list (by rw [q.heap]; exact hl) (sizeLine63 hz) (by rw [← hlen] at hq; simpa using hq _ (s.toks + 1 + 1) (.int _ (s.toks + 1))))

/-- type -/
noncomputable def fType : F1 := fun d σ => match d with
  | .str _ => some (.val (.glob (.type "str")), σ)
  | .int _ => some (.val (.glob (.type "int")), σ)
  | .tup _ => some (.val (.glob (.type "tuple")), σ)
  | d => (lstOf d σ).map fun _ => (.val (.glob (.type "list")), σ)
theorem Ca.type : Ca G hn n (.type "type") (one1 fType) := Ca.one (by
  intro c S s v d out σ' q r hm
  unfold fType at hm
  split at hm
  · refine Tr.cast hm ?_; (refine xEA r.i_str fun _ q0z _ => ?_; subst q0z)
    exact Tr.tok q.H q.heap fun Q E hq => call_type_of (typeIs_str s _ _) (by decide) (hq _ s.toks (.glob _))
  · refine Tr.cast hm ?_; (refine xE r.i_int fun _ q0z => ?_; subst q0z)
    exact Tr.tok q.H q.heap fun Q E hq => call_type_of (typeIs_int s _ _) (by decide) (hq _ s.toks (.glob _))
  · refine Tr.cast hm ?_
    (refine xEEEEAAAAAA r.i_tup fun _ _ _ _ q0z h1 h2 h3 h4 h5 h6 => ?_; subst q0z)
    · exact Tr.tok q.H q.heap fun Q E hq => call_type_of ⟨_, by rw [q.heap]; exact h1, h2⟩ (by decide) (hq _ s.toks (.glob _))
  · (refine xEA (Option.map_eq_some_iff.mp hm) fun ds hds e => ?_)
    (have k1 := p2A e; have k2 := p2B e; clear e; subst k1 k2)
    (refine xEEAAA (lstOf_ok q.H r hds) fun a vs q0z q1z hz hr => ?_; subst q0z; refine xEAA q1z fun o ho hc _ => ?_)
    exact Tr.tok q.H q.heap fun Q E hq => call_type_of ⟨o, by rw [q.heap]; exact ho, hc⟩ (by decide) (hq _ s.toks (.glob _)))

/-- chr -/
noncomputable def fChr : F1 := fun d σ => match d with
  | .int i => if 0 ≤ i ∧ i ≤ 1114111 then some (.val (.str ⟨#[i.toNat]⟩), σ) else none
  | _ => none
theorem Ca.chr : Ca G hn n (.builtin "chr") (one1 fChr) := Ca.one (by
  intro c S s v d out σ' q r hm
  unfold fChr at hm
  split at hm
  · split at hm
    · rename_i hb
      refine Tr.cast hm ?_; (refine xE r.i_int fun _ q0z => ?_; subst q0z)
      exact Tr.tok q.H q.heap fun Q E hq => PySem.P.chr_of_int (by simp only [Bool.or_eq_false_iff, decide_eq_false_iff_not]; omega) (hq _ _ (.str _ _ (by show 1 ≤ sizeLine; decide)))
    · exact nnS hm
  · exact nnS hm)

/-- range -/
noncomputable def fRng : Fm := fun ds kd σ => match ds, kd with
  | [.int b], [] => some (.val (.rng 0 b), σ)
  | [.int a, .int b], [] => some (.val (.rng a b), σ)
  | _, _ => none
theorem fRng_inv {ds : List D} {kd : List (PySem.Str × D)} {σ : List AO} {r : Out D × List AO} (h : fRng ds kd σ = some r) {X : Prop} (k1 : ∀ b, ds = [.int b] → kd = [] → some (.val (.rng 0 b), σ) = some r → X) (k2 : ∀ a b, ds = [.int a, .int b] → kd = [] → some (.val (.rng a b), σ) = some r → X) : X := by
  cases ds with
  | nil => exact nnS h
  | cons d ds => cases d with
    | none | bool | str | tup | lst | dct | ref | glob | exc | rng => exact nnS h
    | int a => cases ds with
      | nil => cases kd with
        | nil => exact k1 a rfl rfl h
        | cons => exact nnS h
      | cons e ds => cases e with
        | none | bool | str | tup | lst | dct | ref | glob | exc | rng => exact nnS h
        | int b => cases ds with
          | cons => exact nnS h
          | nil => cases kd with
            | nil => exact k2 a b rfl rfl h
            | cons => exact nnS h
theorem Ca.range : Ca G hn n (.type "range") fRng := by
  intro c S s vs ds kw kd out σ' q hv hk hm
  refine fRng_inv hm (fun b e1 e2 hm => ?_) fun a b e1 e2 hm => ?_
  · refine Tr.cast hm ?_
    clear hm
    rw [e1] at hv
    rw [e2] at hk
    (refine xEA (VRs.i_one hv) fun v q0z r1 => ?_; subst q0z)
    (refine xE r1.i_int fun t q0z => ?_; subst q0z)
    obtain rfl := Rbs.i_nil hk
    refine Tr.of_wp fun Q E hq => call_range_1 ?_
    have := hq (.ref S.h.objs.size) { S with h := S.h.push { cls := .type "range", data := .fields #[.int 0 s.toks, .int b t, .int 1 (s.toks + 1)] } } (s.toks + 1 + 1) rfl (q.H.push _).1 (q.H.push _).2 (.rng (IsRange.new ..) q.H.size_notin)
    rw [← q.heap] at this; exact this
  · refine Tr.cast hm ?_
    clear hm
    rw [e1] at hv
    rw [e2] at hk
    (refine xEEAA (VRs.i_two hv) fun v1 v2 q0z r1 r2 => ?_; subst q0z)
    (refine xE r1.i_int fun t q0z => ?_; subst q0z)
    (refine xE r2.i_int fun u q0z => ?_; subst q0z)
    obtain rfl := Rbs.i_nil hk
    refine Tr.of_wp fun Q E hq => call_range_2 ?_
    have := hq (.ref S.h.objs.size) { S with h := S.h.push { cls := .type "range", data := .fields #[.int a t, .int b u, .int 1 s.toks] } } (s.toks + 1) rfl (q.H.push _).1 (q.H.push _).2 (.rng (IsRange.new ..) q.H.size_notin)
    rw [← q.heap] at this; exact this

/-- tuple of a list -/
noncomputable def fTup : F1 := fun d σ => (lstOf d σ).map fun ds => (.val (.tup ds), σ)
theorem Ca.tuple : Ca G hn n (.type "tuple") (one1 fTup) := Ca.one (by
  intro c S s v d out σ' q r hm
  (refine xEA (Option.map_eq_some_iff.mp hm) fun ds hds e => ?_)
  (have k1 := p2A e; have k2 := p2B e; clear e; subst k1 k2)
  (refine xEEAAA (lstOf_ok q.H r hds) fun a vs q0z hl hz hr => ?_; subst q0z)
  refine Tr.of_wp fun Q E hq => call_tuple_list (by rw [q.heap]; exact hl) (fun h' hk => ?_) hz
  rw [q.heap] at hk
  (refine xA (q.H.grow hk) fun H1 x1 => ?_)
  have hz' : vs.toList.length ≤ sizeLine := by simpa using hz
  have := hq (.ref h'.objs.size) { S with h := h'.push { cls := .type "tuple", data := .seq vs } } s.toks rfl (H1.push _).1 (x1.trans (H1.push _).2) (by have := Rv.newTup H1 (Rvs.ext hr x1) hz' (nn := 0); simpa using this)
  exact this)

/-- list of a list, list of a string -/
theorem trListL {v : Value} {d : D} {ds : List D} (q : Ho G hn n c S s) (r : Rv G c S v d) (h : lstOf d S.σ = some ds) {Q : Value → Shared → Prop} {E : Value → Shared → Prop}
    (hq : ∀ h' vs cc, (∀ b o, S.h.get? b = some o → h'.get? b = some o) → h'.get? S.h.objs.size = some { cls := .type "list", data := .seq vs cc } → vs.size ≤ sizeLine → Rvs G c S vs.toList ds → Q (.ref S.h.objs.size) { s with heap := h' }) : wpAny G.M c.A (call (.type "list") [v]) Q E s := by
  (refine xEEAAA (lstOf_ok q.H r h) fun a vs q0z q1z hz hr => ?_; subst q0z; refine xEAAE q1z fun o ho hc m hd => ?_)
  refine call_list_seq (hsz := hz) a (.inl rfl) (by rw [q.heap]; exact ho) hc hd fun h' c' hk hD => ?_
  rw [q.heap] at hk hD ⊢
  exact hq h' vs c' hk hD hz hr
theorem Op1.listF : Op1 G hn n (fun v => call (.type "list") [v]) (fun d σ => (lstOf d σ).map fun ds => (.val (.lst ds), σ)) := by
  intro c S s v d out σ' q r hm
  (refine xEA (Option.map_eq_some_iff.mp hm) fun ds hds e => ?_)
  (have k1 := p2A e; have k2 := p2B e; clear e; subst k1 k2)
  refine Tr.of_wp fun Q E hq => trListL q r hds fun h' vs cc hk hD hz hr => ?_
  (refine xA (q.H.grow hk) fun H1 x1 => ?_)
  exact hq _ { S with h := h' } s.toks rfl H1 x1 (.lst hD rfl rfl hz q.H.size_notin (Rvs.ext hr x1))
theorem Op1.listR : Op1 G hn n (fun v => call (.type "list") [v]) (fun d σ => (lstOf d σ).map fun ds => (.val (.ref σ.length), σ ++ [.lst ds])) := by
  intro c S s v d out σ' q r hm
  (refine xEA (Option.map_eq_some_iff.mp hm) fun ds hds e => ?_)
  (have k1 := p2A e; have k2 := p2B e; clear e; subst k1 k2)
  refine Tr.of_wp fun Q E hq => trListL q r hds fun h' vs cc hk hD hz hr => ?_
  (refine xAA (q.H.bornLst (a := S.h.objs.size) hk (Heap.get?_none_of_le (Nat.le_refl _)) hD hz hr) fun Hb xb rb => ?_)
  exact hq _ _ s.toks rfl Hb xb rb

/-- sum of a list of ints -/
noncomputable def intsOf : List D → Option (List Int)
  | [] => some []
  | .int i :: ds => (intsOf ds).map (i :: ·)
  | _ => none
theorem intsOf_rel {P : Params} {adr : Adr} {V : List Addr} {h : Heap} {vs : List Value} {ds : List D} {ns : List Int} (r : VRs P adr V h vs ds) (e : intsOf ds = some ns) : ∀ (i : Nat) v, vs[i]? = some v → ∃ t, v = .int (ns.getD i 0) t :=
  VRs.ind (C := fun vs ds => ∀ ns, intsOf ds = some ns → ∀ (i : Nat) v, vs[i]? = some v → ∃ t, v = .int (ns.getD i 0) t) (fun _ _ _ _ h => nnS h)
    (fun v d vs ds r _ ih ns e i w hw => by
      cases d with
      | int k =>
        (refine xEA (Option.map_eq_some_iff.mp e) fun ms hms e' => ?_)
        clear e
        subst e'
        cases i with
        | zero => exact (Option.some.inj hw) ▸ r.i_int
        | succ i => exact ih ms hms i w hw
      | _ => exact nnS e) r ns e
theorem intsOf_len : ∀ {ds : List D} {ns : List Int}, intsOf ds = some ns → ns.length = ds.length
  | [], _, e => by (have k1 := s1E e; clear e; subst k1); rfl
  | d :: ds, ns, e => by
    cases d with
    | int k =>
      (refine xEA (Option.map_eq_some_iff.mp e) fun ms hms e' => ?_)
      subst e'
      simp [intsOf_len hms]
    | _ => exact nnS e
theorem preSum_list : ∀ (ns : List Int) (k : Nat), k ≤ ns.length → preSum (fun i => ns.getD i 0) k = (ns.take k).sum
  | ns, 0, _ => by simp [preSum]
  | ns, k + 1, h => by
    rw [preSum, preSum_list ns k (by omega), List.take_add_one, List.sum_append]
    rw [List.getElem?_eq_getElem (by omega)]
    simp [List.getD_eq_getElem?_getD, List.getElem?_eq_getElem (show k < ns.length by omega)]
noncomputable def fSum : F1 := fun d σ => (lstOf d σ).bind fun ds => (intsOf ds).map fun ns => (.val (.int ns.sum), σ)
theorem Ca.sum : Ca G true n (.builtin "sum") (one1 fSum) := Ca.one (by
  intro c S s v d out σ' q r hm
  (refine xEA (Option.bind_eq_some_iff.mp hm) fun ds hds hm => ?_)
  (refine xEA (Option.map_eq_some_iff.mp hm) fun ns hns e => ?_)
  (have k1 := p2A e; have k2 := p2B e; clear e; subst k1 k2)
  (refine xEEAAA (lstOf_ok q.H r hds) fun a vs q0z hl hz hr => ?_; subst q0z)
  have hlen : vs.size = ns.length := by rw [intsOf_len hns]; simpa using VRs.length hr
  refine Tr.of_wp fun Q E hq => call_sum_walkG ?_
  have hl' : s.heap.IsList a vs := by rw [q.heap]; exact hl
  have hne : a ≠ s.heap.objs.size := by (refine xEA hl' fun o ho _ => ?_; try clear hl'); exact Nat.ne_of_lt (Heap.lt_size ho)
  refine wpAny_pyIter_list hl' ⟨_, _, _, _, _, _, fun i => ns.getD i 0, rfl, Walks.list (A := c.A.in1) (q.hand rfl) s.heap.objs.size a hne vs, ⟨⟨_, Heap.get?_push_size _ rfl, rfl, rfl⟩, hl'.push _⟩, fun b hb => ?_, fun i v hv => intsOf_rel hr hns i v (by simpa using hv), fun h' tk t' hk => ?_⟩
  · rw [Heap.size_push]
    rcases List.mem_cons.mp hb with rfl | hb
    · exact Nat.lt_succ_self _
    · rcases List.mem_singleton.mp hb with rfl
      (refine xEA hl' fun o ho _ => ?_; try clear hl')
      exact Nat.lt_succ_of_lt (Heap.lt_size ho)
  · have hk' : ∀ b o, S.h.get? b = some o → h'.get? b = some o := fun b o e => by
      rw [← q.heap] at e
      exact hk b o (fun hm => by rcases List.mem_singleton.mp hm with rfl; exact Nat.lt_irrefl _ (Heap.lt_size e)) (Heap.get?_push_of_some _ e)
    (refine xA (q.H.grow hk') fun H1 x1 => ?_)
    rw [hlen, preSum_list ns ns.length (Nat.le_refl _), List.take_length]
    exact hq _ { S with h := h' } tk rfl H1 x1 (.int _ _))
end
end Mine
end
section
open PySem PySem.W PyProof.Rows
namespace Mine

section
variable {G : Amb} {hn : Bool} {n : Nat} {Z : Scope} {c : Cx} {S : Gs} {s : Shared}

noncomputable def isLst (d : D) (σ : List AO) : Bool := (lstOf d σ).isSome
noncomputable def isStr : D → List AO → Bool
  | .str _, _ => true
  | _, _ => false
set_option maxRecDepth 100000 in
theorem Gm.str {name : PySem.Str} {id : String} (slot : Slot "str" name id) (hty : typeOf (.builtin id) = pure (.type "method_descriptor")) : Gm G name isStr (.builtin id) := by
  intro c S s v d pl Q E H hs r hP hq
  unfold isStr at hP
  split at hP
  · rename_i x
    refine xEA (VR.i_str r) fun t ev hx => ?_
    subst ev
    have h1 := hq s.toks
    exact getMethod_builtin (T := "str") (v := .str x t) (typeIs_str s x t) PySem.F.plainAttrs_str slot hty (fun a e => by exact nAny PySem.Value.ctorIdx e rfl) h1
  · exact nFT hP
noncomputable def isRefL (d : D) (σ : List AO) : Bool := match d with
  | .ref k => match σ[k]? with
    | some (.lst _) => true
    | _ => false
  | _ => false
theorem isRefL_of {d : D} {σ : List AO} (h : isRefL d σ = true) : ∃ k ds, d = .ref k ∧ σ[k]? = some (.lst ds) := by
  unfold isRefL at h
  split at h
  · split at h
    · rename_i k _ ds hk; exact ⟨k, ds, rfl, hk⟩
    · exact nFT h
  · exact nFT h
theorem Gm.lst {name : PySem.Str} {id : String} (slot : Slot "list" name id) (hty : typeOf (.builtin id) = pure (.type "method_descriptor")) : Gm G name isRefL (.builtin id) := by
  intro c S s v d pl Q E H hs r hP hq
  (refine xEEA (isRefL_of hP) fun k ds q0z hk => ?_; subst q0z)
  (refine xEEEAAAA (H.lstX r hk) fun p m vs q0z hp ho hz hr => ?_; subst q0z)
  exact getMethod_builtin ⟨_, by rw [hs]; exact ho, rfl⟩ PySem.F.plainAttrs_list slot hty (fun a e => by (have k1 := Value.ref.inj e; clear e; subst k1); exact ⟨_, by rw [hs]; exact ho, rfl⟩) (hq s.toks)

/-- append -/
noncomputable def fAppend : F2 := fun a b σ => match a with
  | .ref k => match σ[k]? with
    | some (.lst ds) => if ds.length + 1 ≤ sizeLine then some (.val .none, σ.set k (.lst (ds ++ [b]))) else none
    | _ => none
  | _ => none
theorem Ca.append : Ca G hn n (.builtin "list.append") (one2 fAppend) := Ca.two (by
  intro c S s va vb da db out σ' q ra rb hm
  unfold fAppend at hm
  split at hm
  · split at hm
    · rename_i k _ ds hk
      split at hm
      · rename_i hsz
        refine Tr.cast hm ?_
        (refine xEEEAAAA (q.H.lstX ra hk) fun p m vs q0z hp ho hz hr => ?_; subst q0z)
        have hlen := VRs.length hr
        refine Tr.of_wp fun Q E hq => append_isL (by rw [q.heap]; exact ho) hz fun h' n' hl' hs' => ?_
        rw [q.heap] at hs'
        (refine xA (q.H.setLst (ds' := ds ++ [db]) hp hk hs' hl' (by rw [Array.size_push]; simp at hlen; omega) (by rw [Array.toList_push]; exact VRs.append hr (VRs.one rb))) fun H1 x1 => ?_)
        exact hq .none ⟨S.adr, S.σ.set k (.lst (ds ++ [db])), h'⟩ s.toks rfl H1 x1 .none
      · exact nnS hm
    · exact nnS hm
  · exact nnS hm)

/-- clear -/
noncomputable def fClear : F1 := fun a σ => match a with
  | .ref k => match σ[k]? with
    | some (.lst _) => some (.val .none, σ.set k (.lst []))
    | _ => none
  | _ => none
theorem Ca.clear : Ca G hn n (.builtin "list.clear") (one1 fClear) := Ca.one (by
  intro c S s va da out σ' q ra hm
  unfold fClear at hm
  split at hm
  · split at hm
    · rename_i k _ ds hk
      refine Tr.cast hm ?_
      (refine xEEEAAAA (q.H.lstX ra hk) fun p m vs q0z hp ho hz hr => ?_; subst q0z)
      have ho' : s.heap.get? p.1 = some { cls := .type "list", dict := none, data := .seq vs m, slots := #[] } := by rw [q.heap]; exact ho
      refine Tr.of_wp fun Q E hq => call_meets PySem.F.slot_list_clear ⟨_, ho', rfl⟩ PySem.F.entry_list_clear (PySem.F.args_list_clear_1 _) (PySem.AutoSeq1.list_clear_list_0 p.1 vs m hz) ⟨ho', ?_⟩
      have hs' : Heap.SameBut p.1 S.h (S.h.update p.1 (Obj.mapSeq fun _ => (#[] : Array Value))) := Heap.SameBut.update ..
      (refine xA (q.H.setLst (ds' := []) hp hk hs' (PySem.IsL.update ho fun _ => #[]) (Nat.zero_le _) .nil) fun H1 x1 => ?_)
      have := hq .none ⟨S.adr, S.σ.set k (.lst []), S.h.update p.1 (Obj.mapSeq fun _ => (#[] : Array Value))⟩ s.toks rfl H1 x1 .none
      rw [← q.heap] at this; exact this
    · exact nnS hm
  · exact nnS hm)

/-- pop -/
noncomputable def fPop : F1 := fun a σ => match a with
  | .ref k => match σ[k]? with
    | some (.lst ds) => (ds.getLast?).map fun d => (.val d, σ.set k (.lst ds.dropLast))
    | _ => none
  | _ => none
theorem eraseLast (vs : Array Value) : (vs.eraseIdxIfInBounds (vs.size - 1)).toList = vs.toList.dropLast := by
  by_cases h : 0 < vs.size
  · unfold Array.eraseIdxIfInBounds
    rw [dif_pos (by omega), Array.toList_eraseIdx, List.dropLast_eq_take, List.eraseIdx_eq_take_drop_succ]
    have : vs.toList.length = vs.size := by simp
    rw [this, show vs.size - 1 + 1 = vs.size by omega, List.drop_of_length_le (by omega), List.append_nil]
  · have h0 : vs = #[] := by apply Array.eq_empty_of_size_eq_zero; omega
    subst h0; rfl
theorem VRs.dropLast {P : Params} {adr : Adr} {V : List Addr} {h : Heap} {vs : List Value} {ds : List D} (r : VRs P adr V h vs ds) : VRs P adr V h vs.dropLast ds.dropLast := by
  rw [List.dropLast_eq_take, List.dropLast_eq_take, r.length]
  exact r.take _
theorem Ca.pop : Ca G hn n (.builtin "list.pop") (one1 fPop) := Ca.one (by
  intro c S s va da out σ' q ra hm
  unfold fPop at hm
  split at hm
  · split at hm
    · rename_i k _ ds hk
      (refine xEA (Option.map_eq_some_iff.mp hm) fun d hd e => ?_)
      (have k1 := p2A e; have k2 := p2B e; clear e; subst k1 k2)
      (refine xEEEAAAA (q.H.lstX ra hk) fun p m vs q0z hp ho hz hr => ?_; subst q0z)
      have hlen : vs.size = ds.length := by simpa using VRs.length hr
      rw [List.getLast?_eq_getElem?] at hd
      (refine xEA (VRs.get hr hd) fun y hy ry => ?_)
      have ho' : s.heap.get? p.1 = some { cls := .type "list", dict := none, data := .seq vs m, slots := #[] } := by rw [q.heap]; exact ho
      refine Tr.of_wp fun Q E hq => call_meets PySem.F.slot_list_pop ⟨_, ho', rfl⟩ PySem.F.entry_list_pop (PySem.F.args_list_pop_1 _) (PySem.MeetsSeq.list_pop_last p.1 vs m y (by rw [hlen]; simpa using hy) hz) ⟨ho', ?_⟩
      have hs' : Heap.SameBut p.1 S.h (S.h.update p.1 (Obj.mapSeq fun xs => xs.eraseIdxIfInBounds (vs.size - 1))) := Heap.SameBut.update ..
      obtain ⟨H1, x1⟩ := q.H.setLst (ds' := ds.dropLast) hp hk hs' (PySem.IsL.update ho fun xs => xs.eraseIdxIfInBounds (vs.size - 1)) (by
        have e := congrArg List.length (eraseLast vs)
        rw [Array.length_toList, List.length_dropLast, Array.length_toList] at e
        omega) (by rw [eraseLast]; exact VRs.dropLast hr)
      have := hq y ⟨S.adr, S.σ.set k (.lst ds.dropLast), S.h.update p.1 (Obj.mapSeq fun xs => xs.eraseIdxIfInBounds (vs.size - 1))⟩ s.toks rfl H1 x1 (Rv.ext ry x1)
      rw [← q.heap] at this; exact this
    · exact nnS hm
  · exact nnS hm)
end
end Mine
end
section
open PySem PySem.W PyProof.Rows
namespace Mine

section
variable {G : Amb} {hn : Bool} {n : Nat} {Z : Scope} {c : Cx} {S : Gs} {s : Shared}

noncomputable def mfCls (C : Addr) (mfI : Fm) : Fm := fun ds kd σ => match mfI (.ref σ.length :: ds) kd (σ ++ [.ins C []]) with
  | some (.val .none, σ') => some (.val (.ref σ.length), σ')
  | some (.exc X msg, σ') => some (.exc X msg, σ')
  | _ => none

theorem units_tc (vs : List Value) (kw : List (PySem.Str × Value)) : (Code.builtin "type.__call__" ⟨vs, kw⟩).cUnits ≤ 2 := by
  have : (Code.builtin "type.__call__" ⟨vs, kw⟩).cUnits = (Code.builtin "type.__call__" ⟨[], []⟩).cUnits := rfl
  rw [this]; decide +kernel
theorem Fn.cls {C fI : Addr} {mfI : Fm} (hm : makesIn G.K C = true) (hi : findIn G.K (.ref C) "__init__" = some (some (.ref fI))) (hf : typeIn G.K (.ref fI) = some (.type "function")) (h : Fn G hn n fI mfI) : Fn G hn (n + 1) C (mfCls C mfI) := by
  intro c S s vs ds kw kd out σ' q hv hk hmm Q E hq hx
  obtain ⟨hh, g, d, tk, os⟩ := s
  have hheap : hh = S.h := q.heap
  subst hheap
  have X := q.H.kin
  refine make_core (makes_of X hm) (looks_findIn X hi) (fun self => bind_fn X self hf) (.inl rfl) ?_
  -- the new object in the store
  have gX : ((S.h.push emptyDict).push (instObj C S.h.objs.size)).get? (S.h.objs.size + 1) = some (instObj C S.h.objs.size) := by
    have := Heap.get?_push_size (S.h.push emptyDict) (o := instObj C S.h.objs.size) rfl
    rwa [Heap.size_push] at this
  have gD : ((S.h.push emptyDict).push (instObj C S.h.objs.size)).get? S.h.objs.size = some emptyDict := Heap.get?_push_of_some _ (Heap.get?_push_size _ rfl)
  obtain ⟨HB, xB⟩ := q.H.born (p := (S.h.objs.size + 1, S.h.objs.size)) (o := .ins C []) (h' := (S.h.push emptyDict).push (instObj C S.h.objs.size)) (fun b o e => Heap.get?_push_of_some _ (Heap.get?_push_of_some _ e))
    (fun a ha => by
      cases ha with
      | head => exact ⟨Heap.get?_none_of_le (Nat.le_succ _), _, gX⟩
      | tail _ ha => cases ha with
        | head => exact ⟨Heap.get?_none_of_le (Nat.le_refl _), _, gD⟩
        | tail _ ha => cases ha)
    (by
      show [S.h.objs.size + 1, S.h.objs.size].Nodup
      refine List.nodup_cons.mpr ⟨fun hm => ?_, List.nodup_cons.mpr ⟨List.not_mem_nil, .nil⟩⟩
      have := List.mem_singleton.mp hm
      omega)
    (fun x => ⟨gX, #[], 0, gD, .nil⟩)
  have hA : (c.A.under (.builtin "type.__call__" ⟨.ref C :: vs, kw⟩)).frames = c.A.frames := by
    unfold Around.under
    cases c.A.frames <;> rfl
  have HU : Heaps G { c with A := c.A.under (.builtin "type.__call__" ⟨.ref C :: vs, kw⟩) } ⟨S.adr ++ [(S.h.objs.size + 1, S.h.objs.size)], S.σ ++ [.ins C []], (S.h.push emptyDict).push (instObj C S.h.objs.size)⟩ := HB.setA hA
  have qU : Ho G hn n { c with A := c.A.under (.builtin "type.__call__" ⟨.ref C :: vs, kw⟩) } ⟨S.adr ++ [(S.h.objs.size + 1, S.h.objs.size)], S.σ ++ [.ins C []], (S.h.push emptyDict).push (instObj C S.h.objs.size)⟩ ⟨(S.h.push emptyDict).push (instObj C S.h.objs.size), g, d, tk, os⟩ :=
    ⟨by show c.A.depth + 1 + 3 * n < recursionLimit; have := q.room; omega, by
      have hu : (c.A.under (.builtin "type.__call__" ⟨.ref C :: vs, kw⟩)).units ≤ c.A.units + 2 := by
        show c.A.units + _ ≤ _
        exact Nat.add_le_add_left (units_tc _ _) _
      have := q.units
      show (c.A.under (.builtin "type.__call__" ⟨.ref C :: vs, kw⟩)).units + 30 * n < cLine
      omega, q.hand, rfl, HU⟩
  have rx : Rv G c ⟨S.adr ++ [(S.h.objs.size + 1, S.h.objs.size)], S.σ ++ [.ins C []], (S.h.push emptyDict).push (instObj C S.h.objs.size)⟩ (.ref (S.h.objs.size + 1)) (.ref S.σ.length) := by
    refine .ref (p := (S.h.objs.size + 1, S.h.objs.size)) ?_
    show (S.adr ++ [_])[S.σ.length]? = _
    rw [← q.H.len, List.getElem?_append_right (Nat.le_refl _), Nat.sub_self]; rfl
  unfold mfCls at hmm
  cases hI : mfI (.ref S.σ.length :: ds) kd (S.σ ++ [.ins C []]) with
  | none => rw [hI] at hmm; exact nnS hmm
  | some pr =>
    obtain ⟨o, σ1⟩ := pr
    rw [hI] at hmm
    have call := h { c with A := c.A.under (.builtin "type.__call__" ⟨.ref C :: vs, kw⟩) } _ _ (.ref (S.h.objs.size + 1) :: vs) (.ref S.σ.length :: ds) kw kd o σ1 qU (.cons rx (show Rvs G c _ vs ds from Rvs.ext hv xB)) (Rbs.cx (c := c) (c' := { c with A := c.A.under (.builtin "type.__call__" ⟨.ref C :: vs, kw⟩) }) rfl rfl (Rbs.ext xB hk)) hI
      (fun v s' => v = .none ∧ Q (.ref (S.h.objs.size + 1)) s') E (fun b hb a S' tk' e' H' x' r' => by
        subst hb
        cases b with
        | none =>
          (have k1 := s2A hmm; have k2 := s2B hmm; clear hmm; subst k1 k2)
          have ev := VR.i_none r'
          subst ev
          have x'' : Ext c ⟨S.adr ++ [(S.h.objs.size + 1, S.h.objs.size)], S.σ ++ [.ins C []], (S.h.push emptyDict).push (instObj C S.h.objs.size)⟩ S' := ⟨x'.adr, x'.keep, x'.fresh, x'.live⟩
          exact ⟨rfl, hq _ rfl _ S' tk' e' (H'.setA hA.symm) (xB.trans x'') (Rv.ext rx x'')⟩
        | _ => exact nnS hmm) (fun X' msg ho S' e h' tk' e' H' x' th => by
        subst ho
        (have k1 := s2A hmm; have k2 := s2B hmm; clear hmm; subst k1 k2)
        have x'' : Ext c ⟨S.adr ++ [(S.h.objs.size + 1, S.h.objs.size)], S.σ ++ [.ins C []], (S.h.push emptyDict).push (instObj C S.h.objs.size)⟩ S' := ⟨x'.adr, x'.keep, x'.fresh, x'.live⟩
        exact hx _ _ rfl S' e h' tk' e' (H'.setA hA.symm) (xB.trans x'') th)
    refine codeAny_mono call fun r s' z => ?_
    rcases r with e | (v | _ | _ | _) <;> first | exact z | exact z.elim
end
end Mine
end
section
open PySem PySem.W PyProof.Rows PySem.Calls Builtin Builtin.ObjectAttr Builtin.Getset_descriptor
set_option maxRecDepth 100000
namespace Mine

section
variable {prog : Program} {w : World} {A : Around} {s : Shared} {K : Frag} {x C dx : Addr} {R : Result → Shared → Prop}
theorem osaDict {ox od od' : Obj} {name : PySem.Str} {tk : Tok} {v : Value} {es : List DictEntry} {n : Nat} (X : K.In s.heap)
    (I : InstAt s.heap x ox C (some od)) (hd : ox.dict = some dx) (hD : s.heap.get? dx = some od) (hp : plainOver K C = true) (ht : takerIn K C name = some none) (hh : (clsIn K C).any (·.hasDict) = true)
    (hl : (lookIn name od).isSome = true) (e : Obj.putName name (PyData.keyHash w.params name) (.str name s.toks) v od = od') (e' : od'.data = .dict es.toArray n) (hz : es.length ≤ 1000)
    (h : R (.ok (.ret .none)) (ShT s (s.heap.update dx (Obj.putName name (PyData.keyHash w.params name) (.str name s.toks) v)) (s.toks + 1))) :
    codeAny (model prog w) A (.call (.builtin "object.__setattr__") ⟨[.ref x, .str name tk, v], []⟩) R s := by
  refine osa_open X I hp ht fun b => ?_
  (refine xEA (any_some hh) fun cd hc hd' => ?_)
  have hfr : od'.isFreed = false := by obtain ⟨_, _, dd, _⟩ := od'; cases e'; rfl
  have D' : (s.heap.update dx (Obj.putName name (PyData.keyHash w.params name) (.str name s.toks) v)).get? dx = some od' := by
    have := Heap.get?_update_self (Obj.putName name (PyData.keyHash w.params name) (.str name s.toks) v) hD (by rw [e]; exact hfr)
    rw [e] at this; exact this
  obtain ⟨hx, hcl, hn, -⟩ := I
  obtain ⟨oc, odi, oda, osl⟩ := ox
  dsimp only at hcl hd
  subst hcl hd
  refine wpAny_bind (wpAny_pure (wpAny_bind (wpAny_bind (wpAny_loadPart hx (wpAny_bind ((looks_clsIn X hc).here ?_))))))
  rw [hd']
  refine wpAny_pure (a := some dx) (wpAny_bind (wpAny_pure (wpAny_bind ?_)))
  unfold nsSet
  refine wpAny_bind (wpAny_bind (wpAny_askSetting (wpAny_pure (wpAny_bind (wpAny_mkText (wpAny_bind (wpAny_loadPart hD ?_)))))))
  unfold lookIn at hl
  split at hl
  · rename_i es₀ n₀ q
    rw [q]
    dsimp only
    have c : (!es₀.any (·.key.isStr name) && es₀.any (·.refKey)) = false := by
      rw [← Array.any_toList, ← Array.any_toList]
      split at hl
      · rename_i en he
        rw [List.any_eq_true.mpr ⟨en, List.mem_of_find?_eq_some he, List.find?_some he⟩]; rfl
      · split at hl
        · exact nFT hl
        · rename_i z; rw [Bool.not_eq_true] at z; rw [z, Bool.and_false]
    rw [aRefKeyMayBeTheName_at, c]
    refine wpAny_updatePart hD ?_
    refine wpAny_bind (wpAny_lookBehind D' (by rw [e']; exact pastItsLine_dict (by rw [List.size_toArray, sizeLine_eq]; omega)) ?_)
    exact wpAny_pure h
  · exact nFT hl
end

theorem putL_new {name : PySem.Str} {hsh : Int} {key v : Value} : ∀ {es : List DictEntry}, (∀ e ∈ es, e.key.isStr name = false) → putL name hsh key v es = es ++ [⟨hsh, key, v⟩] ∧ es.any (·.key.isStr name) = false
  | [], _ => ⟨rfl, rfl⟩
  | e :: es, h => by
    have h1 := h e (.head _)
    (refine xA (putL_new (hsh := hsh) (key := key) (v := v) fun x hx => h x (.tail _ hx)) fun h2 h3 => ?_)
    unfold putL
    rw [h1]
    refine ⟨by rw [if_neg (by decide), h2]; rfl, by rw [List.any_cons, h1, h3]; rfl⟩
theorem VRe.noName {P : Params} {adr : Adr} {V : List Addr} {h : Heap} {name : PySem.Str} {es : List DictEntry} {at_ : List (PySem.Str × D)} (r : VRe P adr V h es at_) (hl : at_.lookup name = none) : ∀ e ∈ es, e.key.isStr name = false :=
  VRe.ind (C := fun es at_ => at_.lookup name = none → ∀ e ∈ es, e.key.isStr name = false) (fun _ _ he => nomatch he)
    (fun e x t d es ds hk _ _ _ ih hl e' he => by
      rw [List.lookup_cons] at hl
      by_cases q : name = x
      · subst q; rw [beq_self_eq_true] at hl; exact nSn hl
      · rw [beq_eq_false_iff_ne.mpr q] at hl
        rcases List.mem_cons.mp he with rfl | he
        · rw [hk]
          exact beq_eq_false_iff_ne.mpr fun e : x = name => q e.symm
        · exact ih hl e' he) r hl
theorem VRe.snoc {P : Params} {adr : Adr} {V : List Addr} {h : Heap} {x : PySem.Str} {t : Tok} {v : Value} {d : D} (rv : VR P adr V h v d) {es : List DictEntry} {at_ : List (PySem.Str × D)} (r : VRe P adr V h es at_) : VRe P adr V h (es ++ [⟨PyData.keyHash P x, .str x t, v⟩]) (at_ ++ [(x, d)]) :=
  VRe.ind (C := fun es at_ => VRe P adr V h (es ++ [⟨PyData.keyHash P x, .str x t, v⟩]) (at_ ++ [(x, d)])) (.cons rfl rfl rv .nil) (fun _ _ _ _ _ _ hk hh hv _ ih => .cons hk hh hv ih) r

section
variable {G : Amb} {hn : Bool} {n : Nat} {Z : Scope} {c : Cx} {S : Gs} {s : Shared}

noncomputable def Mf.setA (C : Addr) (name : PySem.Str) (mo : Mo D) (d : D) : Mf Unit := Mf.bind (Mf.lift mo) fun o fr σ => match o with
  | .ref k => match σ[k]? with
    | some (.ins C' at_) => if C' = C ∧ at_.lookup name = none ∧ at_.length < 900 then some (.val (), fr, σ.set k (.ins C (at_ ++ [(name, d)]))) else none
    | _ => none
  | _ => none

theorem VRe.length {P : Params} {adr : Adr} {V : List Addr} {h : Heap} {es : List DictEntry} {at_ : List (PySem.Str × D)} (r : VRe P adr V h es at_) : es.length = at_.length :=
  VRe.ind (C := fun es at_ => es.length = at_.length) rfl (fun _ _ _ _ _ _ _ _ _ _ ih => congrArg (· + 1) ih) r

theorem As.attr {o : Expr} {name : PySem.Str} {pos : Pos} {C : Addr} {mo : Mo D} (ho : Ev G hn n Z o mo) (hs : findIn G.K (.ref C) "__setattr__" = some (some (.builtin "object.__setattr__"))) (hp : plainOver G.K C = true) (ht : takerIn G.K C name = some none) (hh : hasDictIn G.K C = true) :
    As G hn n Z (.Attribute o name pos) (Mf.setA C name mo) := by
  intro c env fr S s v d out fr' σ' q r hm
  show TrF G c env S s _ (do let ov ← PySem.holding [v] (eval o env); PySem.standAt pos.atName; PySem.holding [v, ov] (setAttr ov name v); release [v, ov] []) out fr' σ'
  refine TrF.bindE q hm (fun o1 σ1 e1 => (ho c env fr S s o1 σ1 q e1).holding) fun od ov S1 tk q1 x1 r1 e2 => ?_
  split at e2
  · rename_i k
    split at e2
    · rename_i C' at_ hk
      split at e2
      · rename_i hc
        (refine xAA hc fun q0z hl hlen => ?_; try clear hc; subst q0z)
        refine TrF.cast e2 ?_
        refine TrF.standAt ?_
        intro Q E hq hx
        (refine xEEEAAAAA (q1.H.instX r1 hk) fun p es m q0z hpa I hD hX re => ?_; subst q0z)
        have rv := r.ext x1
        have nn := VRe.noName re hl
        have put : ∀ (t : Tok), Obj.putName name (PyData.keyHash G.w.params name) (.str name t) v (dictOf es m) = dictOf (es ++ [⟨PyData.keyHash G.w.params name, .str name t, v⟩]) (m + 1) := fun t => by
          rw [putName_dict]
          (refine xA (putL_new (hsh := PyData.keyHash G.w.params name) (key := .str name t) (v := v) nn) fun e1 e2 => ?_)
          unfold putN
          rw [e1, e2]; rfl
        have hgl : (lookIn name (dictOf es m)).isSome = true := by
          show (W.getL name es).isSome = true
          rw [(VRe.getL name re).1 hl]; rfl
        have hle := VRe.length re
        refine wpAny_bind (wpAny_holding (set_plain q1.H.kin I hs (osaDict (s := (ShT s S1.h (tk + 1))) (n := m + 1) (es := es ++ [⟨PyData.keyHash G.w.params name, .str name (tk + 1), v⟩]) q1.H.kin I rfl hD hp ht hh hgl (put _) rfl (by rw [List.length_append]; simp; omega) ?_)))
        have hne : p.2 ≠ p.1 := fun e => by
          rw [e, hX] at hD
          cases hD
        have same : ∀ b x, b ∉ regOf p (.ins C' at_) → S1.h.get? b = some x → (S1.h.update p.2 (Obj.putName name (PyData.keyHash G.w.params name) (.str name (tk + 1)) v)).get? b = some x := fun b x hb e => (Heap.get?_update_other _ _ (fun z : p.2 = b => hb (by rw [← z]; exact .tail _ (.head _)))).trans e
        have gD : (S1.h.update p.2 (Obj.putName name (PyData.keyHash G.w.params name) (.str name (tk + 1)) v)).get? p.2 = some (dictOf (es ++ [⟨PyData.keyHash G.w.params name, .str name (tk + 1), v⟩]) (m + 1)) := by
          have := Heap.get?_update_self (Obj.putName name (PyData.keyHash G.w.params name) (.str name (tk + 1)) v) hD (by rw [put]; rfl)
          rw [put] at this; exact this
        have gX : (S1.h.update p.2 (Obj.putName name (PyData.keyHash G.w.params name) (.str name (tk + 1)) v)).get? p.1 = some (instObj C' p.2) := (Heap.get?_update_other _ _ hne).trans hX
        have inReg : ∀ a ∈ regOf p (.ins C' at_), a ∈ S1.reg := fun a ha => reg_mem hpa hk a ha
        obtain ⟨H2, x2⟩ := q1.H.turn (o' := .ins C' (at_ ++ [(name, d)])) hpa hk (List.Sublist.refl _) same (fun b hb => by
            cases hb with
            | head => exact ⟨_, gX⟩
            | tail _ hb => cases hb with
              | head => exact ⟨_, gD⟩
              | tail _ hb => cases hb)
          ⟨gX, _, m + 1, gD, by
            have := VRe.mono (V := vol c S1) (h := S1.h) (fun a x hn e => same a x (fun z => hn (List.mem_append_left _ (inReg a z))) e) (.refl _) (.of_sub _ fun _ h => h) re
            exact VRe.snoc (Rv.mv rv fun b x hb e => same b x (fun z => hb (inReg b z)) e) this⟩
        refine wpAny_release ?_
        exact hq () rfl () ⟨S1.adr, S1.σ.set k (.ins C' (at_ ++ [(name, d)])), S1.h.update p.2 (Obj.putName name (PyData.keyHash G.w.params name) (.str name (tk + 1)) v)⟩ (tk + 1 + 1) rfl H2 (x2.s env) (x2.env q1.H q1.V) trivial
      · exact nnS e2
    · exact nnS e2
  · exact nnS e2
end
end Mine
end
section
open PySem PySem.W PyProof.Rows PySem.Calls
set_option maxRecDepth 100000
namespace Mine

section
variable {M : Model} {A : Around} {E : Value → Shared → Prop} {s : Shared} {K : Frag} {x C f : Addr} {ox : Obj} {od : Option Obj} {v i : Value}
end

section
variable {G : Amb} {hn : Bool} {n : Nat} {Z : Scope} {c : Cx} {S : Gs} {s : Shared}

noncomputable def isC (C : Addr) (d : D) (σ : List AO) : Bool := match d with
  | .ref k => (match σ[k]? with
    | some (.ins C' _) => C' == C
    | _ => false)
  | _ => false
noncomputable def Mf.setI (C : Addr) (mf : Fm) (mo mi : Mo D) (d : D) : Mf Unit := Mf.bind (Mf.lift mo) fun a => Mf.bind (Mf.lift mi) fun b fr σ => if isC C a σ then (match mf [a, b, d] [] σ with
  | some (.val _, σ') => some (.val (), fr, σ')
  | some (.exc X msg, σ') => some (.exc X msg, fr, σ')
  | none => none) else none
/-- membership by the own method -/
noncomputable def opInC (C : Addr) (mf : Fm) : F2 := fun a b σ => if isC C b σ then (match mf [b, a] [] σ with
  | some (.val d, σ') => (truD d).map fun t => (.val (.bool t), σ')
  | some (.exc X msg, σ') => some (.exc X msg, σ')
  | none => none) else none
end
end Mine
end
section
open PySem PySem.W PyProof.Rows PySem.Calls
set_option maxRecDepth 100000
namespace Mine

/-- where a parameter's value comes from -/
inductive Sr where
  | pos (i : Nat)
  | kw (i : Nat)
  | con (v : Value) (d : D)
noncomputable def Sr.val (vs : List Value) (kw : List (PySem.Str × Value)) : Sr → Value
  | .pos i => vs.getD i .none
  | .kw i => (kw.map (·.2)).getD i .none
  | .con v _ => v
noncomputable def Sr.dat (ds : List D) (kd : List (PySem.Str × D)) : Sr → D
  | .pos i => ds.getD i .none
  | .kw i => (kd.map (·.2)).getD i .none
  | .con _ d => d
noncomputable def Sr.ok : Sr → Prop
  | .con v d => ∀ P adr V h, VR P adr V h v d
  | _ => True
noncomputable def SrsOk : List (PySem.Str × Sr) → Prop
  | [] => True
  | p :: r => p.2.ok ∧ SrsOk r

section
variable {G : Amb} {c : Cx} {S : Gs}

theorem VRs.getD {P : Params} {adr : Adr} {V : List Addr} {h : Heap} {vs : List Value} {ds : List D} (r : VRs P adr V h vs ds) (i : Nat) : VR P adr V h (vs.getD i .none) (ds.getD i .none) := by
  by_cases hi : i < ds.length
  · (refine xEA (r.get (List.getElem?_eq_getElem hi)) fun v hv rv => ?_)
    rw [List.getD_eq_getElem?_getD, List.getD_eq_getElem?_getD, hv, List.getElem?_eq_getElem hi]
    exact rv
  · have hi' : ¬ i < vs.length := by rw [r.length]; exact hi
    rw [List.getD_eq_getElem?_getD, List.getD_eq_getElem?_getD, List.getElem?_eq_none (by omega), List.getElem?_eq_none (by omega)]
    exact .none
theorem Rbs.snds : ∀ {b : List (PySem.Str × Value)} {bd : List (PySem.Str × D)}, Rbs G c S b bd → Rvs G c S (b.map (·.2)) (bd.map (·.2))
  | [], [], _ => .nil
  | (_, _) :: _, (_, _) :: _, ⟨_, h2, h3⟩ => .cons h2 (Rbs.snds h3)
theorem Sr.rv {vs : List Value} {ds : List D} {kw : List (PySem.Str × Value)} {kd : List (PySem.Str × D)} (r : Rvs G c S vs ds) (q : Rbs G c S kw kd) : ∀ {a : Sr}, a.ok → Rv G c S (a.val vs kw) (a.dat ds kd)
  | .pos i, _ => VRs.getD r i
  | .kw i, _ => VRs.getD q.snds i
  | .con _ _, h => h _ _ _ _
theorem srs_rbs {vs : List Value} {ds : List D} {kw : List (PySem.Str × Value)} {kd : List (PySem.Str × D)} (r : Rvs G c S vs ds) (q : Rbs G c S kw kd) : ∀ {pl : List (PySem.Str × Sr)}, SrsOk pl →
    Rbs G c S (pl.map fun p => (p.1, p.2.val vs kw)) (pl.map fun p => (p.1, p.2.dat ds kd))
  | [], _ => trivial
  | _ :: _, h => ⟨rfl, Sr.rv r q h.1, srs_rbs r q h.2⟩
theorem rbs_app : ∀ {b b' : List (PySem.Str × Value)} {bd bd' : List (PySem.Str × D)}, Rbs G c S b bd → Rbs G c S b' bd' → Rbs G c S (b ++ b') (bd ++ bd')
  | [], _, [], _, _, h => h
  | (_, _) :: _, _, (_, _) :: _, _, ⟨h1, h2, h3⟩, h => ⟨h1, h2, rbs_app h3 h⟩

noncomputable def bfOf (k : Nat) (ks : List PySem.Str) (pl : List (PySem.Str × Sr)) (ds : List D) (kd : List (PySem.Str × D)) : Option (List (PySem.Str × D)) :=
  if ds.length = k then if kd.map (·.1) = ks then some (pl.map fun p => (p.1, p.2.dat ds kd)) else none else none
theorem Bnd.plan {fd : FuncData} {k : Nat} {ks : List PySem.Str} {pl : List (PySem.Str × Sr)} (hc : SrsOk pl)
    (hp : ∀ S vs kw, vs.length = k → kw.map (·.1) = ks → peek G.K S (bindArgs fd ⟨vs, kw⟩) = some (pl.map fun p => (p.1, p.2.val vs kw))) : Bnd G fd (bfOf k ks pl) := by
  intro c S s vs ds kw kd bd H hs r q hb
  unfold bfOf at hb
  split at hb
  · rename_i h1
    split at hb
    · rename_i h2
      (have k1 := s1E hb; clear hb; subst k1)
      refine Tr.tok H hs fun Q E hq => ?_
      refine (Looks.of_peek (M := G.M) (h := s.heap) (by rw [hs]; exact H.kin) (hp _ vs kw (r.length.trans h1) (q.names.trans h2))).here (hq _ s.toks ?_)
      exact ⟨srs_rbs r q hc, Rbs.names (srs_rbs r q hc)⟩
    · exact nnS hb
  · exact nnS hb

noncomputable def pkA {α : Type} (K : Frag) (S : Setting) : Sem α → Option (Obj × (Addr → Sem α))
  | .rule _ k => pkA K S (k ())
  | .point _ k => pkA K S (k ())
  | .ask k => pkA K S (k S)
  | .load a _ k => (K.lookup a).bind fun o => pkA K S (k o)
  | .alloc o k => some (o, k)
  | _ => none
theorem goOpt {α β : Type} {f : α → Option β} {l : Option α} {b : β} {P : Prop} (e : l.bind f = some b) (h : ∀ o, l = some o → f o = some b → P) : P := by
  cases l with
  | none => exact nnS e
  | some o => exact h o rfl e
theorem wp_of_pkA {α : Type} {K : Frag} {M : Model} {A : Around} {E : Value → Shared → Prop} {Q : α → Shared → Prop} {s : Shared} {o : Obj} (X : K.In s.heap) :
    ∀ (t : Sem α) (g : Addr → Sem α), pkA K ⟨M.prog, M.w.params⟩ t = some (o, g) → wpAny M A (g s.heap.objs.size) Q E { s with heap := s.heap.push o } → wpAny M A t Q E s := by
  intro t
  induction t with
  | rule _ k ih => intro g e q Γ p hΓ; exact ih () g e q Γ p hΓ
  | point _ k ih => intro g e q Γ p hΓ; exact ih () g e q Γ p hΓ
  | ask k ih => intro g e q Γ p hΓ; exact ih _ g e q Γ p hΓ
  | load a _ k ih =>
    intro g e q Γ p hΓ
    exact goOpt (f := fun o => pkA K ⟨M.prog, M.w.params⟩ (k o)) (l := K.lookup _) e fun ob ho e => ⟨ob, X _ _ ho, ih ob g e q Γ p hΓ⟩
  | alloc ob k _ =>
    intro g e q
    have e : some (ob, k) = some (o, g) := e
    (refine xA (Prod.mk.inj (Option.some.inj e)) fun e1 e2 => ?_)
    subst e1
    subst e2
    show wpAny M A (alloc ob >>= k) Q E s
    exact wpAny_bind (wpAny_alloc q)
  | _ => intro g e; exact nnS e

noncomputable def kwEnt (P : Params) : Tok → List (PySem.Str × Value) → List DictEntry
  | _, [] => []
  | t, x :: r => ⟨PyData.keyHash P x.1, .str x.1 t, x.2⟩ :: kwEnt P (t + 1) r
theorem putL_fresh {k : PySem.Str} {hsh : Int} {key v : Value} : ∀ {es : List DictEntry}, (∀ e ∈ es, e.key.isStr k = false) → putL k hsh key v es = es ++ [⟨hsh, key, v⟩]
  | [], _ => rfl
  | e :: r, h => by
    show (if e.key.isStr k then _ else e :: putL k hsh key v r) = _
    rw [h e (.head _), if_neg Bool.false_ne_true, putL_fresh fun x hx => h x (.tail _ hx)]
    rfl

theorem nsSetFresh {M : Model} {A : Around} {E : Value → Shared → Prop} {s : Shared} {d : Addr} {es : List DictEntry} {n : Nat} {k : PySem.Str} {v : Value} {Q : Unit → Shared → Prop} (ho : s.heap.get? d = some (dictOf es n))
    (hs : ∀ e ∈ es, e.key.isStr k = false) (hr : ∀ e ∈ es, e.refKey = false)
    (h : ∀ h', Heap.SameBut d s.heap h' → h'.get? d = some (dictOf (es ++ [⟨PyData.keyHash M.w.params k, .str k s.toks, v⟩]) (n + 1)) → Q () (ShT s h' (s.toks + 1))) :
    wpAny M A (nsSet d k v) Q E s := by
  have e1 : es.any (·.key.isStr k) = false := by
    cases q : es.any (·.key.isStr k) with
    | false => rfl
    | true => (refine xEA (List.any_eq_true.mp q) fun e he z => ?_); rw [hs e he] at z; exact nFT z
  have e2 : es.any (·.refKey) = false := by
    cases q : es.any (·.refKey) with
    | false => rfl
    | true => (refine xEA (List.any_eq_true.mp q) fun e he z => ?_); rw [hr e he] at z; exact nFT z
  have e : Obj.putName k (PyData.keyHash M.w.params k) (.str k s.toks) v (dictOf es n) = dictOf (es ++ [⟨PyData.keyHash M.w.params k, .str k s.toks, v⟩]) (n + 1) := by
    rw [putName_dict, putL_fresh hs]
    show dictOf _ (if es.any (·.key.isStr k) then n else n + 1) = _
    rw [e1, if_neg Bool.false_ne_true]
  have c : aRefKeyMayBeTheName k es.toArray = false := by
    rw [aRefKeyMayBeTheName_at, ← Array.any_toList, ← Array.any_toList]
    show (!es.any (·.key.isStr k) && es.any (·.refKey)) = false
    rw [e2, Bool.and_false]
  unfold nsSet
  refine wpAny_bind (wpAny_bind (wpAny_askSetting (wpAny_pure (wpAny_bind (wpAny_mkText (wpAny_bind (wpAny_loadPart ho ?_)))))))
  dsimp only
  rw [c]
  refine wpAny_updatePart (o := dictOf es n) ho (h _ (Heap.SameBut.update ..) ?_)
  rw [← e]
  refine Heap.get?_update_self _ ho ?_
  show (Obj.putName k (PyData.keyHash M.w.params k) (.str k s.toks) v (dictOf es n)).isFreed = false
  rw [e]; rfl

theorem fillD {M : Model} {A : Around} {E : Value → Shared → Prop} {d : Addr} {Q : PUnit → Shared → Prop} : ∀ (ex : List (PySem.Str × Value)) (s : Shared) (es : List DictEntry) (n : Nat), s.heap.get? d = some (dictOf es n) →
    (∀ e ∈ es, ∀ x ∈ ex, e.key.isStr x.1 = false) → (∀ e ∈ es, e.refKey = false) → (ex.map (·.1)).Nodup →
    (∀ h', Heap.SameBut d s.heap h' → h'.get? d = some (dictOf (es ++ kwEnt M.w.params s.toks ex) (n + ex.length)) → Q ⟨⟩ (ShT s h' (s.toks + ex.length))) →
    wpAny M A (forIn ex PUnit.unit fun x _ => (nsSet d x.1 x.2 >>= fun _ => pure (ForInStep.yield PUnit.unit))) Q E s
  | [], s, es, n, ho, _, _, _, h => by
    rw [List.forIn_nil]
    refine wpAny_pure (h s.heap (Heap.SameBut.refl ..) ?_)
    show s.heap.get? d = some (dictOf (es ++ []) n)
    rw [List.append_nil]
    exact ho
  | x :: r, s, es, n, ho, hs, hr, hn, h => by
    (refine xA (List.nodup_cons.mp (show (x.1 :: r.map (·.1)).Nodup from hn)) fun hn1 hn2 => ?_)
    rw [List.forIn_cons]
    refine wpAny_bind (wpAny_bind (nsSetFresh ho (fun e he => hs e he x (.head _)) hr fun h' hb ho' => wpAny_pure ?_))
    show wpAny M A (forIn r PUnit.unit fun x _ => (nsSet d x.1 x.2 >>= fun _ => pure (ForInStep.yield PUnit.unit))) Q E (ShT s h' (s.toks + 1))
    refine fillD r (ShT s h' (s.toks + 1)) _ _ ho' (fun e he y hy => ?_) (fun e he => ?_) hn2 fun h'' hb' ho'' => ?_
    · rcases List.mem_append.mp he with he | he
      · exact hs e he y (.tail _ hy)
      · obtain rfl := List.mem_singleton.mp he
        show (x.1 == y.1) = false
        exact beq_eq_false_iff_ne.mpr fun q => hn1 (by rw [q]; exact List.mem_map_of_mem hy)
    · rcases List.mem_append.mp he with he | he
      · exact hr e he
      · obtain rfl := List.mem_singleton.mp he
        rfl
    · have t1 : s.toks + 1 + r.length = s.toks + (r.length + 1) := by omega
      have t2 : n + 1 + r.length = n + (r.length + 1) := by omega
      show Q ⟨⟩ (ShT s h'' (s.toks + 1 + r.length))
      rw [t1]
      refine h h'' (hb.trans hb') ?_
      rw [t2, List.append_assoc] at ho''
      exact ho''

theorem kwEnt_vre {P : Params} {adr : Adr} {V : List Addr} {h : Heap} : ∀ {kw : List (PySem.Str × Value)} {kd : List (PySem.Str × D)} (t : Tok), kw.map (·.1) = kd.map (·.1) → VRs P adr V h (kw.map (·.2)) (kd.map (·.2)) → VRe P adr V h (kwEnt P t kw) kd
  | [], [], _, _, _ => .nil
  | [], _ :: _, _, e, _ => by exact nNC e
  | _ :: _, [], _, e, _ => by exact nCN e
  | (x, v) :: r, (y, d) :: q, t, e, hv => by
    have e' : x :: r.map (·.1) = y :: q.map (·.1) := e
    injection e' with e1 e2
    subst e1
    cases hv with
    | cons h1 h2 => exact .cons rfl rfl h1 (kwEnt_vre (t + 1) e2 h2)

/-- further keywords, in a dict of their own -/
noncomputable def bfKw (k : Nat) (ks : List PySem.Str) (pl : List (PySem.Str × Sr)) (nm : PySem.Str) (ds : List D) (kd : List (PySem.Str × D)) : Option (List (PySem.Str × D)) :=
  if ds.length = k then if kd.map (·.1) = ks then some ((pl.map fun p => (p.1, p.2.dat ds kd)) ++ [(nm, .dct kd)]) else none else none
theorem Bnd.planKw {fd : FuncData} {k : Nat} {ks : List PySem.Str} {pl : List (PySem.Str × Sr)} {nm : PySem.Str} (hc : SrsOk pl) (hnd : ks.Nodup)
    (hp : ∀ S vs kw, vs.length = k → kw.map (·.1) = ks → pkA G.K S (bindArgs fd ⟨vs, kw⟩) = some (dictOf [] 0, fun D => (forIn kw PUnit.unit fun x _ => (nsSet D x.1 x.2 >>= fun _ => pure (ForInStep.yield PUnit.unit))) >>= fun _ => pure ((pl.map fun p => (p.1, p.2.val vs kw)) ++ [(nm, Value.ref D)]))) : Bnd G fd (bfKw k ks pl nm) := by
  intro c S s vs ds kw kd bd H hs r q hb
  unfold bfKw at hb
  split at hb
  rotate_left
  · exact nnS hb
  rename_i h1
  split at hb
  rotate_left
  · exact nnS hb
  rename_i h2
  (have k1 := s1E hb; clear hb; subst k1)
  refine Tr.of_wp fun Q E hq => ?_
  have hsz : s.heap.objs.size = S.h.objs.size := by rw [hs]
  refine wp_of_pkA (by rw [hs]; exact H.kin) _ _ (hp _ vs kw (r.length.trans h1) (q.names.trans h2)) ?_
  have hnone : S.h.get? s.heap.objs.size = none := Heap.get?_none_of_le (by rw [hsz]; exact Nat.le_refl _)
  refine wpAny_bind (fillD kw _ [] 0 (Heap.get?_push_size _ rfl) (fun e he => by cases he) (fun e he => by cases he) (by rw [q.names, h2]; exact hnd) fun h' hb ho => wpAny_pure ?_)
  have keep : ∀ b o, S.h.get? b = some o → h'.get? b = some o := fun b o e => by
    have e1 : (s.heap.push (dictOf [] 0)).get? b = some o := Heap.get?_push_of_some _ (by rw [hs]; exact e)
    exact hb.extBut b o (fun q => by rw [q, hnone] at e; exact nnS e) e1
  (refine xA (H.grow keep) fun H' x' => ?_)
  refine hq _ { S with h := h' } _ rfl H' x' ?_
  have r' := r.ext x'
  have q' := q.ext x'
  have key : Rbs G c { S with h := h' } [(nm, Value.ref s.heap.objs.size)] [(nm, D.dct kd)] := by
    refine ⟨rfl, .dct (by rw [hsz]; exact H.big) (es := (kwEnt G.w.params s.toks kw).toArray) (n := 0 + kw.length) ?_ ?_ ?_ ?_, trivial⟩
    · rw [ho]; rfl
    · rw [h2]; exact hnd
    · intro hm
      have : s.heap.objs.size ∈ vol c S := hm
      (refine xE (H.vol_some this) fun o e => ?_)
      rw [hnone] at e; exact nnS e
    · exact kwEnt_vre _ q.names q'.snds
  exact ⟨rbs_app (srs_rbs r' q' hc) key, Rbs.names (rbs_app (srs_rbs r' q' hc) key)⟩
end
end Mine
end
section
open PySem PySem.W PyProof.Rows PySem.Calls
set_option maxRecDepth 100000
namespace Mine

section
variable {G : Amb} {hn : Bool} {n : Nat} {Z : Scope} {c : Cx} {S : Gs} {s : Shared}

theorem Heaps.pushLst (H : Heaps G c S) {vs : Array Value} {k : Nat} {ds : List D} (hz : vs.size ≤ sizeLine) (r : Rvs G c S vs.toList ds) :
    Heaps G c { S with h := S.h.push { cls := .type "list", data := .seq vs k } } ∧ Ext c S { S with h := S.h.push { cls := .type "list", data := .seq vs k } } ∧ Rv G c { S with h := S.h.push { cls := .type "list", data := .seq vs k } } (.ref S.h.objs.size) (.lst ds) := by
  (refine xA (H.push { cls := .type "list", data := .seq vs k }) fun H1 x1 => ?_)
  exact ⟨H1, x1, .lst (Heap.get?_push_size _ rfl) rfl rfl hz H.size_notin (r.ext x1)⟩

/-- two lists added -/
noncomputable def fAddL : F2 := fun a b σ => (lstOf a σ).bind fun xs => (lstOf b σ).bind fun ys => if xs.length + ys.length ≤ sizeLine then some (.val (.lst (xs ++ ys)), σ) else none
theorem Op2.addL : Op2 G hn n (binaryOp .Add) fAddL := by
  intro c S s va vb da db out σ' q ra rb hm
  (refine xEA (Option.bind_eq_some_iff.mp hm) fun xs hx hm => ?_)
  (refine xEA (Option.bind_eq_some_iff.mp hm) fun ys hy hm => ?_)
  split at hm
  rotate_left
  · exact nnS hm
  rename_i hle
  refine Tr.cast hm ?_
  (refine xEEAAA (lstOf_ok q.H ra hx) fun a vs q0z q1z hz hr => ?_; subst q0z; refine xEAAE q1z fun q2z ho hc k hd => ?_; obtain ⟨cls, dd, data, sl⟩ := q2z)
  (refine xEEAAA (lstOf_ok q.H rb hy) fun b ws q0z q1z hz2 hr2 => ?_; subst q0z; refine xEAAE q1z fun q2z ho2 hc2 k2 hd2 => ?_; obtain ⟨cls2, dd2, data2, sl2⟩ := q2z)
  simp only at hc hd hc2 hd2
  subst hc hd hc2 hd2
  have hsz : vs.size + ws.size ≤ sizeLine := by
    have h1 := VRs.length hr; have h2 := VRs.length hr2
    rw [Array.length_toList] at h1 h2; omega
  refine Tr.of_wp fun Q E hq => ?_
  rw [← q.heap] at ho ho2
  refine concat_meets ⟨_, ho, rfl⟩ ⟨_, ho2, rfl⟩ noFill_list_add seq_list_add PySem.F.slot_list_add PySem.F.entry_list_add (PySem.F.args_list_add_2 _ _) (list_addW a b vs ws k k2 dd dd2 sl sl2 hsz) ⟨ho, ho2, ?_⟩
  (refine xAA (q.H.pushLst (vs := vs ++ ws) (k := 0) (ds := xs ++ ys) (by simpa using hsz) (by rw [Array.toList_append]; exact VRs.append hr hr2)) fun H1 x1 r1 => ?_)
  have := hq _ { S with h := S.h.push { cls := .type "list", data := .seq (vs ++ ws) } } s.toks rfl H1 x1 r1
  rw [← q.heap] at this
  exact this

/-- a list again and again -/
noncomputable def fMulL : F2 := fun a b σ => match b with
  | .int k => (lstOf a σ).bind fun xs => if 0 ≤ k ∧ xs.length * k.toNat ≤ 1000 ∧ k ≤ 1000 then some (.val (.lst (List.replicate k.toNat xs).flatten), σ) else none
  | _ => none
theorem VRs.rep {P : Params} {adr : Adr} {V : List Addr} {h : Heap} {vs : List Value} {ds : List D} (r : VRs P adr V h vs ds) : ∀ k : Nat, VRs P adr V h (List.replicate k vs).flatten (List.replicate k ds).flatten
  | 0 => .nil
  | k + 1 => by simp only [List.replicate_succ, List.flatten_cons]; exact VRs.append r (VRs.rep r k)
theorem Op2.mulL : Op2 G hn n (binaryOp .Mult) fMulL := by
  intro c S s va vb da db out σ' q ra rb hm
  unfold fMulL at hm
  split at hm
  rotate_left
  · exact nnS hm
  rename_i x
  (refine xEA (Option.bind_eq_some_iff.mp hm) fun xs hx hm => ?_)
  split at hm
  rotate_left
  · exact nnS hm
  rename_i hle
  refine Tr.cast hm ?_
  (refine xE rb.i_int fun u q0z => ?_; subst q0z)
  (refine xEEAAA (lstOf_ok q.H ra hx) fun l vs q0z q1z hz hr => ?_; subst q0z; refine xEAAE q1z fun q2z ho hc k hd => ?_; obtain ⟨cls, d, data, sl⟩ := q2z)
  simp only at hc hd
  subst hc hd
  have hlen : vs.size = xs.length := by have := VRs.length hr; rwa [Array.length_toList] at this
  have hmul : vs.size * x.toNat ≤ 1000 := by rw [hlen]; exact hle.2.1
  refine Tr.of_wp fun Q E hq => ?_
  rw [← q.heap] at ho
  refine wpAny_binaryOp_repeat_ref (T := "list") (U := "int") (by decide) ⟨_, ho, rfl⟩ (fun s' => typeIs_int s' x u) noFill_list_mul PySem.F.fills_int_mul PySem.F.slot_int_rmul repeat_list PySem.F.slot_int_index.lookup
    (call_meets PySem.F.slot_int_rmul (typeIs_int s x u) PySem.F.entry_int_rmul (PySem.F.args_int_rmul_2 _ _) (lm_int_rmul_list_any x u l vs k d sl)
      ⟨ho, rfl, ⟨_, ho, rfl⟩, call_meets PySem.F.slot_list_mul ⟨_, ho, rfl⟩ PySem.F.entry_list_mul (PySem.F.args_list_mul_2 _ _)
        (lm_list_mul_any l vs k d sl x u (by simp [Builtin.List.listFitsIndex]; omega) (by omega) (by simp [Builtin.List.listTooLong, sizeLine, hlen]; omega))
        ⟨ho, ?_⟩⟩)
  rw [listMul_foldl_if]
  have hl2 : (List.replicate x.toNat vs.toList).flatten.length ≤ sizeLine := by
    rw [VRs.length (VRs.rep hr x.toNat)]
    simp [List.length_flatten]
    have : sizeLine = 16777216 := rfl
    have h2 := hle.2.1
    rw [Nat.mul_comm] at h2
    omega
  (refine xAA (q.H.pushLst (vs := (List.replicate x.toNat vs.toList).flatten.toArray) (k := 0) (ds := (List.replicate x.toNat xs).flatten) (by simpa using hl2) (show VRs _ _ _ _ _ _ by simpa using VRs.rep hr x.toNat)) fun H1 x1 r1 => ?_)
  have := hq _ { S with h := S.h.push { cls := .type "list", data := .seq (List.replicate x.toNat vs.toList).flatten.toArray } } s.toks rfl H1 x1 r1
  rw [← q.heap] at this
  exact this

/-- the signs of a string, as values -/
theorem chars_rv {P : Params} {adr : Adr} {V : List Addr} {h : Heap} {x : PySem.Str} {acc : Array Value} (hi : ItemsOf (SignAt x) acc x.cps.size) : VRs P adr V h acc.toList (chars x) := by
  (refine xA hi fun hsz hat => ?_; try clear hi)
  have key : ∀ (ks : List Nat) (vs : List Value), vs.length = ks.length → (∀ (j : Nat) v, vs[j]? = some v → ∃ c u, ks[j]? = some c ∧ v = .str ⟨#[c]⟩ u) → VRs P adr V h vs (ks.map fun k => D.str ⟨#[k]⟩) := by
    intro ks
    induction ks with
    | nil => intro vs e _; cases vs with
      | nil => exact .nil
      | cons => cases e
    | cons k ks ih =>
      intro vs e hv
      cases vs with
      | nil => cases e
      | cons v vs =>
        (refine xEEA (hv 0 v rfl) fun c u h1 h2 => ?_)
        (have k1 := s1E h1; clear h1; subst k1)
        subst h2
        exact .cons (.str _ _ (by show (1 : Nat) ≤ sizeLine; decide)) (ih vs (by simpa using e) fun j v hj => hv (j + 1) v (by simpa using hj))
  refine key x.cps.toList acc.toList (by simpa using hsz) fun j v hj => ?_
  (refine xEEA (hat j v (by simpa using hj)) fun c u h1 h2 => ?_)
  exact ⟨c, u, by simpa using h1, h2⟩
/-- list of a string -/
theorem trListS {x : PySem.Str} {t : Tok} (q : Ho G true n c S s) (hx : x.length ≤ sizeLine) {Q : Value → Shared → Prop} {E : Value → Shared → Prop}
    (hq : ∀ h' tk vs cc, (∀ b o, S.h.get? b = some o → h'.get? b = some o) → h'.get? S.h.objs.size = some { cls := .type "list", dict := none, data := .seq vs cc, slots := #[] } → vs.size ≤ sizeLine → Rvs G c S vs.toList (chars x) → Q (.ref S.h.objs.size) (ShT s h' tk)) : wpAny G.M c.A (call (.type "list") [.str x t]) Q E s := by
  refine call_list_str (hn := hx) (q.hand rfl) x t fun h' tk acc cc hk hD hi => ?_
  rw [q.heap] at hk hD ⊢
  exact hq h' tk acc cc hk hD (by rw [hi.1]; exact hx) (chars_rv hi)
noncomputable def fListSF : F1 := fun d σ => match d with
  | .str x => some (.val (.lst (chars x)), σ)
  | _ => none
noncomputable def fListSR : F1 := fun d σ => match d with
  | .str x => some (.val (.ref σ.length), σ ++ [.lst (chars x)])
  | _ => none
theorem Ca.listSF : Ca G true n (.type "list") (one1 fListSF) := Ca.one (by
  intro c S s v d out σ' q r hm
  unfold fListSF at hm
  split at hm
  rotate_left
  · exact nnS hm
  refine Tr.cast hm ?_
  (refine xEA r.i_str fun t q0z hx => ?_; subst q0z)
  refine Tr.of_wp fun Q E hq => trListS q hx fun h' tk vs cc hk hD hz hr => ?_
  (refine xA (q.H.grow hk) fun H1 x1 => ?_)
  exact hq _ { S with h := h' } tk rfl H1 x1 (.lst hD rfl rfl hz q.H.size_notin (Rvs.ext hr x1)))
/-- the signs of a string, sorted -/
noncomputable def sortN (ks : List Nat) : List Nat := ks.mergeSort (fun a b => decide (a ≤ b))
noncomputable def fSorted : F1 := fun d σ => match d with
  | .str x => if x.cps.size < 64 then some (.val (.lst ((sortN x.cps.toList).map fun k => .str ⟨#[k]⟩)), σ) else none
  | _ => none
theorem strs_of_chars {x : PySem.Str} {acc : Array Value} (hi : ItemsOf (SignAt x) acc x.cps.size) : StrsAre acc.toList (x.cps.toList.map fun k => ⟨#[k]⟩) := by
  (refine xA hi fun hsz hat => ?_; try clear hi)
  have key : ∀ (ks : List Nat) (vs : List Value), vs.length = ks.length → (∀ (j : Nat) v, vs[j]? = some v → ∃ c u, ks[j]? = some c ∧ v = .str ⟨#[c]⟩ u) → StrsAre vs (ks.map fun k => ⟨#[k]⟩) := by
    intro ks
    induction ks with
    | nil => intro vs e _; cases vs with
      | nil => exact .nil
      | cons => cases e
    | cons k ks ih =>
      intro vs e hv
      cases vs with
      | nil => cases e
      | cons v vs =>
        (refine xEEA (hv 0 v rfl) fun c u h1 h2 => ?_)
        (have k1 := s1E h1; clear h1; subst k1)
        subst h2
        exact .cons _ _ (ih vs (by simpa using e) fun j v hj => hv (j + 1) v (by simpa using hj))
  refine key x.cps.toList acc.toList (by simpa using hsz) fun j v hj => ?_
  (refine xEEA (hat j v (by simpa using hj)) fun c u h1 h2 => ?_)
  exact ⟨c, u, by simpa using h1, h2⟩
theorem rising_pw : ∀ (p : PySem.Str) (l : List PySem.Str), risingS p l = true → (∀ y ∈ p :: l, ∃ k, y = ⟨#[k]⟩) → (p :: l).Pairwise (fun a b => a.cps.getD 0 0 ≤ b.cps.getD 0 0)
  | p, [], _, _ => List.pairwise_singleton ..
  | p, x :: r, h, hk => by
    have h' : (!Spec.ltCps x.cps.toList p.cps.toList && risingS x r) = true := h
    (refine xA (Bool.and_eq_true_iff.mp h') fun h1 h2 => ?_)
    have ih := rising_pw x r h2 fun y hy => hk y (.tail _ hy)
    (refine xE (hk p (.head _)) fun a q0z => ?_; subst q0z)
    (refine xE (hk x (.tail _ (.head _))) fun b q0z => ?_; subst q0z)
    have hab : a ≤ b := by
      rw [ltCps_eq] at h1
      have h3 : ¬ ([b] < [a]) := fun hl => by
        have : (!decide ([b] < [a])) = true := h1
        rw [decide_eq_true hl] at this; exact nFT this
      exact Nat.le_of_not_lt fun hlt => h3 (List.Lex.rel hlt)
    refine List.pairwise_cons.mpr ⟨fun y hy => ?_, ih⟩
    rcases List.mem_cons.mp hy with rfl | hy
    · exact hab
    · exact Nat.le_trans hab ((List.pairwise_cons.mp ih).1 y hy)
theorem sorted_chars {ks : List Nat} {ss : List PySem.Str} (hp : ss.Perm (ks.map fun k => ⟨#[k]⟩)) (hs : sortedS ss = true) : ss = (sortN ks).map fun k => ⟨#[k]⟩ := by
  have hk : ∀ y ∈ ss, ∃ k, y = ⟨#[k]⟩ := fun y hy => by
    (refine xEA (List.mem_map.mp (hp.mem_iff.mp hy)) fun k _ e => ?_)
    exact ⟨k, e.symm⟩
  have e1 : ss = (ss.map fun y => y.cps.getD 0 0).map fun k => (⟨#[k]⟩ : PySem.Str) := by
    rw [List.map_map]
    conv => lhs; rw [← List.map_id ss]
    refine List.map_congr_left fun y hy => ?_
    (refine xE (hk y hy) fun k q0z => ?_; subst q0z)
    rfl
  have pm : (ss.map fun y => y.cps.getD 0 0).Perm (sortN ks) := by
    have := hp.map fun y => y.cps.getD 0 0
    rw [List.map_map] at this
    have e : (ks.map ((fun y : PySem.Str => y.cps.getD 0 0) ∘ fun k => ⟨#[k]⟩)) = ks := by
      conv => rhs; rw [← List.map_id ks]
      exact List.map_congr_left fun y _ => rfl
    rw [e] at this
    exact this.trans (List.mergeSort_perm ..).symm
  have pw : (ss.map fun y => y.cps.getD 0 0).Pairwise (· ≤ ·) := by
    rw [List.pairwise_map]
    cases ss with
    | nil => exact .nil
    | cons p l => exact rising_pw p l hs hk
  have pw2 : (sortN ks).Pairwise (· ≤ ·) := by
    have := List.pairwise_mergeSort (le := fun a b : Nat => decide (a ≤ b)) (fun a b c h1 h2 => by simp at *; omega) (fun a b => by simp; omega) ks
    exact this.imp fun h => by simpa using h
  rw [← List.Perm.eq_of_pairwise (fun a b _ _ h1 h2 => Nat.le_antisymm h1 h2) pw pw2 pm]
  exact e1
theorem strs_rv {P : Params} {adr : Adr} {V : List Addr} {h : Heap} : ∀ {vs : List Value} {ks : List Nat}, StrsAre vs (ks.map fun k => ⟨#[k]⟩) → VRs P adr V h vs (ks.map fun k => D.str ⟨#[k]⟩)
  | _, [], .nil => .nil
  | _, k :: ks, .cons _ t h => .cons (.str _ t (by show (1 : Nat) ≤ sizeLine; decide)) (strs_rv h)

theorem sortedHeap_at (h : Heap) (vs : List Value) (out : Array Value) : ∃ e, (sortedHeap (h.push (seqObj "list" vs.toArray 0)) h.objs.size vs out).get? h.objs.size = some (seqObj "list" out e) ∧
    ∀ b o, h.get? b = some o → (sortedHeap (h.push (seqObj "list" vs.toArray 0)) h.objs.size vs out).get? b = some o := by
  have hoL : (h.push (seqObj "list" vs.toArray 0)).get? h.objs.size = some (seqObj "list" vs.toArray 0) := Heap.get?_push_size _ rfl
  unfold sortedHeap
  obtain ⟨e1, ho1⟩ : ∃ e1, ((h.push (seqObj "list" vs.toArray 0)).update h.objs.size (Obj.mapSeq fun _ => #[])).get? h.objs.size = some (seqObj "list" #[] e1) := ⟨_, get?_update_seq hoL (fun _ => #[])⟩
  refine ⟨_, get?_update_seq (Heap.get?_push_of_some _ (Heap.get?_push_of_some _ ho1)) (fun _ => out), fun b o e => ?_⟩
  have hne : h.objs.size ≠ b := fun q => by subst q; exact Nat.lt_irrefl _ (Heap.lt_size e)
  rw [Heap.get?_update_other _ _ hne]
  refine Heap.get?_push_of_some _ (Heap.get?_push_of_some _ ?_)
  rw [Heap.get?_update_other _ _ hne]
  exact Heap.get?_push_of_some _ e

theorem Ca.sorted : Ca G true n (.builtin "sorted") (one1 fSorted) := Ca.one (by
  intro c S s v d out σ' q r hm
  unfold fSorted at hm
  split at hm
  rotate_left
  · exact nnS hm
  split at hm
  rotate_left
  · exact nnS hm
  rename_i x h64
  refine Tr.cast hm ?_
  (refine xEA r.i_str fun t q0z hx => ?_; subst q0z)
  refine Tr.of_wp fun Q E hq => ?_
  refine Calls.call_function_entry kind_sorted plain_sorted entry_sorted (args_sorted1 _) ?_
  unfold Builtin.«sorted»
  refine wpAny_bind (m := checkCount "sorted" 1 1 _) (wpAny_pure ?_)
  refine wpAny_bind (wpAny_collect_str (A := c.A.in1) (hn := hx) (q.hand rfl) x t fun s' acc hk hg hd ho hi => ?_)
  have hlen : acc.toList.length = x.cps.size := by rw [Array.length_toList]; exact hi.1
  refine wpAny_bind (wpAny_newList ?_ (by rw [hlen]; exact hx))
  have hS := strs_of_chars hi
  have hoL : (s'.heap.push (seqObj "list" acc.toList.toArray 0)).get? s'.heap.objs.size = some (seqObj "list" acc.toList.toArray 0) := Heap.get?_push_size _ rfl
  refine wpAny_bind (wpAny_holding (wpAny_call_entry slot_list_sort ⟨_, hoL, rfl⟩ entry_list_sort (list_sort_treeK strKind_oneLt hoL hS.keysOf (fun v₁ v₂ rest e => keyKind_strs (by rw [← e]; exact hS)) (by rw [hlen]; exact h64) fun st' a1 a2 => ⟨_, rfl, ?_⟩) (args_list_sort _)))
  refine wpAny_pure ⟨_, rfl, ?_⟩
  (refine xEAA (sorted_out_str hS a1 a2) fun ss' b1 b2 b3 => ?_)
  have e := sorted_chars b2 b3
  subst e
  have hs' : s' = (ShT s s'.heap s'.toks) := by
    cases s'; cases s; simp only at hg hd ho; subst hg hd ho; rfl
  rw [q.heap] at hk
  (refine xA (q.H.grow hk) fun H1 x1 => ?_)
  have hsz : ((arrOf st').map (·.2)).size ≤ sizeLine := by
    rw [Array.size_map, a1.size_eq, pairsOf_size, hlen]; exact hx
  (refine xEA (sortedHeap_at s'.heap acc.toList ((arrOf st').map (·.2))) fun ee he hold => ?_)
  show Q (.ref s'.heap.objs.size) { s' with heap := sortedHeap (s'.heap.push (seqObj "list" acc.toList.toArray 0)) s'.heap.objs.size acc.toList ((arrOf st').map (·.2)) }
  generalize sortedHeap (s'.heap.push (seqObj "list" acc.toList.toArray 0)) s'.heap.objs.size acc.toList ((arrOf st').map (·.2)) = hh at he hold
  (refine xA (H1.grow (h' := hh) hold) fun H2 x2 => ?_)
  have := hq (.ref s'.heap.objs.size) { S with h := hh } s'.toks rfl H2 (x1.trans x2)
    (.lst he rfl rfl hsz (fun hm => H1.size_notin (show s'.heap.objs.size ∈ vol c { S with h := s'.heap } from hm)) (strs_rv b1))
  rw [hs']
  exact this)
end
end Mine
end
section
open PySem PySem.W PyProof.Rows PySem.Calls
set_option maxRecDepth 100000
namespace Mine

section
variable {G : Amb} {hn : Bool} {n : Nat} {Z : Scope} {c : Cx} {S : Gs} {s : Shared}

/-- a list display laid in the store -/
noncomputable def Mo.lstR (ms : List (Mo D)) : Mo D := Mo.bind (Mo.seq ms) fun ds => Mo.bind (Mo.guard (decide (ds.length ≤ sizeLine)) ()) fun _ _ σ => some (.val (.ref σ.length), σ ++ [.lst ds])
theorem trNewListR {vs : List Value} {ds : List D} (q : Ho G hn n c S s) (hr : Rvs G c S vs ds) (hl : ds.length ≤ sizeLine) : Tr G c S s (Rv G c) (newList vs) (.val (.ref S.σ.length)) (S.σ ++ [.lst ds]) := by
  have hl' : vs.length ≤ sizeLine := by have := VRs.length hr; omega
  refine Tr.of_wp fun Q E hq => wpAny_newObj_type ?_ (by show vs.toArray.size ≤ sizeLine; simpa using hl')
  (refine xAA (q.H.bornLst (a := S.h.objs.size) (h' := S.h.push { cls := .type "list", data := .seq vs.toArray }) (m := 0) (fun b x e => Heap.get?_push_of_some _ e) (Heap.get?_none_of_le (Nat.le_refl _)) (Heap.get?_push_size _ rfl) (by simpa using hl') (by simpa using hr)) fun Hb xb rb => ?_)
  have := hq _ _ s.toks rfl Hb xb rb
  rw [← q.heap] at this; exact this
theorem Ev.lstR {es : List Expr} {pos : Pos} {ms : List (Mo D)} (h : EvL G hn n Z es ms) (hs : es.all notStar = true) : Ev G hn n Z (.List es pos) (Mo.lstR ms) := by
  intro c env fr S s out σ' q hm
  show Tr G c S s (Rv G c) (do standAt pos; newList (← spliced (backTo pos (starEach es env)))) out σ'
  refine Tr.standAt (Tr.bindM hm (fun o1 σ1 h1 => trSpliced h hs q h1) fun ds vs S1 tk H1 x1 ra h2 => ?_)
  unfold Mo.bind at h2
  split at h2
  · rename_i u σ2 hg
    (refine xA (guardE hg) fun hle e => ?_)
    cases e
    refine Tr.cast h2 ?_
    exact trNewListR (q.step H1 x1).ho ra (of_decide_eq_true hle)
  · rename_i hg
    (refine xA (guardE hg) fun _ e => ?_)
    cases e
  · exact nnS h2

/-- minus -/
noncomputable def fNeg : F1 := fun d σ => match d with
  | .int i => some (.val (.int (-i)), σ)
  | _ => none
theorem Ev.neg {x : Expr} {pos : Pos} {m : Mo D} (h : Ev G hn n Z x m) : Ev G hn n Z (.UnaryOp .USub x pos) (Mo.op1 fNeg m) := by
  intro c env fr S s out σ' q hm
  rw [arm_eval_UnaryOp]
  refine Tr.bindM hm (fun o1 σ1 h1 => h c env fr S s o1 σ1 q h1) fun d v S1 tk H1 x1 ra h2 => ?_
  unfold fNeg at h2
  split at h2
  · refine Tr.cast h2 ?_
    (refine xE ra.i_int fun _ q0z => ?_; subst q0z)
    exact Tr.standAt (Tr.holding (Tr.tok H1 rfl fun Q E hq => PySem.P.neg_int (hq _ _ (.int _ _))))
  · exact nnS h2

/-- strings of a list -/
noncomputable def strsOf : List D → Option (List PySem.Str)
  | [] => some []
  | .str x :: ds => (strsOf ds).map (x :: ·)
  | _ => none
theorem strsOf_rel {P : Params} {adr : Adr} {V : List Addr} {h : Heap} {vs : List Value} {ds : List D} {ns : List PySem.Str} (r : VRs P adr V h vs ds) (e : strsOf ds = some ns) :
    ∃ l : List (PySem.Str × Tok), vs = strValues l ∧ l.map (·.1) = ns ∧ ∀ x ∈ ns, x.length ≤ sizeLine :=
  VRs.ind (C := fun vs ds => ∀ ns, strsOf ds = some ns → ∃ l : List (PySem.Str × Tok), vs = strValues l ∧ l.map (·.1) = ns ∧ ∀ x ∈ ns, x.length ≤ sizeLine)
    (fun ns e => ⟨[], rfl, s1E e, fun x hx => by rw [← s1E e] at hx; cases hx⟩)
    (fun v d vs ds r _ ih ns e => by
      cases d with
      | str k =>
        (refine xEA (Option.map_eq_some_iff.mp e) fun ms hms e' => ?_)
        clear e
        subst e'
        (refine xEAA (ih ms hms) fun l h1 h2 h3 => ?_)
        clear ih
        (refine xEA r.i_str fun t q0z hx => ?_; subst q0z)
        exact ⟨(k, t) :: l, congrArg (Value.str k t :: ·) h1, congrArg (k :: ·) h2, fun x hx' => (List.mem_cons.mp hx').elim (fun e => e ▸ hx) (h3 x)⟩
      | _ => exact nnS e) r ns e

/-- max of a list of strings -/
noncomputable def bestS (xs : List PySem.Str) (i j : Nat) : Bool := decide ((xs.getD j PySem.Str.empty).cps.toList < (xs.getD i PySem.Str.empty).cps.toList)
noncomputable def fMax : F1 := fun d σ => (lstOf d σ).bind fun ds => (strsOf ds).bind fun xs => (xs[argBest (bestS xs) (xs.length - 1)]?).map fun x => (.val (.str x), σ)
theorem Ca.max : Ca G true n (.builtin "max") (one1 fMax) := Ca.one (by
  intro c S s v d out σ' q r hm
  (refine xEA (Option.bind_eq_some_iff.mp hm) fun ds hds hm => ?_)
  (refine xEA (Option.bind_eq_some_iff.mp hm) fun xs hxs hm => ?_)
  (refine xEA (Option.map_eq_some_iff.mp hm) fun y hy e => ?_)
  (have k1 := p2A e; have k2 := p2B e; clear e; subst k1 k2)
  (refine xEEAAA (lstOf_ok q.H r hds) fun a vs q0z hl hz hr => ?_; subst q0z)
  (refine xEAA (strsOf_rel hr hxs) fun l h1 h2 h3 => ?_)
  have hsz : vs.size = xs.length := by rw [← Array.length_toList, h1, ← h2]; simp [strValues]
  have hat : ∀ (i : Nat) w, vs[i]? = some w → ∃ t, w = .str (xs.getD i PySem.Str.empty) t := fun i w hw => by
    rw [← Array.getElem?_toList, h1] at hw
    unfold strValues at hw
    rw [List.getElem?_map] at hw
    (refine xEA (Option.map_eq_some_iff.mp hw) fun p hp e => ?_)
    refine ⟨p.2, ?_⟩
    rw [← e, ← h2, List.getD_eq_getElem?_getD, List.getElem?_map, hp]
    rfl
  have hpos : 0 < xs.length := by
    cases xs with
    | nil => simp at hy
    | cons => simp
  refine Tr.of_wp fun Q E hq => call_max_walk ?_
  have hl' : s.heap.IsList a vs := by rw [q.heap]; exact hl
  have hne : a ≠ s.heap.objs.size := by (refine xEA hl' fun o ho _ => ?_; try clear hl'); exact Nat.ne_of_lt (Heap.lt_size ho)
  refine wpAny_pyIter_list hl' ⟨_, _, _, _, _, _, bestS xs, rfl, Walks.list (A := c.A.in1) (q.hand rfl) s.heap.objs.size a hne vs, ⟨⟨_, Heap.get?_push_size _ rfl, rfl, rfl⟩, hl'.push _⟩, fun b hb => ?_, by rw [hsz]; exact hpos, fun i j vi vj s' Q' E' hi hj hQ => ?_, fun v h' tk hv hk => ?_⟩
  · rw [Heap.size_push]
    rcases List.mem_cons.mp hb with rfl | hb
    · exact Nat.lt_succ_self _
    · rcases List.mem_singleton.mp hb with rfl
      (refine xEA hl' fun o ho _ => ?_; try clear hl')
      exact Nat.lt_succ_of_lt (Heap.lt_size ho)
  · (refine xE (hat i vi hi) fun t q0z => ?_; subst q0z)
    (refine xE (hat j vj hj) fun u q0z => ?_; subst q0z)
    exact richCompare_gives (op := .Gt) (typeIs_str ..) (typeIs_str ..) F.slot_str_gt F.entry_str_gt (F.args_str_gt_2 _ _) (gives_str_gt _ _ t u) (fun x => nomatch x) hQ
  · have hk' : ∀ b o, S.h.get? b = some o → h'.get? b = some o := fun b o e => by
      rw [← q.heap] at e
      exact hk b o (fun hm => by rcases List.mem_singleton.mp hm with rfl; exact Nat.lt_irrefl _ (Heap.lt_size e)) (Heap.get?_push_of_some _ e)
    (refine xA (q.H.grow hk') fun H1 x1 => ?_)
    rw [hsz] at hv
    (refine xE (hat _ v hv) fun t q0z => ?_; subst q0z)
    have hy' : xs.getD (argBest (bestS xs) (xs.length - 1)) PySem.Str.empty = y := by rw [List.getD_eq_getElem?_getD, hy]; rfl
    rw [hy']
    exact hq _ { S with h := h' } tk rfl H1 x1 (.str _ _ (h3 y (List.mem_of_getElem? hy))))

/-- lower, upper -/
noncomputable def fLower : F1 := fun d σ => match d with
  | .str x => if x.length ≤ 5592405 then some (.val (.str (Txt.lower x)), σ) else none
  | _ => none
noncomputable def fUpper : F1 := fun d σ => match d with
  | .str x => if x.length ≤ 5592405 then some (.val (.str (Txt.upper x)), σ) else none
  | _ => none
theorem Ca.lower : Ca G hn n (.builtin "str.lower") (one1 fLower) := Ca.one (by
  intro c S s v d out σ' q r hm
  unfold fLower at hm
  split at hm
  rotate_left
  · exact nnS hm
  split at hm
  rotate_left
  · exact nnS hm
  rename_i x hx
  refine Tr.cast hm ?_; (refine xEA r.i_str fun _ q0z _ => ?_; subst q0z)
  have := len_lower x
  exact Tr.tok q.H q.heap fun Q E hq => SC.lower (fit_lower hx) (hq _ _ (.str _ _ (by show _ ≤ 16777216; omega))))
theorem Ca.upper : Ca G hn n (.builtin "str.upper") (one1 fUpper) := Ca.one (by
  intro c S s v d out σ' q r hm
  unfold fUpper at hm
  split at hm
  rotate_left
  · exact nnS hm
  split at hm
  rotate_left
  · exact nnS hm
  rename_i x hx
  refine Tr.cast hm ?_; (refine xEA r.i_str fun _ q0z _ => ?_; subst q0z)
  have := len_upper x
  exact Tr.tok q.H q.heap fun Q E hq => SC.upper (fit_upper hx) (hq _ _ (.str _ _ (by show _ ≤ 16777216; omega))))

/-- join -/
noncomputable def fJoin : F2 := fun a b σ => match a with
  | .str x => (lstOf b σ).bind fun ds => (strsOf ds).bind fun xs => if JoinOk x xs = true then some (.val (.str (Txt.join x xs)), σ) else none
  | _ => none
theorem joinOk_le {x : PySem.Str} {xs : List PySem.Str} (h : JoinOk x xs = true) : (Txt.join x xs).length ≤ sizeLine := by
  unfold JoinOk at h
  rw [Bool.not_eq_true'] at h
  obtain ⟨l, hl⟩ : ∃ l : List (PySem.Str × Tok), l.map (·.1) = xs := ⟨xs.map fun y => (y, 0), by rw [List.map_map]; exact List.map_id _⟩
  subst hl
  exact joinFit_length h
theorem Ca.join : Ca G hn n (.builtin "str.join") (one2 fJoin) := Ca.two (by
  intro c S s va vb da db out σ' q ra rb hm
  unfold fJoin at hm
  split at hm
  rotate_left
  · exact nnS hm
  rename_i x
  (refine xEA (Option.bind_eq_some_iff.mp hm) fun ds hds hm => ?_)
  (refine xEA (Option.bind_eq_some_iff.mp hm) fun xs hxs hm => ?_)
  split at hm
  rotate_left
  · exact nnS hm
  rename_i hok
  refine Tr.cast hm ?_
  (refine xEA ra.i_str fun _ q0z _ => ?_; subst q0z)
  (refine xEEAAA (lstOf_ok q.H rb hds) fun a vs q0z hl hz hr => ?_; subst q0z)
  (refine xEAA (strsOf_rel hr hxs) fun l h1 h2 h3 => ?_)
  refine Tr.tok q.H q.heap fun Q E hq => SC.join (l := l) (texts := xs) ?_ h2 hok fun t' k => hq _ k (.str _ _ (joinOk_le hok))
  rw [q.heap, ← h1]
  exact hl)

/-- str of an exception with one text, of an int -/
noncomputable def fStr : F1 := fun d σ => match d with
  | .exc X msg => if (X = "ValueError" ∨ X = "AssertionError" ∨ X = "TypeError") ∧ msg.length ≤ sizeLine then some (.val (.str msg), σ) else none
  | .int i => if i.natAbs.log2 < 1920 then some (.val (.str (PySem.Str.ofString (toString i))), σ) else none
  | _ => none
theorem Ca.str (h1 : 1 ≤ n) : Ca G hn n (.type "str") (one1 fStr) := Ca.one (by
  intro c S s v d out σ' q r hm
  have hu : c.A.units + 2 < cLine := by have := q.units; omega
  unfold fStr at hm
  split at hm
  · split at hm
    rotate_left
    · exact nnS hm
    rename_i X msg hX
    (have k1 := s2A hm; have k2 := s2B hm; clear hm; subst k1 k2)
    (refine xEE r.i_exc fun e t w24z => ?_; refine xEEEAAAAA w24z fun oe vs tk q0z k1 k2 k3 k4 w25z => ?_; refine xAA w25z fun k5 _ _ => ?_; subst q0z)
    have hex : s.heap.ExcAt e X (.ref t) := ⟨_, _, by rw [q.heap]; exact k1, k2, k3, k4⟩
    have hht : s.heap.TupAt t [.str msg tk] := by rw [q.heap]; exact k5
    refine Tr.tok q.H q.heap fun Q E hq => ?_
    have hQ := hq (.str msg tk) s.toks (.str msg tk hX.2)
    rcases hX.1 with rfl | rfl | rfl
    · exact PySem.P.str_of_exc_one PySem.F.excStr_ValueError hu hex hht hQ
    · exact PySem.P.str_of_exc_one PySem.F.excStr_AssertionError hu hex hht hQ
    · exact PySem.P.str_of_exc_one PySem.F.excStr_TypeError hu hex hht hQ
  · split at hm
    rotate_left
    · exact nnS hm
    rename_i hb
    (have k1 := s2A hm; have k2 := s2B hm; clear hm; subst k1 k2)
    (refine xE r.i_int fun _ q0z => ?_; subst q0z)
    exact Tr.tok q.H q.heap fun Q E hq => PySem.P.str_of_int hb (hq _ _ (.str _ _ (int_text_fits hb)))
  · exact nnS hm)
/-- repr of an int -/
noncomputable def fRepr : F1 := fun d σ => match d with
  | .int i => if i.natAbs.log2 < 1920 then some (.val (.str (PySem.Str.ofString (toString i))), σ) else none
  | _ => none
theorem Ca.repr : Ca G hn n (.builtin "repr") (one1 fRepr) := Ca.one (by
  intro c S s v d out σ' q r hm
  unfold fRepr at hm
  split at hm
  · split at hm
    rotate_left
    · exact nnS hm
    rename_i hb
    refine Tr.cast hm ?_
    (refine xE r.i_int fun _ q0z => ?_; subst q0z)
    exact Tr.tok q.H q.heap fun Q E hq => PySem.P.repr_of_int hb (hq _ _ (.str _ _ (int_text_fits hb)))
  · exact nnS hm)
end
end Mine
end
section
open PySem PySem.W PyProof.Rows PySem.Calls
set_option maxRecDepth 100000
namespace Mine

section
open PySem.Sre PySem.Sre.M
/-- a code: a leading set, the set, the end -/
structure SetCode (code : Array Nat) (P : Nat → Bool) (b e : Nat) : Prop where
  head : header code = (1, b)
  hinted : hasFirstSet ({ code, text := #[], lim := 0, start := 0, pc := 0, pos := 0, handed := 0, marks := #[] } : M) = true
  bpos : 0 < b
  first : ∀ (c : Nat) (z : PySem.Sre.Seen), ∃ z', inSet code c code.size 5 true z = .ok (P c, z')
  opb : ops[code.getD b 0]? = some .IN
  again : ∀ (c : Nat) (z : PySem.Sre.Seen), ∃ z', inSet code c code.size (b + 2) true z = .ok (P c, z')
  width : b + (1 + code.getD (b + 1) 0) = e
  opE : ops[code.getD e 0]? = some .SUCCESS
  blt : b < code.size
  elt : e < code.size

variable {code : Array Nat} {P : Nat → Bool} {b e : Nat}
theorem admitted_ok (C : SetCode code P b e) {m : M} (hc : m.code = code) : ∀ (fuel s : Nat) (z : PySem.Sre.Seen), m.lim + 1 - s ≤ fuel → m.lim = m.text.size →
    (∃ z', admitted m fuel s z = .ok (none, z') ∧ (m.text.toList.drop s).any P = false) ∨
    ∃ z' j, admitted m fuel s z = .ok (some j, z') ∧ j < m.lim ∧ P (m.text.getD j 0) = true ∧ (m.text.toList.drop s).any P = true
  | 0, s, z, hf, hl => by
    refine .inl ⟨z, rfl, ?_⟩
    rw [List.drop_eq_nil_of_le (by rw [Array.length_toList]; omega)]; rfl
  | fuel + 1, s, z, hf, hl => by
    unfold admitted
    by_cases hs : s ≥ m.lim
    · rw [if_pos hs]
      refine .inl ⟨z, rfl, ?_⟩
      rw [List.drop_eq_nil_of_le (by rw [Array.length_toList]; omega)]; rfl
    · rw [if_neg hs]
      have hlt : s < m.text.toList.length := by rw [Array.length_toList]; omega
      (refine xE (C.first (m.text.getD s 0) z) fun z1 h1 => ?_)
      rw [hc, h1]
      have hd : m.text.toList.drop s = m.text.getD s 0 :: m.text.toList.drop (s + 1) := by
        rw [List.drop_eq_getElem_cons hlt]
        congr 1
        rw [Array.getD_eq_getD_getElem?, Array.getElem?_eq_getElem (by rw [Array.length_toList] at hlt; exact hlt)]
        simp
      cases hP : P (m.text.getD s 0) with
      | true => exact .inr ⟨z1, s, rfl, by omega, hP, by rw [hd, List.any_cons, hP]; rfl⟩
      | false =>
        rcases admitted_ok C hc fuel (s + 1) z1 (by omega) hl with ⟨z', h2, h3⟩ | ⟨z', j, h2, h3, h4, h5⟩
        · exact .inl ⟨z', h2, by rw [hd, List.any_cons, hP, h3]; rfl⟩
        · exact .inr ⟨z', j, h2, h3, h4, by rw [hd, List.any_cons, h5, Bool.or_true]⟩

/-- one step -/
theorem run_step {m : M} {k : Nat} (ho : m.outcome = none) : runFor (k + 1) m = runFor k m.step := by
  rw [runFor, ho]; rfl
theorem step_exec {m : M} (ho : m.outcome = none) (ha : m.answer = none) (hp : m.pc < m.code.size) : m.step = m.exec := by
  unfold M.step
  rw [ho, ha]
  exact if_pos hp
theorem failed_ok {m : M} (h1 : m.outcome = none) (h2 : m.answer = some false) (h3 : m.frames = []) : (m.runFor 4).outcome = some .failed := by
  have e1 : m.step = { m with outcome := some .failed } := by unfold M.step; rw [h1, h2, h3]; rfl
  rw [run_step h1, e1]
  rfl
theorem matched_ok {m : M} {f : PySem.Sre.Frame} (h1 : m.outcome = none) (h2 : m.answer = some true) (h3 : m.frames = [f]) (hf : f.wait = .nextStart) : (m.runFor 2).outcome = some .matched := by
  have e0 : m.step = M.resume { m with answer := none, frames := [], weight := m.weight - (1 + f.kept.marks.size), pc := f.pc, pos := f.pos, outermost := f.outermost } f true := by
    unfold M.step; rw [h1, h2, h3]; rfl
  have er : ∀ m : M, M.resume m f true = m.say true := fun m => by unfold M.resume; rw [hf]; rfl
  have e1 : ∃ m', m.step = m' ∧ m'.outcome = none ∧ m'.answer = some true ∧ m'.frames = [] := ⟨_, e0.trans (er _), h1, rfl, rfl⟩
  (refine xEAAA e1 fun m' e k1 k2 k3 => ?_; try clear e1)
  rw [run_step h1, e, run_step k1]
  show (m'.step).outcome = _
  unfold M.step
  rw [k1, k2, k3]
  rfl
theorem exec_in (C : SetCode code P b e) {m : M} (hc : m.code = code) (hp : m.pc = b) (hl : m.pos < m.lim) (hP : P (m.text.getD m.pos 0) = true) : ∃ z, m.exec = { m with seen := z, pc := e, pos := m.pos + 1 } := by
  have hw : ops[m.word 0]? = some .IN := by unfold M.word; rw [hc, hp]; exact C.opb
  unfold M.exec
  simp only [hw]
  rw [if_neg (by omega)]
  have ha : ∃ z', accepts m.code m.pc (m.text.getD m.pos 0) (m.seen.add (m.word 0)) = .ok (true, z') := by
    unfold accepts
    rw [hc, hp, C.opb]
    (refine xE (C.again (m.text.getD m.pos 0) (m.seen.add (m.word 0))) fun z' h => ?_)
    exact ⟨z', by rw [hP] at h; exact h⟩
  obtain ⟨z', ha⟩ := ha
  have ha' : accepts m.code m.pc (m.text.getD m.pos 0) (m.seen.add (m.word 0)) = .ok (true, z') := ha
  refine ⟨z', ?_⟩
  simp only [ha']
  have hwid : m.pc + itemWidth m.code m.pc = e := by
    unfold itemWidth
    rw [hc, hp, C.opb]
    exact C.width
  rw [hwid]
theorem exec_success (C : SetCode code P b e) {m : M} (hc : m.code = code) (hp : m.pc = e) (hw : m.wholeText = false) (hm : m.mustAdvance = false) : ∃ z, m.exec = { m with seen := z, handed := m.pos, answer := some true } := by
  have hop : ops[m.word 0]? = some .SUCCESS := by unfold M.word; rw [hc, hp]; exact C.opE
  unfold M.exec
  simp only [hop, hw, hm, Bool.false_and, Bool.or_false, Bool.and_false]
  exact ⟨_, rfl⟩
theorem attempt_ok (C : SetCode code P b e) {m : M} (hc : m.code = code) (hl : m.lim = m.text.size) (hp : m.pc = b) (ho : m.outcome = none) (ha : m.answer = none) (hf : m.frames = []) (hwt : m.weight = 0) (hw : m.wholeText = false) :
    ((m.attemptFrom 0 true).runFor 4).outcome = some (if m.text.toList.any P then .matched else .failed) := by
  unfold attemptFrom
  have hh : m.hasFirstSet = true := by
    have := C.hinted
    unfold hasFirstSet at this ⊢
    rw [hc]
    exact this
  rw [hh, if_neg (by decide)]
  rcases admitted_ok C hc (m.lim + 1 - 0) 0 m.seen (Nat.le_refl _) hl with ⟨z', h1, h2⟩ | ⟨z', j, h1, h2, h3, h4⟩
  · rw [h1]
    rw [List.drop_zero] at h2
    rw [h2]
    exact failed_ok (m := M.say { m with seen := z' } false) ho rfl hf
  · rw [h1]
    rw [List.drop_zero] at h4
    rw [h4]
    have e0 : ({ m with mustAdvance := false, seen := z' } : M).attemptAt j true = { m with mustAdvance := false, seen := z', start := j, pos := j, lastmark := -1, lastindex := -1, frames := [{ wait := .nextStart, pc := b, pos := j, outermost := true }], weight := 1, pc := b, handed := j, outermost := true } := by
      unfold attemptAt attempt
      simp only [hwt, hp, hf]
      rfl
    show (runFor 4 (({ m with mustAdvance := false, seen := z' } : M).attemptAt j true)).outcome = some .matched
    rw [e0]
    generalize hM1 : ({ m with mustAdvance := false, seen := z', start := j, pos := j, lastmark := -1, lastindex := -1, frames := [{ wait := .nextStart, pc := b, pos := j, outermost := true }], weight := 1, pc := b, handed := j, outermost := true } : M) = m1
    have f1 : m1.code = code := by rw [← hM1]; exact hc
    have f2 : m1.pc = b := by rw [← hM1]
    have f3 : m1.outcome = none := by rw [← hM1]; exact ho
    have f4 : m1.answer = none := by rw [← hM1]; exact ha
    have f5 : m1.pos = j := by rw [← hM1]
    have f6 : m1.lim = m.lim := by rw [← hM1]
    have f7 : m1.text = m.text := by rw [← hM1]
    have f8 : m1.wholeText = false := by rw [← hM1]; exact hw
    have f9 : m1.mustAdvance = false := by rw [← hM1]
    have f10 : m1.frames = [{ wait := .nextStart, pc := b, pos := j, outermost := true }] := by rw [← hM1]
    (refine xE (exec_in C f1 f2 (by rw [f5, f6]; exact h2) (by rw [f5, f7]; exact h3)) fun z1 e1 => ?_)
    rw [run_step f3, step_exec f3 f4 (by rw [f1, f2]; exact C.blt), e1]
    (refine xE (exec_success C (m := { m1 with seen := z1, pc := e, pos := m1.pos + 1 }) f1 rfl f8 f9) fun z2 e2 => ?_)
    rw [run_step (m := { m1 with seen := z1, pc := e, pos := m1.pos + 1 }) f3, step_exec (m := { m1 with seen := z1, pc := e, pos := m1.pos + 1 }) f3 f4 (by show e < m1.code.size; rw [f1]; exact C.elt), e2]
    exact matched_ok f3 rfl f10 rfl

theorem search_ok (C : SetCode code P b e) (text : Array Nat) : ((forSearch code text 0 0 text.size false).runFor 4).outcome = some (if text.toList.any P then .matched else .failed) := by
  have e1 : (header code).1 = 1 := by rw [C.head]
  have e2 : (header code).2 = b := by rw [C.head]
  unfold forSearch
  dsimp only
  rw [e1]
  by_cases hz : text.size = 0
  · have ht : text.toList.any P = false := by
      have : text.toList = [] := List.eq_nil_of_length_eq_zero (by rw [Array.length_toList]; exact hz)
      rw [this]; rfl
    rw [ht, if_pos (by simp [hz])]
    exact failed_ok rfl rfl rfl
  · rw [if_neg (by simp only [Bool.or_eq_true, decide_eq_true_eq]; omega)]
    exact attempt_ok C rfl rfl e2 rfl rfl rfl rfl rfl
theorem turn_ok (C : SetCode code P b e) (text : Array Nat) : ∃ m', (forSearch code text 0 0 text.size false).runFor 4 = m' ∧ m'.outcome = some (if text.toList.any P then .matched else .failed) := ⟨_, rfl, search_ok C text⟩
end
end Mine
end
section
open PySem PySem.W PyProof.Rows PySem.Calls
set_option maxRecDepth 100000
namespace Mine

section
open PySem.Builtin PySem.Builtin.Re
theorem slot_search : Slot "re.Pattern" "search" "re.Pattern.search" :=
  .of (owner := "re.Pattern") (n := "search") (by rw [typeLookup_type, builtinLookup_eq_fast]; kernel_rfl) (by decide +kernel) (by decide +kernel) (by decide +kernel)
    (by first | exact .inl (by decide +kernel) | exact .inr (by decide +kernel)) (by rw [isSubtype_type]; kernel_rfl)
theorem type_search : typeOf (.builtin "re.Pattern.search") = pure (.type "method_descriptor") := by show builtinType _ = _; rw [builtinType_eq_fast]; kernel_rfl
theorem entry_search : entryFor table "re.Pattern.search" = some Builtin.«re.Pattern.search» := entryFor_of_tree (by kernel_rfl)
theorem args_search (a b : Value) : argsOk "re.Pattern.search" ⟨[a, b], []⟩ := by unfold argsOk; kernel_rfl
theorem attrs_pattern : PlainAttrs "re.Pattern" :=
  ⟨⟨"object.__getattribute__", by rw [typeLookup_type, builtinLookup_eq_fast]; kernel_rfl, by decide +kernel⟩, by rw [typeLookup_type, builtinLookup_eq_fast]; kernel_rfl⟩
theorem noBool_match : typeLookup (.type "re.Match") "__bool__" = pure none := by rw [typeLookup_type, builtinLookup_eq_fast]; kernel_rfl
theorem noLen_match : typeLookup (.type "re.Match") "__len__" = pure none := by rw [typeLookup_type, builtinLookup_eq_fast]; kernel_rfl

/-- a pattern that stands in the frame -/
noncomputable def PatOk (K : Frag) (p : Addr) (P : Nat → Bool) : Prop :=
  ∃ (code : Array Nat) (b e : Nat) (o : Obj) (vs : Array Value) (ca : Addr) (co : Obj) (cvs : Array Value) (cn : Nat),
    K.lookup p = some o ∧ o.cls = .type "re.Pattern" ∧ o.dict = none ∧ o.data = .fields vs ∧ reRawNat (vs.getD 6 .none) = 0 ∧ reRawNat (vs.getD 2 .none) = 0 ∧ vs.getD 5 .none = .ref ca ∧
    K.lookup ca = some co ∧ co.data = .seq cvs cn ∧ (cvs.map reRawOf).map (·.toNat) = code ∧ SetCode code P b e

section
variable {M : Model} {A : Around} {E : Value → Shared → Prop} {s : Shared} {K : Frag} {p : Addr} {P : Nat → Bool} {x : PySem.Str} {t : Tok}

theorem rules_ok {f : Nat → PUnit → Sem (ForInStep PUnit)} (hf : ∀ i (Q : ForInStep PUnit → Shared → Prop), Q (.yield ⟨⟩) s → wpAny M A (f i ⟨⟩) Q E s) {Q : PUnit → Shared → Prop} (h : Q ⟨⟩ s) : ∀ l : List Nat, wpAny M A (forIn l PUnit.unit f) Q E s
  | [] => by rw [List.forIn_nil]; exact wpAny_pure h
  | i :: l => by
    rw [List.forIn_cons]
    exact wpAny_bind (hf i _ (rules_ok hf h l))

theorem runToEnd_ok {m m' : PySem.Sre.M} (h4 : m.runFor 4 = m') {b : Bool} (ho : m'.outcome = some (if b then .matched else .failed)) {Q : Option PySem.Sre.M → Shared → Prop} (h : Q (if b then some m' else none) s) : wpAny M A (reRunToEnd m) Q E s := by
  unfold reRunToEnd
  have e : reDrive (2 ^ 64) m = pure m' := by
    show reDrive (18446744073709551615 + 1) m = _
    rw [reDrive]
    show (if (m.runFor 4).outcome.isSome = true then pure (m.runFor 4) else _) = _
    rw [h4, ho]
    rfl
  rw [e]
  refine wpAny_bind (wpAny_pure ?_)
  refine wpAny_bind (rules_ok (fun i Q hQ => ?_) ?_ _)
  · cases m'.seen.has i with
    | true => exact wpAny_bind (wpAny_rule (wpAny_pure hQ))
    | false => exact wpAny_pure hQ
  · rw [ho]
    cases b with
    | true => exact wpAny_pure h
    | false => exact wpAny_pure h

theorem search_body (hP : PatOk K p P) (X : K.In s.heap) (hx : x.length ≤ sizeLine) {Q : Fin → Shared → Prop} (hno : x.cps.toList.any P = false → Q (.done (.ret .none)) s)
    (hyes : x.cps.toList.any P = true → ∀ h' a o, (∀ b o, s.heap.get? b = some o → h'.get? b = some o) → h'.get? a = some o → o.cls = .type "re.Match" → Q (.done (.ret (.ref a))) { s with heap := h' }) :
    wpAny M A (Builtin.«re.Pattern.search» ⟨[.ref p, .str x t], []⟩) Q E s := by
  (refine xEE hP fun code b w26z => ?_; refine xEE w26z fun e o w27z => ?_; refine xEE w27z fun vs ca w28z => ?_; refine xEEEAAAAA w28z fun co cvs cn k1 k2 k3 k4 k5 w29z => ?_; refine xAAA w29z fun k6 k7 k8 w30z => ?_; refine xAA w30z fun k9 k10 C => ?_; try clear hP)
  unfold Builtin.«re.Pattern.search» reTarget
  refine wpAny_bind (wpAny_bind (wpAny_of_eq (a := [some (.str x t), none, none]) rfl ?_))
  refine wpAny_bind (wpAny_pure ?_)
  refine wpAny_bind (wpAny_pure ?_)
  refine wpAny_bind (wpAny_fieldsOf (X _ _ k1) k4 ?_)
  refine wpAny_bind (wpAny_of_eq (a := (x.cps, 0)) rfl ?_)
  dsimp only
  rw [k5]
  refine wpAny_bind (wpAny_of_eq (a := ()) rfl ?_)
  rw [k7]
  refine wpAny_bind (m := reRawItems (.ref ca)) (wpAny_bind (wpAny_seqItems (X _ _ k8) k9 (wpAny_pure ?_)))
  refine wpAny_pure ?_
  dsimp only [Option.getD]
  rw [k6, k10]
  have hl : min (2 ^ 63 - 1 : Int).toNat x.cps.size = x.cps.size := Nat.min_eq_right (by have : x.cps.size ≤ 16777216 := hx; omega)
  have h0 : min (0 : Int).toNat x.cps.size = 0 := Nat.zero_min _
  rw [hl, h0]
  (refine xEA (turn_ok C x.cps) fun m' h4 ho => ?_)
  unfold reAnswer
  refine wpAny_bind (runToEnd_ok h4 ho ?_)
  cases hb : x.cps.toList.any P with
  | false => exact wpAny_pure (hno hb)
  | true =>
    refine wpAny_bind (m := reNewMatch _ _ _ _ _ _) ?_
    unfold reNewMatch
    refine wpAny_bind (wpAny_newTuple ?_ (by show (2 : Nat) ≤ 16777216; decide))
    refine wpAny_newObj_type ?_
    refine wpAny_pure ?_
    exact hyes hb _ _ _ (fun b o e => Heap.get?_push_of_some _ (Heap.get?_push_of_some _ e)) (Heap.get?_push_size _ rfl) rfl
end
end

section
variable {G : Amb} {hn : Bool} {n : Nat} {Z : Scope} {c : Cx} {S : Gs} {s : Shared}
/-- what the search hands out: none, or a match -/
noncomputable def RMt (S : Gs) (v : Value) (b : Bool) : Prop := (v = .none ∧ b = false) ∨ ∃ a o, v = .ref a ∧ b = true ∧ S.h.get? a = some o ∧ o.cls = .type "re.Match"
theorem trSearch {p : Addr} {P : Nat → Bool} {x : PySem.Str} {t : Tok} (hP : PatOk G.K p P) (hx : x.length ≤ sizeLine) (q : Ho G hn n c S s) : Tr G c S s RMt (call (.builtin "re.Pattern.search") [.ref p, .str x t]) (.val (x.cps.toList.any P)) S.σ := by
  have X : G.K.In s.heap := by rw [q.heap]; exact q.H.kin
  refine Tr.of_wp fun Q E hq => ?_
  have hT : s.TypeIs (.ref p) "re.Pattern" := by
    (refine xEE hP fun code b w31z => ?_; refine xEE w31z fun e o w32z => ?_; refine xEE w32z fun vs ca w33z => ?_; refine xEEEAA w33z fun co cvs cn k1 k2 _ => ?_; try clear hP)
    exact ⟨o, X _ _ k1, k2⟩
  refine wpAny_call_entry slot_search hT entry_search (search_body hP X hx (fun h => ⟨_, rfl, ?_⟩) fun h h' a o k ho hc => ⟨_, rfl, ?_⟩) (args_search _ _)
  · have := hq .none S s.toks rfl q.H (.refl ..) (.inl ⟨rfl, h⟩)
    rw [← q.heap] at this; exact this
  · (refine xA (q.H.grow (h' := h') (fun b o e => k b o (by rw [q.heap]; exact e))) fun H1 x1 => ?_)
    exact hq (.ref a) { S with h := h' } s.toks rfl H1 x1 (.inr ⟨a, o, rfl, h, ho, hc⟩)
theorem trMatch {v : Value} {b : Bool} (q : Ho G hn n c S s) (r : RMt S v b) : Tr G c S s (fun _ a b => a = b) (truthy v) (.val b) S.σ := by
  refine Tr.tok q.H q.heap fun Q E hq => ?_
  rcases r with ⟨rfl, rfl⟩ | ⟨a, o, rfl, rfl, ho, hc⟩
  · exact wpAny_pure (hq _ s.toks rfl)
  · have hT : s.TypeIs (.ref a) "re.Match" := ⟨o, by rw [q.heap]; exact ho, hc⟩
    unfold truthy
    refine wpAny_bind (wpAny_callSpecial?_none (name := PySem.Str.ofString "__bool__") hT noBool_match ?_)
    refine wpAny_bind (wpAny_specialOf hT noLen_match ?_)
    exact wpAny_pure (hq _ s.toks rfl)

theorem trCallWithR {β : Type} {R : Gs → Value → β → Prop} {pos : Pos} {f : Value} {mf : List D → List (PySem.Str × D) → List AO → Option (Out β × List AO)} {es : List Expr} {ks : List Keyword} {ms : List (Mo D)} {mk : List (PySem.Str × Mo D)} (h : EvL G hn n Z es ms) (hs : es.all notStar = true) (hk : EvK G hn n Z ks mk)
    (hf : Kep G f) (hc : ∀ c S s vs ds kw kd out σ', Ho G hn n c S s → Rvs G c S vs ds → Rbs G c S kw kd → mf ds kd S.σ = some (out, σ') → Tr G c S s R (call f vs kw) out σ') {env : Env} {fr : Fr} {out : Out β} {σ' : List AO} (q : Run G hn n Z c env fr S s) {first : List Value} {fd : List D} (rf : Rvs G c S first fd)
    (hm : Mo.bind (Mo.args ms mk) (fun a _ σ => mf (fd ++ a.1) a.2 σ) fr S.σ = some (out, σ')) :
    Tr G c S s R (callWith pos f first (backTo pos (starEach es env)) (backToKw pos (keywordEach ks env))) out σ' := by
  unfold callWith
  refine Tr.bindM hm (fun o1 σ1 h1 => Tr.holding (trArgs h hs hk q h1)) fun b a S1 tk H1 x1 ra h2 => ?_
  have q1 := q.step (tk := tk) H1 x1
  refine Tr.standAt ?_
  have ht := hc c S1 _ (first ++ a.pos) (fd ++ b.1) a.kw b.2 out σ' q1.ho (VRs.append (rf.ext x1) ra.1) ra.2 h2
  intro Q E hq hx
  have hst := star_all (pos := pos) (env := env) hs
  have hsk : ((backTo pos (starEach es env)).any (·.1) || (backToKw pos (keywordEach ks env)).any (·.1.isNone)) = false := by
    rw [hst, Bool.false_or]
    have := (kw_names (pos := pos) (env := env) hk).2
    rw [List.any_eq_false]
    intro x hx
    have := List.all_eq_true.mp this x hx
    cases hh : x.1 with
    | none => rw [hh] at this; exact nFT this
    | some y => intro q; exact nFT q
  (refine xE (hf S1.h H1.kin) fun k hk' => ?_)
  have tail : ∀ {t : Sem Value}, wpAny G.M c.A t Q E (ShT s S1.h tk) → wpAny G.M c.A (t >>= fun r => PySem.holding [r] PySem.point >>= fun _ => Pure.pure r) Q E (ShT s S1.h tk) :=
    fun ht => wpAny_bind (wpAny_mono ht (fun r s₂ hr => wpAny_bind (wpAny_holding (wpAny_point (wpAny_pure hr)))) fun _ _ x => x)
  have w := ht Q E hq hx
  dsimp only
  rw [hsk]
  refine wpAny_bind (hk'.here ?_)
  cases k with
  | frame =>
    dsimp only
    split
    · exact tail w
    · exact tail (by unfold callMarked; exact Calls.wpAny_keep w)
  | boundFrame =>
    dsimp only
    split
    · exact tail w
    · exact tail (by unfold callMarked; exact Calls.wpAny_keep w)
  | machine => exact tail w
  | caller => exact tail (wpAny_operating w)

/-- regex.search(value) for its truth -/
noncomputable def Mo.srch (pat : Addr → Option (Nat → Bool)) (mo ma : Mo D) : Mo Bool := Mo.bind mo fun d => Mo.bind (Mo.opt (match d with
  | .glob (.ref p) => pat p
  | _ => none)) fun P => Mo.bind ma fun x => match x with
    | .str x => Mo.pure (x.cps.toList.any P)
    | _ => Mo.fail
theorem srch_glob {pat : Addr → Option (Nat → Bool)} {d : D} {P : Nat → Bool} (h : (match d with
  | .glob (.ref p) => pat p
  | _ => none) = some P) : ∃ p, d = .glob (.ref p) ∧ pat p = some P := by
  split at h
  · exact ⟨_, rfl, h⟩
  · exact nnS h
theorem srch_str {d : D} {P : Nat → Bool} {fr : Fr} {σ : List AO} {r : Out Bool × List AO} (h : (match d with
    | .str x => (Mo.pure (x.cps.toList.any P) : Mo Bool)
    | _ => Mo.fail) fr σ = some r) : ∃ x, d = .str x ∧ r = (.val (x.cps.toList.any P), σ) := by
  cases d <;> first | exact nnS h | exact ⟨_, rfl, (s1E h).symm⟩
/-- the search as a callee -/
noncomputable def mfSrch (p : Addr) (P : Nat → Bool) (ds : List D) (kd : List (PySem.Str × D)) (σ : List AO) : Option (Out Bool × List AO) := (pick fun x => ds = [.glob (.ref p), .str x] ∧ kd = []).map fun x => (.val (x.cps.toList.any P), σ)
theorem ca_srch {p : Addr} {P : Nat → Bool} (hP : PatOk G.K p P) {c : Cx} {S : Gs} {s : Shared} {vs : List Value} {ds : List D} {kw : List (PySem.Str × Value)} {kd : List (PySem.Str × D)} {out : Out Bool} {σ' : List AO} (q : Ho G hn n c S s) (hv : Rvs G c S vs ds) (hk : Rbs G c S kw kd) (hm : mfSrch p P ds kd S.σ = some (out, σ')) :
    Tr G c S s RMt (call (.builtin "re.Pattern.search") vs kw) out σ' := by
  refine xEA (Option.map_eq_some_iff.mp hm) fun x hx e => ?_
  have hx := pick_ok hx
  refine Tr.cast (congrArg some e) ?_
  clear hm e
  rw [hx.2] at hk
  rw [hx.1] at hv
  clear hx
  refine xEEAA (VRs.i_two hv) fun v w e r1 r2 => ?_
  rw [e, Rbs.i_nil hk]
  refine xEA (VR.i_str r2) fun t ev hxl => ?_
  rw [VR.i_glob r1, ev]
  exact trSearch hP hxl q
theorem args_srch {p : Addr} {P : Nat → Bool} {ma : Mo D} {fr : Fr} {σ : List AO} {r : Out Bool × List AO} (h3 : Mo.bind ma (fun x => match x with
    | .str x => Mo.pure (x.cps.toList.any P)
    | _ => Mo.fail) fr σ = some r) : Mo.bind (Mo.args [ma] []) (fun a _ σ => mfSrch p P ([.glob (.ref p)] ++ a.1) a.2 σ) fr σ = some r := by
  unfold Mo.args Mo.seq Mo.seqK
  unfold Mo.bind at h3 ⊢
  cases hma : ma fr σ with
  | none => rw [hma] at h3; exact nnS h3
  | some pr =>
    rw [hma] at h3
    obtain ⟨o1, σ1⟩ := pr
    cases o1 with
    | exc X msg => exact h3
    | val dx =>
      refine xEA (srch_str h3) fun x e1 e2 => ?_
      rw [e1, e2]
      show (pick fun y => [D.glob (.ref p), .str x] = [.glob (.ref p), .str y] ∧ ([] : List (PySem.Str × D)) = []).map (fun x => (Out.val (x.cps.toList.any P), σ1)) = _
      rw [pick_mk (a := x) ⟨rfl, rfl⟩ fun y hy => by have q := hy.1; injection q with _ q; injection q with q _; injection q with q; exact q.symm]
      rfl
theorem trEvSearch {o a : Expr} {apos pos : Pos} {pat : Addr → Option (Nat → Bool)} {mo ma : Mo D} (hpat : ∀ p P, pat p = some P → PatOk G.K p P) (ho : Ev G hn n Z o mo) (ha : Ev G hn n Z a ma)
    (hs : notStar a = true) (hbase : ∀ env, attributeBase o "search" env (eval o env) = eval o env)
    (hfew : ∀ env, methodCallForm 1 (backTo pos (starEach [a] env)) (backToKw pos (keywordEach [] env)) = true)
    (hline : (apos.endLine == pos.line) = true) {c : Cx} {S : Gs} {s : Shared} {env : Env} {fr : Fr} {out : Out Bool} {σ' : List AO} (q : Run G hn n Z c env fr S s) (hm : Mo.srch pat mo ma fr S.σ = some (out, σ')) :
    Tr G c S s RMt (eval (.Call (.Attribute o "search" apos) [a] [] pos) env) out σ' := by
  rw [arm_eval_Call, hbase]
  unfold Mo.srch at hm
  refine Tr.bindM hm (fun o1 σ1 h1 => ho c env fr S s o1 σ1 q h1) fun d ov S1 tk H1 x1 ra h2 => ?_
  refine xEA (bindOpt h2) fun P hPat h3 => ?_
  refine xEA (srch_glob hPat) fun p ed hPat => ?_
  subst ed
  have ev := VR.i_glob ra
  subst ev
  have hP := hpat p P hPat
  have h4 := args_srch (p := p) h3
  clear hm h2 h3 hPat hpat
  refine Tr.standAt ?_
  unfold methodCall
  rw [show methodCallForm ([a].length + ([] : List Keyword).length) (backTo pos (starEach [a] env)) (backToKw pos (keywordEach [] env)) = true from hfew env]
  have hp : methodCallPos true o env apos pos = Pure.pure pos := by unfold methodCallPos; simp [hline]
  rw [hp]
  clear hp
  intro Q E hq hx
  have hX : ∃ oo, S1.h.get? p = some oo ∧ oo.cls = .type "re.Pattern" ∧ oo.dict = none := by
    obtain ⟨_, _, _, oo, _, _, _, _, _, k1, k2, k3, _⟩ := hP
    exact ⟨oo, H1.kin _ _ k1, k2, k3⟩
  refine xEAA hX fun oo X k2 k3 => ?_
  refine wpAny_bind (wpAny_holding (getMethod_builtin (T := "re.Pattern") ⟨oo, X, k2⟩ attrs_pattern slot_search type_search (fun a e => by (have k1 := Value.ref.inj e; clear e; subst k1); exact ⟨oo, X, k3⟩) ?_))
  refine wpAny_bind (wpAny_pure ?_)
  exact trCallWithR (R := RMt) (es := [a]) (ks := []) (ms := [ma]) (mk := []) (fd := [.glob (.ref p)]) (mf := mfSrch p P) ⟨ha, trivial⟩ (by show (notStar a && true) = true; rw [hs]; rfl) trivial Kep.blt (fun c S s vs ds kw kd out σ' q hv hk hm => ca_srch hP q hv hk hm) (q.step H1 x1) (VRs.one (.glob _)) h4 Q E hq hx
theorem Cd.search {o a : Expr} {apos pos : Pos} {pat : Addr → Option (Nat → Bool)} {mo ma : Mo D} (hpat : ∀ p P, pat p = some P → PatOk G.K p P) (ho : Ev G hn n Z o mo) (ha : Ev G hn n Z a ma)
    (hs : notStar a = true := by rfl) (hbase : ∀ env, attributeBase o "search" env (eval o env) = eval o env := by intro _; rfl)
    (hfew : ∀ env, methodCallForm 1 (backTo pos (starEach [a] env)) (backToKw pos (keywordEach [] env)) = true := by intro _; rfl)
    (hline : (apos.endLine == pos.line) = true := by rfl) :
    Cd G hn n Z (.Call (.Attribute o "search" apos) [a] [] pos) (Mo.srch pat mo ma) := by
  intro c env fr S s out σ' q hm
  show Tr G c S s _ (do let v ← eval (.Call (.Attribute o "search" apos) [a] [] pos) env; standAt pos; holding [v] (truthy v)) out σ'
  refine Tr.bind (trEvSearch hpat ho ha hs hbase hfew hline q hm) (fun b hb v S1 tk e1 H1 x1 r1 => ?_) fun _ _ h => ⟨h, rfl⟩
  subst e1
  rw [hb]
  exact Tr.standAt (Tr.holding (trMatch (q.step H1 x1).ho r1))
end
end Mine
end
section
open PySem PySem.W PyProof.Rows PySem.Calls
set_option maxRecDepth 100000
namespace Mine

section
open PySem.Sre PySem.Sre.M
noncomputable def codeN : Array Nat := #[14, 10, 4, 1, 1, 22, 0, 31, 16, 127, 0, 13, 7, 22, 0, 31, 16, 127, 0, 1]
noncomputable def codeV : Array Nat := #[14, 14, 4, 1, 1, 9, 4294966783, 0, 0, 2147483648, 0, 0, 0, 0, 0, 13, 11, 9, 4294966783, 0, 0, 2147483648, 0, 0, 0, 0, 0, 1]
noncomputable def ctlN (c : Nat) : Bool := decide (c ≤ 31) || decide (c = 127)
noncomputable def ctlV (c : Nat) : Bool := decide (c < 256) && (codeV.getD (6 + c / 32) 0).testBit (c % 32)

theorem setN (i : Nat) (c : Nat) (z : PySem.Sre.Seen) (h : ∃ a b d, inSet codeN c codeN.size i true z = if (decide (0 ≤ c) && decide (c ≤ 31)) = true then .ok (true, a) else if (c == 127) = true then .ok (true, b) else .ok (false, d)) :
    ∃ z', inSet codeN c codeN.size i true z = .ok (ctlN c, z') :=
  h.elim fun a h => h.elim fun b h => h.elim fun d h => by
    rw [h]
    clear h
    unfold ctlN
    by_cases h1 : c ≤ 31
    · exact ⟨a, by rw [decide_eq_true h1, decide_eq_true (Nat.zero_le c)]; rfl⟩
    · by_cases h2 : c = 127
      · exact ⟨b, by rw [decide_eq_true h2, h2]; rfl⟩
      · exact ⟨d, by rw [decide_eq_false h1, decide_eq_false h2, beq_eq_false_iff_ne.mpr h2, Bool.and_false]; rfl⟩
theorem setCodeN : SetCode codeN ctlN 11 19 where
  head := by rfl
  hinted := by rfl
  bpos := by decide
  first := fun c z => setN 5 c z ⟨_, _, _, rfl⟩
  opb := by rfl
  again := fun c z => setN 13 c z ⟨_, _, _, rfl⟩
  width := by rfl
  opE := by rfl
  blt := by decide
  elt := by decide
theorem setV (i : Nat) (h1 : ∀ k, k < 8 → codeV.getD (i + (1 + k)) 0 = codeV.getD (6 + k) 0) (c : Nat) (z : PySem.Sre.Seen) (h : ∃ a d, inSet codeV c codeV.size i true z = if (decide (c < 256) && (codeV.getD (i + (1 + c / 32)) 0).testBit (c % 32)) = true then .ok (true, a) else .ok (false, d)) :
    ∃ z', inSet codeV c codeV.size i true z = .ok (ctlV c, z') :=
  h.elim fun a h => h.elim fun d h => by
    rw [h]
    clear h
    unfold ctlV
    by_cases hc : c < 256
    · rw [h1 (c / 32) (Nat.div_lt_of_lt_mul hc)]
      generalize (codeV.getD (6 + c / 32) 0).testBit (c % 32) = b
      rw [decide_eq_true hc]
      exact b.rec ⟨d, rfl⟩ ⟨a, rfl⟩
    · rw [decide_eq_false hc]
      exact ⟨d, rfl⟩
theorem setCodeV : SetCode codeV ctlV 15 27 where
  head := by rfl
  hinted := by rfl
  bpos := by decide
  first := fun c z => setV 5 (fun k _ => congrArg (codeV.getD · 0) (Nat.add_assoc 5 1 k).symm) c z ⟨_, _, rfl⟩
  opb := by rfl
  again := fun c z => setV 17 (by decide) c z ⟨_, _, rfl⟩
  width := by rfl
  opE := by rfl
  blt := by decide
  elt := by decide
end
theorem patN {K : Frag} {p ca : Addr} {x : PySem.Str} {t u : Tok} {m : Nat} {cvs : Array Value} (h1 : K.lookup p = some { cls := .type "re.Pattern", data := .fields #[.str x t, .int 32 u, .int 0 0, .none, .none, .ref ca, .int 0 0] })
    (h2 : K.lookup ca = some { cls := .type "tuple", data := .seq cvs m }) (h3 : (cvs.map Builtin.Re.reRawOf).map (·.toNat) = codeN) : PatOk K p ctlN :=
  ⟨codeN, 11, 19, _, _, ca, _, _, _, h1, rfl, rfl, rfl, rfl, rfl, rfl, h2, rfl, h3, setCodeN⟩
theorem patV {K : Frag} {p ca : Addr} {x : PySem.Str} {t u : Tok} {m : Nat} {cvs : Array Value} (h1 : K.lookup p = some { cls := .type "re.Pattern", data := .fields #[.str x t, .int 32 u, .int 0 0, .none, .none, .ref ca, .int 0 0] })
    (h2 : K.lookup ca = some { cls := .type "tuple", data := .seq cvs m }) (h3 : (cvs.map Builtin.Re.reRawOf).map (·.toNat) = codeV) : PatOk K p ctlV :=
  ⟨codeV, 15, 27, _, _, ca, _, _, _, h1, rfl, rfl, rfl, rfl, rfl, rfl, h2, rfl, h3, setCodeV⟩
end Mine
end
section
open PySem PySem.W PyProof.Rows PySem.Calls
set_option maxRecDepth 100000
namespace Mine

section
variable {G : Amb} {hn : Bool} {n : Nat} {Z : Scope} {c : Cx} {S : Gs} {s : Shared}
noncomputable def itemsOf (es : List (PySem.Str × D)) : List D := es.map fun p => .tup [.str p.1, p.2]
theorem WalkN.items (hh : c.A.handled = none) {it d : Addr} (hit : it ∈ c.X) {es : List (PySem.Str × D)} {kvs : List (PySem.Str × Value)} {ep : Nat} {elts : List Expr} {k : Nat} {pt : Pos} (hk : kvs.map (·.1) = es.map (·.1)) (hlen : es.all (fun p => decide (p.1.length ≤ sizeLine)) = true) :
    WalkN G c [it] it (.Tuple elts k pt) (itemsOf es) (fun _ => True) (fun i S => (∃ ok ov, IsItemIter S.h it d i kvs.length ep ok ov) ∧ S.h.DictAt (strKind G.prog G.w) d kvs ep ∧ d ∉ vol c S ∧ Rvs G c S (kvs.map (·.2)) (es.map (·.2))) := by
  have hkl : kvs.length = es.length := by have := congrArg List.length hk; simpa using this
  have itV : ∀ S : Gs, it ∈ vol c S := fun S => List.mem_append_right _ (List.mem_append_right _ hit)
  have ne : ∀ {S : Gs}, d ∉ vol c S → d ≠ it := fun h e => h (e ▸ itV _)
  refine ⟨fun i S S' h ha hp hv hkeep => ?_, fun i S s dd Q E h H hs _ hd hQ => ?_, fun S s Q E h H hs _ hQ => ?_⟩
  · (refine xAAA h fun q0z h2 h3 h4 => ?_; try clear h; refine xEE q0z fun ok ov h1 => ?_)
    (refine xEEA (id h2) fun od _ hod _ => ?_)
    exact ⟨⟨ok, ov, hkeep it (.head _) _ h1⟩, h2.at fun o e => hp d o h3 e, hv.notin hod h3, VRs.mono hp ha hv h4⟩
  · (refine xAAA h fun q0z h2 h3 h4 => ?_; try clear h; refine xEE q0z fun ok ov h1 => ?_)
    unfold itemsOf at hd
    rw [List.getElem?_map] at hd
    (refine xEA (Option.map_eq_some_iff.mp hd) fun q0z he q1z => ?_; obtain ⟨x, dv⟩ := q0z; subst q1z)
    have hx : x.length ≤ sizeLine := by
      have := List.all_eq_true.mp hlen (x, dv) (List.mem_of_getElem? he)
      simpa using this
    have hlt : i < es.length := (List.getElem?_eq_some_iff.mp he).1
    obtain ⟨⟨x', v⟩, hkv⟩ : ∃ p, kvs[i]? = some p := ⟨_, List.getElem?_eq_getElem (by rw [hkl]; exact hlt)⟩
    have hxx : x' = x := by
      have e1 : (kvs.map (·.1))[i]? = some x' := by rw [List.getElem?_map, hkv]; rfl
      rw [hk, List.getElem?_map, he] at e1
      simpa using e1.symm
    subst hxx
    have hv : Rv G c S v dv := by
      obtain ⟨w, hw, r⟩ := VRs.get h4 (k := i) (d := dv) (by rw [List.getElem?_map, he]; rfl)
      rw [List.getElem?_map, hkv] at hw
      (have k1 := s1E hw; clear hw; subst k1); exact r
    rw [← hs] at h1 h2
    refine wpAny_pyNext_items_item h1 h2 hkv fun key h' hkey hout htup hsz hkp => ⟨_, rfl, wpAny_letOwnedTupleGo_items hout fun h'' he'' hs'' => ?_⟩
    obtain ⟨t, rfl⟩ : ∃ t, key = .str x' t := by
      have hkey' : Value.isStrOf x' key = true := hkey
      cases key with
      | str y t => exact ⟨t, by unfold Value.isStrOf at hkey'; rw [beq_iff_eq.mp hkey']⟩
      | _ => unfold Value.isStrOf at hkey'; exact nFT hkey'
    have hsz' : s.heap.objs.size = S.h.objs.size := by rw [hs]
    rw [hsz'] at htup ⊢
    rw [hs] at hkp
    have hitlt : it < S.h.objs.size := by rw [hs] at h1; exact Heap.lt_size h1
    have keep : ∀ b o, b ∉ [it] → S.h.get? b = some o → h''.get? b = some o := fun b o hb e => by
      have hbi : b ≠ it := fun q => hb (by rw [q]; exact .head _)
      rw [hs''.2 b hbi]
      exact hkp b o hbi e
    have pres : Pres (vol c S) S.h h'' := fun a o hn e => keep a o (fun q => hn (by rcases List.mem_singleton.mp q with rfl; exact itV S)) e
    refine hQ (.ref S.h.objs.size) h'' s.toks keep (fun b hb => by rcases List.mem_singleton.mp hb with rfl; exact ⟨_, he''⟩) ⟨⟨_, _, he''⟩, ?_, h3, VRs.mono pres (.refl _) (.of_sub _ fun _ q => q) h4⟩ ?_
    · rw [hs] at h2
      exact h2.at fun o e => pres d o h3 e
    · refine .tup (o := { cls := .type "tuple", data := .seq #[.str x' t, v] }) ?_ rfl rfl (by show 2 ≤ sizeLine; decide) H.size_notin (.cons (.str _ _ hx) (.cons ?_ .nil))
      · rw [hs''.2 _ (Nat.ne_of_gt hitlt)]; exact htup
      · exact VR.mono pres (.refl _) (.of_sub _ fun _ q => q) hv
  · obtain ⟨⟨ok, ov, h1⟩, h2, h3, h4⟩ := h
    rw [← hs] at h1 h2
    refine wpAny_pyNext_items_end hh h1 h2 (List.getElem?_eq_none (by rw [hkl]; unfold itemsOf; simp)) fun h' hb => hQ h' s.toks fun b o hbi e => ?_
    rw [hs] at hb
    exact hb b o (fun q => hbi (by rw [q]; exact .head _)) e

noncomputable def Mo.items (mo : Mo D) : Mo Src := Mo.bind mo fun d => Mo.opt (match d with
  | .dct es => if es.all (fun p => decide (p.1.length ≤ sizeLine)) then some ⟨itemsOf es, fun _ => True⟩ else none
  | _ => none)
theorem Itr.items {o : Expr} {apos pos : Pos} {elts : List Expr} {k : Nat} {pt : Pos} {mo : Mo D} (ho : Ev G true n Z o mo) (hbase : ∀ env, attributeBase o "items" env (eval o env) = eval o env := by intro _; rfl)
    (hline : (apos.endLine == pos.line) = true := by rfl) : Itr G true n Z (.Tuple elts k pt) (.Call (.Attribute o "items" apos) [] [] pos) (Mo.items mo) := by
  intro c env fr S s out σ' q hm
  have hfs : ∀ x, foldedSetIterable (.Call (.Attribute o "items" apos) [] [] pos) env x = Pure.pure x := fun _ => rfl
  simp only [hfs, pure_bind]
  rw [arm_eval_Call, hbase, bind_assoc]
  refine Tr.bindM hm (fun o1 σ1 h1 => ho c env fr S s o1 σ1 q h1) fun d v S1 tk H1 x1 ra h2 => ?_
  unfold Mo.opt at h2
  (refine xEA (Option.map_eq_some_iff.mp h2) fun x hx h3 => ?_)
  (have k1 := p2A h3; have k2 := p2B h3; clear h3; subst k1 k2)
  split at hx
  rotate_left
  · exact nnS hx
  rename_i es
  split at hx
  rotate_left
  · exact nnS hx
  rename_i hlen
  (have k1 := s1E hx; clear hx; subst k1)
  have hh := q.hand rfl
  obtain ⟨a, es', nn, rfl, h0, h1, hnd, hna, hre⟩ : ∃ (a : Addr) (es' : Array DictEntry) (nn : Nat), v = .ref a ∧ 1 < a ∧ S1.h.get? a = some { cls := .type "dict", dict := none, data := .dict es' nn, slots := #[] } ∧ (es.map (·.1)).Nodup ∧ a ∉ vol c S1 ∧ VRe G.w.params S1.adr (vol c S1) S1.h es'.toList es := by
    exact VR.i_dctF ra
  obtain ⟨kvs, k1, k2, kv, k4⟩ := valueAt_of (G := G) rfl hre
  have hat : S1.h.DictAt (strKind G.prog G.w) a kvs nn := ⟨_, es', h1, ⟨rfl, rfl, rfl⟩, rfl, fun e he => k4 e (by simpa using he), k1, by rw [k2]; exact hnd⟩
  have hsys : (a == sysModules) = false := beq_eq_false_iff_ne.mpr (Nat.ne_of_gt h0)
  refine Tr.of_wp fun Q E hq => ?_
  refine wpAny_bind (wpAny_bind (wpAny_standAt ?_))
  unfold methodCall
  refine wpAny_bind (wpAny_holding (getMethod_builtin (T := "dict") ⟨_, h1, rfl⟩ F.plainAttrs_dict F.slot_dict_items F.type_dict_items (fun b e => by (have k1 := Value.ref.inj e; clear e; subst k1); exact ⟨_, h1, rfl⟩) ?_))
  have hp : methodCallPos true o env apos pos = Pure.pure pos := by unfold methodCallPos; simp [hline]
  show wpAny _ _ (methodCallPos true o env apos pos >>= _) _ _ _
  rw [hp]
  refine wpAny_bind (wpAny_pure ?_)
  show wpAny _ _ (callWith pos (.builtin "dict.items") [.ref a] [] []) _ _ _
  refine method_meetsIn F.slot_dict_items F.entry_dict_items rfl (PySem.evalArgs_none ⟨rfl, ⟨_, h1, rfl⟩, F.args_dict_items_1 _, _, meets_dict_items (strKind G.prog G.w) a hsys, ⟨kvs, hat.dictOf⟩, ?_⟩)
  refine wpAny_bind (wpAny_standAt (wpAny_holding ?_))
  refine wpAny_pyIter_items (knd := strKind G.prog G.w) ⟨_, Heap.get?_push_size _ rfl, rfl, rfl⟩ (hat.push _) ?_
  have hsz : (S1.h.push { cls := .type "dict_items", data := .fields #[.ref a] }).objs.size = S1.h.objs.size + 1 := Heap.size_push ..
  have freshN : S1.h.get? (S1.h.objs.size + 1) = none := Heap.get?_none_of_le (Nat.le_succ _)
  have fresh1 : ∀ b ∈ [S1.h.objs.size + 1], S1.h.get? b = none := fun b hb => by rcases List.mem_singleton.mp hb with rfl; exact freshN
  have fresh0 : ∀ b ∈ [S1.h.objs.size + 1], S.h.get? b = none := fun b hb => by
    rcases List.mem_singleton.mp hb with rfl
    cases e : S.h.get? (S1.h.objs.size + 1) with
    | none => rfl
    | some o => obtain ⟨o', e'⟩ := x1.live _ o e; rw [freshN] at e'; exact nnS e'
  show Q (.ref (S1.h.push { cls := .type "dict_items", data := .fields #[.ref a] }).objs.size) _
  rw [hsz]
  generalize hh3 : (S1.h.push { cls := .type "dict_items", data := .fields #[.ref a] }).push { cls := .type "dict_itemiterator", data := .fields #[.none, .bool false, .ref a, .int 0 0, .int kvs.length 0, .int nn 0, .none, .none] } = h3
  have k3 : ∀ b o, S1.h.get? b = some o → h3.get? b = some o := fun b o e => by rw [← hh3]; exact Heap.get?_push_of_some _ (Heap.get?_push_of_some _ e)
  have gI : IsItemIter h3 (S1.h.objs.size + 1) a 0 kvs.length nn .none .none := by
    rw [← hh3, ← hsz]; exact Heap.get?_push_size _ rfl
  obtain ⟨H3, x3⟩ := H1.addX (its := [S1.h.objs.size + 1]) (h' := h3) k3 fun b hb => ⟨fresh1 b hb, by rcases List.mem_singleton.mp hb with rfl; exact ⟨_, gI⟩⟩
  have hdV : a ∉ vol (c.addX [S1.h.objs.size + 1]) { S1 with h := h3 } := fun hm => by
    rcases vol_addX.mp hm with z | z
    · rcases List.mem_singleton.mp z with rfl; rw [freshN] at h1; exact nnS h1
    · exact hna z
  have hit : S1.h.objs.size + 1 ∈ (c.addX [S1.h.objs.size + 1]).X := List.mem_append_left _ (.head _)
  refine hq (.ref (S1.h.objs.size + 1)) { S1 with h := h3 } tk rfl H3.dropX x3 ⟨S1.h.objs.size + 1, [S1.h.objs.size + 1], _, rfl, fresh0, H3, ?_, WalkN.items (c := c.addX [S1.h.objs.size + 1]) (d := a) (ep := nn) hh hit k2 hlen⟩
  exact ⟨⟨.none, .none, gI⟩, hat.at fun o e => k3 _ _ e, hdV, VRs.mono (fun b o hn e => k3 b o e) (.refl _) (fun b hb => (vol_addX.mp hb).elim (fun z => .inr (fresh1 b z)) fun z => .inl z) kv⟩
end
end Mine
end
section
open PySem PySem.W PyProof.Rows PySem.Calls
set_option maxRecDepth 100000
namespace Mine

section
variable {G : Amb} {hn : Bool} {n : Nat} {Z : Scope} {c : Cx} {S : Gs} {s : Shared}
noncomputable def getD? (fs : List (PySem.Str × D)) (x : PySem.Str) : Option D := (fs.find? fun e => e.1 = x).map (·.2)
noncomputable def hitsD (σ : List AO) (fs : List (PySem.Str × D)) : List (PySem.Str × D) → Option Bool
  | [] => some true
  | (k, d) :: r => match getD? fs k with
    | none => some false
    | some d' => (py σ d).bind fun x => (py σ d').bind fun y => (hitsD σ fs r).map fun b => PyData.eqv x y && b
noncomputable def dctEq (σ : List AO) (es fs : List (PySem.Str × D)) : Option Bool := if es.length = fs.length then hitsD σ fs es else some false
theorem valueAt_none {kvs : List (PySem.Str × Value)} {fs : List (PySem.Str × D)} (h : kvs.map (·.1) = fs.map (·.1)) {x : PySem.Str} (hx : getD? fs x = none) : valueAt kvs x = none := by
  unfold getD? at hx
  rw [Option.map_eq_none_iff, List.find?_eq_none] at hx
  unfold valueAt
  rw [Option.map_eq_none_iff, List.find?_eq_none]
  intro p hp
  have : p.1 ∈ fs.map (·.1) := by rw [← h]; exact List.mem_map.mpr ⟨p, hp, rfl⟩
  (refine xEA (List.mem_map.mp this) fun e he e' => ?_)
  have := hx e he
  rw [e'] at this
  exact this
theorem hits_ok {A : Around} (q : c.A.in1 = A) (hu : A.units + 64 < cLine) (H : Heaps G c S) (hs : s.heap = S.h) {kb : List (PySem.Str × Value)} {fs : List (PySem.Str × D)} (hkb : kb.map (·.1) = fs.map (·.1)) (rb : Rvs G c S (kb.map (·.2)) (fs.map (·.2))) :
    ∀ {ka : List (PySem.Str × Value)} {es : List (PySem.Str × D)} {b : Bool}, ka.map (·.1) = es.map (·.1) → Rvs G c S (ka.map (·.2)) (es.map (·.2)) → hitsD S.σ fs es = some b → KeqHits A s kb ka b
  | [], [], b, _, _, e => by (have k1 := s1E e; clear e; subst k1); exact .nil
  | [], _ :: _, _, h, _, _ => by exact nNC h
  | _ :: _, [], _, h, _, _ => by exact nCN h
  | (k, v) :: ka, (k', d) :: es, b, h, r, e => by
    rw [List.map_cons, List.map_cons] at h r
    have hk : k = k' := (List.cons.inj h).1
    subst hk
    cases r with
    | cons r1 r2 =>
      unfold hitsD at e
      split at e
      · rename_i hno
        (have k1 := s1E e; clear e; subst k1)
        exact .miss (valueAt_none hkb hno)
      · rename_i d' hd'
        (refine xEA (Option.bind_eq_some_iff.mp e) fun x hx e => ?_)
        (refine xEA (Option.bind_eq_some_iff.mp e) fun y hy e => ?_)
        (refine xEA (Option.map_eq_some_iff.mp e) fun b' hb' e => ?_)
        subst e
        (refine xEA (find_pairs hkb rb hd') fun u hu1 ru => ?_)
        (refine xA (py_ok H r1 hx) fun q0z s1 => ?_; refine xE q0z fun as r3 => ?_)
        (refine xA (py_ok H ru hy) fun q0z s2 => ?_; refine xE q0z fun bs r4 => ?_)
        refine .hit hu1 ?_ (hits_ok q hu H hs hkb rb (List.cons.inj h).2 r2 hb')
        rw [← q] at hu ⊢
        exact keq_at (by rw [hs]; exact r3) (by rw [hs]; exact r4) s1 s2 hu

noncomputable def opNeD : F2 := fun a b σ => match a, b with
  | .dct es, .dct fs => (dctEq σ es fs).map fun t => (.val (.bool (!t)), σ)
  | _, _ => none
theorem Op2.neD (h3 : 3 ≤ n) : Op2 G hn n (compareOp .NotEq) opNeD := by
  intro c S s va vb da db out σ' q ra rb hm
  unfold opNeD at hm
  split at hm
  rotate_left
  · exact nnS hm
  rename_i es fs
  (refine xEA (Option.map_eq_some_iff.mp hm) fun t ht e => ?_)
  (have k1 := p2A e; have k2 := p2B e; clear e; subst k1 k2)
  have get : ∀ {v : Value} {es : List (PySem.Str × D)}, Rv G c S v (.dct es) → ∃ a, v = .ref a ∧ (a == sysModules) = false := fun r => by
    (refine xEA r.i_dct1 fun a q0z h0 => ?_; subst q0z)
    exact ⟨_, rfl, beq_eq_false_iff_ne.mpr (Nat.ne_of_gt h0)⟩
  (refine xEA (get ra) fun a q0z ha => ?_; subst q0z)
  (refine xEA (get rb) fun b q0z hb => ?_; subst q0z)
  (refine xEAA (dictOf_of ra) fun ka a1 a2 a3 => ?_)
  (refine xEAA (dictOf_of rb) fun kb b1 b2 b3 => ?_)
  have hla : ka.length = es.length := by have := congrArg List.length a2; simpa using this
  have hlb : kb.length = fs.length := by have := congrArg List.length b2; simpa using this
  have hu : c.A.in1.units + 64 < cLine := by have := q.units; have e : c.A.in1.units = c.A.units + 1 := rfl; omega
  refine Tr.tok q.H q.heap fun Q E hq => ?_
  unfold dctEq at ht
  by_cases hl : es.length = fs.length
  · rw [if_pos hl] at ht
    refine keq_ne (r := t) ha hb (by rw [q.heap]; exact a1) (by rw [q.heap]; exact b1) (by have := q.units; omega) (fun _ => hits_ok rfl hu q.H q.heap b2 b3 a2 a3 ht) ?_
    have e : (ka.length == kb.length) = true := by rw [hla, hlb, hl]; exact beq_self_eq_true _
    rw [e, Bool.true_and]
    exact hq _ s.toks (.bool _)
  · rw [if_neg hl] at ht
    (have k1 := s1E ht; clear ht; subst k1)
    refine keq_ne (r := false) ha hb (by rw [q.heap]; exact a1) (by rw [q.heap]; exact b1) (by have := q.units; omega) (fun h => absurd (by rw [← hla, ← hlb, h]) hl) ?_
    rw [Bool.and_false]
    exact hq _ s.toks (.bool _)

/-- format of the one text that a refused thing gives -/
noncomputable def fmtX : PySem.Str := ⟨#[72, 101, 97, 100, 101, 114, 32, 110, 97, 109, 101, 115, 47, 118, 97, 108, 117, 101, 115, 32, 109, 117, 115, 116, 32, 98, 101, 32, 111, 102, 32, 116, 121, 112, 101, 32, 115, 116, 114, 32, 40, 103, 111, 116, 32, 123, 48, 125, 41]⟩
noncomputable def fmtY : PySem.Str := ⟨#[72, 101, 97, 100, 101, 114, 32, 110, 97, 109, 101, 115, 47, 118, 97, 108, 117, 101, 115, 32, 109, 117, 115, 116, 32, 98, 101, 32, 111, 102, 32, 116, 121, 112, 101, 32, 115, 116, 114, 32, 40, 103, 111, 116, 32, 53, 41]⟩
section
open PySem.Builtin PySem.Builtin.Str
theorem field_0 {prog : Program} {w : World} {A : Around} {E : Value → Shared → Prop} {s : Shared} {id : String} {a : Array Value} {byName : PySem.Str → Sem Value} {v : Value} {Q : Value × Numbering → Shared → Prop} (ha : a[0]? = some v)
    (h : Q (v, .manual) s) : wpAny (model prog w) A (fieldObject id (some a) byName [48] .unset) Q E s := by
  unfold fieldObject
  refine wpAny_bind (wpAny_of_eq (a := some 0) rfl ?_)
  refine wpAny_bind (wpAny_of_eq (a := (some 0, .manual)) rfl ?_)
  simp only [ha, pure_bind]
  rw [KPc.range_list]
  exact wpAny_bind (wpAny_pure (wpAny_pure h))
theorem meets_fmt (t u : Tok) : Meets («str.format» ⟨[.str ⟨#[72, 101, 97, 100, 101, 114, 32, 110, 97, 109, 101, 115, 47, 118, 97, 108, 117, 101, 115, 32, 109, 117, 115, 116, 32, 98, 101, 32, 111, 102, 32, 116, 121, 112, 101, 32, 115, 116, 114, 32, 40, 103, 111, 116, 32, 123, 48, 125, 41]⟩ t, .str ⟨#[53]⟩ u], []⟩) (fun _ R s => ∀ t' k, R (.ok (.ret (.str ⟨#[72, 101, 97, 100, 101, 114, 32, 110, 97, 109, 101, 115, 47, 118, 97, 108, 117, 101, 115, 32, 109, 117, 115, 116, 32, 98, 101, 32, 111, 102, 32, 116, 121, 112, 101, 32, 115, 116, 114, 32, 40, 103, 111, 116, 32, 53, 41]⟩ t'))) { s with toks := k }) := by
  apply KPc.meets_of
  intro _ _ _ _ _ _ _
  unfold Builtin.«str.format»
  refine wpAny_bind (wpAny_of_eq (a := (_, _, _)) rfl ?_)
  refine wpAny_bind ?_
  refine wpAny_bind ?_
  rw [KPc.range_list]
  refine KFm.start ?_
  intro _ _
  refine KPc.turn ?_
  kpc_if
  kpc_check
  refine wpAny_bind (field_0 (by rfl) ?_)
  refine wpAny_bind (wpAny_holding (wpAny_of_eq (a := _) rfl ?_))
  kpc_if
  refine wpAny_bind (wpAny_pure ?_)
  kfm_val
  refine wpAny_bind (wpAny_of_eq (a := some _) rfl ?_)
  refine wpAny_pure ?_
  refine KFm.after_field (by kpc_g) (by kpc_text) (by kpc_obj) (by kfm_len) (by kpc_obj) (by kfm_cat2) (by kfm_rest) ?_
  intro _ _
  kfm_turns
end
noncomputable def fFmt : F2 := fun a b σ => match a, b with
  | .str x, .str y => if x = fmtX ∧ y = ⟨#[53]⟩ then some (.val (.str fmtY), σ) else none
  | _, _ => none
theorem Ca.format : Ca G hn n (.builtin "str.format") (one2 fFmt) := Ca.two (by
  intro c S s va vb da db out σ' q ra rb hm
  unfold fFmt at hm
  split at hm
  rotate_left
  · exact nnS hm
  split at hm
  rotate_left
  · exact nnS hm
  rename_i x y hxy
  (refine xA hxy fun q0z q1z => ?_; try clear hxy; subst q0z; subst q1z)
  refine Tr.cast hm ?_
  (refine xEA ra.i_str fun _ q0z _ => ?_; subst q0z)
  (refine xEA rb.i_str fun _ q0z _ => ?_; subst q0z)
  exact Tr.tok q.H q.heap fun Q E hq => KFm.call_k (X' := fmtX) (T := fmtY) rfl (KFm.args_2 _ _) (meets_fmt _ _) fun t' k => hq _ k (.str _ _ (by show (47 : Nat) ≤ 16777216; decide)))
end
end Mine
end
section
open PySem PySem.W PyProof.Rows PySem.Calls
set_option maxRecDepth 100000
namespace Mine

section
variable {G : Amb} {hn : Bool} {n : Nat} {Z : Scope}
theorem sw_of {P : Env → Prop} {Z : Scope} (h : ∀ env : Env, P { env with scope := Z }) : ∀ env : Env, env.scope = Z → P env := fun env e => by
  have := h env
  rw [← e] at this
  exact this
theorem Ev.dead {e : Expr} : Ev G hn n Z e (fun _ _ => none) := fun _ _ _ _ _ _ _ _ hm => by exact nnS hm
theorem Exs.dead {b : List Stmt} : Exs G hn n Z b (fun _ _ => none) := fun _ _ _ _ _ _ _ _ _ _ _ hm => by exact nnS hm
theorem Fn.mono {f : Addr} {mf spec : Fm} (h : Fn G hn n f mf) (k : ∀ ds kd σ r, spec ds kd σ = some r → mf ds kd σ = some r) : Fn G hn n f spec :=
  fun c S s vs ds kw kd out σ' q hv hk hm => h c S s vs ds kw kd out σ' q hv hk (k _ _ _ _ hm)
theorem Ho.le {n' : Nat} {c : Cx} {S : Gs} {s : Shared} (hle : n ≤ n') (q : Ho G hn n' c S s) : Ho G hn n c S s := ⟨by have := q.room; omega, by have := q.units; omega, q.hand, q.heap, q.H⟩
theorem Fn.up {n' : Nat} {f : Addr} {mf : Fm} (h : Fn G hn n f mf) (hle : n ≤ n') : Fn G hn n' f mf :=
  fun c S s vs ds kw kd out σ' q hv hk hm => h c S s vs ds kw kd out σ' (q.le hle) hv hk hm

noncomputable def fdAt (K : Frag) (a : Addr) : FuncData := match K.lookup a with
  | some ⟨_, _, .func fd, _⟩ => fd
  | _ => default
noncomputable def bodyAt (K : Frag) (a : Addr) : List Stmt := match (fdAt K a).body with
  | .stmts b => b
  | _ => []
noncomputable abbrev scopeAt (K : Frag) (a : Addr) : Scope := (fdAt K a).scope
noncomputable def fnOk (K : Frag) (a : Addr) : Bool := match K.lookup a with
  | some ⟨_, _, .func fd, _⟩ => decide (fd.globals = mainGlobals) && fd.closure.isEmpty && decide (fd.builtins = builtinsNs) && codeIn K fd.code fd.qualname && decide (fd.scope.kind = .function) && !fd.scope.isCoroutine && !fd.scope.isGenerator &&
    (fd.scope.names.all fun y => y.2 != .free) && (match fd.body with
      | .stmts _ => true
      | _ => false)
  | _ => false
theorem Fn.at {K : Frag} (hK : G.K = K) {a : Addr} {m : Mf SF} {bf : List D → List (PySem.Str × D) → Option (List (PySem.Str × D))} (hi : fnOk K a = true) (hbind : Bnd G (fdAt K a) bf)
    (hnames : ∀ ds kd bd, bf ds kd = some bd → (bd.all fun y => (scopeAt K a).names.lookup y.1 == some .local || (scopeAt K a).names.lookup y.1 == some .cell) = true) (hbody : Exs G hn n (scopeAt K a) (bodyAt K a) m) :
    Fn G hn (n + 1) a (fun ds kd σ => (bf ds kd).bind fun bd => Mf.fn m (frB bd fun _ => none) σ) := by
  unfold fnOk at hi
  split at hi
  · rename_i oc od fd osl hl
    have hfd : fdAt K a = fd := by unfold fdAt; rw [hl]
    simp only [Bool.and_eq_true, decide_eq_true_eq, Bool.not_eq_true'] at hi
    (refine xA hi fun q0z h9 => ?_; try clear hi; refine xA q0z fun q1z h8 => ?_; refine xA q1z fun q2z h7 => ?_; refine xA q2z fun q3z h6 => ?_; refine xA q3z fun q4z h5 => ?_; refine xA q4z fun q5z h4 => ?_; refine xA q5z fun q6z h3 => ?_; refine xA q6z fun h1 h2 => ?_)
    split at h9
    · rename_i body hb
      have hbd : bodyAt K a = body := by unfold bodyAt; rw [hfd, hb]
      rw [hbd] at hbody
      unfold scopeAt at hbody hnames
      rw [hfd] at hbind hnames hbody
      exact Fn.of_body (by rw [hK]; exact hl) hb h1 (List.isEmpty_iff.mp h2) h3 (by rw [hK]; exact h4) h5 h6 h7 h8 hbind hnames hbody
    · exact nFT h9
  · exact nFT hi
theorem Kep.at {K : Frag} (hK : G.K = K) {a : Addr} (hi : fnOk K a = true) : Kep G (.ref a) := by
  unfold fnOk at hi
  split at hi
  · rename_i oc od fd osl hl
    exact Kep.fn (by rw [hK]; exact hl)
  · exact nFT hi
section
variable {o : Expr} {name : PySem.Str} {apos pos : Pos} {mf : Fm} {es : List Expr} {ks : List Keyword} {mo : Mo D} {ms : List (Mo D)} {mk : List (PySem.Str × Mo D)}
theorem Ev.methS {id : String} (slot : Slot "str" name id) (hty : typeOf (.builtin id) = Pure.pure (.type "method_descriptor")) (ho : Ev G hn n Z o mo) (h : EvL G hn n Z es ms) (hk : EvK G hn n Z ks mk) (hc : Ca G hn n (.builtin id) mf)
    (hs : es.all notStar = true := by rfl) (hbase : ∀ env, attributeBase o name env (eval o env) = eval o env := by intro _; rfl)
    (hfew : ∀ env, methodCallForm (es.length + ks.length) (backTo pos (starEach es env)) (backToKw pos (keywordEach ks env)) = true := by intro _; rfl)
    (hline : (apos.endLine == pos.line) = true := by rfl) :
    Ev G hn n Z (.Call (.Attribute o name apos) es ks pos) (Mo.meth isStr mf mo ms mk) := by
  have g : Gm G name isStr (.builtin id) := Gm.str slot hty
  exact @Ev.meth G hn n Z o name apos pos isStr (.builtin id) mf es ks mo ms mk ho h hk g Kep.blt hc hs hbase hfew hline
theorem Ev.methL {id : String} (slot : Slot "list" name id) (hty : typeOf (.builtin id) = Pure.pure (.type "method_descriptor")) (ho : Ev G hn n Z o mo) (h : EvL G hn n Z es ms) (hk : EvK G hn n Z ks mk) (hc : Ca G hn n (.builtin id) mf)
    (hs : es.all notStar = true := by rfl) (hbase : ∀ env, attributeBase o name env (eval o env) = eval o env := by intro _; rfl)
    (hfew : ∀ env, methodCallForm (es.length + ks.length) (backTo pos (starEach es env)) (backToKw pos (keywordEach ks env)) = true := by intro _; rfl)
    (hline : (apos.endLine == pos.line) = true := by rfl) :
    Ev G hn n Z (.Call (.Attribute o name apos) es ks pos) (Mo.meth isRefL mf mo ms mk) := by
  have g : Gm G name isRefL (.builtin id) := Gm.lst slot hty
  exact @Ev.meth G hn n Z o name apos pos isRefL (.builtin id) mf es ks mo ms mk ho h hk g Kep.blt hc hs hbase hfew hline
theorem Ev.methI {C f : Addr} (hg : plainGet G.K C name = true) (hf : findIn G.K (.ref C) name = some (some (.ref f))) (ht : isFn G.K (.ref f) = true) (hkp : Kep G (.ref f)) (ho : Ev G hn n Z o mo) (h : EvL G hn n Z es ms) (hk : EvK G hn n Z ks mk) (hc : Ca G hn n (.ref f) mf)
    (hs : es.all notStar = true := by rfl) (hbase : ∀ env, attributeBase o name env (eval o env) = eval o env := by intro _; rfl)
    (hfew : ∀ env, methodCallForm (es.length + ks.length) (backTo pos (starEach es env)) (backToKw pos (keywordEach ks env)) = true := by intro _; rfl)
    (hline : (apos.endLine == pos.line) = true := by rfl) :
    Ev G hn n Z (.Call (.Attribute o name apos) es ks pos) (Mo.meth (isIns C name) mf mo ms mk) := by
  have g : Gm G name (isIns C name) (.ref f) := Gm.ins hg hf ht
  exact @Ev.meth G hn n Z o name apos pos (isIns C name) (.ref f) mf es ks mo ms mk ho h hk g hkp hc hs hbase hfew hline
end
end
end Mine
end
section
open PySem PySem.W PyProof.Rows PySem.Calls
set_option maxRecDepth 100000
namespace Mine
theorem ofs_inj (a b : String) : (PySem.Str.ofString a = PySem.Str.ofString b) = (a = b) := by
  apply propext
  constructor
  · intro h
    rw [PySem.Str.ofString_eq_toList, PySem.Str.ofString_eq_toList] at h
    have h1 : a.toList.map Char.toNat = b.toList.map Char.toNat := by
      have := congrArg PySem.Str.cps h
      simpa using this
    have inj : ∀ {l m : List Char}, l.map Char.toNat = m.map Char.toNat → l = m := by
      intro l
      induction l with
      | nil => intro m h; cases m with
        | nil => rfl
        | cons => exact nNC h
      | cons c l ih => intro m h; cases m with
        | nil => exact nCN h
        | cons d m =>
          simp only [List.map_cons, List.cons.injEq] at h
          rw [ih h.2, Char.ext (UInt32.toNat_inj.mp h.1)]
    exact String.toList_inj.mp (inj h1)
  · intro h; rw [h]

theorem upd_same (fr : Fr) (x : PySem.Str) (d : D) : upd fr x d x = some d := if_pos rfl
theorem upd_diff {a b : String} {fr : Fr} {d : D} (h : (a == b) = false) : upd fr (PySem.Str.ofString b) d (PySem.Str.ofString a) = fr (PySem.Str.ofString a) :=
  upd_ne (by rw [Ne, ofs_inj]; simpa using h)
theorem len1 {α : Type} : ∀ {l : List α}, l.length = 1 → ∃ a, l = [a]
  | [a], _ => ⟨a, rfl⟩
theorem len2 {α : Type} {l : List α} (h : l.length = 2) : ∃ a b, l = [a, b] := by
  cases l with
  | nil => cases h
  | cons a l =>
    (refine xE (len1 (Nat.succ.inj h)) fun b e => ?_)
    exact ⟨a, b, by rw [e]⟩
theorem len3 {α : Type} {l : List α} (h : l.length = 3) : ∃ a b c, l = [a, b, c] := by
  cases l with
  | nil => cases h
  | cons a l =>
    (refine xEE (len2 (Nat.succ.inj h)) fun b c e => ?_)
    exact ⟨a, b, c, by rw [e]⟩
theorem kw0 {l : List (PySem.Str × Value)} (h : l.map (·.1) = []) : l = [] := List.map_eq_nil_iff.mp h
theorem kw1 {x : PySem.Str} {l : List (PySem.Str × Value)} (h : l.map (·.1) = [x]) : ∃ v, l = [(x, v)] := by
  (refine xE (len1 (l := l) (by have := congrArg List.length h; simpa using this)) fun p e => ?_)
  subst e
  cases h
  exact ⟨p.2, rfl⟩
theorem lcEach_pure {β : Type} {P : List AO → Prop} {tgt : D → Fr → Fr} {ok : D → Bool} {test : Mo Bool} {em : Em β} (I : Fr → Prop) (t : D → Bool) (f : D → β) {σ : List AO} (hP : P σ) :
    ∀ {ds : List D}, (∀ d ∈ ds, ∀ fr, I fr → ok d = true ∧ I (tgt d fr) ∧ test (tgt d fr) σ = some (.val (t d), σ) ∧ (t d = true → ∃ fr2, I fr2 ∧ em (tgt d fr) σ = some ([f d], fr2, σ))) →
    ∀ fr, I fr → ∃ fr', lcEach P tgt ok test em ds fr σ = some ((ds.filter t).map f, fr', σ)
  | [], _, fr, _ => ⟨fr, by unfold lcEach; rw [if_pos hP]; rfl⟩
  | d :: ds, h, fr, hI => by
    (refine xAAA (h d (.head _) fr hI) fun h1 h2 h3 h4 => ?_)
    have h' : ∀ d ∈ ds, ∀ fr, I fr → ok d = true ∧ I (tgt d fr) ∧ test (tgt d fr) σ = some (.val (t d), σ) ∧ (t d = true → ∃ fr2, I fr2 ∧ em (tgt d fr) σ = some ([f d], fr2, σ)) := fun d hd => h d (.tail _ hd)
    unfold lcEach
    rw [if_pos hP, if_pos h1, h3]
    cases ht : t d with
    | true =>
      (refine xEA (h4 ht) fun fr2 hI2 he => ?_)
      (refine xE (lcEach_pure I t f hP h' fr2 hI2) fun fr' e => ?_)
      refine ⟨fr', ?_⟩
      dsimp only
      rw [he]
      dsimp only
      rw [e, List.filter_cons_of_pos ht]
      rfl
    | false =>
      (refine xE (lcEach_pure I t f hP h' _ h2) fun fr' e => ?_)
      refine ⟨fr', ?_⟩
      dsimp only
      rw [e, List.filter_cons_of_neg (by rw [ht]; decide)]
theorem lcRun_pure {β : Type} {scope : Scope} {m : Mo D} {tgt : D → Fr → Fr} {ok : D → Bool} {test : Mo Bool} {em : Em β} {fr : Fr} {σ σ1 : List AO} (I : Fr → Prop) (t : D → Bool) (f : D → β) {d : D} {x : Src} (hm : m fr σ = some (.val d, σ1)) (hx : srcD d σ1 = some x) (hP : x.P σ1)
    (h0 : I (frIn scope fr)) (h : ∀ d ∈ x.ds, ∀ fr, I fr → ok d = true ∧ I (tgt d fr) ∧ test (tgt d fr) σ1 = some (.val (t d), σ1) ∧ (t d = true → ∃ fr2, I fr2 ∧ em (tgt d fr) σ1 = some ([f d], fr2, σ1))) :
    lcRun scope m tgt ok test em fr σ = some ((x.ds.filter t).map f, σ1) := by
  (refine xE (lcEach_pure I t f hP h _ h0) fun fr' e => ?_)
  unfold lcRun
  rw [hm]
  dsimp only
  rw [hx]
  dsimp only [Option.bind]
  rw [e]
  rfl

theorem bind_some {α β : Type} {m : Mf α} {f : α → Mf β} {fr fr' : Fr} {σ σ' : List AO} {a : α} (h : m fr σ = some (.val a, fr', σ')) : Mf.bind m f fr σ = f a fr' σ' := by unfold Mf.bind; rw [h]
theorem bind_exc {α β : Type} {m : Mf α} {f : α → Mf β} {fr fr' : Fr} {σ σ' : List AO} {X : String} {msg : PySem.Str} (h : m fr σ = some (.exc X msg, fr', σ')) : Mf.bind m f fr σ = some (.exc X msg, fr', σ') := by unfold Mf.bind; rw [h]
/-- one turn -/
noncomputable def turn (tgt : D → Mf Unit) (body : Mf SF) (d : D) : Mf SF := Mf.bind (tgt d) fun _ => body
theorem each_cons {P : List AO → Prop} {tgt : D → Mf Unit} {body : Mf SF} {d : D} {ds : List D} {fr fr' : Fr} {σ σ' : List AO} (hP : P σ) {r : Out SF} (h : turn tgt body d fr σ = some (r, fr', σ')) :
    Mf.each P tgt body (d :: ds) fr σ = match (generalizing := false) r with
      | .val .next => Mf.each P tgt body ds fr' σ'
      | .val .cont => Mf.each P tgt body ds fr' σ'
      | .val .brk => some (.val .next, fr', σ')
      | .val (.ret v) => some (.val (.ret v), fr', σ')
      | .exc X msg => some (.exc X msg, fr', σ') := by
  have e0 : Mf.each P tgt body (d :: ds) fr σ = Mf.bind (tgt d) (fun _ => Mf.bind body fun r => match r with
      | .next => Mf.each P tgt body ds
      | .cont => Mf.each P tgt body ds
      | .brk => Mf.pure .next
      | .ret d => Mf.pure (.ret d)) fr σ := by
    conv => lhs; unfold Mf.each
    exact if_pos hP
  rw [e0]
  clear e0
  unfold turn at h
  cases ht : tgt d fr σ with
  | none => unfold Mf.bind at h; rw [ht] at h; exact nnS h
  | some p =>
    obtain ⟨o, fr1, σ1⟩ := p
    cases o with
    | exc X msg =>
      rw [bind_exc ht] at h ⊢
      (have k1 := s3A h; have k2 := s3B h; have k3 := s3C h; clear h; subst k1 k2 k3)
      rfl
    | val u =>
      rw [bind_some ht] at h ⊢
      cases r with
      | exc X msg => rw [bind_exc h]
      | val s =>
        rw [bind_some h]
        cases s <;> rfl
theorem each_nil {P : List AO → Prop} {tgt : D → Mf Unit} {body : Mf SF} {fr : Fr} {σ : List AO} (hP : P σ) : Mf.each P tgt body [] fr σ = some (.val .next, fr, σ) := by
  unfold Mf.each
  rw [if_pos hP]
/-- a loop whose turns all go on -/
theorem each_run {P : List AO → Prop} {tgt : D → Mf Unit} {body : Mf SF} (J : Nat → Fr → List AO → Prop) {ds : List D} (hP : ∀ i fr σ, J i fr σ → P σ)
    (step : ∀ i d fr σ, ds[i]? = some d → J i fr σ → ∃ fr' σ', turn tgt body d fr σ = some (.val .next, fr', σ') ∧ J (i + 1) fr' σ') {fr : Fr} {σ : List AO} (h0 : J 0 fr σ) :
    ∃ fr' σ', Mf.each P tgt body ds fr σ = some (.val .next, fr', σ') ∧ J ds.length fr' σ' := by
  have key : ∀ (es : List D) (i : Nat) fr σ, (∀ k, es[k]? = ds[i + k]?) → J i fr σ → ∃ fr' σ', Mf.each P tgt body es fr σ = some (.val .next, fr', σ') ∧ J (i + es.length) fr' σ' := by
    intro es
    induction es with
    | nil => intro i fr σ _ hJ; exact ⟨fr, σ, each_nil (hP _ _ _ hJ), hJ⟩
    | cons d es ih =>
      intro i fr σ he hJ
      (refine xEEA (step i d fr σ (by have := he 0; simpa using this.symm) hJ) fun fr1 σ1 e1 h1 => ?_)
      (refine xEEA (ih (i + 1) fr1 σ1 (fun k => by have := he (k + 1); rw [show i + 1 + k = i + (k + 1) by omega]; simpa using this) h1) fun fr2 σ2 e2 h2 => ?_)
      refine ⟨fr2, σ2, ?_, by rw [List.length_cons, show i + (es.length + 1) = i + 1 + es.length by omega]; exact h2⟩
      rw [each_cons (hP _ _ _ hJ) e1]
      exact e2
  (refine xEEA (key ds 0 fr σ (fun k => by rw [Nat.zero_add]) h0) fun fr' σ' e hJ => ?_)
  exact ⟨fr', σ', e, by rw [Nat.zero_add] at hJ; exact hJ⟩
/-- a loop that leaves the store and ends at the first exception -/
noncomputable def outN : Option (String × PySem.Str) → Out SF
  | none => .val .next
  | some e => .exc e.1 e.2
theorem each_find {P : List AO → Prop} {tgt : D → Mf Unit} {body : Mf SF} (I : Fr → Prop) {σ : List AO} (hP : P σ) (c : D → Option (String × PySem.Str)) :
    ∀ {ds : List D}, (∀ d ∈ ds, ∀ fr, I fr → ∃ fr', I fr' ∧ turn tgt body d fr σ = some (outN (c d), fr', σ)) → ∀ fr, I fr → ∃ fr', I fr' ∧ Mf.each P tgt body ds fr σ = some (outN (ds.findSome? c), fr', σ)
  | [], _, fr, hI => ⟨fr, hI, each_nil hP⟩
  | d :: ds, h, fr, hI => by
    (refine xEA (h d (.head _) fr hI) fun fr1 h1 e1 => ?_)
    cases hc : c d with
    | some e =>
      refine ⟨fr1, h1, ?_⟩
      rw [hc] at e1
      rw [each_cons hP e1, List.findSome?_cons, hc]
      rfl
    | none =>
      (refine xEA (each_find I hP c (fun d hd => h d (.tail _ hd)) fr1 h1) fun fr2 h2 e2 => ?_)
      refine ⟨fr2, h2, ?_⟩
      rw [hc] at e1
      rw [each_cons hP e1, List.findSome?_cons, hc]
      exact e2
theorem get_last {σ : List AO} {a : AO} : (σ ++ [a])[σ.length]? = some a := by simp
theorem set_last {σ : List AO} {a b : AO} : (σ ++ [a]).set σ.length b = σ ++ [b] := by simp
theorem get_old {σ τ : List AO} {k : Nat} {a : AO} (h : σ[k]? = some a) : (σ ++ τ)[k]? = some a := by
  rw [List.getElem?_append_left (List.getElem?_eq_some_iff.mp h).1]; exact h
end Mine
end
section
open PySem PySem.W PyProof.Rows PySem.Calls
set_option maxRecDepth 100000
namespace Mine
theorem Fn.top {G : Amb} {n : Nat} {f : Addr} {oc : Value} {od : Option Addr} {osl : Array (Option Value)} {fd : FuncData} {body : List Stmt} {m : Mf SF} {x : PySem.Str} (hok : G.Ok)
    (hK : G.K.lookup f = some ⟨oc, od, .func fd, osl⟩) (hb : fd.body = .stmts body) (hg : fd.globals = mainGlobals) (hcl : fd.closure = []) (hbl : fd.builtins = builtinsNs)
    (hcd : codeIn G.K fd.code fd.qualname = true) (hkind : fd.scope.kind = .function) (hco : fd.scope.isCoroutine = false) (hgen : fd.scope.isGenerator = false)
    (hfree : (fd.scope.names.all fun y => y.2 != .free) = true)
    (hpk : ∀ S v, peek G.K S (bindArgs fd ⟨[v], []⟩) = some [(x, v)]) (hnm : (fd.scope.names.lookup x == some .local || fd.scope.names.lookup x == some .cell) = true)
    (hbody : Exs G true n fd.scope body m) {A : Around} (hA : A.frames = some []) (hand : A.handled = none) (room : A.depth + 1 + 3 * n < recursionLimit) (units : A.units + 3 + 30 * n < cLine)
    {v : Value} {d d' : D} {σ' : List AO} (rv : ∀ V h', (∀ a ∈ V, G.base.get? a = none) → (∀ b o, G.base.get? b = some o → h'.get? b = some o) → VR G.w.params [] V h' v d)
    (hm : Mf.fn m (upd (fun _ => none) x d) [] = some (.val d', σ')) {s : Shared} (hs : s.heap = G.base) {Q : Result → Shared → Prop}
    (hq : ∀ a c (S' : Gs) tk, Heaps G c S' → Rv G c S' a d' → Q (.ok (.ret a)) (ShT s S'.h tk)) : codeAny G.M A (.call (.ref f) ⟨[v], []⟩) Q s := by
  have hkin : G.K.In s.heap := by rw [hs]; exact hok.inK
  have hobj := hkin _ _ hK
  have hcr := codeRec_of hkin hcd
  refine codeAny_call_function (fd := fd) (body := body) (by omega) hobj rfl hco hgen hb hcr ?_
  refine (Looks.of_peek (M := G.M) (h := s.heap) hkin (hpk _ v)).here ?_
  rw [hg, hcl, hbl]
  have hkinds : ∀ y ∈ [(x, v)], fd.scope.names.lookup y.1 = some .local ∨ (fd.scope.names.lookup y.1 = some .cell ∧ ((cellsFrom (s.heap.objs.size + 1) fd.scope.names []).lookup y.1).isSome = true) :=
    kindsX (by rw [List.all_cons, List.all_nil, Bool.and_true]; exact hnm) _
  refine wpAny_newFunctionEnv_cells hkind hkinds fun env he s₁ x1 => ?_
  have x0 := x1.toInCall
  (refine xEE x0.same fun h₁ tk₁ es => ?_)
  subst es
  have keepb : ∀ b o, G.base.get? b = some o → h₁.get? b = some o := fun b o e => x0.keep b o (by rw [hs]; exact e)
  have hlim : h₁.NoLimit := hok.nolimit.keeps keepb
  refine ⟨hlim, codeAny_func ?_⟩
  have hscope : env.scope = fd.scope := by rw [he]; rfl
  have hloc : env.locals = s.heap.objs.size := by rw [he]; rfl
  have hcells : env.cells = cellsFrom (s.heap.objs.size + 1) fd.scope.names [] := by rw [he]; rfl
  have hframe : env.frame = some env.locals := by rw [he]; rfl
  have hL : G.base.get? env.locals = none := by rw [hloc, hs]; exact Heap.get?_none_of_le (Nat.le_refl _)
  let ks := env.cells.filterMap (fun p => env.cells.lookup p.1)
  have hks : ∀ a ∈ ks, G.base.get? a = none ∧ ∃ o, h₁.get? a = some o := fun a ha => by
    (refine xEA (List.mem_filterMap.mp ha) fun q0z _ hy => ?_; obtain ⟨y, a'⟩ := q0z)
    have hab := x1.above y a (mem_of_lookup hy)
    (refine xEA (x1.cell y a hy) fun o ho _ => ?_)
    refine ⟨?_, o, ho⟩
    rw [← hs]
    exact Heap.get?_none_of_le (by rw [hloc] at hab; exact Nat.le_of_lt hab)
  (refine xEEEAA x0.ns fun oL esL epL hoL hdL hrest => ?_)
  let c : Cx := { A := A.deeper env, fenv := env, outer := [], X := ks }
  have hfs : c.fs = [env.locals] := by
    show (env :: []).filterMap (·.frame) = _
    rw [List.filterMap_cons, hframe]; rfl
  have HH : Heaps G c ⟨[], [], h₁⟩ := by
    refine ⟨hok, keepb, ?_, ?_, fun L hm => ?_, fun L hm => ?_, rfl, fun n p o e => (by simp at e), fun a ha => (by cases ha), List.nodup_nil⟩
    · show (A.deeper env).frames = some (env :: [])
      exact Around.frames_deeper hA
    · exact ⟨by rw [hscope, hkind]; decide, ⟨env.locals, oL, hframe, hL, hoL, fun vs q => by rw [hdL] at q; exact nAny PySem.Data.ctorIdx q rfl⟩, trivial⟩
    · rw [hfs] at hm
      rw [List.mem_singleton.mp hm]
      exact ⟨⟨oL, esL, epL, hoL, hdL⟩, fun q => (by cases q)⟩
    · exact ⟨(hks L hm).2, fun q => (by cases q), (hks L hm).1⟩
  have hV : ∀ a ∈ vol c ⟨[], [], h₁⟩, G.base.get? a = none := fun a ha => HH.vol_new ha
  have rB1 : Rbs G c ⟨[], [], h₁⟩ [(x, v)] [(x, d)] := ⟨rfl, rv _ _ hV keepb, trivial⟩
  have kof : ∀ y, env.kindOf y = fd.scope.names.lookup y := fun y => kindOf_scope hscope
  have HV := hasV_bind (kindOf := env.kindOf) rB1 (m := fun _ => none) (cm := fun _ => none) (fr := fun _ => none) (fun y d e => by exact nnS e)
  have VV : EnvOk G c env (upd (fun _ => none) x d) ⟨[], [], h₁⟩ := by
    refine ⟨by rw [hscope]; exact hkind, by rw [he]; rfl, by rw [he]; rfl, rfl, ?_, ⟨_, ⟨oL, esL, epL, hoL, hdL, hrest⟩, fun y d hy hk => ?_⟩, fun y hy => ?_, fun y k hy => ?_, fun y z k hy hz => ?_⟩
    · refine List.mem_append_left _ ?_
      rw [hfs]; exact .head _
    · exact (HV y d hy).1 hk
    · have hyc : env.kindOf y = some .cell := by
        rcases hy with h | h
        · exact h
        · exfalso
          rw [kof] at h
          have := List.all_eq_true.mp hfree (y, .free) (mem_of_lookup h)
          simp at this
      have hsm : (env.cells.lookup y).isSome = true := by rw [hcells]; exact cellsFrom_some _ _ _ (.inl (by rw [← kof]; exact hyc))
      (refine xE (Option.isSome_iff_exists.mp hsm) fun k hk => ?_)
      exact ⟨k, _, hk, x1.cell y k hk, fun d hd => (HV y d hd).2 hyc⟩
    · exact List.mem_filterMap.mpr ⟨(y, k), mem_of_lookup hy, hy⟩
    · exact name_of_addr x1.apart (mem_of_lookup hy) (mem_of_lookup hz)
  have RR : Run G true n fd.scope c env (upd (fun _ => none) x d) ⟨[], [], h₁⟩ (ShT s h₁ tk₁) :=
    ⟨hscope, by show A.depth + 1 + 3 * n < recursionLimit; exact room, by show A.units + 3 + 30 * n < cLine; exact units, fun _ => hand, rfl, HH, VV⟩
  cases hmm : m (upd (fun _ => none) x d) [] with
  | none => unfold Mf.fn at hm; rw [hmm] at hm; exact nnS hm
  | some p =>
    obtain ⟨o, fr', σ1⟩ := p
    have hb1 := hbody _ env _ ⟨[], [], h₁⟩ _ o fr' σ1 RR rfl hframe hmm
    unfold Mf.fn at hm
    rw [hmm] at hm
    refine hb1 _ _ (fun f ho a S' tk' e' H' x' V' r' => ?_) fun X msg ho S' e h' tk' e' H' x' V' th => ?_
    · subst ho
      cases f with
      | next =>
        cases hm
        cases a with
        | next => exact hq .none c S' tk' H' .none
        | _ => exact r'.elim
      | ret d =>
        cases hm
        cases a with
        | ret v => exact hq v c S' tk' H' r'
        | _ => exact r'.elim
      | brk => exact nnS hm
      | cont => exact nnS hm
    · subst ho
      cases hm
end Mine
end
section
open PySem PySem.W PyProof.Rows PySem.Calls
set_option maxRecDepth 100000
namespace Mine
theorem Fn.topAt {G : Amb} {K : Frag} (hKK : G.K = K) {n : Nat} {a : Addr} {m : Mf SF} {x : PySem.Str} (hok : G.Ok) (hi : fnOk K a = true)
    (hpk : ∀ S v, peek K S (bindArgs (fdAt K a) ⟨[v], []⟩) = some [(x, v)]) (hnm : ((scopeAt K a).names.lookup x == some .local || (scopeAt K a).names.lookup x == some .cell) = true)
    (hbody : Exs G true n (scopeAt K a) (bodyAt K a) m) {A : Around} (hA : A.frames = some []) (hand : A.handled = none) (room : A.depth + 1 + 3 * n < recursionLimit) (units : A.units + 3 + 30 * n < cLine)
    {v : Value} {d d' : D} {σ' : List AO} (rv : ∀ V h', (∀ a ∈ V, G.base.get? a = none) → (∀ b o, G.base.get? b = some o → h'.get? b = some o) → VR G.w.params [] V h' v d)
    (hm : Mf.fn m (upd (fun _ => none) x d) [] = some (.val d', σ')) {s : Shared} (hs : s.heap = G.base) {Q : Result → Shared → Prop}
    (hq : ∀ a c (S' : Gs) tk, Heaps G c S' → Rv G c S' a d' → Q (.ok (.ret a)) (ShT s S'.h tk)) : codeAny G.M A (.call (.ref a) ⟨[v], []⟩) Q s := by
  unfold fnOk at hi
  split at hi
  · rename_i oc od fd osl hl
    have hfd : fdAt K a = fd := by unfold fdAt; rw [hl]
    simp only [Bool.and_eq_true, decide_eq_true_eq, Bool.not_eq_true'] at hi
    (refine xA hi fun q0z h9 => ?_; try clear hi; refine xA q0z fun q1z h8 => ?_; refine xA q1z fun q2z h7 => ?_; refine xA q2z fun q3z h6 => ?_; refine xA q3z fun q4z h5 => ?_; refine xA q4z fun q5z h4 => ?_; refine xA q5z fun q6z h3 => ?_; refine xA q6z fun h1 h2 => ?_)
    split at h9
    · rename_i body hb
      have hbd : bodyAt K a = body := by unfold bodyAt; rw [hfd, hb]
      rw [hbd] at hbody
      unfold scopeAt at hbody hnm
      rw [hfd] at hpk hnm hbody
      exact Fn.top hok (by rw [hKK]; exact hl) hb h1 (List.isEmpty_iff.mp h2) h3 (by rw [hKK]; exact h4) h5 h6 h7 h8 (by rw [hKK]; exact hpk) hnm hbody hA hand room units rv hm hs hq
    · exact nFT h9
  · exact nFT hi
theorem list_rv {P : Params} {base : Heap} {l : Addr} {vs : List Value} {ns : List Int} (hL : base.IsList l vs.toArray) (hI : IntsAre vs ns) (hlen : ns.length ≤ 63) : ∀ V h', (∀ a ∈ V, base.get? a = none) → (∀ b o, base.get? b = some o → h'.get? b = some o) → VR P [] V h' (.ref l) (.lst (ns.map .int)) := by
  intro V h' hV hk
  (refine xEAAE hL fun o ho hc n hd => ?_; try clear hL)
  have e : ∀ {vs : List Value} {ns : List Int}, IntsAre vs ns → VRs P [] V h' vs (ns.map .int) ∧ vs.length = ns.length := by
    intro vs ns hI
    induction hI with
    | nil => exact ⟨.nil, rfl⟩
    | cons n t _ ih => exact ⟨.cons (.int n t) ih.1, by rw [List.length_cons, List.length_cons, ih.2]⟩
  (refine xA (e hI) fun h1 h2 => ?_)
  refine .lst (hk _ _ ho) hc hd ?_ (fun hm => ?_) (by simpa using h1)
  · have e : sizeLine = 16777216 := rfl
    simp only [List.size_toArray]
    omega
  · rw [hV l hm] at ho; exact nnS ho
end Mine
end
section
open PySem PySem.W PyProof.Rows
namespace Mine
section
variable {α β : Type} {fr fr1 : Fr} {σ σ1 σ2 : List AO}
theorem ev_fn {m : Mf SF} {o : Out SF} {r : Option (Out D × List AO)} (h : m fr σ = some (o, fr1, σ1)) (h2 : Mf.fn (fun _ _ => some (o, fr1, σ1)) fr σ = r) : Mf.fn m fr σ = r := by
  rw [← h2]; unfold Mf.fn; rw [h]
theorem ev_bind {m : Mf α} {f : α → Mf β} {a : α} {r : Option (Out β × Fr × List AO)} (h : m fr σ = some (.val a, fr1, σ1)) (h2 : f a fr1 σ1 = r) : Mf.bind m f fr σ = r := by
  rw [← h2]; unfold Mf.bind; rw [h]
theorem ev_seq {m k : Mf SF} {f : SF} {r : Option (Out SF × Fr × List AO)} (h : m fr σ = some (.val f, fr1, σ1)) (h2 : (match f with | .next => k | .brk => Mf.pure .brk | .cont => Mf.pure .cont | .ret d => Mf.pure (.ret d)) fr1 σ1 = r) : Mf.seq m k fr σ = r := by
  cases f <;> exact ev_bind h h2
theorem ev_lift {m : Mo α} {o : Out α} (h : m fr σ = some (o, σ1)) : Mf.lift m fr σ = some (o, fr, σ1) := by
  unfold Mf.lift; rw [h]; rfl
theorem ev_pure {b : α} : Mf.pure b fr σ = some (.val b, fr, σ) := rfl
theorem ev_set {x : PySem.Str} {d : D} : Mf.set x d fr σ = some (.val (), upd fr x d, σ) := rfl
theorem ev_mpure {b : α} : Mo.pure b fr σ = some (.val b, σ) := rfl
theorem ev_mbind {m : Mo α} {f : α → Mo β} {a : α} {r : Option (Out β × List AO)} (h : m fr σ = some (.val a, σ1)) (h2 : f a fr σ1 = r) : Mo.bind m f fr σ = r := by
  rw [← h2]; unfold Mo.bind; rw [h]
theorem ev_opt {o : Option α} {b : α} (h : o = some b) : Mo.opt o fr σ = some (.val b, σ) := by rw [h]; rfl
theorem ev_var {x : PySem.Str} {d : D} (h : fr x = some d) : Mo.var x fr σ = some (.val d, σ) := by unfold Mo.var; rw [h]; rfl
theorem ev_op1 {f : F1} {m : Mo D} {a : D} {r : Option (Out D × List AO)} (h : m fr σ = some (.val a, σ1)) (h2 : f a σ1 = r) : Mo.op1 f m fr σ = r := ev_mbind h h2
theorem ev_op2 {f : F2} {m k : Mo D} {a b : D} {r : Option (Out D × List AO)} (h : m fr σ = some (.val a, σ1)) (h2 : k fr σ1 = some (.val b, σ2)) (h3 : f a b σ2 = r) : Mo.op2 f m k fr σ = r := ev_mbind h (ev_mbind h2 h3)
theorem ev_tru {m : Mo D} {a : D} {b : Bool} (h : m fr σ = some (.val a, σ1)) (h2 : truD a = some b) : Mo.tru m fr σ = some (.val b, σ1) := ev_mbind h (ev_opt h2)
theorem ev_ite {m : Mo Bool} {a b : Mo α} {t : Bool} {r : Option (Out α × List AO)} (h : m fr σ = some (.val t, σ1)) (h2 : (if t then a else b) fr σ1 = r) : Mo.ite m a b fr σ = r := ev_mbind h h2
theorem ev_ifT {a b : Fr → List AO → α} {r : α} (h : a fr σ = r) : (if true then a else b) fr σ = r := by rw [← h]; rfl
theorem ev_ifF {a b : Fr → List AO → α} {r : α} (h : b fr σ = r) : (if false then a else b) fr σ = r := by rw [← h]; rfl
theorem ev_snil : Mo.seq [] fr σ = some (.val [], σ) := rfl
theorem ev_scons {m : Mo D} {ms : List (Mo D)} {d : D} {ds : List D} (h : m fr σ = some (.val d, σ1)) (h2 : Mo.seq ms fr σ1 = some (.val ds, σ2)) : Mo.seq (m :: ms) fr σ = some (.val (d :: ds), σ2) := ev_mbind h (ev_mbind h2 rfl)
theorem ev_knil : Mo.seqK [] fr σ = some (.val [], σ) := rfl
theorem ev_kcons {x : PySem.Str} {m : Mo D} {ms : List (PySem.Str × Mo D)} {d : D} {ds : List (PySem.Str × D)} (h : m fr σ = some (.val d, σ1)) (h2 : Mo.seqK ms fr σ1 = some (.val ds, σ2)) : Mo.seqK ((x, m) :: ms) fr σ = some (.val ((x, d) :: ds), σ2) := ev_mbind h (ev_mbind h2 rfl)
theorem ev_calF {mf : Fm} {ms : List (Mo D)} {mk : List (PySem.Str × Mo D)} {ds : List D} {kd : List (PySem.Str × D)} {r : Option (Out D × List AO)} (h : Mo.seq ms fr σ = some (.val ds, σ1)) (h2 : Mo.seqK mk fr σ1 = some (.val kd, σ2)) (h3 : mf ds kd σ2 = r) : Mo.calF mf ms mk fr σ = r :=
  ev_mbind (a := (ds, kd)) (ev_mbind h (ev_mbind h2 rfl)) h3
theorem ev_one1 {f : F1} {d : D} {r : Option (Out D × List AO)} (h : f d σ = r) : one1 f [d] [] σ = r := h
theorem ev_one2 {f : F2} {a b : D} {r : Option (Out D × List AO)} (h : f a b σ = r) : one2 f [a, b] [] σ = r := h
theorem ev_meth {P : D → List AO → Bool} {mf : Fm} {mo : Mo D} {ms : List (Mo D)} {mk : List (PySem.Str × Mo D)} {d : D} {ds : List D} {kd : List (PySem.Str × D)} {σ3 : List AO} {r : Option (Out D × List AO)} (h : mo fr σ = some (.val d, σ1)) (hP : P d σ1 = true) (h1 : Mo.seq ms fr σ1 = some (.val ds, σ2)) (h2 : Mo.seqK mk fr σ2 = some (.val kd, σ3)) (h3 : mf (d :: ds) kd σ3 = r) : Mo.meth P mf mo ms mk fr σ = r :=
  ev_mbind h (ev_mbind (a := ()) (σ1 := σ1) (by unfold Mo.chk; rw [if_pos hP]) (ev_mbind (a := (ds, kd)) (ev_mbind h1 (ev_mbind h2 rfl)) h3))
theorem ev_lst {ms : List (Mo D)} {ds : List D} (h : Mo.seq ms fr σ = some (.val ds, σ1)) (h2 : ds.length ≤ sizeLine) : Mo.lst ms fr σ = some (.val (.lst ds), σ1) :=
  ev_mbind h (ev_opt (if_pos (decide_eq_true h2)))
theorem ev_tup {ms : List (Mo D)} {ds : List D} (h : Mo.seq ms fr σ = some (.val ds, σ1)) (h2 : ds.length ≤ sizeLine) : Mo.tup ms fr σ = some (.val (.tup ds), σ1) :=
  ev_mbind h (ev_opt (if_pos (decide_eq_true h2)))
theorem ev_lstR {ms : List (Mo D)} {ds : List D} (h : Mo.seq ms fr σ = some (.val ds, σ1)) (h2 : ds.length ≤ sizeLine) : Mo.lstR ms fr σ = some (.val (.ref σ1.length), σ1 ++ [.lst ds]) :=
  ev_mbind h (ev_mbind (a := ()) (ev_opt (if_pos (decide_eq_true h2))) rfl)
theorem ev_anil : Mo.ands [] fr σ = some (.val true, σ) := rfl
theorem ev_onil : Mo.ors [] fr σ = some (.val false, σ) := rfl
theorem ev_acons {m : Mo Bool} {ms : List (Mo Bool)} {b : Bool} {r : Option (Out Bool × List AO)} (h : m fr σ = some (.val b, σ1)) (h2 : (if b then Mo.ands ms else Mo.pure false) fr σ1 = r) : Mo.ands (m :: ms) fr σ = r := ev_mbind h h2
theorem ev_ocons {m : Mo Bool} {ms : List (Mo Bool)} {b : Bool} {r : Option (Out Bool × List AO)} (h : m fr σ = some (.val b, σ1)) (h2 : (if b then Mo.pure true else Mo.ors ms) fr σ1 = r) : Mo.ors (m :: ms) fr σ = r := ev_mbind h h2
theorem ev_attr {C : Addr} {name : PySem.Str} {m : Mo D} {k j : Nat} {as : List (PySem.Str × D)} (h : m fr σ = some (.val (.ref k), σ1)) (h2 : σ1[k]? = some (.ins C as)) (h3 : as.lookup name = some (.ref j)) : Mo.attr C name m fr σ = some (.val (.ref j), σ1) := by
  refine ev_mbind h ?_
  dsimp only
  rw [h2]; dsimp only
  rw [if_pos rfl, h3]
theorem ev_there {a b : String} {d : D} {r : Option D} (h : (a == b) = false) (h2 : fr (PySem.Str.ofString a) = r) : upd fr (PySem.Str.ofString b) d (PySem.Str.ofString a) = r := (upd_diff h).trans h2
theorem ev_part0 : Mo.part none fr σ = some (.val none, σ) := rfl
theorem ev_part1 {m : Mo D} {i : Int} (h : m fr σ = some (.val (.int i), σ1)) : Mo.part (some m) fr σ = some (.val (some i), σ1) := by
  unfold Mo.part; exact ev_mbind h rfl
theorem ev_omap {o : Option D} {d : D} (h : o = some d) : (o.map fun d => (Out.val d, σ)) = some (.val d, σ) := by rw [h]; rfl
theorem ev_obool {o : Option Bool} {b : Bool} (h : o = some b) : o.map D.bool = some (.bool b) := by rw [h]; rfl
theorem ev_onot {o : Option Bool} {b : Bool} (h : o = some b) : (o.map fun t => D.bool (!t)) = some (.bool !b) := by rw [h]; rfl
theorem ev_when {p : Prop} [Decidable p] {x r : Option α} (h : p) (h2 : x = r) : (if p then x else none) = r := (if_pos h).trans h2
theorem ev_src {m : Mo D} {d : D} {x : Src} (h : m fr σ = some (.val d, σ1)) (h2 : srcD d σ1 = some x) : Mo.src m fr σ = some (.val x, σ1) := by
  refine ev_mbind h ?_
  rw [h2]; rfl
theorem ev_swap2 {x y : PySem.Str} {a b : D} : Mf.swap2 x y (.tup [a, b]) fr σ = some (.val (), upd (upd fr y b) x a, σ) := rfl
theorem ev_tupA {fs : List (D → Mf Unit)} {ds : List D} {r : Option (Out Unit × Fr × List AO)} (h : ds.length = fs.length) (h2 : Mf.goA fs ds fr σ = r) : Mf.tupA fs (.tup ds) fr σ = r := by
  rw [← h2]; unfold Mf.tupA; dsimp only; rw [if_pos h]
theorem ev_goA {f : D → Mf Unit} {fs : List (D → Mf Unit)} {d : D} {ds : List D} {r : Option (Out Unit × Fr × List AO)} (h : f d fr σ = some (.val (), fr1, σ1)) (h2 : Mf.goA fs ds fr1 σ1 = r) : Mf.goA (f :: fs) (d :: ds) fr σ = r := ev_bind h h2
theorem ev_goA0 : Mf.goA [] [] fr σ = some (.val (), fr, σ) := rfl
theorem ev_emOne {m : Mo D} {d : D} (h : m fr σ = some (.val d, σ1)) : emOne m fr σ = some ([d], fr, σ1) := by
  unfold emOne; rw [h]
theorem ev_truB {b : Bool} : truD (.bool b) = some b := rfl
theorem ev_fnR {d : D} : Mf.fn (fun _ _ => some (.val (.ret d), fr1, σ1)) fr σ = some (.val d, σ1) := rfl
theorem ev_fnN : Mf.fn (fun _ _ => some (.val .next, fr1, σ1)) fr σ = some (.val .none, σ1) := rfl
theorem ev_l0 : ([] : List D).length ≤ sizeLine := show 0 ≤ sizeLine by decide
theorem ev_l1 {a : D} : [a].length ≤ sizeLine := show 1 ≤ sizeLine by decide
theorem ev_l2 {a b : D} : [a, b].length ≤ sizeLine := show 2 ≤ sizeLine by decide
theorem ev_l3 {a b c : D} : [a, b, c].length ≤ sizeLine := show 3 ≤ sizeLine by decide
theorem ev_l4 {a b c d : D} : [a, b, c, d].length ≤ sizeLine := show 4 ≤ sizeLine by decide
theorem ev_l5 {a b c d e : D} : [a, b, c, d, e].length ≤ sizeLine := show 5 ≤ sizeLine by decide
theorem ev_l6 {a b c d e f : D} : [a, b, c, d, e, f].length ≤ sizeLine := show 6 ≤ sizeLine by decide
theorem ev_l7 {a b c d e f g : D} : [a, b, c, d, e, f, g].length ≤ sizeLine := show 7 ≤ sizeLine by decide
theorem ev_l8 {a b c d e f g h : D} : [a, b, c, d, e, f, g, h].length ≤ sizeLine := show 8 ≤ sizeLine by decide
end
noncomputable def dRef : D → Option (Nat)
  | .ref x => some x
  | _ => none
theorem dRef_eq {d : D} {a : Nat} (h : dRef d = some a) : d = .ref a := by cases d <;> first | (cases h; done) | ((have k1 := s1E h; clear h; subst k1); rfl)
noncomputable def dStr : D → Option (PySem.Str)
  | .str x => some x
  | _ => none
theorem dStr_eq {d : D} {a : PySem.Str} (h : dStr d = some a) : d = .str a := by cases d <;> first | (cases h; done) | ((have k1 := s1E h; clear h; subst k1); rfl)
noncomputable def dInt : D → Option (Int)
  | .int x => some x
  | _ => none
theorem dInt_eq {d : D} {a : Int} (h : dInt d = some a) : d = .int a := by cases d <;> first | (cases h; done) | ((have k1 := s1E h; clear h; subst k1); rfl)
noncomputable def dLst : D → Option (List D)
  | .lst x => some x
  | _ => none
theorem dLst_eq {d : D} {a : List D} (h : dLst d = some a) : d = .lst a := by cases d <;> first | (cases h; done) | ((have k1 := s1E h; clear h; subst k1); rfl)
noncomputable def dDct : D → Option (List (PySem.Str × D))
  | .dct x => some x
  | _ => none
theorem dDct_eq {d : D} {a : List (PySem.Str × D)} (h : dDct d = some a) : d = .dct a := by cases d <;> first | (cases h; done) | ((have k1 := s1E h; clear h; subst k1); rfl)
section
variable {α β γ : Type} {p : D → Option α} {q : D → Option β} {u : D → Option γ} {mp : α → D} {mq : β → D} {mu : γ → D} {ds : List D} {kd : List (PySem.Str × D)} {σ : List AO} {r : Out D × List AO}
noncomputable def on1 (p : D → Option α) (f : α → List AO → Option (Out D × List AO)) : Fm := fun ds kd σ => match ds, kd with
  | [a], [] => (p a).bind fun x => f x σ
  | _, _ => none
noncomputable def on2 (p : D → Option α) (q : D → Option β) (f : α → β → List AO → Option (Out D × List AO)) : Fm := fun ds kd σ => match ds, kd with
  | [a, b], [] => (p a).bind fun x => (q b).bind fun y => f x y σ
  | _, _ => none
noncomputable def on3 (p : D → Option α) (q : D → Option β) (u : D → Option γ) (f : α → β → γ → List AO → Option (Out D × List AO)) : Fm := fun ds kd σ => match ds, kd with
  | [a, b, c], [] => (p a).bind fun x => (q b).bind fun y => (u c).bind fun z => f x y z σ
  | _, _ => none
theorem on1_mk {f : α → List AO → Option (Out D × List AO)} {a : D} {x : α} (h : p a = some x) : on1 p f [a] [] σ = f x σ := congrArg (fun o => Option.bind o fun x => f x σ) h
theorem on2_mk {f : α → β → List AO → Option (Out D × List AO)} {a b : D} {x : α} {y : β} (h : p a = some x) (h2 : q b = some y) : on2 p q f [a, b] [] σ = f x y σ := by
  show (p a).bind _ = _
  rw [h, h2]; rfl
theorem on1_inv (hp : ∀ {d a}, p d = some a → d = mp a) {f : α → List AO → Option (Out D × List AO)} (h : on1 p f ds kd σ = some r) : ∃ a, ds = [mp a] ∧ kd = [] ∧ f a σ = some r := by
  cases ds with
  | nil => exact nnS h
  | cons d ds => cases ds with
    | cons => exact nnS h
    | nil => cases kd with
      | cons => exact nnS h
      | nil =>
        (refine xEA (Option.bind_eq_some_iff.mp h) fun a e h => ?_)
        exact ⟨a, by rw [hp e], rfl, h⟩
theorem on2_inv (hp : ∀ {d a}, p d = some a → d = mp a) (hq : ∀ {d a}, q d = some a → d = mq a) {f : α → β → List AO → Option (Out D × List AO)} (h : on2 p q f ds kd σ = some r) : ∃ a b, ds = [mp a, mq b] ∧ kd = [] ∧ f a b σ = some r := by
  cases ds with
  | nil => exact nnS h
  | cons d ds => cases ds with
    | nil => exact nnS h
    | cons d2 ds => cases ds with
      | cons => exact nnS h
      | nil => cases kd with
        | cons => exact nnS h
        | nil =>
          (refine xEA (Option.bind_eq_some_iff.mp h) fun a e h => ?_)
          (refine xEA (Option.bind_eq_some_iff.mp h) fun b e2 h => ?_)
          exact ⟨a, b, by rw [hp e, hq e2], rfl, h⟩
end
theorem bfOf_all {k : Nat} {ks : List PySem.Str} {pl : List (PySem.Str × Sr)} {nm : List (PySem.Str × NameKind)} (hp : (pl.all fun y => nm.lookup y.1 == some .local || nm.lookup y.1 == some .cell) = true) :
    ∀ ds kd bd, bfOf k ks pl ds kd = some bd → (bd.all fun y => nm.lookup y.1 == some .local || nm.lookup y.1 == some .cell) = true := by
  intro ds kd bd hb
  unfold bfOf at hb
  by_cases h1 : ds.length = k
  rotate_left
  · rw [if_neg h1] at hb; exact nnS hb
  rw [if_pos h1] at hb
  by_cases h2 : kd.map (·.1) = ks
  rotate_left
  · rw [if_neg h2] at hb; exact nnS hb
  rw [if_pos h2] at hb
  rw [← s1E hb, List.all_map]
  exact hp
theorem two_inv {ρ : Type} {F : List D → List (PySem.Str × D) → Option ρ} (h0 : ∀ kd, F [] kd = none) (h1 : ∀ a kd, F [a] kd = none) (h3 : ∀ a b c t kd, F (a :: b :: c :: t) kd = none) (hk : ∀ a b p t, F [a, b] (p :: t) = none) {ds : List D} {kd : List (PySem.Str × D)} {r : ρ} (h : F ds kd = some r) :
    ∃ a b, ds = [a, b] ∧ kd = [] ∧ F [a, b] [] = some r := by
  cases ds with
  | nil => exact nnS ((h0 kd).symm.trans h)
  | cons a ds => cases ds with
    | nil => exact nnS ((h1 a kd).symm.trans h)
    | cons b ds => cases ds with
      | cons => exact nnS ((h3 _ _ _ _ kd).symm.trans h)
      | nil => cases kd with
        | cons => exact nnS ((hk _ _ _ _).symm.trans h)
        | nil => exact ⟨a, b, rfl, rfl, h⟩
theorem three_inv {ρ : Type} {F : List D → List (PySem.Str × D) → Option ρ} (h0 : ∀ kd, F [] kd = none) (h1 : ∀ a kd, F [a] kd = none) (h2 : ∀ a b kd, F [a, b] kd = none) (h4 : ∀ a b c d t kd, F (a :: b :: c :: d :: t) kd = none) (hk : ∀ a b c p t, F [a, b, c] (p :: t) = none) {ds : List D} {kd : List (PySem.Str × D)} {r : ρ} (h : F ds kd = some r) :
    ∃ a b c, ds = [a, b, c] ∧ kd = [] ∧ F [a, b, c] [] = some r := by
  cases ds with
  | nil => exact nnS ((h0 kd).symm.trans h)
  | cons a ds => cases ds with
    | nil => exact nnS ((h1 a kd).symm.trans h)
    | cons b ds => cases ds with
      | nil => exact nnS ((h2 a b kd).symm.trans h)
      | cons c ds => cases ds with
        | cons => exact nnS ((h4 _ _ _ _ _ kd).symm.trans h)
        | nil => cases kd with
          | cons => exact nnS ((hk _ _ _ _ _).symm.trans h)
          | nil => exact ⟨a, b, c, rfl, rfl, h⟩
theorem ite_inv {α : Type} {p : Prop} [Decidable p] {x : Option α} {r : α} (h : (if p then x else none) = some r) : p ∧ x = some r := by
  by_cases q : p
  · rw [if_pos q] at h; exact ⟨q, h⟩
  · rw [if_neg q] at h; exact nnS h
end Mine
end
section
open PySem PySem.W PyProof.Rows PySem.Calls
set_option maxRecDepth 100000
namespace Mine
/-! what the functions of values give at the values that are met, each by definition: the equations that Lean would write of itself are far larger -/
section
variable {fr : Fr} {σ : List AO} {d : D}
theorem goA_nil : Mf.goA [] [] = Mf.pure () := rfl
theorem goA_cons {f : D → Mf Unit} {fs : List (D → Mf Unit)} {d : D} {ds : List D} : Mf.goA (f :: fs) (d :: ds) = Mf.bind (f d) fun _ => Mf.goA fs ds := rfl
theorem tupA_tup {fs : List (D → Mf Unit)} {ds : List D} : Mf.tupA fs (.tup ds) = if ds.length = fs.length then Mf.goA fs ds else fun _ _ => none := rfl
theorem andV_one {m : Mo D} : Mo.andV [m] = m := rfl
theorem andV_cons {m k : Mo D} {r : List (Mo D)} : Mo.andV (m :: k :: r) = Mo.bind m fun v => Mo.bind (Mo.opt (truD v)) fun b => if b then Mo.andV (k :: r) else Mo.pure v := rfl
theorem orV_one {m : Mo D} : Mo.orV [m] = m := rfl
theorem orV_cons {m k : Mo D} {r : List (Mo D)} : Mo.orV (m :: k :: r) = Mo.bind m fun v => Mo.bind (Mo.opt (truD v)) fun b => if b then Mo.pure v else Mo.orV (k :: r) := rfl
theorem ands_nil : Mo.ands [] = Mo.pure true := rfl
theorem ands_cons {m : Mo Bool} {r : List (Mo Bool)} : Mo.ands (m :: r) = Mo.bind m fun b => if b then Mo.ands r else Mo.pure false := rfl
theorem ors_nil : Mo.ors [] = Mo.pure false := rfl
theorem ors_cons {m : Mo Bool} {r : List (Mo Bool)} : Mo.ors (m :: r) = Mo.bind m fun b => if b then Mo.pure true else Mo.ors r := rfl
theorem seq_nil : Mo.seq [] = Mo.pure [] := rfl
theorem seq_cons {m : Mo D} {r : List (Mo D)} : Mo.seq (m :: r) = Mo.bind m fun d => Mo.bind (Mo.seq r) fun ds => Mo.pure (d :: ds) := rfl
theorem seqK_nil : Mo.seqK [] = Mo.pure [] := rfl
theorem seqK_cons {x : PySem.Str} {m : Mo D} {r : List (PySem.Str × Mo D)} : Mo.seqK ((x, m) :: r) = Mo.bind m fun d => Mo.bind (Mo.seqK r) fun ds => Mo.pure ((x, d) :: ds) := rfl
theorem frB_nil : frB [] fr = fr := rfl
theorem frB_cons {x : PySem.Str} {r : List (PySem.Str × D)} : frB ((x, d) :: r) fr = frB r (upd fr x d) := rfl
theorem one1_at {f : F1} : one1 f [d] [] σ = f d σ := rfl
theorem one2_at {f : F2} {e : D} : one2 f [d, e] [] σ = f d e σ := rfl
theorem isStr_str {x : PySem.Str} : isStr (.str x) σ = true := rfl
theorem isStr_int {i : Int} : isStr (.int i) σ = false := rfl
theorem isStr_none : isStr .none σ = false := rfl
theorem isStr_tup {ds : List D} : isStr (.tup ds) σ = false := rfl
theorem isStr_lst {ds : List D} : isStr (.lst ds) σ = false := rfl
theorem isStr_ref {k : Nat} : isStr (.ref k) σ = false := rfl
theorem truD_none : truD .none = some false := rfl
theorem truD_bool {b : Bool} : truD (.bool b) = some b := rfl
theorem truD_int {i : Int} : truD (.int i) = some (decide (i ≠ 0)) := rfl
theorem truD_str {x : PySem.Str} : truD (.str x) = some (decide (x.length ≠ 0)) := rfl
theorem truD_lst {ds : List D} : truD (.lst ds) = some (!ds.isEmpty) := rfl
theorem solid_bool {b : Bool} : D.solid (.bool b) = true := rfl
theorem solid_int {i : Int} : D.solid (.int i) = true := rfl
theorem solid_str {x : PySem.Str} : D.solid (.str x) = true := rfl
theorem solid_tup {ds : List D} : D.solid (.tup ds) = true := rfl
theorem solid_lst {ds : List D} : D.solid (.lst ds) = true := rfl
theorem solid_ref {k : Nat} : D.solid (.ref k) = true := rfl
theorem fIs_nn : fIs .none .none = some true := rfl
theorem fIs_bool {b : Bool} : fIs (.bool b) .none = some false := rfl
theorem fIs_int {i : Int} : fIs (.int i) .none = some false := rfl
theorem fIs_str {x : PySem.Str} : fIs (.str x) .none = some false := rfl
theorem fIs_tup {ds : List D} : fIs (.tup ds) .none = some false := rfl
theorem fIs_lst {ds : List D} : fIs (.lst ds) .none = some false := rfl
theorem fIs_ref {k : Nat} : fIs (.ref k) .none = some false := rfl
theorem fIs_type {X Y : String} : fIs (.glob (.type X)) (.glob (.type Y)) = some (X == Y) := rfl
theorem fType_str {x : PySem.Str} : fType (.str x) σ = some (.val (.glob (.type "str")), σ) := rfl
theorem fType_int {i : Int} : fType (.int i) σ = some (.val (.glob (.type "int")), σ) := rfl
theorem fType_tup {ds : List D} : fType (.tup ds) σ = some (.val (.glob (.type "tuple")), σ) := rfl
theorem fType_lst {ds : List D} : fType (.lst ds) σ = (lstOf (.lst ds) σ).map fun _ => (.val (.glob (.type "list")), σ) := rfl
theorem fType_ref {k : Nat} : fType (.ref k) σ = (lstOf (.ref k) σ).map fun _ => (.val (.glob (.type "list")), σ) := rfl
theorem sub_tup {ds : List D} : isSub (.tup ds) σ = true := rfl
theorem pyD_str {look : Nat → Option PyData} {x : PySem.Str} : pyD look (.str x) = some (.str x) := rfl
theorem pyD_int {look : Nat → Option PyData} {i : Int} : pyD look (.int i) = some (.int i) := rfl
theorem fLower_str {x : PySem.Str} : fLower (.str x) σ = if x.length ≤ 5592405 then some (.val (.str (Txt.lower x)), σ) else none := rfl
theorem fUpper_str {x : PySem.Str} : fUpper (.str x) σ = if x.length ≤ 5592405 then some (.val (.str (Txt.upper x)), σ) else none := rfl
theorem fNeg_int {i : Int} : fNeg (.int i) σ = some (.val (.int (-i)), σ) := rfl
theorem fListSF_str {x : PySem.Str} : fListSF (.str x) σ = some (.val (.lst (chars x)), σ) := rfl
theorem fListSR_str {x : PySem.Str} : fListSR (.str x) σ = some (.val (.ref σ.length), σ ++ [.lst (chars x)]) := rfl
theorem fChr_int {i : Int} : fChr (.int i) σ = if 0 ≤ i ∧ i ≤ 1114111 then some (.val (.str ⟨#[i.toNat]⟩), σ) else none := rfl
theorem fRng_1 {b : Int} : fRng [.int b] [] σ = some (.val (.rng 0 b), σ) := rfl
theorem fRng_2 {a b : Int} : fRng [.int a, .int b] [] σ = some (.val (.rng a b), σ) := rfl
theorem fAdd_ii {a b : Int} : fAdd (.int a) (.int b) = some (.int (a + b)) := rfl
theorem fSub_ii {a b : Int} : fSub (.int a) (.int b) = some (.int (a - b)) := rfl
theorem fLt_ii {a b : Int} : fLt (.int a) (.int b) = some (.bool (decide (a < b))) := rfl
theorem fGt_ii {a b : Int} : fGt (.int a) (.int b) = some (.bool (decide (b < a))) := rfl
theorem fGe_ii {a b : Int} : fGe (.int a) (.int b) = some (.bool (decide (b ≤ a))) := rfl
theorem lstOf_lst {ds : List D} : lstOf (.lst ds) σ = some ds := rfl
end
end Mine
end
section
open PySem PySem.W PyProof.Rows
set_option maxRecDepth 100000
set_option maxHeartbeats 8000000
namespace Mine
section
local macro_rules | `(tactic| o_head $_) => `(tactic| assumption)
/-- the frame's objects, as the line's own head writes them out (pre.heap_1) -/
theorem pre (hh : PySem.Challenge.rw_ta0143_02.row.Holds) : PySem.Challenge.rw_ta0143_02.row.Holds := by k_head
end
end Mine
end
section
open PySem PySem.W PyProof.Rows PySem.Calls
set_option maxRecDepth 100000
namespace Mine
section
variable {G : Amb} {hn : Bool} {n : Nat} {Z : Scope} {p : Pos}
noncomputable abbrev K2 (P : Params) : Frag := pre.heap_1 P

theorem g_len (h : G.K = K2 G.w.params) (hk : Z.names.lookup ("len" : PySem.Str) = some .globalImplicit) : Ev G hn n Z (.Name "len" p) (Mo.pure (.glob (.builtin "len"))) := Ev.blt hk (by rw [h]; rfl) (by kernel_rfl) (by decide) rfl
theorem g_range (h : G.K = K2 G.w.params) (hk : Z.names.lookup ("range" : PySem.Str) = some .globalImplicit) : Ev G hn n Z (.Name "range" p) (Mo.pure (.glob (.type "range"))) := Ev.blt hk (by rw [h]; rfl) (by kernel_rfl) (by decide) rfl
theorem g_type (h : G.K = K2 G.w.params) (hk : Z.names.lookup ("type" : PySem.Str) = some .globalImplicit) : Ev G hn n Z (.Name "type" p) (Mo.pure (.glob (.type "type"))) := Ev.blt hk (by rw [h]; rfl) (by kernel_rfl) (by decide) rfl
theorem g_sum (h : G.K = K2 G.w.params) (hk : Z.names.lookup ("sum" : PySem.Str) = some .globalImplicit) : Ev G hn n Z (.Name "sum" p) (Mo.pure (.glob (.builtin "sum"))) := Ev.blt hk (by rw [h]; rfl) (by kernel_rfl) (by decide) rfl
theorem g_max (h : G.K = K2 G.w.params) (hk : Z.names.lookup ("max" : PySem.Str) = some .globalImplicit) : Ev G hn n Z (.Name "max" p) (Mo.pure (.glob (.builtin "max"))) := Ev.blt hk (by rw [h]; rfl) (by kernel_rfl) (by decide) rfl
theorem g_chr (h : G.K = K2 G.w.params) (hk : Z.names.lookup ("chr" : PySem.Str) = some .globalImplicit) : Ev G hn n Z (.Name "chr" p) (Mo.pure (.glob (.builtin "chr"))) := Ev.blt hk (by rw [h]; rfl) (by kernel_rfl) (by decide) rfl
theorem g_sorted (h : G.K = K2 G.w.params) (hk : Z.names.lookup ("sorted" : PySem.Str) = some .globalImplicit) : Ev G hn n Z (.Name "sorted" p) (Mo.pure (.glob (.builtin "sorted"))) := Ev.blt hk (by rw [h]; rfl) (by kernel_rfl) (by decide) rfl
theorem g_tuple (h : G.K = K2 G.w.params) (hk : Z.names.lookup ("tuple" : PySem.Str) = some .globalImplicit) : Ev G hn n Z (.Name "tuple" p) (Mo.pure (.glob (.type "tuple"))) := Ev.blt hk (by rw [h]; rfl) (by kernel_rfl) (by decide) rfl
theorem g_str (h : G.K = K2 G.w.params) (hk : Z.names.lookup ("str" : PySem.Str) = some .globalImplicit) : Ev G hn n Z (.Name "str" p) (Mo.pure (.glob (.type "str"))) := Ev.blt hk (by rw [h]; rfl) (by kernel_rfl) (by decide) rfl
theorem g_repr (h : G.K = K2 G.w.params) (hk : Z.names.lookup ("repr" : PySem.Str) = some .globalImplicit) : Ev G hn n Z (.Name "repr" p) (Mo.pure (.glob (.builtin "repr"))) := Ev.blt hk (by rw [h]; rfl) (by kernel_rfl) (by decide) rfl
theorem g_list (h : G.K = K2 G.w.params) (hk : Z.names.lookup ("list" : PySem.Str) = some .globalImplicit) : Ev G hn n Z (.Name "list" p) (Mo.pure (.glob (.type "list"))) := Ev.blt hk (by rw [h]; rfl) (by kernel_rfl) (by decide) rfl
theorem g_Headers (h : G.K = K2 G.w.params) (hk : Z.names.lookup ("Headers" : PySem.Str) = some .globalImplicit) : Ev G hn n Z (.Name "Headers" p) (Mo.pure (.glob (.ref 182))) := Ev.glo hk (by rw [h]; rfl) rfl
theorem g_law_rings (h : G.K = K2 G.w.params) (hk : Z.names.lookup ("_law_rings" : PySem.Str) = some .globalImplicit) : Ev G hn n Z (.Name "_law_rings" p) (Mo.pure (.glob (.ref 193))) := Ev.glo hk (by rw [h]; rfl) rfl
theorem g_law_pairs (h : G.K = K2 G.w.params) (hk : Z.names.lookup ("_law_pairs" : PySem.Str) = some .globalImplicit) : Ev G hn n Z (.Name "_law_pairs" p) (Mo.pure (.glob (.ref 198))) := Ev.glo hk (by rw [h]; rfl) rfl
theorem g_law_table (h : G.K = K2 G.w.params) (hk : Z.names.lookup ("_law_table" : PySem.Str) = some .globalImplicit) : Ev G hn n Z (.Name "_law_table" p) (Mo.pure (.glob (.ref 205))) := Ev.glo hk (by rw [h]; rfl) rfl
theorem g_law_columns (h : G.K = K2 G.w.params) (hk : Z.names.lookup ("_law_columns" : PySem.Str) = some .globalImplicit) : Ev G hn n Z (.Name "_law_columns" p) (Mo.pure (.glob (.ref 210))) := Ev.glo hk (by rw [h]; rfl) rfl
theorem g_law_popped (h : G.K = K2 G.w.params) (hk : Z.names.lookup ("_law_popped" : PySem.Str) = some .globalImplicit) : Ev G hn n Z (.Name "_law_popped" p) (Mo.pure (.glob (.ref 215))) := Ev.glo hk (by rw [h]; rfl) rfl
theorem g_law_falls (h : G.K = K2 G.w.params) (hk : Z.names.lookup ("_law_falls" : PySem.Str) = some .globalImplicit) : Ev G hn n Z (.Name "_law_falls" p) (Mo.pure (.glob (.ref 220))) := Ev.glo hk (by rw [h]; rfl) rfl
theorem g_law_above (h : G.K = K2 G.w.params) (hk : Z.names.lookup ("_law_above" : PySem.Str) = some .globalImplicit) : Ev G hn n Z (.Name "_law_above" p) (Mo.pure (.glob (.ref 225))) := Ev.glo hk (by rw [h]; rfl) rfl
theorem g_law_refused (h : G.K = K2 G.w.params) (hk : Z.names.lookup ("_law_refused" : PySem.Str) = some .globalImplicit) : Ev G hn n Z (.Name "_law_refused" p) (Mo.pure (.glob (.ref 232))) := Ev.glo hk (by rw [h]; rfl) rfl
theorem g_name_disallowed_re (h : G.K = K2 G.w.params) (hk : Z.names.lookup ("_name_disallowed_re" : PySem.Str) = some .globalImplicit) : Ev G hn n Z (.Name "_name_disallowed_re" p) (Mo.pure (.glob (.ref 48))) := Ev.glo hk (by rw [h]; rfl) rfl
theorem g_value_disallowed_re (h : G.K = K2 G.w.params) (hk : Z.names.lookup ("_value_disallowed_re" : PySem.Str) = some .globalImplicit) : Ev G hn n Z (.Name "_value_disallowed_re" p) (Mo.pure (.glob (.ref 53))) := Ev.glo hk (by rw [h]; rfl) rfl
theorem b_ValueError (h : G.K = K2 G.w.params) : nsIn G.K mainGlobals "ValueError" = some none := by rw [h]; rfl
theorem b_AssertionError (h : G.K = K2 G.w.params) : nsIn G.K mainGlobals "AssertionError" = some none := by rw [h]; rfl
theorem b_TypeError (h : G.K = K2 G.w.params) : nsIn G.K mainGlobals "TypeError" = some none := by rw [h]; rfl
theorem i1_83 (h : G.K = K2 G.w.params) : plainGet G.K 182 "_convert_string_type" = true := by rw [h]; rfl
theorem i2_83 (h : G.K = K2 G.w.params) : findIn G.K (.ref 182) "_convert_string_type" = some (some (.ref 83)) := by rw [h]; rfl
theorem i3_83 (h : G.K = K2 G.w.params) : isFn G.K (.ref 83) = true := by rw [h]; rfl
theorem i1_179 (h : G.K = K2 G.w.params) : plainGet G.K 182 "add_header" = true := by rw [h]; rfl
theorem i2_179 (h : G.K = K2 G.w.params) : findIn G.K (.ref 182) "add_header" = some (some (.ref 179)) := by rw [h]; rfl
theorem i3_179 (h : G.K = K2 G.w.params) : isFn G.K (.ref 179) = true := by rw [h]; rfl
theorem i1_121 (h : G.K = K2 G.w.params) : plainGet G.K 182 "get_all" = true := by rw [h]; rfl
theorem i2_121 (h : G.K = K2 G.w.params) : findIn G.K (.ref 182) "get_all" = some (some (.ref 121)) := by rw [h]; rfl
theorem i3_121 (h : G.K = K2 G.w.params) : isFn G.K (.ref 121) = true := by rw [h]; rfl
theorem i1_134 (h : G.K = K2 G.w.params) : plainGet G.K 182 "keys" = true := by rw [h]; rfl
theorem i2_134 (h : G.K = K2 G.w.params) : findIn G.K (.ref 182) "keys" = some (some (.ref 134)) := by rw [h]; rfl
theorem i3_134 (h : G.K = K2 G.w.params) : isFn G.K (.ref 134) = true := by rw [h]; rfl
theorem i1_139 (h : G.K = K2 G.w.params) : plainGet G.K 182 "values" = true := by rw [h]; rfl
theorem i2_139 (h : G.K = K2 G.w.params) : findIn G.K (.ref 182) "values" = some (some (.ref 139)) := by rw [h]; rfl
theorem i3_139 (h : G.K = K2 G.w.params) : isFn G.K (.ref 139) = true := by rw [h]; rfl
theorem i1_146 (h : G.K = K2 G.w.params) : plainGet G.K 182 "items" = true := by rw [h]; rfl
theorem i2_146 (h : G.K = K2 G.w.params) : findIn G.K (.ref 182) "items" = some (some (.ref 146)) := by rw [h]; rfl
theorem i3_146 (h : G.K = K2 G.w.params) : isFn G.K (.ref 146) = true := by rw [h]; rfl
theorem ok_76 (P : Params) : fnOk (K2 P) 76 = true := by kernel_rfl
theorem ok_83 (P : Params) : fnOk (K2 P) 83 = true := by kernel_rfl
theorem i4_83 (h : G.K = K2 G.w.params) : Kep G (.ref 83) := Kep.at h (ok_83 _)
theorem ok_179 (P : Params) : fnOk (K2 P) 179 = true := by kernel_rfl
theorem i4_179 (h : G.K = K2 G.w.params) : Kep G (.ref 179) := Kep.at h (ok_179 _)
theorem ok_121 (P : Params) : fnOk (K2 P) 121 = true := by kernel_rfl
theorem i4_121 (h : G.K = K2 G.w.params) : Kep G (.ref 121) := Kep.at h (ok_121 _)
theorem ok_134 (P : Params) : fnOk (K2 P) 134 = true := by kernel_rfl
theorem i4_134 (h : G.K = K2 G.w.params) : Kep G (.ref 134) := Kep.at h (ok_134 _)
theorem ok_139 (P : Params) : fnOk (K2 P) 139 = true := by kernel_rfl
theorem i4_139 (h : G.K = K2 G.w.params) : Kep G (.ref 139) := Kep.at h (ok_139 _)
theorem ok_146 (P : Params) : fnOk (K2 P) 146 = true := by kernel_rfl
theorem i4_146 (h : G.K = K2 G.w.params) : Kep G (.ref 146) := Kep.at h (ok_146 _)
theorem ok_193 (P : Params) : fnOk (K2 P) 193 = true := by kernel_rfl
theorem i4_193 (h : G.K = K2 G.w.params) : Kep G (.ref 193) := Kep.at h (ok_193 _)
theorem ok_198 (P : Params) : fnOk (K2 P) 198 = true := by kernel_rfl
theorem i4_198 (h : G.K = K2 G.w.params) : Kep G (.ref 198) := Kep.at h (ok_198 _)
theorem ok_205 (P : Params) : fnOk (K2 P) 205 = true := by kernel_rfl
theorem i4_205 (h : G.K = K2 G.w.params) : Kep G (.ref 205) := Kep.at h (ok_205 _)
theorem ok_210 (P : Params) : fnOk (K2 P) 210 = true := by kernel_rfl
theorem i4_210 (h : G.K = K2 G.w.params) : Kep G (.ref 210) := Kep.at h (ok_210 _)
theorem ok_215 (P : Params) : fnOk (K2 P) 215 = true := by kernel_rfl
theorem i4_215 (h : G.K = K2 G.w.params) : Kep G (.ref 215) := Kep.at h (ok_215 _)
theorem ok_220 (P : Params) : fnOk (K2 P) 220 = true := by kernel_rfl
theorem i4_220 (h : G.K = K2 G.w.params) : Kep G (.ref 220) := Kep.at h (ok_220 _)
theorem ok_225 (P : Params) : fnOk (K2 P) 225 = true := by kernel_rfl
theorem i4_225 (h : G.K = K2 G.w.params) : Kep G (.ref 225) := Kep.at h (ok_225 _)
theorem ok_232 (P : Params) : fnOk (K2 P) 232 = true := by kernel_rfl
theorem i4_232 (h : G.K = K2 G.w.params) : Kep G (.ref 232) := Kep.at h (ok_232 _)
theorem ok_237 (P : Params) : fnOk (K2 P) 237 = true := by kernel_rfl
noncomputable def pat2 (p : Addr) : Option (Nat → Bool) := if p = 48 then some ctlN else if p = 53 then some ctlV else none
theorem pat_ok (h : G.K = K2 G.w.params) : ∀ p P, pat2 p = some P → PatOk G.K p P := by
  intro p P hp
  unfold pat2 at hp
  split at hp
  · rename_i e; cases hp; subst e
    exact patN (by rw [h]; rfl) (by rw [h]; rfl) (by decide +kernel)
  · split at hp
    · rename_i e; cases hp; subst e
      exact patV (by rw [h]; rfl) (by rw [h]; rfl) (by decide +kernel)
    · cases hp
end
end Mine
end
section
open PySem PySem.W PyProof.Rows PySem.Calls
set_option maxRecDepth 100000
set_option maxHeartbeats 4000000
namespace Mine
section
variable {G : Amb}
theorem at_headers (h : G.K = K2 G.w.params) {hn n Z} {o : Expr} {pos : Pos} {mo : Mo D} (ho : Ev G hn n Z o mo) (hbase : ∀ env, attributeBase o "_headers" env (eval o env) = eval o env := by intro _; rfl) (hname : ∀ o' r, letTemporaryGo o o' r = Pure.pure () := by intro _ _; rfl) : Ev G hn n Z (.Attribute o "_headers" pos) (Mo.attr 182 "_headers" mo) :=
  Ev.attr ho (by rw [h]; rfl) (by rw [h]; rfl) (by rw [h]; rfl) (by rw [h]; rfl) hbase hname
theorem st_headers (h : G.K = K2 G.w.params) {hn n Z} {o : Expr} {pos : Pos} {mo : Mo D} (ho : Ev G hn n Z o mo) : As G hn n Z (.Attribute o "_headers" pos) (Mf.setA 182 "_headers" mo) :=
  As.attr ho (by rw [h]; rfl) (by rw [h]; rfl) (by rw [h]; rfl) (by rw [h]; rfl)
theorem kep_headers (h : G.K = K2 G.w.params) : Kep G (.ref 182) := Kep.cls (by rw [h]; rfl) (by rw [h]; rfl)
end
section
noncomputable def msgV : PySem.Str := "Control characters not allowed in headers"
noncomputable def get2 : List D → Option (D × D)
  | [a, b] => some (a, b)
  | _ => none
theorem get2_eq {ds : List D} {p : D × D} (h : get2 ds = some p) : ds = [p.1, p.2] := by
  rcases ds with _ | ⟨a, _ | ⟨b, _ | ⟨c, t⟩⟩⟩ <;> first | (cases h; done) | (cases h; rfl)
noncomputable def dBool : D → Option Bool
  | .bool b => some b
  | _ => none
theorem dBool_eq {d : D} {a : Bool} (h : dBool d = some a) : d = .bool a := by cases d <;> first | (cases h; done) | (cases h; rfl)
noncomputable def kwB : List (PySem.Str × D) → Option (PySem.Str × Bool)
  | [p] => (dBool p.2).map fun b => (p.1, b)
  | _ => none
theorem kwB_eq {kd : List (PySem.Str × D)} {q : PySem.Str × Bool} (h : kwB kd = some q) : kd = [(q.1, .bool q.2)] := by
  rcases kd with _ | ⟨a, _ | ⟨b, t⟩⟩
  · cases h
  · (refine xEA (Option.map_eq_some_iff.mp h) fun b e q0z => ?_; subst q0z)
    rw [← dBool_eq e]
  · cases h
noncomputable def siD : PySem.Str ⊕ Int → D
  | .inl x => .str x
  | .inr i => .int i
noncomputable def dSI : D → Option (PySem.Str ⊕ Int)
  | .str x => some (.inl x)
  | .int i => some (.inr i)
  | _ => none
theorem dSI_eq {d : D} {a : PySem.Str ⊕ Int} (h : dSI d = some a) : d = siD a := by cases d <;> first | (cases h; done) | (cases h; rfl)
noncomputable def sConv : Fm := fun ds kd σ => (get2 ds).bind fun p => (kwB kd).bind fun q => if q.1 = "name" then (dSI p.2).bind fun t => t.elim (fun x => some (if x.cps.toList.any (if q.2 then ctlN else ctlV) then .exc "ValueError" msgV else .val (.str x), σ)) (fun i => if i = 5 then some (.exc "AssertionError" fmtY, σ) else none) else none
theorem sConv_str {a : D} {x : PySem.Str} {b : Bool} {σ : List AO} : sConv [a, .str x] [("name", .bool b)] σ = some (if x.cps.toList.any (if b then ctlN else ctlV) then .exc "ValueError" msgV else .val (.str x), σ) := by
  simp only [sConv, get2, kwB, dBool, dSI, Option.bind_some, Option.map_some, if_true, Sum.elim_inl, Sum.elim_inr]
theorem sConv_int {a : D} {b : Bool} {σ : List AO} : sConv [a, .int 5] [("name", .bool b)] σ = some (.exc "AssertionError" fmtY, σ) := by
  simp only [sConv, get2, kwB, dBool, dSI, Option.bind_some, Option.map_some, if_true, Sum.elim_inl, Sum.elim_inr]
end
section
variable {G : Amb} (h : G.K = K2 G.w.params)
include h
theorem f_conv : Fn G true 5 83 sConv := by
  have body : ∃ m, Exs G true 4 (scopeAt (K2 G.w.params) 83) (bodyAt (K2 G.w.params) 83) m ∧ ∀ ds kd σ r, sConv ds kd σ = some r → ((bfOf 2 ["name"] [("self", .pos 0), ("value", .pos 1), ("name", .kw 0)] ds kd).bind fun bd => Mf.fn m (frB bd fun _ => none) σ) = some r := by
    conv in (bodyAt _ _) => whnf
    generalize hE1 : Expr.Constant (Const.str "Header names/values must be of type str (got {0})") 0 ⟨36, 29, 36, 80⟩ = E1
    have kE1 : ∀ {Z}, Ev G true 4 Z E1 (Mo.pure (.str "Header names/values must be of type str (got {0})")) := fun {Z} => hE1 ▸ Ev.kStr (n := 4) (by decide +kernel)
    refine ⟨_, (Exs.cons (Ex.ite (Cd.cmp (Ev.call (g_type h rfl) (ms := [_]) (mk := []) ⟨(Ev.loc rfl rfl), trivial⟩ trivial Kep.typ Ca.type) (g_str h rfl) (Op2.is))
      (Exs.cons (Ex.asgn (Ev.ite (Cd.val (Ev.loc rfl rfl)) (g_name_disallowed_re h rfl) (g_value_disallowed_re h rfl)) (As.name (Or.inl rfl)) (sw_of fun env => ⟨rfl, by kernel_rfl, by kernel_rfl⟩))
      (Exs.cons (Ex.ite (Cd.search (pat_ok h) (Ev.loc rfl rfl) (Ev.loc rfl rfl))
        (Exs.cons (Ex.raise F.excCall_ValueError F.excRaise_ValueError rfl (b_ValueError h) rfl (by decide +kernel) rfl (Ev.kStr (by decide +kernel)) rfl)
        Exs.nil)
        Exs.nil)
      (Exs.cons (Ex.ret (Ev.loc rfl rfl))
      Exs.nil)))
      Exs.nil)
    (Exs.cons (Ex.raise F.excCall_AssertionError F.excRaise_AssertionError rfl (b_AssertionError h) rfl (by decide +kernel) rfl (Ev.methS F.slot_str_format_m F.type_str_format_m kE1 (ms := [_]) (mk := []) ⟨(Ev.call (g_repr h rfl) (ms := [_]) (mk := []) ⟨(Ev.loc rfl rfl), trivial⟩ trivial Kep.blt Ca.repr), trivial⟩ trivial Ca.format (hbase := fun _ => by rw [← hE1]; rfl)) rfl)
    Exs.nil)), ?_⟩
    intro ds kd σ r hr
    (refine xEA (Option.bind_eq_some_iff.mp hr) fun q0z e1 hr1 => ?_; obtain ⟨a, d⟩ := q0z)
    (refine xEA (Option.bind_eq_some_iff.mp hr1) fun q0z e2 hr2 => ?_; obtain ⟨nm, b⟩ := q0z)
    (refine xA (ite_inv hr2) fun hnm hr3 => ?_)
    (refine xEA (Option.bind_eq_some_iff.mp hr3) fun t e3 hr4 => ?_)
    have hnm : nm = "name" := hnm
    obtain rfl : ds = [a, d] := get2_eq e1
    obtain rfl : kd = [(nm, .bool b)] := kwB_eq e2
    obtain rfl : d = siD t := dSI_eq e3
    subst hnm
    clear hr hr1 hr2 hr3 e1 e2 e3
    cases t with
    | inl x =>
      cases hr4
      simp only [siD, bfOf, List.length_cons, List.length_nil, List.map_cons, List.map_nil, if_true, Nat.reduceAdd, Option.bind_some, Sr.dat, List.getD_cons_zero, List.getD_cons_succ]
      cases b
      · simp only [Mf.fn, Mf.seq, Mf.bind, Mf.lift, Mf.set, Mf.pure, Mo.op2, Mo.bind, Mo.calF, Mo.args, seq_nil, seq_cons, seqK_nil, Mo.pure, Mo.var, Mo.tru, Mo.opt, Mo.ite, Mo.srch, Mo.meth, frB_nil, frB_cons, upd_same, upd_diff, one1_at, Option.map_some, ↓reduceIte, fIs_type, Nat.reduceEqDiff, Bool.false_eq_true, beq_self_eq_true, String.reduceBEq, fType_str, truD_bool, pat2]
        cases hx : x.cps.toList.any ctlV <;> simp only [Mf.bind, Mf.lift, Mf.pure, Mo.pure, Mo.var, upd_same, upd_diff, Option.map_some, ↓reduceIte, Bool.false_eq_true, String.reduceBEq] <;> rfl
      · simp only [Mf.fn, Mf.seq, Mf.bind, Mf.lift, Mf.set, Mf.pure, Mo.op2, Mo.bind, Mo.calF, Mo.args, seq_nil, seq_cons, seqK_nil, Mo.pure, Mo.var, Mo.tru, Mo.opt, Mo.ite, Mo.srch, Mo.meth, frB_nil, frB_cons, upd_same, upd_diff, one1_at, Option.map_some, ↓reduceIte, fIs_type, beq_self_eq_true, String.reduceBEq, fType_str, truD_bool, pat2]
        cases hx : x.cps.toList.any ctlN <;> simp only [Mf.bind, Mf.lift, Mf.pure, Mo.pure, Mo.var, upd_same, upd_diff, Option.map_some, ↓reduceIte, Bool.false_eq_true, String.reduceBEq] <;> rfl
    | inr i =>
      (refine xA (ite_inv hr4) fun q0z hr5 => ?_; subst q0z)
      cases hr5
      clear hr4
      kernel_rfl
  (refine xEA body fun m hm hs => ?_; try clear body)
  refine Fn.mono (Fn.at h (ok_83 _) (Bnd.plan (by exact ⟨trivial, trivial, trivial, trivial⟩) ?_) ?_ hm) hs
  · intro S vs kw hv hk
    refine Eq.trans (congrArg (fun K => peek K S _) h) ?_
    (refine xEE (len2 hv) fun v0 v1 q0z => ?_; subst q0z)
    (refine xE (kw1 hk) fun w0 q0z => ?_; subst q0z)
    kernel_rfl
  · exact bfOf_all (by kernel_rfl)
end
end Mine
end
section
open PySem PySem.W PyProof.Rows PySem.Calls
set_option maxRecDepth 100000
set_option maxHeartbeats 4000000
namespace Mine
section
/-- a list of pairs of texts -/
noncomputable def pD (p : PySem.Str × PySem.Str) : D := .tup [.str p.1, .str p.2]
theorem pD_inj {p q : PySem.Str × PySem.Str} (h : pD p = pD q) : p = q := by
  obtain ⟨a, b⟩ := p
  obtain ⟨c, d⟩ := q
  injection h with h
  injection h with h1 h2
  injection h1 with h1
  injection h2 with h2 _
  injection h2 with h2
  exact Prod.ext h1 h2
theorem pDs_inj {ps qs : List (PySem.Str × PySem.Str)} (h : ps.map pD = qs.map pD) : ps = qs := List.map_inj_right (fun _ _ => pD_inj) |>.mp h
noncomputable def prs (ds : List D) : Option (List (PySem.Str × PySem.Str)) := pick fun ps => ds = ps.map pD
theorem prs_eq {ds : List D} {ps : List (PySem.Str × PySem.Str)} (h : prs ds = some ps) : ds = ps.map pD := pick_ok (P := fun ps : List (PySem.Str × PySem.Str) => ds = ps.map pD) h
theorem prs_map (ps : List (PySem.Str × PySem.Str)) : prs (ps.map pD) = some ps := pick_mk rfl fun _ h => (pDs_inj h).symm
noncomputable def shortS (x : PySem.Str) : Bool := decide (x.length ≤ 1000) && x.cps.toList.all (fun c => decide (c < 128))
/-- the table at k -/
noncomputable def hdr (σ : List AO) (k : Nat) : Option (Nat × List (PySem.Str × PySem.Str)) := pick fun r => σ[k]? = some (.ins 182 [("_headers", .ref r.1)]) ∧ σ[r.1]? = some (.lst (r.2.map pD)) ∧ r.2.length ≤ 1000 ∧ ∀ p ∈ r.2, shortS p.1 = true ∧ shortS p.2 = true
theorem hdr_ok {σ : List AO} {k j : Nat} {ps : List (PySem.Str × PySem.Str)} (h : hdr σ k = some (j, ps)) : σ[k]? = some (.ins 182 [("_headers", .ref j)]) ∧ σ[j]? = some (.lst (ps.map pD)) ∧ ps.length ≤ 1000 ∧ ∀ p ∈ ps, shortS p.1 = true ∧ shortS p.2 = true := pick_ok (P := fun r : Nat × List (PySem.Str × PySem.Str) => σ[k]? = some (.ins 182 [("_headers", .ref r.1)]) ∧ σ[r.1]? = some (.lst (r.2.map pD)) ∧ r.2.length ≤ 1000 ∧ ∀ p ∈ r.2, shortS p.1 = true ∧ shortS p.2 = true) (a := (j, ps)) h
theorem hdr_of {σ : List AO} {k j : Nat} {ps : List (PySem.Str × PySem.Str)} (h1 : σ[k]? = some (.ins 182 [("_headers", .ref j)])) (h2 : σ[j]? = some (.lst (ps.map pD))) (h3 : ps.length ≤ 1000) (h4 : ∀ p ∈ ps, shortS p.1 = true ∧ shortS p.2 = true) : hdr σ k = some (j, ps) :=
  pick_mk ⟨h1, h2, h3, h4⟩ fun r hr => by
    obtain ⟨i, qs⟩ := r
    have e1 := Option.some.inj (h1.symm.trans hr.1)
    have e2 := hr.2.1
    clear h1 hr h3 h4
    injection e1 with _ e1
    injection e1 with e1 _
    injection e1 with _ e1
    injection e1 with e1
    dsimp only at e1 e2
    rw [← e1, h2] at e2
    injection e2 with e2
    injection e2 with e2
    rw [e1, pDs_inj e2]
theorem pickL (ds : List D) (a k : Nat) : ((List.range k).map (a + ·)).filterMap (ds[·]?) = (ds.drop a).take k := by
  have := pick_run ds.toArray a k
  simpa using this
theorem sliceD_all (ds : List D) : sliceD ds none none none = ds := by
  have e : sliceBounds none none none ds.length = (((0 : Nat) : Int), (ds.length : Int), 1) := by simp [sliceBounds]
  unfold sliceD
  rw [e]
  simp only [sliceRange_one, pickL]
  rw [List.drop_zero, Nat.sub_zero, List.take_of_length_le (Nat.le_refl _)]
theorem sz0 : (0 ≤ sizeLine) = True := eq_true (by decide)
theorem sz1 : (1 ≤ sizeLine) = True := eq_true (by decide)
theorem sz2 : (2 ≤ sizeLine) = True := eq_true (by decide)
theorem sz3 : (3 ≤ sizeLine) = True := eq_true (by decide)
theorem lookup_one (x : PySem.Str) (d : D) : List.lookup x [(x, d)] = some d := by simp [List.lookup]
theorem filter_true {α : Type} (l : List α) : l.filter (fun _ => true) = l := List.filter_eq_self.mpr fun _ _ => rfl
end
section
variable {G : Amb} (h : G.K = K2 G.w.params)
include h
noncomputable def sKeys : Fm := on1 dRef fun k σ => (hdr σ k).map fun r => (.val (.lst (r.2.map fun p => .str p.1)), σ)
noncomputable def sValues : Fm := on1 dRef fun k σ => (hdr σ k).map fun r => (.val (.lst (r.2.map fun p => .str p.2)), σ)
omit h in
theorem sKeys_at {k : Nat} {σ : List AO} : sKeys [.ref k] [] σ = (hdr σ k).map fun r => (.val (.lst (r.2.map fun p => .str p.1)), σ) := rfl
omit h in
theorem sValues_at {k : Nat} {σ : List AO} : sValues [.ref k] [] σ = (hdr σ k).map fun r => (.val (.lst (r.2.map fun p => .str p.2)), σ) := rfl
noncomputable def sItems : Fm := on1 dRef fun k σ => (hdr σ k).map fun r => (.val (.ref σ.length), σ ++ [.lst (r.2.map pD)])
theorem f_keys : Fn G true 6 134 sKeys := by
  have body : ∃ m, Exs G true 5 (scopeAt (K2 G.w.params) 134) (bodyAt (K2 G.w.params) 134) m ∧ ∀ ds kd σ r, sKeys ds kd σ = some r → ((bfOf 1 [] [("self", .pos 0)] ds kd).bind fun bd => Mf.fn m (frB bd fun _ => none) σ) = some r := by
    refine ⟨_, (Exs.cons (Ex.ret (Ev.lcF (CompL.one (W := []) (at_headers h (Ev.loc rfl rfl)) (AsC.pair rfl rfl) Ts.nil (Ev.loc rfl rfl) (by first | rfl | kernel_rfl))))
    Exs.nil), ?_⟩
    intro ds kd σ r hr
    replace hr := on1_inv dRef_eq hr
    obtain ⟨k, rfl, rfl, hr⟩ := hr
    obtain ⟨⟨j, ps⟩, hh, hr⟩ := Option.map_eq_some_iff.mp hr
    cases hr
    (refine xAAA (hdr_ok hh) fun h1 h2 h3 h4 => ?_)
    simp only [bfOf, List.length_cons, List.length_nil, List.map_cons, List.map_nil, if_true, Nat.reduceAdd, Option.bind_some, Sr.dat, List.getD_cons_zero, List.getD_cons_succ]
    simp only [Mf.fn, Mf.seq, Mf.bind, Mf.lift, Mf.pure, Mo.attr, frB_nil, frB_cons]
    rw [lcRun_pure (σ1 := σ) (d := .ref j) (x := ⟨ps.map pD, fun σ => σ[j]? = some (.lst (ps.map pD))⟩) (fun _ => True) (fun _ => true) (fun d => match d with
      | .tup [a, _] => a
      | _ => .none) (by simp only [Mo.bind, Mo.var, upd_same, Option.map_some, ↓reduceIte, h1, lookup_one]) (by unfold srcD; simp only [h2]) h2 trivial (fun d hd fr _ => by
        (refine xEA (List.mem_map.mp hd) fun p hp q0z => ?_; subst q0z)
        refine ⟨rfl, trivial, rfl, fun _ => ⟨setPair "k" "v" (pD p) fr, trivial, ?_⟩⟩
        simp only [emOne, setPair, pD, Mo.var, upd_same, upd_diff, Option.map_some, String.reduceBEq])]
    simp only [filter_true, List.map_map]
    rw [if_pos (by rw [List.length_map]; have e : sizeLine = 16777216 := rfl; omega)]
    rfl
  (refine xEA body fun m hm hs => ?_; try clear body)
  refine Fn.mono (Fn.at h (ok_134 _) (Bnd.plan (by exact ⟨trivial, trivial⟩) ?_) ?_ hm) hs
  · intro S vs kw hv hk
    refine Eq.trans (congrArg (fun K => peek K S _) h) ?_
    (refine xE (len1 hv) fun v0 q0z => ?_; subst q0z)
    obtain rfl := kw0 hk
    kernel_rfl
  · exact bfOf_all (by kernel_rfl)
theorem f_values : Fn G true 6 139 sValues := by
  have body : ∃ m, Exs G true 5 (scopeAt (K2 G.w.params) 139) (bodyAt (K2 G.w.params) 139) m ∧ ∀ ds kd σ r, sValues ds kd σ = some r → ((bfOf 1 [] [("self", .pos 0)] ds kd).bind fun bd => Mf.fn m (frB bd fun _ => none) σ) = some r := by
    refine ⟨_, (Exs.cons (Ex.ret (Ev.lcF (CompL.one (W := []) (at_headers h (Ev.loc rfl rfl)) (AsC.pair rfl rfl) Ts.nil (Ev.loc rfl rfl) (by first | rfl | kernel_rfl))))
    Exs.nil), ?_⟩
    intro ds kd σ r hr
    replace hr := on1_inv dRef_eq hr
    obtain ⟨k, rfl, rfl, hr⟩ := hr
    obtain ⟨⟨j, ps⟩, hh, hr⟩ := Option.map_eq_some_iff.mp hr
    cases hr
    (refine xAAA (hdr_ok hh) fun h1 h2 h3 h4 => ?_)
    simp only [bfOf, List.length_cons, List.length_nil, List.map_cons, List.map_nil, if_true, Nat.reduceAdd, Option.bind_some, Sr.dat, List.getD_cons_zero, List.getD_cons_succ]
    simp only [Mf.fn, Mf.seq, Mf.bind, Mf.lift, Mf.pure, Mo.attr, frB_nil, frB_cons]
    rw [lcRun_pure (σ1 := σ) (d := .ref j) (x := ⟨ps.map pD, fun σ => σ[j]? = some (.lst (ps.map pD))⟩) (fun _ => True) (fun _ => true) (fun d => match d with
      | .tup [_, b] => b
      | _ => .none) (by simp only [Mo.bind, Mo.var, upd_same, Option.map_some, ↓reduceIte, h1, lookup_one]) (by unfold srcD; simp only [h2]) h2 trivial (fun d hd fr _ => by
        (refine xEA (List.mem_map.mp hd) fun p hp q0z => ?_; subst q0z)
        refine ⟨rfl, trivial, rfl, fun _ => ⟨setPair "k" "v" (pD p) fr, trivial, ?_⟩⟩
        simp only [emOne, setPair, pD, Mo.var, upd_same, Option.map_some])]
    simp only [filter_true, List.map_map]
    rw [if_pos (by rw [List.length_map]; have e : sizeLine = 16777216 := rfl; omega)]
    rfl
  (refine xEA body fun m hm hs => ?_; try clear body)
  refine Fn.mono (Fn.at h (ok_139 _) (Bnd.plan (by exact ⟨trivial, trivial⟩) ?_) ?_ hm) hs
  · intro S vs kw hv hk
    refine Eq.trans (congrArg (fun K => peek K S _) h) ?_
    (refine xE (len1 hv) fun v0 q0z => ?_; subst q0z)
    obtain rfl := kw0 hk
    kernel_rfl
  · exact bfOf_all (by kernel_rfl)
theorem f_items : Fn G true 6 146 sItems := by
  have body : ∃ m, Exs G true 5 (scopeAt (K2 G.w.params) 146) (bodyAt (K2 G.w.params) 146) m ∧ ∀ ds kd σ r, sItems ds kd σ = some r → ((bfOf 1 [] [("self", .pos 0)] ds kd).bind fun bd => Mf.fn m (frB bd fun _ => none) σ) = some r := by
    refine ⟨_, (Exs.cons (Ex.ret (Ev.slcR (ml := none) (mh := none) (ms := none) (at_headers h (Ev.loc rfl rfl)) trivial trivial trivial))
    Exs.nil), ?_⟩
    intro ds kd σ r hr
    replace hr := on1_inv dRef_eq hr
    obtain ⟨k, rfl, rfl, hr⟩ := hr
    obtain ⟨⟨j, ps⟩, hh, hr⟩ := Option.map_eq_some_iff.mp hr
    cases hr
    (refine xAAA (hdr_ok hh) fun h1 h2 h3 h4 => ?_)
    simp only [bfOf, List.length_cons, List.length_nil, List.map_cons, List.map_nil, if_true, Nat.reduceAdd, Option.bind_some, Sr.dat, List.getD_cons_zero, List.getD_cons_succ]
    simp only [Mf.fn, Mf.seq, Mf.bind, Mf.lift, Mf.pure, Mo.bind, Mo.pure, Mo.var, Mo.attr, frB_nil, frB_cons, upd_same, Option.map_some, ↓reduceIte, Mo.slice, Mo.part, h1, lookup_one, lstOf, h2]
    rw [if_pos (by simp)]
    simp only [sliceD_all, Mf.pure, Option.map_some]
  (refine xEA body fun m hm hs => ?_; try clear body)
  refine Fn.mono (Fn.at h (ok_146 _) (Bnd.plan (by exact ⟨trivial, trivial⟩) ?_) ?_ hm) hs
  · intro S vs kw hv hk
    refine Eq.trans (congrArg (fun K => peek K S _) h) ?_
    (refine xE (len1 hv) fun v0 q0z => ?_; subst q0z)
    obtain rfl := kw0 hk
    kernel_rfl
  · exact bfOf_all (by kernel_rfl)
end
end Mine
end
section
open PySem PySem.W PyProof.Rows PySem.Calls
set_option maxRecDepth 100000
set_option maxHeartbeats 4000000
namespace Mine
section
theorem isIns_ok {σ : List AO} {k : Nat} {name : PySem.Str} {d : D} (h : σ[k]? = some (.ins 182 [("_headers", d)])) (hn : name ≠ "_headers") : isIns 182 name (.ref k) σ = true := by
  unfold isIns
  simp only [h, List.lookup]
  have e : (name == ("_headers" : PySem.Str)) = false := by rw [beq_eq_false_iff_ne]; exact hn
  rw [e]
  rfl
theorem eqv_str (x y : PySem.Str) : PyData.eqv (.str x) (.str y) = (x == y) := by rfl
theorem short_le {x : PySem.Str} (h : shortS x = true) : x.length ≤ 1000 := by
  unfold shortS at h
  simp only [Bool.and_eq_true, decide_eq_true_eq] at h
  exact h.1
theorem short_asc {x : PySem.Str} (h : shortS x = true) : ∀ c ∈ x.cps.toList, c < 128 := by
  unfold shortS at h
  simp only [Bool.and_eq_true, List.all_eq_true, decide_eq_true_eq] at h
  exact h.2
theorem short_of {x : PySem.Str} (h1 : x.length ≤ 1000) (h2 : ∀ c ∈ x.cps.toList, c < 128) : shortS x = true := by
  unfold shortS
  simp only [Bool.and_eq_true, List.all_eq_true, decide_eq_true_eq]
  exact ⟨h1, h2⟩
theorem lower_short {x : PySem.Str} (h : shortS x = true) : Txt.lower x = ⟨x.cps.map lo1⟩ := lower_ascii (short_asc h)
theorem short_lower {x : PySem.Str} (h : shortS x = true) : shortS (Txt.lower x) = true := by
  rw [lower_short h]
  refine short_of (by show (x.cps.map lo1).size ≤ 1000; rw [Array.size_map]; exact short_le h) fun c hc => ?_
  simp only [Array.toList_map, List.mem_map] at hc
  (refine xEA hc fun d hd q0z => ?_; try clear hc; subst q0z)
  have := short_asc h d hd
  unfold lo1
  split
  · simp_all; omega
  · exact this
theorem py_str (σ : List AO) {x : PySem.Str} (hx : shortS x = true) : py σ (.str x) = some (.str x) := by
  unfold py
  simp only [pyD_str, Option.bind_some]
  rw [if_pos]
  unfold SeqAt.shaped
  have e : PyData.strOk x = true := by
    unfold PyData.strOk
    rw [Array.all_eq_true']
    intro c hc
    have := short_asc hx c (by simpa using hc)
    simp; omega
  simp [PyData.canLay0, PyData.depth, e]
theorem shortS_le {x : PySem.Str} (h : shortS x = true) : x.length ≤ 5592405 := by have := short_le h; omega
theorem fIdx_0 (σ : List AO) (a b : D) : fIdx σ (.tup [a, b]) (.int 0) = some a := by kernel_rfl
theorem fIdx_1 (σ : List AO) (a b : D) : fIdx σ (.tup [a, b]) (.int 1) = some b := by kernel_rfl
theorem opEq_str (σ : List AO) {x y : PySem.Str} (hx : shortS x = true) (hy : shortS y = true) : opEq (.str x) (.str y) σ = some (.val (.bool (x == y)), σ) := by
  unfold opEq
  rw [py_str σ hx, py_str σ hy]
  rfl
end
section
variable {G : Amb} (h : G.K = K2 G.w.params)
include h
noncomputable def sGetall : Fm := on2 dRef dStr fun k x σ => if shortS x = true ∧ (Txt.lower x).cps.toList.any ctlN = false then (hdr σ k).map fun r => (.val (.ref σ.length), σ ++ [.lst ((r.2.filter fun p => Txt.lower p.1 == Txt.lower x).map fun p => .str p.2)]) else none
theorem f_getall : Fn G true 6 121 sGetall := by
  have body : ∃ m, Exs G true 5 (scopeAt (K2 G.w.params) 121) (bodyAt (K2 G.w.params) 121) m ∧ ∀ ds kd σ r, sGetall ds kd σ = some r → ((bfOf 2 [] [("self", .pos 0), ("name", .pos 1)] ds kd).bind fun bd => Mf.fn m (frB bd fun _ => none) σ) = some r := by
    refine ⟨_, (Exs.cons (Ex.asgn (Ev.methI (i1_83 h) (i2_83 h) (i3_83 h) (i4_83 h) (Ev.loc rfl rfl) (ms := [_]) (mk := [("name", _)]) ⟨(Ev.methS F.slot_str_lower F.type_str_lower (Ev.cel rfl rfl) (ms := []) (mk := []) trivial trivial Ca.lower), trivial⟩ ⟨rfl, Ev.kBool, trivial⟩ ((f_conv h).up (by omega)).ca) (As.name (Or.inr rfl)) (sw_of fun env => ⟨rfl, by kernel_rfl, by kernel_rfl⟩))
    (Exs.cons (Ex.ret (Ev.lcR (CompL.one (W := []) (at_headers h (Ev.loc rfl rfl)) (AsC.name rfl) (Ts.one (Cd.cmp (Ev.methS F.slot_str_lower F.type_str_lower (Ev.sub (Ev.loc rfl rfl) Ev.kInt Op2.idx rfl) (ms := []) (mk := []) trivial trivial Ca.lower) (Ev.cel rfl rfl) (Op2.eq (by omega)))) (Ev.sub (Ev.loc rfl rfl) Ev.kInt Op2.idx rfl) (by first | rfl | kernel_rfl))))
    Exs.nil)), ?_⟩
    intro ds kd σ r hr
    replace hr := on2_inv dRef_eq dStr_eq hr
    obtain ⟨k, x, rfl, rfl, hr⟩ := hr
    replace hr := ite_inv hr
    obtain ⟨hx, hr⟩ := hr
    obtain ⟨⟨j, ps⟩, hh, hr⟩ := Option.map_eq_some_iff.mp hr
    cases hr
    (refine xAAA (hdr_ok hh) fun h1 h2 h3 h4 => ?_)
    have i1 : isIns 182 "_convert_string_type" (.ref k) σ = true := isIns_ok h1 (by rw [Ne, ofs_inj]; decide)
    simp only [bfOf, List.length_cons, List.length_nil, List.map_cons, List.map_nil, if_true, Nat.reduceAdd, Option.bind_some, Sr.dat, List.getD_cons_zero, List.getD_cons_succ]
    simp only [Mf.fn, Mf.seq, Mf.bind, Mf.lift, Mf.set, Mf.pure, Mo.op2, Mo.bind, Mo.args, seq_nil, seq_cons, seqK_nil, seqK_cons, Mo.pure, Mo.var, Mo.tru, Mo.meth, Mo.chk, Mo.attr, frB_nil, frB_cons, upd_same, upd_diff, one1_at, Option.map_some, ↓reduceIte, Bool.false_eq_true, String.reduceBEq, isStr_str, i1, fLower, sConv_str, sConv_int, shortS_le hx.1, hx.2]
    rw [lcRun_pure (σ1 := σ) (d := .ref j) (x := ⟨ps.map pD, fun σ => σ[j]? = some (.lst (ps.map pD))⟩) (fun fr => fr "name" = some (.str (Txt.lower x))) (fun d => match d with
      | .tup [.str a, _] => Txt.lower a == Txt.lower x
      | _ => false) (fun d => match d with
      | .tup [_, b] => b
      | _ => .none) (by simp only [Mo.bind, Mo.var, upd_same, upd_diff, Option.map_some, ↓reduceIte, String.reduceBEq, h1, lookup_one]) (by unfold srcD; simp only [h2]) h2 (by
        unfold frIn
        rw [if_pos (by kernel_rfl)]
        simp only [upd_same]) (fun d hd fr hI => by
        (refine xEA (List.mem_map.mp hd) fun p hp q0z => ?_; subst q0z)
        have hI' : upd fr "kv" (pD p) "name" = some (.str (Txt.lower x)) := by simp only [upd_diff, String.reduceBEq]; exact hI
        refine ⟨rfl, hI', ?_, fun _ => ⟨upd fr "kv" (pD p), hI', ?_⟩⟩
        · simp only [Mo.bind, Mo.pure, Mo.var, Mo.opt, Mo.chk, upd_same, upd_diff, one1_at, Option.map_some, ↓reduceIte, String.reduceBEq, isStr_str, truD_bool, fLower_str, pD, sub_tup, fIdx_0, shortS_le (h4 p hp).1, hI, opEq_str σ (short_lower (h4 p hp).1) (short_lower hx.1)]
        · simp only [emOne, pD, Mo.bind, Mo.pure, Mo.var, upd_same, Option.map_some, ↓reduceIte, sub_tup, fIdx_1])]
    simp only [List.filter_map, List.map_map]
    rw [if_pos (by rw [List.length_map]; have e : sizeLine = 16777216 := rfl; have := List.length_filter_le (l := ps) (p := (fun d => match d with
      | .tup [.str a, _] => Txt.lower a == Txt.lower x
      | _ => false) ∘ pD); omega)]
    rfl
  (refine xEA body fun m hm hs => ?_; try clear body)
  refine Fn.mono (Fn.at h (ok_121 _) (Bnd.plan (by exact ⟨trivial, trivial, trivial⟩) ?_) ?_ hm) hs
  · intro S vs kw hv hk
    refine Eq.trans (congrArg (fun K => peek K S _) h) ?_
    (refine xEE (len2 hv) fun v0 v1 q0z => ?_; subst q0z)
    obtain rfl := kw0 hk
    kernel_rfl
  · exact bfOf_all (by kernel_rfl)
end
end Mine
end
section
open PySem PySem.W PyProof.Rows PySem.Calls
set_option maxRecDepth 100000
set_option maxHeartbeats 4000000
namespace Mine
section
theorem join_one (x y : PySem.Str) : Txt.join x [y] = y := by rfl
theorem joinOk_one {x y : PySem.Str} (hx : x.length ≤ 1000) (hy : y.length ≤ 1000) : JoinOk x [y] = true := by
  unfold JoinOk Builtin.Str.tooLong
  have e : sizeLine = 16777216 := rfl
  simp
  omega
end
section
variable {G : Amb} (h : G.K = K2 G.w.params)
include h
/-- the table gets a row -/
noncomputable def addH (σ : List AO) (n v : D) (r : Nat × List (PySem.Str × PySem.Str)) : Option (Out D × List AO) := match n with
  | .str nm => (match v with
    | .str vl => if shortS nm = true ∧ shortS vl = true then some (if vl.cps.toList.any ctlV then (.exc "ValueError" msgV, σ ++ [.lst []]) else if nm.cps.toList.any ctlN then (.exc "ValueError" msgV, σ ++ [.lst [.str vl]]) else (.val .none, (σ ++ [AO.lst [.str vl]]).set r.1 (.lst (r.2.map pD ++ [pD (nm, vl)])))) else none
    | .int i => if i = 5 then some (.exc "AssertionError" fmtY, σ ++ [.lst []]) else none
    | _ => none)
  | .int i => (match v with
    | .str vl => if i = 5 ∧ shortS vl = true ∧ vl.cps.toList.any ctlV = false then some (.exc "AssertionError" fmtY, σ ++ [.lst [.str vl]]) else none
    | _ => none)
  | _ => none
omit h in
theorem addH_ss {σ : List AO} {nm vl : PySem.Str} {r : Nat × List (PySem.Str × PySem.Str)} : addH σ (.str nm) (.str vl) r = if shortS nm = true ∧ shortS vl = true then some (if vl.cps.toList.any ctlV then (.exc "ValueError" msgV, σ ++ [.lst []]) else if nm.cps.toList.any ctlN then (.exc "ValueError" msgV, σ ++ [.lst [.str vl]]) else (.val .none, (σ ++ [AO.lst [.str vl]]).set r.1 (.lst (r.2.map pD ++ [pD (nm, vl)])))) else none := rfl
omit h in
theorem addH_is {σ : List AO} {i : Int} {vl : PySem.Str} {r : Nat × List (PySem.Str × PySem.Str)} : addH σ (.int i) (.str vl) r = if i = 5 ∧ shortS vl = true ∧ vl.cps.toList.any ctlV = false then some (.exc "AssertionError" fmtY, σ ++ [.lst [.str vl]]) else none := rfl
omit h in
theorem addH_si {σ : List AO} {i : Int} {nm : PySem.Str} {r : Nat × List (PySem.Str × PySem.Str)} : addH σ (.str nm) (.int i) r = if i = 5 then some (.exc "AssertionError" fmtY, σ ++ [.lst []]) else none := rfl
noncomputable def sAdd : Fm := fun ds kd σ => match ds, kd with
  | [.ref k, n, v], [] => (hdr σ k).bind (addH σ n v)
  | _, _ => none
theorem f_add : Fn G true 6 179 sAdd := by
  have body : ∃ m, Exs G true 5 (scopeAt (K2 G.w.params) 179) (bodyAt (K2 G.w.params) 179) m ∧ ∀ ds kd σ r, sAdd ds kd σ = some r → ((bfKw 3 [] [("self", .pos 0), ("_name", .pos 1), ("_value", .pos 2)] "_params" ds kd).bind fun bd => Mf.fn m (frB bd fun _ => none) σ) = some r := by
    conv in (bodyAt _ _) => whnf
    generalize hE1 : Expr.Constant (Const.str "; ") 0 ⟨99, 75, 99, 79⟩ = E1
    have kE1 : ∀ {Z}, Ev G true 5 Z E1 (Mo.pure (.str "; ")) := fun {Z} => hE1 ▸ Ev.kStr (n := 5) (by decide +kernel)
    refine ⟨_, (Exs.cons (Ex.asgn (Ev.lstR (ms := []) trivial rfl) (As.name (Or.inl rfl)) (sw_of fun env => ⟨rfl, by kernel_rfl, by kernel_rfl⟩))
    (Exs.cons (Ex.ite (Cd.cmp (Ev.loc rfl rfl) Ev.kNone (Op2.isNot))
      (Exs.cons (Ex.asgn (Ev.methI (i1_83 h) (i2_83 h) (i3_83 h) (i4_83 h) (Ev.loc rfl rfl) (ms := [_]) (mk := [("name", _)]) ⟨(Ev.loc rfl rfl), trivial⟩ ⟨rfl, Ev.kBool, trivial⟩ ((f_conv h).up (by omega)).ca) (As.name (Or.inl rfl)) (sw_of fun env => ⟨rfl, by kernel_rfl, by kernel_rfl⟩))
      (Exs.cons (Ex.expr (Ev.methL F.slot_list_append F.type_list_append (Ev.loc rfl rfl) (ms := [_]) (mk := []) ⟨(Ev.loc rfl rfl), trivial⟩ trivial Ca.append))
      Exs.nil))
      Exs.nil)
    (Exs.cons (Ex.for (Itr.items (Ev.loc rfl rfl))
      (As.tup (fs := [_, _]) ⟨(As.name (Or.inl rfl)), (As.name (Or.inl rfl)), trivial⟩ rfl) Exs.dead)
    (Exs.cons (Ex.expr (Ev.methL F.slot_list_append F.type_list_append (at_headers h (Ev.loc rfl rfl)) (ms := [_]) (mk := []) ⟨(Ev.tup (ms := [_, _]) ⟨(Ev.methI (i1_83 h) (i2_83 h) (i3_83 h) (i4_83 h) (Ev.loc rfl rfl) (ms := [_]) (mk := [("name", _)]) ⟨(Ev.loc rfl rfl), trivial⟩ ⟨rfl, Ev.kBool, trivial⟩ ((f_conv h).up (by omega)).ca), (Ev.methS F.slot_str_join F.type_str_join kE1 (ms := [_]) (mk := []) ⟨(Ev.loc rfl rfl), trivial⟩ trivial Ca.join (hbase := fun _ => by rw [← hE1]; rfl)), trivial⟩ rfl), trivial⟩ trivial Ca.append))
    Exs.nil)))), ?_⟩
    intro ds kd σ r hr
    have hr0 := three_inv (F := fun ds kd => sAdd ds kd σ) (fun _ => rfl) (fun a _ => by cases a <;> rfl) (fun a _ _ => by cases a <;> rfl) (fun a _ _ _ _ _ => by cases a <;> rfl) (fun a _ _ _ _ => by cases a <;> rfl) hr
    clear hr
    refine xEEEAA hr0 fun a n v e1 e2 hr => ?_
    clear hr0
    subst e1
    subst e2
    cases a with
    | none | bool | int | str | tup | lst | dct | glob | exc | rng => exact nnS hr
    | ref k =>
    refine xEA (Option.bind_eq_some_iff.mp (show (hdr σ k).bind (addH σ n v) = some r from hr)) fun jps hh hr' => ?_
    obtain ⟨j, ps⟩ := jps
    clear hr
    have hr := hr'
    clear hr'
    obtain ⟨h1, h2, h3, h4⟩ := hdr_ok hh
    have i0 : ∀ τ, isIns 182 "_convert_string_type" (.ref k) (σ ++ τ) = true := fun τ => isIns_ok (get_old h1) (by rw [Ne, ofs_inj]; decide)
    have g1 : ∀ τ, (σ ++ τ)[k]? = some (.ins 182 [("_headers", .ref j)]) := fun τ => get_old h1
    have g2 : ∀ τ, (σ ++ τ)[j]? = some (.lst (ps.map pD)) := fun τ => get_old h2
    have r1 : ∀ xs, isRefL (.ref σ.length) (σ ++ [.lst xs]) = true := fun xs => by unfold isRefL; simp only [get_last]
    have r2 : ∀ xs, isRefL (.ref j) (σ ++ [.lst xs]) = true := fun xs => by unfold isRefL; simp only [g2]
    have szp : ((ps.map pD).length + 1 ≤ sizeLine) = True := eq_true (by rw [List.length_map]; have e : sizeLine = 16777216 := rfl; omega)
    have l1 : ∀ xs, lstOf (.ref σ.length) (σ ++ [.lst xs]) = some xs := fun xs => by unfold lstOf; simp only [get_last]
    simp only [bfKw, List.length_cons, List.length_nil, List.map_cons, List.map_nil, if_true, Nat.reduceAdd, Option.bind_some, Sr.dat, List.getD_cons_zero, List.getD_cons_succ, List.cons_append, List.nil_append]
    cases n with
    | none | bool | tup | lst | dct | ref | glob | exc | rng => exact nnS hr
    | str nm => cases v with
     | none | bool | tup | lst | dct | ref | glob | exc | rng => exact nnS hr
     | str vl =>
      replace hr := ite_inv hr
      obtain ⟨hs, hr⟩ := hr
      cases hr
      cases hv : vl.cps.toList.any ctlV with
      | true => simp only [Mf.fn, Mf.seq, Mf.bind, Mf.lift, Mf.set, Mf.pure, Mo.op2, Mo.bind, Mo.args, seq_nil, seq_cons, seqK_nil, seqK_cons, Mo.pure, Mo.var, Mo.tru, Mo.opt, Mo.meth, Mo.chk, Mo.lstR, Mo.guard, frB_nil, frB_cons, upd_same, upd_diff, Option.map_some, ↓reduceIte, fIs_str, Bool.false_eq_true, String.reduceBEq, List.length_nil, truD_bool, decide_true, sz0, Bool.not_false, i0, r1, g1, g2, sConv_str, sConv_int, Mo.lstR, Mo.items, itemsOf, List.all_nil, List.map_nil, each_nil, fAppend, get_last, set_last, hv]
      | false =>
        cases hn : nm.cps.toList.any ctlN with
        | true => simp only [Mf.fn, Mf.seq, Mf.bind, Mf.lift, Mf.set, Mf.pure, Mo.op2, Mo.bind, Mo.args, seq_nil, seq_cons, seqK_nil, seqK_cons, Mo.pure, Mo.var, Mo.tru, Mo.opt, Mo.meth, Mo.chk, Mo.attr, Mo.tup, Mo.lstR, Mo.guard, frB_nil, frB_cons, upd_same, upd_diff, one2_at, Option.map_some, ↓reduceIte, fIs_str, Bool.false_eq_true, String.reduceBEq, List.nil_append, List.length_nil, Nat.reduceAdd, truD_bool, decide_true, sz0, sz1, Bool.not_false, i0, r1, r2, g1, g2, sConv_str, sConv_int, Mo.lstR, Mo.items, itemsOf, List.all_nil, List.map_nil, each_nil, fAppend, get_last, set_last, hv, hn, lookup_one]
        | false =>
          simp only [Mf.fn, Mf.seq, Mf.bind, Mf.lift, Mf.set, Mf.pure, Mo.op2, Mo.bind, Mo.args, seq_nil, seq_cons, seqK_nil, seqK_cons, Mo.pure, Mo.var, Mo.tru, Mo.opt, Mo.meth, Mo.chk, Mo.attr, Mo.tup, Mo.lstR, Mo.guard, frB_nil, frB_cons, upd_same, upd_diff, one2_at, Option.map_some, Option.bind_some, ↓reduceIte, fIs_str, Bool.false_eq_true, String.reduceBEq, List.nil_append, List.length_cons, List.length_nil, Nat.reduceAdd, isStr_str, truD_bool, decide_true, sz0, sz1, sz2, Bool.not_false, i0, r1, r2, g1, g2, sConv_str, sConv_int, Mo.lstR, Mo.items, itemsOf, List.all_nil, List.map_nil, each_nil, fAppend, get_last, set_last, hv, hn, lookup_one, fJoin, l1, strsOf, joinOk_one (show (PySem.Str.ofString "; ").length ≤ 1000 by decide +kernel) (short_le hs.2), join_one, szp]
          rfl
     | int i =>
      replace hr := ite_inv hr
      obtain ⟨hi, hr⟩ := hr
      subst hi
      cases hr
      simp only [Mf.fn, Mf.seq, Mf.bind, Mf.lift, Mf.set, Mf.pure, Mo.op2, Mo.bind, Mo.args, seq_nil, seq_cons, seqK_nil, seqK_cons, Mo.pure, Mo.var, Mo.tru, Mo.opt, Mo.meth, Mo.chk, Mo.lstR, Mo.guard, frB_nil, frB_cons, upd_same, upd_diff, Option.map_some, ↓reduceIte, fIs_int, String.reduceBEq, List.length_nil, truD_bool, decide_true, sz0, Bool.not_false, i0, r1, g1, g2, sConv_str, sConv_int, Mo.lstR, Mo.items, itemsOf, List.all_nil, List.map_nil, each_nil, fAppend, get_last, set_last, lookup_one]
    | int i => cases v with
     | none | bool | int | tup | lst | dct | ref | glob | exc | rng => exact nnS hr
     | str vl =>
      replace hr := ite_inv hr
      obtain ⟨hs, hr⟩ := hr
      obtain ⟨rfl, hs1, hs2⟩ := hs
      cases hr
      simp only [Mf.fn, Mf.seq, Mf.bind, Mf.lift, Mf.set, Mf.pure, Mo.op2, Mo.bind, Mo.args, seq_nil, seq_cons, seqK_nil, seqK_cons, Mo.pure, Mo.var, Mo.tru, Mo.opt, Mo.meth, Mo.chk, Mo.attr, Mo.tup, Mo.lstR, Mo.guard, frB_nil, frB_cons, upd_same, upd_diff, one2_at, Option.map_some, ↓reduceIte, fIs_str, Bool.false_eq_true, String.reduceBEq, List.nil_append, List.length_nil, Nat.reduceAdd, truD_bool, decide_true, sz0, sz1, Bool.not_false, i0, r1, r2, g1, g2, sConv_str, sConv_int, Mo.lstR, Mo.items, itemsOf, List.all_nil, List.map_nil, each_nil, fAppend, get_last, set_last, hs2, lookup_one]
  obtain ⟨m, hm, hs⟩ := body
  refine Fn.mono (Fn.at h (ok_179 _) (Bnd.planKw (by exact ⟨trivial, trivial, trivial, trivial⟩) .nil ?_) ?_ hm) hs
  · intro S vs kw hv hk
    refine Eq.trans (congrArg (fun K => pkA K S _) h) ?_
    obtain ⟨v0, v1, v2, rfl⟩ := len3 hv
    obtain rfl := kw0 hk
    kernel_rfl
  · intro ds kd bd hb
    unfold bfKw at hb
    split at hb
    · split at hb
      · cases hb; kernel_rfl
      · cases hb
    · cases hb
end
end Mine
end
section
open PySem PySem.W PyProof.Rows PySem.Calls
set_option maxRecDepth 100000
set_option maxHeartbeats 4000000
namespace Mine
section
noncomputable def msgT : PySem.Str := "Headers must be a list of name/value tuples"
noncomputable def cv (f : Nat → Bool) : D → Option (Option (String × PySem.Str))
  | .str x => some (if x.cps.toList.any f then some ("ValueError", msgV) else none)
  | .int i => if i = 5 then some (some ("AssertionError", fmtY)) else none
  | _ => none
/-- the first complaint about a list of pairs -/
noncomputable def cvP : D → Option (Option (String × PySem.Str))
  | .tup [a, b] => match cv ctlN a with
    | some none => cv ctlV b
    | some (some e) => some (some e)
    | none => none
  | _ => none
noncomputable def cvL (ds : List D) : Option (Option (String × PySem.Str)) := if ds.all (fun d => (cvP d).isSome) then some (ds.findSome? fun d => (cvP d).getD none) else none
noncomputable def outE : Option (String × PySem.Str) → Out D
  | none => .val .none
  | some e => .exc e.1 e.2
end
section
variable {G : Amb} (h : G.K = K2 G.w.params)
include h
noncomputable def initL (k j : Nat) (σ : List AO) : Option (Out D × List AO) := (pick fun ds => σ[k]? = some (.ins 182 []) ∧ σ[j]? = some (.lst ds)).bind fun ds => (cvL ds).map fun o => (outE o, σ.set k (.ins 182 [("_headers", .ref j)]))
noncomputable def sInit : Fm := fun ds kd σ => match ds, kd with
  | [.ref k, .ref j], [] => initL k j σ
  | [.ref k, .tup _], [] => some (.exc "TypeError" msgT, σ)
  | _, _ => none
theorem f_init : Fn G true 6 76 sInit := by
  have body : ∃ m, Exs G true 5 (scopeAt (K2 G.w.params) 76) (bodyAt (K2 G.w.params) 76) m ∧ ∀ ds kd σ r, sInit ds kd σ = some r → ((bfOf 2 [] [("self", .pos 0), ("headers", .pos 1)] ds kd).bind fun bd => Mf.fn m (frB bd fun _ => none) σ) = some r := by
    refine ⟨_, (Exs.cons (Ex.asgn (Ev.ite (Cd.cmp (Ev.loc rfl rfl) Ev.kNone (Op2.isNot)) (Ev.loc rfl rfl) (Ev.dead)) (As.name (Or.inl rfl)) (sw_of fun env => ⟨rfl, by kernel_rfl, by kernel_rfl⟩))
    (Exs.cons (Ex.ite (Cd.cmp (Ev.call (g_type h rfl) (ms := [_]) (mk := []) ⟨(Ev.loc rfl rfl), trivial⟩ trivial Kep.typ Ca.type) (g_list h rfl) (Op2.isNot))
      (Exs.cons (Ex.raise F.excCall_TypeError F.excRaise_TypeError rfl (b_TypeError h) rfl (by decide +kernel) rfl (Ev.kStr (by decide +kernel)) rfl)
      Exs.nil)
      Exs.nil)
    (Exs.cons (Ex.asgn (Ev.loc rfl rfl) (st_headers h (Ev.loc rfl rfl)) (sw_of fun env => ⟨rfl, by kernel_rfl, by kernel_rfl⟩))
    (Exs.cons (Ex.ite (Cd.val Ev.kBool)
      (Exs.cons (Ex.for (Itr.ev (Ev.loc rfl rfl))
        (As.tup (fs := [_, _]) ⟨(As.name (Or.inl rfl)), (As.name (Or.inl rfl)), trivial⟩ rfl)
        (Exs.cons (Ex.expr (Ev.methI (i1_83 h) (i2_83 h) (i3_83 h) (i4_83 h) (Ev.loc rfl rfl) (ms := [_]) (mk := [("name", _)]) ⟨(Ev.loc rfl rfl), trivial⟩ ⟨rfl, Ev.kBool, trivial⟩ ((f_conv h).up (by omega)).ca))
        (Exs.cons (Ex.expr (Ev.methI (i1_83 h) (i2_83 h) (i3_83 h) (i4_83 h) (Ev.loc rfl rfl) (ms := [_]) (mk := [("name", _)]) ⟨(Ev.loc rfl rfl), trivial⟩ ⟨rfl, Ev.kBool, trivial⟩ ((f_conv h).up (by omega)).ca))
        Exs.nil)))
      Exs.nil)
      Exs.nil)
    Exs.nil)))), ?_⟩
    intro ds kd σ r hr
    have hr0 := two_inv (F := fun ds kd => sInit ds kd σ) (fun _ => rfl) (fun a _ => by cases a <;> rfl) (fun a b _ _ _ => by cases a <;> first | rfl | (cases b <;> rfl)) (fun a b _ _ => by cases a <;> first | rfl | (cases b <;> rfl)) hr
    clear hr
    refine xEEAA hr0 fun a b e1 e2 hr => ?_
    clear hr0
    subst e1
    subst e2
    cases a with
    | none | bool | int | str | tup | lst | dct | glob | exc | rng => exact nnS hr
    | ref k => cases b with
     | none | bool | int | str | lst | dct | glob | exc | rng => exact nnS hr
     | ref j =>
      refine xEA (Option.bind_eq_some_iff.mp (show initL k j σ = some r from hr)) fun ds hp hr => ?_
      refine xA (pick_ok (P := fun ds => σ[k]? = some (.ins 182 []) ∧ σ[j]? = some (.lst ds)) hp) fun hk hj => ?_
      clear hp
      (refine xEA (Option.map_eq_some_iff.mp hr) fun o ho hr => ?_)
      cases hr
      have hkj : k ≠ j := fun e => by subst e; rw [hk] at hj; cases hj
      have hlt : k < σ.length := (List.getElem?_eq_some_iff.mp hk).1
      have hk' : (σ.set k (.ins 182 [("_headers", .ref j)]))[k]? = some (.ins 182 [("_headers", .ref j)]) := by simp [hlt]
      have hj' : (σ.set k (.ins 182 [("_headers", .ref j)]))[j]? = some (.lst ds) := by rw [List.getElem?_set_ne hkj]; exact hj
      have i0 : isIns 182 "_convert_string_type" (.ref k) (σ.set k (.ins 182 [("_headers", .ref j)])) = true := isIns_ok hk' (by rw [Ne, ofs_inj]; decide)
      unfold cvL at ho
      split at ho
      rotate_left
      · cases ho
      rename_i hall
      cases ho
      simp only [bfOf, List.length_cons, List.length_nil, List.map_cons, List.map_nil, if_true, Nat.reduceAdd, Option.bind_some, Sr.dat, List.getD_cons_zero, List.getD_cons_succ]
      simp only [Mf.fn, Mf.seq, Mf.bind, Mf.lift, Mf.set, Mf.pure, Mo.op2, Mo.bind, Mo.calF, Mo.args, seq_nil, seq_cons, seqK_nil, seqK_cons, Mo.pure, Mo.var, Mo.tru, Mo.opt, Mo.ite, Mo.meth, frB_nil, frB_cons, upd_same, upd_diff, one1_at, Option.map_some, ↓reduceIte, fIs_ref, fIs_type, Bool.false_eq_true, beq_self_eq_true, String.reduceBEq, List.nil_append, List.length_nil, fType_ref, truD_bool, Bool.not_false, Bool.not_true, and_self, lstOf, hj, Mf.setA, hk, List.lookup_nil, Nat.reduceLT, Mo.src, srcD, hj']
      generalize hE : Mf.each _ _ _ _ _ _ = z
      have key : ∃ fr', z = some (outN (ds.findSome? fun d => (cvP d).getD none), fr', σ.set k (.ins 182 [("_headers", .ref j)])) := by
        rw [← hE]
        refine Exists.imp (fun fr' hh => hh.2) (each_find (fun fr => fr "self" = some (.ref k)) hj' (fun d => (cvP d).getD none) (fun d hd fr hI => ?_) _ ?_)
        · have hc := List.all_eq_true.mp hall d hd
          cases hd' : cvP d with
          | none => rw [hd'] at hc; cases hc
          | some o =>
          unfold cvP at hd'
          split at hd'
          rotate_left
          · cases hd'
          rename_i a b
          refine ⟨upd (upd fr "k" a) "v" b, by simp only [upd_diff, String.reduceBEq]; exact hI, ?_⟩
          split at hd'
          · rename_i ha
            unfold cv at ha hd'
            split at ha
            · rename_i xa
              split at ha
              · cases ha
              · rename_i hxa
                have hxa' : xa.cps.toList.any ctlN = false := by simpa using hxa
                split at hd'
                · rename_i xb
                  cases hd'
                  cases hxb : xb.cps.toList.any ctlV with
                  | true => simp only [turn, Mf.bind, Mf.lift, Mf.set, Mf.pure, Mo.bind, Mo.pure, Mo.var, Mo.chk, upd_same, upd_diff, Option.map_some, ↓reduceIte, Bool.false_eq_true, String.reduceBEq, List.length_cons, List.length_nil, Nat.reduceAdd, tupA_tup, goA_nil, goA_cons, hI, i0, sConv_str, sConv_int, hxa', hxb, outN, Option.getD_some]
                  | false => simp only [turn, Mf.bind, Mf.lift, Mf.set, Mf.pure, Mo.bind, Mo.pure, Mo.var, Mo.chk, upd_same, upd_diff, Option.map_some, ↓reduceIte, Bool.false_eq_true, String.reduceBEq, List.length_cons, List.length_nil, Nat.reduceAdd, tupA_tup, goA_nil, goA_cons, hI, i0, sConv_str, sConv_int, hxa', hxb, outN, Option.getD_some]
                · rename_i ib
                  split at hd'
                  · rename_i hb
                    subst hb
                    cases hd'
                    simp only [turn, Mf.bind, Mf.lift, Mf.set, Mf.pure, Mo.bind, Mo.pure, Mo.var, Mo.chk, upd_same, upd_diff, Option.map_some, ↓reduceIte, Bool.false_eq_true, String.reduceBEq, List.length_cons, List.length_nil, Nat.reduceAdd, tupA_tup, goA_nil, goA_cons, hI, i0, sConv_str, sConv_int, hxa', outN, Option.getD_some]
                  · cases hd'
                · cases hd'
            · split at ha <;> cases ha
            · cases ha
          · rename_i e ha
            cases hd'
            unfold cv at ha
            split at ha
            · rename_i xa
              split at ha
              · rename_i hxa
                cases ha
                simp only [turn, Mf.bind, Mf.lift, Mf.set, Mf.pure, Mo.bind, Mo.pure, Mo.var, Mo.chk, upd_same, upd_diff, Option.map_some, ↓reduceIte, String.reduceBEq, List.length_cons, List.length_nil, Nat.reduceAdd, tupA_tup, goA_nil, goA_cons, hI, i0, sConv_str, sConv_int, hxa, outN, Option.getD_some]
              · cases ha
            · rename_i ia
              split at ha
              · rename_i hia
                subst hia
                cases ha
                simp only [turn, Mf.bind, Mf.lift, Mf.set, Mf.pure, Mo.bind, Mo.pure, Mo.var, Mo.chk, upd_same, upd_diff, Option.map_some, ↓reduceIte, String.reduceBEq, List.length_cons, List.length_nil, Nat.reduceAdd, tupA_tup, goA_nil, goA_cons, hI, i0, sConv_str, sConv_int, outN, Option.getD_some]
              · cases ha
            · cases ha
          · cases hd'
        · simp only [upd_same, upd_diff, String.reduceBEq]
      (refine xE key fun fr' e => ?_; try clear key)
      rw [e]
      cases ds.findSome? fun d => (cvP d).getD none with
      | none => simp only [Mf.pure, outN, outE]
      | some e => simp only [outN, outE]
     | tup ds =>
      cases hr
      simp only [bfOf, List.length_cons, List.length_nil, List.map_cons, List.map_nil, if_true, Nat.reduceAdd, Option.bind_some, Sr.dat, List.getD_cons_zero, List.getD_cons_succ]
      simp only [Mf.fn, Mf.seq, Mf.bind, Mf.lift, Mf.set, Mf.pure, Mo.op2, Mo.bind, Mo.calF, Mo.args, seq_nil, seq_cons, seqK_nil, Mo.pure, Mo.var, Mo.tru, Mo.opt, Mo.ite, frB_nil, frB_cons, upd_same, one1_at, Option.map_some, ↓reduceIte, fIs_tup, fIs_type, String.reduceBEq, fType_tup, truD_bool, Bool.not_false]
      rfl
  (refine xEA body fun m hm hs => ?_; try clear body)
  refine Fn.mono (Fn.at h (ok_76 _) (Bnd.plan (by exact ⟨trivial, trivial, trivial⟩) ?_) ?_ hm) hs
  · intro S vs kw hv hk
    refine Eq.trans (congrArg (fun K => peek K S _) h) ?_
    (refine xEE (len2 hv) fun v0 v1 q0z => ?_; subst q0z)
    obtain rfl := kw0 hk
    kernel_rfl
  · exact bfOf_all (by kernel_rfl)
end
end Mine
end
section
open PySem PySem.W PyProof.Rows PySem.Calls
set_option maxRecDepth 100000
set_option maxHeartbeats 4000000
namespace Mine
section
theorem lcEach_run {β : Type} {P : List AO → Prop} {tgt : D → Fr → Fr} {ok : D → Bool} {test : Mo Bool} {em : Em β} (J : Nat → Fr → List AO → Prop) (f : Nat → β) {ds : List D}
    (step : ∀ i d fr σ, ds[i]? = some d → J i fr σ → P σ ∧ ok d = true ∧ test (tgt d fr) σ = some (.val true, σ) ∧ ∃ fr' σ', em (tgt d fr) σ = some ([f i], fr', σ') ∧ J (i + 1) fr' σ') (hP : ∀ fr σ, J ds.length fr σ → P σ) {fr : Fr} {σ : List AO} (h0 : J 0 fr σ) :
    ∃ fr' σ', lcEach P tgt ok test em ds fr σ = some ((List.range ds.length).map f, fr', σ') ∧ J ds.length fr' σ' := by
  have key : ∀ (es : List D) (i : Nat) fr σ, i + es.length = ds.length → (∀ k, es[k]? = ds[i + k]?) → J i fr σ → ∃ fr' σ', lcEach P tgt ok test em es fr σ = some ((List.range' i es.length).map f, fr', σ') ∧ J ds.length fr' σ' := by
    intro es
    induction es with
    | nil =>
      intro i fr σ hl _ hJ
      rw [List.length_nil, Nat.add_zero] at hl
      rw [hl] at hJ
      exact ⟨fr, σ, by unfold lcEach; rw [if_pos (hP _ _ hJ)]; rfl, hJ⟩
    | cons d es ih =>
      intro i fr σ hl he hJ
      (refine xAAA (step i d fr σ (by have := he 0; simpa using this.symm) hJ) fun h1 h2 h3 w39z => ?_; refine xEEA w39z fun fr1 σ1 e1 hJ1 => ?_)
      (refine xEEA (ih (i + 1) fr1 σ1 (by rw [List.length_cons] at hl; omega) (fun k => by have := he (k + 1); rw [show i + 1 + k = i + (k + 1) by omega]; simpa using this) hJ1) fun fr2 σ2 e2 hJ2 => ?_)
      refine ⟨fr2, σ2, ?_, hJ2⟩
      unfold lcEach
      rw [if_pos h1, if_pos h2, h3]
      dsimp only
      rw [e1]
      dsimp only
      rw [e2]
      rfl
  (refine xEEA (key ds 0 fr σ (by omega) (fun k => by rw [Nat.zero_add]) h0) fun fr' σ' e hJ => ?_)
  exact ⟨fr', σ', by rw [e, List.range_eq_range'], hJ⟩
theorem lcEach_thr {β : Type} {P : List AO → Prop} {tgt : D → Fr → Fr} {ok : D → Bool} {test : Mo Bool} {em : Em β} (J : Nat → Fr → List AO → Prop) (f : Nat → β) {ds : List D} {zs : List β} {fr : Fr} {σ σ2 : List AO}
    (step : ∀ i d fr σ, ds[i]? = some d → J i fr σ → P σ ∧ ok d = true ∧ test (tgt d fr) σ = some (.val true, σ) ∧ ∃ fr' σ', em (tgt d fr) σ = some ([f i], fr', σ') ∧ J (i + 1) fr' σ') (hP : ∀ fr σ, J ds.length fr σ → P σ) (h0 : J 0 fr σ)
    (hend : ∀ fr' σ', J ds.length fr' σ' → σ' = σ2) (hz : (List.range ds.length).map f = zs) : ∃ fr', lcEach P tgt ok test em ds fr σ = some (zs, fr', σ2) := by
  (refine xEEA (lcEach_run J f step hP h0) fun fr' σ' e hJ => ?_)
  exact ⟨fr', by rw [e, hz, hend _ _ hJ]⟩
theorem lcRun_of {β : Type} {scope : Scope} {m : Mo D} {tgt : D → Fr → Fr} {ok : D → Bool} {test : Mo Bool} {em : Em β} {fr : Fr} {σ σ1 σ2 : List AO} {d : D} {x : Src} {zs : List β} (hm : m fr σ = some (.val d, σ1)) (hx : srcD d σ1 = some x)
    (h : ∃ fr', lcEach x.P tgt ok test em x.ds (frIn scope fr) σ1 = some (zs, fr', σ2)) : lcRun scope m tgt ok test em fr σ = some (zs, σ2) := by
  (refine xE h fun fr' e => ?_; try clear h)
  unfold lcRun
  rw [hm]
  dsimp only
  rw [hx]
  dsimp only [Option.bind]
  rw [e]
  rfl
theorem hdr_app {σ τ : List AO} {k j : Nat} {ps : List (PySem.Str × PySem.Str)} (h : hdr σ k = some (j, ps)) : hdr (σ ++ τ) k = some (j, ps) := by
  (refine xAAA (hdr_ok h) fun h1 h2 h3 h4 => ?_)
  exact hdr_of (get_old h1) (get_old h2) h3 h4
theorem py_int (σ : List AO) (a : Int) : py σ (.int a) = some (.int a) := by
  unfold py
  simp only [pyD_int, Option.bind_some]
  rw [if_pos]
  unfold SeqAt.shaped
  simp [PyData.canLay0, PyData.depth]
theorem opEq_int (σ : List AO) (a b : Int) : opEq (.int a) (.int b) σ = some (.val (.bool (a == b)), σ) := by
  unfold opEq
  rw [py_int σ a, py_int σ b]
  rfl
theorem opNe_int (σ : List AO) (a b : Int) : opNe (.int a) (.int b) σ = some (.val (.bool (!(a == b))), σ) := by
  unfold opNe
  rw [py_int σ a, py_int σ b]
  rfl
theorem opNe_str (σ : List AO) {x y : PySem.Str} (hx : shortS x = true) (hy : shortS y = true) : opNe (.str x) (.str y) σ = some (.val (.bool (!(x == y))), σ) := by
  unfold opNe
  rw [py_str σ hx, py_str σ hy]
  rfl
theorem fMod_two (a : Int) : fMod (.int a) (.int 2) = some (.int (a.fmod 2)) := by rfl
theorem len_map_range {α : Type} (f : Nat → α) (n : Nat) : ((List.range n).map f).length = n := by simp
noncomputable def ltr (i : Nat) : PySem.Str := ⟨#[97 + i]⟩
noncomputable def colOf (ps : List (PySem.Str × PySem.Str)) (i : Nat) : List PySem.Str := (ps.filter fun p => Txt.lower p.1 == ltr i).map (·.2)
theorem chars_abcd : chars "abcd" = [.str (ltr 0), .str (ltr 1), .str (ltr 2), .str (ltr 3)] := by kernel_rfl
theorem ltr_facts : ∀ i, i < 4 → shortS (ltr i) = true ∧ Txt.lower (ltr i) = ltr i ∧ (ltr i).cps.toList.any ctlN = false ∧ shortS (Txt.upper (ltr i)) = true ∧ Txt.lower (Txt.upper (ltr i)) = ltr i := by decide +kernel
end
section
variable {G : Amb} (h : G.K = K2 G.w.params)
include h
noncomputable def sCls : Fm := mfCls 182 sInit
theorem f_cls : Fn G true 7 182 sCls := Fn.cls (by rw [h]; rfl) (by rw [h]; rfl) (by rw [h]; rfl) (f_init h)
noncomputable def sColumns : Fm := on2 dRef dInt fun k b σ => (hdr σ k).map fun r => (.val (.dct ((List.range 4).map fun i => (ltr i, .ref (σ.length + i)))), σ ++ (List.range 4).map fun i => .lst ((colOf r.2 i).map .str))
theorem f_columns : Fn G true 7 210 sColumns := by
  have body : ∃ m, Exs G true 6 (scopeAt (K2 G.w.params) 210) (bodyAt (K2 G.w.params) 210) m ∧ ∀ ds kd σ r, sColumns ds kd σ = some r → ((bfOf 2 [] [("table", .pos 0), ("bits", .pos 1)] ds kd).bind fun bd => Mf.fn m (frB bd fun _ => none) σ) = some r := by
    refine ⟨_, (Exs.cons (Ex.ret (Ev.dcF (CompDct.one (W := []) (Ev.kStr (by decide +kernel)) (AsC.name rfl) Ts.nil (Ev.loc rfl rfl) (Ev.methI (i1_121 h) (i2_121 h) (i3_121 h) (i4_121 h) (Ev.cel rfl rfl) (ms := [_]) (mk := []) ⟨(Ev.ite (Cd.cmp (Ev.bin (Ev.cel rfl rfl) Ev.kInt Op2.mod) Ev.kInt (Op2.eq (by omega))) (Ev.methS F.slot_str_upper F.type_str_upper (Ev.loc rfl rfl) (ms := []) (mk := []) trivial trivial Ca.upper) (Ev.loc rfl rfl)), trivial⟩ trivial ((f_getall h).up (by omega)).ca) (by first | rfl | kernel_rfl))))
    Exs.nil), ?_⟩
    intro ds kd σ r hr
    replace hr := on2_inv dRef_eq dInt_eq hr
    obtain ⟨k, b, rfl, rfl, hr⟩ := hr
    obtain ⟨⟨j, ps⟩, hh, hr⟩ := Option.map_eq_some_iff.mp hr
    cases hr
    simp only [bfOf, List.length_cons, List.length_nil, List.map_cons, List.map_nil, if_true, Nat.reduceAdd, Option.bind_some, Sr.dat, List.getD_cons_zero, List.getD_cons_succ]
    simp only [Mf.fn, Mf.seq, Mf.bind, Mf.lift, Mf.pure, Mo.op2, Mo.args, seq_nil, seq_cons, seqK_nil, Mo.tru, Mo.ite, Mo.meth, frB_nil, frB_cons]
    rw [lcRun_of (σ1 := σ) (d := .str "abcd") (x := ⟨[.str (ltr 0), .str (ltr 1), .str (ltr 2), .str (ltr 3)], fun _ => True⟩) (zs := (List.range 4).map fun i => (ltr i, D.ref (σ.length + i))) (σ2 := σ ++ (List.range 4).map fun i => AO.lst ((colOf ps i).map .str)) (by simp only [Mo.pure]) (by unfold srcD; simp only [chars_abcd]) ?_]
    rotate_left
    · refine lcEach_thr (fun i fr σ' => fr "table" = some (.ref k) ∧ fr "bits" = some (.int b) ∧ σ' = σ ++ (List.range i).map fun i => AO.lst ((colOf ps i).map .str)) (fun i => (ltr i, D.ref (σ.length + i))) (fun i d fr σ' hd hJ => ?_) (fun _ _ _ => trivial) ⟨?_, ?_, by simp⟩ (fun fr' σ' hJ => hJ.2.2) rfl
      · (refine xAA hJ fun hJ1 hJ2 q0z => ?_; try clear hJ; subst q0z)
        have hi : i < 4 := (List.getElem?_eq_some_iff.mp hd).1
        have hd' : d = .str (ltr i) := by
          match i, hi with
          | 0, _ => simpa using hd.symm
          | 1, _ => simpa using hd.symm
          | 2, _ => simpa using hd.symm
          | 3, _ => simpa using hd.symm
        subst hd'
        (refine xAAA (ltr_facts i hi) fun f1 f2 f3 w40z => ?_; refine xA w40z fun f4 f5 => ?_)
        have hh' := hdr_app (τ := (List.range i).map fun i => AO.lst ((colOf ps i).map .str)) hh
        (refine xAAA (hdr_ok hh') fun h1 h2 h3 h4 => ?_)
        have i0 : isIns 182 "get_all" (.ref k) (σ ++ (List.range i).map fun i => AO.lst ((colOf ps i).map .str)) = true := isIns_ok h1 (by rw [Ne, ofs_inj]; decide)
        refine ⟨trivial, rfl, rfl, upd fr "letter" (.str (ltr i)), _, ?_, ⟨by simp only [upd_diff, String.reduceBEq]; exact hJ1, by simp only [upd_diff, String.reduceBEq]; exact hJ2, rfl⟩⟩
        have hl : (σ ++ (List.range i).map fun i => AO.lst ((colOf ps i).map .str)).length = σ.length + i := by simp
        have hg : ∀ y, Txt.lower y = ltr i → shortS y = true → sGetall [.ref k, .str y] [] (σ ++ (List.range i).map fun i => AO.lst ((colOf ps i).map .str)) = some (.val (.ref (σ.length + i)), σ ++ (List.range (i + 1)).map fun i => AO.lst ((colOf ps i).map .str)) := by
          intro y hy hs
          refine Eq.trans (on2_mk rfl rfl) ?_
          rw [if_pos ⟨hs, by rw [hy]; exact f3⟩, hh', hy, hl]
          simp only [hl, Option.map_some, List.range_succ, List.map_append, List.map_cons, List.map_nil, List.append_assoc, colOf, List.map_map]
          rfl
        simp only [emPair, Mo.bind, Mo.pure, Mo.var, Mo.opt, Mo.chk, upd_same, upd_diff, Option.map_some, ↓reduceIte, String.reduceBEq, truD_bool, hJ1, hJ2, i0, fMod_two, opEq_int]
        cases (b.fmod 2 == 1) with
        | true => simp only [Mo.bind, Mo.pure, Mo.var, Mo.chk, upd_same, one1_at, Option.map_some, ↓reduceIte, isStr_str, fUpper, shortS_le f1, hg _ f5 f4]
        | false => simp only [Mo.var, upd_same, Option.map_some, ↓reduceIte, Bool.false_eq_true, hg _ f2 f1]
      · unfold frIn
        rw [if_pos (by kernel_rfl)]
        simp only [upd_same, upd_diff, String.reduceBEq]
      · unfold frIn
        rw [if_pos (by kernel_rfl)]
        simp only [upd_same]
    · have hgd : GoodD ((List.range 4).map fun i => (ltr i, D.ref (σ.length + i))) := ⟨by simp only [List.map_map]; show ((List.range 4).map ltr).Nodup; decide +kernel, by rw [len_map_range]; decide⟩
      simp only [if_pos hgd, Mf.pure, Option.map_some]
  (refine xEA body fun m hm hs => ?_; try clear body)
  refine Fn.mono (Fn.at h (ok_210 _) (Bnd.plan (by exact ⟨trivial, trivial, trivial⟩) ?_) ?_ hm) hs
  · intro S vs kw hv hk
    refine Eq.trans (congrArg (fun K => peek K S _) h) ?_
    (refine xEE (len2 hv) fun v0 v1 q0z => ?_; subst q0z)
    obtain rfl := kw0 hk
    kernel_rfl
  · exact bfOf_all (by kernel_rfl)
end
end Mine
end
section
open PySem PySem.W PyProof.Rows PySem.Calls
set_option maxRecDepth 100000
set_option maxHeartbeats 4000000
namespace Mine
section
noncomputable def tx (cs : List Nat) : PySem.Str := ⟨cs.toArray⟩
theorem tx_app (a b : List Nat) : tx a ++ tx b = tx (a ++ b) := by
  show PySem.Str.mk (a.toArray ++ b.toArray) = _
  simp [tx]
theorem tx_len (a : List Nat) : (tx a).length = a.length := by
  show a.toArray.size = _
  simp
theorem tx_cps (a : List Nat) : (tx a).cps.toList = a := by simp [tx]
theorem tx_inj {a b : List Nat} : tx a = tx b ↔ a = b := ⟨fun h => by have := congrArg (fun x => x.cps.toList) h; simpa [tx_cps] using this, fun h => by rw [h]⟩
theorem tx_of (x : PySem.Str) : x = tx x.cps.toList := by cases x; simp [tx]
theorem tx_beq (a b : List Nat) : (tx a == tx b) = decide (a = b) := by
  by_cases h : a = b
  · subst h; simp
  · rw [beq_eq_false_iff_ne.mpr (fun e => h (tx_inj.mp e))]; simp [h]
theorem chars_tx (a : List Nat) : chars (tx a) = a.map fun c => .str (tx [c]) := by
  unfold chars
  rw [tx_cps]
  rfl
noncomputable def asc (cs : List Nat) : Prop := cs.length ≤ 1000 ∧ ∀ c ∈ cs, c < 128
theorem short_tx {cs : List Nat} (h : asc cs) : shortS (tx cs) = true := short_of (by rw [tx_len]; exact h.1) (by rw [tx_cps]; exact h.2)
theorem asc_of {cs : List Nat} (h : shortS (tx cs) = true) : asc cs := ⟨by have := short_le h; rw [tx_len] at this; exact this, fun c hc => short_asc h c (by rw [tx_cps]; exact hc)⟩
theorem asc_one {c : Nat} (h : c < 128) : asc [c] := ⟨by simp, by simpa using h⟩
theorem asc_nil : asc [] := ⟨by simp, by simp⟩
theorem asc_sub {a b : List Nat} (h : asc b) (hl : a.length ≤ b.length) (hs : ∀ c ∈ a, c ∈ b) : asc a := ⟨Nat.le_trans hl h.1, fun c hc => h.2 c (hs c hc)⟩
theorem seqIdx_nat (i n : Nat) : PySem.seqIndex? (i : Int) n = if i < n then some i else none := by
  simp only [PySem.seqIndex?]
  rw [show (if (i : Int) < 0 then (i : Int) + (n : Int) else (i : Int)) = i from if_neg (by omega)]
  by_cases h : i < n
  · rw [if_pos (by simp; omega), if_pos h]; simp
  · rw [if_neg (by simp; omega), if_neg h]
theorem seqIdx_last (n : Nat) : PySem.seqIndex? (-1) n = if n = 0 then none else some (n - 1) := by
  simp only [PySem.seqIndex?]
  rw [show (if (-1 : Int) < 0 then (-1 : Int) + (n : Int) else (-1 : Int)) = (n : Int) - 1 from by rw [if_pos (by omega)]; omega]
  by_cases h : n = 0
  · rw [if_neg (by simp; omega), if_pos h]
  · rw [if_pos (by simp; omega), if_neg h]
    exact congrArg some (by omega)
theorem atIdx_nat (ds : List D) (i : Nat) : atIdx ds (i : Int) = ds[i]? := by
  unfold atIdx
  rw [seqIdx_nat]
  by_cases h : i < ds.length
  · rw [if_pos h]; rfl
  · rw [if_neg h]
    have : ds[i]? = none := by simp; omega
    rw [this]; rfl
theorem atIdx_last (ds : List D) : atIdx ds (-1) = ds.getLast? := by
  unfold atIdx
  rw [seqIdx_last, List.getLast?_eq_getElem?]
  by_cases h : ds.length = 0
  · rw [if_pos h]; rw [List.length_eq_zero_iff] at h; subst h; rfl
  · rw [if_neg h]; rfl
theorem fIdx_lst (σ : List AO) (ds : List D) (i : Nat) (hi : i ≤ 1000000) : fIdx σ (.lst ds) (.int i) = ds[i]? := by
  unfold fIdx
  dsimp only
  rw [if_pos (inR_nat hi), atIdx_nat]
theorem fIdx_tup (σ : List AO) (ds : List D) (i : Nat) (hi : i ≤ 1000000) : fIdx σ (.tup ds) (.int i) = ds[i]? := by
  unfold fIdx
  dsimp only
  rw [if_pos (inR_nat hi), atIdx_nat]
theorem fIdx_last (σ : List AO) (ds : List D) : fIdx σ (.lst ds) (.int (-1)) = ds.getLast? := by
  unfold fIdx
  dsimp only
  rw [if_pos (show inR (-1) = true from rfl), atIdx_last]
theorem fIdx_str (σ : List AO) (cs : List Nat) (i : Nat) (hi : i ≤ 1000000) : fIdx σ (.str (tx cs)) (.int i) = (cs[i]?).map fun c => .str (tx [c]) := by
  unfold fIdx
  dsimp only
  rw [if_pos (inR_nat hi), seqIdx_nat, tx_len]
  by_cases h : i < cs.length
  · rw [if_pos h]
    simp [tx]
  · rw [if_neg h]
    have : cs[i]? = none := by simp; omega
    rw [this]; rfl
theorem fIdx_strLast (σ : List AO) (cs : List Nat) : fIdx σ (.str (tx cs)) (.int (-1)) = (cs.getLast?).map fun c => .str (tx [c]) := by
  unfold fIdx
  dsimp only
  rw [if_pos (show inR (-1) = true from rfl), seqIdx_last, tx_len, List.getLast?_eq_getElem?]
  by_cases h : cs.length = 0
  · rw [if_pos h]
    rw [List.length_eq_zero_iff] at h; subst h; rfl
  · rw [if_neg h]
    simp [tx]
theorem sliceD_init (ds : List D) : sliceD ds none (some (-1)) none = ds.dropLast := by
  have e : sliceBounds none (some (-1)) none ds.length = (((0 : Nat) : Int), ((ds.length - 1 : Nat) : Int), 1) := by
    simp [sliceBounds]
    omega
  unfold sliceD
  rw [e]
  simp only [sliceRange_one, pickL, List.drop_zero, Nat.sub_zero]
  rw [List.dropLast_eq_take]
theorem depthAll_le {xs : List PyData} {m : Nat} (h : ∀ x ∈ xs, PyData.depth x ≤ m) : PyData.depthAll xs ≤ m := by
  induction xs with
  | nil => simp [PyData.depthAll]
  | cons x xs ih =>
    unfold PyData.depthAll
    have h1 := h x (.head _)
    have h2 := ih fun y hy => h y (.tail _ hy)
    omega
theorem canAll {xs : List PyData} (h : ∀ x ∈ xs, PyData.canLay0 x = true) : PyData.canLayAll0 xs = true := by
  induction xs with
  | nil => rfl
  | cons x xs ih =>
    unfold PyData.canLayAll0
    rw [h x (.head _), ih fun y hy => h y (.tail _ hy)]; rfl
theorem pyDs_map {α : Type} {look : Nat → Option PyData} {f : α → D} {g : α → PyData} {l : List α} (h : ∀ a ∈ l, pyD look (f a) = some (g a)) : pyDs look (l.map f) = some (l.map g) := by
  induction l with
  | nil => rfl
  | cons a l ih =>
    show (pyD look (f a)).bind (fun x => (pyDs look (l.map f)).map fun xs => x :: xs) = _
    rw [h a (.head _), ih fun b hb => h b (.tail _ hb)]
    rfl
/-- data that == reads: flat, of small depth -/
noncomputable def Fine (m : Nat) (d : D) (x : PyData) : Prop := (∀ look, pyD look d = some x) ∧ PyData.canLay0 x = true ∧ PyData.depth x ≤ m
theorem strOk_asc {x : PySem.Str} (hx : shortS x = true) : PyData.strOk x = true := by
  unfold PyData.strOk
  rw [Array.all_eq_true']
  intro c hc
  have := short_asc hx c (by simpa using hc)
  simp; omega
theorem Fine.str {x : PySem.Str} (hx : shortS x = true) : Fine 0 (.str x) (.str x) := ⟨fun _ => rfl, by show PyData.strOk x = true; exact strOk_asc hx, by simp [PyData.depth]⟩
theorem Fine.lst {α : Type} {m : Nat} {f : α → D} {g : α → PyData} {l : List α} (h : ∀ a ∈ l, Fine m (f a) (g a)) : Fine (m + 1) (.lst (l.map f)) (.list (l.map g)) :=
  ⟨fun look => by
    show (pyDs look (l.map f)).map PyData.list = _
    rw [pyDs_map fun a ha => (h a ha).1 look]; rfl, by
    show PyData.canLayAll0 _ = true
    exact canAll fun x hx => by (refine xEA (List.mem_map.mp hx) fun a ha q0z => ?_; subst q0z); exact (h a ha).2.1, by
    have := depthAll_le (xs := l.map g) (m := m) fun x hx => by (refine xEA (List.mem_map.mp hx) fun a ha q0z => ?_; subst q0z); exact (h a ha).2.2
    simp only [PyData.depth]; omega⟩
theorem Fine.tup {α : Type} {m : Nat} {f : α → D} {g : α → PyData} {l : List α} (h : ∀ a ∈ l, Fine m (f a) (g a)) : Fine (m + 1) (.tup (l.map f)) (.tuple (l.map g)) :=
  ⟨fun look => by
    show (pyDs look (l.map f)).map PyData.tuple = _
    rw [pyDs_map fun a ha => (h a ha).1 look]; rfl, by
    show PyData.canLayAll0 _ = true
    exact canAll fun x hx => by (refine xEA (List.mem_map.mp hx) fun a ha q0z => ?_; subst q0z); exact (h a ha).2.1, by
    have := depthAll_le (xs := l.map g) (m := m) fun x hx => by (refine xEA (List.mem_map.mp hx) fun a ha q0z => ?_; subst q0z); exact (h a ha).2.2
    simp only [PyData.depth]; omega⟩
theorem Fine.py {m : Nat} {d : D} {x : PyData} (h : Fine m d x) (hm : m ≤ 64) (σ : List AO) : py σ d = some x := by
  unfold Mine.py
  rw [h.1]
  simp only [Option.bind_some]
  rw [if_pos]
  unfold SeqAt.shaped
  rw [h.2.1, Bool.true_and, decide_eq_true_eq]
  have := h.2.2
  omega
theorem Fine.pyRef {m : Nat} {ds : List D} {x : PyData} (h : Fine m (.lst ds) x) (hm : m ≤ 64) {σ : List AO} {k : Nat} (hk : σ[k]? = some (.lst ds)) : Mine.py σ (.ref k) = some x := by
  unfold Mine.py
  have e : pyD (look2 σ) (.ref k) = some x := by
    show look2 σ k = _
    unfold look2
    rw [hk]
    exact h.1 (look1 σ)
  rw [e]
  simp only [Option.bind_some]
  rw [if_pos]
  unfold SeqAt.shaped
  rw [h.2.1, Bool.true_and, decide_eq_true_eq]
  have := h.2.2
  omega
theorem eqvAll_map {α : Type} [DecidableEq α] {g : α → PyData} (h : ∀ a b, PyData.eqv (g a) (g b) = decide (a = b)) : ∀ l m : List α, PyData.eqvAll (l.map g) (m.map g) = decide (l = m)
  | [], [] => rfl
  | a :: l, [] => rfl
  | [], b :: m => rfl
  | a :: l, b :: m => by
    show (PyData.eqv (g a) (g b) && PyData.eqvAll (l.map g) (m.map g)) = _
    rw [h, eqvAll_map h l m]
    by_cases h1 : a = b <;> by_cases h2 : l = m <;> simp [h1, h2]
theorem eqv_strs (l m : List PySem.Str) : PyData.eqv (.list (l.map .str)) (.list (m.map .str)) = decide (l = m) := by
  show PyData.eqvAll _ _ = _
  refine eqvAll_map (fun a b => ?_) l m
  rw [eqv_str]
  by_cases h : a = b <;> simp [h]
noncomputable def pP (p : PySem.Str × PySem.Str) : PyData := .tuple [.str p.1, .str p.2]
theorem eqv_pairs (l m : List (PySem.Str × PySem.Str)) : PyData.eqv (.list (l.map pP)) (.list (m.map pP)) = decide (l = m) := by
  show PyData.eqvAll _ _ = _
  refine eqvAll_map (fun a b => ?_) l m
  show (PyData.eqv (.str a.1) (.str b.1) && (PyData.eqv (.str a.2) (.str b.2) && true)) = _
  rw [eqv_str, eqv_str]
  by_cases h1 : a.1 = b.1 <;> by_cases h2 : a.2 = b.2 <;> simp [h1, h2, Prod.ext_iff]
theorem Fine.strs {l : List PySem.Str} (h : ∀ x ∈ l, shortS x = true) : Fine 1 (.lst (l.map .str)) (.list (l.map .str)) := Fine.lst fun a ha => Fine.str (h a ha)
theorem Fine.pD {p : PySem.Str × PySem.Str} (h : shortS p.1 = true ∧ shortS p.2 = true) : Fine 1 (pD p) (pP p) :=
  Fine.tup (f := D.str) (g := PyData.str) (l := [p.1, p.2]) fun a ha => by
    rcases List.mem_cons.mp ha with rfl | ha
    · exact Fine.str h.1
    · rw [List.mem_singleton.mp ha]; exact Fine.str h.2
theorem Fine.pairs {l : List (PySem.Str × PySem.Str)} (h : ∀ p ∈ l, shortS p.1 = true ∧ shortS p.2 = true) : Fine 2 (.lst (l.map Mine.pD)) (.list (l.map pP)) := Fine.lst fun a ha => Fine.pD (h a ha)
theorem lt_one (a b : Nat) : decide ([a] < [b]) = decide (a < b) := by
  have : ([a] < [b]) ↔ a < b := by
    constructor
    · intro h
      cases h with
      | rel h => exact h
      | cons h => cases h
    · exact fun h => .rel h
  simp [this]
theorem fGe_one (a b : Nat) : fGe (.str (tx [a])) (.str (tx [b])) = some (.bool (decide (b ≤ a))) := by
  show some (D.bool (!decide ((tx [a]).cps.toList < (tx [b]).cps.toList))) = _
  rw [tx_cps, tx_cps, lt_one]
  congr 2
  by_cases h : a < b <;> simp [h] <;> omega
theorem fLt_one (a b : Nat) : fLt (.str (tx [a])) (.str (tx [b])) = some (.bool (decide (a < b))) := by
  show some (D.bool (decide ((tx [a]).cps.toList < (tx [b]).cps.toList))) = _
  rw [tx_cps, tx_cps, lt_one]
theorem fAdd_tx {a b : List Nat} (h : a.length + b.length ≤ 16777216) : fAdd (.str (tx a)) (.str (tx b)) = some (.str (tx (a ++ b))) := by
  show (if (tx a).length + (tx b).length ≤ sizeLine then some (D.str (tx a ++ tx b)) else none) = _
  rw [tx_len, tx_len, if_pos (by have e : sizeLine = 16777216 := rfl; omega), tx_app]
theorem st_none : ((none : Option Int) ≠ some 0) = True := by simp
theorem isSub_lst (ds : List D) (σ : List AO) : isSub (.lst ds) σ = true := rfl
theorem isSub_tup (ds : List D) (σ : List AO) : isSub (.tup ds) σ = true := rfl
theorem isSub_str (x : PySem.Str) (σ : List AO) : isSub (.str x) σ = true := rfl
theorem isSub_dct (es : List (PySem.Str × D)) (σ : List AO) : isSub (.dct es) σ = true := rfl
theorem each_thr {P : List AO → Prop} {tgt : D → Mf Unit} {body : Mf SF} {ds : List D} {fr : Fr} {σ : List AO} {z : Option (Out SF × Fr × List AO)} (hE : Mf.each P tgt body ds fr σ = z) (J : Nat → Fr → List AO → Prop) (hP : ∀ i fr σ, J i fr σ → P σ) (h0 : J 0 fr σ)
    (step : ∀ i d fr σ, ds[i]? = some d → J i fr σ → ∃ fr' σ', turn tgt body d fr σ = some (.val .next, fr', σ') ∧ J (i + 1) fr' σ') : ∃ fr' σ', z = some (.val .next, fr', σ') ∧ J ds.length fr' σ' := by
  (refine xEEA (each_run J hP step h0) fun fr' σ' e hJ => ?_)
  exact ⟨fr', σ', hE.symm.trans e, hJ⟩
theorem fAddL_lst (σ : List AO) {a b : List D} (h : a.length + b.length ≤ 16777216) : fAddL (.lst a) (.lst b) σ = some (.val (.lst (a ++ b)), σ) := by
  unfold fAddL
  simp only [lstOf, Option.bind_some]
  rw [if_pos (by have e : sizeLine = 16777216 := rfl; omega)]
theorem opEq_strs (σ : List AO) {l m : List PySem.Str} (hl : ∀ x ∈ l, shortS x = true) (hm : ∀ x ∈ m, shortS x = true) : opEq (.lst (l.map .str)) (.lst (m.map .str)) σ = some (.val (.bool (decide (l = m))), σ) := by
  unfold opEq
  rw [(Fine.strs hl).py (by decide) σ, (Fine.strs hm).py (by decide) σ]
  simp only [Option.bind_some, Option.map_some, eqv_strs]
theorem opNe_strs (σ : List AO) {l m : List PySem.Str} (hl : ∀ x ∈ l, shortS x = true) (hm : ∀ x ∈ m, shortS x = true) : opNe (.lst (l.map .str)) (.lst (m.map .str)) σ = some (.val (.bool (!decide (l = m))), σ) := by
  unfold opNe
  rw [(Fine.strs hl).py (by decide) σ, (Fine.strs hm).py (by decide) σ]
  simp only [Option.bind_some, Option.map_some, eqv_strs]
end
end Mine
end
section
open PySem PySem.W PyProof.Rows PySem.Calls
set_option maxRecDepth 100000
set_option maxHeartbeats 4000000
namespace Mine
section
noncomputable def rgStep (rs : List (List Nat)) (c : Nat) : List (List Nat) := match rs.getLast? with
  | none => rs ++ [[c]]
  | some r => if r.headD 0 ≤ c then rs ++ [[c]] else rs.dropLast ++ [r ++ [c]]
noncomputable def ringsN (cs : List Nat) : List (List Nat) := cs.foldl rgStep []
theorem ringsN_snoc (cs : List Nat) (c : Nat) : ringsN (cs ++ [c]) = rgStep (ringsN cs) c := by simp [ringsN]
theorem list_snoc {α : Type} (l : List α) : l = [] ∨ ∃ m a, l = m ++ [a] := by
  rcases List.eq_nil_or_concat l with h | ⟨m, a, h⟩
  · exact .inl h
  · exact .inr ⟨m, a, by rw [h, List.concat_eq_append]⟩
theorem rgStep_flat (rs : List (List Nat)) (c : Nat) : (rgStep rs c).flatten = rs.flatten ++ [c] := by
  unfold rgStep
  rcases list_snoc rs with rfl | ⟨m, a, rfl⟩
  · rfl
  · simp only [List.getLast?_concat, List.dropLast_concat]
    split <;> simp
theorem ringsN_flat (cs : List Nat) : (ringsN cs).flatten = cs := by
  have key : ∀ n, (ringsN (cs.take n)).flatten = cs.take n := by
    intro n
    induction n with
    | zero => rfl
    | succ n ih =>
      rw [List.take_add_one]
      cases h : cs[n]? with
      | none => simpa using ih
      | some c => rw [show ((some c).toList) = [c] from rfl, ringsN_snoc, rgStep_flat, ih]
  have := key cs.length
  rwa [List.take_length] at this
theorem rgStep_ne {rs : List (List Nat)} {c : Nat} (h : ∀ r ∈ rs, r ≠ []) : ∀ r ∈ rgStep rs c, r ≠ [] := by
  unfold rgStep
  rcases list_snoc rs with rfl | ⟨m, a, rfl⟩
  · simp
  · simp only [List.getLast?_concat, List.dropLast_concat]
    intro r hr
    split at hr
    · rcases List.mem_append.mp hr with q | q
      · exact h r q
      · rw [List.mem_singleton.mp q]; simp
    · rcases List.mem_append.mp hr with q | q
      · exact h r (List.mem_append_left _ q)
      · rw [List.mem_singleton.mp q]; simp
theorem ringsN_ne (cs : List Nat) : ∀ r ∈ ringsN cs, r ≠ [] := by
  have key : ∀ n, ∀ r ∈ ringsN (cs.take n), r ≠ [] := by
    intro n
    induction n with
    | zero => intro r hr; cases hr
    | succ n ih =>
      rw [List.take_add_one]
      cases h : cs[n]? with
      | none => simpa using ih
      | some c => rw [show ((some c).toList) = [c] from rfl, ringsN_snoc]; exact rgStep_ne ih
  have := key cs.length
  rwa [List.take_length] at this
theorem flatten_len_mem {ls : List (List Nat)} {l : List Nat} (h : l ∈ ls) : l.length ≤ ls.flatten.length := by
  induction ls with
  | nil => cases h
  | cons a ls ih =>
    rw [List.flatten_cons, List.length_append]
    rcases List.mem_cons.mp h with rfl | h
    · omega
    · have := ih h; omega
theorem flatten_len_ge {ls : List (List Nat)} (h : ∀ l ∈ ls, l ≠ []) : ls.length ≤ ls.flatten.length := by
  induction ls with
  | nil => simp
  | cons a ls ih =>
    rw [List.flatten_cons, List.length_append, List.length_cons]
    have := ih fun l hl => h l (.tail _ hl)
    have := List.length_pos_iff.mpr (h a (.head _))
    omega
theorem ring_asc {cs : List Nat} (h : asc cs) {r : List Nat} (hr : r ∈ ringsN cs) : asc r := by
  refine asc_sub h (by have := flatten_len_mem hr; rwa [ringsN_flat] at this) fun c hc => ?_
  rw [← ringsN_flat cs]
  exact List.mem_flatten.mpr ⟨r, hr, hc⟩
theorem rings_len {cs : List Nat} : (ringsN cs).length ≤ cs.length := by
  have := flatten_len_ge (ringsN_ne cs)
  rwa [ringsN_flat] at this
theorem take_snoc {α : Type} {l : List α} {i : Nat} {a : α} (h : l[i]? = some a) : l.take (i + 1) = l.take i ++ [a] := by rw [List.take_add_one, h]; rfl
noncomputable def rgD (rs : List (List Nat)) : D := .lst ((rs.map tx).map .str)
end
section
variable {G : Amb} (h : G.K = K2 G.w.params)
include h
noncomputable def sRings : Fm := on1 dStr fun x σ => if shortS x = true then some (.val (rgD (ringsN x.cps.toList)), σ) else none
theorem f_rings : Fn G true 5 193 sRings := by
  have body : ∃ m, Exs G true 4 (scopeAt (K2 G.w.params) 193) (bodyAt (K2 G.w.params) 193) m ∧ ∀ ds kd σ r, sRings ds kd σ = some r → ((bfOf 1 [] [("word", .pos 0)] ds kd).bind fun bd => Mf.fn m (frB bd fun _ => none) σ) = some r := by
    refine ⟨_, (Exs.cons (Ex.asgn (Ev.lst (ms := []) trivial rfl) (As.name (Or.inl rfl)) (sw_of fun env => ⟨rfl, by kernel_rfl, by kernel_rfl⟩))
    (Exs.cons (Ex.for (Itr.ev (Ev.loc rfl rfl))
      (As.name (Or.inl rfl))
      (Exs.cons (Ex.ite (Cd.or (ms := [_, _]) ⟨(Cd.cmp (Ev.loc rfl rfl) (Ev.lst (ms := []) trivial rfl) (Op2.eq (by omega))), (Cd.cmp (Ev.loc rfl rfl) (Ev.sub (Ev.sub (Ev.loc rfl rfl) (Ev.neg Ev.kInt) Op2.idx rfl) Ev.kInt Op2.idx rfl) (Op2.ge)), trivial⟩)
        (Exs.cons (Ex.asgn (Ev.bin (Ev.loc rfl rfl) (Ev.lst (ms := [_]) ⟨(Ev.loc rfl rfl), trivial⟩ rfl) Op2.addL) (As.name (Or.inl rfl)) (sw_of fun env => ⟨rfl, by kernel_rfl, by kernel_rfl⟩))
        Exs.nil)
        (Exs.cons (Ex.asgn (Ev.bin (Ev.slcF (ml := none) (mh := (some _)) (ms := none) (Ev.loc rfl rfl) trivial (Ev.neg Ev.kInt) trivial) (Ev.lst (ms := [_]) ⟨(Ev.bin (Ev.sub (Ev.loc rfl rfl) (Ev.neg Ev.kInt) Op2.idx rfl) (Ev.loc rfl rfl) Op2.add), trivial⟩ rfl) Op2.addL) (As.name (Or.inl rfl)) (sw_of fun env => ⟨rfl, by kernel_rfl, by kernel_rfl⟩))
        Exs.nil))
      Exs.nil))
    (Exs.cons (Ex.ret (Ev.loc rfl rfl))
    Exs.nil))), ?_⟩
    intro ds kd σ r hr
    replace hr := on1_inv dStr_eq hr
    obtain ⟨x, rfl, rfl, hr⟩ := hr
    replace hr := ite_inv hr
    obtain ⟨hx, hr⟩ := hr
    cases hr
    have hxe := tx_of x
    generalize x.cps.toList = cs at hxe
    subst hxe
    have ha := asc_of hx
    simp only [bfOf, List.length_cons, List.length_nil, List.map_cons, List.map_nil, if_true, Nat.reduceAdd, Option.bind_some, Sr.dat, List.getD_cons_zero, List.getD_cons_succ]
    simp only [Mf.fn, Mf.seq, Mf.bind, Mf.lift, Mf.set, Mf.pure, Mo.op1, Mo.op2, Mo.bind, seq_nil, seq_cons, Mo.pure, Mo.var, Mo.tru, Mo.opt, Mo.lst, Mo.guard, ors_nil, ors_cons, frB_nil, frB_cons, upd_same, upd_diff, Option.map_some, ↓reduceIte, String.reduceBEq, List.length_nil, decide_true, sz0, Mo.items, Mo.src, srcD, chars_tx]
    generalize hE : Mf.each _ _ _ _ _ _ = z
    have key : ∃ fr' σ', z = some (.val .next, fr', σ') ∧ (σ' = σ ∧ fr' "rings" = some (rgD (ringsN (cs.take (cs.map fun c => D.str (tx [c])).length)))) := by
      refine each_thr hE (fun i fr σ' => σ' = σ ∧ fr "rings" = some (rgD (ringsN (cs.take i)))) (fun _ _ _ _ => trivial) ⟨rfl, by simp only [upd_same]; rfl⟩ ?_
      clear hE
      rintro i d fr σ' hd ⟨rfl, hI⟩
      rw [List.getElem?_map] at hd
      obtain ⟨c, hc, rfl⟩ := Option.map_eq_some_iff.mp hd
      rw [take_snoc hc, ringsN_snoc]
      have hra : ∀ r ∈ ringsN (cs.take i), asc r := fun r hr => ring_asc (asc_sub ha (by rw [List.length_take]; omega) fun c hc => List.mem_of_mem_take hc) hr
      have hne := ringsN_ne (cs.take i)
      have hl := rings_len (cs := cs.take i)
      rw [List.length_take] at hl
      have hl' : (ringsN (cs.take i)).length ≤ 1000 := by have := ha.1; omega
      have hc' : c < 128 := ha.2 c (List.mem_of_getElem? hc)
      generalize ringsN (cs.take i) = rs at hI hra hne hl'
      have hq : opEq (rgD rs) (.lst []) σ' = some (.val (.bool (decide (rs.map tx = []))), σ') := opEq_strs (m := []) σ' (fun x hx => by obtain ⟨r, hr, rfl⟩ := List.mem_map.mp hx; exact short_tx (hra r hr)) (fun x hx => by cases hx)
      rcases list_snoc rs with rfl | ⟨m, a, rfl⟩
      · refine ⟨upd (upd fr "letter" (.str (tx [c]))) "rings" (rgD [[c]]), σ', ?_, rfl, by simp only [upd_same]; rfl⟩
        simp only [turn, Mf.bind, Mf.lift, Mf.set, Mf.pure, Mo.bind, Mo.pure, Mo.var, Mo.opt, upd_same, upd_diff, Option.map_some, ↓reduceIte, String.reduceBEq, List.length_cons, List.length_nil, Nat.reduceAdd, truD_bool, decide_true, sz0, sz1, hI, hq, List.map_nil]
        rfl
      · obtain ⟨x, xs, rfl⟩ : ∃ x xs, a = x :: xs := by
          cases a with
          | nil => exact absurd rfl (hne [] (by simp))
          | cons x xs => exact ⟨x, xs, rfl⟩
        refine ⟨upd (upd fr "letter" (.str (tx [c]))) "rings" (rgD (rgStep (m ++ [x :: xs]) c)), σ', ?_, rfl, by simp only [upd_same]⟩
        have h1 : isSub (rgD (m ++ [x :: xs])) σ' = true := rfl
        have h2 : fIdx σ' (rgD (m ++ [x :: xs])) (.int (-1)) = some (.str (tx (x :: xs))) := by
          unfold rgD
          rw [fIdx_last]; simp
        have h3 : fIdx σ' (.str (tx (x :: xs))) (.int 0) = some (.str (tx [x])) := fIdx_str σ' (x :: xs) 0 (by decide)
        have h4 : ∀ a b : List (List Nat), a.length + b.length ≤ 16777216 → fAddL (rgD a) (rgD b) σ' = some (.val (rgD (a ++ b)), σ') := fun a b hab => by
          unfold rgD
          rw [fAddL_lst σ' (by simpa using hab)]; simp
        have h5 : lstOf (rgD (m ++ [x :: xs])) σ' = some (((m ++ [x :: xs]).map tx).map .str) := rfl
        have h6 : sliceD (((m ++ [x :: xs]).map tx).map D.str) none (some (-1)) none = (m.map tx).map .str := by rw [sliceD_init]; simp
        have h7 : fAdd (.str (tx (x :: xs))) (.str (tx [c])) = some (.str (tx (x :: (xs ++ [c])))) := fAdd_tx (by have := (hra (x :: xs) (by simp)).1; simp only [List.length_cons, List.length_nil] at this ⊢; omega)
        have h8 : rgStep (m ++ [x :: xs]) c = if x ≤ c then m ++ [x :: xs] ++ [[c]] else m ++ [x :: (xs ++ [c])] := by
          unfold rgStep
          simp only [List.getLast?_concat, List.dropLast_concat, List.headD_cons, List.cons_append]
        have hlm : m.length + 1 ≤ 1000 := by simpa using hl'
        have hd1 : decide (List.map tx (m ++ [x :: xs]) = []) = false := by simp
        rw [hd1] at hq
        simp only [turn, Mf.bind, Mf.lift, Mf.set, Mo.bind, Mo.pure, Mo.var, Mo.opt, upd_same, upd_diff, Option.map_some, ↓reduceIte, Bool.false_eq_true, String.reduceBEq, List.length_nil, truD_bool, decide_true, sz0, hI, hq, fNeg, h1, h2, isSub_str, h3, fGe_one, h8]
        by_cases hxc : x ≤ c
        · have := h4 (m ++ [x :: xs]) [[c]] (by simp; omega)
          simp only [hI, hxc, Mf.bind, Mf.lift, Mf.set, Mf.pure, Mo.bind, Mo.pure, Mo.var, Mo.opt, upd_same, upd_diff, Option.map_some, ↓reduceIte, String.reduceBEq, List.length_cons, List.length_nil, Nat.reduceAdd, decide_true, sz1, show ∀ s, D.lst [D.str (tx s)] = rgD [s] from fun _ => rfl, this]
        · have := h4 m [x :: (xs ++ [c])] (by simp; omega)
          simp only [hxc, Mf.bind, Mf.lift, Mf.set, Mf.pure, Mo.bind, Mo.pure, Mo.var, Mo.opt, upd_same, upd_diff, Option.map_some, ↓reduceIte, Bool.false_eq_true, String.reduceBEq, List.length_cons, List.length_nil, Nat.reduceAdd, decide_true, decide_false, sz1, Mo.slice, Mo.part, st_none, hI, h5, h6, fNeg, h1, h2, h7, show D.lst ((m.map tx).map .str) = rgD m from rfl, show ∀ s, D.lst [D.str (tx s)] = rgD [s] from fun _ => rfl, this]
    obtain ⟨fr', σ', rfl, rfl, e⟩ := key
    rw [List.length_map, List.take_length] at e
    simp only [Mf.bind, Mf.lift, Mf.pure, Mo.var, Option.map_some, e]
  obtain ⟨m, hm, hs⟩ := body
  refine Fn.mono (Fn.at h (ok_193 _) (Bnd.plan (by exact ⟨trivial, trivial⟩) ?_) ?_ hm) hs
  · intro S vs kw hv hk
    refine Eq.trans (congrArg (fun K => peek K S _) h) ?_
    obtain ⟨v0, rfl⟩ := len1 hv
    obtain rfl := kw0 hk
    kernel_rfl
  · exact bfOf_all (by kernel_rfl)
end
end Mine
end
section
open PySem PySem.W PyProof.Rows PySem.Calls
set_option maxRecDepth 100000
set_option maxHeartbeats 4000000
namespace Mine
section
noncomputable def fallsN (cs : List Nat) : Nat := ((List.range (cs.length - 1)).filter fun i => decide (cs.getD (i + 1) 0 < cs.getD i 0)).length
noncomputable def abT (ps : List (PySem.Str × PySem.Str)) (i : Nat) : Bool := match ps[i]? with
  | some p => decide ((Txt.lower p.1).cps.toList < p.2.cps.toList)
  | none => false
noncomputable def aboveN (ps : List (PySem.Str × PySem.Str)) : Nat := ((List.range ps.length).filter (abT ps)).length
theorem srcD_rng (σ : List AO) (a : Nat) (n : Nat) (ha : a ≤ 1000) (hn : n ≤ 1000) : srcD (.rng a n) σ = some ⟨(List.range (n - a)).map fun (i : Nat) => .int (((a + i : Nat)) : Int), fun _ => True⟩ := by
  unfold srcD
  dsimp only
  rw [inR_nat (by omega), inR_nat (by omega), if_pos (show (true && true) = true from rfl)]
  unfold intsD
  rw [show ((n : Int) - (a : Int)).toNat = n - a by omega]
  simp
theorem fIdx_strN (σ : List AO) (cs : List Nat) (i : Nat) (hi : cs.length ≤ 1000) (h : i < cs.length) : fIdx σ (.str (tx cs)) (.int i) = some (.str (tx [cs.getD i 0])) := by
  rw [fIdx_str _ _ _ (by omega), List.getD_eq_getElem?_getD, List.getElem?_eq_getElem h]; rfl
theorem szL {n : Nat} (h : n ≤ 1000) : n ≤ sizeLine := by have e : sizeLine = 16777216 := rfl; omega
theorem fSub_nat (a b : Nat) (h : b ≤ a) : fSub (.int a) (.int b) = some (.int ((a - b : Nat) : Int)) := by
  show some (D.int ((a : Int) - (b : Int))) = _
  rw [show ((a : Int) - (b : Int)) = ((a - b : Nat) : Int) by omega]
theorem fLen_lst (ds : List D) (σ : List AO) : fLen (.lst ds) σ = some (.val (.int ds.length), σ) := rfl
theorem fLen_str (cs : List Nat) (σ : List AO) : fLen (.str (tx cs)) σ = some (.val (.int cs.length), σ) := by unfold fLen; simp only [tx_len]
theorem nat_int (i : Nat) : ((i : Int)).toNat = i := by simp
end
section
variable {G : Amb} (h : G.K = K2 G.w.params)
include h
noncomputable def sFalls : Fm := on1 dStr fun x σ => if shortS x = true then some (.val (.int (fallsN x.cps.toList)), σ) else none
theorem f_falls : Fn G true 5 220 sFalls := by
  have body : ∃ m, Exs G true 4 (scopeAt (K2 G.w.params) 220) (bodyAt (K2 G.w.params) 220) m ∧ ∀ ds kd σ r, sFalls ds kd σ = some r → ((bfOf 1 [] [("word", .pos 0)] ds kd).bind fun bd => Mf.fn m (frB bd fun _ => none) σ) = some r := by
    refine ⟨_, (Exs.cons (Ex.ret (Ev.call (g_len h rfl) (ms := [_]) (mk := []) ⟨(Ev.lcF (CompL.one (W := []) (Ev.call (g_range h rfl) (ms := [_, _]) (mk := []) ⟨Ev.kInt, (Ev.call (g_len h rfl) (ms := [_]) (mk := []) ⟨(Ev.cel rfl rfl), trivial⟩ trivial Kep.blt Ca.len), trivial⟩ trivial Kep.typ Ca.range) (AsC.name rfl) (Ts.one (Cd.cmp (Ev.sub (Ev.cel rfl rfl) (Ev.loc rfl rfl) Op2.idx rfl) (Ev.sub (Ev.cel rfl rfl) (Ev.bin (Ev.loc rfl rfl) Ev.kInt Op2.sub) Op2.idx rfl) (Op2.lt))) (Ev.loc rfl rfl) (by first | rfl | kernel_rfl))), trivial⟩ trivial Kep.blt Ca.len))
    Exs.nil), ?_⟩
    intro ds kd σ r hr
    replace hr := on1_inv dStr_eq hr
    obtain ⟨x, rfl, rfl, hr⟩ := hr
    replace hr := ite_inv hr
    obtain ⟨hx, hr⟩ := hr
    cases hr
    have hxe := tx_of x
    generalize x.cps.toList = cs at hxe
    subst hxe
    have ha := asc_of hx
    have hl := ha.1
    simp only [bfOf, List.length_cons, List.length_nil, List.map_cons, List.map_nil, if_true, Nat.reduceAdd, Option.bind_some, Sr.dat, List.getD_cons_zero, List.getD_cons_succ]
    simp only [Mf.fn, Mf.seq, Mf.bind, Mf.lift, Mf.pure, Mo.op2, Mo.bind, Mo.calF, Mo.args, seq_nil, seq_cons, seqK_nil, Mo.pure, Mo.tru, frB_nil, frB_cons]
    rw [lcRun_pure (σ1 := σ) (d := .rng 1 cs.length) (x := ⟨(List.range (cs.length - 1)).map fun (i : Nat) => .int (((1 + i : Nat)) : Int), fun _ => True⟩) (fun fr => fr "word" = some (.str (tx cs))) (fun d => match d with
      | .int k => decide (cs.getD k.toNat 0 < cs.getD (k.toNat - 1) 0)
      | _ => false) (fun d => d) (by simp only [Mo.bind, Mo.pure, Mo.var, upd_same, one1_at, Option.map_some, fLen, tx_len, fRng]) (srcD_rng σ 1 cs.length (by decide) hl) trivial (by
        unfold frIn
        rw [if_pos (by kernel_rfl)]
        simp only [upd_same]) (fun d hd fr hI => by
        obtain ⟨i, hi, rfl⟩ := List.mem_map.mp hd
        rw [List.mem_range] at hi
        have e1 := fIdx_strN σ cs (1 + i) hl (by omega)
        have e2 := fIdx_strN σ cs (1 + i - 1) hl (by omega)
        have e3 : fSub (.int ((1 + i : Nat) : Int)) (.int 1) = some (.int ((1 + i - 1 : Nat) : Int)) := fSub_nat (1 + i) 1 (by omega)
        have e4 : ((1 + i : Nat) : Int).toNat = 1 + i := nat_int _
        have hI' : upd fr "k" (.int ((1 + i : Nat) : Int)) "word" = some (.str (tx cs)) := by simp only [upd_diff, String.reduceBEq]; exact hI
        refine ⟨rfl, hI', ?_, fun _ => ⟨_, hI', ?_⟩⟩
        · simp only [Mo.bind, Mo.pure, Mo.var, Mo.opt, upd_same, upd_diff, Option.map_some, ↓reduceIte, String.reduceBEq, truD_bool, hI, isSub_str, e1, e2, e3, fLt_one, e4]
        · simp only [emOne, Mo.var, upd_same, Option.map_some])]
    have hsz := szL (n := (((List.range (cs.length - 1)).map fun (i : Nat) => D.int (((1 + i : Nat)) : Int)).filter fun d => match d with
      | .int k => decide (cs.getD k.toNat 0 < cs.getD (k.toNat - 1) 0)
      | _ => false).length) (Nat.le_trans (List.length_filter_le _ _) (by simp; omega))
    have hv : (((List.range (cs.length - 1)).map fun (i : Nat) => D.int (((1 + i : Nat)) : Int)).filter fun d => match d with
      | .int k => decide (cs.getD k.toNat 0 < cs.getD (k.toNat - 1) 0)
      | _ => false).length = fallsN cs := by
      rw [List.filter_map, List.length_map]
      refine congrArg (fun f => ((List.range (cs.length - 1)).filter f).length) (funext fun i => ?_)
      simp only [Function.comp, nat_int]
      rw [Nat.add_comm 1 i]; rfl
    simp only [List.map_id', if_pos hsz]
    simp only [Mf.pure, one1_at, Option.map_some, fLen_lst, hv]
  obtain ⟨m, hm, hs⟩ := body
  refine Fn.mono (Fn.at h (ok_220 _) (Bnd.plan (by exact ⟨trivial, trivial⟩) ?_) ?_ hm) hs
  · intro S vs kw hv hk
    refine Eq.trans (congrArg (fun K => peek K S _) h) ?_
    obtain ⟨v0, rfl⟩ := len1 hv
    obtain rfl := kw0 hk
    kernel_rfl
  · exact bfOf_all (by kernel_rfl)
noncomputable def sAbove : Fm := on1 dRef fun k σ => (hdr σ k).map fun r => (.val (.int (aboveN r.2)), σ)
theorem f_above : Fn G true 7 225 sAbove := by
  have body : ∃ m, Exs G true 6 (scopeAt (K2 G.w.params) 225) (bodyAt (K2 G.w.params) 225) m ∧ ∀ ds kd σ r, sAbove ds kd σ = some r → ((bfOf 1 [] [("table", .pos 0)] ds kd).bind fun bd => Mf.fn m (frB bd fun _ => none) σ) = some r := by
    refine ⟨_, (Exs.cons (Ex.asgn (Ev.tup (ms := [_, _]) ⟨(Ev.methI (i1_134 h) (i2_134 h) (i3_134 h) (i4_134 h) (Ev.loc rfl rfl) (ms := []) (mk := []) trivial trivial ((f_keys h).up (by omega)).ca), (Ev.methI (i1_139 h) (i2_139 h) (i3_139 h) (i4_139 h) (Ev.loc rfl rfl) (ms := []) (mk := []) trivial trivial ((f_values h).up (by omega)).ca), trivial⟩ rfl) (As.tup (fs := [_, _]) ⟨(As.name (Or.inr rfl)), (As.name (Or.inr rfl)), trivial⟩ rfl) (sw_of fun env => ⟨rfl, by kernel_rfl, by kernel_rfl⟩))
    (Exs.cons (Ex.ret (Ev.call (g_len h rfl) (ms := [_]) (mk := []) ⟨(Ev.lcF (CompL.one (W := []) (Ev.call (g_range h rfl) (ms := [_]) (mk := []) ⟨(Ev.call (g_len h rfl) (ms := [_]) (mk := []) ⟨(Ev.cel rfl rfl), trivial⟩ trivial Kep.blt Ca.len), trivial⟩ trivial Kep.typ Ca.range) (AsC.name rfl) (Ts.one (Cd.cmp (Ev.sub (Ev.cel rfl rfl) (Ev.loc rfl rfl) Op2.idx rfl) (Ev.methS F.slot_str_lower F.type_str_lower (Ev.sub (Ev.cel rfl rfl) (Ev.loc rfl rfl) Op2.idx rfl) (ms := []) (mk := []) trivial trivial Ca.lower) (Op2.gt))) (Ev.loc rfl rfl) (by first | rfl | kernel_rfl))), trivial⟩ trivial Kep.blt Ca.len))
    Exs.nil)), ?_⟩
    intro ds kd σ r hr
    replace hr := on1_inv dRef_eq hr
    obtain ⟨k, rfl, rfl, hr⟩ := hr
    obtain ⟨⟨j, ps⟩, hh, hr⟩ := Option.map_eq_some_iff.mp hr
    cases hr
    (refine xAAA (hdr_ok hh) fun h1 h2 h3 h4 => ?_)
    have i0 : isIns 182 "keys" (.ref k) σ = true := isIns_ok h1 (by rw [Ne, ofs_inj]; decide)
    have i1 : isIns 182 "values" (.ref k) σ = true := isIns_ok h1 (by rw [Ne, ofs_inj]; decide)
    simp only [bfOf, List.length_cons, List.length_nil, List.map_cons, List.map_nil, if_true, Nat.reduceAdd, Option.bind_some, Sr.dat, List.getD_cons_zero, List.getD_cons_succ]
    simp only [Mf.fn, Mf.seq, Mf.bind, Mf.lift, Mf.set, Mf.pure, Mo.op2, Mo.bind, Mo.calF, Mo.args, seq_nil, seq_cons, seqK_nil, Mo.pure, Mo.var, Mo.tru, Mo.opt, Mo.meth, Mo.chk, Mo.tup, Mo.guard, frB_nil, frB_cons, upd_same, Option.map_some, Option.bind_some, ↓reduceIte, List.length_cons, List.length_nil, Nat.reduceAdd, decide_true, sz2, tupA_tup, goA_nil, goA_cons, i0, i1, sKeys_at, sValues_at, hh]
    rw [lcRun_pure (σ1 := σ) (d := .rng 0 ps.length) (x := ⟨(List.range (ps.length - 0)).map fun (i : Nat) => .int (((0 + i : Nat)) : Int), fun _ => True⟩) (fun fr => fr "names" = some (.lst (ps.map fun p => .str p.1)) ∧ fr "values" = some (.lst (ps.map fun p => .str p.2))) (fun d => match d with
      | .int k => abT ps k.toNat
      | _ => false) (fun d => d) (by simp only [Mo.bind, Mo.pure, Mo.var, upd_same, upd_diff, one1_at, Option.map_some, String.reduceBEq, fLen, lstOf, fRng, List.length_map]) (srcD_rng σ 0 ps.length (by decide) h3) trivial (by
        unfold frIn
        constructor
        · rw [if_pos (by kernel_rfl)]
          simp only [upd_same, upd_diff, String.reduceBEq]
        · rw [if_pos (by kernel_rfl)]
          simp only [upd_same]) (fun d hd fr hI => by
        (refine xEA (List.mem_map.mp hd) fun i hi q0z => ?_; subst q0z)
        rw [List.mem_range] at hi
        rw [Nat.zero_add i]
        have e4 : (i : Int).toNat = i := nat_int _
        obtain ⟨p, hp⟩ : ∃ p, ps[i]? = some p := ⟨_, List.getElem?_eq_getElem (by omega)⟩
        have e1 : fIdx σ (.lst (ps.map fun p => .str p.1)) (.int i) = some (.str p.1) := by rw [fIdx_lst _ _ _ (by omega), List.getElem?_map, hp]; rfl
        have e2 : fIdx σ (.lst (ps.map fun p => .str p.2)) (.int i) = some (.str p.2) := by rw [fIdx_lst _ _ _ (by omega), List.getElem?_map, hp]; rfl
        have hI' : upd fr "k" (.int (i : Int)) "names" = some (.lst (ps.map fun p => .str p.1)) ∧ upd fr "k" (.int (i : Int)) "values" = some (.lst (ps.map fun p => .str p.2)) := by simp only [upd_diff, String.reduceBEq]; exact hI
        have hs := h4 p (List.mem_of_getElem? hp)
        refine ⟨rfl, hI', ?_, fun _ => ⟨_, hI', ?_⟩⟩
        · simp only [Mo.bind, Mo.pure, Mo.var, Mo.opt, Mo.chk, upd_same, upd_diff, one1_at, Option.map_some, ↓reduceIte, String.reduceBEq, isStr_str, truD_bool, hI.1, hI.2, isSub_lst, e1, e2, fLower, shortS_le hs.1, fGt, e4, abT, hp]
        · simp only [emOne, Mo.var, upd_same, Option.map_some])]
    have hsz := szL (n := (((List.range (ps.length - 0)).map fun (i : Nat) => D.int (((0 + i : Nat)) : Int)).filter fun d => match d with
      | .int k => abT ps k.toNat
      | _ => false).length) (Nat.le_trans (List.length_filter_le _ _) (by simp; omega))
    have hv : (((List.range (ps.length - 0)).map fun (i : Nat) => D.int (((0 + i : Nat)) : Int)).filter fun d => match d with
      | .int k => abT ps k.toNat
      | _ => false).length = aboveN ps := by
      rw [List.filter_map, List.length_map]
      refine congrArg (fun f => ((List.range (ps.length)).filter f).length) (funext fun i => ?_)
      simp only [Function.comp, nat_int]
      rw [Nat.zero_add]
    simp only [List.map_id', if_pos hsz]
    simp only [Mf.pure, one1_at, Option.map_some, fLen_lst, hv]
  obtain ⟨m, hm, hs⟩ := body
  refine Fn.mono (Fn.at h (ok_225 _) (Bnd.plan (by exact ⟨trivial, trivial⟩) ?_) ?_ hm) hs
  · intro S vs kw hv hk
    refine Eq.trans (congrArg (fun K => peek K S _) h) ?_
    obtain ⟨v0, rfl⟩ := len1 hv
    obtain rfl := kw0 hk
    kernel_rfl
  · exact bfOf_all (by kernel_rfl)
end
end Mine
end
section
open PySem PySem.W PyProof.Rows PySem.Calls
set_option maxRecDepth 100000
set_option maxHeartbeats 4000000
namespace Mine
section
theorem lcEach_flat {β : Type} {P : List AO → Prop} {tgt : D → Fr → Fr} {ok : D → Bool} {test : Mo Bool} {em : Em β} (I : Fr → Prop) (g : D → List β) {σ : List AO} (hP : P σ) :
    ∀ {ds : List D}, (∀ d ∈ ds, ∀ fr, I fr → ok d = true ∧ test (tgt d fr) σ = some (.val true, σ) ∧ ∃ fr2, I fr2 ∧ em (tgt d fr) σ = some (g d, fr2, σ)) →
    ∀ fr, I fr → ∃ fr', I fr' ∧ lcEach P tgt ok test em ds fr σ = some (ds.flatMap g, fr', σ)
  | [], _, fr, hI => ⟨fr, hI, by unfold lcEach; rw [if_pos hP]; rfl⟩
  | d :: ds, h, fr, hI => by
    (refine xAA (h d (.head _) fr hI) fun h1 h2 w41z => ?_; refine xEA w41z fun fr2 h3 h4 => ?_)
    (refine xEA (lcEach_flat I g hP (fun d hd => h d (.tail _ hd)) fr2 h3) fun fr' h5 e => ?_)
    refine ⟨fr', h5, ?_⟩
    unfold lcEach
    rw [if_pos hP, if_pos h1, h2]
    dsimp only
    rw [h4]
    dsimp only
    rw [e]
    rfl
theorem lcRun_flat {β : Type} {scope : Scope} {m : Mo D} {tgt : D → Fr → Fr} {ok : D → Bool} {test : Mo Bool} {em : Em β} {fr : Fr} {σ σ1 : List AO} (I : Fr → Prop) (g : D → List β) {d : D} {x : Src} (hm : m fr σ = some (.val d, σ1)) (hx : srcD d σ1 = some x) (hP : x.P σ1)
    (h0 : I (frIn scope fr)) (h : ∀ d ∈ x.ds, ∀ fr, I fr → ok d = true ∧ test (tgt d fr) σ1 = some (.val true, σ1) ∧ ∃ fr2, I fr2 ∧ em (tgt d fr) σ1 = some (g d, fr2, σ1)) :
    lcRun scope m tgt ok test em fr σ = some (x.ds.flatMap g, σ1) := by
  (refine xEA (lcEach_flat I g hP h _ h0) fun fr' _ e => ?_)
  exact lcRun_of hm hx ⟨fr', e⟩
theorem emSrc_of {β : Type} {m : Mo Src} {tgt : D → Fr → Fr} {ok : D → Bool} {test : Mo Bool} {em : Em β} {fr : Fr} {σ σ1 : List AO} {x : Src} (I : Fr → Prop) (g : D → List β) (hm : m fr σ = some (.val x, σ1)) (hP : x.P σ1) (h0 : I fr)
    (h : ∀ d ∈ x.ds, ∀ fr, I fr → ok d = true ∧ test (tgt d fr) σ1 = some (.val true, σ1) ∧ ∃ fr2, I fr2 ∧ em (tgt d fr) σ1 = some (g d, fr2, σ1)) :
    ∃ fr2, I fr2 ∧ emSrc m tgt ok test em fr σ = some (x.ds.flatMap g, fr2, σ1) := by
  (refine xEA (lcEach_flat I g hP h _ h0) fun fr' h1 e => ?_)
  refine ⟨fr', h1, ?_⟩
  unfold emSrc
  rw [hm]
  exact e
theorem emSrc_thr {β : Type} {m : Mo Src} {tgt : D → Fr → Fr} {ok : D → Bool} {test : Mo Bool} {em : Em β} {fr : Fr} {σ σ1 : List AO} {x : Src} {zs : List β} (I : Fr → Prop) (g : D → List β) (hm : m fr σ = some (.val x, σ1)) (hP : x.P σ1) (h0 : I fr)
    (h : ∀ d ∈ x.ds, ∀ fr, I fr → ok d = true ∧ test (tgt d fr) σ1 = some (.val true, σ1) ∧ ∃ fr2, I fr2 ∧ em (tgt d fr) σ1 = some (g d, fr2, σ1)) (hz : x.ds.flatMap g = zs) :
    ∃ fr2, True ∧ emSrc m tgt ok test em fr σ = some (zs, fr2, σ1) := by
  (refine xEA (emSrc_of I g hm hP h0 h) fun fr2 _ e => ?_)
  exact ⟨fr2, trivial, by rw [e, hz]⟩
theorem fIdx_prev (σ : List AO) (r : List Nat) (k : Nat) (hr : r.length ≤ 1000) (hk : k < r.length) : fIdx σ (.str (tx r)) (.int ((k : Int) - 1)) = some (.str (tx [r.getD (if k = 0 then r.length - 1 else k - 1) 0])) := by
  by_cases h : k = 0
  · subst h
    rw [if_pos rfl, show (((0 : Nat) : Int) - 1) = -1 from rfl, fIdx_strLast, List.getLast?_eq_getElem?, List.getD_eq_getElem?_getD, List.getElem?_eq_getElem (by omega)]; rfl
  · rw [if_neg h, show ((k : Int) - 1) = ((k - 1 : Nat) : Int) by omega, fIdx_strN σ r (k - 1) hr (by omega)]
noncomputable def pN (p : Nat × Nat) : D := pD (tx [p.1], tx [p.2])
theorem fSub_int (a b : Int) : fSub (.int a) (.int b) = some (.int (a - b)) := rfl
theorem flat_one {α β : Type} (f : α → β) (l : List α) : l.flatMap (fun a => [f a]) = l.map f := by
  induction l with
  | nil => rfl
  | cons a l ih => rw [List.flatMap_cons, ih]; rfl
theorem flat_map {α β γ : Type} (f : α → β) (g : β → List γ) (l : List α) : (l.map f).flatMap g = l.flatMap fun a => g (f a) := by
  induction l with
  | nil => rfl
  | cons a l ih => rw [List.map_cons, List.flatMap_cons, List.flatMap_cons, ih]
theorem map_flat {α β γ : Type} (f : β → γ) (g : α → List β) (l : List α) : (l.flatMap g).map f = l.flatMap fun a => (g a).map f := by
  induction l with
  | nil => rfl
  | cons a l ih => rw [List.flatMap_cons, List.map_append, List.flatMap_cons, ih]
noncomputable def ringP (r : List Nat) : List (Nat × Nat) := (List.range r.length).map fun k => (r.getD k 0, r.getD (if k = 0 then r.length - 1 else k - 1) 0)
noncomputable def pairsN (cs : List Nat) : List (Nat × Nat) := (ringsN cs).flatMap ringP
noncomputable def bitD (b : Int) (k : Nat) : Bool := (b.fdiv ((2 ^ k : Nat) : Int)).fmod 2 == 1
noncomputable def prS (b : Int) (P : List (Nat × Nat)) : List (PySem.Str × PySem.Str) := (List.range P.length).map fun i => (if bitD b i = true then Txt.upper (tx [(P.getD i (0, 0)).1]) else tx [(P.getD i (0, 0)).1], tx [(P.getD i (0, 0)).2])
theorem ringP_len (r : List Nat) : (ringP r).length = r.length := by simp [ringP]
theorem pairsN_len (cs : List Nat) : (pairsN cs).length = cs.length := by
  unfold pairsN
  rw [List.length_flatMap]
  have : (ringsN cs).map (fun r => (ringP r).length) = (ringsN cs).map List.length := List.map_congr_left fun r _ => ringP_len r
  rw [this, ← List.length_flatten, ringsN_flat]
theorem fPow_two {k : Nat} (h : k ≤ 20) : fPow (.int 2) (.int (k : Int)) = some (.int ((2 ^ k : Nat) : Int)) := by
  unfold fPow
  dsimp only
  have e : Builtin.Int.intBits 2 = 2 := by decide +kernel
  rw [if_pos ⟨by omega, by rw [e]; omega⟩, nat_int]
  simp
theorem fDiv_pow {b : Int} {k : Nat} (h : k ≤ 20) : fDiv (.int b) (.int ((2 ^ k : Nat) : Int)) = some (.int (b.fdiv ((2 ^ k : Nat) : Int))) := by
  have h1 : 2 ^ k ≤ 2 ^ 20 := Nat.pow_le_pow_right (by decide) h
  have h2 : 0 < 2 ^ k := Nat.two_pow_pos k
  unfold fDiv
  dsimp only
  rw [if_pos]
  generalize 2 ^ k = m at h1 h2
  have : (2 : Nat) ^ 20 = 1048576 := by decide
  omega
theorem pairs_asc {cs : List Nat} (h : ∀ c ∈ cs, c < 128) : ∀ p ∈ pairsN cs, p.1 < 128 ∧ p.2 < 128 := by
  intro p hp
  (refine xEA (List.mem_flatMap.mp hp) fun r hr hp => ?_)
  (refine xEA (List.mem_map.mp hp) fun k hk q0z => ?_; subst q0z)
  rw [List.mem_range] at hk
  have hm : ∀ i, i < r.length → r.getD i 0 < 128 := fun i hi => by
    rw [List.getD_eq_getElem?_getD, List.getElem?_eq_getElem hi]
    exact h _ (by rw [← ringsN_flat cs]; exact List.mem_flatten.mpr ⟨r, hr, List.getElem_mem hi⟩)
  exact ⟨hm k hk, hm _ (by split <;> omega)⟩
end
section
variable {G : Amb} (h : G.K = K2 G.w.params)
include h
noncomputable def sPairs : Fm := on2 dStr dInt fun x b σ => if shortS x = true ∧ x.length ≤ 20 then some (.val (.lst ((prS b (pairsN x.cps.toList)).map pD)), σ) else none
theorem f_pairs : Fn G true 6 198 sPairs := by
  have body : ∃ m, Exs G true 5 (scopeAt (K2 G.w.params) 198) (bodyAt (K2 G.w.params) 198) m ∧ ∀ ds kd σ r, sPairs ds kd σ = some r → ((bfOf 2 [] [("word", .pos 0), ("bits", .pos 1)] ds kd).bind fun bd => Mf.fn m (frB bd fun _ => none) σ) = some r := by
    refine ⟨_, (Exs.cons (Ex.asgn (Ev.lcF (CompL.two (W := []) (Ev.call (g_law_rings h rfl) (ms := [_]) (mk := []) ⟨(Ev.loc rfl rfl), trivial⟩ trivial (i4_193 h) ((f_rings h).up (by omega)).ca) (AsC.name rfl) Ts.nil (Ev.call (g_range h rfl) (ms := [_]) (mk := []) ⟨(Ev.call (g_len h rfl) (ms := [_]) (mk := []) ⟨(Ev.loc rfl rfl), trivial⟩ trivial Kep.blt Ca.len), trivial⟩ trivial Kep.typ Ca.range) (AsC.name rfl) Ts.nil (Ev.tup (ms := [_, _]) ⟨(Ev.sub (Ev.loc rfl rfl) (Ev.loc rfl rfl) Op2.idx rfl), (Ev.sub (Ev.loc rfl rfl) (Ev.bin (Ev.loc rfl rfl) Ev.kInt Op2.sub) Op2.idx rfl), trivial⟩ rfl) (by first | rfl | kernel_rfl))) (As.name (Or.inr rfl)) (sw_of fun env => ⟨rfl, by kernel_rfl, by kernel_rfl⟩))
    (Exs.cons (Ex.ret (Ev.lcF (CompL.one (W := []) (Ev.call (g_range h rfl) (ms := [_]) (mk := []) ⟨(Ev.call (g_len h rfl) (ms := [_]) (mk := []) ⟨(Ev.cel rfl rfl), trivial⟩ trivial Kep.blt Ca.len), trivial⟩ trivial Kep.typ Ca.range) (AsC.name rfl) Ts.nil (Ev.tup (ms := [_, _]) ⟨(Ev.ite (Cd.cmp (Ev.bin (Ev.bin (Ev.cel rfl rfl) (Ev.bin Ev.kInt (Ev.loc rfl rfl) Op2.pow) Op2.fdiv) Ev.kInt Op2.mod) Ev.kInt (Op2.eq (by omega))) (Ev.methS F.slot_str_upper F.type_str_upper (Ev.sub (Ev.sub (Ev.cel rfl rfl) (Ev.loc rfl rfl) Op2.idx rfl) Ev.kInt Op2.idx rfl) (ms := []) (mk := []) trivial trivial Ca.upper) (Ev.sub (Ev.sub (Ev.cel rfl rfl) (Ev.loc rfl rfl) Op2.idx rfl) Ev.kInt Op2.idx rfl)), (Ev.sub (Ev.sub (Ev.cel rfl rfl) (Ev.loc rfl rfl) Op2.idx rfl) Ev.kInt Op2.idx rfl), trivial⟩ rfl) (by first | rfl | kernel_rfl))))
    Exs.nil)), ?_⟩
    intro ds kd σ r hr
    replace hr := on2_inv dStr_eq dInt_eq hr
    obtain ⟨x, b, rfl, rfl, hr⟩ := hr
    replace hr := ite_inv hr
    obtain ⟨hx, hr⟩ := hr
    cases hr
    obtain ⟨hx, hx20⟩ := hx
    have hxe := tx_of x
    have hxx := hx
    generalize hcs : x.cps.toList = cs at hxe
    subst hxe
    have ha := asc_of hx
    rw [tx_len] at hx20
    simp only [bfOf, List.length_cons, List.length_nil, List.map_cons, List.map_nil, if_true, Nat.reduceAdd, Option.bind_some, Sr.dat, List.getD_cons_zero, List.getD_cons_succ]
    simp only [Mf.fn, Mf.seq, Mf.bind, Mf.lift, Mf.set, Mf.pure, Mo.op2, Mo.calF, Mo.args, seq_nil, seq_cons, seqK_nil, Mo.tru, Mo.ite, Mo.meth, Mo.tup, Mo.guard, frB_nil, frB_cons]
    have hsr : sRings [.str (tx cs)] [] σ = some (.val (rgD (ringsN cs)), σ) := by
      refine Eq.trans (on1_mk rfl) ?_
      rw [if_pos hx, tx_cps]
    have hra : ∀ r ∈ ringsN cs, asc r := fun r hr => ring_asc ha hr
    rw [lcRun_flat (σ1 := σ) (d := rgD (ringsN cs)) (x := ⟨((ringsN cs).map tx).map .str, fun _ => True⟩) (fun _ => True) (fun d => match d with
      | .str x => (ringP x.cps.toList).map pN
      | _ => []) (by simp only [Mo.bind, Mo.pure, Mo.var, upd_same, upd_diff, Option.map_some, String.reduceBEq, hsr]) rfl trivial trivial (fun d hd fr _ => by
        obtain ⟨x, hx, rfl⟩ := List.mem_map.mp hd
        obtain ⟨r, hr, rfl⟩ := List.mem_map.mp hx
        have hr1 := (hra r hr).1
        have hrg := srcD_rng σ 0 r.length (by decide) hr1
        refine ⟨rfl, rfl, emSrc_thr (σ1 := σ) (x := ⟨(List.range (r.length - 0)).map fun (i : Nat) => .int (((0 + i : Nat)) : Int), fun _ => True⟩) (fun fr => fr "ring" = some (.str (tx r))) (fun d => match d with
          | .int k => [pN (r.getD k.toNat 0, r.getD (if k.toNat = 0 then r.length - 1 else k.toNat - 1) 0)]
          | _ => []) ?_ trivial ?_ (fun d hd fr hI => ?_) ?_⟩
        · have hrg' : srcD (.rng 0 (r.length : Int)) σ = _ := hrg
          simp only [Mo.bind, Mo.pure, Mo.var, upd_same, one1_at, Option.map_some, fLen_str, fRng, Mo.src, hrg']
        · simp only [upd_same]
        · obtain ⟨k, hk, rfl⟩ := List.mem_map.mp hd
          rw [List.mem_range] at hk
          rw [Nat.zero_add k]
          have hI' : upd fr "k" (.int (k : Int)) "ring" = some (.str (tx r)) := by simp only [upd_diff, String.reduceBEq]; exact hI
          have e1 := fIdx_strN σ r k hr1 (by omega)
          have e2 := fIdx_prev σ r k hr1 (by omega)
          refine ⟨rfl, rfl, _, hI', ?_⟩
          simp only [emOne, Mo.bind, Mo.pure, Mo.var, Mo.opt, upd_same, upd_diff, Option.map_some, ↓reduceIte, String.reduceBEq, List.length_cons, List.length_nil, Nat.reduceAdd, decide_true, sz2, fSub_ii, hI, isSub_str, e1, e2, fSub_int, nat_int, pN, pD]
        · rw [flat_map]
          simp only [nat_int]
          rw [flat_one, Nat.sub_zero]
          unfold ringP
          rw [List.map_map, tx_cps]
          exact List.map_congr_left fun k _ => by rw [Nat.zero_add k]; rfl)]
    have hfl : (((ringsN cs).map tx).map D.str).flatMap (fun d => match d with
      | .str x => (ringP x.cps.toList).map pN
      | _ => []) = (pairsN cs).map pN := by
      rw [flat_map, flat_map]
      unfold pairsN
      rw [map_flat]
      simp only [tx_cps]
    have hpl := pairsN_len cs
    have hpa := pairs_asc ha.2
    have hsz : ((pairsN cs).map pN).length ≤ sizeLine := szL (by rw [List.length_map]; omega)
    simp only [hfl, if_pos hsz, Mf.bind, Mf.lift, Mf.pure, Option.map_some]
    have hlen : ((pairsN cs).map pN).length ≤ 1000 := by rw [List.length_map]; omega
    have hrg : srcD (.rng 0 (((pairsN cs).map pN).length : Int)) σ = _ := srcD_rng σ 0 _ (by decide) hlen
    rw [lcRun_pure (σ1 := σ) (d := .rng 0 (((pairsN cs).map pN).length : Int)) (x := ⟨(List.range (((pairsN cs).map pN).length - 0)).map fun (i : Nat) => .int (((0 + i : Nat)) : Int), fun _ => True⟩) (fun fr => fr "pairs" = some (.lst ((pairsN cs).map pN)) ∧ fr "bits" = some (.int b)) (fun _ => true) (fun d => match d with
      | .int k => pD (if bitD b k.toNat = true then Txt.upper (tx [((pairsN cs).getD k.toNat (0, 0)).1]) else tx [((pairsN cs).getD k.toNat (0, 0)).1], tx [((pairsN cs).getD k.toNat (0, 0)).2])
      | _ => .none) (by simp only [Mo.bind, Mo.pure, Mo.var, upd_same, one1_at, Option.map_some, fLen_lst, fRng]) hrg trivial (by
        unfold frIn
        constructor
        · rw [if_pos (by kernel_rfl)]
          simp only [upd_same]
        · rw [if_pos (by kernel_rfl)]
          simp only [upd_same, upd_diff, String.reduceBEq]) (fun d hd fr hI => by
        obtain ⟨k, hk, rfl⟩ := List.mem_map.mp hd
        rw [List.mem_range, List.length_map] at hk
        rw [Nat.zero_add k]
        have hI' : upd fr "k" (.int (k : Int)) "pairs" = some (.lst ((pairsN cs).map pN)) ∧ upd fr "k" (.int (k : Int)) "bits" = some (.int b) := by simp only [upd_diff, String.reduceBEq]; exact hI
        refine ⟨rfl, hI', rfl, fun _ => ⟨_, hI', ?_⟩⟩
        have hp : (pairsN cs)[k]? = some ((pairsN cs).getD k (0, 0)) := by rw [List.getD_eq_getElem?_getD, List.getElem?_eq_getElem (by omega)]; rfl
        have hp2 := hpa _ (List.mem_of_getElem? hp)
        simp only [nat_int]
        generalize (pairsN cs).getD k (0, 0) = p at hp hp2
        have e1 : fIdx σ (.lst ((pairsN cs).map pN)) (.int (k : Int)) = some (pN p) := by rw [fIdx_lst _ _ _ (by omega), List.getElem?_map, hp]; rfl
        have e2 : fIdx σ (pN p) (.int 0) = some (.str (tx [p.1])) := fIdx_0 _ _ _
        have e3 : fIdx σ (pN p) (.int 1) = some (.str (tx [p.2])) := fIdx_1 _ _ _
        have e4 : isSub (pN p) σ = true := rfl
        have e5 := fDiv_pow (b := b) (show k ≤ 20 by omega)
        have e6 := fPow_two (show k ≤ 20 by omega)
        have e7 := shortS_le (short_tx (asc_one hp2.1))
        simp only [emOne, Mo.bind, Mo.pure, Mo.var, Mo.opt, upd_same, upd_diff, Option.map_some, ↓reduceIte, String.reduceBEq, truD_bool, hI.1, hI.2, isSub_lst, e1, e2, e3, e4, e5, e6, fMod_two, opEq_int]
        unfold bitD
        cases ((b.fdiv ((2 ^ k : Nat) : Int)).fmod 2 == 1) with
        | true => simp only [Mo.bind, Mo.pure, Mo.var, Mo.chk, upd_same, upd_diff, one1_at, Option.map_some, ↓reduceIte, String.reduceBEq, List.length_cons, List.length_nil, Nat.reduceAdd, isStr_str, decide_true, sz2, isSub_lst, hI.1, hI.2, e1, e2, e3, e4, fUpper, e7, pD]
        | false => simp only [Mo.bind, Mo.pure, Mo.var, upd_same, upd_diff, Option.map_some, ↓reduceIte, Bool.false_eq_true, String.reduceBEq, List.length_cons, List.length_nil, Nat.reduceAdd, decide_true, sz2, isSub_lst, hI.1, hI.2, e1, e2, e3, e4, pD])]
    have hv : (((List.range (((pairsN cs).map pN).length - 0)).map fun (i : Nat) => D.int (((0 + i : Nat)) : Int)).filter fun _ => true).map (fun d => match d with
      | .int k => pD (if bitD b k.toNat = true then Txt.upper (tx [((pairsN cs).getD k.toNat (0, 0)).1]) else tx [((pairsN cs).getD k.toNat (0, 0)).1], tx [((pairsN cs).getD k.toNat (0, 0)).2])
      | _ => .none) = (prS b (pairsN cs)).map pD := by
      rw [filter_true, List.map_map]
      unfold prS
      rw [List.map_map, List.length_map, Nat.sub_zero]
      exact List.map_congr_left fun k _ => by simp only [Function.comp, Nat.zero_add, nat_int]
    have hsz2 : ((prS b (pairsN cs)).map pD).length ≤ sizeLine := szL (by unfold prS; rw [List.length_map, List.length_map, List.length_range]; omega)
    simp only [hv, if_pos hsz2, Mf.pure, Option.map_some]
  obtain ⟨m, hm, hs⟩ := body
  refine Fn.mono (Fn.at h (ok_198 _) (Bnd.plan (by exact ⟨trivial, trivial, trivial⟩) ?_) ?_ hm) hs
  · intro S vs kw hv hk
    refine Eq.trans (congrArg (fun K => peek K S _) h) ?_
    obtain ⟨v0, v1, rfl⟩ := len2 hv
    obtain rfl := kw0 hk
    kernel_rfl
  · exact bfOf_all (by kernel_rfl)
end
end Mine
end
section
open PySem PySem.W PyProof.Rows PySem.Calls
set_option maxRecDepth 100000
set_option maxHeartbeats 4000000
namespace Mine
section
theorem sCls_list {σ : List AO} {j : Nat} {ds : List D} {o : Option (String × PySem.Str)} (hj : σ[j]? = some (.lst ds)) (ho : cvL ds = some o) :
    sCls [.ref j] [] σ = some (match o with
      | none => .val (.ref σ.length)
      | some e => .exc e.1 e.2, σ ++ [.ins 182 [("_headers", .ref j)]]) := by
  have e : initL σ.length j (σ ++ [.ins 182 []]) = some (outE o, σ ++ [.ins 182 [("_headers", .ref j)]]) := by
    unfold initL
    rw [pick_mk (a := ds) ⟨get_last, get_old hj⟩ fun b hb => by have q := s1E (hb.2.symm.trans (get_old hj)); injection q, Option.bind_some, ho, Option.map_some, set_last]
  unfold sCls mfCls
  rw [show sInit [.ref σ.length, .ref j] [] (σ ++ [.ins 182 []]) = _ from e]
  cases o <;> rfl
theorem sCls_tup {σ : List AO} {ds : List D} : sCls [.tup ds] [] σ = some (.exc "TypeError" msgT, σ ++ [.ins 182 []]) := by rfl
noncomputable def okP (p : PySem.Str × PySem.Str) : Bool := shortS p.1 && shortS p.2 && !(p.1.cps.toList.any ctlN) && !(p.2.cps.toList.any ctlV)
theorem okP_ok {p : PySem.Str × PySem.Str} (h : okP p = true) : shortS p.1 = true ∧ shortS p.2 = true ∧ p.1.cps.toList.any ctlN = false ∧ p.2.cps.toList.any ctlV = false := by
  unfold okP at h
  simp only [Bool.and_eq_true, Bool.not_eq_true'] at h
  exact ⟨h.1.1.1, h.1.1.2, h.1.2, h.2⟩
theorem sAdd_ok {σ : List AO} {k j : Nat} {ps : List (PySem.Str × PySem.Str)} {p : PySem.Str × PySem.Str} (hh : hdr σ k = some (j, ps)) (hp : okP p = true) :
    sAdd [.ref k, .str p.1, .str p.2] [] σ = some (.val .none, (σ ++ [AO.lst [.str p.2]]).set j (.lst ((ps ++ [p]).map pD))) := by
  (refine xAAA (okP_ok hp) fun h1 h2 h3 h4 => ?_)
  unfold sAdd
  simp only [hh, Option.bind_some, addH_ss, h1, h2, h3, h4, and_self, if_true, Bool.false_eq_true, if_false, List.map_append, List.map_cons, List.map_nil]
noncomputable def tbl (σ : List AO) (ps : List (PySem.Str × PySem.Str)) : List AO := σ ++ (AO.lst (ps.map pD) :: AO.ins 182 [("_headers", .ref σ.length)] :: ps.map fun p => AO.lst [.str p.2])
theorem get_at {σ τ : List AO} (i : Nat) : (σ ++ τ)[σ.length + i]? = τ[i]? := by
  rw [List.getElem?_append_right (by omega)]
  rw [Nat.add_sub_cancel_left]
theorem set_at {σ : List AO} {a b : AO} {τ : List AO} : (σ ++ a :: τ).set σ.length b = σ ++ b :: τ := by
  rw [List.set_append_right _ _ (Nat.le_refl _), Nat.sub_self]; rfl
theorem tbl_hdr {σ : List AO} {ps : List (PySem.Str × PySem.Str)} (h3 : ps.length ≤ 1000) (h4 : ∀ p ∈ ps, okP p = true) : hdr (tbl σ ps) (σ.length + 1) = some (σ.length, ps) :=
  hdr_of (by unfold tbl; rw [get_at]; rfl) (by unfold tbl; exact get_at 0) h3 fun p hp => ⟨(okP_ok (h4 p hp)).1, (okP_ok (h4 p hp)).2.1⟩
theorem tbl_add {σ : List AO} {ps : List (PySem.Str × PySem.Str)} {p : PySem.Str × PySem.Str} : ((tbl σ ps) ++ [AO.lst [.str p.2]]).set σ.length (.lst ((ps ++ [p]).map pD)) = tbl σ (ps ++ [p]) := by
  unfold tbl
  rw [List.append_assoc, List.cons_append, set_at]
  simp
end
section
variable {G : Amb} (h : G.K = K2 G.w.params)
include h
noncomputable def sTable : Fm := on1 dLst fun es σ => (prs es).bind fun ps => if ps.length ≤ 900 ∧ ps.all okP = true then some (.val (.ref (σ.length + 1)), tbl σ ps) else none
theorem f_table : Fn G true 8 205 sTable := by
  have body : ∃ m, Exs G true 7 (scopeAt (K2 G.w.params) 205) (bodyAt (K2 G.w.params) 205) m ∧ ∀ ds kd σ r, sTable ds kd σ = some r → ((bfOf 1 [] [("pairs", .pos 0)] ds kd).bind fun bd => Mf.fn m (frB bd fun _ => none) σ) = some r := by
    refine ⟨_, (Exs.cons (Ex.asgn (Ev.call (g_Headers h rfl) (ms := [_]) (mk := []) ⟨(Ev.lstR (ms := []) trivial rfl), trivial⟩ trivial (kep_headers h) ((f_cls h).up (by omega)).ca) (As.name (Or.inl rfl)) (sw_of fun env => ⟨rfl, by kernel_rfl, by kernel_rfl⟩))
    (Exs.cons (Ex.for (Itr.ev (Ev.loc rfl rfl))
      (As.tup (fs := [_, _]) ⟨(As.name (Or.inl rfl)), (As.name (Or.inl rfl)), trivial⟩ rfl)
      (Exs.cons (Ex.expr (Ev.methI (i1_179 h) (i2_179 h) (i3_179 h) (i4_179 h) (Ev.loc rfl rfl) (ms := [_, _]) (mk := []) ⟨(Ev.loc rfl rfl), (Ev.loc rfl rfl), trivial⟩ trivial ((f_add h).up (by omega)).ca))
      Exs.nil))
    (Exs.cons (Ex.ret (Ev.loc rfl rfl))
    Exs.nil))), ?_⟩
    intro ds kd σ r hr
    replace hr := on1_inv dLst_eq hr
    obtain ⟨es, rfl, rfl, hr⟩ := hr
    obtain ⟨ps, hps, hr⟩ := Option.bind_eq_some_iff.mp hr
    replace hr := ite_inv hr
    obtain ⟨hok, hr⟩ := hr
    cases hr
    have hok2 := List.all_eq_true.mp hok.2
    have hes := prs_eq hps
    subst hes
    simp only [bfOf, List.length_cons, List.length_nil, List.map_cons, List.map_nil, if_true, Nat.reduceAdd, Option.bind_some, Sr.dat, List.getD_cons_zero, List.getD_cons_succ]
    have hcl : sCls [.ref σ.length] [] (σ ++ [.lst []]) = some (.val (.ref (σ.length + 1)), tbl σ []) := by
      rw [sCls_list (o := none) get_last (by rfl)]
      simp [tbl]
    simp only [Mf.fn, Mf.seq, Mf.bind, Mf.lift, Mf.set, Mf.pure, Mo.bind, Mo.calF, Mo.args, seq_nil, seq_cons, seqK_nil, Mo.pure, Mo.var, Mo.opt, Mo.meth, Mo.lstR, Mo.guard, frB_nil, frB_cons, upd_same, upd_diff, Option.map_some, ↓reduceIte, String.reduceBEq, List.length_nil, decide_true, sz0, hcl, Mo.items, Mo.src, srcD]
    generalize hE : Mf.each _ _ _ _ _ _ = z
    have key : ∃ fr' σ', z = some (.val .next, fr', σ') ∧ (σ' = tbl σ (ps.take (ps.map pD).length) ∧ fr' "table" = some (.ref (σ.length + 1))) := by
      refine each_thr hE (fun i fr σ' => σ' = tbl σ (ps.take i) ∧ fr "table" = some (.ref (σ.length + 1))) (fun _ _ _ _ => trivial) ⟨rfl, by simp only [upd_same]⟩ ?_
      clear hE
      rintro i d fr σ' hd ⟨rfl, hI⟩
      rw [List.getElem?_map] at hd
      obtain ⟨p, hp, rfl⟩ := Option.map_eq_some_iff.mp hd
      have hh : hdr (tbl σ (ps.take i)) (σ.length + 1) = some (σ.length, ps.take i) := tbl_hdr (by rw [List.length_take]; omega) fun p hp => hok2 p (List.mem_of_mem_take hp)
      have i0 : isIns 182 "add_header" (.ref (σ.length + 1)) (tbl σ (ps.take i)) = true := isIns_ok (hdr_ok hh).1 (by rw [Ne, ofs_inj]; decide)
      have e1 := sAdd_ok hh (hok2 p (List.mem_of_getElem? hp))
      rw [tbl_add, ← take_snoc hp] at e1
      refine ⟨upd (upd fr "name" (.str p.1)) "value" (.str p.2), tbl σ (ps.take (i + 1)), ?_, rfl, by simp only [upd_diff, String.reduceBEq]; exact hI⟩
      simp only [turn, Mf.bind, Mf.lift, Mf.set, Mf.pure, Mo.bind, Mo.pure, Mo.var, Mo.chk, upd_same, upd_diff, Option.map_some, ↓reduceIte, String.reduceBEq, List.length_cons, List.length_nil, Nat.reduceAdd, tupA_tup, goA_nil, goA_cons, pD, hI, i0, e1]
    obtain ⟨fr', σ', rfl, rfl, e⟩ := key
    simp only [Mf.bind, Mf.lift, Mf.pure, Mo.var, Option.map_some, e, List.length_map, List.take_length]
  obtain ⟨m, hm, hs⟩ := body
  refine Fn.mono (Fn.at h (ok_205 _) (Bnd.plan (by exact ⟨trivial, trivial⟩) ?_) ?_ hm) hs
  · intro S vs kw hv hk
    refine Eq.trans (congrArg (fun K => peek K S _) h) ?_
    obtain ⟨v0, rfl⟩ := len1 hv
    obtain rfl := kw0 hk
    kernel_rfl
  · exact bfOf_all (by kernel_rfl)
end
end Mine
end
section
open PySem PySem.W PyProof.Rows PySem.Calls
set_option maxRecDepth 100000
set_option maxHeartbeats 4000000
namespace Mine
section
structure PS where
  C : Nat → List Nat
  word : List Nat
  ring : List Nat
  here : Nat
  leader : Nat
noncomputable def lets : List Nat := [97, 98, 99, 100]
noncomputable def bestC (C : Nat → List Nat) : Option Nat := (lets.filter fun c => decide (C c ≠ [])).getLast?
noncomputable def popAt (s : PS) (here leader : Nat) : Option PS := ((s.C here).getLast?).map fun v =>
  if v = leader then ⟨fun c => if c = here then (s.C c).dropLast else s.C c, v :: s.ring ++ s.word, [], v, leader⟩
  else ⟨fun c => if c = here then (s.C c).dropLast else s.C c, s.word, v :: s.ring, v, leader⟩
noncomputable def popStep (s : PS) : Option PS := if s.ring = [] then (bestC s.C).bind fun l => popAt s l l else popAt s s.here s.leader
noncomputable def popN : Nat → PS → Option PS
  | 0, s => some s
  | n + 1, s => (popN n s).bind popStep
theorem popN_le {s : PS} : ∀ {n i : Nat}, i ≤ n → (popN n s).isSome = true → (popN i s).isSome = true
  | 0, i, h, e => by rw [Nat.le_zero.mp h]; exact e
  | n + 1, i, h, e => by
    by_cases hi : i = n + 1
    · rw [hi]; exact e
    · refine popN_le (n := n) (by omega) ?_
      unfold popN at e
      cases hn : popN n s with
      | none => rw [hn] at e; cases e
      | some t => rfl
noncomputable def chD (c : Nat) : D := .str (tx [c])
noncomputable def enc (l : List Nat) : AO := .lst (l.map chD)
noncomputable def enc4 (C : Nat → List Nat) : List AO := (List.range 4).map fun i => enc (C (97 + i))
noncomputable def dcT (a : Nat) : List (PySem.Str × D) := (List.range 4).map fun i => (ltr i, .ref (a + i))
noncomputable def aOf (es : List (PySem.Str × D)) : Option Nat := pick fun a => es = dcT a
theorem aOf_eq {es : List (PySem.Str × D)} {a : Nat} (h : aOf es = some a) : es = dcT a := pick_ok (P := fun a => es = dcT a) h
theorem aOf_dcT (a : Nat) : aOf (dcT a) = some a := pick_mk rfl fun b hb => by
  have e : (dcT a).head? = (dcT b).head? := congrArg List.head? hb
  have e : some (ltr 0, D.ref a) = some (ltr 0, D.ref b) := e
  have e := s2B e
  injection e with e
  exact e.symm
noncomputable def colsAt (σ : List AO) (a : Nat) : Option (Nat → List Nat) := pick fun C => σ = σ.take a ++ enc4 C ∧ (σ.take a).length = a ∧ ∀ c, c ∉ lets → C c = []
theorem colsAt_eq {σ : List AO} {a : Nat} {C : Nat → List Nat} (h : colsAt σ a = some C) : σ = σ.take a ++ enc4 C ∧ (σ.take a).length = a ∧ ∀ c, c ∉ lets → C c = [] :=
  pick_ok (P := fun C => σ = σ.take a ++ enc4 C ∧ (σ.take a).length = a ∧ ∀ c, c ∉ lets → C c = []) h
noncomputable def total (C : Nat → List Nat) : Nat := (C 97).length + (C 98).length + (C 99).length + (C 100).length
theorem enc4_get {τ : List AO} {C : Nat → List Nat} {i : Nat} (hi : i < 4) : (τ ++ enc4 C)[τ.length + i]? = some (enc (C (97 + i))) := by
  rw [get_at]
  unfold enc4
  rw [List.getElem?_map, List.getElem?_range hi]; rfl
theorem enc4_set {τ : List AO} {C C' : Nat → List Nat} {i : Nat} (hi : i < 4) (h : ∀ j, j < 4 → j ≠ i → C' (97 + j) = C (97 + j)) : (τ ++ enc4 C).set (τ.length + i) (enc (C' (97 + i))) = τ ++ enc4 C' := by
  rw [List.set_append_right _ _ (by omega), Nat.add_sub_cancel_left]
  congr 1
  match i, hi with
  | 0, _ => simp only [enc4, List.range, List.range.loop, List.map_cons, List.map_nil, List.set_cons_zero, h 1 (by decide) (by decide), h 2 (by decide) (by decide), h 3 (by decide) (by decide)]
  | 1, _ => simp only [enc4, List.range, List.range.loop, List.map_cons, List.map_nil, List.set_cons_zero, List.set_cons_succ, h 0 (by decide) (by decide), h 2 (by decide) (by decide), h 3 (by decide) (by decide)]
  | 2, _ => simp only [enc4, List.range, List.range.loop, List.map_cons, List.map_nil, List.set_cons_zero, List.set_cons_succ, h 0 (by decide) (by decide), h 1 (by decide) (by decide), h 3 (by decide) (by decide)]
  | 3, _ => simp only [enc4, List.range, List.range.loop, List.map_cons, List.map_nil, List.set_cons_zero, List.set_cons_succ, h 0 (by decide) (by decide), h 1 (by decide) (by decide), h 2 (by decide) (by decide)]
theorem dcT_idx (σ : List AO) (a : Nat) {i : Nat} (hi : i < 4) : fIdx σ (.dct (dcT a)) (.str (tx [97 + i])) = some (.ref (a + i)) := by
  match i, hi with
  | 0, _ => kernel_rfl
  | 1, _ => kernel_rfl
  | 2, _ => kernel_rfl
  | 3, _ => kernel_rfl
noncomputable def lf (b0 b1 b2 b3 : Bool) : List Nat := (if b0 then [97] else []) ++ ((if b1 then [98] else []) ++ ((if b2 then [99] else []) ++ (if b3 then [100] else [])))
theorem lf_filter (p : Nat → Bool) : lets.filter p = lf (p 97) (p 98) (p 99) (p 100) := by
  unfold lets lf
  simp only [List.filter_cons, List.filter_nil]
  cases p 97 <;> cases p 98 <;> cases p 99 <;> cases p 100 <;> rfl
theorem lf_max : ∀ b0 b1 b2 b3 : Bool, (((lf b0 b1 b2 b3).map fun c => tx [c])[argBest (bestS ((lf b0 b1 b2 b3).map fun c => tx [c])) (((lf b0 b1 b2 b3).map fun c => tx [c]).length - 1)]?) = (lf b0 b1 b2 b3).getLast?.map fun c => tx [c] := by decide +kernel
theorem strsOf_map : ∀ l : List PySem.Str, strsOf (l.map .str) = some l
  | [] => rfl
  | x :: l => by
    show (strsOf (l.map .str)).map (x :: ·) = _
    rw [strsOf_map l]; rfl
theorem max_lets (p : Nat → Bool) (σ : List AO) {l : Nat} (h : (lets.filter p).getLast? = some l) : fMax (.lst ((lets.filter p).map chD)) σ = some (.val (.str (tx [l])), σ) := by
  rw [lf_filter] at h ⊢
  have e : (lf (p 97) (p 98) (p 99) (p 100)).map chD = ((lf (p 97) (p 98) (p 99) (p 100)).map fun c => tx [c]).map .str := by rw [List.map_map]; rfl
  unfold fMax lstOf
  simp only [e, Option.bind_some, strsOf_map, lf_max, h, Option.map_some]
noncomputable def okC (C : Nat → List Nat) : Bool := lets.all fun c => (C c).all fun v => decide (v ∈ lets)
end
end Mine
end
section
open PySem PySem.W PyProof.Rows PySem.Calls
set_option maxRecDepth 100000
set_option maxHeartbeats 4000000
namespace Mine
section
structure PInv (i : Nat) (s : PS) : Prop where
  len : s.word.length + s.ring.length = i
  word : ∀ v ∈ s.word, v ∈ lets
  ring : ∀ v ∈ s.ring, v ∈ lets
  ok : ∀ c, ∀ v ∈ s.C c, v ∈ lets
  out : ∀ c, c ∉ lets → s.C c = []
  small : ∀ c, (s.C c).length ≤ 1000
  here : s.ring ≠ [] → s.here ∈ lets ∧ s.leader ∈ lets
theorem getLast_mem {α : Type} {l : List α} {a : α} (h : l.getLast? = some a) : a ∈ l := List.mem_of_getLast? h
theorem PInv.at {i : Nat} {s t : PS} (P : PInv i s) {here leader : Nat} (hld : leader ∈ lets) (e : popAt s here leader = some t) : PInv (i + 1) t := by
  unfold popAt at e
  (refine xEA (Option.map_eq_some_iff.mp e) fun v hv e => ?_)
  have hvl := P.ok _ v (getLast_mem hv)
  have hlen := P.len
  split at e
  · cases e
    refine ⟨by simp; omega, fun x hx => ?_, fun x hx => (by cases hx), fun c x hx => ?_, fun c hc => ?_, fun c => ?_, fun hc => absurd rfl hc⟩
    · rcases List.mem_append.mp hx with q | q
      · rcases List.mem_cons.mp q with rfl | q
        · exact hvl
        · exact P.ring x q
      · exact P.word x q
    · dsimp only at hx; split at hx
      · exact P.ok c x (List.dropLast_subset _ hx)
      · exact P.ok c x hx
    · dsimp only; split
      · rw [P.out c hc]; rfl
      · exact P.out c hc
    · dsimp only; split
      · have := P.small c; rw [List.length_dropLast]; omega
      · exact P.small c
  · cases e
    refine ⟨by simp; omega, P.word, fun x hx => ?_, fun c x hx => ?_, fun c hc => ?_, fun c => ?_, fun _ => ⟨hvl, hld⟩⟩
    · rcases List.mem_cons.mp hx with rfl | q
      · exact hvl
      · exact P.ring x q
    · dsimp only at hx; split at hx
      · exact P.ok c x (List.dropLast_subset _ hx)
      · exact P.ok c x hx
    · dsimp only; split
      · rw [P.out c hc]; rfl
      · exact P.out c hc
    · dsimp only; split
      · have := P.small c; rw [List.length_dropLast]; omega
      · exact P.small c
theorem bestC_mem {C : Nat → List Nat} {l : Nat} (h : bestC C = some l) : l ∈ lets := (List.mem_filter.mp (getLast_mem h)).1
theorem PInv.step {i : Nat} {s t : PS} (P : PInv i s) (e : popStep s = some t) : PInv (i + 1) t := by
  unfold popStep at e
  split at e
  · (refine xEA (Option.bind_eq_some_iff.mp e) fun l hl e => ?_)
    exact P.at (bestC_mem hl) e
  · rename_i hr; exact P.at (P.here hr).2 e
theorem lets_of {c : Nat} (h : c ∈ lets) : ∃ i, i < 4 ∧ c = 97 + i := by
  unfold lets at h
  simp only [List.mem_cons, List.not_mem_nil, or_false] at h
  rcases h with rfl | rfl | rfl | rfl
  · exact ⟨0, by decide, rfl⟩
  · exact ⟨1, by decide, rfl⟩
  · exact ⟨2, by decide, rfl⟩
  · exact ⟨3, by decide, rfl⟩
theorem lets_asc {c : Nat} (h : c ∈ lets) : c < 128 := by (refine xEA (lets_of h) fun i hi q0z => ?_; subst q0z); omega
theorem sz4 : (4 ≤ sizeLine) = True := eq_true (by decide)
theorem e_empty : PySem.Str.ofString "" = tx [] := by kernel_rfl
theorem enc_strs (l : List Nat) : l.map chD = (l.map fun c => tx [c]).map .str := by rw [List.map_map]; rfl
theorem opNe_col {σ : List AO} {k : Nat} {l : List Nat} (hk : σ[k]? = some (enc l)) (hl : ∀ v ∈ l, v ∈ lets) : opNe (.ref k) (.lst []) σ = some (.val (.bool (decide (l ≠ []))), σ) := by
  unfold opNe
  have h1 : ∀ x ∈ l.map (fun c => tx [c]), shortS x = true := fun x hx => by
    (refine xEA (List.mem_map.mp hx) fun c hc q0z => ?_; subst q0z)
    exact short_tx (asc_one (lets_asc (hl c hc)))
  have hk' : σ[k]? = some (.lst ((l.map fun c => tx [c]).map .str)) := by rw [hk]; unfold enc; rw [enc_strs]
  have h2 : py σ (.lst []) = some (.list ([].map .str)) := (Fine.strs (l := []) fun x hx => by cases hx).py (by decide) σ
  rw [(Fine.strs h1).pyRef (by decide) hk', h2]
  simp only [Option.bind_some, Option.map_some, eqv_strs]
  cases l <;> simp
theorem fPop_col {τ : List AO} {s : PS} {i : Nat} (hi : i < 4) {v : Nat} (hv : (s.C (97 + i)).getLast? = some v) :
    fPop (.ref (τ.length + i)) (τ ++ enc4 s.C) = some (.val (chD v), τ ++ enc4 fun c => if c = 97 + i then (s.C c).dropLast else s.C c) := by
  unfold fPop
  simp only [enc4_get hi]
  unfold enc
  simp only [List.getLast?_map, hv, Option.map_some]
  have := enc4_set (τ := τ) (C := s.C) (C' := fun c => if c = 97 + i then (s.C c).dropLast else s.C c) hi fun j hj hji => by rw [if_neg (by omega)]
  rw [← this]
  unfold enc
  rw [if_pos rfl, List.map_dropLast]
end
section
variable {G : Amb} (h : G.K = K2 G.w.params)
include h
noncomputable def sPopped : Fm := on1 dDct fun es σ => (aOf es).bind fun a => (colsAt σ a).bind fun C => if total C ≤ 1000 ∧ okC C = true then (popN (total C) ⟨C, [], [], 0, 0⟩).map fun s => (.val (.str (tx s.word)), σ.take a ++ enc4 s.C) else none
theorem f_popped : Fn G true 5 215 sPopped := by
  have body : ∃ m, Exs G true 4 (scopeAt (K2 G.w.params) 215) (bodyAt (K2 G.w.params) 215) m ∧ ∀ ds kd σ r, sPopped ds kd σ = some r → ((bfOf 1 [] [("columns", .pos 0)] ds kd).bind fun bd => Mf.fn m (frB bd fun _ => none) σ) = some r := by
    refine ⟨_, (Exs.cons (Ex.asgn (Ev.tup (ms := [_, _, _, _]) ⟨(Ev.kStr (by decide +kernel)), (Ev.kStr (by decide +kernel)), (Ev.kStr (by decide +kernel)), (Ev.kStr (by decide +kernel)), trivial⟩ rfl) (As.tup (fs := [_, _, _, _]) ⟨(As.name (Or.inl rfl)), (As.name (Or.inl rfl)), (As.name (Or.inl rfl)), (As.name (Or.inl rfl)), trivial⟩ rfl) (sw_of fun env => ⟨rfl, by kernel_rfl, by kernel_rfl⟩))
    (Exs.cons (Ex.for (Itr.ev (Ev.call (g_range h rfl) (ms := [_]) (mk := []) ⟨(Ev.call (g_sum h rfl) (ms := [_]) (mk := []) ⟨(Ev.lcF (CompL.one (W := []) (Ev.kStr (by decide +kernel)) (AsC.name rfl) Ts.nil (Ev.call (g_len h rfl) (ms := [_]) (mk := []) ⟨(Ev.sub (Ev.cel rfl rfl) (Ev.loc rfl rfl) Op2.idx rfl), trivial⟩ trivial Kep.blt Ca.len) (by first | rfl | kernel_rfl))), trivial⟩ trivial Kep.blt Ca.sum), trivial⟩ trivial Kep.typ Ca.range))
      (As.name (Or.inl rfl))
      (Exs.cons (Ex.ite (Cd.cmp (Ev.loc rfl rfl) (Ev.kStr (by decide +kernel)) (Op2.eq (by omega)))
        (Exs.cons (Ex.asgn (Ev.call (g_max h rfl) (ms := [_]) (mk := []) ⟨(Ev.lcF (CompL.one (W := []) (Ev.kStr (by decide +kernel)) (AsC.name rfl) (Ts.one (Cd.cmp (Ev.sub (Ev.cel rfl rfl) (Ev.loc rfl rfl) Op2.idx rfl) (Ev.lst (ms := []) trivial rfl) (Op2.ne (by omega)))) (Ev.loc rfl rfl) (by first | rfl | kernel_rfl))), trivial⟩ trivial Kep.blt Ca.max) (As.name (Or.inl rfl)) (sw_of fun env => ⟨rfl, by kernel_rfl, by kernel_rfl⟩))
        (Exs.cons (Ex.asgn (Ev.loc rfl rfl) (As.name (Or.inl rfl)) (sw_of fun env => ⟨rfl, by kernel_rfl, by kernel_rfl⟩))
        Exs.nil))
        Exs.nil)
      (Exs.cons (Ex.asgn (Ev.methL F.slot_list_pop F.type_list_pop (Ev.sub (Ev.cel rfl rfl) (Ev.loc rfl rfl) Op2.idx rfl) (ms := []) (mk := []) trivial trivial Ca.pop) (As.name (Or.inl rfl)) (sw_of fun env => ⟨rfl, by kernel_rfl, by kernel_rfl⟩))
      (Exs.cons (Ex.asgn (Ev.bin (Ev.loc rfl rfl) (Ev.loc rfl rfl) Op2.add) (As.name (Or.inl rfl)) (sw_of fun env => ⟨rfl, by kernel_rfl, by kernel_rfl⟩))
      (Exs.cons (Ex.ite (Cd.cmp (Ev.loc rfl rfl) (Ev.loc rfl rfl) (Op2.eq (by omega)))
        (Exs.cons (Ex.swap2 (t1 := .Constant .none 0 ⟨0, 0, 0, 0⟩) (t2 := .Constant .none 0 ⟨0, 0, 0, 0⟩) (Ev.tup (ms := [_, _]) ⟨(Ev.bin (Ev.loc rfl rfl) (Ev.loc rfl rfl) Op2.add), (Ev.kStr (by decide +kernel)), trivial⟩ rfl) (Or.inl rfl) (Or.inl rfl) (sw_of fun env => ⟨by kernel_rfl, by kernel_rfl⟩))
        Exs.nil)
        Exs.nil)
      Exs.nil)))))
    (Exs.cons (Ex.ret (Ev.loc rfl rfl))
    Exs.nil))), ?_⟩
    intro ds kd σ r hr
    replace hr := on1_inv dDct_eq hr
    obtain ⟨es, rfl, rfl, hr⟩ := hr
    obtain ⟨a, ha, hr⟩ := Option.bind_eq_some_iff.mp hr
    (refine xEA (Option.bind_eq_some_iff.mp hr) fun C hC hr => ?_)
    replace hr := ite_inv hr
    obtain ⟨hc, hr⟩ := hr
    obtain ⟨s, hs, hr⟩ := Option.map_eq_some_iff.mp hr
    cases hr
    have hes := aOf_eq ha
    subst hes
    obtain ⟨h1, h2, h3⟩ := colsAt_eq hC
    generalize σ.take a = τ at h1 h2
    subst h2
    clear ha hC
    have P0 : PInv 0 ⟨C, [], [], 0, 0⟩ := by
      refine ⟨rfl, fun _ h => (by cases h), fun _ h => (by cases h), fun c v hv => ?_, h3, fun c => ?_, fun h => absurd rfl h⟩
      · by_cases hcl : c ∈ lets
        · have := List.all_eq_true.mp (List.all_eq_true.mp hc.2 c hcl) v hv
          simpa using this
        · dsimp only at hv; rw [h3 c hcl] at hv; cases hv
      · by_cases hcl : c ∈ lets
        · (refine xEA (lets_of hcl) fun i hi q0z => ?_; subst q0z)
          have := hc.1
          unfold total at this
          match i, hi with
          | 0, _ => show (C 97).length ≤ 1000; omega
          | 1, _ => show (C 98).length ≤ 1000; omega
          | 2, _ => show (C 99).length ≤ 1000; omega
          | 3, _ => show (C 100).length ≤ 1000; omega
        · dsimp only; rw [h3 c hcl]; simp
    simp only [bfOf, List.length_cons, List.length_nil, List.map_cons, List.map_nil, if_true, Nat.reduceAdd, Option.bind_some, Sr.dat, List.getD_cons_zero, List.getD_cons_succ]
    subst h1
    clear hr
    have hch : srcD (.str "abcd") (τ ++ enc4 C) = some ⟨lets.map chD, fun _ => True⟩ := by
      unfold srcD
      simp only [chars_abcd]
      rfl
    have hln : ∀ {s : PS}, PInv 0 s ∨ True → ∀ i, i < 4 → fLen (.ref (τ.length + i)) (τ ++ enc4 s.C) = some (.val (.int (s.C (97 + i)).length), τ ++ enc4 s.C) := fun _ i hi => by
      unfold fLen lstOf
      simp only [enc4_get hi]
      unfold enc
      simp only [Option.map_some, List.length_map]
    have hrg : srcD (.rng 0 (total C : Int)) (τ ++ enc4 C) = _ := srcD_rng _ 0 (total C) (by decide) hc.1
    simp only [Mf.fn, Mf.seq, Mf.bind, Mf.lift, Mf.set, Mf.pure, Mo.op2, Mo.bind, Mo.calF, Mo.args, seq_nil, seq_cons, seqK_nil, Mo.pure, Mo.tru, Mo.opt, Mo.meth, Mo.tup, Mo.lst, Mo.guard, frB_nil, frB_cons, Option.map_some, ↓reduceIte, List.length_cons, List.length_nil, Nat.reduceAdd, decide_true, tupA_tup, goA_nil, goA_cons, sz4, Mo.items, Mo.src]
    rw [lcRun_pure (σ1 := τ ++ enc4 C) (d := .str "abcd") (x := ⟨lets.map chD, fun _ => True⟩) (fun fr => fr "columns" = some (.dct (dcT τ.length))) (fun _ => true) (fun d => match d with
      | .str x => .int (C (x.cps.toList.headD 0)).length
      | _ => .none) (by simp only [Mo.pure]) hch trivial (by
        unfold frIn
        rw [if_pos (by kernel_rfl)]
        simp only [upd_same, upd_diff, String.reduceBEq]) (fun d hd fr hI => by
        (refine xEA (List.mem_map.mp hd) fun c hc q0z => ?_; subst q0z)
        (refine xEA (lets_of hc) fun i hi q0z => ?_; subst q0z)
        have hI' : upd fr "letter" (chD (97 + i)) "columns" = some (.dct (dcT τ.length)) := by simp only [upd_diff, String.reduceBEq]; exact hI
        have e1 := dcT_idx (τ ++ enc4 C) τ.length hi
        have e2 := hln (s := ⟨C, [], [], 0, 0⟩) (.inr trivial) i hi
        refine ⟨rfl, hI', rfl, fun _ => ⟨_, hI', ?_⟩⟩
        simp only [emOne, Mo.bind, Mo.pure, Mo.var, upd_same, upd_diff, one1_at, Option.map_some, ↓reduceIte, String.reduceBEq, hI, chD, isSub_dct, e1, e2, tx_cps, List.headD_cons])]
    have hv : List.map (fun d => match d with
      | .str x => D.int (C (x.cps.toList.headD 0)).length
      | _ => .none) ((lets.map chD).filter fun _ => true) = [.int (C 97).length, .int (C 98).length, .int (C 99).length, .int (C 100).length] := by
      rw [filter_true]; rfl
    have hsum : ∀ σ, fSum (.lst [.int (C 97).length, .int (C 98).length, .int (C 99).length, .int (C 100).length]) σ = some (.val (.int (total C)), σ) := fun σ => by
      unfold fSum lstOf total
      simp only [Option.bind_some, intsOf, Option.map_some, List.sum_cons, List.sum_nil]
      congr 4
      omega
    simp only [hv, sz4, one1_at, Option.map_some, ↓reduceIte, List.length_cons, List.length_nil, Nat.reduceAdd, hsum, fRng, hrg]
    generalize hE : Mf.each _ _ _ _ _ _ = z
    have key : ∃ fr' σ', z = some (.val .next, fr', σ') ∧ (∃ t, popN ((List.range (total C - 0)).map fun (i : Nat) => D.int (((0 + i : Nat)) : Int)).length ⟨C, [], [], 0, 0⟩ = some t ∧ σ' = τ ++ enc4 t.C ∧ fr' "columns" = some (.dct (dcT τ.length)) ∧ fr' "word" = some (.str (tx t.word)) ∧ fr' "ring" = some (.str (tx t.ring)) ∧ (t.ring ≠ [] → fr' "here" = some (chD t.here) ∧ fr' "leader" = some (chD t.leader))) := by
      refine each_thr hE (fun i fr σ' => ∃ t, popN i ⟨C, [], [], 0, 0⟩ = some t ∧ σ' = τ ++ enc4 t.C ∧ fr "columns" = some (.dct (dcT τ.length)) ∧ fr "word" = some (.str (tx t.word)) ∧ fr "ring" = some (.str (tx t.ring)) ∧ (t.ring ≠ [] → fr "here" = some (chD t.here) ∧ fr "leader" = some (chD t.leader))) (fun _ _ _ _ => trivial) ⟨_, rfl, rfl, by simp only [upd_same, upd_diff, String.reduceBEq], by simp only [upd_same, upd_diff, String.reduceBEq, e_empty], by simp only [upd_same, upd_diff, String.reduceBEq, e_empty], fun h => absurd rfl h⟩ ?_
      clear hE
      rintro i d fr σ' hd ⟨t, ht, rfl, f1, f2, f3, f4⟩
      have hi : i < total C := by
        have := (List.getElem?_eq_some_iff.mp hd).1
        rw [List.length_map, List.length_range] at this; omega
      have PT : PInv i t := by
        clear f1 f2 f3 f4 hd hi
        induction i generalizing t with
        | zero => cases ht; exact P0
        | succ i ih =>
          unfold popN at ht
          (refine xEA (Option.bind_eq_some_iff.mp ht) fun t' h1 h2 => ?_)
          exact (ih t' h1).step h2
      obtain ⟨u, hu⟩ : ∃ u, popN (i + 1) ⟨C, [], [], 0, 0⟩ = some u := Option.isSome_iff_exists.mp (popN_le (n := total C) (by omega) (by rw [hs]; rfl))
      have hst : popStep t = some u := by
        unfold popN at hu
        rw [ht] at hu; exact hu
      have PU := PT.step hst
      have hlen := PT.len
      have hc1 := hc.1
      have ra : asc t.ring := ⟨by omega, fun c hc => lets_asc (PT.ring c hc)⟩
      have wa : asc t.word := ⟨by omega, fun c hc => lets_asc (PT.word c hc)⟩
      have q1 : opEq (.str (tx t.ring)) (.str (tx [])) (τ ++ enc4 t.C) = some (.val (.bool (decide (t.ring = []))), τ ++ enc4 t.C) := by rw [opEq_str _ (short_tx ra) (short_tx asc_nil), tx_beq]
      unfold popStep at hst
      clear hd hs hch hln hrg hv hsum ht hr
      by_cases hr0 : t.ring = []
      · rw [if_pos hr0] at hst
        obtain ⟨l, hl, hst⟩ := Option.bind_eq_some_iff.mp hst
        unfold popAt at hst
        obtain ⟨v, hv, hst⟩ := Option.map_eq_some_iff.mp hst
        obtain ⟨j, hj, rfl⟩ := lets_of (bestC_mem hl)
        have e1 := dcT_idx (τ ++ enc4 t.C) τ.length hj
        have e2 : isRefL (.ref (τ.length + j)) (τ ++ enc4 t.C) = true := by unfold isRefL; simp only [enc4_get hj]; rfl
        have e3 := fPop_col (τ := τ) hj hv
        have hvl : v ∈ lets := PT.ok _ v (getLast_mem hv)
        have e4 : fAdd (chD v) (.str (tx t.ring)) = some (.str (tx (v :: t.ring))) := fAdd_tx (a := [v]) (by simp only [List.length_cons, List.length_nil]; omega)
        have e6 : fAdd (.str (tx (v :: t.ring))) (.str (tx t.word)) = some (.str (tx (v :: (t.ring ++ t.word)))) := fAdd_tx (a := v :: t.ring) (by simp only [List.length_cons]; omega)
        have e5 : ∀ σ, opEq (chD v) (chD (97 + j)) σ = some (.val (.bool (decide (v = 97 + j))), σ) := fun σ => by
          show opEq (.str (tx [v])) (.str (tx [97 + j])) σ = _
          rw [opEq_str _ (short_tx (asc_one (lets_asc hvl))) (short_tx (asc_one (by omega))), tx_beq]
          congr 3; simp
        rw [show decide (t.ring = []) = true by rw [hr0]; rfl] at q1
        have hl' : ((lets.filter fun c => decide (t.C c ≠ [])).map chD).length ≤ sizeLine := szL (by rw [List.length_map]; exact Nat.le_trans (List.length_filter_le _ _) (by decide))
        have e7 := max_lets (fun c => decide (t.C c ≠ [])) (τ ++ enc4 t.C) hl
        have e8 : (lets.map chD).filter (fun d => match d with
          | .str x => decide (t.C (x.cps.toList.headD 0) ≠ [])
          | _ => false) = (lets.filter fun c => decide (t.C c ≠ [])).map chD := by
          rw [List.filter_map]; rfl
        have run : ∀ fr : Fr, fr "columns" = some (.dct (dcT τ.length)) → ∀ scope : Scope, (scope.names.lookup ("columns" : PySem.Str) = some .free) → ∀ (m : Mo D) test em, m fr (τ ++ enc4 t.C) = some (.val (.str "abcd"), τ ++ enc4 t.C) →
            (∀ i fr, i < 4 → fr "columns" = some (.dct (dcT τ.length)) → fr "letter" = some (chD (97 + i)) → test fr (τ ++ enc4 t.C) = some (.val (decide (t.C (97 + i) ≠ [])), τ ++ enc4 t.C) ∧ em fr (τ ++ enc4 t.C) = some ([chD (97 + i)], fr, τ ++ enc4 t.C)) →
            lcRun scope m (fun d fr => upd fr "letter" d) (fun _ => true) test em fr (τ ++ enc4 t.C) = some ((lets.filter fun c => decide (t.C c ≠ [])).map chD, τ ++ enc4 t.C) := by
          intro fr hfr scope hsc m test em hm hte
          rw [lcRun_pure (σ1 := τ ++ enc4 t.C) (d := .str "abcd") (x := ⟨lets.map chD, fun _ => True⟩) (fun fr => fr "columns" = some (.dct (dcT τ.length))) (fun d => match d with
            | .str x => decide (t.C (x.cps.toList.headD 0) ≠ [])
            | _ => false) (fun d => d) hm (by unfold srcD; simp only [chars_abcd]; rfl) trivial (by
              unfold frIn
              rw [if_pos hsc]
              exact hfr) (fun d hd fr hI => by
              obtain ⟨c, hc, rfl⟩ := List.mem_map.mp hd
              obtain ⟨i, hi, rfl⟩ := lets_of hc
              have hI' : upd fr "letter" (chD (97 + i)) "columns" = some (.dct (dcT τ.length)) := by simp only [upd_diff, String.reduceBEq]; exact hI
              obtain ⟨t1, t2⟩ := hte i (upd fr "letter" (chD (97 + i))) hi hI' (by simp only [upd_same])
              exact ⟨rfl, hI', t1, fun _ => ⟨_, hI', t2⟩⟩)]
          rw [e8, List.map_id']
        by_cases hvl2 : v = 97 + j
        · rw [if_pos hvl2] at hst
          subst hst
          refine ⟨upd (upd (upd (upd (upd (upd (upd fr "turn" d) "leader" (chD (97 + j))) "here" (chD (97 + j))) "here" (chD v)) "ring" (.str (tx (v :: t.ring)))) "ring" (.str (tx []))) "word" (.str (tx (v :: (t.ring ++ t.word)))), _, ?_, _, hu, rfl, by simp only [upd_diff, String.reduceBEq]; exact f1, by simp only [upd_same, List.cons_append], by simp only [upd_same, upd_diff, String.reduceBEq], fun h => absurd rfl h⟩
          simp only [turn, Mf.bind, Mf.lift, Mf.set, Mf.pure, Mo.bind, Mo.pure, Mo.var, Mo.opt, upd_diff, Option.map_some, ↓reduceIte, String.reduceBEq, truD_bool, f1, f2, f3, e_empty, q1]
          rw [run _ (by simp only [upd_diff, String.reduceBEq, f1]) _ (by kernel_rfl) _ _ _ (by simp only [Mo.pure]) (fun i fr hi g1 g2 => by
            have e1 := dcT_idx (τ ++ enc4 t.C) τ.length hi
            have e9 := opNe_col (enc4_get (τ := τ) (C := t.C) hi) (PT.ok (97 + i))
            constructor
            · simp only [Mo.bind, Mo.pure, Mo.var, Mo.opt, Option.map_some, ↓reduceIte, List.length_nil, truD_bool, decide_true, sz0, g1, g2, chD, isSub_dct, e1, e9]
            · simp only [emOne, Mo.var, Option.map_some, g2])]
          have e7' : fMax (.lst ((lets.filter fun c => decide (t.C c ≠ [])).map chD)) (τ ++ enc4 t.C) = some (.val (chD (97 + j)), τ ++ enc4 t.C) := e7
          have e1' : fIdx (τ ++ enc4 t.C) (.dct (dcT τ.length)) (chD (97 + j)) = some (.ref (τ.length + j)) := e1
          simp only [if_pos hl', Mf.bind, Mf.lift, Mf.set, Mf.pure, Mo.bind, Mo.pure, Mo.var, Mo.opt, Mo.chk, upd_same, upd_diff, one1_at, Option.map_some, ↓reduceIte, String.reduceBEq, List.length_cons, List.length_nil, Nat.reduceAdd, truD_bool, decide_true, sz2, e7', f1, f2, f3, isSub_dct, e1', e2, e3, e4, e5, e6, show decide (v = 97 + j) = true from decide_eq_true hvl2, Mf.swap2]
        · rw [if_neg hvl2] at hst
          subst hst
          refine ⟨upd (upd (upd (upd (upd fr "turn" d) "leader" (chD (97 + j))) "here" (chD (97 + j))) "here" (chD v)) "ring" (.str (tx (v :: t.ring))), _, ?_, _, hu, rfl, by simp only [upd_diff, String.reduceBEq]; exact f1, by simp only [upd_diff, String.reduceBEq]; exact f2, by simp only [upd_same], fun h => ⟨by simp only [upd_same, upd_diff, String.reduceBEq], by simp only [upd_same, upd_diff, String.reduceBEq]⟩⟩
          simp only [turn, Mf.bind, Mf.lift, Mf.set, Mf.pure, Mo.bind, Mo.pure, Mo.var, Mo.opt, upd_diff, Option.map_some, ↓reduceIte, String.reduceBEq, truD_bool, f1, f2, f3, e_empty, q1]
          rw [run _ (by simp only [upd_diff, String.reduceBEq, f1]) _ (by kernel_rfl) _ _ _ (by simp only [Mo.pure]) (fun i fr hi g1 g2 => by
            have e1 := dcT_idx (τ ++ enc4 t.C) τ.length hi
            have e9 := opNe_col (enc4_get (τ := τ) (C := t.C) hi) (PT.ok (97 + i))
            constructor
            · simp only [Mo.bind, Mo.pure, Mo.var, Mo.opt, Option.map_some, ↓reduceIte, List.length_nil, truD_bool, decide_true, sz0, g1, g2, chD, isSub_dct, e1, e9]
            · simp only [emOne, Mo.var, Option.map_some, g2])]
          have e7' : fMax (.lst ((lets.filter fun c => decide (t.C c ≠ [])).map chD)) (τ ++ enc4 t.C) = some (.val (chD (97 + j)), τ ++ enc4 t.C) := e7
          have e1' : fIdx (τ ++ enc4 t.C) (.dct (dcT τ.length)) (chD (97 + j)) = some (.ref (τ.length + j)) := e1
          simp only [if_pos hl', Mf.bind, Mf.lift, Mf.set, Mf.pure, Mo.bind, Mo.pure, Mo.var, Mo.opt, Mo.chk, upd_same, upd_diff, one1_at, Option.map_some, ↓reduceIte, Bool.false_eq_true, String.reduceBEq, truD_bool, e7', f1, f2, f3, isSub_dct, e1', e2, e3, e4, e5, e6, show decide (v = 97 + j) = false from decide_eq_false hvl2]
      · rw [if_neg hr0] at hst
        obtain ⟨f5, f6⟩ := f4 hr0
        unfold popAt at hst
        obtain ⟨v, hv, hst⟩ := Option.map_eq_some_iff.mp hst
        obtain ⟨j, hj, hje⟩ := lets_of (PT.here hr0).1
        rw [hje] at hv hst f5
        have e1 := dcT_idx (τ ++ enc4 t.C) τ.length hj
        have e2 : isRefL (.ref (τ.length + j)) (τ ++ enc4 t.C) = true := by unfold isRefL; simp only [enc4_get hj]; rfl
        have e3 := fPop_col (τ := τ) hj hv
        have hvl : v ∈ lets := PT.ok _ v (getLast_mem hv)
        have e4 : fAdd (chD v) (.str (tx t.ring)) = some (.str (tx (v :: t.ring))) := fAdd_tx (a := [v]) (by simp only [List.length_cons, List.length_nil]; omega)
        have e6 : fAdd (.str (tx (v :: t.ring))) (.str (tx t.word)) = some (.str (tx (v :: (t.ring ++ t.word)))) := fAdd_tx (a := v :: t.ring) (by simp only [List.length_cons]; omega)
        have hlal : t.leader < 128 := lets_asc (PT.here hr0).2
        have e5 : ∀ σ, opEq (chD v) (chD t.leader) σ = some (.val (.bool (decide (v = t.leader))), σ) := fun σ => by
          show opEq (.str (tx [v])) (.str (tx [t.leader])) σ = _
          rw [opEq_str _ (short_tx (asc_one (lets_asc hvl))) (short_tx (asc_one hlal)), tx_beq]
          congr 3; simp
        simp only [hr0, decide_false] at q1
        have e1' : fIdx (τ ++ enc4 t.C) (.dct (dcT τ.length)) (chD (97 + j)) = some (.ref (τ.length + j)) := e1
        by_cases hvl2 : v = t.leader
        · rw [if_pos hvl2] at hst
          subst hst
          refine ⟨upd (upd (upd (upd (upd fr "turn" d) "here" (chD v)) "ring" (.str (tx (v :: t.ring)))) "ring" (.str (tx []))) "word" (.str (tx (v :: (t.ring ++ t.word)))), _, ?_, _, hu, rfl, by simp only [upd_diff, String.reduceBEq]; exact f1, by simp only [upd_same, List.cons_append], by simp only [upd_same, upd_diff, String.reduceBEq], fun h => absurd rfl h⟩
          simp only [turn, Mf.bind, Mf.lift, Mf.set, Mf.pure, Mo.bind, Mo.pure, Mo.var, Mo.opt, Mo.chk, upd_same, upd_diff, one1_at, Option.map_some, ↓reduceIte, Bool.false_eq_true, String.reduceBEq, List.length_cons, List.length_nil, Nat.reduceAdd, truD_bool, decide_true, sz2, f1, f2, f3, f5, f6, e_empty, q1, isSub_dct, e1', e2, e3, e4, e5, e6, show decide (v = t.leader) = true from decide_eq_true hvl2, Mf.swap2]
        · rw [if_neg hvl2] at hst
          subst hst
          refine ⟨upd (upd (upd fr "turn" d) "here" (chD v)) "ring" (.str (tx (v :: t.ring))), _, ?_, _, hu, rfl, by simp only [upd_diff, String.reduceBEq]; exact f1, by simp only [upd_diff, String.reduceBEq]; exact f2, by simp only [upd_same], fun h => ⟨by simp only [upd_same, upd_diff, String.reduceBEq], by simp only [upd_diff, String.reduceBEq]; exact f6⟩⟩
          simp only [turn, Mf.bind, Mf.lift, Mf.set, Mf.pure, Mo.bind, Mo.pure, Mo.var, Mo.opt, Mo.chk, upd_same, upd_diff, one1_at, Option.map_some, ↓reduceIte, Bool.false_eq_true, String.reduceBEq, truD_bool, f1, f2, f3, f5, f6, e_empty, q1, isSub_dct, e1', e2, e3, e4, e5, show decide (v = t.leader) = false from decide_eq_false hvl2]
    obtain ⟨fr', σ', rfl, t, ht, rfl, f1, f2, f3, f4⟩ := key
    rw [List.length_map, List.length_range, Nat.sub_zero, hs] at ht
    cases ht
    simp only [Mf.bind, Mf.lift, Mf.pure, Mo.var, Option.map_some, f2]
  obtain ⟨m, hm, hs⟩ := body
  refine Fn.mono (Fn.at h (ok_215 _) (Bnd.plan (by exact ⟨trivial, trivial⟩) ?_) ?_ hm) hs
  · intro S vs kw hv hk
    refine Eq.trans (congrArg (fun K => peek K S _) h) ?_
    obtain ⟨v0, rfl⟩ := len1 hv
    obtain rfl := kw0 hk
    kernel_rfl
  · exact bfOf_all (by kernel_rfl)
end
end Mine
end
section
open PySem PySem.W PyProof.Rows PySem.Calls
set_option maxRecDepth 100000
set_option maxHeartbeats 4000000
namespace Mine
section
noncomputable def msgVE : PySem.Str := "ValueError: Control characters not allowed in headers"
noncomputable def msgAE : PySem.Str := "AssertionError: Header names/values must be of type str (got 5)"
noncomputable def refOut : Out D × List AO → Option (Out D × List AO)
  | (.val _, σ) => some (.val (.str ""), σ)
  | (.exc X msg, σ) => if X = "ValueError" ∧ msg = msgV then some (.val (.str msgVE), σ) else if X = "AssertionError" ∧ msg = fmtY then some (.val (.str msgAE), σ) else none
theorem cat_VE : fAdd (.str "ValueError: ") (.str msgV) = some (.str msgVE) := by kernel_rfl
theorem cat_AE : fAdd (.str "AssertionError: ") (.str fmtY) = some (.str msgAE) := by kernel_rfl
theorem subE_VV : subE "ValueError" "ValueError" = some true := by decide +kernel
theorem subE_AV : subE "AssertionError" "ValueError" = some false := by decide +kernel
theorem subE_AA : subE "AssertionError" "AssertionError" = some true := by decide +kernel
theorem fStr_V (σ : List AO) : fStr (.exc "ValueError" msgV) σ = some (.val (.str msgV), σ) := by kernel_rfl
theorem fStr_A (σ : List AO) : fStr (.exc "AssertionError" fmtY) σ = some (.val (.str fmtY), σ) := by kernel_rfl
theorem sAdd_ins {n v : D} {k : Nat} {σ : List AO} {r : Out D × List AO} (e : sAdd [.ref k, n, v] [] σ = some r) : isIns 182 "add_header" (.ref k) σ = true := by
  unfold sAdd at e
  dsimp only at e
  (refine xEA (Option.bind_eq_some_iff.mp e) fun q0z hh _ => ?_; obtain ⟨j, ps⟩ := q0z)
  exact isIns_ok (hdr_ok hh).1 (by rw [Ne, ofs_inj]; decide)
end
section
variable {G : Amb} (h : G.K = K2 G.w.params)
include h
noncomputable def aPair : D := .tup [.str "a", .str "a"]
noncomputable def sRefused : Fm := fun ds kd σ => match ds, kd with
  | [.none, nm, vl], [] => (sCls [.ref σ.length] [] (σ ++ [.lst [aPair, .tup [nm, vl]]])).bind refOut
  | [.ref k, nm, vl], [] => (sAdd [.ref k, nm, vl] [] σ).bind refOut
  | _, _ => none
theorem f_refused : Fn G true 8 232 sRefused := by
  have body : ∃ m, Exs G true 7 (scopeAt (K2 G.w.params) 232) (bodyAt (K2 G.w.params) 232) m ∧ ∀ ds kd σ r, sRefused ds kd σ = some r → ((bfOf 3 [] [("table", .pos 0), ("name", .pos 1), ("value", .pos 2)] ds kd).bind fun bd => Mf.fn m (frB bd fun _ => none) σ) = some r := by
    refine ⟨_, (Exs.cons (Ex.try (ds := [⟨"ValueError", "error", _⟩, ⟨"AssertionError", "error", _⟩]) (Exs.cons (Ex.ite (Cd.cmp (Ev.loc rfl rfl) Ev.kNone (Op2.is))
        (Exs.cons (Ex.expr (Ev.call (g_Headers h rfl) (ms := [_]) (mk := []) ⟨(Ev.lstR (ms := [_, _]) ⟨(Ev.tup (ms := [_, _]) ⟨(Ev.kStr (by decide +kernel)), (Ev.kStr (by decide +kernel)), trivial⟩ rfl), (Ev.tup (ms := [_, _]) ⟨(Ev.loc rfl rfl), (Ev.loc rfl rfl), trivial⟩ rfl), trivial⟩ rfl), trivial⟩ trivial (kep_headers h) ((f_cls h).up (by omega)).ca))
        Exs.nil)
        (Exs.cons (Ex.expr (Ev.methI (i1_179 h) (i2_179 h) (i3_179 h) (i4_179 h) (Ev.loc rfl rfl) (ms := [_, _]) (mk := []) ⟨(Ev.loc rfl rfl), (Ev.loc rfl rfl), trivial⟩ trivial ((f_add h).up (by omega)).ca))
        Exs.nil))
      (Exs.cons (Ex.ret (Ev.kStr (by decide +kernel)))
      Exs.nil))
      ⟨⟨_, _, _, _, _, rfl, ⟨rfl, b_ValueError h, rfl, by decide +kernel, rfl, rfl, (Exs.cons (Ex.ret (Ev.bin (Ev.kStr (by decide +kernel)) (Ev.call (g_str h rfl) (ms := [_]) (mk := []) ⟨(Ev.loc rfl rfl), trivial⟩ trivial Kep.typ (Ca.str (by omega))) Op2.add))
      Exs.nil)⟩⟩, ⟨_, _, _, _, _, rfl, ⟨rfl, b_AssertionError h, rfl, by decide +kernel, rfl, rfl, (Exs.cons (Ex.ret (Ev.bin (Ev.kStr (by decide +kernel)) (Ev.call (g_str h rfl) (ms := [_]) (mk := []) ⟨(Ev.loc rfl rfl), trivial⟩ trivial Kep.typ (Ca.str (by omega))) Op2.add))
      Exs.nil)⟩⟩, trivial⟩)
    Exs.nil), ?_⟩
    intro ds kd σ r hr
    have hr0 := three_inv (F := fun ds kd => sRefused ds kd σ) (fun _ => rfl) (fun a _ => by cases a <;> rfl) (fun a _ _ => by cases a <;> rfl) (fun a _ _ _ _ _ => by cases a <;> rfl) (fun a _ _ _ _ => by cases a <;> rfl) hr
    clear hr
    refine xEEEAA hr0 fun a nm vl e1 e2 hr => ?_
    clear hr0
    subst e1
    subst e2
    cases a with
    | bool | int | str | tup | lst | dct | glob | exc | rng => exact nnS hr
    | none =>
      replace hr : (sCls [.ref σ.length] [] (σ ++ [.lst [aPair, .tup [nm, vl]]])).bind refOut = some r := hr
      (refine xEA (Option.bind_eq_some_iff.mp hr) fun q0z ho hr => ?_; obtain ⟨o, σ'⟩ := q0z)
      simp only [bfOf, List.length_cons, List.length_nil, List.map_cons, List.map_nil, if_true, Nat.reduceAdd, Option.bind_some, Sr.dat, List.getD_cons_zero, List.getD_cons_succ]
      unfold aPair at ho
      cases o with
      | val d =>
        cases hr
        simp only [Mf.try, Mf.fn, Mf.seq, Mf.bind, Mf.lift, Mf.pure, Mo.op2, Mo.bind, Mo.calF, Mo.args, seq_nil, seq_cons, seqK_nil, Mo.pure, Mo.var, Mo.tru, Mo.opt, Mo.tup, Mo.lstR, Mo.guard, frB_nil, frB_cons, upd_same, upd_diff, Option.map_some, ↓reduceIte, fIs_nn, String.reduceBEq, List.length_cons, List.length_nil, Nat.reduceAdd, truD_bool, decide_true, sz2, Mo.items, ho]
      | exc X msg =>
        unfold refOut at hr
        dsimp only at hr
        split at hr
        · rename_i hx
          (refine xA hx fun q0z q1z => ?_; try clear hx; subst q0z; subst q1z)
          cases hr
          simp only [Mf.try, Mf.fn, Mf.seq, Mf.bind, Mf.lift, Mf.pure, Mo.op2, Mo.bind, Mo.calF, Mo.args, seq_nil, seq_cons, seqK_nil, Mo.pure, Mo.var, Mo.tru, Mo.opt, Mo.tup, Mo.lstR, Mo.guard, frB_nil, frB_cons, upd_same, upd_diff, one1_at, Option.map_some, ↓reduceIte, fIs_nn, String.reduceBEq, List.length_cons, List.length_nil, Nat.reduceAdd, truD_bool, decide_true, sz2, Mo.items, ho, Mf.catch, subE_VV, one1_at, fStr_V, cat_VE]
        · split at hr
          · rename_i hx
            (refine xA hx fun q0z q1z => ?_; try clear hx; subst q0z; subst q1z)
            cases hr
            simp only [Mf.try, Mf.fn, Mf.seq, Mf.bind, Mf.lift, Mf.pure, Mo.op2, Mo.bind, Mo.calF, Mo.args, seq_nil, seq_cons, seqK_nil, Mo.pure, Mo.var, Mo.tru, Mo.opt, Mo.tup, Mo.lstR, Mo.guard, frB_nil, frB_cons, upd_same, upd_diff, one1_at, Option.map_some, ↓reduceIte, fIs_nn, String.reduceBEq, List.length_cons, List.length_nil, Nat.reduceAdd, truD_bool, decide_true, sz2, Mo.items, ho, Mf.catch, subE_AV, subE_AA, one1_at, fStr_A, cat_AE]
          · cases hr
    | ref k =>
      replace hr : (sAdd [.ref k, nm, vl] [] σ).bind refOut = some r := hr
      (refine xEA (Option.bind_eq_some_iff.mp hr) fun q0z ho hr => ?_; obtain ⟨o, σ'⟩ := q0z)
      have i0 := sAdd_ins ho
      simp only [bfOf, List.length_cons, List.length_nil, List.map_cons, List.map_nil, if_true, Nat.reduceAdd, Option.bind_some, Sr.dat, List.getD_cons_zero, List.getD_cons_succ]
      cases o with
      | val d =>
        cases hr
        simp only [Mf.try, Mf.fn, Mf.seq, Mf.bind, Mf.lift, Mf.pure, Mo.op2, Mo.bind, Mo.args, seq_nil, seq_cons, seqK_nil, Mo.pure, Mo.var, Mo.tru, Mo.opt, Mo.meth, Mo.chk, frB_nil, frB_cons, upd_same, upd_diff, Option.map_some, ↓reduceIte, fIs_ref, Bool.false_eq_true, String.reduceBEq, truD_bool, Mo.items, ho, i0]
      | exc X msg =>
        unfold refOut at hr
        dsimp only at hr
        split at hr
        · rename_i hx
          (refine xA hx fun q0z q1z => ?_; try clear hx; subst q0z; subst q1z)
          cases hr
          simp only [Mf.try, Mf.fn, Mf.seq, Mf.bind, Mf.lift, Mf.pure, Mo.op2, Mo.bind, Mo.calF, Mo.args, seq_nil, seq_cons, seqK_nil, Mo.pure, Mo.var, Mo.tru, Mo.opt, Mo.meth, Mo.chk, frB_nil, frB_cons, upd_same, upd_diff, one1_at, Option.map_some, ↓reduceIte, fIs_ref, Bool.false_eq_true, String.reduceBEq, truD_bool, Mo.items, ho, i0, Mf.catch, subE_VV, one1_at, fStr_V, cat_VE]
        · split at hr
          · rename_i hx
            (refine xA hx fun q0z q1z => ?_; try clear hx; subst q0z; subst q1z)
            cases hr
            simp only [Mf.try, Mf.fn, Mf.seq, Mf.bind, Mf.lift, Mf.pure, Mo.op2, Mo.bind, Mo.calF, Mo.args, seq_nil, seq_cons, seqK_nil, Mo.pure, Mo.var, Mo.tru, Mo.opt, Mo.meth, Mo.chk, frB_nil, frB_cons, upd_same, upd_diff, one1_at, Option.map_some, ↓reduceIte, fIs_ref, Bool.false_eq_true, String.reduceBEq, truD_bool, Mo.items, ho, i0, Mf.catch, subE_AV, subE_AA, one1_at, fStr_A, cat_AE]
          · cases hr
  (refine xEA body fun m hm hs => ?_; try clear body)
  refine Fn.mono (Fn.at h (ok_232 _) (Bnd.plan (by exact ⟨trivial, trivial, trivial, trivial⟩) ?_) ?_ hm) hs
  · intro S vs kw hv hk
    refine Eq.trans (congrArg (fun K => peek K S _) h) ?_
    (refine xEE (len3 hv) fun v0 v1 w42z => ?_; refine xE w42z fun v2 q0z => ?_; subst q0z)
    obtain rfl := kw0 hk
    kernel_rfl
  · exact bfOf_all (by kernel_rfl)
end
end Mine
end
section
open PySem PySem.W PyProof.Rows PySem.Calls
set_option maxRecDepth 100000
set_option maxHeartbeats 4000000
namespace Mine
section
theorem sz7 : (7 ≤ sizeLine) = True := eq_true (by decide)
theorem sliceD_len (ds : List D) (lo hi st : Option Int) : (sliceD ds lo hi st).length ≤ (sliceRange (sliceBounds lo hi st ds.length).1 (sliceBounds lo hi st ds.length).2.1 (sliceBounds lo hi st ds.length).2.2).length := by
  unfold sliceD
  exact List.length_filterMap_le _ _
theorem slice60_len (ds : List D) : (sliceD ds none (some 60) none).length ≤ ds.length := by
  refine Nat.le_trans (sliceD_len ds _ _ _) ?_
  simp [sliceRange, sliceBounds]
  omega
theorem slice7_len (ds : List D) (k : Nat) : (sliceD ds (some (k : Int)) none (some 7)).length ≤ ds.length := by
  refine Nat.le_trans (sliceD_len ds _ _ _) ?_
  simp [sliceRange, sliceBounds]
  split <;> omega
theorem sliceD_mem (ds : List D) (lo hi st : Option Int) : ∀ d ∈ sliceD ds lo hi st, d ∈ ds := by
  intro d hd
  unfold sliceD at hd
  (refine xEA (List.mem_filterMap.mp hd) fun i _ e => ?_)
  exact List.mem_of_getElem? e
theorem intsOf_map (l : List Int) : intsOf (l.map .int) = some l := by
  induction l with
  | nil => rfl
  | cons a l ih =>
    show (intsOf (l.map .int)).map (a :: ·) = _
    rw [ih]; rfl
theorem all_ints {ds : List D} (h : ∀ d ∈ ds, ∃ i, d = .int i) : ∃ l : List Int, ds = l.map .int := by
  induction ds with
  | nil => exact ⟨[], rfl⟩
  | cons d ds ih =>
    (refine xE (h d (.head _)) fun i q0z => ?_; subst q0z)
    (refine xE (ih fun d hd => h d (.tail _ hd)) fun l q0z => ?_; subst q0z)
    exact ⟨i :: l, rfl⟩
theorem fSum_map (σ : List AO) (l : List Int) : fSum (.lst (l.map .int)) σ = some (.val (.int l.sum), σ) := by
  unfold fSum lstOf
  simp only [Option.bind_some, intsOf_map, Option.map_some]
theorem fMod_lit (a b : Int) (hb : b ≠ 0) : fMod (.int a) (.int b) = some (.int (a.fmod b)) := by
  unfold fMod
  dsimp only
  rw [if_pos hb]
theorem fDiv_lit (a b : Int) (hb : b ≠ 0) (h : b.natAbs < 1073741824) : fDiv (.int a) (.int b) = some (.int (a.fdiv b)) := by
  unfold fDiv
  dsimp only
  rw [if_pos ⟨hb, h⟩]
theorem fAdd_int (a b : Int) : fAdd (.int a) (.int b) = some (.int (a + b)) := rfl
theorem e_abcd : PySem.Str.ofString "abcd" = tx lets := by kernel_rfl
theorem abcd_idx (σ : List AO) {m : Int} (h0 : 0 ≤ m) (h1 : m < 4) : fIdx σ (.str (tx lets)) (.int m) = some (chD (97 + m.toNat)) := by
  obtain ⟨n, rfl⟩ : ∃ n : Nat, m = n := ⟨m.toNat, by omega⟩
  rw [fIdx_str _ _ _ (by omega), nat_int]
  have : n < 4 := by omega
  match n, this with
  | 0, _ => rfl
  | 1, _ => rfl
  | 2, _ => rfl
  | 3, _ => rfl
theorem pickN (cs : List Nat) (a k : Nat) : ((List.range k).map (a + ·)).filterMap (cs.toArray[·]?) = (cs.drop a).take k := by
  have := pick_run cs.toArray a k
  simpa using this
theorem sliceS_nat (cs : List Nat) (lo hi : Option Int) (a b : Nat) (e : Builtin.Str.strSliceIndices lo hi 1 cs.length = sliceRange a b 1) (hb : b ≤ cs.length) (hab : a ≤ b) : sliceS (tx cs) lo hi = tx ((cs.drop a).take (b - a)) := by
  unfold sliceS
  rw [tx_len, e, sliceRange_one]
  by_cases hl : b - a = cs.length
  · have ha : a = 0 := by omega
    have hbl : b = cs.length := by omega
    subst ha; subst hbl
    rw [if_pos (by simp)]
    simp
  · rw [if_neg (by simpa using hl)]
    show PySem.Str.mk (List.filterMap (cs.toArray[·]?) _).toArray = _
    rw [pickN]; rfl
theorem sliceS_take (cs : List Nat) (p : Nat) (h : p ≤ cs.length) : sliceS (tx cs) none (some (p : Int)) = tx (cs.take p) := by
  rw [sliceS_nat cs none (some p) 0 p ?_ h (Nat.zero_le _)]
  · simp
  · simp [Builtin.Str.strSliceIndices]
    congr 1
    omega
theorem sliceS_drop (cs : List Nat) (p : Nat) (h : p ≤ cs.length) : sliceS (tx cs) (some (p : Int)) none = tx (cs.drop p) := by
  rw [sliceS_nat cs (some p) none p cs.length ?_ (Nat.le_refl _) h]
  · rw [List.take_of_length_le (by simp)]
  · simp [Builtin.Str.strSliceIndices]
    congr 1
    omega
theorem st_seven : ((some 7 : Option Int) ≠ some 0) = True := by simp
noncomputable def sdL : List Int := [1, 8, 10, 16, 5, 26, 40]
noncomputable def Goes (G : Amb) (n : Nat) (Z : Scope) (body : List Stmt) (Pre : Fr → List AO → Prop) : Prop :=
  ∃ m, Exs G true n Z body m ∧ ∀ fr σ, Pre fr σ → ∃ σ', Mf.fn m fr σ = some (.val (.bool true), σ')
theorem fn_step {m k : Mf SF} {fr fr' : Fr} {σ σ' : List AO} (e : m fr σ = some (.val .next, fr', σ')) (h : ∃ σ'', Mf.fn k fr' σ' = some (.val (.bool true), σ'')) : ∃ σ'', Mf.fn (Mf.seq m k) fr σ = some (.val (.bool true), σ'') := by
  obtain ⟨σ'', h⟩ := h
  refine ⟨σ'', ?_⟩
  unfold Mf.fn Mf.seq at *
  rw [bind_some e]
  exact h
theorem ev_for {m : Mo Src} {x : Src} {tgt : D → Mf Unit} {body : Mf SF} {fr : Fr} {σ σ1 σ2 : List AO} {R : Fr → Prop} (hm : m fr σ = some (.val x, σ1)) (J : Nat → Fr → List AO → Prop) (hP : ∀ i fr σ, J i fr σ → x.P σ) (h0 : J 0 fr σ1)
    (step : ∀ i d fr σ, x.ds[i]? = some d → J i fr σ → ∃ fr' σ', turn tgt body d fr σ = some (.val .next, fr', σ') ∧ J (i + 1) fr' σ') (fin : ∀ fr' σ', J x.ds.length fr' σ' → R fr' ∧ σ' = σ2) : ∃ fr', R fr' ∧ (Mf.bind (Mf.lift m) fun x => Mf.each x.P tgt body x.ds) fr σ = some (.val .next, fr', σ2) := by
  (refine xEEA (each_thr rfl J hP h0 step) fun fr' σ' e hJ => ?_)
  (refine xA (fin _ _ hJ) fun h1 q0z => ?_; subst q0z)
  exact ⟨fr', h1, ev_bind (ev_lift hm) e⟩
structure WO (w o : List Nat) : Prop where
  len : w.length = 7
  perm : o.Perm w
  let_ : ∀ c ∈ w, c ∈ lets
structure PA (w o : List Nat) (b : Int) (fr : Fr) : Prop where
  wo : WO w o
  word : fr "word" = some (.str (tx w))
  order : fr "order" = some (.str (tx o))
  bits : fr "bits" = some (.int b)
end
section
variable {G : Amb} (h : G.K = K2 G.w.params)
include h
noncomputable abbrev lawB (G : Amb) : List Stmt := bodyAt (K2 G.w.params) 237
noncomputable abbrev lawZ (G : Amb) : Scope := scopeAt (K2 G.w.params) 237
theorem blkA (hk : Goes G 8 (lawZ G) ((lawB G).drop 5) fun fr σ => σ = [] ∧ ∃ w o b, PA w o b fr) :
    Goes G 8 (lawZ G) (lawB G) fun fr σ => σ = [] ∧ ∃ ns : List Int, ns.length ≤ 63 ∧ fr "script" = some (.lst (ns.map .int)) := by
  obtain ⟨k, hk, hp⟩ := hk
  refine ⟨_, (Exs.cons (Ex.asgn (Ev.tup (ms := [_, _, _, _, _, _, _]) ⟨Ev.kInt, Ev.kInt, Ev.kInt, Ev.kInt, Ev.kInt, Ev.kInt, Ev.kInt, trivial⟩ rfl) (As.name (Or.inr rfl)) (sw_of fun env => ⟨rfl, by kernel_rfl, by kernel_rfl⟩))
      (Exs.cons (Ex.asgnF (CompL.one (W := []) (Ev.call (g_range h rfl) (ms := [_]) (mk := []) ⟨Ev.kInt, trivial⟩ trivial Kep.typ Ca.range) (AsC.name rfl) Ts.nil (Ev.bin (Ev.bin (Ev.sub (Ev.cel rfl rfl) (Ev.loc rfl rfl) Op2.idx rfl) (Ev.call (g_sum h rfl) (ms := [_]) (mk := []) ⟨(Ev.lcF (CompL.one (W := []) (Ev.slcF (ml := (some _)) (mh := none) (ms := (some _)) (Ev.slcF (ml := none) (mh := (some _)) (ms := none) (Ev.cel rfl rfl) trivial Ev.kInt trivial) (Ev.loc rfl rfl) trivial Ev.kInt) (AsC.name rfl) Ts.nil (Ev.bin (Ev.loc rfl rfl) Ev.kInt Op2.mod) (by first | rfl | kernel_rfl))), trivial⟩ trivial Kep.blt Ca.sum) Op2.add) Ev.kInt Op2.mod) (by first | rfl | kernel_rfl)) (Or.inl rfl) (sw_of fun env => by kernel_rfl))
      (Exs.cons (Ex.asgn (Ev.call (g_sum h rfl) (ms := [_]) (mk := []) ⟨(Ev.lcF (CompL.one (W := []) (Ev.loc rfl rfl) (AsC.name rfl) Ts.nil (Ev.bin (Ev.loc rfl rfl) Ev.kInt Op2.fdiv) (by first | rfl | kernel_rfl))), trivial⟩ trivial Kep.blt Ca.sum) (As.name (Or.inr rfl)) (sw_of fun env => ⟨rfl, by kernel_rfl, by kernel_rfl⟩))
      (Exs.cons (Ex.asgn (Ev.tup (ms := [_, _]) ⟨(Ev.kStr (by decide +kernel)), (Ev.kStr (by decide +kernel)), trivial⟩ rfl) (As.tup (fs := [_, _]) ⟨(As.name (Or.inr rfl)), (As.name (Or.inr rfl)), trivial⟩ rfl) (sw_of fun env => ⟨rfl, by kernel_rfl, by kernel_rfl⟩))
      (Exs.cons (Ex.for (Itr.ev (Ev.call (g_range h rfl) (ms := [_]) (mk := []) ⟨Ev.kInt, trivial⟩ trivial Kep.typ Ca.range))
      (As.name (Or.inl rfl))
      (Exs.cons (Ex.swap2 (t1 := .Constant .none 0 ⟨0, 0, 0, 0⟩) (t2 := .Constant .none 0 ⟨0, 0, 0, 0⟩) (Ev.tup (ms := [_, _]) ⟨(Ev.sub (Ev.kStr (by decide +kernel)) (Ev.bin (Ev.sub (Ev.loc rfl rfl) (Ev.loc rfl rfl) Op2.idx rfl) Ev.kInt Op2.mod) Op2.idx rfl), (Ev.bin (Ev.bin (Ev.sub (Ev.loc rfl rfl) (Ev.loc rfl rfl) Op2.idx rfl) Ev.kInt Op2.fdiv) (Ev.bin (Ev.loc rfl rfl) Ev.kInt Op2.add) Op2.mod), trivial⟩ rfl) (Or.inl rfl) (Or.inl rfl) (sw_of fun env => ⟨by kernel_rfl, by kernel_rfl⟩))
      (Exs.cons (Ex.asgn (Ev.bin (Ev.cel rfl rfl) (Ev.loc rfl rfl) Op2.add) (As.name (Or.inr rfl)) (sw_of fun env => ⟨rfl, by kernel_rfl, by kernel_rfl⟩))
      (Exs.cons (Ex.asgn (Ev.bin (Ev.bin (Ev.slcS (ml := none) (mh := (some _)) (Ev.cel rfl rfl) trivial (Ev.loc rfl rfl)) (Ev.loc rfl rfl) Op2.add) (Ev.slcS (ml := (some _)) (mh := none) (Ev.cel rfl rfl) (Ev.loc rfl rfl) trivial) Op2.add) (As.name (Or.inr rfl)) (sw_of fun env => ⟨rfl, by kernel_rfl, by kernel_rfl⟩))
      Exs.nil))))
      hk))))), ?_⟩
  rintro fr σ ⟨rfl, ns, hns, f0⟩
  refine fn_step (fr' := upd fr "seeds" (.tup (sdL.map .int))) (σ' := []) (by simp only [Mf.bind, Mf.lift, Mf.set, Mf.pure, Mo.bind, seq_nil, seq_cons, Mo.pure, Mo.opt, Mo.tup, Mo.guard, Option.map_some, ↓reduceIte, List.length_cons, List.length_nil, Nat.reduceAdd, decide_true, sz7]; rfl) ?_
  have hslD : ∀ k : Nat, ∃ l : List Int, l.length ≤ 63 ∧ sliceD (sliceD (ns.map D.int) none (some 60) none) (some (k : Int)) none (some 7) = l.map .int := fun k => by
    obtain ⟨l, hl⟩ := all_ints (ds := sliceD (sliceD (ns.map D.int) none (some 60) none) (some (k : Int)) none (some 7)) fun d hd => by
      have := sliceD_mem _ _ _ _ _ (sliceD_mem _ _ _ _ _ hd)
      obtain ⟨i, _, rfl⟩ := List.mem_map.mp this
      exact ⟨i, rfl⟩
    refine ⟨l, ?_, hl⟩
    have h1 := slice7_len (sliceD (ns.map D.int) none (some 60) none) k
    have h2 := slice60_len (ns.map D.int)
    rw [hl, List.length_map] at h1
    rw [List.length_map] at h2
    omega
  obtain ⟨L, hL⟩ : ∃ L : Nat → List Int, ∀ k : Nat, (L k).length ≤ 63 ∧ sliceD (sliceD (ns.map D.int) none (some 60) none) (some (k : Int)) none (some 7) = (L k).map .int := ⟨fun k => (hslD k).choose, fun k => (hslD k).choose_spec⟩
  clear hslD
  obtain ⟨cv, hcv⟩ : ∃ cv : Nat → Int, ∀ k, cv k = (sdL.getD k 0 + ((L k).map fun x => x.fmod 1000000).sum).fmod 1000000 := ⟨_, fun _ => rfl⟩
  have hcv0 : ∀ k, 0 ≤ cv k ∧ cv k < 1000000 := fun k => by rw [hcv]; exact ⟨Int.fmod_nonneg_of_pos _ (by decide), Int.fmod_lt_of_pos _ (by decide)⟩
  have hrg : srcD (.rng 0 7) [] = some ⟨(List.range 7).map fun (i : Nat) => .int (((0 + i : Nat)) : Int), fun _ => True⟩ := srcD_rng [] 0 7 (by decide) (by decide)
  refine fn_step (fr' := upd (upd fr "seeds" (.tup (sdL.map .int))) "cells" (.lst ((List.range 7).map fun k => .int (cv k)))) (σ' := []) ?_ ?_
  · rw [lcRun_pure (σ1 := []) (d := .rng 0 7) (x := ⟨(List.range 7).map fun (i : Nat) => .int (((0 + i : Nat)) : Int), fun _ => True⟩) (fun fr => fr "seeds" = some (.tup (sdL.map .int)) ∧ fr "script" = some (.lst (ns.map .int))) (fun _ => true) (fun d => match d with
      | .int k => .int (cv k.toNat)
      | _ => .none) (by simp only [Mo.bind, Mo.calF, Mo.args, seq_nil, seq_cons, seqK_nil, Mo.pure, fRng]) hrg trivial (by
        unfold frIn
        constructor
        · rw [if_pos (by kernel_rfl)]
          simp only [upd_same]
        · rw [if_pos (by kernel_rfl)]
          simp only [upd_diff, String.reduceBEq, f0]) (fun d hd fr hI => by
        obtain ⟨k, hk, rfl⟩ := List.mem_map.mp hd
        rw [List.mem_range] at hk
        rw [Nat.zero_add k]
        have hI' : upd fr "k" (.int (k : Int)) "seeds" = some (.tup (sdL.map .int)) ∧ upd fr "k" (.int (k : Int)) "script" = some (.lst (ns.map .int)) := by simp only [upd_diff, String.reduceBEq]; exact hI
        refine ⟨rfl, hI', rfl, fun _ => ⟨_, hI', ?_⟩⟩
        simp only [nat_int]
        have e1 : fIdx [] (.tup (sdL.map .int)) (.int (k : Int)) = some (.int (sdL.getD k 0)) := by
          rw [fIdx_tup _ _ _ (by omega)]
          have : k < sdL.length := hk
          rw [List.getElem?_map, List.getD_eq_getElem?_getD, List.getElem?_eq_getElem this]; rfl
        have e2 := hcv k
        have e3 : ∀ fr' : Fr, fr' "k" = some (.int (k : Int)) → fr' "script" = some (.lst (ns.map .int)) → ∀ scope tgt ok test em, (∀ fr i, ok (D.int i) = true ∧ test (tgt (.int i) fr) [] = some (.val true, []) ∧ ∃ fr2, em (tgt (.int i) fr) [] = some ([.int (i.fmod 1000000)], fr2, [])) → ∀ m : Mo D, m fr' [] = some (.val (.lst ((L k).map .int)), []) →
            lcRun scope m tgt ok test em fr' [] = some (((L k).map fun x => x.fmod 1000000).map D.int, []) := by
          intro fr' g1 g2 scope tgt ok test em hh m hm
          rw [lcRun_pure (σ1 := []) (d := .lst ((L k).map .int)) (x := ⟨(L k).map .int, fun _ => True⟩) (fun _ => True) (fun _ => true) (fun d => match d with
            | .int i => .int (i.fmod 1000000)
            | _ => .none) hm rfl trivial trivial (fun d hd fr _ => by
              obtain ⟨i, _, rfl⟩ := List.mem_map.mp hd
              obtain ⟨h1, h2, fr2, h3⟩ := hh fr i
              exact ⟨h1, trivial, h2, fun _ => ⟨fr2, trivial, h3⟩⟩)]
          rw [filter_true, List.map_map, List.map_map]; rfl
        have e4 : (((L k).map fun x => x.fmod 1000000).map D.int).length ≤ sizeLine := szL (by rw [List.length_map, List.length_map]; have := (hL k).1; omega)
        simp only [emOne, Mo.op2, Mo.bind, Mo.calF, Mo.args, seq_nil, seq_cons, seqK_nil, Mo.pure, Mo.var, upd_same, upd_diff, Option.map_some, ↓reduceIte, String.reduceBEq, hI.1, isSub_tup, e1]
        rw [e3 (upd fr "k" (.int (k : Int))) (by simp only [upd_same]) (by simp only [upd_diff, String.reduceBEq, hI.2]) _ _ _ _ _ (fun fr i => ⟨rfl, rfl, upd fr "x" (.int i), by simp only [emOne, Mo.bind, Mo.pure, Mo.var, upd_same, Option.map_some, fMod_lit i 1000000 (by decide)]⟩) _ (by
          simp only [Mo.slice, Mo.part, Mo.bind, Mo.pure, Mo.var, upd_same, upd_diff, Option.map_some, ↓reduceIte, String.reduceBEq, hI.2, lstOf, st_none, st_seven, (hL k).2])]
        simp only [if_pos e4, one1_at, Option.map_some, fAdd_ii, one1_at, fSum_map, fAdd_int, fMod_lit _ 1000000 (show (1000000 : Int) ≠ 0 by decide), ← e2])]
    have hv : List.map (fun d => match d with
      | .int k => D.int (cv k.toNat)
      | _ => .none) (((List.range 7).map fun (i : Nat) => D.int (((0 + i : Nat)) : Int)).filter fun _ => true) = (List.range 7).map fun k => D.int (cv k) := by
      rw [filter_true, List.map_map]
      exact List.map_congr_left fun k _ => by simp only [Function.comp, Nat.zero_add, nat_int]
    have hvl : ((List.range 7).map fun k => D.int (cv k)).length ≤ sizeLine := szL (by simp)
    simp only [hv, if_pos hvl]
  have hcl : (List.range 7).map (fun k => D.int (cv k)) = ((List.range 7).map cv).map .int := by rw [List.map_map]; rfl
  rw [hcl]
  have e5 : (((List.range 7).map cv).map fun x => D.int (x.fdiv 4)).length ≤ sizeLine := szL (by simp)
  refine fn_step (fr' := upd (upd (upd fr "seeds" (.tup (sdL.map .int))) "cells" (.lst (((List.range 7).map cv).map .int))) "bits" (.int (((List.range 7).map cv).map fun x => x.fdiv 4).sum)) (σ' := []) (by
    simp only [Mf.bind, Mf.lift, Mf.set, Mf.pure, Mo.op2, Mo.bind, Mo.calF, Mo.args, seq_nil, seq_cons, seqK_nil, Mo.pure, one1_at]
    rw [lcRun_pure (σ1 := []) (d := .lst (((List.range 7).map cv).map .int)) (x := ⟨((List.range 7).map cv).map .int, fun _ => True⟩) (fun _ => True) (fun _ => true) (fun d => match d with
      | .int i => .int (i.fdiv 4)
      | _ => .none) (by simp only [Mo.var, upd_same, Option.map_some]) rfl trivial trivial (fun d hd fr _ => by
        obtain ⟨i, _, rfl⟩ := List.mem_map.mp hd
        exact ⟨rfl, trivial, rfl, fun _ => ⟨upd fr "x" (.int i), trivial, by simp only [emOne, Mo.bind, Mo.pure, Mo.var, upd_same, Option.map_some, fDiv_lit i 4 (by decide) (by decide)]⟩⟩)]
    have hv : List.map (fun d => match d with
      | .int i => D.int (i.fdiv 4)
      | _ => .none) ((((List.range 7).map cv).map D.int).filter fun _ => true) = ((List.range 7).map cv).map fun x => D.int (x.fdiv 4) := by
      rw [filter_true, List.map_map]; rfl
    have hv2 : fSum (.lst (((List.range 7).map cv).map fun x => D.int (x.fdiv 4))) [] = some (.val (.int (((List.range 7).map cv).map fun x => x.fdiv 4).sum), []) := by
      rw [show ((List.range 7).map cv).map (fun x => D.int (x.fdiv 4)) = (((List.range 7).map cv).map fun x => x.fdiv 4).map D.int by rw [List.map_map]; rfl]
      exact fSum_map [] _
    simp only [hv, if_pos e5, one1_at, Option.map_some, hv2]) ?_
  generalize (((List.range 7).map cv).map fun x => x.fdiv 4).sum = b
  clear hcl e5 hcv hL
  refine fn_step (fr' := upd (upd (upd (upd (upd fr "seeds" (.tup (sdL.map .int))) "cells" (.lst (((List.range 7).map cv).map .int))) "bits" (.int b)) "word" (.str (tx []))) "order" (.str (tx []))) (σ' := []) (by
    simp only [Mf.bind, Mf.lift, Mf.set, Mf.pure, Mo.bind, seq_nil, seq_cons, Mo.pure, Mo.opt, Mo.tup, Mo.guard, Option.map_some, ↓reduceIte, List.length_cons, List.length_nil, Nat.reduceAdd, decide_true, sz2, tupA_tup, goA_nil, goA_cons, e_empty]) ?_
  refine (?_ : ∃ fr', (∃ w o b, PA w o b fr') ∧ _ = some (Out.val SF.next, fr', [])).elim fun fr' hf => fn_step hf.2 (hp fr' [] ⟨rfl, hf.1⟩)
  have hrg' : ∀ σ, srcD (.rng 0 7) σ = some ⟨(List.range 7).map fun (i : Nat) => .int (((0 + i : Nat)) : Int), fun _ => True⟩ := fun σ => srcD_rng σ 0 7 (by decide) (by decide)
  refine ev_for (ev_src (by (repeat' first | with_reducible (first | assumption | exact ev_truB | exact ev_l0 | exact ev_l1 | exact ev_l2 | exact ev_l3 | exact ev_l4 | exact ev_l5 | exact ev_l6 | exact ev_l7 | exact ev_l8 | exact ev_fnR | exact ev_fnN | exact ev_pure | exact ev_mpure | exact ev_set | exact ev_snil | exact ev_knil | exact ev_anil | exact ev_onil | exact ev_part0 | exact ev_swap2 | exact ev_goA0 | exact upd_same _ _ _ | apply ev_there | apply ev_seq | apply ev_bind | apply ev_lift | apply ev_var | apply ev_op2 | apply ev_op1 | apply ev_tru | apply ev_ite | apply ev_ifT | apply ev_ifF | apply ev_scons | apply ev_kcons | apply ev_calF | apply ev_one1 | apply ev_one2 | apply ev_meth | apply ev_lst | apply ev_tup | apply ev_lstR | apply ev_acons | apply ev_ocons | apply ev_attr | apply ev_part1 | apply ev_src | apply ev_tupA | apply ev_goA | apply ev_emOne | apply ev_mbind | apply ev_opt | apply ev_when | apply ev_omap | apply ev_obool | apply ev_onot | apply ev_fn | rfl) | decide | (simp only [fRng]; rfl) | simp only [fRng])) (hrg' [])) (fun i fr' σ' => σ' = [] ∧ ∃ w o : List Nat, w.length = i ∧ o.Perm w ∧ (∀ c ∈ w, c ∈ lets) ∧ fr' "word" = some (.str (tx w)) ∧ fr' "order" = some (.str (tx o)) ∧ fr' "bits" = some (.int b) ∧ fr' "cells" = some (.lst (((List.range 7).map cv).map .int))) (fun _ _ _ _ => trivial) ⟨rfl, [], [], rfl, .refl _, fun c hc => (by cases hc), by (repeat' first | with_reducible (first | assumption | exact ev_truB | exact ev_l0 | exact ev_l1 | exact ev_l2 | exact ev_l3 | exact ev_l4 | exact ev_l5 | exact ev_l6 | exact ev_l7 | exact ev_l8 | exact ev_fnR | exact ev_fnN | exact ev_pure | exact ev_mpure | exact ev_set | exact ev_snil | exact ev_knil | exact ev_anil | exact ev_onil | exact ev_part0 | exact ev_swap2 | exact ev_goA0 | exact upd_same _ _ _ | apply ev_there | apply ev_seq | apply ev_bind | apply ev_lift | apply ev_var | apply ev_op2 | apply ev_op1 | apply ev_tru | apply ev_ite | apply ev_ifT | apply ev_ifF | apply ev_scons | apply ev_kcons | apply ev_calF | apply ev_one1 | apply ev_one2 | apply ev_meth | apply ev_lst | apply ev_tup | apply ev_lstR | apply ev_acons | apply ev_ocons | apply ev_attr | apply ev_part1 | apply ev_src | apply ev_tupA | apply ev_goA | apply ev_emOne | apply ev_mbind | apply ev_opt | apply ev_when | apply ev_omap | apply ev_obool | apply ev_onot | apply ev_fn | rfl) | decide | (simp only []; rfl) | simp only []), by (repeat' first | with_reducible (first | assumption | exact ev_truB | exact ev_l0 | exact ev_l1 | exact ev_l2 | exact ev_l3 | exact ev_l4 | exact ev_l5 | exact ev_l6 | exact ev_l7 | exact ev_l8 | exact ev_fnR | exact ev_fnN | exact ev_pure | exact ev_mpure | exact ev_set | exact ev_snil | exact ev_knil | exact ev_anil | exact ev_onil | exact ev_part0 | exact ev_swap2 | exact ev_goA0 | exact upd_same _ _ _ | apply ev_there | apply ev_seq | apply ev_bind | apply ev_lift | apply ev_var | apply ev_op2 | apply ev_op1 | apply ev_tru | apply ev_ite | apply ev_ifT | apply ev_ifF | apply ev_scons | apply ev_kcons | apply ev_calF | apply ev_one1 | apply ev_one2 | apply ev_meth | apply ev_lst | apply ev_tup | apply ev_lstR | apply ev_acons | apply ev_ocons | apply ev_attr | apply ev_part1 | apply ev_src | apply ev_tupA | apply ev_goA | apply ev_emOne | apply ev_mbind | apply ev_opt | apply ev_when | apply ev_omap | apply ev_obool | apply ev_onot | apply ev_fn | rfl) | decide | (simp only []; rfl) | simp only []), by (repeat' first | with_reducible (first | assumption | exact ev_truB | exact ev_l0 | exact ev_l1 | exact ev_l2 | exact ev_l3 | exact ev_l4 | exact ev_l5 | exact ev_l6 | exact ev_l7 | exact ev_l8 | exact ev_fnR | exact ev_fnN | exact ev_pure | exact ev_mpure | exact ev_set | exact ev_snil | exact ev_knil | exact ev_anil | exact ev_onil | exact ev_part0 | exact ev_swap2 | exact ev_goA0 | exact upd_same _ _ _ | apply ev_there | apply ev_seq | apply ev_bind | apply ev_lift | apply ev_var | apply ev_op2 | apply ev_op1 | apply ev_tru | apply ev_ite | apply ev_ifT | apply ev_ifF | apply ev_scons | apply ev_kcons | apply ev_calF | apply ev_one1 | apply ev_one2 | apply ev_meth | apply ev_lst | apply ev_tup | apply ev_lstR | apply ev_acons | apply ev_ocons | apply ev_attr | apply ev_part1 | apply ev_src | apply ev_tupA | apply ev_goA | apply ev_emOne | apply ev_mbind | apply ev_opt | apply ev_when | apply ev_omap | apply ev_obool | apply ev_onot | apply ev_fn | rfl) | decide | (simp only []; rfl) | simp only []), by (repeat' first | with_reducible (first | assumption | exact ev_truB | exact ev_l0 | exact ev_l1 | exact ev_l2 | exact ev_l3 | exact ev_l4 | exact ev_l5 | exact ev_l6 | exact ev_l7 | exact ev_l8 | exact ev_fnR | exact ev_fnN | exact ev_pure | exact ev_mpure | exact ev_set | exact ev_snil | exact ev_knil | exact ev_anil | exact ev_onil | exact ev_part0 | exact ev_swap2 | exact ev_goA0 | exact upd_same _ _ _ | apply ev_there | apply ev_seq | apply ev_bind | apply ev_lift | apply ev_var | apply ev_op2 | apply ev_op1 | apply ev_tru | apply ev_ite | apply ev_ifT | apply ev_ifF | apply ev_scons | apply ev_kcons | apply ev_calF | apply ev_one1 | apply ev_one2 | apply ev_meth | apply ev_lst | apply ev_tup | apply ev_lstR | apply ev_acons | apply ev_ocons | apply ev_attr | apply ev_part1 | apply ev_src | apply ev_tupA | apply ev_goA | apply ev_emOne | apply ev_mbind | apply ev_opt | apply ev_when | apply ev_omap | apply ev_obool | apply ev_onot | apply ev_fn | rfl) | decide | (simp only []; rfl) | simp only [])⟩ ?_ ?_
  · rintro i d fr σ' hd ⟨rfl, w, o, hw, hpm, hlt, f1, f2, f3, f4⟩
    rw [List.getElem?_map] at hd
    obtain ⟨i', hi', rfl⟩ := Option.map_eq_some_iff.mp hd
    obtain ⟨hi7, hie⟩ := List.getElem?_eq_some_iff.mp hi'
    rw [List.length_range] at hi7
    rw [List.getElem_range] at hie
    subst hie
    rw [Nat.zero_add i]
    have g1 : fIdx [] (.lst (((List.range 7).map cv).map .int)) (.int (i : Int)) = some (.int (cv i)) := by
      rw [fIdx_lst _ _ _ (by omega), List.getElem?_map, List.getElem?_map, hi']; rfl
    obtain ⟨c0, c1⟩ := hcv0 i
    have g2 : 0 ≤ (cv i).fmod 4 := Int.fmod_nonneg_of_pos _ (by decide)
    have g3 : (cv i).fmod 4 < 4 := Int.fmod_lt_of_pos _ (by decide)
    have g4 := abcd_idx [] g2 g3
    have g5 : 0 ≤ ((cv i).fdiv 8).fmod ((i : Int) + 1) := Int.fmod_nonneg_of_pos _ (by omega)
    have g6 : ((cv i).fdiv 8).fmod ((i : Int) + 1) < (i : Int) + 1 := Int.fmod_lt_of_pos _ (by omega)
    have hol : o.length = i := by rw [hpm.length_eq]; exact hw
    have hcl : 97 + ((cv i).fmod 4).toNat ∈ lets := by
      have : ((cv i).fmod 4).toNat < 4 := by omega
      generalize ((cv i).fmod 4).toNat = m at this
      match m, this with
      | 0, _ => decide
      | 1, _ => decide
      | 2, _ => decide
      | 3, _ => decide
    have q1 := fMod_lit (cv i) 4 (by decide)
    have q2 := fDiv_lit (cv i) 8 (by decide) (by decide)
    have q3 := fMod_lit ((cv i).fdiv 8) ((i : Int) + 1) (by omega)
    generalize hc : 97 + ((cv i).fmod 4).toNat = c at g4 hcl
    generalize (cv i).fmod 4 = m at g4 q1
    obtain ⟨p, hp⟩ : ∃ p : Nat, ((cv i).fdiv 8).fmod ((i : Int) + 1) = p := ⟨(((cv i).fdiv 8).fmod ((i : Int) + 1)).toNat, by omega⟩
    rw [hp] at g5 g6 q3
    have hpo : p ≤ o.length := by omega
    have r1 := sliceS_take o p hpo
    have r2 := sliceS_drop o p hpo
    have r3 : (tx (o.take p)).length ≤ sizeLine := szL (by rw [tx_len, List.length_take]; omega)
    have r4 : (tx (o.drop p)).length ≤ sizeLine := szL (by rw [tx_len, List.length_drop]; omega)
    have r5 : fAdd (.str (tx w)) (chD c) = some (.str (tx (w ++ [c]))) := fAdd_tx (by simp only [List.length_cons, List.length_nil]; omega)
    have r6 : fAdd (.str (tx (o.take p))) (chD c) = some (.str (tx (o.take p ++ [c]))) := fAdd_tx (by simp only [List.length_cons, List.length_nil, List.length_take]; omega)
    have r7 : fAdd (.str (tx (o.take p ++ [c]))) (.str (tx (o.drop p))) = some (.str (tx (o.take p ++ [c] ++ o.drop p))) := fAdd_tx (by simp only [List.length_append, List.length_cons, List.length_nil, List.length_take, List.length_drop]; omega)
    refine ⟨upd (upd (upd (upd (upd fr "k" (.int (i : Int))) "place" (.int p)) "letter" (chD c)) "word" (.str (tx (w ++ [c])))) "order" (.str (tx (o.take p ++ [c] ++ o.drop p))), [], ?_, rfl, w ++ [c], o.take p ++ [c] ++ o.drop p, by simp [hw], ?_, ?_, by (repeat' first | with_reducible (first | assumption | exact ev_truB | exact ev_l0 | exact ev_l1 | exact ev_l2 | exact ev_l3 | exact ev_l4 | exact ev_l5 | exact ev_l6 | exact ev_l7 | exact ev_l8 | exact ev_fnR | exact ev_fnN | exact ev_pure | exact ev_mpure | exact ev_set | exact ev_snil | exact ev_knil | exact ev_anil | exact ev_onil | exact ev_part0 | exact ev_swap2 | exact ev_goA0 | exact upd_same _ _ _ | apply ev_there | apply ev_seq | apply ev_bind | apply ev_lift | apply ev_var | apply ev_op2 | apply ev_op1 | apply ev_tru | apply ev_ite | apply ev_ifT | apply ev_ifF | apply ev_scons | apply ev_kcons | apply ev_calF | apply ev_one1 | apply ev_one2 | apply ev_meth | apply ev_lst | apply ev_tup | apply ev_lstR | apply ev_acons | apply ev_ocons | apply ev_attr | apply ev_part1 | apply ev_src | apply ev_tupA | apply ev_goA | apply ev_emOne | apply ev_mbind | apply ev_opt | apply ev_when | apply ev_omap | apply ev_obool | apply ev_onot | apply ev_fn | rfl) | decide | (simp only []; rfl) | simp only []), by (repeat' first | with_reducible (first | assumption | exact ev_truB | exact ev_l0 | exact ev_l1 | exact ev_l2 | exact ev_l3 | exact ev_l4 | exact ev_l5 | exact ev_l6 | exact ev_l7 | exact ev_l8 | exact ev_fnR | exact ev_fnN | exact ev_pure | exact ev_mpure | exact ev_set | exact ev_snil | exact ev_knil | exact ev_anil | exact ev_onil | exact ev_part0 | exact ev_swap2 | exact ev_goA0 | exact upd_same _ _ _ | apply ev_there | apply ev_seq | apply ev_bind | apply ev_lift | apply ev_var | apply ev_op2 | apply ev_op1 | apply ev_tru | apply ev_ite | apply ev_ifT | apply ev_ifF | apply ev_scons | apply ev_kcons | apply ev_calF | apply ev_one1 | apply ev_one2 | apply ev_meth | apply ev_lst | apply ev_tup | apply ev_lstR | apply ev_acons | apply ev_ocons | apply ev_attr | apply ev_part1 | apply ev_src | apply ev_tupA | apply ev_goA | apply ev_emOne | apply ev_mbind | apply ev_opt | apply ev_when | apply ev_omap | apply ev_obool | apply ev_onot | apply ev_fn | rfl) | decide | (simp only []; rfl) | simp only []), by (repeat' first | with_reducible (first | assumption | exact ev_truB | exact ev_l0 | exact ev_l1 | exact ev_l2 | exact ev_l3 | exact ev_l4 | exact ev_l5 | exact ev_l6 | exact ev_l7 | exact ev_l8 | exact ev_fnR | exact ev_fnN | exact ev_pure | exact ev_mpure | exact ev_set | exact ev_snil | exact ev_knil | exact ev_anil | exact ev_onil | exact ev_part0 | exact ev_swap2 | exact ev_goA0 | exact upd_same _ _ _ | apply ev_there | apply ev_seq | apply ev_bind | apply ev_lift | apply ev_var | apply ev_op2 | apply ev_op1 | apply ev_tru | apply ev_ite | apply ev_ifT | apply ev_ifF | apply ev_scons | apply ev_kcons | apply ev_calF | apply ev_one1 | apply ev_one2 | apply ev_meth | apply ev_lst | apply ev_tup | apply ev_lstR | apply ev_acons | apply ev_ocons | apply ev_attr | apply ev_part1 | apply ev_src | apply ev_tupA | apply ev_goA | apply ev_emOne | apply ev_mbind | apply ev_opt | apply ev_when | apply ev_omap | apply ev_obool | apply ev_onot | apply ev_fn | rfl) | decide | (simp only []; rfl) | simp only []), by (repeat' first | with_reducible (first | assumption | exact ev_truB | exact ev_l0 | exact ev_l1 | exact ev_l2 | exact ev_l3 | exact ev_l4 | exact ev_l5 | exact ev_l6 | exact ev_l7 | exact ev_l8 | exact ev_fnR | exact ev_fnN | exact ev_pure | exact ev_mpure | exact ev_set | exact ev_snil | exact ev_knil | exact ev_anil | exact ev_onil | exact ev_part0 | exact ev_swap2 | exact ev_goA0 | exact upd_same _ _ _ | apply ev_there | apply ev_seq | apply ev_bind | apply ev_lift | apply ev_var | apply ev_op2 | apply ev_op1 | apply ev_tru | apply ev_ite | apply ev_ifT | apply ev_ifF | apply ev_scons | apply ev_kcons | apply ev_calF | apply ev_one1 | apply ev_one2 | apply ev_meth | apply ev_lst | apply ev_tup | apply ev_lstR | apply ev_acons | apply ev_ocons | apply ev_attr | apply ev_part1 | apply ev_src | apply ev_tupA | apply ev_goA | apply ev_emOne | apply ev_mbind | apply ev_opt | apply ev_when | apply ev_omap | apply ev_obool | apply ev_onot | apply ev_fn | rfl) | decide | (simp only []; rfl) | simp only [])⟩
    · show Mf.bind _ _ _ _ = _
      rw [← r1] at r3 r6
      rw [← r2] at r4 r7
      rw [← e_abcd] at g4
      (repeat' first | with_reducible (first | assumption | exact ev_truB | exact ev_l0 | exact ev_l1 | exact ev_l2 | exact ev_l3 | exact ev_l4 | exact ev_l5 | exact ev_l6 | exact ev_l7 | exact ev_l8 | exact ev_fnR | exact ev_fnN | exact ev_pure | exact ev_mpure | exact ev_set | exact ev_snil | exact ev_knil | exact ev_anil | exact ev_onil | exact ev_part0 | exact ev_swap2 | exact ev_goA0 | exact upd_same _ _ _ | apply ev_there | apply ev_seq | apply ev_bind | apply ev_lift | apply ev_var | apply ev_op2 | apply ev_op1 | apply ev_tru | apply ev_ite | apply ev_ifT | apply ev_ifF | apply ev_scons | apply ev_kcons | apply ev_calF | apply ev_one1 | apply ev_one2 | apply ev_meth | apply ev_lst | apply ev_tup | apply ev_lstR | apply ev_acons | apply ev_ocons | apply ev_attr | apply ev_part1 | apply ev_src | apply ev_tupA | apply ev_goA | apply ev_emOne | apply ev_mbind | apply ev_opt | apply ev_when | apply ev_omap | apply ev_obool | apply ev_onot | apply ev_fn | rfl) | decide | (simp only [isSub_lst, isSub_str, fAdd_int]; rfl) | simp only [isSub_lst, isSub_str, fAdd_int])
    · have : (o.take p ++ [c] ++ o.drop p).Perm (o.take p ++ o.drop p ++ [c]) := by
        rw [List.append_assoc, List.append_assoc]
        exact List.Perm.append_left _ List.perm_append_comm
      rw [List.take_append_drop] at this
      exact this.trans (hpm.append_right _)
    · intro x hx
      rcases List.mem_append.mp hx with q | q
      · exact hlt x q
      · rw [List.mem_singleton.mp q]; exact hcl
  · rintro fr' σ' ⟨rfl, w, o, h1, h2, h3, h4, h5, h6, _⟩
    exact ⟨⟨w, o, b, ⟨by simpa using h1, h2, h3⟩, h4, h5, h6⟩, rfl⟩
end
end Mine
end
section
open PySem PySem.W PyProof.Rows PySem.Calls
set_option maxRecDepth 100000
set_option maxHeartbeats 4000000
namespace Mine
section
noncomputable def colN (P : List (Nat × Nat)) (c : Nat) : List Nat := (P.filter fun p => p.1 == c).map (·.2)
noncomputable def abN (P : List (Nat × Nat)) : Nat := (P.filter fun p => decide (p.1 < p.2)).length
noncomputable def prG (f : Nat → Bool) (P : List (Nat × Nat)) : List (PySem.Str × PySem.Str) := (List.range P.length).map fun i => (if f i = true then Txt.upper (tx [(P.getD i (0, 0)).1]) else tx [(P.getD i (0, 0)).1], tx [(P.getD i (0, 0)).2])
noncomputable def LP (P : List (Nat × Nat)) : Prop := ∀ p ∈ P, p.1 ∈ lets ∧ p.2 ∈ lets
theorem lets_low : ∀ c ∈ lets, Txt.lower (tx [c]) = tx [c] ∧ Txt.lower (Txt.upper (tx [c])) = tx [c] ∧ shortS (tx [c]) = true ∧ shortS (Txt.upper (tx [c])) = true ∧ (tx [c]).cps.toList.any ctlN = false ∧ (Txt.upper (tx [c])).cps.toList.any ctlN = false ∧ (tx [c]).cps.toList.any ctlV = false := by decide +kernel
theorem range_map_getD {α β : Type} (d : α) (f : α → β) (l : List α) : (List.range l.length).map (fun i => f (l.getD i d)) = l.map f := by
  apply List.ext_getElem
  · simp
  · intro i h1 h2
    rw [List.length_map] at h2
    simp only [List.getElem_map, List.getElem_range]
    rw [List.getD_eq_getElem?_getD, List.getElem?_eq_getElem h2]; rfl
theorem getD_mem {α : Type} {l : List α} {i : Nat} {d : α} (h : i < l.length) : l.getD i d ∈ l := by
  rw [List.getD_eq_getElem?_getD, List.getElem?_eq_getElem h]
  exact List.getElem_mem h
theorem prG_len (f : Nat → Bool) (P : List (Nat × Nat)) : (prG f P).length = P.length := by simp [prG]
theorem prG_ok {f : Nat → Bool} {P : List (Nat × Nat)} (h : LP P) : ∀ p ∈ prG f P, okP p = true := by
  intro p hp
  (refine xEA (List.mem_map.mp hp) fun i hi q0z => ?_; subst q0z)
  rw [List.mem_range] at hi
  (refine xA (h _ (getD_mem (d := (0, 0)) hi)) fun h1 h2 => ?_)
  (refine xAAA (lets_low _ h1) fun a1 a2 a3 w43z => ?_; refine xAAA w43z fun a4 a5 a6 a7 => ?_)
  (refine xAAA (lets_low _ h2) fun b1 b2 b3 w44z => ?_; refine xAAA w44z fun b4 b5 b6 b7 => ?_)
  unfold okP
  dsimp only
  cases f i
  · simp only [Bool.false_eq_true, if_false, a3, b3, a5, b7]; rfl
  · simp only [if_true, a4, b3, a6, b7]; rfl
theorem ltr_tx (i : Nat) : ltr i = tx [97 + i] := rfl
theorem colOf_prG {f : Nat → Bool} {P : List (Nat × Nat)} (h : LP P) {i : Nat} (hi : i < 4) : colOf (prG f P) i = (colN P (97 + i)).map fun c => tx [c] := by
  unfold colOf colN prG
  rw [List.filter_map, List.map_map]
  have key : ∀ k ∈ List.range P.length, ((fun p : PySem.Str × PySem.Str => Txt.lower p.1 == ltr i) ∘ fun i => (if f i = true then Txt.upper (tx [(P.getD i (0, 0)).1]) else tx [(P.getD i (0, 0)).1], tx [(P.getD i (0, 0)).2])) k = ((P.getD k (0, 0)).1 == 97 + i) := by
    intro k hk
    rw [List.mem_range] at hk
    (refine xA (h _ (getD_mem (d := (0, 0)) hk)) fun h1 h2 => ?_)
    (refine xAA (lets_low _ h1) fun a1 a2 _ => ?_)
    show (Txt.lower (if f k = true then _ else _) == ltr i) = _
    cases f k
    · simp only [Bool.false_eq_true, if_false, a1, ltr_tx, tx_beq]
      simp
      rfl
    · simp only [if_true, a2, ltr_tx, tx_beq]
      simp
      rfl
  rw [List.filter_congr key]
  have e : ∀ (l : List Nat) (p : Nat × Nat → Bool), (l.filter fun k => p (P.getD k (0, 0))).map ((fun x : PySem.Str × PySem.Str => x.2) ∘ fun i => (if f i = true then Txt.upper (tx [(P.getD i (0, 0)).1]) else tx [(P.getD i (0, 0)).1], tx [(P.getD i (0, 0)).2])) = (((l.map fun k => P.getD k (0, 0)).filter p).map fun q => tx [q.2]) := by
    intro l p
    induction l with
    | nil => rfl
    | cons a l ih =>
      rw [List.filter_cons, List.map_cons, List.filter_cons]
      split
      · rw [List.map_cons, List.map_cons, ih]; rfl
      · exact ih
  rw [e (List.range P.length) fun q => q.1 == 97 + i, range_map_getD (0, 0) (fun q => q), List.map_id', List.map_map]
  rfl
theorem count_range {α : Type} (d : α) (p : α → Bool) (l : List α) : ((List.range l.length).filter fun i => p (l.getD i d)).length = (l.filter p).length := by
  have e : ∀ (r : List Nat), (r.filter fun i => p (l.getD i d)).length = ((r.map fun i => l.getD i d).filter p).length := by
    intro r
    induction r with
    | nil => rfl
    | cons a r ih =>
      rw [List.map_cons, List.filter_cons, List.filter_cons]
      split
      · rw [List.length_cons, List.length_cons, ih]
      · exact ih
  rw [e, range_map_getD d fun x => x, List.map_id']
theorem aboveN_prG {f : Nat → Bool} {P : List (Nat × Nat)} (h : LP P) : aboveN (prG f P) = abN P := by
  unfold aboveN abN
  rw [prG_len, ← count_range (0, 0)]
  refine congrArg List.length (List.filter_congr fun i hi => ?_)
  rw [List.mem_range] at hi
  (refine xA (h _ (getD_mem (d := (0, 0)) hi)) fun h1 h2 => ?_)
  (refine xAA (lets_low _ h1) fun a1 a2 _ => ?_)
  unfold abT prG
  rw [List.getElem?_map, List.getElem?_range hi]
  simp only [Option.map_some]
  cases f i
  · simp only [Bool.false_eq_true, if_false, a1, tx_cps, lt_one]
  · simp only [if_true, a2, tx_cps, lt_one]
theorem enc_colOf {f : Nat → Bool} {P : List (Nat × Nat)} (h : LP P) : ((List.range 4).map fun i => AO.lst ((colOf (prG f P) i).map .str)) = enc4 (colN P) := by
  unfold enc4
  refine List.map_congr_left fun i hi => ?_
  rw [List.mem_range] at hi
  rw [colOf_prG h hi]
  unfold enc
  rw [enc_strs]
end
end Mine
end
section
open PySem PySem.W PyProof.Rows PySem.Calls
set_option maxRecDepth 100000
set_option maxHeartbeats 4000000
namespace Mine
section
noncomputable def Bal (C : Nat → List Nat) : Prop := ∀ c, (C c).length = (C 97).count c + (C 98).count c + (C 99).count c + (C 100).count c
/-- the pairs of a ring behind its first -/
noncomputable def chP : Nat → List Nat → List (Nat × Nat)
  | _, [] => []
  | a, b :: t => (b, a) :: chP b t
noncomputable def lst (a : Nat) (t : List Nat) : Nat := (a :: t).getLast (by simp)
theorem lst_snoc (a : Nat) (t : List Nat) (c : Nat) : lst a (t ++ [c]) = c := by
  have h : (a :: (t ++ [c])).getLast? = some c := by
    rw [show a :: (t ++ [c]) = (a :: t) ++ [c] from rfl, List.getLast?_concat]
  rw [List.getLast?_eq_some_getLast (by simp)] at h
  exact Option.some.inj h
theorem chP_snoc : ∀ (a : Nat) (t : List Nat) (c : Nat), chP a (t ++ [c]) = chP a t ++ [(c, lst a t)]
  | a, [], c => rfl
  | a, b :: t, c => by
    show (b, a) :: chP b (t ++ [c]) = (b, a) :: (chP b t ++ [(c, lst a (b :: t))])
    rw [chP_snoc b t c]
    have : lst a (b :: t) = lst b t := by simp [lst]
    rw [this]
theorem chP_names : ∀ (a : Nat) (t : List Nat), (chP a t).map (·.1) = t
  | _, [] => rfl
  | a, b :: t => by show b :: (chP b t).map (·.1) = _; rw [chP_names b t]
theorem ringP_cons (l : Nat) (t : List Nat) : ringP (l :: t) = (l, lst l t) :: chP l t := by
  have key : ∀ (a : Nat) (u : List Nat), (List.range u.length).map (fun k => (u.getD k 0, (a :: u).getD k 0)) = chP a u := by
    intro a u
    induction u generalizing a with
    | nil => rfl
    | cons b u ih =>
      rw [List.length_cons, List.range_succ_eq_map, List.map_cons, List.map_map]
      show (b, a) :: _ = (b, a) :: chP b u
      rw [← ih b]
      rfl
  unfold ringP
  rw [List.length_cons, List.range_succ_eq_map, List.map_cons, List.map_map]
  congr 1
  · rw [if_pos rfl]
    have : (l :: t).getD (t.length + 1 - 1) 0 = lst l t := by
      unfold lst
      rw [List.getLast_eq_getElem, List.getD_eq_getElem?_getD, Nat.add_sub_cancel, List.getElem?_eq_getElem (by simp)]
      rfl
    rw [this]; rfl
  · rw [← key l t]
    refine List.map_congr_left fun k hk => ?_
    show ((l :: t).getD (k + 1) 0, (l :: t).getD (if k + 1 = 0 then _ else k + 1 - 1) 0) = _
    rw [if_neg (by omega)]
    rfl
theorem colN_app (P Q : List (Nat × Nat)) (c : Nat) : colN (P ++ Q) c = colN P c ++ colN Q c := by unfold colN; rw [List.filter_append, List.map_append]
theorem colN_one (a v c : Nat) : colN [(a, v)] c = if c = a then [v] else [] := by
  unfold colN
  by_cases h : c = a
  · subst h; simp
  · rw [if_neg h]; simp; exact fun e => h e.symm
theorem colN_cons (a v : Nat) (P : List (Nat × Nat)) (c : Nat) : colN ((a, v) :: P) c = (if c = a then [v] else []) ++ colN P c := by
  rw [← colN_one]; exact colN_app [(a, v)] P c
theorem colN_no {P : List (Nat × Nat)} {c : Nat} (h : c ∉ P.map (·.1)) : colN P c = [] := by
  unfold colN
  rw [List.filter_eq_nil_iff.mpr]
  · rfl
  · intro p hp e
    exact h (List.mem_map.mpr ⟨p, hp, by simpa using e⟩)
/-- a ring's columns do not ask where its first pair stands -/
theorem colN_ring {l : Nat} {t : List Nat} (ht : ∀ x ∈ t, x < l) (c : Nat) : colN (ringP (l :: t)) c = colN (chP l t ++ [(l, lst l t)]) c := by
  rw [ringP_cons, colN_cons, colN_app, colN_one]
  by_cases h : c = l
  · subst h
    rw [colN_no (P := chP c t)]
    · simp
    · rw [chP_names]
      exact fun hm => Nat.lt_irrefl _ (ht c hm)
  · rw [if_neg h]; simp
/-- rings, the last one first -/
noncomputable def GV : List (List Nat) → Prop
  | [] => True
  | r :: R => (∃ l t, r = l :: t ∧ (∀ x ∈ t, x < l) ∧ ∀ r' ∈ R, ∀ x ∈ r', x ≤ l) ∧ GV R
theorem GV_rings (w : List Nat) : GV (ringsN w).reverse := by
  have key : ∀ n, GV (ringsN (w.take n)).reverse := by
    intro n
    induction n with
    | zero => trivial
    | succ n ih =>
      cases h : w[n]? with
      | none => rw [List.take_add_one, h]; simpa using ih
      | some c =>
        rw [take_snoc h, ringsN_snoc]
        generalize ringsN (w.take n) = R at ih
        rcases list_snoc R with rfl | ⟨M, r, rfl⟩
        · exact ⟨⟨c, [], rfl, fun x hx => (by cases hx), fun r' hr' => (by cases hr')⟩, trivial⟩
        · rw [List.reverse_append] at ih
          (refine xA ih fun q0z h3 => ?_; try clear ih; refine xEEAA q0z fun l t q1z h1 h2 => ?_; subst q1z)
          unfold rgStep
          simp only [List.getLast?_concat, List.dropLast_concat, List.headD_cons]
          split
          · rename_i hc
            rw [List.reverse_append, List.reverse_append]
            refine ⟨⟨c, [], rfl, fun x hx => (by cases hx), fun r' hr' x hx => ?_⟩, ⟨l, t, rfl, h1, h2⟩, h3⟩
            rcases List.mem_cons.mp hr' with rfl | q
            · rcases List.mem_cons.mp hx with rfl | q
              · exact hc
              · exact Nat.le_trans (Nat.le_of_lt (h1 x q)) hc
            · exact Nat.le_trans (h2 r' q x hx) hc
          · rename_i hc
            rw [List.reverse_append]
            refine ⟨⟨l, t ++ [c], rfl, fun x hx => ?_, h2⟩, h3⟩
            rcases List.mem_append.mp hx with q | q
            · exact h1 x q
            · rw [List.mem_singleton.mp q]; omega
  have := key w.length
  rwa [List.take_length] at this
theorem rgStep_run {R : List (List Nat)} {r : List Nat} {l c : Nat} {t : List Nat} (hr : r = l :: t) (hc : c < l) : rgStep (R ++ [r]) c = R ++ [r ++ [c]] := by
  subst hr
  unfold rgStep
  simp only [List.getLast?_concat, List.dropLast_concat, List.headD_cons]
  rw [if_neg (by omega)]
theorem rings_app {w : List Nat} {l : Nat} {t : List Nat} (hw : ∀ x ∈ w, x ≤ l) (ht : ∀ x ∈ t, x < l) : ringsN (w ++ l :: t) = ringsN w ++ [l :: t] := by
  have h0 : ringsN (w ++ [l]) = ringsN w ++ [[l]] := by
    rw [ringsN_snoc]
    have hf := ringsN_flat w
    have hne := ringsN_ne w
    generalize ringsN w = R at hf hne
    unfold rgStep
    rcases list_snoc R with rfl | ⟨M, r, rfl⟩
    · rfl
    · simp only [List.getLast?_concat]
      rw [if_pos]
      cases r with
      | nil => exact absurd rfl (hne [] (by simp))
      | cons x xs =>
        refine hw x ?_
        rw [← hf]
        simp
  have key : ∀ u : List Nat, (∀ x ∈ u, x < l) → ∀ v : List Nat, (∀ x ∈ v, x < l) → ringsN (w ++ [l] ++ v) = ringsN w ++ [l :: v] → ringsN (w ++ [l] ++ v ++ u) = ringsN w ++ [l :: (v ++ u)] := by
    intro u
    induction u with
    | nil => intro _ v _ h; simpa using h
    | cons x u ih =>
      intro hu v hv h
      have h1 : ringsN (w ++ [l] ++ (v ++ [x])) = ringsN w ++ [l :: (v ++ [x])] := by
        rw [← List.append_assoc, ringsN_snoc, h, rgStep_run rfl (hu x (.head _))]; rfl
      have := ih (fun y hy => hu y (.tail _ hy)) (v ++ [x]) (fun y hy => by
        rcases List.mem_append.mp hy with q | q
        · exact hv y q
        · rw [List.mem_singleton.mp q]; exact hu x (.head _)) h1
      simpa using this
  have := key t ht [] (fun x hx => by cases hx) (by simpa using h0)
  simpa using this
theorem popN_front (s : PS) : ∀ n, popN (n + 1) s = (popStep s).bind (popN n)
  | 0 => by
    show (popN 0 s).bind popStep = _
    show popStep s = _
    cases popStep s <;> rfl
  | n + 1 => by
    show (popN (n + 1) s).bind popStep = _
    rw [popN_front s n, Option.bind_assoc]
    rfl
theorem popN_add (s : PS) (a : Nat) : ∀ b, popN (a + b) s = (popN a s).bind (popN b)
  | 0 => by
    show popN a s = _
    cases popN a s <;> rfl
  | b + 1 => by
    show (popN (a + b) s).bind popStep = _
    rw [popN_add s a b, Option.bind_assoc]
    rfl
theorem bestC_of {C : Nat → List Nat} {l : Nat} (hl : l ∈ lets) (h1 : C l ≠ []) (h2 : ∀ c ∈ lets, l < c → C c = []) : bestC C = some l := by
  unfold bestC lets
  (refine xEA (lets_of hl) fun i hi q0z => ?_; subst q0z)
  have e : ∀ c, C c = [] → decide (C c ≠ []) = false := fun c h => by simp [h]
  have e1 : decide (C (97 + i) ≠ []) = true := by simpa using h1
  match i, hi with
  | 0, _ =>
    have a := e _ (h2 98 (by decide) (by decide)); have b := e _ (h2 99 (by decide) (by decide)); have d := e _ (h2 100 (by decide) (by decide))
    simp only [List.filter_cons, List.filter_nil, a, b, d, e1, if_true, Bool.false_eq_true, if_false]
    rfl
  | 1, _ =>
    have b := e _ (h2 99 (by decide) (by decide)); have d := e _ (h2 100 (by decide) (by decide))
    simp only [List.filter_cons, List.filter_nil, b, d, Bool.false_eq_true, if_false]
    rw [if_pos (show decide (C 98 ≠ []) = true from e1)]
    split <;> rfl
  | 2, _ =>
    have d := e _ (h2 100 (by decide) (by decide))
    simp only [List.filter_cons, List.filter_nil, d, Bool.false_eq_true, if_false]
    rw [if_pos (show decide (C 99 ≠ []) = true from e1)]
    split <;> split <;> rfl
  | 3, _ =>
    simp only [List.filter_cons, List.filter_nil]
    rw [if_pos (show decide (C 100 ≠ []) = true from e1)]
    split <;> split <;> split <;> rfl
theorem popAt_snoc {Q : List (Nat × Nat)} {c v l h ld : Nat} {u q : List Nat} : popAt ⟨colN (Q ++ [(c, v)]), u, q, h, ld⟩ c l = some (if v = l then ⟨colN Q, v :: q ++ u, [], v, l⟩ else ⟨colN Q, u, v :: q, v, l⟩) := by
  have e : (fun x => if x = c then (colN (Q ++ [(c, v)]) x).dropLast else colN (Q ++ [(c, v)]) x) = colN Q := by
    funext x
    by_cases hx : x = c
    · rw [if_pos hx, colN_app, colN_one, if_pos hx, List.dropLast_concat]
    · rw [if_neg hx, colN_app, colN_one, if_neg hx, List.append_nil]
  unfold popAt
  dsimp only
  rw [e, colN_app, colN_one, if_pos rfl, List.getLast?_concat]
  rfl
theorem lst_mem {l : Nat} {t : List Nat} (h : t ≠ []) : lst l t ∈ t := by
  rcases list_snoc t with rfl | ⟨m, a, rfl⟩
  · exact absurd rfl h
  · rw [lst_snoc]; simp
theorem popB1 {P : List (Nat × Nat)} {u : List Nat} {l c : Nat} {t' q : List Nat} (hq : q ≠ []) : popStep ⟨colN (P ++ chP l (t' ++ [c])), u, q, c, l⟩ = some (if lst l t' = l then ⟨colN (P ++ chP l t'), lst l t' :: q ++ u, [], lst l t', l⟩ else ⟨colN (P ++ chP l t'), u, lst l t' :: q, lst l t', l⟩) := by
  rw [chP_snoc, ← List.append_assoc]
  unfold popStep
  dsimp only
  rw [if_neg hq]
  exact popAt_snoc
theorem popB {P : List (Nat × Nat)} {u : List Nat} {l : Nat} : ∀ n (t : List Nat), t.length = n + 1 → (∀ x ∈ t, x < l) → ∀ q : List Nat, q ≠ [] →
    popN (n + 1) ⟨colN (P ++ chP l t), u, q, lst l t, l⟩ = some ⟨colN P, l :: (t.dropLast ++ q ++ u), [], l, l⟩ := by
  intro n
  induction n with
  | zero =>
    intro t hn ht q hq
    rcases list_snoc t with rfl | ⟨t', c, rfl⟩
    · simp at hn
    obtain rfl := List.length_eq_zero_iff.mp (show t'.length = 0 by simpa using hn)
    have e := popB1 (P := P) (u := u) (l := l) (t' := []) (c := c) hq
    rw [if_pos (by rfl)] at e
    rw [popN_front, lst_snoc, e, Option.bind_some, List.dropLast_concat]
    have : lst l [] = l := rfl
    rw [this]
    simp [popN, chP]
  | succ n ih =>
    intro t hn ht q hq
    rcases list_snoc t with rfl | ⟨t', c, rfl⟩
    · simp at hn
    have hn' : t'.length = n + 1 := by simpa using hn
    have hne : t' ≠ [] := fun h => by rw [h] at hn'; cases hn'
    have hlt : lst l t' < l := ht _ (List.mem_append_left _ (lst_mem hne))
    have e := popB1 (P := P) (u := u) (l := l) (t' := t') (c := c) hq
    rw [if_neg (by omega)] at e
    rw [popN_front, lst_snoc, e, Option.bind_some, List.dropLast_concat, ih t' hn' (fun x hx => ht x (List.mem_append_left _ hx)) (lst l t' :: q) (by simp)]
    have : t'.dropLast ++ lst l t' :: q = t' ++ q := by
      rcases list_snoc t' with h | ⟨m, a, rfl⟩
      · exact absurd h hne
      · rw [List.dropLast_concat, lst_snoc]; simp
    rw [this]
theorem popR {P : List (Nat × Nat)} {u : List Nat} {l h ld : Nat} {t : List Nat} (hl : l ∈ lets) (ht : ∀ x ∈ t, x < l) (hP : ∀ p ∈ P, p.1 ≤ l) :
    popN (t.length + 1) ⟨colN (P ++ ringP (l :: t)), u, [], h, ld⟩ = some ⟨colN P, l :: t ++ u, [], l, l⟩ := by
  have e0 : colN (P ++ ringP (l :: t)) = colN (P ++ chP l t ++ [(l, lst l t)]) := by
    funext c
    rw [List.append_assoc, colN_app, colN_ring ht, ← colN_app]
  have e1 : bestC (colN (P ++ chP l t ++ [(l, lst l t)])) = some l := by
    refine bestC_of hl ?_ fun c _ hc => ?_
    · rw [colN_app, colN_one, if_pos rfl]; simp
    · refine colN_no fun hm => ?_
      rw [List.map_append, List.map_append, chP_names] at hm
      rcases List.mem_append.mp hm with q | q
      · rcases List.mem_append.mp q with q | q
        · (refine xEA (List.mem_map.mp q) fun p hp q0z => ?_; subst q0z)
          have := hP p hp; omega
        · have := ht c q; omega
      · have : c = l := by simpa using q
        omega
  rw [e0, popN_front]
  have e2 : popStep ⟨colN (P ++ chP l t ++ [(l, lst l t)]), u, [], h, ld⟩ = some (if lst l t = l then ⟨colN (P ++ chP l t), lst l t :: [] ++ u, [], lst l t, l⟩ else ⟨colN (P ++ chP l t), u, [lst l t], lst l t, l⟩) := by
    unfold popStep
    dsimp only
    rw [if_pos rfl, e1, Option.bind_some]
    exact popAt_snoc
  rw [e2, Option.bind_some]
  cases t with
  | nil =>
    rw [if_pos (by rfl)]
    have : lst l [] = l := rfl
    rw [this]
    simp [popN, chP]
  | cons x t =>
    have hlt : lst l (x :: t) < l := ht _ (lst_mem (by simp))
    rw [if_neg (by omega), List.length_cons, popB t.length (x :: t) rfl ht [lst l (x :: t)] (by simp)]
    have : (x :: t).dropLast ++ [lst l (x :: t)] = x :: t := by
      rcases list_snoc (x :: t) with h | ⟨m, a, h⟩
      · cases h
      · rw [h, List.dropLast_concat, lst_snoc]
    rw [this]; rfl
theorem M0 {w : List Nat} (hw : ∀ c ∈ w, c ∈ lets) : LP (pairsN w) := by
  intro p hp
  (refine xEA (List.mem_flatMap.mp hp) fun r hr hp => ?_)
  (refine xEA (List.mem_map.mp hp) fun k hk q0z => ?_; subst q0z)
  rw [List.mem_range] at hk
  have hm : ∀ i, i < r.length → r.getD i 0 ∈ lets := fun i hi => hw _ (by
    rw [← ringsN_flat w]
    exact List.mem_flatten.mpr ⟨r, hr, getD_mem hi⟩)
  exact ⟨hm k hk, hm _ (by split <;> omega)⟩
theorem total_len : ∀ {P : List (Nat × Nat)}, LP P → total (colN P) = P.length
  | [], _ => rfl
  | (a, v) :: P, h => by
    have ih := total_len (P := P) fun p hp => h p (.tail _ hp)
    unfold total at ih ⊢
    simp only [colN_cons, List.length_append, List.length_cons]
    (refine xEA (lets_of (h (a, v) (.head _)).1) fun i hi e => ?_)
    dsimp only at e
    subst e
    match i, hi with
    | 0, _ => simp; omega
    | 1, _ => simp; omega
    | 2, _ => simp; omega
    | 3, _ => simp; omega
theorem popV : ∀ {V : List (List Nat)}, GV V → (∀ r ∈ V, ∀ x ∈ r, x ∈ lets) → ∀ (u : List Nat) (h ld : Nat), ∃ h' ld', popN V.reverse.flatten.length ⟨colN (V.reverse.flatMap ringP), u, [], h, ld⟩ = some ⟨colN [], V.reverse.flatten ++ u, [], h', ld'⟩
  | [], _, _, u, h, ld => ⟨h, ld, rfl⟩
  | r :: V, ⟨⟨l, t, e, h1, h2⟩, hV⟩, hl, u, h, ld => by
    subst e
    (refine xEE (popV hV (fun r hr => hl r (.tail _ hr)) (l :: t ++ u) l l) fun h' ld' ih => ?_)
    refine ⟨h', ld', ?_⟩
    have hlen : ((l :: t) :: V).reverse.flatten.length = (t.length + 1) + V.reverse.flatten.length := by
      rw [List.reverse_cons, List.flatten_append, List.length_append, Nat.add_comm]; simp
    have hfm : ((l :: t) :: V).reverse.flatMap ringP = V.reverse.flatMap ringP ++ ringP (l :: t) := by
      rw [List.reverse_cons, List.flatMap_append]; simp
    rw [hlen, hfm, popN_add, popR (hl _ (.head _) l (.head _)) h1 ?_, Option.bind_some, ih]
    · rw [List.reverse_cons, List.flatten_append]; simp
    · intro p hp
      (refine xEA (List.mem_flatMap.mp hp) fun r' hr' hp' => ?_)
      (refine xEA (List.mem_map.mp hp') fun k hk q0z => ?_; subst q0z)
      rw [List.mem_range] at hk
      exact h2 r' (List.mem_reverse.mp hr') _ (getD_mem hk)
theorem M1 {w : List Nat} (hw : ∀ c ∈ w, c ∈ lets) : total (colN (pairsN w)) = w.length ∧ ∃ s, popN w.length ⟨colN (pairsN w), [], [], 0, 0⟩ = some s ∧ s.word = w := by
  refine ⟨by rw [total_len (M0 hw), pairsN_len], ?_⟩
  obtain ⟨h', ld', e⟩ := popV (GV_rings w) (fun r hr x hx => hw x (by
    rw [← ringsN_flat w]
    exact List.mem_flatten.mpr ⟨r, List.mem_reverse.mp hr, hx⟩)) [] 0 0
  rw [List.reverse_reverse, ringsN_flat, List.append_nil] at e
  exact ⟨_, e, rfl⟩
theorem abN_app (P Q : List (Nat × Nat)) : abN (P ++ Q) = abN P + abN Q := by unfold abN; rw [List.filter_append, List.length_append]
theorem falls_snoc {w : List Nat} {p c : Nat} (h : w.getLast? = some p) : fallsN (w ++ [c]) = fallsN w + (if c < p then 1 else 0) := by
  rcases list_snoc w with rfl | ⟨v, a, rfl⟩
  · cases h
  rw [List.getLast?_concat] at h
  cases h
  unfold fallsN
  have hl1 : (v ++ [p] ++ [c]).length - 1 = v.length + 1 := by simp
  have hl2 : (v ++ [p]).length - 1 = v.length := by simp
  rw [hl1, hl2, List.range_succ, List.filter_append, List.length_append]
  congr 1
  · refine congrArg List.length (List.filter_congr fun i hi => ?_)
    rw [List.mem_range] at hi
    simp only [List.getD_eq_getElem?_getD]
    rw [List.getElem?_append_left (l₁ := v ++ [p]) (by simp; omega), List.getElem?_append_left (l₁ := v ++ [p]) (by simp; omega)]
  · have e1 : (v ++ [p] ++ [c]).getD (v.length + 1) 0 = c := by
      rw [List.getD_eq_getElem?_getD, show v.length + 1 = (v ++ [p]).length by simp, List.getElem?_concat_length]; rfl
    have e2 : (v ++ [p] ++ [c]).getD v.length 0 = p := by
      rw [List.getD_eq_getElem?_getD, List.getElem?_append_left (l₁ := v ++ [p]) (by simp), List.getElem?_concat_length]; rfl
    simp only [List.filter_cons, List.filter_nil, e1, e2]
    by_cases h : c < p <;> simp [h]
theorem lst_le {l : Nat} {t : List Nat} (ht : ∀ x ∈ t, x < l) : lst l t ≤ l := by
  by_cases h : t = []
  · subst h; exact Nat.le_refl _
  · exact Nat.le_of_lt (ht _ (lst_mem h))
theorem abN_ring {l : Nat} {t : List Nat} (ht : ∀ x ∈ t, x < l) : abN (ringP (l :: t)) = abN (chP l t) := by
  rw [ringP_cons, show (l, lst l t) :: chP l t = [(l, lst l t)] ++ chP l t from rfl, abN_app]
  have := lst_le ht
  have : abN [(l, lst l t)] = 0 := by unfold abN; simp; exact this
  omega
theorem M2 (w : List Nat) : abN (pairsN w) = fallsN w := by
  have key : ∀ n, abN (pairsN (w.take n)) = fallsN (w.take n) := by
    intro n
    induction n with
    | zero => rfl
    | succ n ih =>
      cases h : w[n]? with
      | none => rw [List.take_add_one, h]; simpa using ih
      | some c =>
        rw [take_snoc h]
        have hG := GV_rings (w.take n)
        have hf := ringsN_flat (w.take n)
        unfold pairsN at ih ⊢
        rw [ringsN_snoc]
        generalize w.take n = v at ih hG hf
        generalize ringsN v = R at ih hG hf
        rcases list_snoc R with rfl | ⟨M, r, rfl⟩
        · obtain rfl : [] = v := hf
          show abN (ringP [c] ++ []) = fallsN [c]
          rw [abN_app, abN_ring (fun x hx => by cases hx)]
          rfl
        · rw [List.reverse_append] at hG
          (refine xA hG fun q0z h3 => ?_; try clear hG; refine xEEAA q0z fun l t q1z h1 h2 => ?_; subst q1z)
          have hlast : v.getLast? = some (lst l t) := by
            rw [← hf, List.flatten_append, List.flatten_cons, List.flatten_nil, List.append_nil, List.getLast?_append, List.getLast?_eq_some_getLast (l := l :: t) (by simp), Option.some_or]
            rfl
          rw [falls_snoc hlast, ← ih]
          unfold rgStep
          simp only [List.getLast?_concat, List.dropLast_concat, List.headD_cons]
          have hle := lst_le h1
          split
          · rename_i hc
            rw [List.flatMap_append, abN_app, if_neg (by omega)]
            congr 1
            show abN (ringP [c] ++ []) = 0
            rw [abN_app, abN_ring (fun x hx => by cases hx)]
            rfl
          · rename_i hc
            rw [List.flatMap_append, List.flatMap_append, abN_app, abN_app]
            have a1 : abN ([l :: t ++ [c]].flatMap ringP) = abN (chP l t) + abN [(c, lst l t)] := by
              show abN (ringP (l :: (t ++ [c])) ++ []) = _
              rw [List.append_nil, abN_ring, chP_snoc, abN_app]
              intro x hx
              rcases List.mem_append.mp hx with q | q
              · exact h1 x q
              · rw [List.mem_singleton.mp q]; omega
            have a2 : abN ([l :: t].flatMap ringP) = abN (chP l t) := by
              show abN (ringP (l :: t) ++ []) = _
              rw [List.append_nil, abN_ring h1]
            have a3 : abN [(c, lst l t)] = if c < lst l t then 1 else 0 := by
              unfold abN
              by_cases q : c < lst l t <;> simp [q]
            rw [a1, a2, a3]
            omega
  have := key w.length
  rwa [List.take_length] at this
theorem abN_col : ∀ {P : List (Nat × Nat)}, LP P → abN P = ((colN P 97).filter fun v => decide (97 < v)).length + ((colN P 98).filter fun v => decide (98 < v)).length + ((colN P 99).filter fun v => decide (99 < v)).length + ((colN P 100).filter fun v => decide (100 < v)).length
  | [], _ => rfl
  | (a, v) :: P, h => by
    have ih := abN_col (P := P) fun p hp => h p (.tail _ hp)
    rw [show (a, v) :: P = [(a, v)] ++ P from rfl, abN_app, ih]
    simp only [colN_app, colN_one, List.filter_append, List.length_append]
    (refine xEA (lets_of (h (a, v) (.head _)).1) fun i hi e => ?_)
    dsimp only at e
    subst e
    have e1 : ∀ b : Nat, abN [(b, v)] = (([v] : List Nat).filter fun v => decide (b < v)).length := fun b => by
      unfold abN
      by_cases q : b < v <;> simp [q]
    rw [e1]
    match i, hi with
    | 0, _ => simp only [Nat.add_zero, if_true, show ((98 : Nat) = 97) = False from by simp, show ((99 : Nat) = 97) = False from by simp, show ((100 : Nat) = 97) = False from by simp, if_false, List.filter_nil, List.length_nil]; omega
    | 1, _ => simp only [show (97 : Nat) + 1 = 98 from rfl, if_true, show ((97 : Nat) = 98) = False from by simp, show ((99 : Nat) = 98) = False from by simp, show ((100 : Nat) = 98) = False from by simp, if_false, List.filter_nil, List.length_nil]; omega
    | 2, _ => simp only [show (97 : Nat) + 2 = 99 from rfl, if_true, show ((97 : Nat) = 99) = False from by simp, show ((98 : Nat) = 99) = False from by simp, show ((100 : Nat) = 99) = False from by simp, if_false, List.filter_nil, List.length_nil]; omega
    | 3, _ => simp only [show (97 : Nat) + 3 = 100 from rfl, if_true, show ((97 : Nat) = 100) = False from by simp, show ((98 : Nat) = 100) = False from by simp, show ((99 : Nat) = 100) = False from by simp, if_false, List.filter_nil, List.length_nil]; omega
theorem M4 {P Q : List (Nat × Nat)} (hP : LP P) (hQ : LP Q) (h : ∀ c, colN P c = colN Q c) : abN P = abN Q := by
  rw [abN_col hP, abN_col hQ, h, h, h, h]
end
end Mine
end
section
open PySem PySem.W PyProof.Rows PySem.Calls
set_option maxRecDepth 100000
set_option maxHeartbeats 4000000
namespace Mine
section
noncomputable def cnt (C : Nat → List Nat) (c : Nat) : Nat := (C 97).count c + (C 98).count c + (C 99).count c + (C 100).count c
noncomputable def rem1 (C : Nat → List Nat) (h : Nat) : Nat → List Nat := fun c => if c = h then (C c).dropLast else C c
theorem rem_eq {C : Nat → List Nat} {h v : Nat} {E : List Nat} (e : C h = E ++ [v]) (c : Nat) : C c = rem1 C h c ++ colN [(h, v)] c := by
  unfold rem1
  rw [colN_one]
  by_cases hc : c = h
  · subst hc; rw [if_pos rfl, if_pos rfl, e, List.dropLast_concat]
  · rw [if_neg hc, if_neg hc, List.append_nil]
theorem rem_total {C : Nat → List Nat} {h v : Nat} {E : List Nat} (hh : h ∈ lets) (e : C h = E ++ [v]) : total C = total (rem1 C h) + 1 := by
  have k := rem_eq e
  unfold total
  rw [k 97, k 98, k 99, k 100]
  simp only [List.length_append, colN_one]
  (refine xEA (lets_of hh) fun i hi q0z => ?_; subst q0z)
  match i, hi with
  | 0, _ => simp; omega
  | 1, _ => simp; omega
  | 2, _ => simp; omega
  | 3, _ => simp; omega
theorem rem_cnt {C : Nat → List Nat} {h v : Nat} {E : List Nat} (hh : h ∈ lets) (e : C h = E ++ [v]) (c : Nat) : cnt C c = cnt (rem1 C h) c + (if c = v then 1 else 0) := by
  have k := rem_eq e
  unfold cnt
  rw [k 97, k 98, k 99, k 100]
  simp only [List.count_append, colN_one]
  have e1 : List.count c [v] = if c = v then 1 else 0 := by
    rw [List.count_singleton]
    by_cases q : c = v
    · subst q; simp
    · rw [if_neg q]; simp; exact fun x => q x.symm
  (refine xEA (lets_of hh) fun i hi q0z => ?_; subst q0z)
  match i, hi with
  | 0, _ => simp [e1]; omega
  | 1, _ => simp [e1]; omega
  | 2, _ => simp [e1]; omega
  | 3, _ => simp [e1]; omega
theorem rem_out {C : Nat → List Nat} {h : Nat} (ho : ∀ c, c ∉ lets → C c = []) : ∀ c, c ∉ lets → rem1 C h c = [] := fun c hc => by
  unfold rem1
  rw [ho c hc]
  split <;> rfl
theorem rem_mem {C : Nat → List Nat} {h c v : Nat} (hv : v ∈ rem1 C h c) : v ∈ C c := by
  unfold rem1 at hv
  split at hv
  · exact List.dropLast_subset _ hv
  · exact hv
theorem popAt_rem {C : Nat → List Nat} {h v l a b : Nat} {E u q : List Nat} (e : C h = E ++ [v]) : popAt ⟨C, u, q, a, b⟩ h l = some (if v = l then ⟨rem1 C h, v :: q ++ u, [], v, l⟩ else ⟨rem1 C h, u, v :: q, v, l⟩) := by
  unfold popAt
  dsimp only
  rw [e, List.getLast?_concat]
  rfl
noncomputable def BalW (C : Nat → List Nat) (l here : Nat) : Prop := ∀ c, (C c).length + (if c = l then 1 else 0) = cnt C c + (if c = here then 1 else 0)
theorem cnt_mem {C : Nat → List Nat} {c v : Nat} (hc : c ∈ lets) (hv : v ∈ C c) : 0 < cnt C v := by
  have := List.count_pos_iff.mpr hv
  unfold cnt
  (refine xEA (lets_of hc) fun i hi q0z => ?_; subst q0z)
  match i, hi with
  | 0, _ => have : 0 < (C 97).count v := this; omega
  | 1, _ => have : 0 < (C 98).count v := this; omega
  | 2, _ => have : 0 < (C 99).count v := this; omega
  | 3, _ => have : 0 < (C 100).count v := this; omega
theorem in_lets {C : Nat → List Nat} (ho : ∀ c, c ∉ lets → C c = []) {c : Nat} (h : C c ≠ []) : c ∈ lets := Classical.byContradiction fun q => h (ho c q)
theorem BalW.rem {C : Nat → List Nat} {l h v : Nat} {E : List Nat} (hh : h ∈ lets) (e : C h = E ++ [v]) (B : BalW C l h) : BalW (rem1 C h) l v := fun c => by
  have b := B c
  have k := rem_cnt hh e c
  have q : (C c).length = (rem1 C h c).length + (if c = h then 1 else 0) := by
    rw [rem_eq e c, List.length_append, colN_one]
    have : (rem1 C h c ++ colN [(h, v)] c) = C c := (rem_eq e c).symm
    by_cases x : c = h <;> simp [x]
  omega
theorem walk {l : Nat} : ∀ (n : Nat) (C : Nat → List Nat), total C = n → (∀ c, c ∉ lets → C c = []) → ∀ (here : Nat) (q u : List Nat), q ≠ [] → BalW C l here → here < l → (∀ c, ∀ v ∈ C c, v ≤ l) →
    ∃ (t : List Nat) (C2 : Nat → List Nat), popN (t.length + 1) ⟨C, u, q, here, l⟩ = some ⟨C2, l :: (t ++ q) ++ u, [], l, l⟩ ∧ (∀ x ∈ t, x < l) ∧ (∀ x ∈ t, ∃ c, x ∈ C c) ∧ (∀ c, C c = C2 c ++ colN (chP l (t ++ [here])) c) ∧ BalW C2 l l ∧ (∀ c, c ∉ lets → C2 c = []) ∧ total C = total C2 + (t.length + 1) := by
  intro n
  induction n with
  | zero =>
    intro C hn ho here q u hq B hl hv
    have hne : C here ≠ [] := fun h => by
      have := B here
      rw [h, if_neg (by omega), if_pos rfl] at this
      simp at this
    obtain ⟨E, v, e⟩ : ∃ E v, C here = E ++ [v] := (list_snoc (C here)).resolve_left hne
    have := rem_total (in_lets ho hne) e
    omega
  | succ n ih =>
    intro C hn ho here q u hq B hl hv
    have hne : C here ≠ [] := fun h => by
      have := B here
      rw [h, if_neg (by omega), if_pos rfl] at this
      simp at this
    have hh := in_lets ho hne
    obtain ⟨E, v, e⟩ : ∃ E v, C here = E ++ [v] := (list_snoc (C here)).resolve_left hne
    have hst : popStep ⟨C, u, q, here, l⟩ = some (if v = l then ⟨rem1 C here, v :: q ++ u, [], v, l⟩ else ⟨rem1 C here, u, v :: q, v, l⟩) := by
      unfold popStep
      dsimp only
      rw [if_neg hq]
      exact popAt_rem e
    have hB := B.rem hh e
    have ht := rem_total hh e
    have hvl : v ≤ l := hv here v (by rw [e]; simp)
    by_cases hvl2 : v = l
    · refine ⟨[], rem1 C here, ?_, fun x hx => (by cases hx), fun x hx => (by cases hx), fun c => ?_, by rw [← hvl2] at hB ⊢; exact hB, rem_out ho, by simpa using ht⟩
      · rw [popN_front, hst, Option.bind_some, if_pos hvl2, hvl2]; rfl
      · rw [← hvl2]; exact rem_eq e c
    · obtain ⟨t, C2, i1, i2, i3, i4, i5, i6, i7⟩ := ih (rem1 C here) (by omega) (rem_out ho) v (v :: q) u (by simp) hB (by omega) (fun c x hx => hv c x (rem_mem hx))
      refine ⟨t ++ [v], C2, ?_, fun x hx => ?_, fun x hx => ?_, fun c => ?_, i5, i6, ?_⟩
      · rw [popN_front, hst, Option.bind_some, if_neg hvl2, List.length_append, List.length_singleton, i1]
        simp
      · rcases List.mem_append.mp hx with r | r
        · exact i2 x r
        · rw [List.mem_singleton.mp r]; omega
      · rcases List.mem_append.mp hx with r | r
        · obtain ⟨c, hc⟩ := i3 x r
          exact ⟨c, rem_mem hc⟩
        · rw [List.mem_singleton.mp r]
          exact ⟨here, by rw [e]; simp⟩
      · rw [rem_eq e c, i4 c, chP_snoc l (t ++ [v]) here, lst_snoc, colN_app (chP l (t ++ [v])), List.append_assoc]
      · rw [ht, i7]; simp; omega

theorem bestC_spec {C : Nat → List Nat} (h : ∃ c ∈ lets, C c ≠ []) : ∃ l, bestC C = some l ∧ l ∈ lets ∧ C l ≠ [] ∧ ∀ c ∈ lets, l < c → C c = [] := by
  have key : ∀ c, c ∈ lets → c = 97 ∨ c = 98 ∨ c = 99 ∨ c = 100 := fun c hc => by
    unfold lets at hc
    simpa using hc
  by_cases h4 : C 100 = []
  · by_cases h3 : C 99 = []
    · by_cases h2 : C 98 = []
      · by_cases h1 : C 97 = []
        · (refine xEA h fun c hc hne => ?_; try clear h)
          rcases key c hc with rfl | rfl | rfl | rfl <;> contradiction
        · have a : ∀ c ∈ lets, 97 < c → C c = [] := fun c hc hl => by rcases key c hc with rfl | rfl | rfl | rfl <;> first | assumption | omega
          exact ⟨97, bestC_of (by decide) h1 a, by decide, h1, a⟩
      · have a : ∀ c ∈ lets, 98 < c → C c = [] := fun c hc hl => by rcases key c hc with rfl | rfl | rfl | rfl <;> first | assumption | omega
        exact ⟨98, bestC_of (by decide) h2 a, by decide, h2, a⟩
    · have a : ∀ c ∈ lets, 99 < c → C c = [] := fun c hc hl => by rcases key c hc with rfl | rfl | rfl | rfl <;> first | assumption | omega
      exact ⟨99, bestC_of (by decide) h3 a, by decide, h3, a⟩
  · have a : ∀ c ∈ lets, 100 < c → C c = [] := fun c hc hl => by rcases key c hc with rfl | rfl | rfl | rfl <;> omega
    exact ⟨100, bestC_of (by decide) h4 a, by decide, h4, a⟩
theorem popC : ∀ (n : Nat) (C : Nat → List Nat), total C = n → (∀ l, BalW C l l) → (∀ c, c ∉ lets → C c = []) → ∀ (u : List Nat) (h ld : Nat),
    ∃ s w, popN n ⟨C, u, [], h, ld⟩ = some s ∧ s.word = w ++ u ∧ w.length = n ∧ (∀ x ∈ w, ∃ c, x ∈ C c) ∧ ∀ c, colN (pairsN w) c = C c := by
  intro n
  induction n using Nat.strongRecOn with
  | ind n ih =>
  intro C hn B ho u h ld
  cases n with
  | zero =>
    refine ⟨_, [], rfl, rfl, rfl, fun x hx => (by cases hx), fun c => ?_⟩
    show [] = C c
    by_cases hc : c ∈ lets
    · (refine xEA (lets_of hc) fun i hi q0z => ?_; subst q0z)
      unfold total at hn
      match i, hi with
      | 0, _ => exact (List.length_eq_zero_iff.mp (show (C 97).length = 0 by omega)).symm
      | 1, _ => exact (List.length_eq_zero_iff.mp (show (C 98).length = 0 by omega)).symm
      | 2, _ => exact (List.length_eq_zero_iff.mp (show (C 99).length = 0 by omega)).symm
      | 3, _ => exact (List.length_eq_zero_iff.mp (show (C 100).length = 0 by omega)).symm
    · exact (ho c hc).symm
  | succ n =>
    have hex : ∃ c ∈ lets, C c ≠ [] := Classical.byContradiction fun q => by
      have z : ∀ c ∈ lets, C c = [] := fun c hc => Classical.byContradiction fun x => q ⟨c, hc, x⟩
      unfold total at hn
      rw [z 97 (by decide), z 98 (by decide), z 99 (by decide), z 100 (by decide)] at hn
      cases hn
    (refine xEAAA (bestC_spec hex) fun l hb hl hne hmax => ?_)
    have hvl : ∀ c, ∀ v ∈ C c, v ≤ l := fun c v hv => by
      have hc := in_lets ho (c := c) (fun e => (by rw [e] at hv; cases hv))
      have h1 := cnt_mem hc hv
      have h2 := B 0 v
      have h3 : C v ≠ [] := fun e => by
        rw [e] at h2
        simp at h2
        omega
      exact Classical.byContradiction fun q => h3 (hmax v (in_lets ho h3) (by omega))
    obtain ⟨E, v, e⟩ : ∃ E v, C l = E ++ [v] := (list_snoc (C l)).resolve_left hne
    have hst : popStep ⟨C, u, [], h, ld⟩ = some (if v = l then ⟨rem1 C l, v :: [] ++ u, [], v, l⟩ else ⟨rem1 C l, u, [v], v, l⟩) := by
      unfold popStep
      dsimp only
      rw [if_pos rfl, hb, Option.bind_some]
      exact popAt_rem e
    have hB := (B l).rem hl e
    have ht := rem_total hl e
    -- the ring
    have ring : ∃ (t : List Nat) (C2 : Nat → List Nat), popN (t.length + 1) ⟨C, u, [], h, ld⟩ = some ⟨C2, l :: t ++ u, [], l, l⟩ ∧ (∀ x ∈ t, x < l) ∧ (∀ x ∈ t, ∃ c, x ∈ C c) ∧ (∀ c, C c = C2 c ++ colN (ringP (l :: t)) c) ∧ BalW C2 l l ∧ (∀ c, c ∉ lets → C2 c = []) ∧ total C = total C2 + (t.length + 1) := by
      by_cases hv : v = l
      · refine ⟨[], rem1 C l, ?_, fun x hx => (by cases hx), fun x hx => (by cases hx), fun c => ?_, by rw [← hv] at hB ⊢; exact hB, rem_out ho, by simpa using ht⟩
        · rw [popN_front, hst, Option.bind_some, if_pos hv, hv]; rfl
        · rw [colN_ring (t := []) (fun x hx => by cases hx)]
          have := rem_eq e c
          rw [hv] at this
          exact this
      · obtain ⟨t, C2, i1, i2, i3, i4, i5, i6, i7⟩ := walk _ (rem1 C l) rfl (rem_out ho) v [v] u (by simp) hB (by have := hvl l v (by rw [e]; simp); omega) (fun c x hx => hvl c x (rem_mem hx))
        have hvl2 : v ≤ l := hvl l v (by rw [e]; simp)
        have htv : ∀ x ∈ t ++ [v], x < l := fun x hx => by
          rcases List.mem_append.mp hx with r | r
          · exact i2 x r
          · rw [List.mem_singleton.mp r]; omega
        refine ⟨t ++ [v], C2, ?_, htv, fun x hx => ?_, fun c => ?_, i5, i6, ?_⟩
        · rw [popN_front, hst, Option.bind_some, if_neg hv, List.length_append, List.length_singleton, i1]
        · rcases List.mem_append.mp hx with r | r
          · obtain ⟨c, hc⟩ := i3 x r
            exact ⟨c, rem_mem hc⟩
          · rw [List.mem_singleton.mp r]
            exact ⟨l, by rw [e]; simp⟩
        · rw [rem_eq e c, i4 c, colN_ring htv, lst_snoc, colN_app (chP l (t ++ [v])), List.append_assoc]
        · rw [ht, i7]; simp; omega
    obtain ⟨t, C2, r1, r2, r3, r4, r5, r6, r7⟩ := ring
    have B2 : ∀ l', BalW C2 l' l' := fun l' c => by
      have := r5 c
      omega
    have hlt : total C2 < n + 1 := by omega
    obtain ⟨s, w, s1, s2, s3, s4, s5⟩ := ih (total C2) hlt C2 rfl B2 r6 (l :: t ++ u) l l
    have hw : ∀ x ∈ w, x ≤ l := fun x hx => by
      obtain ⟨c, hc⟩ := s4 x hx
      exact hvl c x (by rw [r4 c]; exact List.mem_append_left _ hc)
    refine ⟨s, w ++ l :: t, ?_, ?_, ?_, fun x hx => ?_, fun c => ?_⟩
    · rw [← hn, r7, Nat.add_comm, popN_add, r1, Option.bind_some, s1]
    · rw [s2]; simp
    · rw [List.length_append, s3, List.length_cons]; omega
    · rcases List.mem_append.mp hx with q | q
      · obtain ⟨c, hc⟩ := s4 x q
        exact ⟨c, by rw [r4 c]; exact List.mem_append_left _ hc⟩
      · rcases List.mem_cons.mp q with rfl | q
        · have h1 := B 0 x
          have h2 : 0 < (C x).length := List.length_pos_iff.mpr hne
          have h3 : 0 < cnt C x := by omega
          unfold cnt at h3
          have : ∃ c, 0 < (C c).count x := Classical.byContradiction fun z => by
            have z' : ∀ c, (C c).count x = 0 := fun c => Classical.byContradiction fun y => z ⟨c, by omega⟩
            rw [z' 97, z' 98, z' 99, z' 100] at h3
            cases h3
          obtain ⟨c, hc⟩ := this
          exact ⟨c, List.count_pos_iff.mp hc⟩
        · exact r3 x q
    · unfold pairsN at s5 ⊢
      rw [rings_app hw r2, List.flatMap_append, colN_app, s5 c, r4 c]
      simp

theorem M3 {C : Nat → List Nat} (hb : Bal C) (ho : ∀ c, c ∉ lets → C c = []) : ∃ s, popN (total C) ⟨C, [], [], 0, 0⟩ = some s ∧ s.word.length = total C ∧ (∀ c ∈ s.word, c ∈ lets) ∧ ∀ c, colN (pairsN s.word) c = C c := by
  (refine xEEAAA (popC (total C) C rfl (fun l c => by have := hb c; unfold cnt; omega) ho [] 0 0) fun s w h1 h2 h3 w45z => ?_; refine xA w45z fun h4 h5 => ?_)
  rw [List.append_nil] at h2
  subst h2
  refine ⟨s, h1, h3, fun x hx => ?_, h5⟩
  (refine xE (h4 x hx) fun c hc => ?_)
  have hcl := in_lets ho (c := c) (fun e => by rw [e] at hc; cases hc)
  have k := cnt_mem hcl hc
  refine in_lets ho (c := x) fun e => ?_
  have := hb x
  unfold cnt at k
  rw [e] at this
  simp at this
  omega
end
end Mine
end
section
open PySem PySem.W PyProof.Rows PySem.Calls
set_option maxRecDepth 100000
set_option maxHeartbeats 4000000
namespace Mine
section
noncomputable def tdD (C : Nat → List Nat) : D := .dct ((List.range 4).map fun i => (ltr i, .lst ((C (97 + i)).map chD)))
theorem py_col {σ : List AO} {l : List Nat} (hl : ∀ v ∈ l, v ∈ lets) : py σ (.lst (l.map chD)) = some (.list ((l.map fun c => tx [c]).map .str)) := by
  rw [enc_strs]
  exact (Fine.strs fun x hx => by
    (refine xEA (List.mem_map.mp hx) fun c hc q0z => ?_; subst q0z)
    exact short_tx (asc_one (lets_asc (hl c hc)))).py (by decide) σ
theorem py_colR {σ : List AO} {k : Nat} {l : List Nat} (hk : σ[k]? = some (enc l)) (hl : ∀ v ∈ l, v ∈ lets) : py σ (.ref k) = some (.list ((l.map fun c => tx [c]).map .str)) := by
  have hk' : σ[k]? = some (.lst ((l.map fun c => tx [c]).map .str)) := by rw [hk]; unfold enc; rw [enc_strs]
  exact (Fine.strs fun x hx => by
    (refine xEA (List.mem_map.mp hx) fun c hc q0z => ?_; subst q0z)
    exact short_tx (asc_one (lets_asc (hl c hc)))).pyRef (by decide) hk'
theorem td_get (C : Nat → List Nat) : ∀ i, i < 4 → getD? ((List.range 4).map fun i => (ltr i, D.lst ((C (97 + i)).map chD))) (ltr i) = some (.lst ((C (97 + i)).map chD))
  | 0, _ => by kernel_rfl
  | 1, _ => by kernel_rfl
  | 2, _ => by kernel_rfl
  | 3, _ => by kernel_rfl
theorem eqv_self (l : List PySem.Str) : PyData.eqv (.list (l.map .str)) (.list (l.map .str)) = true := by rw [eqv_strs]; simp
theorem neD_cols {τ : List AO} {C C' : Nat → List Nat} (hC : ∀ c, ∀ v ∈ C c, v ∈ lets) (h : ∀ c, C c = C' c) : opNeD (.dct (dcT τ.length)) (tdD C') (τ ++ enc4 C) = some (.val (.bool false), τ ++ enc4 C) := by
  obtain rfl : C = C' := funext h
  have p1 : ∀ i, i < 4 → py (τ ++ enc4 C) (.ref (τ.length + i)) = some (.list (((C (97 + i)).map fun c => tx [c]).map .str)) := fun i hi => py_colR (enc4_get hi) (hC _)
  have p2 : ∀ i, py (τ ++ enc4 C) (.lst ((C (97 + i)).map chD)) = some (.list (((C (97 + i)).map fun c => tx [c]).map .str)) := fun i => py_col (hC _)
  have hh : dctEq (τ ++ enc4 C) (dcT τ.length) ((List.range 4).map fun i => (ltr i, D.lst ((C (97 + i)).map chD))) = some true := by
    unfold dctEq
    rw [if_pos (by simp [dcT])]
    show hitsD _ _ [(ltr 0, .ref (τ.length + 0)), (ltr 1, .ref (τ.length + 1)), (ltr 2, .ref (τ.length + 2)), (ltr 3, .ref (τ.length + 3))] = _
    simp only [hitsD, td_get C 0 (by decide), td_get C 1 (by decide), td_get C 2 (by decide), td_get C 3 (by decide), p1 0 (by decide), p1 1 (by decide), p1 2 (by decide), p1 3 (by decide), p2, Option.bind_some, Option.map_some, eqv_self, Bool.and_self]
  unfold tdD opNeD
  simp only [hh, Option.map_some, Bool.not_true]
theorem sColumns_prG {σ : List AO} {k j : Nat} {b : Int} {f : Nat → Bool} {P : List (Nat × Nat)} (hh : hdr σ k = some (j, prG f P)) (hP : LP P) : sColumns [.ref k, .int b] [] σ = some (.val (.dct (dcT σ.length)), σ ++ enc4 (colN P)) := by
  refine Eq.trans (on2_mk rfl rfl) ?_
  simp only [hh, Option.map_some, enc_colOf hP]
  rfl
theorem colN_let {P : List (Nat × Nat)} (hP : LP P) : ∀ c, ∀ v ∈ colN P c, v ∈ lets := by
  intro c v hv
  (refine xEA (List.mem_map.mp hv) fun p hp q0z => ?_; subst q0z)
  exact (hP p (List.mem_filter.mp hp).1).2
theorem colN_out {P : List (Nat × Nat)} (hP : LP P) : ∀ c, c ∉ lets → colN P c = [] := by
  intro c hc
  unfold colN
  rw [List.filter_eq_nil_iff.mpr]
  · rfl
  · intro p hp e
    have : p.1 = c := by simpa using e
    exact hc (this ▸ (hP p hp).1)
theorem colsAt_enc {τ : List AO} {C : Nat → List Nat} (ho : ∀ c, c ∉ lets → C c = []) : colsAt (τ ++ enc4 C) τ.length = some C :=
  pick_mk (P := fun b => τ ++ enc4 C = (τ ++ enc4 C).take τ.length ++ enc4 b ∧ ((τ ++ enc4 C).take τ.length).length = τ.length ∧ ∀ c, c ∉ lets → b c = []) ⟨by rw [List.take_left], by rw [List.take_left], ho⟩ fun b hb => by
    have e := hb.1
    rw [List.take_left] at e
    have e := List.append_cancel_left e
    funext c
    by_cases hc : c ∈ lets
    · (refine xEA (lets_of hc) fun i hi q0z => ?_; subst q0z)
      have q := List.map_inj_left.mp e i (List.mem_range.mpr hi)
      unfold enc at q
      injection q with q
      refine ((List.map_inj_right fun x y h => ?_).mp q).symm
      unfold chD at h
      injection h with h
      have h := tx_inj.mp h
      injection h
    · rw [hb.2.2 c hc, ho c hc]
theorem sPopped_run {τ : List AO} {C : Nat → List Nat} {s : PS} (ho : ∀ c, c ∉ lets → C c = []) (hl : ∀ c, ∀ v ∈ C c, v ∈ lets) (ht : total C ≤ 1000) (hs : popN (total C) ⟨C, [], [], 0, 0⟩ = some s) :
    sPopped [.dct (dcT τ.length)] [] (τ ++ enc4 C) = some (.val (.str (tx s.word)), τ ++ enc4 s.C) := by
  have hok : total C ≤ 1000 ∧ okC C = true := ⟨ht, by
    unfold okC
    simp only [List.all_eq_true, decide_eq_true_eq]
    exact fun c _ v hv => hl c v hv⟩
  refine Eq.trans (on1_mk rfl) ?_
  rw [aOf_dcT, Option.bind_some, colsAt_enc ho, Option.bind_some, if_pos hok, hs, List.take_left]
  rfl
theorem sTable_prG {σ : List AO} {f : Nat → Bool} {P : List (Nat × Nat)} (hP : LP P) (hl : P.length ≤ 900) : sTable [.lst ((prG f P).map pD)] [] σ = some (.val (.ref (σ.length + 1)), tbl σ (prG f P)) := by
  refine Eq.trans (on1_mk rfl) ?_
  rw [prs_map, Option.bind_some, if_pos ⟨by rw [prG_len]; exact hl, List.all_eq_true.mpr (prG_ok hP)⟩]
end
end Mine
end
section
open PySem PySem.W PyProof.Rows PySem.Calls
set_option maxRecDepth 100000
set_option maxHeartbeats 4000000
namespace Mine
section
structure PB (w o : List Nat) (b : Int) (fr : Fr) (σ : List AO) : Prop extends PA w o b fr where
  pairs : fr "pairs" = some (.lst ((prG (bitD b) (pairsN w)).map pD))
  table : fr "table" = some (.ref 1)
  h1 : hdr σ 1 = some (0, prG (bitD b) (pairsN w))
theorem WO.asc {w o : List Nat} (W : WO w o) : asc w := ⟨by rw [W.len]; decide, fun c hc => lets_asc (W.let_ c hc)⟩
theorem WO.lp {w o : List Nat} (W : WO w o) : LP (pairsN w) := M0 W.let_
theorem sPairs_run {w : List Nat} {b : Int} {σ : List AO} (h : asc w) (hl : w.length ≤ 20) : sPairs [.str (tx w), .int b] [] σ = some (.val (.lst ((prG (bitD b) (pairsN w)).map pD)), σ) := by
  refine Eq.trans (on2_mk rfl rfl) ?_
  rw [if_pos ⟨short_tx h, by rw [tx_len]; exact hl⟩, tx_cps]
  rfl
theorem sFalls_run {w : List Nat} {σ : List AO} (h : asc w) : sFalls [.str (tx w)] [] σ = some (.val (.int (fallsN w)), σ) := by
  refine Eq.trans (on1_mk rfl) ?_
  rw [if_pos (short_tx h), tx_cps]
theorem sAbove_run {σ : List AO} {k j : Nat} {f : Nat → Bool} {P : List (Nat × Nat)} (hh : hdr σ k = some (j, prG f P)) (hP : LP P) : sAbove [.ref k] [] σ = some (.val (.int (abN P)), σ) := by
  refine Eq.trans (on1_mk rfl) ?_
  rw [hh, Option.map_some, aboveN_prG hP]
theorem opNe_tx (σ : List AO) {a c : List Nat} (ha : asc a) (hc : asc c) : opNe (.str (tx a)) (.str (tx c)) σ = some (.val (.bool (!decide (a = c))), σ) := by
  rw [opNe_str σ (short_tx ha) (short_tx hc), tx_beq]
theorem fList_enc {τ : List AO} {C : Nat → List Nat} {i : Nat} (hi : i < 4) : lstOf (.ref (τ.length + i)) (τ ++ enc4 C) = some ((C (97 + i)).map chD) := by
  unfold lstOf
  simp only [enc4_get hi]
  rfl
end
section
variable {G : Amb} (h : G.K = K2 G.w.params)
include h
theorem blkB (hk : Goes G 8 (lawZ G) ((lawB G).drop 10) fun fr σ => ∃ w o b, PB w o b fr σ) :
    Goes G 8 (lawZ G) ((lawB G).drop 5) fun fr σ => σ = [] ∧ ∃ w o b, PA w o b fr := by
  obtain ⟨k, hk, hp⟩ := hk
  refine ⟨_, (Exs.cons (Ex.asgn (Ev.call (g_law_pairs h rfl) (ms := [_, _]) (mk := []) ⟨(Ev.cel rfl rfl), (Ev.cel rfl rfl), trivial⟩ trivial (i4_198 h) ((f_pairs h).up (by omega)).ca) (As.name (Or.inl rfl)) (sw_of fun env => ⟨rfl, by kernel_rfl, by kernel_rfl⟩))
      (Exs.cons (Ex.asgn (Ev.call (g_law_table h rfl) (ms := [_]) (mk := []) ⟨(Ev.loc rfl rfl), trivial⟩ trivial (i4_205 h) ((f_table h).up (by omega)).ca) (As.name (Or.inl rfl)) (sw_of fun env => ⟨rfl, by kernel_rfl, by kernel_rfl⟩))
      (Exs.cons (Ex.asgn (Ev.call (g_law_columns h rfl) (ms := [_, _]) (mk := []) ⟨(Ev.loc rfl rfl), (Ev.cel rfl rfl), trivial⟩ trivial (i4_210 h) ((f_columns h).up (by omega)).ca) (As.name (Or.inr rfl)) (sw_of fun env => ⟨rfl, by kernel_rfl, by kernel_rfl⟩))
      (Exs.cons (Ex.asgnD (CompDct.one (W := []) (Ev.kStr (by decide +kernel)) (AsC.name rfl) Ts.nil (Ev.loc rfl rfl) (Ev.call (g_list h rfl) (ms := [_]) (mk := []) ⟨(Ev.sub (Ev.cel rfl rfl) (Ev.loc rfl rfl) Op2.idx rfl), trivial⟩ trivial Kep.typ (Ca.one Op1.listF)) (by first | rfl | kernel_rfl)) (Or.inl rfl) (sw_of fun env => by kernel_rfl))
      (Exs.cons (Ex.ite (Cd.or (ms := [_, _, _]) ⟨(Cd.cmp (Ev.call (g_law_popped h rfl) (ms := [_]) (mk := []) ⟨(Ev.cel rfl rfl), trivial⟩ trivial (i4_215 h) ((f_popped h).up (by omega)).ca) (Ev.cel rfl rfl) (Op2.ne (by omega))), (Cd.cmp (Ev.call (g_law_above h rfl) (ms := [_]) (mk := []) ⟨(Ev.loc rfl rfl), trivial⟩ trivial (i4_225 h) ((f_above h).up (by omega)).ca) (Ev.call (g_law_falls h rfl) (ms := [_]) (mk := []) ⟨(Ev.cel rfl rfl), trivial⟩ trivial (i4_220 h) ((f_falls h).up (by omega)).ca) (Op2.ne (by omega))), (Cd.cmp (Ev.call (g_law_columns h rfl) (ms := [_, _]) (mk := []) ⟨(Ev.loc rfl rfl), (Ev.bin (Ev.cel rfl rfl) Ev.kInt Op2.fdiv), trivial⟩ trivial (i4_210 h) ((f_columns h).up (by omega)).ca) (Ev.loc rfl rfl) (Op2.neD (by omega))), trivial⟩)
      (Exs.cons (Ex.ret Ev.kBool)
      Exs.nil)
      Exs.nil)
      hk))))), ?_⟩
  rintro fr σ ⟨rfl, w, o, b, A⟩
  have W := A.wo
  have ha := W.asc
  have hP := W.lp
  have hw20 : w.length ≤ 20 := by rw [W.len]; decide
  have hPl : (pairsN w).length ≤ 900 := by rw [pairsN_len]; omega
  refine fn_step (fr' := upd fr "pairs" (.lst ((prG (bitD b) (pairsN w)).map pD))) (σ' := []) (by simp only [Mf.bind, Mf.lift, Mf.set, Mf.pure, Mo.bind, Mo.calF, Mo.args, seq_nil, seq_cons, seqK_nil, Mo.pure, Mo.var, Option.map_some, A.word, A.bits, sPairs_run ha hw20]) ?_
  refine fn_step (fr' := upd (upd fr "pairs" (.lst ((prG (bitD b) (pairsN w)).map pD))) "table" (.ref 1)) (σ' := tbl [] (prG (bitD b) (pairsN w))) (by
    have := sTable_prG (σ := []) (f := bitD b) hP hPl
    simp only [Mf.bind, Mf.lift, Mf.set, Mf.pure, Mo.bind, Mo.calF, Mo.args, seq_nil, seq_cons, seqK_nil, Mo.pure, Mo.var, upd_same, Option.map_some, List.length_nil, Nat.reduceAdd, this]) ?_
  have h1 : hdr (tbl [] (prG (bitD b) (pairsN w))) 1 = some (0, prG (bitD b) (pairsN w)) := tbl_hdr (σ := []) (by rw [prG_len]; omega) (prG_ok hP)
  generalize tbl [] (prG (bitD b) (pairsN w)) = τ at h1
  have hc := sColumns_prG (b := b) h1 hP
  refine fn_step (fr' := upd (upd (upd fr "pairs" (.lst ((prG (bitD b) (pairsN w)).map pD))) "table" (.ref 1)) "columns" (.dct (dcT τ.length))) (σ' := τ ++ enc4 (colN (pairsN w))) (by
    simp only [Mf.bind, Mf.lift, Mf.set, Mf.pure, Mo.bind, Mo.calF, Mo.args, seq_nil, seq_cons, seqK_nil, Mo.pure, Mo.var, upd_same, upd_diff, Option.map_some, String.reduceBEq, A.bits, hc]) ?_
  refine fn_step (fr' := upd (upd (upd (upd fr "pairs" (.lst ((prG (bitD b) (pairsN w)).map pD))) "table" (.ref 1)) "columns" (.dct (dcT τ.length))) "told" (tdD (colN (pairsN w)))) (σ' := τ ++ enc4 (colN (pairsN w))) (by
    rw [lcRun_pure (σ1 := τ ++ enc4 (colN (pairsN w))) (d := .str "abcd") (x := ⟨lets.map chD, fun _ => True⟩) (fun fr => fr "columns" = some (.dct (dcT τ.length))) (fun _ => true) (fun d => match d with
      | .str x => (x, D.lst ((colN (pairsN w) (x.cps.toList.headD 0)).map chD))
      | _ => ("", .none)) (by simp only [Mo.pure]) (by unfold srcD; simp only [chars_abcd]; rfl) trivial (by
        unfold frIn
        rw [if_pos (by kernel_rfl)]
        simp only [upd_same]) (fun d hd fr hI => by
        (refine xEA (List.mem_map.mp hd) fun c hc q0z => ?_; subst q0z)
        (refine xEA (lets_of hc) fun i hi q0z => ?_; subst q0z)
        have hI' : upd fr "letter" (chD (97 + i)) "columns" = some (.dct (dcT τ.length)) := by simp only [upd_diff, String.reduceBEq]; exact hI
        have e1 := dcT_idx (τ ++ enc4 (colN (pairsN w))) τ.length hi
        have e2 := fList_enc (τ := τ) (C := colN (pairsN w)) hi
        refine ⟨rfl, hI', rfl, fun _ => ⟨_, hI', ?_⟩⟩
        simp only [emPair, Mo.bind, Mo.calF, Mo.args, seq_nil, seq_cons, seqK_nil, Mo.pure, Mo.var, upd_same, upd_diff, one1_at, Option.map_some, ↓reduceIte, String.reduceBEq, hI, chD, isSub_dct, e1, e2, tx_cps, List.headD_cons])]
    have hv : List.map (fun d => match d with
      | .str x => (x, D.lst ((colN (pairsN w) (x.cps.toList.headD 0)).map chD))
      | _ => ("", .none)) ((lets.map chD).filter fun _ => true) = (List.range 4).map fun i => (ltr i, D.lst ((colN (pairsN w) (97 + i)).map chD)) := by
      rw [filter_true]; rfl
    have hgd : GoodD ((List.range 4).map fun i => (ltr i, D.lst ((colN (pairsN w) (97 + i)).map chD))) := ⟨by simp only [List.map_map]; show ((List.range 4).map ltr).Nodup; decide +kernel, by rw [len_map_range]; decide⟩
    dsimp only
    rw [hv, if_pos hgd]
    rfl) ?_
  obtain ⟨ht, s, hs, hsw⟩ := M1 W.let_
  have hpop := sPopped_run (τ := τ) (colN_out hP) (colN_let hP) (by rw [ht]; omega) (by rw [ht]; exact hs)
  rw [hsw] at hpop
  have h2 : hdr (τ ++ enc4 s.C) 1 = some (0, prG (bitD b) (pairsN w)) := hdr_app h1
  generalize τ ++ enc4 s.C = τ2 at hpop h2
  have hab := sAbove_run h2 hP
  rw [M2] at hab
  have hfa := sFalls_run (σ := τ2) ha
  have hc2 := sColumns_prG (b := b.fdiv 2) h2 hP
  have hne := neD_cols (τ := τ2) (colN_let hP) fun c => rfl
  refine fn_step (fr' := upd (upd (upd (upd fr "pairs" (.lst ((prG (bitD b) (pairsN w)).map pD))) "table" (.ref 1)) "columns" (.dct (dcT τ.length))) "told" (tdD (colN (pairsN w)))) (σ' := τ2 ++ enc4 (colN (pairsN w))) (by
    simp only [Mf.bind, Mf.lift, Mf.pure, Mo.op2, Mo.bind, Mo.calF, Mo.args, seq_nil, seq_cons, seqK_nil, Mo.pure, Mo.var, Mo.tru, Mo.opt, ors_nil, ors_cons, upd_same, upd_diff, Option.map_some, ↓reduceIte, Bool.false_eq_true, beq_self_eq_true, String.reduceBEq, truD_bool, decide_true, Bool.not_true, A.word, A.bits, hpop, opNe_tx _ ha ha, hab, hfa, opNe_int, hc2, fDiv_lit b 2 (by decide) (by decide), hne]) ?_
  exact hp _ _ ⟨w, o, b, { wo := W, word := by simp only [upd_diff, String.reduceBEq, A.word], order := by simp only [upd_diff, String.reduceBEq, A.order], bits := by simp only [upd_diff, String.reduceBEq, A.bits], pairs := by simp only [upd_same, upd_diff, String.reduceBEq], table := by simp only [upd_same, upd_diff, String.reduceBEq], h1 := hdr_app h2 }⟩
end
end Mine
end
section
open PySem PySem.W PyProof.Rows PySem.Calls
set_option maxRecDepth 100000
set_option maxHeartbeats 4000000
namespace Mine
section
noncomputable def gQ (w o : List Nat) : List (Nat × Nat) := (sortN w).zip o
noncomputable def gF (b : Int) (k : Nat) : Bool := (b + (k : Int)).fmod 2 == 1
structure PC (w o : List Nat) (b : Int) (fr : Fr) (σ : List AO) (j k : Nat) : Prop extends PB w o b fr σ where
  given : fr "given" = some (.lst ((prG (gF b) (gQ w o)).map pD))
  mine : fr "mine" = some (.ref j)
  second : fr "second" = some (.ref k)
  h2 : hdr σ k = some (j, prG (gF b) (gQ w o))
  hj : 2 ≤ j
theorem sortN_perm (w : List Nat) : (sortN w).Perm w := List.mergeSort_perm w _
theorem WO.nlen {w o : List Nat} (W : WO w o) : (sortN w).length = 7 := by rw [(sortN_perm w).length_eq, W.len]
theorem WO.olen {w o : List Nat} (W : WO w o) : o.length = 7 := by rw [W.perm.length_eq, W.len]
theorem WO.qlen {w o : List Nat} (W : WO w o) : (gQ w o).length = 7 := by unfold gQ; rw [List.length_zip, W.nlen, W.olen]; rfl
theorem WO.qlp {w o : List Nat} (W : WO w o) : LP (gQ w o) := fun p hp => by
  (refine xA (List.of_mem_zip (a := p.1) (b := p.2) hp) fun h1 h2 => ?_)
  exact ⟨W.let_ _ ((sortN_perm w).mem_iff.mp h1), W.let_ _ (W.perm.mem_iff.mp h2)⟩
theorem cvL_ok {ps : List (PySem.Str × PySem.Str)} (h : ∀ p ∈ ps, okP p = true) : cvL (ps.map pD) = some none := by
  have e : ∀ p ∈ ps, cvP (pD p) = some none := fun p hp => by
    (refine xAAA (okP_ok (h p hp)) fun _ _ h3 h4 => ?_)
    unfold pD cvP cv
    simp only [h3, h4, Bool.false_eq_true, if_false]
  unfold cvL
  rw [if_pos]
  · refine congrArg some (List.findSome?_eq_none_iff.mpr fun d hd => ?_)
    (refine xEA (List.mem_map.mp hd) fun p hp q0z => ?_; subst q0z)
    rw [e p hp]; rfl
  · refine List.all_eq_true.mpr fun d hd => ?_
    (refine xEA (List.mem_map.mp hd) fun p hp q0z => ?_; subst q0z)
    rw [e p hp]; rfl
theorem fSorted_run (σ : List AO) {w : List Nat} (h : w.length < 64) : fSorted (.str (tx w)) σ = some (.val (.lst ((sortN w).map chD)), σ) := by
  unfold fSorted
  dsimp only
  rw [if_pos (by show (tx w).length < 64; rw [tx_len]; exact h), tx_cps]
  rfl
theorem fIdx_chs (σ : List AO) (l : List Nat) (i : Nat) (h1 : l.length ≤ 1000) (h : i < l.length) : fIdx σ (.lst (l.map chD)) (.int (i : Int)) = some (chD (l.getD i 0)) := by
  rw [fIdx_lst _ _ _ (by omega), List.getElem?_map, List.getD_eq_getElem?_getD, List.getElem?_eq_getElem h]; rfl
theorem zip_getD {l m : List Nat} {i : Nat} (h1 : i < l.length) (h2 : i < m.length) : (l.zip m).getD i (0, 0) = (l.getD i 0, m.getD i 0) := by
  simp only [List.getD_eq_getElem?_getD]
  rw [List.getElem?_eq_getElem h1, List.getElem?_eq_getElem h2, List.getElem?_eq_getElem (by rw [List.length_zip]; omega), List.getElem_zip]; rfl
theorem hdr_new {σ : List AO} {ps : List (PySem.Str × PySem.Str)} (h3 : ps.length ≤ 1000) (h4 : ∀ p ∈ ps, okP p = true) : hdr (σ ++ [AO.lst (ps.map pD)] ++ [AO.ins 182 [("_headers", .ref σ.length)]]) (σ.length + 1) = some (σ.length, ps) :=
  hdr_of (by rw [List.append_assoc, get_at]; rfl) (by rw [List.append_assoc]; exact get_at 0) h3 fun p hp => ⟨(okP_ok (h4 p hp)).1, (okP_ok (h4 p hp)).2.1⟩
end
section
variable {G : Amb} (h : G.K = K2 G.w.params)
include h
theorem blkC (hk : Goes G 8 (lawZ G) ((lawB G).drop 14) fun fr σ => ∃ w o b j k, PC w o b fr σ j k) :
    Goes G 8 (lawZ G) ((lawB G).drop 10) fun fr σ => ∃ w o b, PB w o b fr σ := by
  obtain ⟨k, hk, hp⟩ := hk
  refine ⟨_, (Exs.cons (Ex.asgn (Ev.call (g_sorted h rfl) (ms := [_]) (mk := []) ⟨(Ev.cel rfl rfl), trivial⟩ trivial Kep.blt Ca.sorted) (As.name (Or.inr rfl)) (sw_of fun env => ⟨rfl, by kernel_rfl, by kernel_rfl⟩))
      (Exs.cons (Ex.asgnF (CompL.one (W := []) (Ev.call (g_range h rfl) (ms := [_]) (mk := []) ⟨Ev.kInt, trivial⟩ trivial Kep.typ Ca.range) (AsC.name rfl) Ts.nil (Ev.tup (ms := [_, _]) ⟨(Ev.ite (Cd.cmp (Ev.bin (Ev.bin (Ev.cel rfl rfl) (Ev.loc rfl rfl) Op2.add) Ev.kInt Op2.mod) Ev.kInt (Op2.eq (by omega))) (Ev.methS F.slot_str_upper F.type_str_upper (Ev.sub (Ev.cel rfl rfl) (Ev.loc rfl rfl) Op2.idx rfl) (ms := []) (mk := []) trivial trivial Ca.upper) (Ev.sub (Ev.cel rfl rfl) (Ev.loc rfl rfl) Op2.idx rfl)), (Ev.sub (Ev.cel rfl rfl) (Ev.loc rfl rfl) Op2.idx rfl), trivial⟩ rfl) (by first | rfl | kernel_rfl)) (Or.inl rfl) (sw_of fun env => by kernel_rfl))
      (Exs.cons (Ex.asgn (Ev.call (g_list h rfl) (ms := [_]) (mk := []) ⟨(Ev.loc rfl rfl), trivial⟩ trivial Kep.typ (Ca.one Op1.listR)) (As.name (Or.inl rfl)) (sw_of fun env => ⟨rfl, by kernel_rfl, by kernel_rfl⟩))
      (Exs.cons (Ex.asgn (Ev.call (g_Headers h rfl) (ms := [_]) (mk := []) ⟨(Ev.loc rfl rfl), trivial⟩ trivial (kep_headers h) ((f_cls h).up (by omega)).ca) (As.name (Or.inl rfl)) (sw_of fun env => ⟨rfl, by kernel_rfl, by kernel_rfl⟩))
      hk)))), ?_⟩
  rintro fr σ ⟨w, o, b, B⟩
  have W := B.wo
  have ha := W.asc
  refine fn_step (fr' := upd fr "names" (.lst ((sortN w).map chD))) (σ' := σ) (by simp only [Mf.bind, Mf.lift, Mf.set, Mf.pure, Mo.bind, Mo.calF, Mo.args, seq_nil, seq_cons, seqK_nil, Mo.pure, Mo.var, one1_at, Option.map_some, B.word, fSorted_run σ (show w.length < 64 by rw [W.len]; decide)]) ?_
  refine fn_step (fr' := upd (upd fr "names" (.lst ((sortN w).map chD))) "given" (.lst ((prG (gF b) (gQ w o)).map pD))) (σ' := σ) (by
    have hrg : srcD (.rng 0 7) σ = some ⟨(List.range 7).map fun (i : Nat) => .int (((0 + i : Nat)) : Int), fun _ => True⟩ := srcD_rng σ 0 7 (by decide) (by decide)
    rw [lcRun_pure (σ1 := σ) (d := .rng 0 7) (x := ⟨(List.range 7).map fun (i : Nat) => .int (((0 + i : Nat)) : Int), fun _ => True⟩) (fun fr => fr "names" = some (.lst ((sortN w).map chD)) ∧ fr "order" = some (.str (tx o)) ∧ fr "bits" = some (.int b)) (fun _ => true) (fun d => match d with
      | .int k => pD (if gF b k.toNat = true then Txt.upper (tx [((gQ w o).getD k.toNat (0, 0)).1]) else tx [((gQ w o).getD k.toNat (0, 0)).1], tx [((gQ w o).getD k.toNat (0, 0)).2])
      | _ => .none) (by simp only [Mo.bind, Mo.calF, Mo.args, seq_nil, seq_cons, seqK_nil, Mo.pure, fRng]) hrg trivial (by
        unfold frIn
        refine ⟨?_, ?_, ?_⟩
        · rw [if_pos (by kernel_rfl)]
          simp only [upd_same]
        · rw [if_pos (by kernel_rfl)]
          simp only [upd_diff, String.reduceBEq, B.order]
        · rw [if_pos (by kernel_rfl)]
          simp only [upd_diff, String.reduceBEq, B.bits]) (fun d hd fr hI => by
        (refine xEA (List.mem_map.mp hd) fun i hi q0z => ?_; subst q0z)
        rw [List.mem_range] at hi
        rw [Nat.zero_add i]
        have hI' : upd fr "k" (.int (i : Int)) "names" = some (.lst ((sortN w).map chD)) ∧ upd fr "k" (.int (i : Int)) "order" = some (.str (tx o)) ∧ upd fr "k" (.int (i : Int)) "bits" = some (.int b) := by simp only [upd_diff, String.reduceBEq]; exact hI
        refine ⟨rfl, hI', rfl, fun _ => ⟨_, hI', ?_⟩⟩
        simp only [nat_int]
        have e1 := fIdx_chs σ (sortN w) i (by rw [W.nlen]; decide) (by rw [W.nlen]; exact hi)
        have e2 := fIdx_strN σ o i (by rw [W.olen]; decide) (by rw [W.olen]; exact hi)
        have e3 : (gQ w o).getD i (0, 0) = ((sortN w).getD i 0, o.getD i 0) := zip_getD (by rw [W.nlen]; exact hi) (by rw [W.olen]; exact hi)
        rw [e3]
        have e4 : (sortN w).getD i 0 ∈ lets := W.let_ _ ((sortN_perm w).mem_iff.mp (getD_mem (by rw [W.nlen]; exact hi)))
        have e5 := shortS_le (short_tx (asc_one (lets_asc e4)))
        simp only [emOne, Mo.op2, Mo.bind, Mo.args, seq_nil, seq_cons, seqK_nil, Mo.pure, Mo.var, Mo.tru, Mo.opt, Mo.ite, Mo.meth, Mo.tup, Mo.guard, upd_same, upd_diff, Option.map_some, ↓reduceIte, String.reduceBEq, truD_bool, fAdd_ii, hI.1, hI.2.1, hI.2.2, isSub_lst, isSub_str, e1, e2, fAdd_int, fMod_two, opEq_int]
        unfold gF
        cases ((b + (i : Int)).fmod 2 == 1) with
        | true => simp only [Mo.bind, Mo.pure, Mo.var, Mo.chk, upd_same, upd_diff, one1_at, Option.map_some, ↓reduceIte, String.reduceBEq, List.length_cons, List.length_nil, Nat.reduceAdd, isStr_str, decide_true, sz2, isSub_lst, hI.1, hI.2.1, isSub_str, e1, e2, fUpper, e5, pD, chD]
        | false => simp only [Mo.bind, Mo.var, upd_same, upd_diff, Option.map_some, ↓reduceIte, Bool.false_eq_true, String.reduceBEq, List.length_cons, List.length_nil, Nat.reduceAdd, decide_true, sz2, isSub_lst, hI.1, hI.2.1, isSub_str, e1, e2, pD, chD])]
    have hv : List.map (fun d => match d with
      | .int k => pD (if gF b k.toNat = true then Txt.upper (tx [((gQ w o).getD k.toNat (0, 0)).1]) else tx [((gQ w o).getD k.toNat (0, 0)).1], tx [((gQ w o).getD k.toNat (0, 0)).2])
      | _ => .none) (((List.range 7).map fun (i : Nat) => D.int (((0 + i : Nat)) : Int)).filter fun _ => true) = (prG (gF b) (gQ w o)).map pD := by
      rw [filter_true, List.map_map]
      unfold prG
      rw [List.map_map, W.qlen]
      exact List.map_congr_left fun k _ => by simp only [Function.comp, Nat.zero_add, nat_int]
    have hsz : ((prG (gF b) (gQ w o)).map pD).length ≤ sizeLine := szL (by rw [List.length_map, prG_len, W.qlen]; decide)
    dsimp only
    rw [hv, if_pos hsz]) ?_
  refine fn_step (fr' := upd (upd (upd fr "names" (.lst ((sortN w).map chD))) "given" (.lst ((prG (gF b) (gQ w o)).map pD))) "mine" (.ref σ.length)) (σ' := σ ++ [AO.lst ((prG (gF b) (gQ w o)).map pD)]) (by simp only [Mf.bind, Mf.lift, Mf.set, Mf.pure, Mo.bind, Mo.calF, Mo.args, seq_nil, seq_cons, seqK_nil, Mo.pure, Mo.var, upd_same, one1_at, Option.map_some, lstOf]) ?_
  have hok := prG_ok (f := gF b) W.qlp
  have hcl := sCls_list (σ := σ ++ [AO.lst ((prG (gF b) (gQ w o)).map pD)]) get_last (cvL_ok hok)
  have hl1 : (σ ++ [AO.lst ((prG (gF b) (gQ w o)).map pD)]).length = σ.length + 1 := by simp
  rw [hl1] at hcl
  have hh := hdr_new (σ := σ) (ps := prG (gF b) (gQ w o)) (by rw [prG_len, W.qlen]; decide) hok
  have hs2 : 2 ≤ σ.length := by have := (List.getElem?_eq_some_iff.mp (hdr_ok B.h1).1).1; omega
  refine fn_step (fr' := upd (upd (upd (upd fr "names" (.lst ((sortN w).map chD))) "given" (.lst ((prG (gF b) (gQ w o)).map pD))) "mine" (.ref σ.length)) "second" (.ref (σ.length + 1))) (σ' := σ ++ [AO.lst ((prG (gF b) (gQ w o)).map pD)] ++ [AO.ins 182 [("_headers", .ref σ.length)]]) (by simp only [Mf.bind, Mf.lift, Mf.set, Mf.pure, Mo.bind, Mo.calF, Mo.args, seq_nil, seq_cons, seqK_nil, Mo.pure, Mo.var, upd_same, Option.map_some, hcl]) ?_
  exact hp _ _ ⟨w, o, b, σ.length, σ.length + 1, { wo := W, word := by simp only [upd_diff, String.reduceBEq, B.word], order := by simp only [upd_diff, String.reduceBEq, B.order], bits := by simp only [upd_diff, String.reduceBEq, B.bits], pairs := by simp only [upd_diff, String.reduceBEq, B.pairs], table := by simp only [upd_diff, String.reduceBEq, B.table], h1 := hdr_app (hdr_app B.h1), given := by simp only [upd_same, upd_diff, String.reduceBEq], mine := by simp only [upd_same, upd_diff, String.reduceBEq], second := by simp only [upd_same], h2 := hh, hj := hs2 }⟩
end
end Mine
end
section
open PySem PySem.W PyProof.Rows PySem.Calls
set_option maxRecDepth 100000
set_option maxHeartbeats 4000000
namespace Mine
section
noncomputable def lessN (w : List Nat) (c : Nat) : Nat := (w.filter fun v => decide (v < c)).length
noncomputable def dueC (w o : List Nat) (c : Nat) : List Nat := (o.drop (lessN w c)).take (lessN w (c + 1) - lessN w c)
theorem lessN_perm {w v : List Nat} (h : w.Perm v) (c : Nat) : lessN w c = lessN v c := by unfold lessN; exact (h.filter _).length_eq
theorem col_sorted : ∀ {l o : List Nat}, l.Pairwise (· ≤ ·) → l.length = o.length → ∀ c, colN (l.zip o) c = (o.drop (lessN l c)).take (lessN l (c + 1) - lessN l c)
  | [], o, _, hl, c => by
    obtain rfl := List.length_eq_zero_iff.mp hl.symm
    simp [colN]
  | x :: l, [], _, hl, c => by cases hl
  | x :: l, y :: o, hs, hl, c => by
    (refine xA (List.pairwise_cons.mp hs) fun h1 h2 => ?_)
    have ih := col_sorted h2 (by simpa using hl) c
    rw [List.zip_cons_cons, colN_cons, ih]
    have e : ∀ d, lessN (x :: l) d = (if x < d then 1 else 0) + lessN l d := fun d => by
      unfold lessN
      rw [List.filter_cons]
      by_cases q : x < d
      · rw [if_pos (by simpa using q), if_pos q, List.length_cons]; omega
      · rw [if_neg (by simpa using q), if_neg q]; omega
    have z : ∀ d, d ≤ x → lessN l d = 0 := fun d hd => by
      unfold lessN
      rw [List.filter_eq_nil_iff.mpr]
      · rfl
      · intro v hv
        have := h1 v hv
        simp
        omega
    rw [e c, e (c + 1)]
    by_cases q1 : x < c
    · rw [if_neg (by omega), if_pos q1, if_pos (by omega), List.nil_append, show 1 + lessN l c = lessN l c + 1 by omega, List.drop_succ_cons]
      congr 1
      omega
    · by_cases q2 : x = c
      · subst q2
        have e1 : (if x < x then 1 else 0 : Nat) = 0 := if_neg (by omega)
        have e2 : (if x < x + 1 then 1 else 0 : Nat) = 1 := if_pos (by omega)
        rw [if_pos rfl, e1, e2, z x (Nat.le_refl _)]
        simp only [Nat.zero_add, List.drop_zero, Nat.sub_zero]
        rw [show 1 + lessN l (x + 1) = lessN l (x + 1) + 1 by omega, List.take_succ_cons]
        rfl
      · rw [if_neg (by omega), if_neg (by omega), if_neg (by omega), z c (by omega), z (c + 1) (by omega)]
        simp
theorem sortN_sorted (w : List Nat) : (sortN w).Pairwise (· ≤ ·) := by
  have := List.pairwise_mergeSort (le := fun a b : Nat => decide (a ≤ b)) (fun a b c h1 h2 => by simp at *; omega) (fun a b => by simp; omega) w
  exact this.imp fun h => by simpa using h
theorem M5 {w o : List Nat} (W : WO w o) : ∀ c, colN (gQ w o) c = dueC w o c := fun c => by
  unfold gQ dueC
  rw [col_sorted (sortN_sorted w) (by rw [W.nlen, W.olen]) c, lessN_perm (sortN_perm w), lessN_perm (sortN_perm w)]
theorem colN_len (P : List (Nat × Nat)) (c : Nat) : (colN P c).length = (P.map (·.1)).count c := by
  induction P with
  | nil => rfl
  | cons p P ih =>
    obtain ⟨a, v⟩ := p
    rw [colN_cons, List.length_append, ih, List.map_cons, List.count_cons]
    by_cases q : c = a
    · subst q; simp; omega
    · rw [if_neg q, if_neg (by simp; exact fun e => q e.symm)]; simp
theorem cnt_col : ∀ {P : List (Nat × Nat)}, LP P → ∀ c, cnt (colN P) c = (P.map (·.2)).count c
  | [], _, c => rfl
  | (a, v) :: P, h, c => by
    have ih := cnt_col (P := P) (fun p hp => h p (.tail _ hp)) c
    rw [List.map_cons, List.count_cons, ← ih]
    unfold cnt
    simp only [colN_cons, List.count_append]
    have e1 : List.count c [v] = if v = c then 1 else 0 := by
      rw [List.count_singleton]
      by_cases q : v = c <;> simp [q]
    (refine xEA (lets_of (h (a, v) (.head _)).1) fun i hi e => ?_)
    dsimp only at e
    subst e
    match i, hi with
    | 0, _ => simp [e1]; omega
    | 1, _ => simp [e1]; omega
    | 2, _ => simp [e1]; omega
    | 3, _ => simp [e1]; omega
theorem M6 {w o : List Nat} (W : WO w o) : Bal (colN (gQ w o)) ∧ total (colN (gQ w o)) = 7 := by
  refine ⟨fun c => ?_, by rw [total_len W.qlp, W.qlen]⟩
  have h1 := cnt_col W.qlp c
  unfold cnt at h1
  rw [h1, colN_len]
  unfold gQ
  rw [List.map_fst_zip (by rw [W.nlen, W.olen]; exact Nat.le_refl _), List.map_snd_zip (by rw [W.nlen, W.olen]; exact Nat.le_refl _), (sortN_perm w).count_eq, W.perm.count_eq]
theorem lessN_mono {w : List Nat} {a c : Nat} (h : a ≤ c) : lessN w a ≤ lessN w c := by
  unfold lessN
  induction w with
  | nil => simp
  | cons x w ih =>
    rw [List.filter_cons, List.filter_cons]
    by_cases h1 : x < a
    · rw [if_pos (by simpa using h1), if_pos (by simp; omega)]
      simp only [List.length_cons]
      omega
    · rw [if_neg (by simpa using h1)]
      split
      · simp only [List.length_cons]; omega
      · exact ih
theorem lessN_le (w : List Nat) (c : Nat) : lessN w c ≤ w.length := List.length_filter_le _ _
noncomputable def lsD (w : List Nat) : D := .dct ((List.range 5).map fun i => (tx [97 + i], .int (lessN w (97 + i))))
theorem lsD_idx (σ : List AO) (w : List Nat) : ∀ {i : Nat}, i < 5 → fIdx σ (lsD w) (.str (tx [97 + i])) = some (.int (lessN w (97 + i)))
  | 0, _ => by kernel_rfl
  | 1, _ => by kernel_rfl
  | 2, _ => by kernel_rfl
  | 3, _ => by kernel_rfl
  | 4, _ => by kernel_rfl
noncomputable def let5 : List Nat := [97, 98, 99, 100, 101]
theorem src5 (σ : List AO) : srcD (.str "abcde") σ = some ⟨let5.map chD, fun _ => True⟩ := by
  have e : chars "abcde" = let5.map chD := by kernel_rfl
  unfold srcD
  simp only [e]
theorem let5_of {c : Nat} (h : c ∈ let5) : ∃ i, i < 5 ∧ c = 97 + i := by
  unfold let5 at h
  simp only [List.mem_cons, List.not_mem_nil, or_false] at h
  rcases h with rfl | rfl | rfl | rfl | rfl
  · exact ⟨0, by decide, rfl⟩
  · exact ⟨1, by decide, rfl⟩
  · exact ⟨2, by decide, rfl⟩
  · exact ⟨3, by decide, rfl⟩
  · exact ⟨4, by decide, rfl⟩
theorem sliceS_mid (cs : List Nat) (a b : Nat) (hab : a ≤ b) (h : b ≤ cs.length) : sliceS (tx cs) (some (a : Int)) (some (b : Int)) = tx ((cs.drop a).take (b - a)) := by
  rw [sliceS_nat cs (some a) (some b) a b ?_ h hab]
  simp [Builtin.Str.strSliceIndices]
  congr 1
  · omega
  · omega
theorem e_bcde : PySem.Str.ofString "bcde" = tx [98, 99, 100, 101] := by kernel_rfl
theorem abcd_at (σ : List AO) : ∀ {i : Nat}, i < 4 → fIdx σ (.str (tx lets)) (.int (i : Int)) = some (.str (tx [97 + i]))
  | 0, _ => by rw [fIdx_str _ _ _ (by decide)]; rfl
  | 1, _ => by rw [fIdx_str _ _ _ (by decide)]; rfl
  | 2, _ => by rw [fIdx_str _ _ _ (by decide)]; rfl
  | 3, _ => by rw [fIdx_str _ _ _ (by decide)]; rfl
theorem bcde_at (σ : List AO) : ∀ {i : Nat}, i < 4 → fIdx σ (.str (tx [98, 99, 100, 101])) (.int (i : Int)) = some (.str (tx [97 + (i + 1)]))
  | 0, _ => by rw [fIdx_str _ _ _ (by decide)]; rfl
  | 1, _ => by rw [fIdx_str _ _ _ (by decide)]; rfl
  | 2, _ => by rw [fIdx_str _ _ _ (by decide)]; rfl
  | 3, _ => by rw [fIdx_str _ _ _ (by decide)]; rfl
end
section
variable {G : Amb} (h : G.K = K2 G.w.params)
include h
theorem blkD (hk : Goes G 8 (lawZ G) ((lawB G).drop 19) fun fr σ => ∃ w o b j k, PC w o b fr σ j k) :
    Goes G 8 (lawZ G) ((lawB G).drop 14) fun fr σ => ∃ w o b j k, PC w o b fr σ j k := by
  obtain ⟨k, hk, hp⟩ := hk
  refine ⟨_, (Exs.cons (Ex.asgn (Ev.dcF (CompDct.one (W := ["letter"]) (Ev.kStr (by decide +kernel)) (AsC.cel rfl (by simp)) Ts.nil (Ev.cel rfl rfl) (Ev.call (g_len h rfl) (ms := [_]) (mk := []) ⟨(Ev.lcF (CompL.one (W := []) (Ev.cel rfl rfl) (AsC.name rfl) (Ts.one (Cd.cmp (Ev.loc rfl rfl) (Ev.cel rfl rfl) (Op2.lt))) (Ev.loc rfl rfl) (by first | rfl | kernel_rfl))), trivial⟩ trivial Kep.blt Ca.len) (by first | rfl | kernel_rfl))) (As.name (Or.inr rfl)) (sw_of fun env => ⟨rfl, by kernel_rfl, by kernel_rfl⟩))
      (Exs.cons (Ex.asgnD (CompDct.one (W := []) (Ev.call (g_range h rfl) (ms := [_]) (mk := []) ⟨Ev.kInt, trivial⟩ trivial Kep.typ Ca.range) (AsC.name rfl) Ts.nil (Ev.sub (Ev.kStr (by decide +kernel)) (Ev.loc rfl rfl) Op2.idx rfl) (Ev.call (g_list h rfl) (ms := [_]) (mk := []) ⟨(Ev.slcS (ml := (some _)) (mh := (some _)) (Ev.cel rfl rfl) (Ev.sub (Ev.cel rfl rfl) (Ev.sub (Ev.kStr (by decide +kernel)) (Ev.loc rfl rfl) Op2.idx rfl) Op2.idx rfl) (Ev.sub (Ev.cel rfl rfl) (Ev.sub (Ev.kStr (by decide +kernel)) (Ev.loc rfl rfl) Op2.idx rfl) Op2.idx rfl)), trivial⟩ trivial Kep.typ Ca.listSF) (by first | rfl | kernel_rfl)) (Or.inl rfl) (sw_of fun env => by kernel_rfl))
      (Exs.cons (Ex.asgn (Ev.call (g_law_popped h rfl) (ms := [_]) (mk := []) ⟨(Ev.call (g_law_columns h rfl) (ms := [_, _]) (mk := []) ⟨(Ev.loc rfl rfl), (Ev.bin (Ev.cel rfl rfl) Ev.kInt Op2.fdiv), trivial⟩ trivial (i4_210 h) ((f_columns h).up (by omega)).ca), trivial⟩ trivial (i4_215 h) ((f_popped h).up (by omega)).ca) (As.name (Or.inl rfl)) (sw_of fun env => ⟨rfl, by kernel_rfl, by kernel_rfl⟩))
      (Exs.cons (Ex.ite (Cd.or (ms := [_, _]) ⟨(Cd.cmp (Ev.call (g_law_falls h rfl) (ms := [_]) (mk := []) ⟨(Ev.loc rfl rfl), trivial⟩ trivial (i4_220 h) ((f_falls h).up (by omega)).ca) (Ev.call (g_law_above h rfl) (ms := [_]) (mk := []) ⟨(Ev.loc rfl rfl), trivial⟩ trivial (i4_225 h) ((f_above h).up (by omega)).ca) (Op2.ne (by omega))), (Cd.cmp (Ev.call (g_law_columns h rfl) (ms := [_, _]) (mk := []) ⟨(Ev.loc rfl rfl), (Ev.cel rfl rfl), trivial⟩ trivial (i4_210 h) ((f_columns h).up (by omega)).ca) (Ev.loc rfl rfl) (Op2.neD (by omega))), trivial⟩)
      (Exs.cons (Ex.ret Ev.kBool)
      Exs.nil)
      Exs.nil)
      (Exs.cons (Ex.ite (Cd.cmp (Ev.call (g_law_columns h rfl) (ms := [_, _]) (mk := []) ⟨(Ev.call (g_law_table h rfl) (ms := [_]) (mk := []) ⟨(Ev.call (g_law_pairs h rfl) (ms := [_, _]) (mk := []) ⟨(Ev.loc rfl rfl), (Ev.bin (Ev.cel rfl rfl) Ev.kInt Op2.fdiv), trivial⟩ trivial (i4_198 h) ((f_pairs h).up (by omega)).ca), trivial⟩ trivial (i4_205 h) ((f_table h).up (by omega)).ca), (Ev.bin (Ev.cel rfl rfl) Ev.kInt Op2.fdiv), trivial⟩ trivial (i4_210 h) ((f_columns h).up (by omega)).ca) (Ev.loc rfl rfl) (Op2.neD (by omega)))
      (Exs.cons (Ex.ret Ev.kBool)
      Exs.nil)
      Exs.nil)
      hk))))), ?_⟩
  rintro fr σ ⟨w, o, b, j, k2, B⟩
  have W := B.wo
  have ha := W.asc
  refine fn_step (fr' := upd fr "less" (lsD w)) (σ' := σ) (by
    simp only [Mf.bind, Mf.lift, Mf.set, Mf.pure, Mo.op2, Mo.calF, Mo.args, seq_nil, seq_cons, seqK_nil, Mo.tru]
    rw [lcRun_pure (σ1 := σ) (d := .str "abcde") (x := ⟨let5.map chD, fun _ => True⟩) (fun fr => fr "word" = some (.str (tx w))) (fun _ => true) (fun d => match d with
      | .str x => (x, D.int (lessN w (x.cps.toList.headD 0)))
      | _ => ("", .none)) (by simp only [Mo.pure]) (src5 σ) trivial (by
        unfold frIn
        rw [if_pos (by kernel_rfl)]
        simp only [B.word]) (fun d hd fr hI => by
        (refine xEA (List.mem_map.mp hd) fun c hc q0z => ?_; subst q0z)
        (refine xEA (let5_of hc) fun i hi q0z => ?_; subst q0z)
        have hI' : upd fr "letter" (chD (97 + i)) "word" = some (.str (tx w)) := by simp only [upd_diff, String.reduceBEq]; exact hI
        refine ⟨rfl, hI', rfl, fun _ => ⟨_, hI', ?_⟩⟩
        simp only [emPair, Mo.bind, Mo.pure, Mo.var, upd_same, Option.map_some, one1_at, chD]
        rw [lcRun_pure (σ1 := σ) (d := .str (tx w)) (x := ⟨w.map chD, fun _ => True⟩) (fun fr => fr "letter" = some (.str (tx [97 + i]))) (fun d => match d with
          | .str x => decide (x.cps.toList.headD 0 < 97 + i)
          | _ => false) (fun d => d) (by simp only [Mo.var, upd_diff, Option.map_some, String.reduceBEq, hI]) (by unfold srcD; simp only [chars_tx]; rfl) trivial (by
            unfold frIn
            rw [if_pos (by kernel_rfl)]
            simp only [upd_same]) (fun d hd fr hI2 => by
            (refine xEA (List.mem_map.mp hd) fun c hc q0z => ?_; subst q0z)
            have hI2' : upd fr "one" (chD c) "letter" = some (.str (tx [97 + i])) := by simp only [upd_diff, String.reduceBEq]; exact hI2
            refine ⟨rfl, hI2', ?_, fun _ => ⟨_, hI2', ?_⟩⟩
            · simp only [Mo.bind, Mo.var, Mo.opt, upd_same, upd_diff, Option.map_some, String.reduceBEq, truD_bool, hI2, chD, fLt_one, tx_cps, List.headD_cons]
            · simp only [emOne, Mo.var, upd_same, Option.map_some])]
        have e1 : ((w.map chD).filter fun d => match d with
          | .str x => decide (x.cps.toList.headD 0 < 97 + i)
          | _ => false).length = lessN w (97 + i) := by
          rw [List.filter_map, List.length_map]; rfl
        have e2 : ((w.map chD).filter fun d => match d with
          | .str x => decide (x.cps.toList.headD 0 < 97 + i)
          | _ => false).length ≤ sizeLine := szL (by rw [e1]; have := lessN_le w (97 + i); rw [W.len] at this; omega)
        simp only [List.map_id', if_pos e2]
        simp only [one1_at, fLen_lst, e1, chD, tx_cps, List.headD_cons])]
    have hv : List.map (fun d => match d with
      | .str x => (x, D.int (lessN w (x.cps.toList.headD 0)))
      | _ => ("", .none)) ((let5.map chD).filter fun _ => true) = (List.range 5).map fun i => (tx [97 + i], D.int (lessN w (97 + i))) := by
      rw [filter_true]; rfl
    have hgd : GoodD ((List.range 5).map fun i => (tx [97 + i], D.int (lessN w (97 + i)))) := ⟨by simp only [List.map_map]; show ((List.range 5).map fun i => tx [97 + i]).Nodup; decide +kernel, by rw [len_map_range]; decide⟩
    dsimp only
    rw [hv, if_pos hgd]
    rfl) ?_
  have hdue : ((List.range 4).map fun i => (ltr i, D.lst ((dueC w o (97 + i)).map chD))) = (List.range 4).map fun i => (ltr i, D.lst ((colN (gQ w o) (97 + i)).map chD)) := List.map_congr_left fun i _ => by rw [M5 W]
  refine fn_step (fr' := upd (upd fr "less" (lsD w)) "due" (tdD (colN (gQ w o)))) (σ' := σ) (by
    have hrg : srcD (.rng 0 4) σ = some ⟨(List.range 4).map fun (i : Nat) => .int (((0 + i : Nat)) : Int), fun _ => True⟩ := srcD_rng σ 0 4 (by decide) (by decide)
    rw [lcRun_pure (σ1 := σ) (d := .rng 0 4) (x := ⟨(List.range 4).map fun (i : Nat) => .int (((0 + i : Nat)) : Int), fun _ => True⟩) (fun fr => fr "order" = some (.str (tx o)) ∧ fr "less" = some (lsD w)) (fun _ => true) (fun d => match d with
      | .int k => (ltr k.toNat, D.lst ((dueC w o (97 + k.toNat)).map chD))
      | _ => ("", .none)) (by simp only [Mo.bind, Mo.calF, Mo.args, seq_nil, seq_cons, seqK_nil, Mo.pure, fRng]) hrg trivial (by
        unfold frIn
        refine ⟨?_, ?_⟩
        · rw [if_pos (by kernel_rfl)]
          simp only [upd_diff, String.reduceBEq, B.order]
        · rw [if_pos (by kernel_rfl)]
          simp only [upd_same]) (fun d hd fr hI => by
        (refine xEA (List.mem_map.mp hd) fun i hi q0z => ?_; subst q0z)
        rw [List.mem_range] at hi
        rw [Nat.zero_add i]
        have hI' : upd fr "k" (.int (i : Int)) "order" = some (.str (tx o)) ∧ upd fr "k" (.int (i : Int)) "less" = some (lsD w) := by simp only [upd_diff, String.reduceBEq]; exact hI
        refine ⟨rfl, hI', rfl, fun _ => ⟨_, hI', ?_⟩⟩
        simp only [nat_int]
        have e1 := abcd_at σ hi
        have e2 := bcde_at σ hi
        have e3 := lsD_idx σ w (show i < 5 by omega)
        have e4 := lsD_idx σ w (show i + 1 < 5 by omega)
        have e5 : isSub (lsD w) σ = true := rfl
        have hm := lessN_mono (w := w) (show 97 + i ≤ 97 + (i + 1) by omega)
        have hle := lessN_le w (97 + (i + 1))
        rw [W.len] at hle
        have e6 := sliceS_mid o (lessN w (97 + i)) (lessN w (97 + (i + 1))) hm (by rw [W.olen]; exact hle)
        have e8 : (tx ((o.drop (lessN w (97 + i))).take (lessN w (97 + (i + 1)) - lessN w (97 + i)))).length ≤ sizeLine := szL (by rw [tx_len, List.length_take]; omega)
        have e9 : chars (tx ((o.drop (lessN w (97 + i))).take (lessN w (97 + (i + 1)) - lessN w (97 + i)))) = (dueC w o (97 + i)).map chD := by rw [chars_tx]; rfl
        simp only [emPair, Mo.bind, Mo.calF, Mo.args, seq_nil, seq_cons, seqK_nil, Mo.pure, Mo.var, upd_same, upd_diff, one1_at, Option.map_some, ↓reduceIte, String.reduceBEq, hI.1, hI.2, e_abcd, e_bcde, isSub_str, e1, e2, e3, e4, e5, Mo.part, e6, if_pos e8, one1_at, fListSF, e9, ltr_tx])]
    have hv : List.map (fun d => match d with
      | .int k => (ltr k.toNat, D.lst ((dueC w o (97 + k.toNat)).map chD))
      | _ => ("", .none)) (((List.range 4).map fun (i : Nat) => D.int (((0 + i : Nat)) : Int)).filter fun _ => true) = (List.range 4).map fun i => (ltr i, D.lst ((colN (gQ w o) (97 + i)).map chD)) := by
      rw [filter_true, List.map_map, ← hdue]
      exact List.map_congr_left fun k _ => by simp only [Function.comp, Nat.zero_add, nat_int]
    have hgd : GoodD ((List.range 4).map fun i => (ltr i, D.lst ((colN (gQ w o) (97 + i)).map chD))) := ⟨by simp only [List.map_map]; show ((List.range 4).map ltr).Nodup; decide +kernel, by rw [len_map_range]; decide⟩
    dsimp only
    rw [hv, if_pos hgd]
    rfl) ?_
  have hQ := W.qlp
  (refine xA (M6 W) fun hbal htot => ?_)
  obtain ⟨s, hs, hsl, hlt, hcol⟩ := M3 hbal (colN_out hQ)
  have hc1 := sColumns_prG (b := b.fdiv 4) B.h2 hQ
  have hpop := sPopped_run (τ := σ) (colN_out hQ) (colN_let hQ) (by rw [htot]; decide) hs
  have k1 := fDiv_lit b 4 (by decide) (by decide)
  have H1 : hdr (σ ++ enc4 s.C) 1 = _ := hdr_app B.h1
  have H2 : hdr (σ ++ enc4 s.C) k2 = _ := hdr_app B.h2
  refine fn_step (fr' := upd (upd (upd fr "less" (lsD w)) "due" (tdD (colN (gQ w o)))) "back" (.str (tx s.word))) (σ' := σ ++ enc4 s.C) (by
    simp only [Mf.bind, Mf.lift, Mf.set, Mf.pure, Mo.op2, Mo.bind, Mo.calF, Mo.args, seq_nil, seq_cons, seqK_nil, Mo.pure, Mo.var, upd_diff, Option.map_some, String.reduceBEq, B.second, B.bits, k1, hc1, hpop]) ?_
  generalize σ ++ enc4 s.C = σ2 at H1 H2
  generalize s.word = v at hsl hlt hcol
  rw [htot] at hsl
  have va : asc v := ⟨by rw [hsl]; decide, fun c hc => lets_asc (hlt c hc)⟩
  have hV : LP (pairsN v) := M0 hlt
  have hfa := sFalls_run (σ := σ2) va
  have hab := sAbove_run H2 hQ
  have heq : abN (gQ w o) = fallsN v := by rw [← M2 v]; exact (M4 hV hQ hcol).symm
  rw [heq] at hab
  have hc2 := sColumns_prG (b := b) H2 hQ
  have hn2 := neD_cols (τ := σ2) (colN_let hQ) fun c => rfl
  refine fn_step (fr' := upd (upd (upd fr "less" (lsD w)) "due" (tdD (colN (gQ w o)))) "back" (.str (tx v))) (σ' := σ2 ++ enc4 (colN (gQ w o))) (by
    simp only [Mf.bind, Mf.lift, Mf.pure, Mo.op2, Mo.bind, Mo.calF, Mo.args, seq_nil, seq_cons, seqK_nil, Mo.pure, Mo.var, Mo.tru, Mo.opt, ors_nil, ors_cons, upd_same, upd_diff, Option.map_some, ↓reduceIte, Bool.false_eq_true, beq_self_eq_true, String.reduceBEq, truD_bool, Bool.not_true, B.second, B.bits, hfa, hab, opNe_int, hc2, hn2]) ?_
  have H3 : hdr (σ2 ++ enc4 (colN (gQ w o))) 1 = _ := hdr_app H1
  have H4 : hdr (σ2 ++ enc4 (colN (gQ w o))) k2 = _ := hdr_app H2
  generalize σ2 ++ enc4 (colN (gQ w o)) = σ3 at H3 H4
  have hp1 := sPairs_run (b := b.fdiv 8) (σ := σ3) va (by rw [hsl]; decide)
  have hpl : (pairsN v).length ≤ 900 := by rw [pairsN_len, hsl]; decide
  have ht1 := sTable_prG (σ := σ3) (f := bitD (b.fdiv 8)) hV hpl
  have hh3 : hdr (tbl σ3 (prG (bitD (b.fdiv 8)) (pairsN v))) (σ3.length + 1) = _ := tbl_hdr (by rw [prG_len]; omega) (prG_ok hV)
  have hc3 := sColumns_prG (b := b.fdiv 16) hh3 hV
  have hn3 := neD_cols (τ := tbl σ3 (prG (bitD (b.fdiv 8)) (pairsN v))) (colN_let hV) hcol
  refine fn_step (fr' := upd (upd (upd fr "less" (lsD w)) "due" (tdD (colN (gQ w o)))) "back" (.str (tx v))) (σ' := tbl σ3 (prG (bitD (b.fdiv 8)) (pairsN v)) ++ enc4 (colN (pairsN v))) (by
    simp only [Mf.bind, Mf.lift, Mf.pure, Mo.op2, Mo.bind, Mo.calF, Mo.args, seq_nil, seq_cons, seqK_nil, Mo.pure, Mo.var, Mo.tru, Mo.opt, upd_same, upd_diff, Option.map_some, ↓reduceIte, Bool.false_eq_true, String.reduceBEq, truD_bool, B.bits, fDiv_lit b 8 (by decide) (by decide), fDiv_lit b 16 (by decide) (by decide), hp1, ht1, hc3, hn3]) ?_
  exact hp _ _ ⟨w, o, b, j, k2, { wo := W, word := by simp only [upd_diff, String.reduceBEq, B.word], order := by simp only [upd_diff, String.reduceBEq, B.order], bits := by simp only [upd_diff, String.reduceBEq, B.bits], pairs := by simp only [upd_diff, String.reduceBEq, B.pairs], table := by simp only [upd_diff, String.reduceBEq, B.table], h1 := hdr_app (hdr_app H3), given := by simp only [upd_diff, String.reduceBEq, B.given], mine := by simp only [upd_diff, String.reduceBEq, B.mine], second := by simp only [upd_diff, String.reduceBEq, B.second], h2 := hdr_app (hdr_app H4), hj := B.hj }⟩
end
end Mine
end
section
open PySem PySem.W PyProof.Rows PySem.Calls
set_option maxRecDepth 100000
set_option maxHeartbeats 4000000
namespace Mine
section
structure PE (w o : List Nat) (b : Int) (fr : Fr) (σ : List AO) (j k : Nat) (sg : Nat) : Prop extends PC w o b fr σ j k where
  sign : fr "sign" = some (.str (tx [sg]))
  wrong : fr "wrong" = some (.str msgVE)
  sg1 : ctlN sg = true
  sg2 : ctlV sg = !decide (sg = 9)
  sg3 : sg < 128
theorem PC.app {w o : List Nat} {b : Int} {fr : Fr} {σ : List AO} {j k : Nat} (A : PC w o b fr σ j k) (τ : List AO) : PC w o b fr (σ ++ τ) j k := { toPB := { toPA := A.toPA, pairs := A.pairs, table := A.table, h1 := hdr_app A.h1 }, given := A.given, mine := A.mine, second := A.second, h2 := hdr_app A.h2, hj := A.hj }
theorem PE.app {w o : List Nat} {b : Int} {fr : Fr} {σ : List AO} {j k sg : Nat} (A : PE w o b fr σ j k sg) (τ : List AO) : PE w o b fr (σ ++ τ) j k sg := { toPC := A.toPC.app τ, sign := A.sign, wrong := A.wrong, sg1 := A.sg1, sg2 := A.sg2, sg3 := A.sg3 }
theorem PE.one {w o : List Nat} {b : Int} {fr : Fr} {σ : List AO} {j k sg : Nat} (A : PE w o b fr σ j k sg) (d : D) : PE w o b (upd fr "one" d) σ j k sg := { wo := A.wo, word := by simp only [upd_diff, String.reduceBEq, A.word], order := by simp only [upd_diff, String.reduceBEq, A.order], bits := by simp only [upd_diff, String.reduceBEq, A.bits], pairs := by simp only [upd_diff, String.reduceBEq, A.pairs], table := by simp only [upd_diff, String.reduceBEq, A.table], h1 := A.h1, given := by simp only [upd_diff, String.reduceBEq, A.given], mine := by simp only [upd_diff, String.reduceBEq, A.mine], second := by simp only [upd_diff, String.reduceBEq, A.second], h2 := A.h2, hj := A.hj, sign := by simp only [upd_diff, String.reduceBEq, A.sign], wrong := by simp only [upd_diff, String.reduceBEq, A.wrong], sg1 := A.sg1, sg2 := A.sg2, sg3 := A.sg3 }
theorem sign_facts : ∀ n, n < 33 → (if n = 32 then (127 : Nat) else n) < 128 ∧ ctlN (if n = 32 then 127 else n) = true ∧ ctlV (if n = 32 then 127 else n) = !decide ((if n = 32 then (127 : Nat) else n) = 9) := by decide +kernel
theorem e_7f : PySem.Str.ofString "\x7f" = tx [127] := by kernel_rfl
theorem e_a : PySem.Str.ofString "a" = tx [97] := by kernel_rfl
theorem e_wrong : PySem.Str.ofString "ValueError: Control characters not allowed in headers" = msgVE := rfl
theorem e_number : PySem.Str.ofString "AssertionError: Header names/values must be of type str (got 5)" = msgAE := rfl
theorem msgVE_short : shortS msgVE = true := by decide +kernel
theorem msgAE_short : shortS msgAE = true := by decide +kernel
theorem fChr_nat (σ : List AO) {n : Nat} (h : n < 33) : fChr (.int (n : Int)) σ = some (.val (.str (tx [n])), σ) := by
  unfold fChr
  dsimp only
  rw [if_pos (by omega), nat_int]
  rfl
theorem lets_ctl : ∀ c ∈ lets, ctlN c = false ∧ ctlV c = false := by decide +kernel
theorem any_ws {w : List Nat} {sg : Nat} (hw : ∀ c ∈ w, c ∈ lets) : (tx (w ++ [sg])).cps.toList.any ctlN = ctlN sg ∧ (tx (w ++ [sg])).cps.toList.any ctlV = ctlV sg := by
  rw [tx_cps]
  have h1 : w.any ctlN = false := by rw [List.any_eq_false]; exact fun c hc => by rw [(lets_ctl c (hw c hc)).1]; decide
  have h2 : w.any ctlV = false := by rw [List.any_eq_false]; exact fun c hc => by rw [(lets_ctl c (hw c hc)).2]; decide
  rw [List.any_append, List.any_append, h1, h2]
  simp
theorem a_facts : shortS (tx [97]) = true ∧ (tx [97]).cps.toList.any ctlN = false ∧ (tx [97]).cps.toList.any ctlV = false := by decide +kernel
theorem rf_name {σ : List AO} {k j : Nat} {ps : List (PySem.Str × PySem.Str)} {x : PySem.Str} (hh : hdr σ k = some (j, ps)) (hs : shortS x = true) (hx : x.cps.toList.any ctlN = true) :
    sRefused [.ref k, .str x, .str (tx [97])] [] σ = some (.val (.str msgVE), σ ++ [.lst [.str (tx [97])]]) := by
  (refine xAA a_facts fun a1 a2 a3 => ?_)
  unfold sRefused sAdd
  simp only [hh, Option.bind_some, addH_ss, hs, a1, and_self, if_true, a3, Bool.false_eq_true, if_false, hx]
  rfl
theorem rf_num {σ : List AO} {k j : Nat} {ps : List (PySem.Str × PySem.Str)} (hh : hdr σ k = some (j, ps)) :
    sRefused [.ref k, .int 5, .str (tx [97])] [] σ = some (.val (.str msgAE), σ ++ [.lst [.str (tx [97])]]) := by
  (refine xAA a_facts fun a1 a2 a3 => ?_)
  unfold sRefused sAdd
  simp only [hh, Option.bind_some, addH_is, a1, a3, and_self, if_true]
  rfl
theorem rf_val {σ : List AO} {k j : Nat} {ps : List (PySem.Str × PySem.Str)} (hh : hdr σ k = some (j, ps)) :
    sRefused [.ref k, .str (tx [97]), .int 5] [] σ = some (.val (.str msgAE), σ ++ [.lst []]) := by
  unfold sRefused sAdd
  simp only [hh, Option.bind_some, addH_si, if_true]
  rfl
theorem rf_new {σ : List AO} {n v : D} {o : Option (String × PySem.Str)} (ho : cvP (.tup [n, v]) = some o) :
    sRefused [.none, n, v] [] σ = (refOut (match (generalizing := false) o with
      | none => .val (.ref (σ.length + 1))
      | some e => .exc e.1 e.2, σ ++ [.lst [aPair, .tup [n, v]], .ins 182 [("_headers", .ref σ.length)]])) := by
  have hap : cvP aPair = some none := by kernel_rfl
  have hcv : cvL [aPair, .tup [n, v]] = some o := by
    unfold cvL
    simp only [List.all_cons, List.all_nil, hap, ho, Option.isSome_some, Bool.and_self, if_true, List.findSome?_cons, List.findSome?_nil, Option.getD_some]
    cases o <;> rfl
  unfold sRefused
  dsimp only
  rw [sCls_list get_last hcv, Option.bind_some]
  cases o <;> simp
theorem rn_name {σ : List AO} {x : PySem.Str} (hx : x.cps.toList.any ctlN = true) : sRefused [.none, .str x, .str (tx [97])] [] σ = some (.val (.str msgVE), σ ++ [.lst [aPair, .tup [.str x, .str (tx [97])]], .ins 182 [("_headers", .ref σ.length)]]) := by
  rw [rf_new (o := some ("ValueError", msgV)) (by unfold cvP cv; simp only [hx, if_true])]
  rfl
theorem rn_num {σ : List AO} : sRefused [.none, .int 5, .str (tx [97])] [] σ = some (.val (.str msgAE), σ ++ [.lst [aPair, .tup [.int 5, .str (tx [97])]], .ins 182 [("_headers", .ref σ.length)]]) := by
  rw [rf_new (o := some ("AssertionError", fmtY)) (by unfold cvP cv; simp only [if_true])]
  rfl
theorem rn_val {σ : List AO} : sRefused [.none, .str (tx [97]), .int 5] [] σ = some (.val (.str msgAE), σ ++ [.lst [aPair, .tup [.str (tx [97]), .int 5]], .ins 182 [("_headers", .ref σ.length)]]) := by
  (refine xAA a_facts fun a1 a2 a3 => ?_)
  rw [rf_new (o := some ("AssertionError", fmtY)) (by unfold cvP cv; simp only [a2, Bool.false_eq_true, if_false, if_true])]
  rfl
end
section
variable {G : Amb} (h : G.K = K2 G.w.params)
include h
theorem blkE (hk : Goes G 8 (lawZ G) ((lawB G).drop 22) fun fr σ => ∃ w o b j k sg, PE w o b fr σ j k sg) :
    Goes G 8 (lawZ G) ((lawB G).drop 19) fun fr σ => ∃ w o b j k, PC w o b fr σ j k := by
  obtain ⟨k, hk, hp⟩ := hk
  refine ⟨_, (Exs.cons (Ex.asgn (Ev.ite (Cd.cmp (Ev.bin (Ev.cel rfl rfl) Ev.kInt Op2.mod) Ev.kInt (Op2.eq (by omega))) (Ev.kStr (by decide +kernel)) (Ev.call (g_chr h rfl) (ms := [_]) (mk := []) ⟨(Ev.bin (Ev.cel rfl rfl) Ev.kInt Op2.mod), trivial⟩ trivial Kep.blt Ca.chr)) (As.name (Or.inr rfl)) (sw_of fun env => ⟨rfl, by kernel_rfl, by kernel_rfl⟩))
      (Exs.cons (Ex.asgn (Ev.tup (ms := [_, _]) ⟨(Ev.kStr (by decide +kernel)), (Ev.kStr (by decide +kernel)), trivial⟩ rfl) (As.tup (fs := [_, _]) ⟨(As.name (Or.inl rfl)), (As.name (Or.inl rfl)), trivial⟩ rfl) (sw_of fun env => ⟨rfl, by kernel_rfl, by kernel_rfl⟩))
      (Exs.cons (Ex.for (Itr.ev (Ev.tup (ms := [_, _]) ⟨(Ev.loc rfl rfl), Ev.kNone, trivial⟩ rfl))
      (As.name (Or.inl rfl))
      (Exs.cons (Ex.ite (Cd.cmp (Ev.lst (ms := [_, _, _]) ⟨(Ev.call (g_law_refused h rfl) (ms := [_, _, _]) (mk := []) ⟨(Ev.loc rfl rfl), (Ev.bin (Ev.cel rfl rfl) (Ev.cel rfl rfl) Op2.add), (Ev.kStr (by decide +kernel)), trivial⟩ trivial (i4_232 h) ((f_refused h).up (by omega)).ca), (Ev.call (g_law_refused h rfl) (ms := [_, _, _]) (mk := []) ⟨(Ev.loc rfl rfl), Ev.kInt, (Ev.kStr (by decide +kernel)), trivial⟩ trivial (i4_232 h) ((f_refused h).up (by omega)).ca), (Ev.call (g_law_refused h rfl) (ms := [_, _, _]) (mk := []) ⟨(Ev.loc rfl rfl), (Ev.kStr (by decide +kernel)), Ev.kInt, trivial⟩ trivial (i4_232 h) ((f_refused h).up (by omega)).ca), trivial⟩ rfl) (Ev.lst (ms := [_, _, _]) ⟨(Ev.loc rfl rfl), (Ev.loc rfl rfl), (Ev.loc rfl rfl), trivial⟩ rfl) (Op2.ne (by omega)))
        (Exs.cons (Ex.ret Ev.kBool)
        Exs.nil)
        Exs.nil)
      Exs.nil))
      hk))), ?_⟩
  rintro fr σ ⟨w, o, b, j, k2, B⟩
  have W := B.wo
  have ha := W.asc
  have m0 : 0 ≤ b.fmod 33 := Int.fmod_nonneg_of_pos _ (by decide)
  have m1 : b.fmod 33 < 33 := Int.fmod_lt_of_pos _ (by decide)
  have mm := fMod_lit b 33 (by decide)
  obtain ⟨n, hn⟩ : ∃ n : Nat, b.fmod 33 = n := ⟨(b.fmod 33).toNat, by omega⟩
  have hn33 : n < 33 := by omega
  obtain ⟨s3, s1, s2⟩ := sign_facts n hn33
  rw [hn] at mm
  generalize hsg : (if n = 32 then (127 : Nat) else n) = sg at s1 s2 s3
  have hchr := fChr_nat σ hn33
  have hd32 : ((n : Int) == 32) = decide (n = 32) := by
    by_cases e : n = 32
    · subst e; rfl
    · rw [decide_eq_false e, beq_eq_false_iff_ne]; omega
  refine fn_step (fr' := upd fr "sign" (.str (tx [sg]))) (σ' := σ) (by
    simp only [Mf.bind, Mf.lift, Mf.set, Mf.pure, Mo.op2, Mo.bind, Mo.calF, Mo.args, seq_nil, seq_cons, seqK_nil, Mo.pure, Mo.var, Mo.tru, Mo.opt, Mo.ite, Option.map_some, truD_bool, B.bits, mm, opEq_int, hd32]
    by_cases e : n = 32
    · rw [if_pos e] at hsg
      subst hsg
      simp only [e, Mo.pure, Option.map_some, ↓reduceIte, decide_true, e_7f]
    · rw [if_neg e] at hsg
      subst hsg
      simp only [e, Mo.bind, Mo.pure, Mo.var, one1_at, Option.map_some, ↓reduceIte, Bool.false_eq_true, decide_false, one1_at, B.bits, mm, hchr]) ?_
  refine fn_step (fr' := upd (upd (upd fr "sign" (.str (tx [sg]))) "wrong" (.str msgVE)) "number" (.str msgAE)) (σ' := σ) (by
    simp only [Mf.bind, Mf.lift, Mf.set, Mf.pure, Mo.bind, seq_nil, seq_cons, Mo.pure, Mo.opt, Mo.tup, Mo.guard, Option.map_some, ↓reduceIte, List.length_cons, List.length_nil, Nat.reduceAdd, decide_true, sz2, tupA_tup, goA_nil, goA_cons, e_wrong, e_number]) ?_
  have B' : PE w o b (upd (upd (upd fr "sign" (.str (tx [sg]))) "wrong" (.str msgVE)) "number" (.str msgAE)) σ j k2 sg := { wo := W, word := by simp only [upd_diff, String.reduceBEq, B.word], order := by simp only [upd_diff, String.reduceBEq, B.order], bits := by simp only [upd_diff, String.reduceBEq, B.bits], pairs := by simp only [upd_diff, String.reduceBEq, B.pairs], table := by simp only [upd_diff, String.reduceBEq, B.table], h1 := B.h1, given := by simp only [upd_diff, String.reduceBEq, B.given], mine := by simp only [upd_diff, String.reduceBEq, B.mine], second := by simp only [upd_diff, String.reduceBEq, B.second], h2 := B.h2, hj := B.hj, sign := by simp only [upd_same, upd_diff, String.reduceBEq], wrong := by simp only [upd_same, upd_diff, String.reduceBEq], sg1 := s1, sg2 := s2, sg3 := s3 }
  have hnum : upd (upd (upd fr "sign" (.str (tx [sg]))) "wrong" (.str msgVE)) "number" (.str msgAE) "number" = some (.str msgAE) := by simp only [upd_same]
  generalize upd (upd (upd fr "sign" (.str (tx [sg]))) "wrong" (.str msgVE)) "number" (.str msgAE) = fr1 at B' hnum
  clear B mm hchr hd32 hn m0 m1 s1 s2 s3 hsg
  obtain ⟨w1, w2⟩ := any_ws (sg := sg) W.let_
  rw [B'.sg1] at w1
  have wsa : asc (w ++ [sg]) := ⟨by rw [List.length_append, W.len]; simp, fun c hc => by
    rcases List.mem_append.mp hc with q | q
    · exact lets_asc (W.let_ c q)
    · rw [List.mem_singleton.mp q]; exact B'.sg3⟩
  have hadd : fAdd (.str (tx w)) (.str (tx [sg])) = some (.str (tx (w ++ [sg]))) := fAdd_tx (by rw [W.len]; simp)
  have hne : ∀ σ, opNe (.lst [.str msgVE, .str msgAE, .str msgAE]) (.lst [.str msgVE, .str msgAE, .str msgAE]) σ = some (.val (.bool false), σ) := fun σ => by
    have hsh : ∀ x ∈ [msgVE, msgAE, msgAE], shortS x = true := fun x hx => by
      simp only [List.mem_cons, List.not_mem_nil, or_false] at hx
      rcases hx with rfl | rfl | rfl
      · exact msgVE_short
      · exact msgAE_short
      · exact msgAE_short
    have := opNe_strs σ hsh hsh
    simpa using this
  refine (?_ : ∃ fr' σ', PE w o b fr' σ' j k2 sg ∧ _ = some (Out.val SF.next, fr', σ')).elim fun fr' hf => hf.elim fun σ' hf => fn_step hf.2 (hp fr' σ' ⟨w, o, b, j, k2, sg, hf.1⟩)
  simp only [Mf.seq, Mf.bind, Mf.lift, Mo.op2, Mo.bind, Mo.calF, Mo.args, seq_nil, seq_cons, seqK_nil, Mo.pure, Mo.var, Mo.tru, Mo.opt, Mo.tup, Mo.lst, Mo.guard, Option.map_some, ↓reduceIte, List.length_cons, List.length_nil, Nat.reduceAdd, decide_true, sz2, B'.table, Mo.src, srcD]
  generalize hE : Mf.each _ _ _ _ _ _ = z
  have key : ∃ fr' σ', z = some (.val .next, fr', σ') ∧ (PE w o b fr' σ' j k2 sg ∧ fr' "number" = some (.str msgAE)) := by
    refine each_thr hE (fun i fr' σ' => PE w o b fr' σ' j k2 sg ∧ fr' "number" = some (.str msgAE)) (fun _ _ _ _ => trivial) ⟨B', hnum⟩ ?_
    clear hE
    rintro i d fr σ' hd ⟨A, hnum⟩
    have hcase : d = .ref 1 ∨ d = .none := by
      have := List.mem_of_getElem? hd
      simpa using this
    obtain ⟨τ1, t1⟩ : ∃ τ, sRefused [d, .str (tx (w ++ [sg])), .str (tx [97])] [] σ' = some (.val (.str msgVE), σ' ++ τ) := by
      rcases hcase with rfl | rfl
      · exact ⟨_, rf_name A.h1 (short_tx wsa) w1⟩
      · exact ⟨_, rn_name w1⟩
    obtain ⟨τ2, t2⟩ : ∃ τ, sRefused [d, .int 5, .str (tx [97])] [] (σ' ++ τ1) = some (.val (.str msgAE), σ' ++ τ1 ++ τ) := by
      rcases hcase with rfl | rfl
      · exact ⟨_, rf_num (A.app τ1).h1⟩
      · exact ⟨_, rn_num⟩
    obtain ⟨τ3, t3⟩ : ∃ τ, sRefused [d, .str (tx [97]), .int 5] [] (σ' ++ τ1 ++ τ2) = some (.val (.str msgAE), σ' ++ τ1 ++ τ2 ++ τ) := by
      rcases hcase with rfl | rfl
      · exact ⟨_, rf_val ((A.app τ1).app τ2).h1⟩
      · exact ⟨_, rn_val⟩
    refine ⟨upd fr "one" d, σ' ++ τ1 ++ τ2 ++ τ3, ?_, ((((A.one d).app τ1).app τ2).app τ3), by simp only [upd_diff, String.reduceBEq, hnum]⟩
    simp only [turn, Mf.bind, Mf.lift, Mf.set, Mf.pure, Mo.bind, Mo.pure, Mo.var, Mo.opt, upd_same, upd_diff, Option.map_some, ↓reduceIte, Bool.false_eq_true, String.reduceBEq, List.length_cons, List.length_nil, Nat.reduceAdd, truD_bool, decide_true, sz3, A.word, A.sign, A.wrong, hnum, hadd, e_a, t1, t2, t3, hne]
  obtain ⟨fr', σ', rfl, A, _⟩ := key
  exact ⟨fr', σ', A, rfl⟩
end
end Mine
end
section
open PySem PySem.W PyProof.Rows PySem.Calls
set_option maxRecDepth 100000
set_option maxHeartbeats 4000000
namespace Mine
section
theorem e_tab : PySem.Str.ofString "\t" = tx [9] := by kernel_rfl
theorem PE.set3 {w o : List Nat} {b : Int} {fr : Fr} {σ : List AO} {j k sg : Nat} (A : PE w o b fr σ j k sg) (d : D) : PE w o b (upd fr "third" d) σ j k sg := { wo := A.wo, word := by simp only [upd_diff, String.reduceBEq, A.word], order := by simp only [upd_diff, String.reduceBEq, A.order], bits := by simp only [upd_diff, String.reduceBEq, A.bits], pairs := by simp only [upd_diff, String.reduceBEq, A.pairs], table := by simp only [upd_diff, String.reduceBEq, A.table], h1 := A.h1, given := by simp only [upd_diff, String.reduceBEq, A.given], mine := by simp only [upd_diff, String.reduceBEq, A.mine], second := by simp only [upd_diff, String.reduceBEq, A.second], h2 := A.h2, hj := A.hj, sign := by simp only [upd_diff, String.reduceBEq, A.sign], wrong := by simp only [upd_diff, String.reduceBEq, A.wrong], sg1 := A.sg1, sg2 := A.sg2, sg3 := A.sg3 }
noncomputable def tblT (n : Nat) (ps : List (PySem.Str × PySem.Str)) : List AO := AO.lst (ps.map pD) :: AO.ins 182 [("_headers", .ref n)] :: ps.map fun p => AO.lst [.str p.2]
theorem rf_late {σ : List AO} {w : List Nat} {sg : Nat} (hw : ∀ c ∈ w, c ∈ lets) (hs : shortS (tx (w ++ [sg])) = true) (h9 : ctlV sg = !decide (sg = 9)) :
    ∃ τ, sRefused [.ref (σ.length + 1), .str (tx [97]), .str (tx (w ++ [sg]))] [] (tbl σ []) = some (.val (.str (if sg = 9 then tx [] else msgVE)), σ ++ τ) ∧ hdr (σ ++ τ) (σ.length + 1) = some (σ.length, if sg = 9 then [(tx [97], tx (w ++ [sg]))] else []) := by
  (refine xA (any_ws (sg := sg) hw) fun _ w2 => ?_)
  (refine xAA a_facts fun a1 a2 a3 => ?_)
  have hh : hdr (tbl σ []) (σ.length + 1) = some (σ.length, []) := tbl_hdr (by simp) (fun p hp => by cases hp)
  by_cases h : sg = 9
  · have hok : okP (tx [97], tx (w ++ [sg])) = true := by
      unfold okP
      dsimp only
      rw [a1, hs, a2, w2, h9]
      simp [h]
    have e := sAdd_ok hh hok
    rw [tbl_add] at e
    refine ⟨tblT σ.length [(tx [97], tx (w ++ [sg]))], ?_, ?_⟩
    · unfold sRefused
      dsimp only
      dsimp only at e
      rw [e, Option.bind_some]
      rw [if_pos h]
      unfold refOut
      rw [e_empty]; rfl
    · rw [if_pos h]
      exact tbl_hdr (σ := σ) (ps := [(tx [97], tx (w ++ [sg]))]) (by simp) (fun p hp => by rw [List.mem_singleton] at hp; rw [hp]; exact hok)
  · have hv : (tx (w ++ [sg])).cps.toList.any ctlV = true := by rw [w2, h9]; simp [h]
    have e : sAdd [.ref (σ.length + 1), .str (tx [97]), .str (tx (w ++ [sg]))] [] (tbl σ []) = some (.exc "ValueError" msgV, tbl σ [] ++ [.lst []]) := by
      unfold sAdd
      simp only [hh, Option.bind_some, addH_ss, hs, a1, and_self, if_true, hv]
    refine ⟨tblT σ.length [] ++ [.lst []], ?_, ?_⟩
    · unfold sRefused
      dsimp only
      rw [e, Option.bind_some, if_neg h, ← List.append_assoc]
      rfl
    · rw [if_neg h, ← List.append_assoc]
      exact hdr_app hh
theorem rn_late {σ : List AO} {w : List Nat} {sg : Nat} (hw : ∀ c ∈ w, c ∈ lets) (h9 : ctlV sg = !decide (sg = 9)) :
    ∃ τ, sRefused [.none, .str (tx [97]), .str (tx (w ++ [sg]))] [] σ = some (.val (.str (if sg = 9 then tx [] else msgVE)), σ ++ τ) := by
  (refine xA (any_ws (sg := sg) hw) fun _ w2 => ?_)
  (refine xAA a_facts fun a1 a2 a3 => ?_)
  by_cases h : sg = 9
  · have hv : (tx (w ++ [sg])).cps.toList.any ctlV = false := by rw [w2, h9]; simp [h]
    refine ⟨[.lst [aPair, .tup [.str (tx [97]), .str (tx (w ++ [sg]))]], .ins 182 [("_headers", .ref σ.length)]], ?_⟩
    rw [rf_new (o := none) (by unfold cvP cv; simp only [a2, hv, Bool.false_eq_true, if_false]), if_pos h]
    unfold refOut
    rw [e_empty]
  · have hv : (tx (w ++ [sg])).cps.toList.any ctlV = true := by rw [w2, h9]; simp [h]
    refine ⟨[.lst [aPair, .tup [.str (tx [97]), .str (tx (w ++ [sg]))]], .ins 182 [("_headers", .ref σ.length)]], ?_⟩
    rw [rf_new (o := some ("ValueError", msgV)) (by unfold cvP cv; simp only [a2, hv, Bool.false_eq_true, if_false, if_true]), if_neg h]
    rfl
end
section
variable {G : Amb} (h : G.K = K2 G.w.params)
include h
theorem blkE2 (hk : Goes G 8 (lawZ G) ((lawB G).drop 25) fun fr σ => ∃ w o b j k sg, PE w o b fr σ j k sg) :
    Goes G 8 (lawZ G) ((lawB G).drop 22) fun fr σ => ∃ w o b j k sg, PE w o b fr σ j k sg := by
  obtain ⟨k, hk, hp⟩ := hk
  refine ⟨_, (Exs.cons (Ex.asgn (Ev.call (g_Headers h rfl) (ms := [_]) (mk := []) ⟨(Ev.lstR (ms := []) trivial rfl), trivial⟩ trivial (kep_headers h) ((f_cls h).up (by omega)).ca) (As.name (Or.inl rfl)) (sw_of fun env => ⟨rfl, by kernel_rfl, by kernel_rfl⟩))
      (Exs.cons (Ex.ite (Cd.cmp (Ev.lcF (CompL.one (W := []) (Ev.tup (ms := [_, _]) ⟨(Ev.loc rfl rfl), Ev.kNone, trivial⟩ rfl) (AsC.name rfl) Ts.nil (Ev.call (g_law_refused h rfl) (ms := [_, _, _]) (mk := []) ⟨(Ev.loc rfl rfl), (Ev.kStr (by decide +kernel)), (Ev.bin (Ev.cel rfl rfl) (Ev.cel rfl rfl) Op2.add), trivial⟩ trivial (i4_232 h) ((f_refused h).up (by omega)).ca) (by first | rfl | kernel_rfl))) (Ev.bin (Ev.lst (ms := [_]) ⟨(Ev.ite (Cd.cmp (Ev.cel rfl rfl) (Ev.kStr (by decide +kernel)) (Op2.eq (by omega))) (Ev.kStr (by decide +kernel)) (Ev.loc rfl rfl)), trivial⟩ rfl) Ev.kInt Op2.mulL) (Op2.ne (by omega)))
      (Exs.cons (Ex.ret Ev.kBool)
      Exs.nil)
      Exs.nil)
      (Exs.cons (Ex.ite (Cd.cmp (Ev.methI (i1_139 h) (i2_139 h) (i3_139 h) (i4_139 h) (Ev.loc rfl rfl) (ms := []) (mk := []) trivial trivial ((f_values h).up (by omega)).ca) (Ev.ite (Cd.cmp (Ev.cel rfl rfl) (Ev.kStr (by decide +kernel)) (Op2.eq (by omega))) (Ev.lst (ms := [_]) ⟨(Ev.bin (Ev.cel rfl rfl) (Ev.cel rfl rfl) Op2.add), trivial⟩ rfl) (Ev.lstR (ms := []) trivial rfl)) (Op2.ne (by omega)))
      (Exs.cons (Ex.ret Ev.kBool)
      Exs.nil)
      Exs.nil)
      hk))), ?_⟩
  rintro fr σ ⟨w, o, b, j, k2, sg, B⟩
  have W := B.wo
  have ha := W.asc
  have wsa : asc (w ++ [sg]) := ⟨by rw [List.length_append, W.len]; simp, fun c hc => by
    rcases List.mem_append.mp hc with q | q
    · exact lets_asc (W.let_ c q)
    · rw [List.mem_singleton.mp q]; exact B.sg3⟩
  have hadd : fAdd (.str (tx w)) (.str (tx [sg])) = some (.str (tx (w ++ [sg]))) := fAdd_tx (by rw [W.len]; simp)
  have hcl : sCls [.ref σ.length] [] (σ ++ [.lst []]) = some (.val (.ref (σ.length + 1)), tbl σ []) := by
    rw [sCls_list (o := none) get_last (by rfl)]
    simp [tbl]
  refine fn_step (fr' := upd fr "third" (.ref (σ.length + 1))) (σ' := tbl σ []) (by simp only [Mf.bind, Mf.lift, Mf.set, Mf.pure, Mo.bind, Mo.calF, Mo.args, seq_nil, seq_cons, seqK_nil, Mo.pure, Mo.opt, Mo.lstR, Mo.guard, Option.map_some, ↓reduceIte, List.length_nil, decide_true, sz0, hcl]) ?_
  have B1 := B.set3 (.ref (σ.length + 1))
  have f3 : upd fr "third" (.ref (σ.length + 1)) "third" = some (.ref (σ.length + 1)) := by simp only [upd_same]
  generalize upd fr "third" (.ref (σ.length + 1)) = fr1 at B1 f3
  (refine xEA (rf_late (σ := σ) W.let_ (short_tx wsa) B.sg2) fun τ1 t1 th => ?_)
  (refine xE (rn_late (σ := σ ++ τ1) W.let_ B.sg2) fun τ2 t2 => ?_)
  have hx : shortS (if sg = 9 then tx [] else msgVE) = true := by split; exact short_tx asc_nil; exact msgVE_short
  have heq : ∀ σ, opEq (.str (tx [sg])) (.str (tx [9])) σ = some (.val (.bool (decide (sg = 9))), σ) := fun σ => by
    rw [opEq_str _ (short_tx (asc_one B.sg3)) (short_tx (asc_one (by decide))), tx_beq]
    congr 3; simp
  have hmul : ∀ (x : PySem.Str) (σ : List AO), fMulL (.lst [.str x]) (.int 2) σ = some (.val (.lst [.str x, .str x]), σ) := fun x σ => by kernel_rfl
  have hne : ∀ σ, opNe (.lst [.str (if sg = 9 then tx [] else msgVE), .str (if sg = 9 then tx [] else msgVE)]) (.lst [.str (if sg = 9 then tx [] else msgVE), .str (if sg = 9 then tx [] else msgVE)]) σ = some (.val (.bool false), σ) := fun σ => by
    have hsh : ∀ x ∈ [if sg = 9 then tx [] else msgVE, if sg = 9 then tx [] else msgVE], shortS x = true := fun x hx' => by
      simp only [List.mem_cons, List.not_mem_nil, or_false, or_self] at hx'
      rw [hx']; exact hx
    have := opNe_strs σ hsh hsh
    simpa using this
  generalize hx0 : (if sg = 9 then tx [] else msgVE) = x0 at hx hne t1 t2
  refine fn_step (fr' := fr1) (σ' := σ ++ τ1 ++ τ2) (by
    simp only [Mf.seq, Mf.bind, Mf.lift, Mo.op2, Mo.bind, Mo.calF, Mo.args, seq_nil, seq_cons, seqK_nil, Mo.pure, Mo.var, Mo.tru, Mo.opt, Mo.ite, Mo.tup, Mo.lst, Mo.guard]
    rw [lcRun_of (σ1 := tbl σ []) (d := .tup [.ref (σ.length + 1), .none]) (x := ⟨[.ref (σ.length + 1), .none], fun _ => True⟩) (zs := [D.str x0, D.str x0]) (σ2 := σ ++ τ1 ++ τ2) (by simp only [Mo.bind, Mo.pure, Mo.var, Mo.opt, Option.map_some, ↓reduceIte, List.length_cons, List.length_nil, Nat.reduceAdd, decide_true, sz2, f3]) rfl (by
      refine lcEach_thr (fun i fr σ' => fr "word" = some (.str (tx w)) ∧ fr "sign" = some (.str (tx [sg])) ∧ (i = 0 → σ' = tbl σ []) ∧ (i = 1 → σ' = σ ++ τ1) ∧ (i = 2 → σ' = σ ++ τ1 ++ τ2)) (fun _ => D.str x0) (fun i d fr σ' hd hJ => ?_) (fun _ _ _ => trivial) ⟨?_, ?_, fun _ => rfl, fun e => (by cases e), fun e => (by cases e)⟩ (fun fr' σ' hJ => hJ.2.2.2.2 rfl) rfl
      · obtain ⟨g1, g2, g3, g4, g5⟩ := hJ
        have hi : i < 2 := (List.getElem?_eq_some_iff.mp hd).1
        match i, hi with
        | 0, _ =>
          obtain rfl : D.ref (σ.length + 1) = d := by simpa using hd
          obtain rfl := g3 rfl
          refine ⟨trivial, rfl, rfl, upd fr "one" (.ref (σ.length + 1)), σ ++ τ1, ?_, by simp only [upd_diff, String.reduceBEq, g1], by simp only [upd_diff, String.reduceBEq, g2], fun e => (by cases e), fun _ => rfl, fun e => (by cases e)⟩
          simp only [emOne, Mo.bind, Mo.pure, Mo.var, upd_same, upd_diff, Option.map_some, String.reduceBEq, g1, g2, hadd, e_a, t1]
        | 1, _ =>
          obtain rfl : D.none = d := by simpa using hd
          obtain rfl := g4 rfl
          refine ⟨trivial, rfl, rfl, upd fr "one" .none, σ ++ τ1 ++ τ2, ?_, by simp only [upd_diff, String.reduceBEq, g1], by simp only [upd_diff, String.reduceBEq, g2], fun e => (by cases e), fun e => (by cases e), fun _ => rfl⟩
          simp only [emOne, Mo.bind, Mo.pure, Mo.var, upd_same, upd_diff, Option.map_some, String.reduceBEq, g1, g2, hadd, e_a, t2]
      · unfold frIn
        rw [if_pos (by kernel_rfl)]
        exact B1.word
      · unfold frIn
        rw [if_pos (by kernel_rfl)]
        exact B1.sign)]
    by_cases e9 : sg = 9
    · rw [if_pos e9] at hx0
      subst hx0
      simp only [Mf.pure, Mo.pure, Option.map_some, ↓reduceIte, Bool.false_eq_true, List.length_cons, List.length_nil, Nat.reduceAdd, truD_bool, decide_true, sz1, sz2, B1.sign, e_tab, heq, show decide (sg = 9) = true from decide_eq_true e9, e_empty, hmul, hne]
    · rw [if_neg e9] at hx0
      subst hx0
      simp only [Mf.pure, Mo.var, Option.map_some, ↓reduceIte, Bool.false_eq_true, List.length_cons, List.length_nil, Nat.reduceAdd, truD_bool, decide_true, decide_false, sz1, sz2, B1.sign, B1.wrong, e_tab, heq, e9, e_empty, hmul, hne]) ?_
  clear t1 t2 hne hmul hcl
  have B2 := (B1.app τ1).app τ2
  have th2 : hdr (σ ++ τ1 ++ τ2) (σ.length + 1) = _ := hdr_app th
  generalize σ ++ τ1 ++ τ2 = σ3 at B2 th2
  have i0 : isIns 182 "values" (.ref (σ.length + 1)) σ3 = true := isIns_ok (hdr_ok th2).1 (by rw [Ne, ofs_inj]; decide)
  have hval : sValues [.ref (σ.length + 1)] [] σ3 = some (.val (.lst ((if sg = 9 then [(tx [97], tx (w ++ [sg]))] else []).map fun p => D.str p.2)), σ3) := by
    refine Eq.trans (on1_mk rfl) ?_
    rw [th2, Option.map_some]
  by_cases e9 : sg = 9
  · rw [if_pos e9] at hval
    have hne : opNe (.lst [.str (tx (w ++ [sg]))]) (.lst [.str (tx (w ++ [sg]))]) σ3 = some (.val (.bool false), σ3) := by
      have hsh : ∀ x ∈ [tx (w ++ [sg])], shortS x = true := fun x hx' => by rw [List.mem_singleton.mp hx']; exact short_tx wsa
      have := opNe_strs σ3 hsh hsh
      simpa using this
    refine fn_step (fr' := fr1) (σ' := σ3) (by
      simp only [Mf.bind, Mf.lift, Mf.pure, Mo.op2, Mo.bind, Mo.args, seq_nil, seq_cons, seqK_nil, Mo.pure, Mo.var, Mo.tru, Mo.opt, Mo.ite, Mo.meth, Mo.chk, Mo.lst, Mo.guard, Option.map_some, ↓reduceIte, Bool.false_eq_true, List.length_cons, List.length_nil, Nat.reduceAdd, truD_bool, decide_true, sz1, f3, i0, hval, B2.word, B2.sign, e_tab, heq, show decide (sg = 9) = true from decide_eq_true e9, hadd, List.map_cons, List.map_nil, hne]) ?_
    exact hp _ _ ⟨w, o, b, j, k2, sg, B2⟩
  · rw [if_neg e9] at hval
    have hne : opNe (.lst []) (.ref σ3.length) (σ3 ++ [.lst []]) = some (.val (.bool false), σ3 ++ [.lst []]) := by
      have h1 : py (σ3 ++ [.lst []]) (.lst []) = some (.list ([].map .str)) := (Fine.strs (l := []) fun x hx => by cases hx).py (by decide) _
      have h2 : py (σ3 ++ [.lst []]) (.ref σ3.length) = some (.list ([].map .str)) := (Fine.strs (l := []) fun x hx => by cases hx).pyRef (by decide) get_last
      unfold opNe
      rw [h1, h2]
      simp only [Option.bind_some, Option.map_some, eqv_strs]
      rfl
    refine fn_step (fr' := fr1) (σ' := σ3 ++ [.lst []]) (by
      simp only [Mf.bind, Mf.lift, Mf.pure, Mo.op2, Mo.bind, Mo.args, seq_nil, seqK_nil, Mo.pure, Mo.var, Mo.tru, Mo.opt, Mo.ite, Mo.meth, Mo.chk, Mo.lstR, Mo.guard, Option.map_some, ↓reduceIte, Bool.false_eq_true, List.length_nil, truD_bool, decide_true, sz0, f3, i0, hval, B2.word, B2.sign, e_tab, heq, show decide (sg = 9) = false from decide_eq_false e9, List.map_nil, hne]) ?_
    exact hp _ _ ⟨w, o, b, j, k2, sg, B2.app [.lst []]⟩
end
end Mine
end
section
open PySem PySem.W PyProof.Rows PySem.Calls
set_option maxRecDepth 100000
set_option maxHeartbeats 4000000
namespace Mine
section
theorem subE_TT : subE "TypeError" "TypeError" = some true := by decide +kernel
theorem fStr_T (σ : List AO) : fStr (.exc "TypeError" msgT) σ = some (.val (.str msgT), σ) := by kernel_rfl
theorem e_msgT : PySem.Str.ofString "Headers must be a list of name/value tuples" = msgT := rfl
theorem msgT_ne (σ : List AO) : opNe (.str msgT) (.str msgT) σ = some (.val (.bool false), σ) := by
  rw [opNe_str σ (by decide +kernel) (by decide +kernel)]; simp
theorem hdr_set {σ : List AO} {i k j : Nat} {a : AO} {ps : List (PySem.Str × PySem.Str)} (hh : hdr σ k = some (j, ps)) (h1 : i ≠ k) (h2 : i ≠ j) : hdr (σ.set i a) k = some (j, ps) := by
  (refine xAAA (hdr_ok hh) fun g1 g2 g3 g4 => ?_)
  exact hdr_of (by rw [List.getElem?_set_ne h1]; exact g1) (by rw [List.getElem?_set_ne h2]; exact g2) g3 g4
theorem e_e : PySem.Str.ofString "e" = tx [101] := by kernel_rfl
theorem e_facts : shortS (tx [101]) = true ∧ (tx [101]).cps.toList.any ctlN = false ∧ Txt.lower (tx [101]) = tx [101] := by decide +kernel
theorem ga_none {σ : List AO} {k j : Nat} {ps : List (PySem.Str × PySem.Str)} {x : PySem.Str} (hh : hdr σ k = some (j, ps)) (hs : shortS x = true) (hc : (Txt.lower x).cps.toList.any ctlN = false) (hn : ∀ p ∈ ps, (Txt.lower p.1 == Txt.lower x) = false) :
    sGetall [.ref k, .str x] [] σ = some (.val (.ref σ.length), σ ++ [.lst []]) := by
  refine Eq.trans (on2_mk rfl rfl) ?_
  rw [if_pos ⟨hs, hc⟩, hh, Option.map_some]
  have : ps.filter (fun p => Txt.lower p.1 == Txt.lower x) = [] := List.filter_eq_nil_iff.mpr fun p hp => by rw [hn p hp]; decide
  dsimp only
  rw [this]; rfl
theorem q_names {f : Nat → Bool} {P : List (Nat × Nat)} (hP : LP P) {w : PySem.Str} : ∀ p ∈ prG f P ++ [(tx [101], w)], ∃ c, Txt.lower p.1 = tx [c] := by
  intro p hp
  rcases List.mem_append.mp hp with q | q
  · (refine xEA (List.mem_map.mp q) fun i hi q0z => ?_; subst q0z)
    rw [List.mem_range] at hi
    (refine xA (hP _ (getD_mem (d := (0, 0)) hi)) fun h1 h2 => ?_)
    (refine xAA (lets_low _ h1) fun a1 a2 _ => ?_)
    refine ⟨(P.getD i (0, 0)).1, ?_⟩
    dsimp only
    cases f i
    · simp only [Bool.false_eq_true, if_false, a1]
    · simp only [if_true, a2]
  · rw [List.mem_singleton.mp q]
    exact ⟨101, e_facts.2.2⟩
theorem low_x : Txt.lower (PySem.Str.ofString "") = tx [] ∧ Txt.lower (PySem.Str.ofString "ab") = tx [97, 98] ∧ shortS (PySem.Str.ofString "") = true ∧ shortS (PySem.Str.ofString "ab") = true ∧ (tx []).cps.toList.any ctlN = false ∧ (tx [97, 98]).cps.toList.any ctlN = false := by decide +kernel
end
section
variable {G : Amb} (h : G.K = K2 G.w.params)
include h
theorem blkE3 (hk : Goes G 8 (lawZ G) ((lawB G).drop 26) fun fr σ => ∃ w o b j k, PC w o b fr σ j k) :
    Goes G 8 (lawZ G) ((lawB G).drop 25) fun fr σ => ∃ w o b j k sg, PE w o b fr σ j k sg := by
  obtain ⟨k, hk, hp⟩ := hk
  refine ⟨_, (Exs.cons (Ex.try (ds := [⟨"TypeError", "error", _⟩]) (Exs.cons (Ex.expr (Ev.call (g_Headers h rfl) (ms := [_]) (mk := []) ⟨(Ev.call (g_tuple h rfl) (ms := [_]) (mk := []) ⟨(Ev.loc rfl rfl), trivial⟩ trivial Kep.typ Ca.tuple), trivial⟩ trivial (kep_headers h) ((f_cls h).up (by omega)).ca))
      (Exs.cons (Ex.ret Ev.kBool)
      Exs.nil))
      ⟨⟨_, _, _, _, _, rfl, ⟨rfl, b_TypeError h, rfl, by decide +kernel, rfl, rfl, (Exs.cons (Ex.ite (Cd.cmp (Ev.call (g_str h rfl) (ms := [_]) (mk := []) ⟨(Ev.loc rfl rfl), trivial⟩ trivial Kep.typ (Ca.str (by omega))) (Ev.kStr (by decide +kernel)) (Op2.ne (by omega)))
        (Exs.cons (Ex.ret Ev.kBool)
        Exs.nil)
        Exs.nil)
      Exs.nil)⟩⟩, trivial⟩)
      hk), ?_⟩
  rintro fr σ ⟨w, o, b, j, k2, sg, B⟩
  refine fn_step (fr' := dele (upd fr "error" (.exc "TypeError" msgT)) "error") (σ' := σ ++ [.ins 182 []]) (by
    simp only [Mf.try, Mf.seq, Mf.bind, Mf.lift, Mf.pure, Mo.op2, Mo.bind, Mo.calF, Mo.args, seq_nil, seq_cons, seqK_nil, Mo.pure, Mo.var, Mo.tru, Mo.opt, upd_same, one1_at, Option.map_some, ↓reduceIte, Bool.false_eq_true, truD_bool, B.given, fTup, lstOf, sCls_tup, Mf.catch, subE_TT, one1_at, fStr_T, e_msgT, msgT_ne]) ?_
  have B1 := B.toPC.app [.ins 182 []]
  exact hp _ _ ⟨w, o, b, j, k2, { wo := B1.wo, word := by simp only [dele, upd_diff, ofs_inj, String.reduceEq, ↓reduceIte, String.reduceBEq, B1.word], order := by simp only [dele, upd_diff, ofs_inj, String.reduceEq, ↓reduceIte, String.reduceBEq, B1.order], bits := by simp only [dele, upd_diff, ofs_inj, String.reduceEq, ↓reduceIte, String.reduceBEq, B1.bits], pairs := by simp only [dele, upd_diff, ofs_inj, String.reduceEq, ↓reduceIte, String.reduceBEq, B1.pairs], table := by simp only [dele, upd_diff, ofs_inj, String.reduceEq, ↓reduceIte, String.reduceBEq, B1.table], h1 := B1.h1, given := by simp only [dele, upd_diff, ofs_inj, String.reduceEq, ↓reduceIte, String.reduceBEq, B1.given], mine := by simp only [dele, upd_diff, ofs_inj, String.reduceEq, ↓reduceIte, String.reduceBEq, B1.mine], second := by simp only [dele, upd_diff, ofs_inj, String.reduceEq, ↓reduceIte, String.reduceBEq, B1.second], h2 := B1.h2, hj := B1.hj }⟩
theorem blkF : Goes G 8 (lawZ G) ((lawB G).drop 26) fun fr σ => ∃ w o b j k, PC w o b fr σ j k := by
  refine ⟨_, (Exs.cons (Ex.expr (Ev.methL F.slot_list_clear F.type_list_clear (Ev.methI (i1_146 h) (i2_146 h) (i3_146 h) (i4_146 h) (Ev.loc rfl rfl) (ms := []) (mk := []) trivial trivial ((f_items h).up (by omega)).ca) (ms := []) (mk := []) trivial trivial Ca.clear))
      (Exs.cons (Ex.expr (Ev.methI (i1_179 h) (i2_179 h) (i3_179 h) (i4_179 h) (Ev.loc rfl rfl) (ms := [_, _]) (mk := []) ⟨(Ev.kStr (by decide +kernel)), (Ev.cel rfl rfl), trivial⟩ trivial ((f_add h).up (by omega)).ca))
      (Exs.cons (Ex.ret (Ev.and (ms := [_, _, _]) ⟨(Ev.cmp (Ev.methI (i1_146 h) (i2_146 h) (i3_146 h) (i4_146 h) (Ev.loc rfl rfl) (ms := []) (mk := []) trivial trivial ((f_items h).up (by omega)).ca) (Ev.loc rfl rfl) (Op2.eq (by omega))), (Ev.cmp (Ev.loc rfl rfl) (Ev.bin (Ev.loc rfl rfl) (Ev.lst (ms := [_]) ⟨(Ev.tup (ms := [_, _]) ⟨(Ev.kStr (by decide +kernel)), (Ev.cel rfl rfl), trivial⟩ rfl), trivial⟩ rfl) Op2.addL) (Op2.eq (by omega))), (Ev.cmp (Ev.bin (Ev.methI (i1_121 h) (i2_121 h) (i3_121 h) (i4_121 h) (Ev.loc rfl rfl) (ms := [_]) (mk := []) ⟨(Ev.kStr (by decide +kernel)), trivial⟩ trivial ((f_getall h).up (by omega)).ca) (Ev.methI (i1_121 h) (i2_121 h) (i3_121 h) (i4_121 h) (Ev.loc rfl rfl) (ms := [_]) (mk := []) ⟨(Ev.kStr (by decide +kernel)), trivial⟩ trivial ((f_getall h).up (by omega)).ca) Op2.addL) (Ev.lstR (ms := []) trivial rfl) (Op2.eq (by omega))), trivial⟩))
      Exs.nil))), ?_⟩
  rintro fr σ ⟨w, o, b, j, k2, B⟩
  have W := B.wo
  have ha := W.asc
  have i0 : isIns 182 "items" (.ref 1) σ = true := isIns_ok (hdr_ok B.h1).1 (by rw [Ne, ofs_inj]; decide)
  have t0 : sItems [.ref 1] [] σ = some (.val (.ref σ.length), σ ++ [.lst ((prG (bitD b) (pairsN w)).map pD)]) := by
    refine Eq.trans (on1_mk rfl) ?_
    rw [B.h1, Option.map_some]
  have t1 : isRefL (.ref σ.length) (σ ++ [.lst ((prG (bitD b) (pairsN w)).map pD)]) = true := by unfold isRefL; simp only [get_last]
  have t2 : fClear (.ref σ.length) (σ ++ [.lst ((prG (bitD b) (pairsN w)).map pD)]) = some (.val .none, σ ++ [.lst []]) := by
    unfold fClear
    simp only [get_last, set_last]
  refine fn_step (fr' := fr) (σ' := σ ++ [.lst []]) (by simp only [Mf.bind, Mf.lift, Mf.pure, Mo.bind, Mo.args, seq_nil, seqK_nil, Mo.pure, Mo.var, Mo.meth, Mo.chk, one1_at, Option.map_some, ↓reduceIte, B.table, i0, t0, t1, one1_at, t2]) ?_
  have B1 := B.app [.lst []]
  generalize σ ++ [.lst []] = σ1 at B1
  clear i0 t0 t1 t2 B
  have i1 : isIns 182 "add_header" (.ref k2) σ1 = true := isIns_ok (hdr_ok B1.h2).1 (by rw [Ne, ofs_inj]; decide)
  (refine xAA e_facts fun e1 e2 e3 => ?_)
  have hwv : (tx w).cps.toList.any ctlV = false := by
    rw [tx_cps, List.any_eq_false]
    exact fun c hc => by rw [(lets_ctl c (W.let_ c hc)).2]; decide
  have hok : okP (tx [101], tx w) = true := by
    unfold okP
    dsimp only
    rw [e1, short_tx ha, e2, hwv]; rfl
  have t3 := sAdd_ok B1.h2 hok
  dsimp only at t3
  refine fn_step (fr' := fr) (σ' := (σ1 ++ [AO.lst [.str (tx w)]]).set j (.lst ((prG (gF b) (gQ w o) ++ [(tx [101], tx w)]).map pD))) (by simp only [Mf.bind, Mf.lift, Mf.pure, Mo.bind, Mo.args, seq_nil, seq_cons, seqK_nil, Mo.pure, Mo.var, Mo.meth, Mo.chk, Option.map_some, ↓reduceIte, B1.second, B1.word, e_e, i1, t3]) ?_
  have hj2 : j < (σ1 ++ [AO.lst [.str (tx w)]]).length := by
    have := (List.getElem?_eq_some_iff.mp (hdr_ok B1.h2).2.1).1
    rw [List.length_append]; omega
  have hjk : j ≠ k2 := fun e => by
    (refine xAA (hdr_ok B1.h2) fun g1 g2 _ => ?_)
    rw [e, g1] at g2; cases g2
  have hQok := prG_ok (f := gF b) W.qlp
  have hPok := prG_ok (f := bitD b) W.lp
  have H1 : hdr ((σ1 ++ [AO.lst [.str (tx w)]]).set j (.lst ((prG (gF b) (gQ w o) ++ [(tx [101], tx w)]).map pD))) 1 = _ := hdr_set (hdr_app B1.h1) (by have := B1.hj; omega) (by have := B1.hj; omega)
  have hsh2 : ∀ p ∈ prG (gF b) (gQ w o) ++ [(tx [101], tx w)], shortS p.1 = true ∧ shortS p.2 = true := fun p hp => by
    rcases List.mem_append.mp hp with q | q
    · exact ⟨(okP_ok (hQok p q)).1, (okP_ok (hQok p q)).2.1⟩
    · rw [List.mem_singleton.mp q]; exact ⟨e1, short_tx ha⟩
  have hlen2 : (prG (gF b) (gQ w o) ++ [(tx [101], tx w)]).length ≤ 1000 := by rw [List.length_append, prG_len, W.qlen]; simp
  have G2 : ((σ1 ++ [AO.lst [.str (tx w)]]).set j (.lst ((prG (gF b) (gQ w o) ++ [(tx [101], tx w)]).map pD)))[j]? = some (.lst ((prG (gF b) (gQ w o) ++ [(tx [101], tx w)]).map pD)) := by rw [List.getElem?_set_self hj2]
  have H2 : hdr ((σ1 ++ [AO.lst [.str (tx w)]]).set j (.lst ((prG (gF b) (gQ w o) ++ [(tx [101], tx w)]).map pD))) k2 = some (j, prG (gF b) (gQ w o) ++ [(tx [101], tx w)]) :=
    hdr_of (by rw [List.getElem?_set_ne hjk]; exact get_old (hdr_ok B1.h2).1) G2 hlen2 hsh2
  generalize (σ1 ++ [AO.lst [.str (tx w)]]).set j (.lst ((prG (gF b) (gQ w o) ++ [(tx [101], tx w)]).map pD)) = σ2 at H1 H2 G2
  clear t3 i1 hj2
  have i2 : isIns 182 "items" (.ref 1) σ2 = true := isIns_ok (hdr_ok H1).1 (by rw [Ne, ofs_inj]; decide)
  have t0 : sItems [.ref 1] [] σ2 = some (.val (.ref σ2.length), σ2 ++ [.lst ((prG (bitD b) (pairsN w)).map pD)]) := by
    refine Eq.trans (on1_mk rfl) ?_
    rw [H1, Option.map_some]
  have hPsh : ∀ p ∈ prG (bitD b) (pairsN w), shortS p.1 = true ∧ shortS p.2 = true := fun p hp => ⟨(okP_ok (hPok p hp)).1, (okP_ok (hPok p hp)).2.1⟩
  have q1 : opEq (.ref σ2.length) (.lst ((prG (bitD b) (pairsN w)).map pD)) (σ2 ++ [.lst ((prG (bitD b) (pairsN w)).map pD)]) = some (.val (.bool true), σ2 ++ [.lst ((prG (bitD b) (pairsN w)).map pD)]) := by
    unfold opEq
    rw [(Fine.pairs hPsh).pyRef (by decide) get_last, (Fine.pairs hPsh).py (by decide)]
    simp only [Option.bind_some, Option.map_some, eqv_pairs, decide_true]
  have H3 : hdr (σ2 ++ [.lst ((prG (bitD b) (pairsN w)).map pD)]) k2 = _ := hdr_app H2
  have G3 : (σ2 ++ [.lst ((prG (bitD b) (pairsN w)).map pD)])[j]? = _ := get_old G2
  generalize σ2 ++ [.lst ((prG (bitD b) (pairsN w)).map pD)] = σ3 at t0 q1 H3 G3
  have q2 : fAddL (.lst ((prG (gF b) (gQ w o)).map pD)) (.lst [.tup [.str (tx [101]), .str (tx w)]]) σ3 = some (.val (.lst ((prG (gF b) (gQ w o) ++ [(tx [101], tx w)]).map pD)), σ3) := by
    rw [fAddL_lst σ3 (by rw [List.length_map, prG_len, W.qlen]; simp)]
    simp [pD]
  have q3 : opEq (.ref j) (.lst ((prG (gF b) (gQ w o) ++ [(tx [101], tx w)]).map pD)) σ3 = some (.val (.bool true), σ3) := by
    unfold opEq
    rw [(Fine.pairs hsh2).pyRef (by decide) G3, (Fine.pairs hsh2).py (by decide)]
    simp only [Option.bind_some, Option.map_some, eqv_pairs, decide_true]
  (refine xAAA low_x fun l1 l2 l3 w48z => ?_; refine xAA w48z fun l4 l5 l6 => ?_)
  have hq := q_names (f := gF b) (w := tx w) W.qlp
  have n1 := ga_none H3 l3 (by rw [l1]; exact l5) fun p hp => by
    (refine xE (hq p hp) fun c hc => ?_)
    rw [hc, l1, tx_beq]; simp
  have n2 := ga_none (hdr_app (τ := [.lst []]) H3) l4 (by rw [l2]; exact l6) fun p hp => by
    (refine xE (hq p hp) fun c hc => ?_)
    rw [hc, l2, tx_beq]; simp
  have i3 : isIns 182 "get_all" (.ref k2) σ3 = true := isIns_ok (hdr_ok H3).1 (by rw [Ne, ofs_inj]; decide)
  have i4 : isIns 182 "get_all" (.ref k2) (σ3 ++ [.lst []]) = true := isIns_ok (get_old (hdr_ok H3).1) (by rw [Ne, ofs_inj]; decide)
  have q4 : ∀ n, (σ3 ++ [AO.lst []]).length = n → fAddL (.ref σ3.length) (.ref n) (σ3 ++ [.lst []] ++ [.lst []]) = some (.val (.lst []), σ3 ++ [.lst []] ++ [.lst []]) := fun n hn => by
    subst hn
    have r1 : lstOf (.ref σ3.length) (σ3 ++ [.lst []] ++ [.lst []]) = some [] := by unfold lstOf; simp only [get_old (get_last (σ := σ3) (a := .lst []))]
    have r2 : lstOf (.ref (σ3 ++ [AO.lst []]).length) (σ3 ++ [.lst []] ++ [.lst []]) = some [] := by unfold lstOf; simp only [get_last]
    unfold fAddL
    simp only [r1, r2, Option.bind_some, List.append_nil, List.length_nil]
    rfl
  have q5 : ∀ σ : List AO, opEq (.lst []) (.ref σ.length) (σ ++ [.lst []]) = some (.val (.bool true), σ ++ [.lst []]) := fun σ => by
    have h1 : py (σ ++ [.lst []]) (.lst []) = some (.list ([].map .str)) := (Fine.strs (l := []) fun x hx => by cases hx).py (by decide) _
    have h2 : py (σ ++ [.lst []]) (.ref σ.length) = some (.list ([].map .str)) := (Fine.strs (l := []) fun x hx => by cases hx).pyRef (by decide) get_last
    unfold opEq
    rw [h1, h2]
    simp only [Option.bind_some, Option.map_some, eqv_strs, decide_true]
  refine ⟨σ3 ++ [.lst []] ++ [.lst []] ++ [.lst []], ?_⟩
  simp only [Mf.fn, Mf.seq, Mf.bind, Mf.lift, Mf.pure, Mo.op2, Mo.bind, Mo.args, seq_nil, seq_cons, seqK_nil, Mo.pure, Mo.var, Mo.opt, Mo.meth, Mo.chk, Mo.tup, Mo.lst, Mo.lstR, Mo.guard, andV_one, andV_cons, Option.map_some, ↓reduceIte, List.length_cons, List.length_nil, Nat.reduceAdd, truD_bool, decide_true, sz0, sz1, sz2, B1.table, B1.pairs, i2, t0, q1, B1.mine, B1.given, e_e, B1.word, q2, q3, B1.second, i3, i4, n1, n2, q4 _ rfl, q5]
end
end Mine
end
section
open PySem PySem.W PyProof.Rows PySem.Calls
set_option maxRecDepth 100000
set_option maxHeartbeats 4000000
namespace Mine
section
variable {G : Amb} (h : G.K = K2 G.w.params)
include h
theorem law_goes : Goes G 8 (lawZ G) (lawB G) fun fr σ => σ = [] ∧ ∃ ns : List Int, ns.length ≤ 63 ∧ fr "script" = some (.lst (ns.map .int)) :=
  blkA h (blkB h (blkC h (blkD h (blkE h (blkE2 h (blkE3 h (blkF h)))))))
end
end Mine
end
section
open PySem PySem.W PyProof.Rows PySem.Calls
set_option maxRecDepth 100000
set_option maxHeartbeats 8000000
namespace Mine
theorem join2 {w : World} {s₁ : Shared} {p : Program} {loose : List PySem.Str} {mean : ExcName → Option Value} {mg mb : PySem.Str → Option Value} (T : Top p loose mean mg mb s₁.heap) (KX : (pre.heap_1 w.params).In s₁.heap) {prog : Program}
    {fa : Addr} (hfa : mg "law" = some (.ref fa)) {l : Addr} {vs : List Value} {ns : List Int} (hL : s₁.heap.IsList l vs.toArray) (hI : IntsAre vs ns) (hlen : ns.length ≤ 63) {R : Result → Shared → Prop}
    (hR : ∀ h' tk, (∀ b o, s₁.heap.get? b = some o → h'.get? b = some o) → R (.ok (.ret (.bool true))) (ShT s₁ h' tk)) : codeAny (model prog w) callerA (.call (.ref fa) ⟨[.ref l], []⟩) R s₁ := by
  let G : Amb := { prog := prog, w := w, K := K2 w.params, base := s₁.heap, mg := mg, mb := mb }
  have hok : G.Ok := ⟨KX, T.g, T.b, T.nolimit, T.builtins⟩
  have h : G.K = K2 G.w.params := rfl
  have h237 : mg "law" = some (.ref 237) := mg_of (K := K2 w.params) KX T.g rfl
  rw [h237] at hfa
  cases hfa
  (refine xEA (law_goes (G := G) h) fun m hm hs => ?_)
  (refine xE (hs (upd (fun _ => none) "script" (.lst (ns.map .int))) [] ⟨rfl, ns, hlen, by simp only [upd, if_true]⟩) fun σ' e => ?_)
  exact Fn.topAt (G := G) h hok (ok_237 _) (fun S v => by kernel_rfl) (by kernel_rfl) hm rfl rfl (by decide +kernel) (by decide +kernel) (list_rv hL hI hlen) e rfl fun a c S' tk H r => by
    cases r
    exact hR S'.h tk H.stays
/-- the program's twin for the looks at the top: the program itself (the line's own, in codes, is far larger, and the looks are as quick without) -/
noncomputable def whole.tw9798479034749850632 : Program := PySem.Challenge.pw_ta0143_02
theorem whole.te9798479034749850632 : PySem.Challenge.pw_ta0143_02 = whole.tw9798479034749850632 := rfl
set_option Elab.async true in
theorem whole : PySem.Challenge.rw_ta0143_02.Holds := by
  w_on
  o_law
  o_head (kHook pre.heap_1 [2, 3, 32, 34, 35, 37, 38, 42, 43, 47, 48, 52, 53, 54, 55, 57, 58, 60, 61, 69, 70, 72, 73, 75, 76, 77, 79, 80, 82, 83, 84, 86, 87, 89, 90, 91, 93, 94, 96, 97, 98, 101, 102, 103, 105, 106, 108, 109, 110, 112, 113, 115, 116, 117, 120, 121, 122, 123, 125, 126, 128, 129, 130, 133, 134, 135, 138, 139, 140, 142, 143, 145, 146, 147, 149, 150, 152, 153, 154, 157, 158, 159, 161, 162, 164, 165, 166, 168, 169, 171, 172, 173, 175, 176, 178, 179, 180, 181, 182, 183, 184, 187, 189, 190, 192, 193, 194, 197, 198, 199, 201, 202, 204, 205, 206, 209, 210, 211, 214, 215, 216, 219, 220, 221, 224, 225, 226, 228, 229, 231, 232, 233, 236, 237] (fun _ => by kernel_rfl))
  case hw => w_witness2
  intro w s₀ s₁ mg mb G Y fa o pm cd doc dV kV ho hd hcd hD hmg hg args vals as hpre hlay hrd hwl hlo
  have KX := kIn_of Y
  have T := G.T
  clear Y G ho hd hcd hD
  wrow_args hpre hlay hrd hwl hlo
  refine enter_call ?_
  refine join2 T KX hmg (by assumption) (by assumption) (by omega) fun h' tk hk => ?_
  exact ⟨.inl ⟨.bool true, .bool true, [], rfl, fun _ => rfl, .bool true, (by first | kernel_rfl | with_unfolding_all rfl | decide), fun _ => ⟨List.nodup_nil, fun a ha => (by cases ha)⟩⟩, OldK.of_keep hk, rfl, fun y hy => (by rw [hg] at hy; simp at hy)⟩
end Mine
end
open PySem PySem.W PyProof.Rows
set_option maxRecDepth 100000 in
set_option maxHeartbeats 8000000 in
theorem PySem.Challenge.cw_ta0143_02_holds : PySem.Challenge.rw_ta0143_02.Holds := by
  exact Mine.whole
