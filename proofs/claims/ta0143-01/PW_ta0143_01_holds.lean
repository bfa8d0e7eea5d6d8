import PyProof.Rows.All
import Wide.All
import OpenK.AllK
import Wide.FinOn
import KE.KCallOwn
import KE.KxPercentT
import PyProof.EnumFor
import PyProof.EnumMake
import PyProof.Rows.FStr
import PyProof.FString5
import PySem.Challenge.RW_ta0143_01
set_option Elab.async false
set_option linter.all false
set_option genSizeOf false
set_option genInjectivity false
section
open PySem PySem.W PyProof.Rows
namespace Mine
/-! equations that cannot be, and what equations of values say: a lemma's use is far smaller than what the tactic for cases writes -/
theorem nnS {α:Type} {a:α} {P:Prop} (h:none=some a):P:=by cases h
theorem nSn {α:Type} {a:α} {P:Prop} (h:some a=none):P:=by cases h
theorem nFT {P:Prop} (h:false=true):P:=by cases h
theorem nTF {P:Prop} (h:true=false):P:=by cases h
theorem nNC {α:Type} {a:α} {l:List α} {P:Prop} (h : []=a :: l):P:=by cases h
theorem nCN {α:Type} {a:α} {l:List α} {P:Prop} (h:a :: l=[]):P:=by cases h
theorem nAny {α:Type} (f:α→Nat) {a b:α} {P:Prop} (h:a=b) (e:Nat.beq (f a) (f b)=false):P:=by
  rw [h] at e
  exact False.elim (Nat.ne_of_beq_eq_false e rfl)
theorem s1E {α:Type} {a b:α} (h:some a=some b):a=b:=Option.some.inj h
section
variable {α β γ:Type} {a a':α} {b b':β} {c c':γ}
theorem p2A (h:(a,b)=(a',b')):a=a':=congrArg (·.1) h
theorem p2B (h:(a,b)=(a',b')):b=b':=congrArg (·.2) h
theorem s2A (h:some (a,b)=some (a',b')):a=a':=p2A (s1E h)
theorem s2B (h:some (a,b)=some (a',b')):b=b':=p2B (s1E h)
theorem s3A (h:some (a,b,c)=some (a',b',c')):a=a':=p2A (s1E h)
theorem s3B (h:some (a,b,c)=some (a',b',c')):b=b':=p2A (p2B (s1E h))
theorem s3C (h:some (a,b,c)=some (a',b',c')):c=c':=p2B (p2B (s1E h))
end
open Classical in
/-- the thing of which P says, where there is one -/
noncomputable def pick {α:Type} (P:α→Prop):Option α:=if h:∃ a,P a then some h.choose else none
theorem pick_ok {α:Type} {P:α→Prop} {a:α} (h:pick P=some a):P a:=by
  unfold pick at h
  by_cases q:∃ a,P a
  · rw [dif_pos q] at h
    exact (s1E h) ▸ q.choose_spec
  · rw [dif_neg q] at h
    exact nnS h
theorem pick_mk {α:Type} {P:α→Prop} {a:α} (h:P a) (u:∀ b,P b→b=a):pick P=some a:=by
  unfold pick
  rw [dif_pos ⟨a,h⟩]
  exact congrArg some (u _ (Exists.choose_spec ⟨a,h⟩))
end Mine
end
section
namespace Mine
/-! what is told by ∃ and ∧, taken apart by one lemma's use -/
theorem xA  {P0:Prop} {P1:Prop} (h:(P0∧P1)) {G:Prop} (k:P0→P1→G):G:=k h.1 h.2
theorem xE {T0:Type} {P0:T0→Prop} (h:(∃ a0:T0,P0 a0)) {G:Prop} (k:∀ a0:T0,P0 a0→G):G:=h.elim fun a0 h0=>k a0 h0
theorem xAA  {P0:Prop} {P1:Prop} {P2:Prop} (h:(P0∧(P1∧P2))) {G:Prop} (k:P0→P1→P2→G):G:=k h.1 h.2.1 h.2.2
theorem xEA {T0:Type} {P0:T0→Prop} {P1:T0→Prop} (h:(∃ a0:T0,(P0 a0∧P1 a0))) {G:Prop} (k:∀ a0:T0,P0 a0→P1 a0→G):G:=h.elim fun a0 h0=>k a0 h0.1 h0.2
theorem xEE {T0:Type} {T1:Type} {P0:T0→T1→Prop} (h:(∃ a0:T0,(∃ a1:T1,P0 a0 a1))) {G:Prop} (k:∀ a0:T0,∀ a1:T1,P0 a0 a1→G):G:=h.elim fun a0 h0=>h0.elim fun a1 h1=>k a0 a1 h1
theorem xAAA  {P0:Prop} {P1:Prop} {P2:Prop} {P3:Prop} (h:(P0∧(P1∧(P2∧P3)))) {G:Prop} (k:P0→P1→P2→P3→G):G:=k h.1 h.2.1 h.2.2.1 h.2.2.2
theorem xEAA {T0:Type} {P0:T0→Prop} {P1:T0→Prop} {P2:T0→Prop} (h:(∃ a0:T0,(P0 a0∧(P1 a0∧P2 a0)))) {G:Prop} (k:∀ a0:T0,P0 a0→P1 a0→P2 a0→G):G:=h.elim fun a0 h0=>k a0 h0.1 h0.2.1 h0.2.2
theorem xEEA {T0:Type} {T1:Type} {P0:T0→T1→Prop} {P1:T0→T1→Prop} (h:(∃ a0:T0,(∃ a1:T1,(P0 a0 a1∧P1 a0 a1)))) {G:Prop} (k:∀ a0:T0,∀ a1:T1,P0 a0 a1→P1 a0 a1→G):G:=h.elim fun a0 h0=>h0.elim fun a1 h1=>k a0 a1 h1.1 h1.2
theorem xAEEA {T0:Type} {T1:Type} {P0:Prop} {P1:T0→T1→Prop} {P2:T0→T1→Prop} (h:(P0∧(∃ a0:T0,(∃ a1:T1,(P1 a0 a1∧P2 a0 a1))))) {G:Prop} (k:P0→∀ a0:T0,∀ a1:T1,P1 a0 a1→P2 a0 a1→G):G:=h.2.elim fun a0 h1=>h1.elim fun a1 h2=>k h.1 a0 a1 h2.1 h2.2
theorem xEAAA {T0:Type} {P0:T0→Prop} {P1:T0→Prop} {P2:T0→Prop} {P3:T0→Prop} (h:(∃ a0:T0,(P0 a0∧(P1 a0∧(P2 a0∧P3 a0))))) {G:Prop} (k:∀ a0:T0,P0 a0→P1 a0→P2 a0→P3 a0→G):G:=h.elim fun a0 h0=>k a0 h0.1 h0.2.1 h0.2.2.1 h0.2.2.2
theorem xEAAE {T0:Type} {T1:Type} {P0:T0→Prop} {P1:T0→Prop} {P2:T0→T1→Prop} (h:(∃ a0:T0,(P0 a0∧(P1 a0∧(∃ a1:T1,P2 a0 a1))))) {G:Prop} (k:∀ a0:T0,P0 a0→P1 a0→∀ a1:T1,P2 a0 a1→G):G:=h.elim fun a0 h0=>h0.2.2.elim fun a1 h3=>k a0 h0.1 h0.2.1 a1 h3
theorem xEEAA {T0:Type} {T1:Type} {P0:T0→T1→Prop} {P1:T0→T1→Prop} {P2:T0→T1→Prop} (h:(∃ a0:T0,(∃ a1:T1,(P0 a0 a1∧(P1 a0 a1∧P2 a0 a1))))) {G:Prop} (k:∀ a0:T0,∀ a1:T1,P0 a0 a1→P1 a0 a1→P2 a0 a1→G):G:=h.elim fun a0 h0=>h0.elim fun a1 h1=>k a0 a1 h1.1 h1.2.1 h1.2.2
theorem xEEEA {T0:Type} {T1:Type} {T2:Type} {P0:T0→T1→T2→Prop} {P1:T0→T1→T2→Prop} (h:(∃ a0:T0,(∃ a1:T1,(∃ a2:T2,(P0 a0 a1 a2∧P1 a0 a1 a2))))) {G:Prop} (k:∀ a0:T0,∀ a1:T1,∀ a2:T2,P0 a0 a1 a2→P1 a0 a1 a2→G):G:=h.elim fun a0 h0=>h0.elim fun a1 h1=>h1.elim fun a2 h2=>k a0 a1 a2 h2.1 h2.2
theorem xEEAAA {T0:Type} {T1:Type} {P0:T0→T1→Prop} {P1:T0→T1→Prop} {P2:T0→T1→Prop} {P3:T0→T1→Prop} (h:(∃ a0:T0,(∃ a1:T1,(P0 a0 a1∧(P1 a0 a1∧(P2 a0 a1∧P3 a0 a1)))))) {G:Prop} (k:∀ a0:T0,∀ a1:T1,P0 a0 a1→P1 a0 a1→P2 a0 a1→P3 a0 a1→G):G:=h.elim fun a0 h0=>h0.elim fun a1 h1=>k a0 a1 h1.1 h1.2.1 h1.2.2.1 h1.2.2.2
theorem xEEEAA {T0:Type} {T1:Type} {T2:Type} {P0:T0→T1→T2→Prop} {P1:T0→T1→T2→Prop} {P2:T0→T1→T2→Prop} (h:(∃ a0:T0,(∃ a1:T1,(∃ a2:T2,(P0 a0 a1 a2∧(P1 a0 a1 a2∧P2 a0 a1 a2)))))) {G:Prop} (k:∀ a0:T0,∀ a1:T1,∀ a2:T2,P0 a0 a1 a2→P1 a0 a1 a2→P2 a0 a1 a2→G):G:=h.elim fun a0 h0=>h0.elim fun a1 h1=>h1.elim fun a2 h2=>k a0 a1 a2 h2.1 h2.2.1 h2.2.2
theorem xEEEAAAA {T0:Type} {T1:Type} {T2:Type} {P0:T0→T1→T2→Prop} {P1:T0→T1→T2→Prop} {P2:T0→T1→T2→Prop} {P3:T0→T1→T2→Prop} {P4:T0→T1→T2→Prop} (h:(∃ a0:T0,(∃ a1:T1,(∃ a2:T2,(P0 a0 a1 a2∧(P1 a0 a1 a2∧(P2 a0 a1 a2∧(P3 a0 a1 a2∧P4 a0 a1 a2)))))))) {G:Prop} (k:∀ a0:T0,∀ a1:T1,∀ a2:T2,P0 a0 a1 a2→P1 a0 a1 a2→P2 a0 a1 a2→P3 a0 a1 a2→P4 a0 a1 a2→G):G:=h.elim fun a0 h0=>h0.elim fun a1 h1=>h1.elim fun a2 h2=>k a0 a1 a2 h2.1 h2.2.1 h2.2.2.1 h2.2.2.2.1 h2.2.2.2.2
theorem xEEEAAAAA {T0:Type} {T1:Type} {T2:Type} {P0:T0→T1→T2→Prop} {P1:T0→T1→T2→Prop} {P2:T0→T1→T2→Prop} {P3:T0→T1→T2→Prop} {P4:T0→T1→T2→Prop} {P5:T0→T1→T2→Prop} (h:(∃ a0:T0,(∃ a1:T1,(∃ a2:T2,(P0 a0 a1 a2∧(P1 a0 a1 a2∧(P2 a0 a1 a2∧(P3 a0 a1 a2∧(P4 a0 a1 a2∧P5 a0 a1 a2))))))))) {G:Prop} (k:∀ a0:T0,∀ a1:T1,∀ a2:T2,P0 a0 a1 a2→P1 a0 a1 a2→P2 a0 a1 a2→P3 a0 a1 a2→P4 a0 a1 a2→P5 a0 a1 a2→G):G:=h.elim fun a0 h0=>h0.elim fun a1 h1=>h1.elim fun a2 h2=>k a0 a1 a2 h2.1 h2.2.1 h2.2.2.1 h2.2.2.2.1 h2.2.2.2.2.1 h2.2.2.2.2.2
theorem xEEEEAAAAAA {T0:Type} {T1:Type} {T2:Type} {T3:Type} {P0:T0→T1→T2→T3→Prop} {P1:T0→T1→T2→T3→Prop} {P2:T0→T1→T2→T3→Prop} {P3:T0→T1→T2→T3→Prop} {P4:T0→T1→T2→T3→Prop} {P5:T0→T1→T2→T3→Prop} {P6:T0→T1→T2→T3→Prop} (h:(∃ a0:T0,(∃ a1:T1,(∃ a2:T2,(∃ a3:T3,(P0 a0 a1 a2 a3∧(P1 a0 a1 a2 a3∧(P2 a0 a1 a2 a3∧(P3 a0 a1 a2 a3∧(P4 a0 a1 a2 a3∧(P5 a0 a1 a2 a3∧P6 a0 a1 a2 a3))))))))))) {G:Prop} (k:∀ a0:T0,∀ a1:T1,∀ a2:T2,∀ a3:T3,P0 a0 a1 a2 a3→P1 a0 a1 a2 a3→P2 a0 a1 a2 a3→P3 a0 a1 a2 a3→P4 a0 a1 a2 a3→P5 a0 a1 a2 a3→P6 a0 a1 a2 a3→G):G:=h.elim fun a0 h0=>h0.elim fun a1 h1=>h1.elim fun a2 h2=>h2.elim fun a3 h3=>k a0 a1 a2 a3 h3.1 h3.2.1 h3.2.2.1 h3.2.2.2.1 h3.2.2.2.2.1 h3.2.2.2.2.2.1 h3.2.2.2.2.2.2
end Mine
end
section
open PySem PySem.W PyProof.Rows
namespace Mine
inductive D where
  | none
  | bool (b:Bool)
  | int (i:Int)
  | str (s:PySem.Str)
  | tup (ds:List D)
  | lst (ds:List D)
  | dct (es:List (PySem.Str × D))
  | ref (n:Nat)
  | glob (v:Value)
  | exc (X:String) (msg:PySem.Str)
  | rng (a b:Int)
inductive AO where
  | lst (ds:List D)
  | ins (C:Addr) (at_:List (PySem.Str × D))
  | dead
noncomputable abbrev Adr:=List (Addr × Addr)
noncomputable def regOf (p:Addr × Addr):AO→List Addr
  | .dead=>[]
  | .lst _=>[p.1]
  | .ins _ _=>[p.1,p.2]
noncomputable def reg:Adr→List AO→List Addr
  | p :: ps,o :: os=>regOf p o ++ reg ps os
  | _,_=>[]
structure Amb where
  prog:Program
  w:World
  K:Frag
  base:Heap
  mg:PySem.Str→Option Value
  mb:PySem.Str→Option Value
  /-- the count of tokens never falls below -/
  lo:Nat
structure Amb.Ok (G:Amb):Prop where
  inK:G.K.In G.base
  g:G.base.Ns mainGlobals G.mg
  b:G.base.Ns builtinsNs G.mb
  nolimit:G.base.NoLimit
  builtins:∀ x:PySem.Str,x ≠ "__name__" → G.mb x=bootBuiltins x
noncomputable abbrev Amb.M (G:Amb):Model:=model G.prog G.w
/-- an activation: what stands around a running tree -/
structure Cx where
  A:Around
  fenv:Env
  outer:List Env
  X:List Addr
noncomputable def Cx.stack (c:Cx):List Env:=c.fenv :: c.outer
noncomputable def Cx.fs (c:Cx):List Addr:=c.stack.filterMap (·.frame)
/-- a ghost state: the addresses of the store's objects, the store, the heap -/
structure Gs where
  adr:Adr
  σ:List AO
  h:Heap
noncomputable def Gs.reg (S:Gs):List Addr:=Mine.reg S.adr S.σ
noncomputable def vol (c:Cx) (S:Gs):List Addr:=S.reg ++ (c.fs ++ c.X)
mutual
inductive VR (P:Params) (adr:Adr) (V:List Addr) (h:Heap):Value→D→Prop
  | none:VR P adr V h Value.none D.none
  | bool (b:Bool):VR P adr V h (Value.bool b) (D.bool b)
  | int (i:Int) (t:Tok):VR P adr V h (Value.int i t) (D.int i)
  | str (x:PySem.Str) (t:Tok):x.length ≤ sizeLine→VR P adr V h (Value.str x t) (D.str x)
  | tup {a:Addr} {o:Obj} {vs:Array Value} {n:Nat} {ds:List D} : h.get? a=some o→o.cls = .type "tuple" → o.data = .seq vs n→vs.size ≤ sizeLine→a ∉ V→VRs P adr V h vs.toList ds→VR P adr V h (Value.ref a) (D.tup ds)
  | lst {a:Addr} {o:Obj} {vs:Array Value} {n:Nat} {ds:List D} : h.get? a=some o→o.cls = .type "list" → o.data = .seq vs n→vs.size ≤ sizeLine→a ∉ V→VRs P adr V h vs.toList ds→VR P adr V h (Value.ref a) (D.lst ds)
  | dct {a:Addr} {es:Array DictEntry} {n:Nat} {ds:List (PySem.Str × D)} : 1 < a→h.get? a=some { cls:=.type "dict", dict:=Option.none,data:=.dict es n,slots:=#[] }→(ds.map (·.1)).Nodup→a ∉ V→VRe P adr V h es.toList ds→VR P adr V h (Value.ref a) (D.dct ds)
  | ref {n:Nat} {p:Addr × Addr} : adr[n]? = some p→VR P adr V h (Value.ref p.1) (D.ref n)
  | glob (v:Value):VR P adr V h v (D.glob v)
  | exc {e t:Addr} {oe:Obj} {vs:Array Value} {X:String} {msg:PySem.Str} {tk:Tok} : h.get? e=some oe→oe.cls = .type X→oe.data = .fields vs→vs[0]? = some (.ref t)→h.TupAt t [.str msg tk]→e ∉ V→t ∉ V→VR P adr V h (Value.ref e) (D.exc X msg)
  | rng {r:Addr} {a b:Int} {t u v:Tok} : IsRange h r a b 1 t u v→r ∉ V→VR P adr V h (Value.ref r) (D.rng a b)
inductive VRs (P:Params) (adr:Adr) (V:List Addr) (h:Heap):List Value→List D→Prop
  | nil:VRs P adr V h [] []
  | cons {v:Value} {d:D} {vs:List Value} {ds:List D} : VR P adr V h v d→VRs P adr V h vs ds→VRs P adr V h (v :: vs) (d :: ds)
inductive VRe (P:Params) (adr:Adr) (V:List Addr) (h:Heap):List DictEntry→List (PySem.Str × D)→Prop
  | nil:VRe P adr V h [] []
  | cons {e:DictEntry} {x:PySem.Str} {t:Tok} {d:D} {es:List DictEntry} {ds:List (PySem.Str × D)} : e.key = .str x t→e.hash=PyData.keyHash P x→VR P adr V h e.val d→VRe P adr V h es ds→VRe P adr V h (e :: es) ((x,d) :: ds)
end
section
variable {P:Params} {adr adr':Adr} {V V':List Addr} {h h':Heap}
noncomputable def Pres (V:List Addr) (h h':Heap):Prop:=∀ a o,a ∉ V→h.get? a=some o→h'.get? a=some o
noncomputable def AdrLe (adr adr':Adr):Prop:=∀ (n:Nat) (p:Addr × Addr),adr[n]? = some p→adr'[n]? = some p
noncomputable def VolLe (h:Heap) (V V':List Addr):Prop:=∀ a,a ∈ V'→a ∈ V∨h.get? a=Option.none
theorem AdrLe.refl (adr:Adr):AdrLe adr adr:=fun _ _ e=>e
theorem AdrLe.trans {a b c:Adr} (x:AdrLe a b) (y:AdrLe b c):AdrLe a c:=fun n p e=>y n p (x n p e)
theorem AdrLe.append (a b:Adr):AdrLe a (a ++ b):=fun n p e=>by
  rw [List.getElem?_append_left (List.getElem?_eq_some_iff.mp e).1]; exact e
theorem VolLe.of_sub (h:Heap) (hs:∀ a,a ∈ V'→a ∈ V):VolLe h V V':=fun a ha=>.inl (hs a ha)
theorem VolLe.notin (k:VolLe h V V') {a:Addr} {o:Obj} (e:h.get? a=some o) (ha:a ∉ V):a ∉ V':=fun hm=>by
  rcases k a hm with q | q
  · exact ha q
  · rw [e] at q; cases q
section
variable (hp:Pres V h h') (ha:AdrLe adr adr') (hv:VolLe h V V')
include hp ha hv
theorem VR.mono {v:Value} {d:D} (r:VR P adr V h v d):VR P adr' V' h' v d :=
  VR.rec (motive_1:=fun v d _=>VR P adr' V' h' v d) (motive_2:=fun vs ds _=>VRs P adr' V' h' vs ds) (motive_3:=fun es ds _=>VRe P adr' V' h' es ds)
    .none (fun b=>.bool b) (fun i t=>.int i t) (fun x t hx=>.str x t hx) (fun e c d z n _ r=>.tup (hp _ _ n e) c d z (hv.notin e n) r) (fun e c d z n _ r=>.lst (hp _ _ n e) c d z (hv.notin e n) r) (fun b e q n _ r=>.dct b (hp _ _ n e) q (hv.notin e n) r) (fun e=>.ref (ha _ _ e)) (fun v=>.glob v)
    (fun e c d k ht n1 n2=>.exc (hp _ _ n1 e) c d k (let ⟨ot,nt,ht,r⟩:=ht; ⟨ot,nt,hp _ _ n2 ht,r⟩) (hv.notin e n1) (let ⟨_,_,ht,_⟩:=ht; hv.notin ht n2)) (fun e n=>.rng (hp _ _ n e) (hv.notin e n))
    .nil (fun _ _ e r=>.cons e r) .nil (fun e k _ _ v r=>.cons e k v r) r
theorem VRs.mono {v:List Value} {d:List D} (r:VRs P adr V h v d):VRs P adr' V' h' v d :=
  VRs.rec (motive_1:=fun v d _=>VR P adr' V' h' v d) (motive_2:=fun vs ds _=>VRs P adr' V' h' vs ds) (motive_3:=fun es ds _=>VRe P adr' V' h' es ds)
    .none (fun b=>.bool b) (fun i t=>.int i t) (fun x t hx=>.str x t hx) (fun e c d z n _ r=>.tup (hp _ _ n e) c d z (hv.notin e n) r) (fun e c d z n _ r=>.lst (hp _ _ n e) c d z (hv.notin e n) r) (fun b e q n _ r=>.dct b (hp _ _ n e) q (hv.notin e n) r) (fun e=>.ref (ha _ _ e)) (fun v=>.glob v)
    (fun e c d k ht n1 n2=>.exc (hp _ _ n1 e) c d k (let ⟨ot,nt,ht,r⟩:=ht; ⟨ot,nt,hp _ _ n2 ht,r⟩) (hv.notin e n1) (let ⟨_,_,ht,_⟩:=ht; hv.notin ht n2)) (fun e n=>.rng (hp _ _ n e) (hv.notin e n))
    .nil (fun _ _ e r=>.cons e r) .nil (fun e k _ _ v r=>.cons e k v r) r
theorem VRe.mono {v:List DictEntry} {d:List (PySem.Str × D)} (r:VRe P adr V h v d):VRe P adr' V' h' v d :=
  VRe.rec (motive_1:=fun v d _=>VR P adr' V' h' v d) (motive_2:=fun vs ds _=>VRs P adr' V' h' vs ds) (motive_3:=fun es ds _=>VRe P adr' V' h' es ds)
    .none (fun b=>.bool b) (fun i t=>.int i t) (fun x t hx=>.str x t hx) (fun e c d z n _ r=>.tup (hp _ _ n e) c d z (hv.notin e n) r) (fun e c d z n _ r=>.lst (hp _ _ n e) c d z (hv.notin e n) r) (fun b e q n _ r=>.dct b (hp _ _ n e) q (hv.notin e n) r) (fun e=>.ref (ha _ _ e)) (fun v=>.glob v)
    (fun e c d k ht n1 n2=>.exc (hp _ _ n1 e) c d k (let ⟨ot,nt,ht,r⟩:=ht; ⟨ot,nt,hp _ _ n2 ht,r⟩) (hv.notin e n1) (let ⟨_,_,ht,_⟩:=ht; hv.notin ht n2)) (fun e n=>.rng (hp _ _ n e) (hv.notin e n))
    .nil (fun _ _ e r=>.cons e r) .nil (fun e k _ _ v r=>.cons e k v r) r
end
theorem VRs.ind {C:List Value→List D→Prop} (h0:C [] []) (h1:∀ v d vs ds,VR P adr V h v d→VRs P adr V h vs ds→C vs ds→C (v :: vs) (d :: ds)) {vs:List Value} {ds:List D} (r:VRs P adr V h vs ds):C vs ds :=
  VRs.rec (motive_1:=fun _ _ _=>True) (motive_2:=fun vs ds _=>C vs ds) (motive_3:=fun _ _ _=>True) ⟨⟩ (fun _=>⟨⟩) (fun _ _=>⟨⟩) (fun _ _ _=>⟨⟩) (fun _ _ _ _ _ _ _=>⟨⟩) (fun _ _ _ _ _ _ _=>⟨⟩) (fun _ _ _ _ _ _=>⟨⟩) (fun _=>⟨⟩) (fun _=>⟨⟩) (fun _ _ _ _ _ _ _=>⟨⟩) (fun _ _=>⟨⟩) h0 (fun r rs _ c=>h1 _ _ _ _ r rs c) ⟨⟩ (fun _ _ _ _ _ _=>⟨⟩) r
theorem VRe.ind {C:List DictEntry→List (PySem.Str × D)→Prop} (h0:C [] []) (h1:∀ e x t d es ds,e.key = .str x t→e.hash=PyData.keyHash P x→VR P adr V h e.val d→VRe P adr V h es ds→C es ds→C (e :: es) ((x,d) :: ds)) {es:List DictEntry} {ds:List (PySem.Str × D)} (r:VRe P adr V h es ds):C es ds :=
  VRe.rec (motive_1:=fun _ _ _=>True) (motive_2:=fun _ _ _=>True) (motive_3:=fun es ds _=>C es ds) ⟨⟩ (fun _=>⟨⟩) (fun _ _=>⟨⟩) (fun _ _ _=>⟨⟩) (fun _ _ _ _ _ _ _=>⟨⟩) (fun _ _ _ _ _ _ _=>⟨⟩) (fun _ _ _ _ _ _=>⟨⟩) (fun _=>⟨⟩) (fun _=>⟨⟩) (fun _ _ _ _ _ _ _=>⟨⟩) (fun _ _=>⟨⟩) ⟨⟩ (fun _ _ _ _=>⟨⟩) h0 (fun k hh v r _ c=>h1 _ _ _ _ _ _ k hh v r c) r
theorem VRs.length {vs:List Value} {ds:List D} (r:VRs P adr V h vs ds):vs.length=ds.length:=by
  exact VRs.ind (C:=fun vs ds=>vs.length=ds.length) rfl (fun _ _ _ _ _ _ ih=>congrArg (· + 1) ih) r
theorem VRs.get {vs:List Value} {ds:List D} (r:VRs P adr V h vs ds) {k:Nat} {d:D} (hk:ds[k]? = some d):∃ v,vs[k]? = some v∧VR P adr V h v d :=
  VRs.ind (C:=fun vs ds=>∀ k d,ds[k]? = some d→∃ v,vs[k]? = some v∧VR P adr V h v d) (fun _ _ e=>nnS e)
    (fun v d' _ _ rv _ ih k d e=>match k with
      | 0=>⟨v,rfl,(Option.some.inj e) ▸ rv⟩
      | k + 1=>ih k d e) r k d hk
theorem VRs.append {vs ws:List Value} {ds es:List D} (r:VRs P adr V h vs ds) (q:VRs P adr V h ws es):VRs P adr V h (vs ++ ws) (ds ++ es):=by
  induction vs generalizing ds with
  | nil=>cases r; exact q
  | cons v vs ih=>cases r with | cons e r=>exact .cons e (ih r)
theorem VRs.one {v:Value} {d:D} (e:VR P adr V h v d):VRs P adr V h [v] [d]:=.cons e .nil
theorem VRs.get_val {vs:List Value} {ds:List D} (r:VRs P adr V h vs ds) {k:Nat} {v:Value} (hk:vs[k]? = some v):∃ d,ds[k]? = some d∧VR P adr V h v d:=by
  have hlt:k < ds.length:=by rw [← r.length]; exact (List.getElem?_eq_some_iff.mp hk).1
  (refine xEA (r.get (List.getElem?_eq_getElem hlt)) fun w hw e=>?_)
  rw [hk] at hw; cases hw
  exact ⟨_,List.getElem?_eq_getElem hlt,e⟩
end
section
variable {P:Params} {adr:Adr} {V:List Addr} {h:Heap} {v:Value}
/-- what a value's relation says, by its shape -/
noncomputable def VRsh (P:Params) (adr:Adr) (V:List Addr) (h:Heap) (v:Value):D→Prop
  | .none=>v = .none
  | .bool b=>v = .bool b
  | .int i=>∃ t,v = .int i t
  | .str x=>∃ t,v = .str x t∧x.length ≤ sizeLine
  | .tup ds=>∃ a o vs n,v = .ref a∧h.get? a=some o∧o.cls = .type "tuple" ∧ o.data = .seq vs n∧vs.size ≤ sizeLine∧a ∉ V∧VRs P adr V h vs.toList ds
  | .lst ds=>∃ a o vs n,v = .ref a∧h.get? a=some o∧o.cls = .type "list" ∧ o.data = .seq vs n∧vs.size ≤ sizeLine∧a ∉ V∧VRs P adr V h vs.toList ds
  | .dct ds=>∃ a es n,v = .ref a∧1 < a∧h.get? a=some { cls:=.type "dict", dict:=Option.none,data:=.dict es n,slots:=#[] }∧(ds.map (·.1)).Nodup∧a ∉ V∧VRe P adr V h es.toList ds
  | .ref n=>∃ p,v = .ref p.1∧adr[n]? = some p
  | .glob g=>v=g
  | .exc X msg=>∃ e t oe vs tk,v = .ref e∧h.get? e=some oe∧oe.cls = .type X∧oe.data = .fields vs∧vs[0]? = some (.ref t)∧h.TupAt t [.str msg tk]∧e ∉ V∧t ∉ V
  | .rng a b=>∃ q t u w,v = .ref q∧IsRange h q a b 1 t u w∧q ∉ V
theorem VR.inv {d:D} (r:VR P adr V h v d):VRsh P adr V h v d:=by
  cases r with
  | none=>exact rfl
  | bool b=>exact rfl
  | int i t=>exact ⟨t,rfl⟩
  | str x t hx=>exact ⟨t,rfl,hx⟩
  | tup h1 h2 h3 h4 h5 h6=>exact ⟨_,_,_,_,rfl,h1,h2,h3,h4,h5,h6⟩
  | lst h1 h2 h3 h4 h5 h6=>exact ⟨_,_,_,_,rfl,h1,h2,h3,h4,h5,h6⟩
  | dct h1 h2 h3 h4 h5=>exact ⟨_,_,_,rfl,h1,h2,h3,h4,h5⟩
  | ref hp=>exact ⟨_,rfl,hp⟩
  | glob=>exact rfl
  | exc h1 h2 h3 h4 h5 h6 h7=>exact ⟨_,_,_,_,_,rfl,h1,h2,h3,h4,h5,h6,h7⟩
  | rng h1 h2=>exact ⟨_,_,_,_,rfl,h1,h2⟩
theorem VR.i_none (r:VR P adr V h v .none):v = .none:=r.inv
theorem VR.i_bool {b:Bool} (r:VR P adr V h v (.bool b)):v = .bool b:=r.inv
theorem VR.i_int {i:Int} (r:VR P adr V h v (.int i)):∃ t,v = .int i t:=r.inv
theorem VR.i_str {x:PySem.Str} (r:VR P adr V h v (.str x)):∃ t,v = .str x t∧x.length ≤ sizeLine:=r.inv
theorem VR.i_tup {ds:List D} (r:VR P adr V h v (.tup ds)):∃ a o vs n,v = .ref a∧h.get? a=some o∧o.cls = .type "tuple" ∧ o.data = .seq vs n∧vs.size ≤ sizeLine∧a ∉ V∧VRs P adr V h vs.toList ds:=r.inv
theorem VR.i_lst {ds:List D} (r:VR P adr V h v (.lst ds)):∃ a o vs n,v = .ref a∧h.get? a=some o∧o.cls = .type "list" ∧ o.data = .seq vs n∧vs.size ≤ sizeLine∧a ∉ V∧VRs P adr V h vs.toList ds:=r.inv
theorem VR.i_dctF {ds:List (PySem.Str × D)} (r:VR P adr V h v (.dct ds)):∃ a es n,v = .ref a∧1 < a∧h.get? a=some { cls:=.type "dict", dict:=Option.none,data:=.dict es n,slots:=#[] }∧(ds.map (·.1)).Nodup∧a ∉ V∧VRe P adr V h es.toList ds:=r.inv
theorem VR.i_dct1 {ds:List (PySem.Str × D)} (r:VR P adr V h v (.dct ds)):∃ a,v = .ref a∧1 < a:=let ⟨a,_,_,e,b,_⟩:=r.i_dctF; ⟨a,e,b⟩
theorem VR.i_dct {ds:List (PySem.Str × D)} (r:VR P adr V h v (.dct ds)):∃ a,v = .ref a:=let ⟨a,e,_⟩:=r.i_dct1; ⟨a,e⟩
theorem VR.i_ref {n:Nat} (r:VR P adr V h v (.ref n)):∃ p,v = .ref p.1∧adr[n]? = some p:=r.inv
theorem VR.i_glob {g:Value} (r:VR P adr V h v (.glob g)):v=g:=r.inv
theorem VR.i_exc {X:String} {msg:PySem.Str} (r:VR P adr V h v (.exc X msg)):∃ e t oe vs tk,v = .ref e∧h.get? e=some oe∧oe.cls = .type X∧oe.data = .fields vs∧vs[0]? = some (.ref t)∧h.TupAt t [.str msg tk]∧e ∉ V∧t ∉ V:=r.inv
/-- a value that is not None -/
noncomputable def D.solid:D→Bool
  | .bool _ | .int _ | .str _ | .tup _ | .lst _ | .ref _=>true
  | _=>false
theorem VR.solid {d:D} (hd:d.solid=true) (r:VR P adr V h v d):v ≠ .none:=by
  intro e
  subst e
  cases r
  · cases hd
  · cases hd
theorem VRs.i_cons {vs:List Value} {d:D} {ds:List D} (r:VRs P adr V h vs (d :: ds)):∃ v ws,vs=v :: ws∧VR P adr V h v d∧VRs P adr V h ws ds:=by
  cases r with
  | cons a b=>exact ⟨_,_,rfl,a,b⟩
theorem VRs.i_nil {vs:List Value} (r:VRs P adr V h vs []):vs=[]:=by cases r; rfl
theorem VRs.i_one {vs:List Value} {d:D} (r:VRs P adr V h vs [d]):∃ v,vs=[v]∧VR P adr V h v d:=by
  (refine xEEAA r.i_cons fun v ws q0z a b=>?_; subst q0z)
  exact ⟨v,by rw [b.i_nil],a⟩
theorem VRs.i_two {vs:List Value} {d e:D} (r:VRs P adr V h vs [d,e]):∃ v w,vs=[v,w]∧VR P adr V h v d∧VR P adr V h w e:=by
  (refine xEEAA r.i_cons fun v ws q0z a b=>?_; subst q0z)
  (refine xEA b.i_one fun w e b'=>?_)
  subst e
  exact ⟨v,w,rfl,a,b'⟩
end
/-- how a store's object lies -/
noncomputable def ORep (P:Params) (adr:Adr) (V:List Addr) (h:Heap) (p:Addr × Addr):AO→Prop
  | .dead=>True
  | .lst ds=>∃ n vs,h.get? p.1=some { cls:=.type "list", dict:=none,data:=.seq vs n,slots:=#[] }∧vs.size ≤ sizeLine∧VRs P adr V h vs.toList ds
  | .ins C at_=>h.get? p.1=some (instObj C p.2)∧∃ es n,h.get? p.2=some { cls:=.type "dict", dict:=none,data:=.dict es n,slots:=#[] }∧VRe P adr V h es.toList at_
structure Heaps (G:Amb) (c:Cx) (S:Gs):Prop where
  ok:G.Ok
  stays:G.base.StaysIn S.h
  frames:c.A.frames=some c.stack
  funs:S.h.FunFrames G.base c.stack
  fdict:∀ L ∈ c.fs,(∃ o es n,S.h.get? L=some o∧o.data = .dict es n)∧L ∉ S.reg
  xs:∀ L ∈ c.X,(∃ o,S.h.get? L=some o)∧L ∉ S.reg∧G.base.get? L=none
  len:S.adr.length=S.σ.length
  store:∀ (n:Nat) (p:Addr × Addr) (o:AO),S.adr[n]? = some p→S.σ[n]? = some o→ORep G.w.params S.adr (vol c S) S.h p o
  new:∀ a ∈ S.reg,G.base.get? a=none
  nodup:S.reg.Nodup
/-- an expression's step -/
structure Ext (c:Cx) (S S':Gs):Prop where
  adr:AdrLe S.adr S'.adr
  keep:∀ b o,S.h.get? b=some o→b ∉ S.reg→S'.h.get? b=some o∨(b ∈ c.fs∧∃ sl,S'.h.get? b=some { o with slots:=sl })
  fresh:∀ a ∈ S'.reg,a ∈ S.reg∨S.h.get? a=none
  live:∀ a o,S.h.get? a=some o→∃ o',S'.h.get? a=some o'
theorem Ext.refl (c:Cx) (S:Gs):Ext c S S:=⟨.refl _,fun _ _ e _=>.inl e,fun _ h=>.inl h,fun _ o e=>⟨o,e⟩⟩
theorem Ext.trans {c:Cx} {S S' S'':Gs} (x:Ext c S S') (y:Ext c S' S''):Ext c S S'':=by
  refine ⟨x.adr.trans y.adr,fun b o e hb=>?_,fun a ha=>?_,fun a o e=>?_⟩
  · have hb':b ∉ S'.reg:=fun hm=>by
      rcases x.fresh b hm with q | q
      · exact hb q
      · rw [e] at q; cases q
    rcases x.keep b o e hb with q | ⟨hf,sl,q⟩
    · exact y.keep b o q hb'
    · rcases y.keep b _ q hb' with q' | ⟨hf',sl',q'⟩
      · exact .inr ⟨hf,sl,q'⟩
      · exact .inr ⟨hf,sl',q'⟩
  · rcases y.fresh a ha with q | q
    · exact x.fresh a q
    · refine .inr ?_
      cases e:S.h.get? a with
      | none=>rfl
      | some o=>(refine xE (x.live a o e) fun o' e'=>?_); rw [q] at e'; cases e'
  · (refine xE (x.live a o e) fun o' e'=>?_)
    exact y.live a o' e'
theorem Ext.pres {c:Cx} {S S':Gs} (x:Ext c S S'):Pres (vol c S) S.h S'.h:=fun a o hn e=>by
  have h1:a ∉ S.reg:=fun q=>hn (List.mem_append_left _ q)
  rcases x.keep a o e h1 with q | ⟨hf,_⟩
  · exact q
  · exact absurd (List.mem_append_right _ (List.mem_append_left _ hf)) hn
theorem Ext.volLe {c:Cx} {S S':Gs} (x:Ext c S S'):VolLe S.h (vol c S) (vol c S'):=fun a ha=>by
  rcases List.mem_append.mp ha with q | q
  · rcases x.fresh a q with r | r
    · exact .inl (List.mem_append_left _ r)
    · exact .inr r
  · exact .inl (List.mem_append_right _ q)
noncomputable def Rv (G:Amb) (c:Cx) (S:Gs) (v:Value) (d:D):Prop:=VR G.w.params S.adr (vol c S) S.h v d
noncomputable def Rvs (G:Amb) (c:Cx) (S:Gs) (v:List Value) (d:List D):Prop:=VRs G.w.params S.adr (vol c S) S.h v d
theorem Rv.ext {G:Amb} {c:Cx} {S S':Gs} {v:Value} {d:D} (r:Rv G c S v d) (x:Ext c S S'):Rv G c S' v d:=VR.mono x.pres x.adr x.volLe r
theorem Rvs.ext {G:Amb} {c:Cx} {S S':Gs} {v:List Value} {d:List D} (r:Rvs G c S v d) (x:Ext c S S'):Rvs G c S' v d:=VRs.mono x.pres x.adr x.volLe r
theorem Ext.ns {c:Cx} {S S':Gs} (x:Ext c S S') {L:Addr} {m:PySem.Str→Option Value} (hL:L ∉ S.reg) (hn:S.h.Ns L m):S'.h.Ns L m:=by
  (refine xEEEAA hn fun o es ep ho hd r=>?_; try clear hn)
  rcases x.keep L o ho hL with q | ⟨_,sl,q⟩
  · exact ⟨o,es,ep,q,hd,r⟩
  · exact ⟨_,es,ep,q,hd,r⟩
theorem Ext.cell {c:Cx} {S S':Gs} (x:Ext c S S') {k:Addr} {v:Option Value} (hk:k ∉ S.reg) (hc:S.h.IsCell k v):S'.h.IsCell k v:=by
  (refine xEA hc fun o ho hd=>?_; try clear hc)
  rcases x.keep k o ho hk with q | ⟨_,sl,q⟩
  · exact ⟨o,q,hd⟩
  · exact ⟨_,q,hd⟩
noncomputable abbrev Fr:=PySem.Str→Option D
noncomputable def upd (fr:Fr) (x:PySem.Str) (d:D):Fr:=fun y=>if y=x then some d else fr y
/-- the running frame's names -/
structure EnvOk (G:Amb) (c:Cx) (env:Env) (fr:Fr) (S:Gs):Prop where
  kind:env.scope.kind = .function
  glob:env.globals=mainGlobals
  blt:env.builtins=builtinsNs
  frame:env.frame=c.fenv.frame
  loc:env.locals ∈ c.fs ++ c.X
  vars:∃ m,S.h.Ns env.locals m∧∀ x d,fr x=some d→env.kindOf x=some .local→∃ v,m x=some v∧Rv G c S v d
  cell:∀ x,(env.kindOf x=some .cell∨env.kindOf x=some .free)→∃ k v0,env.cells.lookup x=some k∧S.h.IsCell k v0∧∀ d,fr x=some d→∃ v,v0=some v∧Rv G c S v d
  own:∀ x k,env.cells.lookup x=some k→k ∈ c.X
  apart:∀ x y k,env.cells.lookup x=some k→env.cells.lookup y=some k→x=y
theorem Heaps.big {G:Amb} {c:Cx} {S:Gs} (H:Heaps G c S):1 < S.h.objs.size:=by
  (refine xEEEA H.ok.g fun o _ _ ho _=>?_)
  have:=Heap.lt_size (H.stays _ _ ho)
  exact Nat.lt_trans (by decide) this
theorem Heaps.vol_new {G:Amb} {c:Cx} {S:Gs} (H:Heaps G c S) {a:Addr} (ha:a ∈ vol c S):G.base.get? a=none:=by
  rcases List.mem_append.mp ha with q | q
  · exact H.new a q
  · rcases List.mem_append.mp q with q | q
    · exact (H.funs.mem q).1
    · exact (H.xs a q).2.2
theorem Ext.env {G:Amb} {c:Cx} {env:Env} {fr:Fr} {S S':Gs} (H:Heaps G c S) (x:Ext c S S') (V:EnvOk G c env fr S):EnvOk G c env fr S':=by
  have hL:env.locals ∉ S.reg:=by
    rcases List.mem_append.mp V.loc with q | q
    · exact (H.fdict _ q).2
    · exact (H.xs _ q).2.1
  refine ⟨V.kind,V.glob,V.blt,V.frame,V.loc,?_,fun y hy=>?_,V.own,V.apart⟩
  · (refine xEA V.vars fun m hn hm=>?_)
    exact ⟨m,x.ns hL hn,fun y d hd hk=>let ⟨v,hv,r⟩:=hm y d hd hk; ⟨v,hv,r.ext x⟩⟩
  · (refine xEEAA (V.cell y hy) fun k v0 hl hc hd=>?_)
    exact ⟨k,v0,hl,x.cell (H.xs k (V.own y k hl)).2.1 hc,fun d q=>let ⟨v,hv,r⟩:=hd d q; ⟨v,hv,r.ext x⟩⟩
end Mine
end
section
open PySem PySem.W PyProof.Rows
namespace Mine
/-! what runs never lowers the count of tokens -/
theorem runs_toks {M:Model} {Γ:Ctx} {p:Pos} {t:Sem Fin} {fs:List Frame} {s:Shared} {e:End} {s':Shared} (h:Runs M Γ p t fs s e s'):s.toks ≤ s'.toks:=by
  induction h with
  | done | raise | yield=>exact Nat.le_refl _
  | again _ _ ih | rule _ ih | «at» _ ih | load _ _ ih | update _ _ ih | loadIfAlive _ ih | point _ ih | alloc _ ih | ask _ ih | choose _ _ ih | os _ ih | handled _ ih | genState _ _ ih | stack _ ih | thread _ ih | newGen _ ih=>exact ih
  | fresh _ ih=>exact Nat.le_trans (Nat.le_succ _) ih
  | call _ _ i1 i2=>exact Nat.le_trans i1 i2
  | callSusp _ ih=>exact ih
  | resumeFresh _ _ _ _ i1 i2=>exact Nat.le_trans i1 i2
  | resumeSuspended _ _ _ _ i1 i2=>exact Nat.le_trans i1 i2
  | resumeJustStarted _ _ _ ih=>exact ih
  | resumeThrowFresh _ _ ih=>exact ih
  | resumeRunning _ _ ih=>exact ih
  | resumeFinished _ _ ih=>exact ih
  | segRet _ _ i1 i2=>exact Nat.le_trans i1 i2
  | segGen _ _ i1 i2=>exact Nat.le_trans i1 i2
  | segSuspOut _ _ ih=>exact ih
  | segSuspGen _ _ _ _ i1 i2=>exact Nat.le_trans i1 i2
theorem wakes_toks {M:Model} {Γ:Ctx} {p:Pos} {g:Nat} {r:Resume} {s:Shared} {res:GenResult} {s':Shared} (h:Wakes M Γ p g r s res s'):s.toks ≤ s'.toks:=by
  unfold Wakes at h
  split at h
  · exact h.elim
  · split at h
    · obtain ⟨_,_,h1,_,_,e⟩:=h; rw [e]; have q:=runs_toks h1; exact q
    · rw [h.2]; exact Nat.le_refl _
    · rw [h.2]; exact Nat.le_refl _
  · obtain ⟨_,_,h1,_,_,e⟩:=h; rw [e]; have q:=runs_toks h1; exact q
  · rw [h.2]; exact Nat.le_refl _
  · rw [h.2]; exact Nat.le_refl _
theorem wp_toks {α:Type} {M:Model} {Γ:Ctx} (t:Sem α):∀ {n:Nat} {Q:α→Pos→Shared→Prop} {E:Value→Pos→Shared→Prop} {p:Pos} {s:Shared},n ≤ s.toks→Sem.wp M Γ t Q E p s→Sem.wp M Γ t (fun a p s'=>n ≤ s'.toks∧Q a p s') (fun e p s'=>n ≤ s'.toks∧E e p s') p s:=by
  induction t with
  | pure a=>exact fun hn h=>⟨hn,h⟩
  | raise e=>exact fun hn h=>⟨hn,h⟩
  | unsupported | finish | register | yield | fork | await=>exact fun _ h=>h.elim
  | rule _ k ih | «at» _ k ih | point _ k ih | handled _ k ih | stack k ih | thread k ih | loadIfAlive _ k ih | ask k ih | alloc _ k ih | os _ _ k ih | newGen _ k ih=>exact fun hn h=>ih _ hn h
  | load a _ k ih=>exact fun hn h=>let ⟨o,e,h⟩:=h; ⟨o,e,ih o hn h⟩
  | update a _ f k ih=>exact fun hn h=>⟨h.1,ih _ hn h.2⟩
  | fresh k ih=>exact fun hn h=>ih _ (Nat.le_succ_of_le hn) h
  | choose src n k ih=>exact fun hn h=>⟨h.1,ih _ hn h.2⟩
  | call c h _ _ k ih=>exact fun hn w=>let ⟨r,s1,h1,h2⟩:=w; ⟨r,s1,h1,ih r (Nat.le_trans hn (runs_toks h1)) h2⟩
  | genState g k ih=>exact fun hn w=>let ⟨st,e,h⟩:=w; ⟨st,e,ih _ hn h⟩
  | resume g r _ k ih=>exact fun hn w=>let ⟨res,s1,h1,h2⟩:=w; ⟨res,s1,h1,ih _ (Nat.le_trans hn (wakes_toks h1)) h2⟩
theorem wpAny_toks {α:Type} {M:Model} {A:Around} {t:Sem α} {Q:α→Shared→Prop} {E:Value→Shared→Prop} {s:Shared} (h:wpAny M A t Q E s):wpAny M A t (fun a s'=>s.toks ≤ s'.toks∧Q a s') (fun e s'=>s.toks ≤ s'.toks∧E e s') s :=
  fun Γ p hΓ=>wp_toks t (Nat.le_refl _) (h Γ p hΓ)
theorem wpAny_up {α:Type} {M:Model} {A:Around} {t:Sem α} {Q:α→Shared→Prop} {E:Value→Shared→Prop} {s:Shared} {lo:Nat} (hp:lo ≤ s.toks) (h:wpAny M A t (fun a s'=>lo ≤ s'.toks→Q a s') (fun e s'=>lo ≤ s'.toks→E e s') s):wpAny M A t Q E s :=
  wpAny_mono (wpAny_toks h) (fun _ _ z=>z.2 (Nat.le_trans hp z.1)) fun _ _ z=>z.2 (Nat.le_trans hp z.1)
end Mine
end
section
open PySem PySem.W PyProof.Rows
namespace Mine
/-- the shared state with another heap and another token -/
noncomputable abbrev ShN (s:Shared) (h:Heap) (tk:Nat):Shared:={ s with heap:=h,toks:=tk }
/-- a count of tokens -/
noncomputable abbrev Tk (lo:Nat):={ n:Nat // lo ≤ n }
noncomputable abbrev ShT {lo:Nat} (s:Shared) (h:Heap) (tk:Tk lo):Shared:=ShN s h tk.1
inductive Out (α:Type) where
  | val (a:α)
  | exc (X:String) (msg:PySem.Str)
theorem nVE {α:Type} {a:α} {X:String} {m:PySem.Str} {P:Prop} (h:Out.val a=Out.exc X m):P:=by cases h
theorem nEV {α:Type} {a:α} {X:String} {m:PySem.Str} {P:Prop} (h:Out.exc X m=Out.val a):P:=by cases h
theorem valE {α:Type} {a b:α} (h:Out.val a=Out.val b):a=b:=by cases h; rfl
theorem excA {α:Type} {X Y:String} {m k:PySem.Str} (h:(Out.exc X m:Out α) = .exc Y k):X=Y:=by cases h; rfl
theorem excB {α:Type} {X Y:String} {m k:PySem.Str} (h:(Out.exc X m:Out α) = .exc Y k):m=k:=by cases h; rfl
/-- an exception on its way: hr is the heap when it was raised, the left frames' objects out of sight -/
noncomputable def Thr (G:Amb) (c:Cx) (hr:Heap) (e:Addr) (X:String) (msg:PySem.Str) (h':Heap):Prop :=
  (∃ tk,Heap.MadeExcOf hr h' e (.type X) [.str msg tk]) ∨
  ∃ t tk,h'.TupAt t [.str msg tk]∧hr.get? t=none∧hr.get? e=none∧hr.UpToSlots h' ∧
    (Heap.FlyingW (hideAll hr c.fs) c.stack e (.type X) (.ref t) h'∨∃ L,c.fenv.frame=some L∧Heap.HeldW (hideAll hr c.fs) c.stack e (.type X) (.ref t) L h')
/-- what a tree does: from S (its heap is s's) to an outcome, the store behind it being σ' -/
noncomputable def Tr {α β:Type} (G:Amb) (c:Cx) (S:Gs) (s:Shared) (R:Gs→α→β→Prop) (t:Sem α) (out:Out β) (σ':List AO):Prop :=
  ∀ (Q:α→Shared→Prop) (E:Value→Shared→Prop),
    (∀ b,out = .val b→∀ a (S':Gs) (tk:Tk G.lo),S'.σ=σ'→Heaps G c S'→Ext c S S'→R S' a b→Q a (ShT s S'.h tk)) →
    (∀ X msg,out = .exc X msg→∀ (S':Gs) e h' (tk:Tk G.lo),S'.σ=σ'→Heaps G c S'→Ext c S S'→Thr G c S'.h e X msg h'→E (.ref e) (ShT s h' tk)) →
    wpAny G.M c.A t Q E s
section
variable {G:Amb} {c:Cx} {S:Gs} {s:Shared}
theorem Tr.cast {α β:Type} {R:Gs→α→β→Prop} {t:Sem α} {o o':Out β} {σ1 σ':List AO} (e:some (o,σ1)=some (o',σ')) (h:Tr G c S s R t o σ1):Tr G c S s R t o' σ':=by (have k1:=s2A e; have k2:=s2B e; clear e; subst k1 k2); exact h
/-- the use of a tree that ends in a value -/
theorem Tr.onVal {α β:Type} {R:Gs→α→β→Prop} {t:Sem α} {b:β} {σ':List AO} (h:Tr G c S s R t (.val b) σ') {Q:α→Shared→Prop} {E:Value→Shared→Prop}
    (k:∀ a (S':Gs) (tk:Tk G.lo),S'.σ=σ'→Heaps G c S'→Ext c S S'→R S' a b→Q a (ShT s S'.h tk)):wpAny G.M c.A t Q E s :=
  h Q E (fun b' hb=>by (have k1:=valE hb; clear hb; subst k1); exact k) fun X msg hh=>nVE hh
theorem Tr.onExc {α β:Type} {R:Gs→α→β→Prop} {t:Sem α} {X:String} {msg:PySem.Str} {σ':List AO} (h:Tr G c S s R t (.exc X msg) σ') {Q:α→Shared→Prop} {E:Value→Shared→Prop}
    (k:∀ (S':Gs) e h' (tk:Tk G.lo),S'.σ=σ'→Heaps G c S'→Ext c S S'→Thr G c S'.h e X msg h'→E (.ref e) (ShT s h' tk)):wpAny G.M c.A t Q E s :=
  h Q E (fun b' hb=>nEV hb) fun X msg hh=>by (have k1:=excA hh; have k2:=excB hh; clear hh; subst k1 k2); exact k
/-- the count of tokens never goes down: so a rule need not say that it stays above naught -/
theorem Tr.weak {α β:Type} {R:Gs→α→β→Prop} {t:Sem α} {out:Out β} {σ':List AO} (hp:G.lo ≤ s.toks)
    (h:∀ (Q:α→Shared→Prop) (E:Value→Shared→Prop),
      (∀ b,out = .val b→∀ a (S':Gs) (tk:Nat),S'.σ=σ'→Heaps G c S'→Ext c S S'→R S' a b→Q a (ShN s S'.h tk)) →
      (∀ X msg,out = .exc X msg→∀ (S':Gs) e h' (tk:Nat),S'.σ=σ'→Heaps G c S'→Ext c S S'→Thr G c S'.h e X msg h'→E (.ref e) (ShN s h' tk)) →
      wpAny G.M c.A t Q E s):Tr G c S s R t out σ':=fun Q E hq hx =>
  wpAny_mono (wpAny_toks (h (fun a s'=>s.toks ≤ s'.toks→Q a s') (fun e s'=>s.toks ≤ s'.toks→E e s')
    (fun b hb a S' tk e H x r hle=>hq b hb a S' ⟨tk,Nat.le_trans hp hle⟩ e H x r)
    fun X msg ho S' e h' tk e' H x th hle=>hx X msg ho S' e h' ⟨tk,Nat.le_trans hp hle⟩ e' H x th)) (fun _ _ z=>z.2 z.1) fun _ _ z=>z.2 z.1
theorem Tr.pure {α β:Type} {R:Gs→α→β→Prop} {a:α} {b:β} (H:Heaps G c S) (hs:s.heap=S.h) (h:R S a b) (hp:G.lo ≤ s.toks:=by first | exact Subtype.property _ | exact Run.tok (by assumption) | exact Ho.tok (by assumption)):Tr G c S s R (pure a:Sem α) (.val b) S.σ :=
  fun Q E hv _=>wpAny_pure (by have:=hv b rfl a S ⟨s.toks,hp⟩ rfl H (.refl ..) h; rw [← hs] at this; exact this)
theorem Tr.bind {α β γ δ:Type} {R₁:Gs→α→β→Prop} {R₂:Gs→γ→δ→Prop} {t:Sem α} {f:α→Sem γ} {out₁:Out β} {out₂:Out δ} {σ₁ σ₂:List AO}
    (h₁:Tr G c S s R₁ t out₁ σ₁)
    (hv:∀ b,out₁ = .val b→∀ a (S₁:Gs) (tk:Tk G.lo),S₁.σ=σ₁→Heaps G c S₁→Ext c S S₁→R₁ S₁ a b→Tr G c S₁ (ShT s S₁.h tk) R₂ (f a) out₂ σ₂)
    (he:∀ X msg,out₁ = .exc X msg→out₂ = .exc X msg∧σ₂=σ₁):Tr G c S s R₂ (t >>= f) out₂ σ₂:=by
  intro Q E hq hx
  refine wpAny_bind (h₁ _ E (fun b hb a S₁ tk e1 H1 x1 r1=>?_) fun X msg hm S₁ e h' tk e1 H1 x1 th=>?_)
  · exact hv b hb a S₁ tk e1 H1 x1 r1 Q E (fun b2 hb2 a2 S2 tk2 e2 H2 x2 r2=>hq b2 hb2 a2 S2 tk2 e2 H2 (x1.trans x2) r2)
      fun X msg hm S2 e h' tk2 e2 H2 x2 th=>hx X msg hm S2 e h' tk2 e2 H2 (x1.trans x2) th
  · (refine xA (he X msg hm) fun h2 h3=>?_)
    exact hx X msg h2 S₁ e h' tk (e1.trans h3.symm) H1 x1 th
theorem Tr.mono {α β:Type} {R R':Gs→α→β→Prop} {t:Sem α} {out:Out β} {σ':List AO} (h:Tr G c S s R t out σ') (hr:∀ S' a b,Ext c S S'→R S' a b→R' S' a b):Tr G c S s R' t out σ' :=
  fun Q E hq hx=>h Q E (fun b hb a S' tk e H x r=>hq b hb a S' tk e H x (hr _ _ _ x r)) hx
theorem Tr.of_wp {α β:Type} {R:Gs→α→β→Prop} {t:Sem α} {b:β} {σ':List AO}
    (h:∀ (Q:α→Shared→Prop) (E:Value→Shared→Prop),(∀ a (S':Gs) (tk:Nat),S'.σ=σ'→Heaps G c S'→Ext c S S'→R S' a b→Q a (ShN s S'.h tk))→wpAny G.M c.A t Q E s) (hp:G.lo ≤ s.toks:=by first | exact Subtype.property _ | exact Run.tok (by assumption) | exact Ho.tok (by assumption)) :
    Tr G c S s R t (.val b) σ':=Tr.weak hp fun Q E hq _=>h Q E fun a S' tk e H x r=>hq b rfl a S' tk e H x r
/-- ahead: steps that touch nothing -/
theorem Tr.of_imp {α β:Type} {R:Gs→α→β→Prop} {t t':Sem α} {out:Out β} {σ':List AO} (h:Tr G c S s R t out σ')
    (k:∀ (Q:α→Shared→Prop) (E:Value→Shared→Prop),wpAny G.M c.A t Q E s→wpAny G.M c.A t' Q E s):Tr G c S s R t' out σ' :=
  fun Q E hq hx=>k Q E (h Q E hq hx)
theorem Tr.standAt {α β:Type} {R:Gs→α→β→Prop} {p:Pos} {f:Unit→Sem α} {out:Out β} {σ':List AO} (h:Tr G c S s R (f ()) out σ'):Tr G c S s R (standAt p >>= f) out σ' :=
  h.of_imp fun _ _ w=>wpAny_bind (wpAny_standAt w)
theorem Tr.holding {α β:Type} {R:Gs→α→β→Prop} {vs:List Value} {t:Sem α} {out:Out β} {σ':List AO} (h:Tr G c S s R t out σ'):Tr G c S s R (PySem.holding vs t) out σ' :=
  h.of_imp fun _ _ w=>wpAny_holding w
end
noncomputable abbrev Mo (β:Type):=Fr→List AO→Option (Out β × List AO)
noncomputable def Mo.pure {β:Type} (b:β):Mo β:=fun _ σ=>some (.val b,σ)
noncomputable def Mo.fail {β:Type} : Mo β:=fun _ _=>none
noncomputable def Mo.bind {α β:Type} (m:Mo α) (f:α→Mo β):Mo β:=fun fr σ=>match m fr σ with
  | some (.val a,σ')=>f a fr σ'
  | some (.exc X msg,σ')=>some (.exc X msg,σ')
  | none=>none
noncomputable def Mo.opt {β:Type} (o:Option β):Mo β:=fun _ σ=>o.map fun b=>(.val b,σ)
noncomputable def Mo.var (x:PySem.Str):Mo D:=fun fr σ=>(fr x).map fun d=>(.val d,σ)
structure Run (G:Amb) (hn:Bool) (n:Nat) (Z:Scope) (c:Cx) (env:Env) (fr:Fr) (S:Gs) (s:Shared):Prop where
  scope:env.scope=Z
  room:c.A.depth + 3 * n < recursionLimit
  units:c.A.units + 30 * n < cLine
  hand:hn=true→c.A.handled=none
  heap:s.heap=S.h
  tok:G.lo ≤ s.toks
  H:Heaps G c S
  V:EnvOk G c env fr S
theorem Run.step {G:Amb} {hn:Bool} {n:Nat} {Z:Scope} {c:Cx} {env:Env} {fr:Fr} {S S':Gs} {s:Shared} {tk:Tk G.lo} (r:Run G hn n Z c env fr S s) (H:Heaps G c S') (x:Ext c S S') :
    Run G hn n Z c env fr S' (ShT s S'.h tk):=⟨r.scope,r.room,r.units,r.hand,rfl,tk.2,H,x.env r.H r.V⟩
noncomputable def Ev (G:Amb) (hn:Bool) (n:Nat) (Z:Scope) (e:Expr) (m:Mo D):Prop :=
  ∀ c env fr S s out σ',Run G hn n Z c env fr S s→m fr S.σ=some (out,σ')→Tr G c S s (Rv G c) (eval e env) out σ'
/-- a test -/
noncomputable def Cd (G:Amb) (hn:Bool) (n:Nat) (Z:Scope) (e:Expr) (m:Mo Bool):Prop :=
  ∀ c env fr S s out σ',Run G hn n Z c env fr S s→m fr S.σ=some (out,σ')→Tr G c S s (fun _ a b=>a=b) (isTrue e env (eval e env)) out σ'
section
variable {G:Amb} {c:Cx} {S:Gs} {s:Shared} {fr:Fr}
theorem Tr.bindM {α β γ δ:Type} {R₁:Gs→α→β→Prop} {R₂:Gs→γ→δ→Prop} {t:Sem α} {k:α→Sem γ} {m:Mo β} {f:β→Mo δ} {out:Out δ} {σ':List AO}
    (hm:Mo.bind m f fr S.σ=some (out,σ')) (h₁:∀ out₁ σ₁,m fr S.σ=some (out₁,σ₁)→Tr G c S s R₁ t out₁ σ₁)
    (hv:∀ b a (S₁:Gs) (tk:Tk G.lo),Heaps G c S₁→Ext c S S₁→R₁ S₁ a b→f b fr S₁.σ=some (out,σ')→Tr G c S₁ (ShT s S₁.h tk) R₂ (k a) out σ') :
    Tr G c S s R₂ (t >>= k) out σ':=by
  unfold Mo.bind at hm
  cases q:m fr S.σ with
  | none=>rw [q] at hm; exact nnS hm
  | some p =>
    obtain ⟨o₁,σ₁⟩:=p
    rw [q] at hm
    cases o₁ with
    | val b =>
      refine Tr.bind (h₁ _ _ q) (fun b' hb=>?_) fun X msg hx=>by exact nVE hx
      (have k1:=valE hb; clear hb; subst k1)
      exact fun a S₁ tk e1 H1 x1 r1=>hv b a S₁ tk H1 x1 r1 (e1.symm ▸ hm)
    | exc X msg =>
      refine Tr.bind (h₁ _ _ q) (fun b' hb=>by exact nEV hb) fun X' msg' hx=>?_
      (have k1:=excA hx; have k2:=excB hx; clear hx; subst k1 k2); (have k1:=s2A hm; have k2:=s2B hm; clear hm; subst k1 k2)
      exact ⟨rfl,rfl⟩
end
section
variable {G:Amb} {hn:Bool} {n:Nat} {Z:Scope}
/-- a value: a step that makes none of the store's objects and touches no object -/
theorem Tr.tok {G:Amb} {c:Cx} {S:Gs} {s:Shared} {α β:Type} {R:Gs→α→β→Prop} {t:Sem α} {b:β} (H:Heaps G c S) (hs:s.heap=S.h)
    (h:∀ (Q:α→Shared→Prop) (E:Value→Shared→Prop),(∀ a (tk:Nat),R S a b→Q a { s with toks:=tk })→wpAny G.M c.A t Q E s) (hp:G.lo ≤ s.toks:=by first | exact Subtype.property _ | exact Run.tok (by assumption) | exact Ho.tok (by assumption)):Tr G c S s R t (.val b) S.σ :=
  Tr.of_wp (hp:=hp) fun Q E hq=>h Q E fun a tk r=>by
    have:=hq a S tk rfl H (.refl ..) r
    rw [← hs] at this; exact this
theorem Ev.kNone {k pos} : Ev G hn n Z (.Constant .none k pos) (Mo.pure .none):=by
  intro c env fr S s out σ' r hm
  refine Tr.cast hm ?_
  exact Tr.tok r.H r.heap fun Q E hq=>wpAny_pure (hq _ s.toks .none)
theorem Ev.kBool {b k pos} : Ev G hn n Z (.Constant (.bool b) k pos) (Mo.pure (.bool b)):=by
  intro c env fr S s out σ' r hm
  refine Tr.cast hm ?_
  exact Tr.tok r.H r.heap fun Q E hq=>wpAny_pure (hq _ s.toks (.bool b))
theorem Ev.kInt {i k pos} : Ev G hn n Z (.Constant (.int i) k pos) (Mo.pure (.int i)):=by
  intro c env fr S s out σ' r hm
  refine Tr.cast hm ?_
  exact Tr.tok r.H r.heap fun Q E hq=>wpAny_mkInt (hq _ _ (.int i _))
theorem Ev.kStr {x k pos} (hx:x.length ≤ sizeLine):Ev G hn n Z (.Constant (.str x) k pos) (Mo.pure (.str x)):=by
  intro c env fr S s out σ' r hm
  refine Tr.cast hm ?_
  exact Tr.tok r.H r.heap fun Q E hq=>wpAny_mkText (hq _ _ (.str x _ hx))
theorem kindOf_scope {env:Env} {Z:Scope} {x:PySem.Str} (h:env.scope=Z):env.kindOf x=Z.names.lookup x:=by unfold Env.kindOf; rw [h]
theorem Ev.loc {x pos} (hk:Z.names.lookup x=some .local) (hd:(x == ("__debug__" : PySem.Str))=false):Ev G hn n Z (.Name x pos) (Mo.var x):=by
  intro c env fr S s out σ' r hm
  unfold Mo.var at hm
  (refine xEA (Option.map_eq_some_iff.mp hm) fun d hd1 hd2=>?_)
  (have k1:=p2A hd2; have k2:=p2B hd2; clear hd2; subst k1 k2)
  (refine xEA r.V.vars fun m hns hv=>?_)
  (refine xEA (hv x d hd1 ((kindOf_scope r.scope).trans hk)) fun v hmv rv=>?_)
  exact Tr.tok r.H r.heap fun Q E hq=>wpAny_Name (wpAny_loadName_local r.V.kind ((kindOf_scope r.scope).trans hk) (by rw [r.heap]; exact hns) hmv (hq _ s.toks rv)) hd
theorem Ev.cel {x pos} (hk:Z.names.lookup x=some .cell) (hd:(x == ("__debug__" : PySem.Str))=false):Ev G hn n Z (.Name x pos) (Mo.var x):=by
  intro c env fr S s out σ' r hm
  unfold Mo.var at hm
  (refine xEA (Option.map_eq_some_iff.mp hm) fun d hd1 hd2=>?_)
  (have k1:=p2A hd2; have k2:=p2B hd2; clear hd2; subst k1 k2)
  have hk':=(kindOf_scope r.scope).trans hk
  (refine xEEAA (r.V.cell x (.inl hk')) fun k v0 hl hc hv=>?_)
  (refine xEA (hv d hd1) fun v q0z rv=>?_; subst q0z)
  exact Tr.tok r.H r.heap fun Q E hq=>wpAny_Name (wpAny_loadName_cell r.V.kind hk' hl (by rw [r.heap]; exact hc) (hq _ s.toks rv)) hd
theorem Heaps.kin {c:Cx} {S:Gs} (H:Heaps G c S):G.K.In S.h:=H.ok.inK.keeps H.stays
theorem Ev.glo {x pos v} (hk:Z.names.lookup x=some .globalImplicit) (e:nsIn G.K mainGlobals x=some (some v)) (hd:(x == ("__debug__" : PySem.Str))=false):Ev G hn n Z (.Name x pos) (Mo.pure (.glob v)):=by
  intro c env fr S s out σ' r hm
  refine Tr.cast hm ?_
  refine Tr.tok r.H r.heap fun Q E hq=>Calls.Name_function_global r.V.kind ((kindOf_scope r.scope).trans hk) (Calls.loadGlobal_global (mg:=G.mg) (v:=v) ?_ (mg_of r.H.ok.inK r.H.ok.g e) (hq _ s.toks (.glob v))) hd
  rw [r.V.glob,r.heap]; exact r.H.ok.g.keeps r.H.stays
theorem Ev.blt {x pos v} (hk:Z.names.lookup x=some .globalImplicit) (e:nsIn G.K mainGlobals x=some none) (hv:bootBuiltins x=some v) (hnm:x ≠ "__name__") (hd:(x == ("__debug__" : PySem.Str))=false):Ev G hn n Z (.Name x pos) (Mo.pure (.glob v)):=by
  intro c env fr S s out σ' r hm
  refine Tr.cast hm ?_
  refine Tr.tok r.H r.heap fun Q E hq=>Calls.Name_function_global r.V.kind ((kindOf_scope r.scope).trans hk) (Calls.loadGlobal_builtin (mg:=G.mg) (mb:=G.mb) (v:=v) ?_ (mg_none_of r.H.ok.inK r.H.ok.g e) ?_ ((r.H.ok.builtins x hnm).trans hv) (hq _ s.toks (.glob v))) hd
  · rw [r.V.glob,r.heap]; exact r.H.ok.g.keeps r.H.stays
  · rw [r.V.blt,r.heap]; exact r.H.ok.b.keeps r.H.stays
end
end Mine
end
section
open PySem PySem.W PyProof.Rows
namespace Mine
theorem mem_reg:∀ {adr:Adr} {σ:List AO} {a:Addr},a ∈ reg adr σ→∃ (n:Nat) (p:Addr × Addr) (o:AO),adr[n]? = some p∧σ[n]? = some o∧a ∈ regOf p o
  | [],_,_,h=>by cases h
  | _ :: _,[],_,h=>by cases h
  | p :: ps,o :: os,a,h=>by
    rcases List.mem_append.mp h with q | q
    · exact ⟨0,p,o,rfl,rfl,q⟩
    · (refine xEEEAA (mem_reg q) fun n p' o' h1 h2 h3=>?_)
      exact ⟨n + 1,p',o',h1,h2,h3⟩
theorem reg_mem:∀ {adr:Adr} {σ:List AO} {n:Nat} {p:Addr × Addr} {o:AO},adr[n]? = some p→σ[n]? = some o→∀ a ∈ regOf p o,a ∈ reg adr σ
  | [],_,n,_,_,h,_,_,_=>by simp at h
  | _ :: _,[],n,_,_,_,h,_,_=>by simp at h
  | p :: ps,o :: os,0,_,_,h1,h2,a,ha=>by
    simp at h1 h2; subst h1 h2
    exact List.mem_append_left _ ha
  | p :: ps,o :: os,n + 1,_,_,h1,h2,a,ha=>List.mem_append_right _ (reg_mem (by simpa using h1) (by simpa using h2) a ha)
theorem reg_append:∀ {adr:Adr} {σ:List AO} {p:Addr × Addr} {o:AO},adr.length=σ.length→reg (adr ++ [p]) (σ ++ [o])=reg adr σ ++ regOf p o
  | [],[],p,o,_=>by simp [reg]
  | [],_ :: _,_,_,h=>by simp at h
  | _ :: _,[],_,_,h=>by simp at h
  | p :: ps,o :: os,p',o',h=>by
    show regOf p o ++ reg (ps ++ [p']) (os ++ [o'])=_
    rw [reg_append (by simpa using h)]
    show _=(regOf p o ++ reg ps os) ++ _
    rw [List.append_assoc]
section
variable {G:Amb} {c:Cx} {S:Gs}
theorem Heaps.reg_some (H:Heaps G c S) {a:Addr} (ha:a ∈ S.reg):∃ o,S.h.get? a=some o:=by
  (refine xEEEAA (mem_reg ha) fun n p o h1 h2 h3=>?_)
  have:=H.store n p o h1 h2
  cases o with
  | dead=>cases h3
  | lst ds =>
    (refine xEEA this fun _ _ ho _=>?_; try clear this)
    cases h3 with
    | head=>exact ⟨_,ho⟩
    | tail _ q=>cases q
  | ins C at_ =>
    (refine xAEEA this fun ho _ _ hd _=>?_; try clear this)
    cases h3 with
    | head=>exact ⟨_,ho⟩
    | tail _ q =>
      cases q with
      | head=>exact ⟨_,hd⟩
      | tail _ q=>cases q
theorem Heaps.fs_some (H:Heaps G c S) {a:Addr} (ha:a ∈ c.fs):∃ o,S.h.get? a=some o:=by
  (refine xA (H.fdict a ha) fun q0z _=>?_; refine xEEEA q0z fun o _ _ ho _=>?_)
  exact ⟨o,ho⟩
theorem Heaps.vol_some (H:Heaps G c S) {a:Addr} (ha:a ∈ vol c S):∃ o,S.h.get? a=some o:=by
  rcases List.mem_append.mp ha with q | q
  · exact H.reg_some q
  · rcases List.mem_append.mp q with q | q
    · exact H.fs_some q
    · exact (H.xs a q).1
theorem Heaps.size_notin (H:Heaps G c S):S.h.objs.size ∉ vol c S:=fun hm=>by
  (refine xE (H.vol_some hm) fun o ho=>?_)
  exact Nat.lt_irrefl _ (Heap.lt_size ho)
theorem ORep.mono {P:Params} {adr adr':Adr} {V V':List Addr} {h h':Heap} {p:Addr × Addr} {o:AO} (hp:Pres V h h') (ha:AdrLe adr adr') (hv:VolLe h V V') (hk:∀ a ∈ regOf p o,∀ x,h.get? a=some x→h'.get? a=some x) (r:ORep P adr V h p o):ORep P adr' V' h' p o:=by
  cases o with
  | dead=>trivial
  | lst ds =>
    obtain ⟨n,vs,ho,hz,r⟩:=r
    exact ⟨n,vs,hk _ (.head _) _ ho,hz,VRs.mono hp ha hv r⟩
  | ins C at_ =>
    obtain ⟨ho,es,n,hd,r⟩:=r
    exact ⟨hk _ (.head _) _ ho,es,n,hk _ (.tail _ (.head _)) _ hd,VRe.mono hp ha hv r⟩
/-- all that stands stays: the heap is only grown -/
theorem Heaps.grow (H:Heaps G c S) {h':Heap} (k:∀ b o,S.h.get? b=some o→h'.get? b=some o):Heaps G c { S with h:=h' }∧Ext c S { S with h:=h' }:=by
  have xx:Ext c S { S with h:=h' }:=⟨.refl _,fun b o e _=>.inl (k b o e),fun _ h=>.inl h,fun a o e=>⟨o,k a o e⟩⟩
  refine ⟨⟨H.ok,fun b o e=>k b o (H.stays b o e),H.frames,H.funs.of_keeps fun b o e _=>⟨o,k b o e,rfl⟩,fun L hL=>?_,fun L hL=>?_,H.len,fun n p o h1 h2=>?_,H.new,H.nodup⟩,xx⟩
  · (refine xA (H.fdict L hL) fun q0z r=>?_; refine xEEEA q0z fun o es m ho hd=>?_)
    exact ⟨⟨o,es,m,k _ _ ho,hd⟩,r⟩
  · (refine xA (H.xs L hL) fun q0z r=>?_; refine xE q0z fun o ho=>?_)
    exact ⟨⟨o,k _ _ ho⟩,r⟩
  · exact ORep.mono xx.pres xx.adr xx.volLe (fun a _ x e=>k a x e) (H.store n p o h1 h2)
theorem Heaps.push (H:Heaps G c S) (o:Obj):Heaps G c { S with h:=S.h.push o }∧Ext c S { S with h:=S.h.push o }:=H.grow fun _ _ e=>Heap.get?_push_of_some _ e
end
end Mine
end
section
open PySem PySem.W PyProof.Rows
namespace Mine
/-- what a tree without names asks of where it runs -/
structure Ho (G:Amb) (hn:Bool) (n:Nat) (c:Cx) (S:Gs) (s:Shared):Prop where
  room:c.A.depth + 3 * n < recursionLimit
  units:c.A.units + 30 * n < cLine
  hand:hn=true→c.A.handled=none
  heap:s.heap=S.h
  tok:G.lo ≤ s.toks
  H:Heaps G c S
theorem Run.ho {G:Amb} {hn:Bool} {n:Nat} {Z:Scope} {c:Cx} {env:Env} {fr:Fr} {S:Gs} {s:Shared} (r:Run G hn n Z c env fr S s):Ho G hn n c S s:=⟨r.room,r.units,r.hand,r.heap,r.tok,r.H⟩
theorem Ho.step {G:Amb} {hn:Bool} {n:Nat} {c:Cx} {S S':Gs} {s:Shared} {tk:Tk G.lo} (r:Ho G hn n c S s) (H:Heaps G c S'):Ho G hn n c S' (ShT s S'.h tk):=⟨r.room,r.units,r.hand,rfl,tk.2,H⟩
noncomputable abbrev F1:=D→List AO→Option (Out D × List AO)
noncomputable abbrev F2:=D→D→List AO→Option (Out D × List AO)
noncomputable def Op1 (G:Amb) (hn:Bool) (n:Nat) (t:Value→Sem Value) (f:F1):Prop :=
  ∀ c S s v d out σ',Ho G hn n c S s→Rv G c S v d→f d S.σ=some (out,σ')→Tr G c S s (Rv G c) (t v) out σ'
noncomputable def Op2 (G:Amb) (hn:Bool) (n:Nat) (t:Value→Value→Sem Value) (f:F2):Prop :=
  ∀ c S s va vb da db out σ',Ho G hn n c S s→Rv G c S va da→Rv G c S vb db→f da db S.σ=some (out,σ')→Tr G c S s (Rv G c) (t va vb) out σ'
noncomputable def Mo.op1 (f:F1) (m:Mo D):Mo D:=Mo.bind m fun a _ σ=>f a σ
noncomputable def Mo.op2 (f:F2) (m k:Mo D):Mo D:=Mo.bind m fun a=>Mo.bind k fun b _ σ=>f a b σ
noncomputable def truD:D→Option Bool
  | .none=>some false
  | .bool b=>some b
  | .int i=>some (decide (i ≠ 0))
  | .str x=>some (decide (x.length ≠ 0))
  | .lst ds=>some (!ds.isEmpty)
  | _=>Option.none
noncomputable def Mo.tru (m:Mo D):Mo Bool:=Mo.bind m fun a=>Mo.opt (truD a)
section
variable {G:Amb} {hn:Bool} {n:Nat} {Z:Scope} {c:Cx} {S:Gs} {s:Shared}
theorem trOperate {R:Gs→Value→D→Prop} {vs:List Value} {t:Sem Value} {out:Out D} {σ':List AO} (h:Tr G c S s R t out σ'):Tr G c S s R (operate vs t) out σ' :=
  h.of_imp fun _ _ w=>wpAny_operating w
theorem Ev.bin {l r:Expr} {op:Operator} {pos:Pos} {ml mr:Mo D} {f:F2} (hl:Ev G hn n Z l ml) (hr:Ev G hn n Z r mr) (ho:Op2 G hn n (binaryOp op) f):Ev G hn n Z (.BinOp l op r pos) (Mo.op2 f ml mr):=by
  intro c env fr S s out σ' q hm
  show Tr G c S s (Rv G c) (do let a ← eval l env; let b ← holding [a] (eval r env); standAt pos; operate [a,b] (binaryOp op a b)) out σ'
  refine Tr.bindM hm (fun o1 σ1 h1=>hl c env fr S s o1 σ1 q h1) fun da va S1 tk H1 x1 ra h2=>?_
  have q1:=q.step (tk:=tk) H1 x1
  refine Tr.bindM h2 (fun o2 σ2 h3=>(hr c env fr S1 _ o2 σ2 q1 h3).holding) fun db vb S2 tk2 H2 x2 rb h4=>?_
  have q2:=q1.step (tk:=tk2) H2 x2
  exact Tr.standAt (trOperate (ho c S2 _ va vb da db out σ' q2.ho (ra.ext x2) rb h4))
theorem Ev.cmp {l r:Expr} {op:CmpOp} {pos:Pos} {ml mr:Mo D} {f:F2} (hl:Ev G hn n Z l ml) (hr:Ev G hn n Z r mr) (ho:Op2 G hn n (compareOp op) f) (hb:behindInMarks op r=false:=by rfl):Ev G hn n Z (.Compare l [op] [r] pos) (Mo.op2 f ml mr):=by
  intro c env fr S s out σ' q hm
  rw [eval_Compare1,markedBehindIn_of_false hb]
  refine Tr.bindM hm (fun o1 σ1 h1=>hl c env fr S s o1 σ1 q h1) fun da va S1 tk H1 x1 ra h2=>?_
  have q1:=q.step (tk:=tk) H1 x1
  refine Tr.bindM h2 (fun o2 σ2 h3=>(hr c env fr S1 _ o2 σ2 q1 h3).holding) fun db vb S2 tk2 H2 x2 rb h4=>?_
  have q2:=q1.step (tk:=tk2) H2 x2
  exact Tr.standAt (trOperate (ho c S2 _ va vb da db out σ' q2.ho (ra.ext x2) rb h4))
theorem sizeLine63 {k:Nat} (h:k ≤ sizeLine):(k:Int) < 2 ^ 63:=by
  have:sizeLine=16777216:=rfl
  omega
/-- truth of a value -/
theorem trTruthy {v:Value} {d:D} {b:Bool} (q:Ho G hn n c S s) (r:Rv G c S v d) (ht:truD d=some b):Tr G c S s (fun _ a b=>a=b) (truthy v) (.val b) S.σ:=by
  refine Tr.tok q.H q.heap fun Q E hq=>?_
  cases r with
  | none=>(have k1:=s1E ht; clear ht; subst k1); exact wpAny_pure (hq _ s.toks rfl)
  | bool b'=>(have k1:=s1E ht; clear ht; subst k1); exact wpAny_pure (hq _ s.toks rfl)
  | int i t =>
    (have k1:=s1E ht; clear ht; subst k1)
    refine truthy_int (hq _ s.toks ?_)
    by_cases h:i=0 <;> simp [h]
  | str x t hx =>
    (have k1:=s1E ht; clear ht; subst k1)
    refine PySem.P.truthy_str (by have:=sizeLine63 hx; omega) (hq _ _ ?_)
    by_cases h:x.length=0 <;> simp [h]
  | tup e hc hd hz hv rs=>exact nnS ht
  | @lst a o vs n ds e hc hd hz hv rs =>
    (have k1:=s1E ht; clear ht; subst k1)
    refine wpAny_truthy_list (items:=vs) ⟨_,by rw [q.heap]; exact e,hc,_,hd⟩ (sizeLine63 hz) (hq _ _ ?_)
    have:=rs.length
    cases ds with
    | nil=>simp at this; simp [this]
    | cons d ds =>
      have:vs ≠ #[]:=by intro h; subst h; simp at this
      simp [this]
  | dct=>exact nnS ht
  | ref=>exact nnS ht
  | glob=>exact nnS ht
  | exc=>exact nnS ht
  | rng=>exact nnS ht
theorem Cd.val {e:Expr} {m:Mo D} (h:Ev G hn n Z e m) (he:∀ env,isTrue e env (eval e env)=(do let v ← eval e env; standAt e.pos; holding [v] (truthy v)):=by intro _; rfl):Cd G hn n Z e (Mo.tru m):=by
  intro c env fr S s out σ' q hm
  rw [he]
  refine Tr.bindM hm (fun o1 σ1 h1=>h c env fr S s o1 σ1 q h1) fun da va S1 tk H1 x1 ra h2=>?_
  (refine xEA (Option.map_eq_some_iff.mp h2) fun b hb h3=>?_)
  (have k1:=p2A h3; have k2:=p2B h3; clear h3; subst k1 k2)
  exact Tr.standAt (Tr.holding (trTruthy (q.step H1 x1).ho ra hb))
/-- tests of two parts -/
noncomputable def Mo.ite {α:Type} (m:Mo Bool) (a b:Mo α):Mo α:=Mo.bind m fun t=>if t then a else b
theorem Cd.cmp {l r:Expr} {op:CmpOp} {pos:Pos} {ml mr:Mo D} {f:F2} (hl:Ev G hn n Z l ml) (hr:Ev G hn n Z r mr) (ho:Op2 G hn n (compareOp op) f) (hb:behindInMarks op r=false:=by rfl):Cd G hn n Z (.Compare l [op] [r] pos) (Mo.tru (Mo.op2 f ml mr)):=by
  intro c env fr S s out σ' q hm
  rw [isTrue_Compare1,markedBehindIn_of_false hb]
  have hm':Mo.bind ml (fun a=>Mo.bind mr fun b=>Mo.bind (fun _ σ=>f a b σ) fun t=>Mo.opt (truD t)) fr S.σ=some (out,σ'):=by
    rw [← hm]
    unfold Mo.tru Mo.op2 Mo.bind
    dsimp only
    cases ml fr S.σ with
    | none=>rfl
    | some p =>
      obtain ⟨o1,σ1⟩:=p
      cases o1 with
      | exc=>rfl
      | val a =>
        dsimp only
        cases mr fr σ1 with
        | none=>rfl
        | some p =>
          obtain ⟨o1,σ1⟩:=p
          cases o1 with
          | exc=>rfl
          | val b=>rfl
  refine Tr.bindM hm' (fun o1 σ1 h1=>hl c env fr S s o1 σ1 q h1) fun da va S1 tk H1 x1 ra h2=>?_
  have q1:=q.step (tk:=tk) H1 x1
  refine Tr.bindM h2 (fun o2 σ2 h3=>(hr c env fr S1 _ o2 σ2 q1 h3).holding) fun db vb S2 tk2 H2 x2 rb h4=>?_
  have q2:=q1.step (tk:=tk2) H2 x2
  refine Tr.standAt (Tr.bindM h4 (fun o3 σ3 h5=>trOperate (ho c S2 _ va vb da db o3 σ3 q2.ho (ra.ext x2) rb h5)) fun dt vt S3 tk3 H3 x3 rt h6=>?_)
  (refine xEA (Option.map_eq_some_iff.mp h6) fun b hb h7=>?_)
  (have k1:=p2A h7; have k2:=p2B h7; clear h7; subst k1 k2)
  exact Tr.holding (trTruthy (q2.step H3 x3).ho rt hb)
theorem Ev.ite {t a b:Expr} {pos:Pos} {mt:Mo Bool} {ma mb:Mo D} (ht:Cd G hn n Z t mt) (ha:Ev G hn n Z a ma) (hb:Ev G hn n Z b mb):Ev G hn n Z (.IfExp t a b pos) (Mo.ite mt ma mb):=by
  intro c env fr S s out σ' q hm
  show Tr G c S s (Rv G c) (do if ← isTrue t env (eval t env) then eval a env else eval b env) out σ'
  refine Tr.bindM hm (fun o1 σ1 h1=>ht c env fr S s o1 σ1 q h1) fun b' a' S1 tk H1 x1 ra h2=>?_
  subst ra
  cases a' with
  | true=>exact ha c env fr S1 _ out σ' (q.step H1 x1) h2
  | false=>exact hb c env fr S1 _ out σ' (q.step H1 x1) h2
noncomputable def Mo.ands:List (Mo Bool)→Mo Bool
  | []=>Mo.pure true
  | m :: r=>Mo.bind m fun b=>if b then Mo.ands r else Mo.pure false
noncomputable def Mo.ors:List (Mo Bool)→Mo Bool
  | []=>Mo.pure false
  | m :: r=>Mo.bind m fun b=>if b then Mo.pure true else Mo.ors r
noncomputable def CdL (G:Amb) (hn:Bool) (n:Nat) (Z:Scope):List Expr→List (Mo Bool)→Prop
  | [],[]=>True
  | e :: es,m :: ms=>Cd G hn n Z e m∧CdL G hn n Z es ms
  | _,_=>False
theorem trAnds:∀ {es:List Expr} {ms:List (Mo Bool)},CdL G hn n Z es ms→∀ {c env fr S s out σ'},Run G hn n Z c env fr S s→Mo.ands ms fr S.σ=some (out,σ')→Tr G c S s (fun _ a b=>a=b) (allTrue .And es env) out σ'
  | [],[],_,c,env,fr,S,s,out,σ',q,hm=>by refine Tr.cast hm ?_; exact Tr.pure q.H q.heap rfl
  | [],_ :: _,h,_,_,_,_,_,_,_,_,_=>h.elim
  | _ :: _,[],h,_,_,_,_,_,_,_,_,_=>h.elim
  | e :: es,m :: ms,h,c,env,fr,S,s,out,σ',q,hm=>by
    show Tr G c S s _ (do match BoolOp.And,← isTrue e env (eval e env) with | .And,false=>pure false | .Or,true=>pure true | _,_=>allTrue .And es env) out σ'
    refine Tr.bindM hm (fun o1 σ1 h1=>h.1 c env fr S s o1 σ1 q h1) fun b' a' S1 tk H1 x1 ra h2=>?_
    subst ra
    cases a' with
    | true=>exact trAnds h.2 (q.step H1 x1) h2
    | false=>refine Tr.cast h2 ?_; exact Tr.pure H1 rfl rfl
theorem trOrs:∀ {es:List Expr} {ms:List (Mo Bool)},CdL G hn n Z es ms→∀ {c env fr S s out σ'},Run G hn n Z c env fr S s→Mo.ors ms fr S.σ=some (out,σ')→Tr G c S s (fun _ a b=>a=b) (allTrue .Or es env) out σ'
  | [],[],_,c,env,fr,S,s,out,σ',q,hm=>by refine Tr.cast hm ?_; exact Tr.pure q.H q.heap rfl
  | [],_ :: _,h,_,_,_,_,_,_,_,_,_=>h.elim
  | _ :: _,[],h,_,_,_,_,_,_,_,_,_=>h.elim
  | e :: es,m :: ms,h,c,env,fr,S,s,out,σ',q,hm=>by
    show Tr G c S s _ (do match BoolOp.Or,← isTrue e env (eval e env) with | .And,false=>pure false | .Or,true=>pure true | _,_=>allTrue .Or es env) out σ'
    refine Tr.bindM hm (fun o1 σ1 h1=>h.1 c env fr S s o1 σ1 q h1) fun b' a' S1 tk H1 x1 ra h2=>?_
    subst ra
    cases a' with
    | false=>exact trOrs h.2 (q.step H1 x1) h2
    | true=>refine Tr.cast h2 ?_; exact Tr.pure H1 rfl rfl
theorem Cd.and {es:List Expr} {pos:Pos} {ms:List (Mo Bool)} (h:CdL G hn n Z es ms):Cd G hn n Z (.BoolOp .And es pos) (Mo.ands ms):=by
  intro c env fr S s out σ' q hm
  rw [arm_isTrue_BoolOp]
  exact trAnds h q hm
theorem Cd.or {es:List Expr} {pos:Pos} {ms:List (Mo Bool)} (h:CdL G hn n Z es ms):Cd G hn n Z (.BoolOp .Or es pos) (Mo.ors ms):=by
  intro c env fr S s out σ' q hm
  rw [arm_isTrue_BoolOp]
  exact trOrs h q hm
/-- BoolOp for its value -/
noncomputable def Mo.andV:List (Mo D)→Mo D
  | []=>Mo.fail
  | [m]=>m
  | m :: r=>Mo.bind m fun v=>Mo.bind (Mo.opt (truD v)) fun b=>if b then Mo.andV r else Mo.pure v
noncomputable def Mo.orV:List (Mo D)→Mo D
  | []=>Mo.fail
  | [m]=>m
  | m :: r=>Mo.bind m fun v=>Mo.bind (Mo.opt (truD v)) fun b=>if b then Mo.pure v else Mo.orV r
noncomputable def EvL (G:Amb) (hn:Bool) (n:Nat) (Z:Scope):List Expr→List (Mo D)→Prop
  | [],[]=>True
  | e :: es,m :: ms=>Ev G hn n Z e m∧EvL G hn n Z es ms
  | _,_=>False
theorem bindOpt {α β:Type} {o:Option α} {f:α→Mo β} {fr:Fr} {σ:List AO} {r:Out β × List AO} (h:Mo.bind (Mo.opt o) f fr σ=some r):∃ a,o=some a∧f a fr σ=some r:=by
  unfold Mo.bind Mo.opt at h
  cases o with
  | none=>exact nnS h
  | some a=>exact ⟨a,rfl,h⟩
theorem trAndV {pos:Pos} : ∀ {es:List Expr} {ms:List (Mo D)},EvL G hn n Z es ms→∀ {c env fr S s out σ'},Run G hn n Z c env fr S s→Mo.andV ms fr S.σ=some (out,σ')→Tr G c S s (Rv G c) (boolOp pos .And (evalEach es env)) out σ'
  | [],[],_,c,env,fr,S,s,out,σ',q,hm=>by exact nnS hm
  | [],_ :: _,h,_,_,_,_,_,_,_,_,_=>h.elim
  | _ :: _,[],h,_,_,_,_,_,_,_,_,_=>h.elim
  | [_],_ :: _ :: _,h,_,_,_,_,_,_,_,_,_=>h.2.elim
  | _ :: _ :: _,[_],h,_,_,_,_,_,_,_,_,_=>h.2.elim
  | [e],[m],h,c,env,fr,S,s,out,σ',q,hm=>h.1 c env fr S s out σ' q hm
  | e :: e2 :: es,m :: m2 :: ms,h,c,env,fr,S,s,out,σ',q,hm=>by
    show Tr G c S s _ (do
      let v ← eval e env
      standAt pos
      let t ← holding [v] (truthy v)
      match BoolOp.And,t with
      | .And,false | .Or,true=>pure v
      | _,_=>boolOp pos .And (evalEach (e2 :: es) env)) out σ'
    refine Tr.bindM hm (fun o1 σ1 h1=>h.1 c env fr S s o1 σ1 q h1) fun d v S1 tk H1 x1 ra h2=>?_
    have q1:=q.step (tk:=tk) H1 x1
    (refine xEA (bindOpt h2) fun b hb h3=>?_)
    refine Tr.standAt (Tr.bind (Tr.holding (trTruthy q1.ho ra hb)) (fun b' hb' b'' S2 tk2 e2 H2 x2 r2=>?_) fun _ _ hx=>by exact nVE hx)
    (have k1:=valE hb'; clear hb'; subst k1)
    subst r2
    cases b'' with
    | true=>exact trAndV h.2 (q1.step H2 x2) (by rw [e2]; exact h3)
    | false=>refine Tr.cast h3 ?_; rw [← e2]; exact Tr.pure H2 rfl (ra.ext x2)
theorem trOrV {pos:Pos} : ∀ {es:List Expr} {ms:List (Mo D)},EvL G hn n Z es ms→∀ {c env fr S s out σ'},Run G hn n Z c env fr S s→Mo.orV ms fr S.σ=some (out,σ')→Tr G c S s (Rv G c) (boolOp pos .Or (evalEach es env)) out σ'
  | [],[],_,c,env,fr,S,s,out,σ',q,hm=>by exact nnS hm
  | [],_ :: _,h,_,_,_,_,_,_,_,_,_=>h.elim
  | _ :: _,[],h,_,_,_,_,_,_,_,_,_=>h.elim
  | [_],_ :: _ :: _,h,_,_,_,_,_,_,_,_,_=>h.2.elim
  | _ :: _ :: _,[_],h,_,_,_,_,_,_,_,_,_=>h.2.elim
  | [e],[m],h,c,env,fr,S,s,out,σ',q,hm=>h.1 c env fr S s out σ' q hm
  | e :: e2 :: es,m :: m2 :: ms,h,c,env,fr,S,s,out,σ',q,hm=>by
    show Tr G c S s _ (do
      let v ← eval e env
      standAt pos
      let t ← holding [v] (truthy v)
      match BoolOp.Or,t with
      | .And,false | .Or,true=>pure v
      | _,_=>boolOp pos .Or (evalEach (e2 :: es) env)) out σ'
    refine Tr.bindM hm (fun o1 σ1 h1=>h.1 c env fr S s o1 σ1 q h1) fun d v S1 tk H1 x1 ra h2=>?_
    have q1:=q.step (tk:=tk) H1 x1
    (refine xEA (bindOpt h2) fun b hb h3=>?_)
    refine Tr.standAt (Tr.bind (Tr.holding (trTruthy q1.ho ra hb)) (fun b' hb' b'' S2 tk2 e2 H2 x2 r2=>?_) fun _ _ hx=>by exact nVE hx)
    (have k1:=valE hb'; clear hb'; subst k1)
    subst r2
    cases b'' with
    | false=>exact trOrV h.2 (q1.step H2 x2) (by rw [e2]; exact h3)
    | true=>refine Tr.cast h3 ?_; rw [← e2]; exact Tr.pure H2 rfl (ra.ext x2)
theorem Ev.and {es:List Expr} {pos:Pos} {ms:List (Mo D)} (h:EvL G hn n Z es ms):Ev G hn n Z (.BoolOp .And es pos) (Mo.andV ms):=fun _ _ _ _ _ _ _ q hm=>trAndV h q hm
theorem Ev.or {es:List Expr} {pos:Pos} {ms:List (Mo D)} (h:EvL G hn n Z es ms):Ev G hn n Z (.BoolOp .Or es pos) (Mo.orV ms):=fun _ _ _ _ _ _ _ q hm=>trOrV h q hm
/-- displays -/
noncomputable def Mo.seq:List (Mo D)→Mo (List D)
  | []=>Mo.pure []
  | m :: r=>Mo.bind m fun d=>Mo.bind (Mo.seq r) fun ds=>Mo.pure (d :: ds)
noncomputable def notStar:Expr→Bool
  | .Starred ..=>false
  | _=>true
theorem starEach_cons {e:Expr} {es:List Expr} {env:Env} (h:notStar e=true):starEach (e :: es) env=(false,eval e env) :: starEach es env:=by
  cases e <;> first | rfl | exact nFT h
theorem trSpliced {pos:Pos} : ∀ {es:List Expr} {ms:List (Mo D)},EvL G hn n Z es ms→es.all notStar=true→∀ {c env fr S s out σ'},Run G hn n Z c env fr S s→Mo.seq ms fr S.σ=some (out,σ') →
    Tr G c S s (Rvs G c) (spliced (backTo pos (starEach es env))) out σ'
  | [],[],_,_,c,env,fr,S,s,out,σ',q,hm=>by refine Tr.cast hm ?_; exact Tr.pure q.H q.heap .nil
  | [],_ :: _,h,_,_,_,_,_,_,_,_,_,_=>h.elim
  | _ :: _,[],h,_,_,_,_,_,_,_,_,_,_=>h.elim
  | e :: es,m :: ms,h,hs,c,env,fr,S,s,out,σ',q,hm=>by
    have hs2:=Bool.and_eq_true_iff.mp hs
    rw [starEach_cons hs2.1]
    show Tr G c S s _ (do
      let v ← eval e env
      return [v] ++ (← holding [v] (spliced (backTo pos (starEach es env))))) out σ'
    refine Tr.bindM hm (fun o1 σ1 h1=>h.1 c env fr S s o1 σ1 q h1) fun d v S1 tk H1 x1 ra h2=>?_
    have q1:=q.step (tk:=tk) H1 x1
    refine Tr.bindM h2 (fun o2 σ2 h3=>(trSpliced h.2 hs2.2 q1 h3).holding) fun ds vs S2 tk2 H2 x2 rb h4=>?_
    refine Tr.cast h4 ?_
    exact Tr.pure H2 rfl (.cons (ra.ext x2) rb)
theorem Rv.newTup (H:Heaps G c S) {vs:List Value} {ds:List D} (hr:Rvs G c S vs ds) (hl:vs.length ≤ sizeLine) {nn:Nat} : Rv G c { S with h:=S.h.push { cls:=.type "tuple", data:=.seq vs.toArray nn } } (.ref S.h.objs.size) (.tup ds):=by
  refine .tup (Heap.get?_push_size _ rfl) rfl rfl (by simpa using hl) H.size_notin ?_
  exact (show Rvs G c _ vs ds from hr.ext (H.push _).2)
theorem Rv.newLst (H:Heaps G c S) {vs:List Value} {ds:List D} (hr:Rvs G c S vs ds) (hl:vs.length ≤ sizeLine) {nn:Nat} : Rv G c { S with h:=S.h.push { cls:=.type "list", data:=.seq vs.toArray nn } } (.ref S.h.objs.size) (.lst ds):=by
  refine .lst (Heap.get?_push_size _ rfl) rfl rfl (by simpa using hl) H.size_notin ?_
  exact (show Rvs G c _ vs ds from hr.ext (H.push _).2)
theorem trNewTuple {vs:List Value} {ds:List D} (q:Ho G hn n c S s) (hr:Rvs G c S vs ds) (hl:ds.length ≤ sizeLine):Tr G c S s (Rv G c) (newTuple vs) (.val (.tup ds)) S.σ:=by
  have hl':vs.length ≤ sizeLine:=by have:=VRs.length hr; omega
  refine Tr.of_wp fun Q E hq=>wpAny_newObj_type ?_ (by show vs.toArray.size ≤ sizeLine; simpa using hl')
  have:=hq (.ref S.h.objs.size) { S with h:=S.h.push { cls:=.type "tuple", data:=.seq vs.toArray } } s.toks rfl (q.H.push _).1 (q.H.push _).2 (Rv.newTup q.H hr hl')
  rw [← q.heap] at this; exact this
theorem trNewList {vs:List Value} {ds:List D} (q:Ho G hn n c S s) (hr:Rvs G c S vs ds) (hl:ds.length ≤ sizeLine):Tr G c S s (Rv G c) (newList vs) (.val (.lst ds)) S.σ:=by
  have hl':vs.length ≤ sizeLine:=by have:=VRs.length hr; omega
  refine Tr.of_wp fun Q E hq=>wpAny_newObj_type ?_ (by show vs.toArray.size ≤ sizeLine; simpa using hl')
  have:=hq (.ref S.h.objs.size) { S with h:=S.h.push { cls:=.type "list", data:=.seq vs.toArray } } s.toks rfl (q.H.push _).1 (q.H.push _).2 (Rv.newLst q.H hr hl')
  rw [← q.heap] at this; exact this
noncomputable def Mo.guard {β:Type} (p:Bool) (b:β):Mo β:=Mo.opt (if p then some b else none)
noncomputable def Mo.tup (ms:List (Mo D)):Mo D:=Mo.bind (Mo.seq ms) fun ds=>Mo.guard (decide (ds.length ≤ sizeLine)) (.tup ds)
noncomputable def Mo.lst (ms:List (Mo D)):Mo D:=Mo.bind (Mo.seq ms) fun ds=>Mo.guard (decide (ds.length ≤ sizeLine)) (.lst ds)
theorem guardE {β:Type} {p:Bool} {b:β} {fr:Fr} {σ:List AO} {r:Out β × List AO} (h:Mo.guard p b fr σ=some r):p=true∧r=(.val b,σ):=by
  unfold Mo.guard Mo.opt at h
  cases p with
  | false=>exact nnS h
  | true=>(have k1:=s1E h; clear h; subst k1); exact ⟨rfl,rfl⟩
theorem Ev.tup {es:List Expr} {k:Nat} {pos:Pos} {ms:List (Mo D)} (h:EvL G hn n Z es ms) (hs:es.all notStar=true):Ev G hn n Z (.Tuple es k pos) (Mo.tup ms):=by
  intro c env fr S s out σ' q hm
  show Tr G c S s (Rv G c) (do standAt pos; newTuple (← spliced (backTo pos (starEach es env)))) out σ'
  refine Tr.standAt (Tr.bindM hm (fun o1 σ1 h1=>trSpliced h hs q h1) fun ds vs S1 tk H1 x1 ra h2=>?_)
  (refine xA (guardE h2) fun hg e=>?_)
  (have k1:=p2A e; have k2:=p2B e; clear e; subst k1 k2)
  exact trNewTuple (q.step H1 x1).ho ra (of_decide_eq_true hg)
theorem Ev.lst {es:List Expr} {pos:Pos} {ms:List (Mo D)} (h:EvL G hn n Z es ms) (hs:es.all notStar=true):Ev G hn n Z (.List es pos) (Mo.lst ms):=by
  intro c env fr S s out σ' q hm
  show Tr G c S s (Rv G c) (do standAt pos; newList (← spliced (backTo pos (starEach es env)))) out σ'
  refine Tr.standAt (Tr.bindM hm (fun o1 σ1 h1=>trSpliced h hs q h1) fun ds vs S1 tk H1 x1 ra h2=>?_)
  (refine xA (guardE h2) fun hg e=>?_)
  (have k1:=p2A e; have k2:=p2B e; clear e; subst k1 k2)
  exact trNewList (q.step H1 x1).ho ra (of_decide_eq_true hg)
end
end Mine
end
section
open PySem PySem.W PyProof.Rows
namespace Mine
noncomputable def Own (env:Env) (a:Addr):Prop:=a=env.locals∨∃ x,env.cells.lookup x=some a
/-- a statement's step: the frame's own names may turn -/
structure ExtS (c:Cx) (env:Env) (S S':Gs):Prop where
  adr:AdrLe S.adr S'.adr
  keep:∀ b o,S.h.get? b=some o→b ∉ S.reg→¬ Own env b→S'.h.get? b=some o∨(b ∈ c.fs∧∃ sl,S'.h.get? b=some { o with slots:=sl })
  fresh:∀ a ∈ S'.reg,a ∈ S.reg∨S.h.get? a=none
  live:∀ a o,S.h.get? a=some o→∃ o',S'.h.get? a=some o'
theorem Ext.s {c:Cx} {S S':Gs} (x:Ext c S S') (env:Env):ExtS c env S S':=⟨x.adr,fun b o e h _=>x.keep b o e h,x.fresh,x.live⟩
theorem ExtS.refl (c:Cx) (env:Env) (S:Gs):ExtS c env S S:=(Ext.refl c S).s env
theorem ExtS.trans {c:Cx} {env:Env} {S S' S'':Gs} (x:ExtS c env S S') (y:ExtS c env S' S''):ExtS c env S S'':=by
  refine ⟨x.adr.trans y.adr,fun b o e hb ho=>?_,fun a ha=>?_,fun a o e=>?_⟩
  · have hb':b ∉ S'.reg:=fun hm=>by
      rcases x.fresh b hm with q | q
      · exact hb q
      · rw [e] at q; exact nSn q
    rcases x.keep b o e hb ho with q | ⟨hf,sl,q⟩
    · exact y.keep b o q hb' ho
    · rcases y.keep b _ q hb' ho with q' | ⟨hf',sl',q'⟩
      · exact .inr ⟨hf,sl,q'⟩
      · exact .inr ⟨hf,sl',q'⟩
  · rcases y.fresh a ha with q | q
    · exact x.fresh a q
    · refine .inr ?_
      cases e:S.h.get? a with
      | none=>rfl
      | some o=>(refine xE (x.live a o e) fun o' e'=>?_); rw [q] at e'; exact nnS e'
  · (refine xE (x.live a o e) fun o' e'=>?_)
    exact y.live a o' e'
theorem ExtS.pres {c:Cx} {env:Env} {S S':Gs} (x:ExtS c env S S') (hown:∀ a,Own env a→a ∈ c.fs ++ c.X):Pres (vol c S) S.h S'.h:=fun a o hn e=>by
  have h1:a ∉ S.reg:=fun q=>hn (List.mem_append_left _ q)
  have h2 : ¬ Own env a:=fun q=>hn (List.mem_append_right _ (hown a q))
  rcases x.keep a o e h1 h2 with q | ⟨hf,_⟩
  · exact q
  · exact absurd (List.mem_append_right _ (List.mem_append_left _ hf)) hn
theorem ExtS.volLe {c:Cx} {env:Env} {S S':Gs} (x:ExtS c env S S'):VolLe S.h (vol c S) (vol c S'):=fun a ha=>by
  rcases List.mem_append.mp ha with q | q
  · rcases x.fresh a q with r | r
    · exact .inl (List.mem_append_left _ r)
    · exact .inr r
  · exact .inl (List.mem_append_right _ q)
theorem Rv.extS {G:Amb} {c:Cx} {env:Env} {S S':Gs} {v:Value} {d:D} (r:Rv G c S v d) (x:ExtS c env S S') (hown:∀ a,Own env a→a ∈ c.fs ++ c.X):Rv G c S' v d:=VR.mono (x.pres hown) x.adr x.volLe r
theorem Rvs.extS {G:Amb} {c:Cx} {env:Env} {S S':Gs} {v:List Value} {d:List D} (r:Rvs G c S v d) (x:ExtS c env S S') (hown:∀ a,Own env a→a ∈ c.fs ++ c.X):Rvs G c S' v d:=VRs.mono (x.pres hown) x.adr x.volLe r
/-- a tree that turns the frame's names, too -/
noncomputable def TrF {α β:Type} (G:Amb) (c:Cx) (env:Env) (S:Gs) (s:Shared) (R:Gs→α→β→Prop) (t:Sem α) (out:Out β) (fr':Fr) (σ':List AO):Prop :=
  ∀ (Q:α→Shared→Prop) (E:Value→Shared→Prop),
    (∀ b,out = .val b→∀ a (S':Gs) (tk:Tk G.lo),S'.σ=σ'→Heaps G c S'→ExtS c env S S'→EnvOk G c env fr' S'→R S' a b→Q a (ShT s S'.h tk)) →
    (∀ X msg,out = .exc X msg→∀ (S':Gs) e h' (tk:Tk G.lo),S'.σ=σ'→Heaps G c S'→ExtS c env S S'→EnvOk G c env fr' S'→Thr G c S'.h e X msg h'→E (.ref e) (ShT s h' tk)) →
    wpAny G.M c.A t Q E s
noncomputable abbrev Mf (β:Type):=Fr→List AO→Option (Out β × Fr × List AO)
noncomputable def Mf.pure {β:Type} (b:β):Mf β:=fun fr σ=>some (.val b,fr,σ)
noncomputable def Mf.lift {β:Type} (m:Mo β):Mf β:=fun fr σ=>(m fr σ).map fun p=>(p.1,fr,p.2)
noncomputable def Mf.bind {α β:Type} (m:Mf α) (f:α→Mf β):Mf β:=fun fr σ=>match m fr σ with
  | some (.val a,fr',σ')=>f a fr' σ'
  | some (.exc X msg,fr',σ')=>some (.exc X msg,fr',σ')
  | none=>none
noncomputable def Mf.set (x:PySem.Str) (d:D):Mf Unit:=fun fr σ=>some (.val (),upd fr x d,σ)
section
variable {G:Amb} {c:Cx} {env:Env} {S:Gs} {s:Shared} {fr fr':Fr} {hn:Bool} {n:Nat} {Z:Scope}
theorem Run.stepS {S':Gs} {tk:Tk G.lo} (r:Run G hn n Z c env fr S s) (H:Heaps G c S') (V:EnvOk G c env fr' S'):Run G hn n Z c env fr' S' (ShT s S'.h tk) :=
  ⟨r.scope,r.room,r.units,r.hand,rfl,tk.2,H,V⟩
theorem TrF.weak {α β:Type} {R:Gs→α→β→Prop} {t:Sem α} {out:Out β} {σ':List AO} (hp:G.lo ≤ s.toks)
    (h:∀ (Q:α→Shared→Prop) (E:Value→Shared→Prop),
      (∀ b,out = .val b→∀ a (S':Gs) (tk:Nat),S'.σ=σ'→Heaps G c S'→ExtS c env S S'→EnvOk G c env fr' S'→R S' a b→Q a (ShN s S'.h tk)) →
      (∀ X msg,out = .exc X msg→∀ (S':Gs) e h' (tk:Nat),S'.σ=σ'→Heaps G c S'→ExtS c env S S'→EnvOk G c env fr' S'→Thr G c S'.h e X msg h'→E (.ref e) (ShN s h' tk)) →
      wpAny G.M c.A t Q E s):TrF G c env S s R t out fr' σ':=fun Q E hq hx =>
  wpAny_mono (wpAny_toks (h (fun a s'=>s.toks ≤ s'.toks→Q a s') (fun e s'=>s.toks ≤ s'.toks→E e s')
    (fun b hb a S' tk e H x V r hle=>hq b hb a S' ⟨tk,Nat.le_trans hp hle⟩ e H x V r)
    fun X msg ho S' e h' tk e' H x V th hle=>hx X msg ho S' e h' ⟨tk,Nat.le_trans hp hle⟩ e' H x V th)) (fun _ _ z=>z.2 z.1) fun _ _ z=>z.2 z.1
theorem TrF.cast {α β:Type} {R:Gs→α→β→Prop} {t:Sem α} {o o':Out β} {fr1:Fr} {σ1 σ':List AO} (e:some (o,fr1,σ1)=some (o',fr',σ')) (h:TrF G c env S s R t o fr1 σ1):TrF G c env S s R t o' fr' σ':=by (have k1:=s3A e; have k2:=s3B e; have k3:=s3C e; clear e; subst k1 k2 k3); exact h
theorem Tr.f {α β:Type} {R:Gs→α→β→Prop} {t:Sem α} {out:Out β} {σ':List AO} (h:Tr G c S s R t out σ') (H:Heaps G c S) (V:EnvOk G c env fr S):TrF G c env S s R t out fr σ' :=
  fun Q E hq hx=>h Q E (fun b hb a S' tk e H' x r=>hq b hb a S' tk e H' (x.s env) (x.env H V) r) fun X msg hm S' e h' tk e' H' x th=>hx X msg hm S' e h' tk e' H' (x.s env) (x.env H V) th
theorem TrF.pure {α β:Type} {R:Gs→α→β→Prop} {a:α} {b:β} (H:Heaps G c S) (V:EnvOk G c env fr S) (hs:s.heap=S.h) (h:R S a b) (hp:G.lo ≤ s.toks:=by first | exact Subtype.property _ | exact Run.tok (by assumption) | exact Ho.tok (by assumption)):TrF G c env S s R (pure a:Sem α) (.val b) fr S.σ :=
  (Tr.pure H hs h hp).f H V
theorem TrF.bindM {α β γ δ:Type} {R₁:Gs→α→β→Prop} {R₂:Gs→γ→δ→Prop} {t:Sem α} {k:α→Sem γ} {m:Mf β} {f:β→Mf δ} {out:Out δ} {σ':List AO}
    (hm:Mf.bind m f fr S.σ=some (out,fr',σ')) (h₁:∀ out₁ fr₁ σ₁,m fr S.σ=some (out₁,fr₁,σ₁)→TrF G c env S s R₁ t out₁ fr₁ σ₁)
    (hv:∀ b fr₁ a (S₁:Gs) (tk:Tk G.lo),Heaps G c S₁→ExtS c env S S₁→EnvOk G c env fr₁ S₁→R₁ S₁ a b→f b fr₁ S₁.σ=some (out,fr',σ')→TrF G c env S₁ (ShT s S₁.h tk) R₂ (k a) out fr' σ') :
    TrF G c env S s R₂ (t >>= k) out fr' σ':=by
  unfold Mf.bind at hm
  cases q:m fr S.σ with
  | none=>rw [q] at hm; exact nnS hm
  | some p =>
    obtain ⟨o₁,fr₁,σ₁⟩:=p
    rw [q] at hm
    intro Q E hq hx
    cases o₁ with
    | val b =>
      refine wpAny_bind (h₁ _ _ _ q _ E (fun b' hb a S₁ tk e1 H1 x1 v1 r1=>?_) fun X msg hm=>by exact nVE hm)
      (have k1:=valE hb; clear hb; subst k1)
      exact hv b fr₁ a S₁ tk H1 x1 v1 r1 (e1.symm ▸ hm) Q E (fun b2 hb2 a2 S2 tk2 e2 H2 x2 v2 r2=>hq b2 hb2 a2 S2 tk2 e2 H2 (x1.trans x2) v2 r2)
        fun X msg hm S2 e h' tk2 e2 H2 x2 v2 th=>hx X msg hm S2 e h' tk2 e2 H2 (x1.trans x2) v2 th
    | exc X msg =>
      (have k1:=s3A hm; have k2:=s3B hm; have k3:=s3C hm; clear hm; subst k1 k2 k3)
      refine wpAny_bind (h₁ _ _ _ q _ E (fun b' hb=>by exact nEV hb) fun X' msg' hm S₁ e h' tk e1 H1 x1 v1 th=>?_)
      (have k1:=excA hm; have k2:=excB hm; clear hm; subst k1 k2)
      exact hx _ _ rfl S₁ e h' tk e1 H1 x1 v1 th
theorem TrF.of_imp {α β:Type} {R:Gs→α→β→Prop} {t t':Sem α} {out:Out β} {σ':List AO} (h:TrF G c env S s R t out fr' σ')
    (k:∀ (Q:α→Shared→Prop) (E:Value→Shared→Prop),wpAny G.M c.A t Q E s→wpAny G.M c.A t' Q E s):TrF G c env S s R t' out fr' σ' :=
  fun Q E hq hx=>k Q E (h Q E hq hx)
theorem TrF.standAt {α β:Type} {R:Gs→α→β→Prop} {p:Pos} {f:Unit→Sem α} {out:Out β} {σ':List AO} (h:TrF G c env S s R (f ()) out fr' σ'):TrF G c env S s R (standAt p >>= f) out fr' σ' :=
  h.of_imp fun _ _ w=>wpAny_bind (wpAny_standAt w)
theorem TrF.rule {α β:Type} {R:Gs→α→β→Prop} {p:String} {f:Unit→Sem α} {out:Out β} {σ':List AO} (h:TrF G c env S s R (f ()) out fr' σ'):TrF G c env S s R (PySem.rule p >>= f) out fr' σ' :=
  h.of_imp fun _ _ w=>wpAny_bind (wpAny_rule w)
theorem TrF.holding {α β:Type} {R:Gs→α→β→Prop} {vs:List Value} {t:Sem α} {out:Out β} {σ':List AO} (h:TrF G c env S s R t out fr' σ'):TrF G c env S s R (PySem.holding vs t) out fr' σ' :=
  h.of_imp fun _ _ w=>wpAny_holding w
theorem bindLift {α β:Type} {m:Mo α} {f:α→Mf β} {σ:List AO} {r:Out β × Fr × List AO} (h:Mf.bind (Mf.lift m) f fr σ=some r) :
    (∃ a σ1,m fr σ=some (.val a,σ1)∧f a fr σ1=some r)∨∃ X msg σ1,m fr σ=some (.exc X msg,σ1)∧r=(.exc X msg,fr,σ1):=by
  unfold Mf.bind Mf.lift at h
  cases q:m fr σ with
  | none=>rw [q] at h; exact nnS h
  | some p =>
    obtain ⟨o,σ1⟩:=p
    rw [q] at h
    cases o with
    | val a=>exact .inl ⟨a,σ1,rfl,h⟩
    | exc X msg=>(have k1:=s1E h; clear h; subst k1); exact .inr ⟨X,msg,σ1,rfl,rfl⟩
/-- an expression ahead -/
theorem TrF.bindE {α β γ δ:Type} {R₁:Gs→α→β→Prop} {R₂:Gs→γ→δ→Prop} {t:Sem α} {k:α→Sem γ} {m:Mo β} {f:β→Mf δ} {out:Out δ} {σ':List AO} (q:Run G hn n Z c env fr S s)
    (hm:Mf.bind (Mf.lift m) f fr S.σ=some (out,fr',σ')) (h₁:∀ out₁ σ₁,m fr S.σ=some (out₁,σ₁)→Tr G c S s R₁ t out₁ σ₁)
    (hv:∀ b a (S₁:Gs) (tk:Tk G.lo),Run G hn n Z c env fr S₁ (ShT s S₁.h tk)→Ext c S S₁→R₁ S₁ a b→f b fr S₁.σ=some (out,fr',σ')→TrF G c env S₁ (ShT s S₁.h tk) R₂ (k a) out fr' σ') :
    TrF G c env S s R₂ (t >>= k) out fr' σ':=by
  intro Q E hq hx
  rcases bindLift hm with ⟨a,σ1,h1,h2⟩ | ⟨X,msg,σ1,h1,e⟩
  · refine wpAny_bind (h₁ _ _ h1 _ E (fun b' hb a' S₁ tk e1 H1 x1 r1=>?_) fun X msg hm=>by exact nVE hm)
    (have k1:=valE hb; clear hb; subst k1)
    exact hv a a' S₁ tk (q.step H1 x1) x1 r1 (e1.symm ▸ h2) Q E (fun b2 hb2 a2 S2 tk2 e2 H2 x2 v2 r2=>hq b2 hb2 a2 S2 tk2 e2 H2 ((x1.s env).trans x2) v2 r2)
      fun X msg hm S2 e h' tk2 e2 H2 x2 v2 th=>hx X msg hm S2 e h' tk2 e2 H2 ((x1.s env).trans x2) v2 th
  · cases e
    refine wpAny_bind (h₁ _ _ h1 _ E (fun b' hb=>by exact nEV hb) fun X' msg' hm S₁ e h' tk e1 H1 x1 th=>?_)
    (have k1:=excA hm; have k2:=excB hm; clear hm; subst k1 k2)
    exact hx _ _ rfl S₁ e h' tk e1 H1 (x1.s env) (x1.env q.H q.V) th
theorem funFrames_of {h h' base:Heap} : ∀ {l:List Env},h.FunFrames base l→(∀ L ∈ l.filterMap (·.frame),∀ o,h.get? L=some o→(∀ vs,o.data ≠ .fields vs)→∃ o',h'.get? L=some o'∧∀ vs,o'.data ≠ .fields vs)→h'.FunFrames base l
  | [],_,_=>trivial
  | e :: r,⟨hk,⟨L,o,hf,hn,ho,hd⟩,hr⟩,k=>by
    have hm:∀ L',L' ∈ r.filterMap (·.frame)→L' ∈ (e :: r).filterMap (·.frame):=fun L' hL'=>by rw [List.filterMap_cons,hf]; exact .tail _ hL'
    (refine xEA (k L (by rw [List.filterMap_cons,hf]; exact .head _) o ho hd) fun o' ho' hd'=>?_)
    exact ⟨hk,⟨L,o',hf,hn,ho',hd'⟩,funFrames_of hr fun L' hL'=>k L' (hm L' hL')⟩
/-- the frame's own object turns -/
theorem Heaps.atLocals (H:Heaps G c S) (hL:env.locals ∈ c.fs ++ c.X) {h':Heap} {m:PySem.Str→Option Value} (hs:Heap.SameBut env.locals S.h h') (hm:h'.Ns env.locals m):Heaps G c { S with h:=h' }∧ExtS c env S { S with h:=h' }:=by
  have hLr:env.locals ∉ S.reg:=by
    rcases List.mem_append.mp hL with q | q
    · exact (H.fdict _ q).2
    · exact (H.xs _ q).2.1
  have hv:env.locals ∈ vol c S:=List.mem_append_right _ hL
  have hb:=H.vol_new hv
  (refine xEEEAA hm fun oL esL epL hoL hdL _=>?_; try clear hm)
  have same:∀ b o,b ≠ env.locals→S.h.get? b=some o→h'.get? b=some o:=fun b o hb e=>hs.extBut b o hb e
  have xx:ExtS c env S { S with h:=h' }:=⟨.refl _,fun b o e _ ho=>.inl (same b o (fun q=>ho (.inl q)) e),fun _ h=>.inl h,fun a o e=>by
    by_cases q:a=env.locals
    · subst q; exact ⟨_,hoL⟩
    · exact ⟨o,same a o q e⟩⟩
  have pres:Pres (vol c S) S.h h':=fun a o hn e=>same a o (fun q=>hn (q ▸ hv)) e
  refine ⟨⟨H.ok,fun b o e=>same b o (fun q=>by rw [q,hb] at e; exact nnS e) (H.stays b o e),H.frames,?_,fun L hL'=>?_,fun L hL'=>?_,H.len,fun n p o h1 h2=>?_,H.new,H.nodup⟩,xx⟩
  · have ff:∀ l:List Env,S.h.FunFrames G.base l→h'.FunFrames G.base l:=by
      intro l
      induction l with
      | nil=>intro _; trivial
      | cons e r ih =>
        rintro ⟨hk,⟨L,o,hf,hn,ho,hd⟩,hr⟩
        refine ⟨hk,?_,ih hr⟩
        by_cases q:L=env.locals
        · subst q; exact ⟨_,oL,hf,hn,hoL,fun vs q=>by rw [hdL] at q; exact nAny PySem.Data.ctorIdx q rfl⟩
        · exact ⟨L,o,hf,hn,same L o q ho,hd⟩
    exact ff _ H.funs
  · (refine xA (H.fdict L hL') fun q0z r=>?_; refine xEEEA q0z fun o es m ho hd=>?_)
    by_cases q:L=env.locals
    · subst q; exact ⟨⟨oL,esL,epL,hoL,hdL⟩,r⟩
    · exact ⟨⟨o,es,m,same _ _ q ho,hd⟩,r⟩
  · (refine xA (H.xs L hL') fun q0z r=>?_; refine xE q0z fun o ho=>?_)
    by_cases q:L=env.locals
    · subst q; exact ⟨⟨oL,hoL⟩,r⟩
    · exact ⟨⟨o,same _ _ q ho⟩,r⟩
  · refine ORep.mono pres (.refl _) (.of_sub _ fun _ h=>h) (fun a ha x e=>same a x (fun q=>hLr ?_) e) (H.store n p o h1 h2)
    rw [← q]; exact reg_mem h1 h2 a ha
theorem EnvOk.ownIn (V:EnvOk G c env fr S):∀ a,Own env a→a ∈ c.fs ++ c.X:=fun a ha=>by
  rcases ha with rfl | ⟨x,hx⟩
  · exact V.loc
  · exact List.mem_append_right _ (V.own x a hx)
theorem upd_self {fr:Fr} {x:PySem.Str} {d:D} : upd fr x d x=some d:=if_pos rfl
theorem upd_ne {fr:Fr} {x y:PySem.Str} {d:D} (h:y ≠ x):upd fr x d y=fr y:=if_neg h
theorem EnvOk.setLocal (H:Heaps G c S) (V:EnvOk G c env fr S) {x:PySem.Str} {v:Value} {d:D} (hk:env.kindOf x=some .local) (r:Rv G c S v d) {m:PySem.Str→Option Value} {h':Heap} (hm:S.h.Ns env.locals m)
    (hval:∀ y d,fr y=some d→env.kindOf y=some .local→∃ v,m y=some v∧Rv G c S v d)
    (hs:Heap.SameBut env.locals S.h h') (hm':h'.Ns env.locals (fun y=>if y=x then some v else m y)):EnvOk G c env (upd fr x d) { S with h:=h' }:=by
  (refine xA (H.atLocals V.loc hs hm') fun H' xx=>?_)
  refine ⟨V.kind,V.glob,V.blt,V.frame,V.loc,⟨_,hm',fun y dy hy hky=>?_⟩,fun y hy=>?_,V.own,V.apart⟩
  · by_cases q:y=x
    · subst q
      rw [upd_self] at hy; (have k1:=s1E hy; clear hy; subst k1)
      exact ⟨v,if_pos rfl,r.extS xx V.ownIn⟩
    · rw [upd_ne q] at hy
      (refine xEA (hval y dy hy hky) fun w hw rw'=>?_)
      exact ⟨w,by rw [if_neg q]; exact hw,rw'.extS xx V.ownIn⟩
  · (refine xEEAA (V.cell y hy) fun k v0 hl hc hd=>?_)
    have hne:k ≠ env.locals:=fun q=>by
      (refine xEA hc fun o ho hdo=>?_; try clear hc)
      (refine xEEEAA hm fun o2 _ _ ho2 hdo2 _=>?_; try clear hm)
      rw [q,ho2] at ho; (have k1:=s1E ho; clear ho; subst k1); rw [hdo2] at hdo; exact nAny PySem.Data.ctorIdx hdo rfl
    refine ⟨k,v0,hl,hc.sameBut hs hne,fun dy hy'=>?_⟩
    have q:y ≠ x:=fun q=>by subst q; rw [hk] at hy; rcases hy with h | h <;> cases h
    rw [upd_ne q] at hy'
    (refine xEA (hd dy hy') fun w hw rw'=>?_)
    exact ⟨w,hw,rw'.extS xx V.ownIn⟩
theorem trStoreLocal (q:Run G hn n Z c env fr S s) {x:PySem.Str} {v:Value} {d:D} (hk:Z.names.lookup x=some .local) (r:Rv G c S v d) :
    TrF G c env S s (fun _ _ _=>True) (bindName env x v) (.val ()) (upd fr x d) S.σ:=by
  refine TrF.weak q.tok ?_
  intro Q E hq _
  have hk':=(kindOf_scope q.scope).trans hk
  (refine xEA q.V.vars fun m hm hval=>?_)
  have hp:(env.scope.kind == .class || (env.scope.kind == .module && env.locals != env.globals))=false:=by rw [q.V.kind]; rfl
  refine wpAny_bindName (wpAny_storeName_local hk' (by rw [q.heap]; exact hm) (fun h' hm' hs=>?_) hp)
  rw [q.heap] at hs
  (refine xA (q.H.atLocals q.V.loc hs hm') fun H' xx=>?_)
  exact hq () rfl () { S with h:=h' } _ rfl H' xx (q.V.setLocal q.H hk' r hm hval hs hm') trivial
/-- a cell turns -/
theorem Heaps.atCell (H:Heaps G c S) {k:Addr} {v0 v1:Option Value} {h':Heap} (hX:k ∈ c.X) (h0:S.h.IsCell k v0) (hs:Heap.SameBut k S.h h') (h1:h'.IsCell k v1) {x:PySem.Str} (hx:env.cells.lookup x=some k):Heaps G c { S with h:=h' }∧ExtS c env S { S with h:=h' }:=by
  (refine xAA (H.xs k hX) fun q0z hr hb=>?_; refine xE q0z fun _ _=>?_)
  have hv:k ∈ vol c S:=List.mem_append_right _ (List.mem_append_right _ hX)
  (refine xEA h0 fun o0 ho0 hd0=>?_; try clear h0)
  (refine xEA h1 fun o1 ho1 hd1=>?_; try clear h1)
  have same:∀ b o,b ≠ k→S.h.get? b=some o→h'.get? b=some o:=fun b o hb e=>hs.extBut b o hb e
  have hfs:k ∉ c.fs:=fun q=>by
    (refine xA (H.fdict k q) fun q0z _=>?_; refine xEEEA q0z fun o es m ho hd=>?_)
    rw [ho0] at ho; (have k1:=s1E ho; clear ho; subst k1); rw [hd0] at hd; exact nAny PySem.Data.ctorIdx hd rfl
  have xx:ExtS c env S { S with h:=h' }:=⟨.refl _,fun b o e _ ho=>.inl (same b o (fun q=>ho (.inr ⟨x,q ▸ hx⟩)) e),fun _ h=>.inl h,fun a o e=>by
    by_cases q:a=k
    · subst q; exact ⟨_,ho1⟩
    · exact ⟨o,same a o q e⟩⟩
  have pres:Pres (vol c S) S.h h':=fun a o hn e=>same a o (fun q=>hn (q ▸ hv)) e
  refine ⟨⟨H.ok,fun b o e=>same b o (fun q=>by rw [q,hb] at e; exact nnS e) (H.stays b o e),H.frames,?_,fun L hL'=>?_,fun L hL'=>?_,H.len,fun n p o h1 h2=>?_,H.new,H.nodup⟩,xx⟩
  · exact funFrames_of H.funs fun L hL o ho hd=>⟨o,same L o (fun q=>hfs (q ▸ hL)) ho,hd⟩
  · (refine xA (H.fdict L hL') fun q0z r=>?_; refine xEEEA q0z fun o es m ho hd=>?_)
    exact ⟨⟨o,es,m,same _ _ (fun q=>hfs (q ▸ hL')) ho,hd⟩,r⟩
  · (refine xA (H.xs L hL') fun q0z r=>?_; refine xE q0z fun o ho=>?_)
    by_cases q:L=k
    · subst q; exact ⟨⟨o1,ho1⟩,r⟩
    · exact ⟨⟨o,same _ _ q ho⟩,r⟩
  · refine ORep.mono pres (.refl _) (.of_sub _ fun _ h=>h) (fun a ha x e=>same a x (fun q=>hr ?_) e) (H.store n p o h1 h2)
    rw [← q]; exact reg_mem h1 h2 a ha
theorem trStoreCell (q:Run G hn n Z c env fr S s) {x:PySem.Str} {v:Value} {d:D} (hk:Z.names.lookup x=some .cell) (r:Rv G c S v d) :
    TrF G c env S s (fun _ _ _=>True) (bindName env x v) (.val ()) (upd fr x d) S.σ:=by
  refine TrF.weak q.tok ?_
  intro Q E hq _
  have hk':=(kindOf_scope q.scope).trans hk
  (refine xEEAA (q.V.cell x (.inl hk')) fun k v0 hl hc _=>?_)
  refine wpAny_bindName (wpAny_storeName_cell q.V.kind hk' hl (by rw [q.heap]; exact hc) (fun h' hc' hs=>?_))
  rw [q.heap] at hs
  (refine xA (q.H.atCell (env:=env) (q.V.own x k hl) hc hs hc' hl) fun H' xx=>?_)
  refine hq () rfl () { S with h:=h' } _ rfl H' xx ⟨q.V.kind,q.V.glob,q.V.blt,q.V.frame,q.V.loc,?_,fun y hy=>?_,q.V.own,q.V.apart⟩ trivial
  · (refine xEA q.V.vars fun m hm hval=>?_)
    have hne:env.locals ≠ k:=fun e=>by
      (refine xEA hc fun o ho hdo=>?_; try clear hc)
      (refine xEEEAA hm fun o2 _ _ ho2 hdo2 _=>?_; try clear hm)
      rw [← e,ho2] at ho; (have k1:=s1E ho; clear ho; subst k1); rw [hdo2] at hdo; exact nAny PySem.Data.ctorIdx hdo rfl
    refine ⟨m,hm.sameBut hs hne,fun y dy hy hky=>?_⟩
    have e:y ≠ x:=fun e=>by subst e; rw [hk'] at hky; cases hky
    rw [upd_ne e] at hy
    (refine xEA (hval y dy hy hky) fun w hw rw'=>?_)
    exact ⟨w,hw,rw'.extS xx q.V.ownIn⟩
  · (refine xEEAA (q.V.cell y hy) fun k2 v2 hl2 hc2 hd2=>?_)
    by_cases e:y=x
    · subst e
      rw [hl] at hl2; (have k1:=s1E hl2; clear hl2; subst k1)
      refine ⟨k,some v,hl,hc',fun dy hy'=>?_⟩
      rw [upd_self] at hy'; (have k1:=s1E hy'; clear hy'; subst k1)
      exact ⟨v,rfl,r.extS xx q.V.ownIn⟩
    · have hne:k2 ≠ k:=fun e'=>e (q.V.apart y x k (e' ▸ hl2) hl)
      refine ⟨k2,v2,hl2,hc2.sameBut hs hne,fun dy hy'=>?_⟩
      rw [upd_ne e] at hy'
      (refine xEA (hd2 dy hy') fun w hw rw'=>?_)
      exact ⟨w,hw,rw'.extS xx q.V.ownIn⟩
/-- a store to one target -/
noncomputable def As (G:Amb) (hn:Bool) (n:Nat) (Z:Scope) (t:Expr) (f:D→Mf Unit):Prop :=
  ∀ c env fr S s v d out fr' σ',Run G hn n Z c env fr S s→Rv G c S v d→f d fr S.σ=some (out,fr',σ')→TrF G c env S s (fun _ _ _=>True) (assign t env v) out fr' σ'
noncomputable def NameK (Z:Scope) (x:PySem.Str):Prop:=Z.names.lookup x=some .local∨Z.names.lookup x=some .cell
theorem trBind (q:Run G hn n Z c env fr S s) {x:PySem.Str} {v:Value} {d:D} (hk:NameK Z x) (r:Rv G c S v d):TrF G c env S s (fun _ _ _=>True) (bindName env x v) (.val ()) (upd fr x d) S.σ :=
  hk.elim (fun h=>trStoreLocal q h r) fun h=>trStoreCell q h r
theorem As.name {x:PySem.Str} {pos:Pos} (hk:NameK Z x):As G hn n Z (.Name x pos) (Mf.set x):=by
  intro c env fr S s v d out fr' σ' q r hm
  refine TrF.cast hm ?_
  show TrF G c env S s _ (do PySem.standAt pos; bindName env x v) _ _ _
  exact TrF.standAt (trBind q hk r)
/-- statements -/
inductive SF where
  | next
  | brk
  | cont
  | ret (d:D)
noncomputable def RF (G:Amb) (c:Cx) (S:Gs):Flow→SF→Prop
  | .next,.next=>True
  | .brk,.brk=>True
  | .cont,.cont=>True
  | .ret v,.ret d=>Rv G c S v d
  | _,_=>False
noncomputable def Ex (G:Amb) (hn:Bool) (n:Nat) (Z:Scope) (st:Stmt) (m:Mf SF):Prop :=
  ∀ c env fr S s out fr' σ',Run G hn n Z c env fr S s→c.fenv=env→env.frame=some env.locals→m fr S.σ=some (out,fr',σ')→TrF G c env S s (RF G c) (exec st env) out fr' σ'
noncomputable def Exs (G:Amb) (hn:Bool) (n:Nat) (Z:Scope) (st:List Stmt) (m:Mf SF):Prop :=
  ∀ c env fr S s out fr' σ',Run G hn n Z c env fr S s→c.fenv=env→env.frame=some env.locals→m fr S.σ=some (out,fr',σ')→TrF G c env S s (RF G c) (execs st env) out fr' σ'
noncomputable def Mf.seq (m k:Mf SF):Mf SF:=Mf.bind m fun f=>match f with
  | .next=>k
  | .brk=>Mf.pure .brk
  | .cont=>Mf.pure .cont
  | .ret d=>Mf.pure (.ret d)
theorem Exs.nil:Exs G hn n Z [] (Mf.pure .next):=by
  intro c env fr S s out fr' σ' q _ _ hm
  refine TrF.cast hm ?_
  exact TrF.pure (a:=Flow.next) q.H q.V q.heap trivial
theorem Exs.cons {st:Stmt} {rest:List Stmt} {m k:Mf SF} (h1:Ex G hn n Z st m) (h2:Exs G hn n Z rest k):Exs G hn n Z (st :: rest) (Mf.seq m k):=by
  intro c env fr S s out fr' σ' q hf hl hm
  rw [execs_cons]
  refine TrF.bindM hm (fun o1 f1 σ1 e1=>h1 c env fr S s o1 f1 σ1 q hf hl e1) fun b fr1 a S1 tk H1 x1 V1 r1 e2=>?_
  cases a with
  | next=>cases b with
    | next=>exact h2 c env fr1 S1 _ out fr' σ' (q.stepS H1 V1) hf hl e2
    | _=>exact r1.elim
  | brk=>cases b with
    | brk=>refine TrF.cast e2 ?_; exact TrF.pure (a:=Flow.brk) H1 V1 rfl trivial
    | _=>exact r1.elim
  | cont=>cases b with
    | cont=>refine TrF.cast e2 ?_; exact TrF.pure (a:=Flow.cont) H1 V1 rfl trivial
    | _=>exact r1.elim
  | ret v=>cases b with
    | ret d=>refine TrF.cast e2 ?_; exact TrF.pure (a:=Flow.ret v) H1 V1 rfl r1
    | _=>exact r1.elim
theorem Ex.cont {pos:Pos} : Ex G hn n Z (.Continue pos) (Mf.pure .cont):=by
  intro c env fr S s out fr' σ' q _ _ hm
  refine TrF.cast hm ?_
  exact TrF.standAt (TrF.pure (a:=Flow.cont) q.H q.V q.heap trivial)
theorem Ex.ret {e:Expr} {pos:Pos} {m:Mo D} (h:Ev G hn n Z e m):Ex G hn n Z (.Return (some e) pos) (Mf.bind (Mf.lift m) fun d=>Mf.pure (.ret d)):=by
  intro c env fr S s out fr' σ' q _ _ hm
  rw [exec_Return_some]
  refine TrF.standAt (TrF.bindE q hm (fun o1 σ1 e1=>h c env fr S s o1 σ1 q e1) fun b a S1 tk q1 x1 r1 e2=>?_)
  refine TrF.cast e2 ?_
  exact TrF.pure (a:=Flow.ret a) q1.H q1.V rfl r1
theorem Ex.ite {t:Expr} {b o:List Stmt} {pos:Pos} {mt:Mo Bool} {mb mo:Mf SF} (ht:Cd G hn n Z t mt) (hb:Exs G hn n Z b mb) (ho:Exs G hn n Z o mo):Ex G hn n Z (.If t b o pos) (Mf.bind (Mf.lift mt) fun c=>if c then mb else mo):=by
  intro c env fr S s out fr' σ' q hf hl hm
  rw [exec_If]
  refine TrF.standAt (TrF.bindE q hm (fun o1 σ1 e1=>ht c env fr S s o1 σ1 q e1) fun b a S1 tk q1 x1 r1 e2=>?_)
  subst r1
  cases a with
  | true=>exact hb c env fr S1 _ out fr' σ' q1 hf hl e2
  | false=>exact ho c env fr S1 _ out fr' σ' q1 hf hl e2
theorem Ex.asgn {t value:Expr} {pos:Pos} {m:Mo D} {f:D→Mf Unit} (h:Ev G hn n Z value m) (ha:As G hn n Z t f)
    (hst:∀ env,env.scope=Z→(assignEach [t] env).map (·.2)=[assign t env]∧swapsWithSole [t] value pos.line env=pure false∧swappedStores [t] value env=pure none) :
    Ex G hn n Z (.Assign [t] value pos) (Mf.bind (Mf.lift m) fun d=>Mf.bind (f d) fun _=>Mf.pure .next):=by
  intro c env fr S s out fr' σ' q hf hl hm
  (refine xAA (hst env q.scope) fun e1 e2 e3=>?_)
  rw [exec_Assign_arm,e1,e2,e3]
  show TrF G c env S s (RF G c) (do
    PySem.standAt pos
    let v ← eval value env
    (do assign t env v; Pure.pure Flow.next)) out fr' σ'
  refine TrF.standAt (TrF.bindE q hm (fun o1 σ1 e1=>h c env fr S s o1 σ1 q e1) fun d a S1 tk q1 x1 r1 e2=>?_)
  refine TrF.bindM e2 (fun o1 f1 σ1 e4=>ha c env fr S1 _ a d o1 f1 σ1 q1 r1 e4) fun b fr1 _ S2 tk2 H2 x2 V2 _ e5=>?_
  refine TrF.cast e5 ?_
  exact TrF.pure (a:=Flow.next) H2 V2 rfl trivial
end
end Mine
end
section
open PySem PySem.W PyProof.Rows
namespace Mine
noncomputable def frB:List (PySem.Str × D)→Fr→Fr
  | [],fr=>fr
  | (x,d) :: r,fr=>frB r (upd fr x d)
noncomputable def Rbs (G:Amb) (c:Cx) (S:Gs):List (PySem.Str × Value)→List (PySem.Str × D)→Prop
  | [],[]=>True
  | (x,v) :: r,(y,d) :: q=>x=y∧Rv G c S v d∧Rbs G c S r q
  | _,_=>False
section
variable {G:Amb} {c:Cx} {S:Gs} {s:Shared}
theorem Rbs.ext {S':Gs} (x:Ext c S S'):∀ {b:List (PySem.Str × Value)} {bd:List (PySem.Str × D)},Rbs G c S b bd→Rbs G c S' b bd
  | [],[],_=>trivial
  | (_,_) :: _,(_,_) :: _,⟨h1,h2,h3⟩=>⟨h1,h2.ext x,Rbs.ext x h3⟩
theorem Rbs.i_nil {kw:List (PySem.Str × Value)} (h:Rbs G c S kw []):kw=[]:=by
  cases kw with
  | nil=>rfl
  | cons=>exact h.elim
noncomputable def HasV (R:Value→D→Prop) (kindOf:PySem.Str→Option NameKind) (m cm:PySem.Str→Option Value) (fr:Fr):Prop :=
  ∀ x d,fr x=some d→(kindOf x=some .local→∃ v,m x=some v∧R v d)∧(kindOf x=some .cell→∃ v,cm x=some v∧R v d)
theorem hasV_bind {kindOf:PySem.Str→Option NameKind} : ∀ {b:List (PySem.Str × Value)} {bd:List (PySem.Str × D)},Rbs G c S b bd→∀ {m cm:PySem.Str→Option Value} {fr:Fr},HasV (Rv G c S) kindOf m cm fr →
    HasV (Rv G c S) kindOf (bindL kindOf b m) (bindC kindOf b cm) (frB bd fr)
  | [],[],_,_,_,_,h=>h
  | (x,v) :: r,(y,d) :: q,⟨h1,h2,h3⟩,m,cm,fr,h=>by
    subst h1
    refine hasV_bind h3 fun z dz hz=>?_
    by_cases e:z=x
    · subst e
      rw [upd_self] at hz; (have k1:=s1E hz; clear hz; subst k1)
      refine ⟨fun hk=>?_,fun hk=>?_⟩
      · rw [if_pos hk]; exact ⟨v,if_pos rfl,h2⟩
      · have : ¬ kindOf z=some .local:=by rw [hk]; intro q; cases q
        rw [if_neg this]; exact ⟨v,if_pos rfl,h2⟩
    · rw [upd_ne e] at hz
      (refine xA (h z dz hz) fun h4 h5=>?_)
      refine ⟨fun hk=>?_,fun hk=>?_⟩
      · (refine xEA (h4 hk) fun w hw rw'=>?_)
        refine ⟨w,?_,rw'⟩
        by_cases hx:kindOf x=some .local
        · rw [if_pos hx]; simp only [if_neg e]; exact hw
        · rw [if_neg hx]; exact hw
      · (refine xEA (h5 hk) fun w hw rw'=>?_)
        refine ⟨w,?_,rw'⟩
        by_cases hx:kindOf x=some .local
        · rw [if_pos hx]; exact hw
        · rw [if_neg hx]; simp only [if_neg e]; exact hw
theorem Heaps.setA {A:Around} (H:Heaps G c S) (h:A.frames=c.A.frames):Heaps G { c with A:=A } S :=
  ⟨H.ok,H.stays,h.trans H.frames,H.funs,H.fdict,H.xs,H.len,H.store,H.new,H.nodup⟩
/-- the callee's place -/
noncomputable def Cx.push (c:Cx) (env:Env) (ks:List Addr):Cx:={ A:=c.A.deeper env,fenv:=env,outer:=c.stack,X:=ks ++ c.X }
theorem Cx.push_fs {env:Env} {ks:List Addr} {L:Addr} (hf:env.frame=some L):(c.push env ks).fs=L :: c.fs:=by
  show (env :: c.stack).filterMap (·.frame)=_
  rw [List.filterMap_cons,hf]; rfl
structure Entered (G:Amb) (c:Cx) (S:Gs) (env:Env) (ks:List Addr) (h₁:Heap):Prop where
  H:Heaps G (c.push env ks) { S with h:=h₁ }
  keep:∀ b o,S.h.get? b=some o→h₁.get? b=some o
  loc:S.h.get? env.locals=none
  cells:∀ a ∈ ks,S.h.get? a=none
theorem Heaps.enter (H:Heaps G c S) {env:Env} {ks:List Addr} {h₁:Heap} {m:PySem.Str→Option Value} (hf:env.frame=some env.locals) (hkind:env.scope.kind = .function)
    (hL:S.h.get? env.locals=none) (hk:∀ a ∈ ks,S.h.get? a=none∧∃ o,h₁.get? a=some o) (hn:h₁.Ns env.locals m) (keep:∀ b o,S.h.get? b=some o→h₁.get? b=some o) :
    Entered G c S env ks h₁:=by
  have base_none:∀ a,S.h.get? a=none→G.base.get? a=none:=fun a e=>by
    cases q:G.base.get? a with
    | none=>rfl
    | some o=>rw [H.stays a o q] at e; exact nSn e
  have notreg:∀ a,S.h.get? a=none→a ∉ S.reg:=fun a e hm=>by
    (refine xE (H.reg_some hm) fun o ho=>?_)
    rw [e] at ho; exact nnS ho
  (refine xEEEAA hn fun oL esL epL hoL hdL _=>?_; try clear hn)
  refine ⟨⟨H.ok,fun b o e=>keep b o (H.stays b o e),?_,?_,fun L hLm=>?_,fun L hLm=>?_,H.len,fun n p o h1 h2=>?_,H.new,H.nodup⟩,keep,hL,fun a ha=>(hk a ha).1⟩
  · show (c.A.deeper env).frames=some (env :: c.stack)
    exact Around.frames_deeper H.frames
  · refine ⟨by show env.scope.kind ≠ .module; rw [hkind]; decide,⟨env.locals,oL,hf,base_none _ hL,hoL,fun vs q=>by rw [hdL] at q; exact nAny PySem.Data.ctorIdx q rfl⟩,H.funs.of_keeps fun b o e _=>⟨o,keep b o e,rfl⟩⟩
  · rw [Cx.push_fs hf] at hLm
    rcases List.mem_cons.mp hLm with e | hm
    · subst e; exact ⟨⟨oL,esL,epL,hoL,hdL⟩,notreg _ hL⟩
    · (refine xA (H.fdict L hm) fun q0z r=>?_; refine xEEEA q0z fun o es q ho hd=>?_)
      exact ⟨⟨o,es,q,keep _ _ ho,hd⟩,r⟩
  · rcases List.mem_append.mp hLm with hm | hm
    · exact ⟨(hk L hm).2,notreg _ (hk L hm).1,base_none _ (hk L hm).1⟩
    · (refine xA (H.xs L hm) fun q0z r=>?_; refine xE q0z fun o ho=>?_)
      exact ⟨⟨o,keep _ _ ho⟩,r⟩
  · refine ORep.mono (V:=vol c S) (h:=S.h) (fun a o _ e=>keep a o e) (.refl _) (fun a ha=>?_) (fun a _ x e=>keep a x e) (H.store n p o h1 h2)
    rcases List.mem_append.mp ha with q | q
    · exact .inl (List.mem_append_left _ q)
    · rcases List.mem_append.mp q with q | q
      · rw [Cx.push_fs hf] at q
        rcases List.mem_cons.mp q with e | q
        · subst e; exact .inr hL
        · exact .inl (List.mem_append_right _ (List.mem_append_left _ q))
      · rcases List.mem_append.mp q with q | q
        · exact .inr (hk a q).1
        · exact .inl (List.mem_append_right _ (List.mem_append_right _ q))
theorem Entered.vol {env:Env} {ks:List Addr} {h₁:Heap} (x:Entered G c S env ks h₁) (hf:env.frame=some env.locals):VolLe S.h (vol c S) (vol (c.push env ks) { S with h:=h₁ }):=fun a ha=>by
  rcases List.mem_append.mp ha with q | q
  · exact .inl (List.mem_append_left _ q)
  · rcases List.mem_append.mp q with q | q
    · rw [Cx.push_fs hf] at q
      rcases List.mem_cons.mp q with e | q
      · subst e; exact .inr x.loc
      · exact .inl (List.mem_append_right _ (List.mem_append_left _ q))
    · rcases List.mem_append.mp q with q | q
      · exact .inr (x.cells a q)
      · exact .inl (List.mem_append_right _ (List.mem_append_right _ q))
theorem Entered.rv {env:Env} {ks:List Addr} {h₁:Heap} (x:Entered G c S env ks h₁) (hf:env.frame=some env.locals) {v:Value} {d:D} (r:Rv G c S v d):Rv G (c.push env ks) { S with h:=h₁ } v d :=
  VR.mono (fun a o _ e=>x.keep a o e) (.refl _) (x.vol hf) r
theorem vol_sub {env:Env} {ks:List Addr} (hf:env.frame=some env.locals) (S':Gs):∀ a,a ∈ vol c S'→a ∈ vol (c.push env ks) S':=fun a ha=>by
  rcases List.mem_append.mp ha with q | q
  · exact List.mem_append_left _ q
  · rcases List.mem_append.mp q with q | q
    · exact List.mem_append_right _ (List.mem_append_left _ (by rw [Cx.push_fs hf]; exact .tail _ q))
    · exact List.mem_append_right _ (List.mem_append_right _ (List.mem_append_right _ q))
theorem Entered.back {env:Env} {ks:List Addr} {h₁:Heap} (x:Entered G c S env ks h₁) (H0:Heaps G c S) (hf:env.frame=some env.locals) (hown:∀ a,Own env a→a=env.locals∨a ∈ ks) {S':Gs} (H':Heaps G (c.push env ks) S') (xx:ExtS (c.push env ks) env { S with h:=h₁ } S') :
    Heaps G c S'∧Ext c S S':=by
  have vs:=vol_sub (c:=c) (ks:=ks) hf S'
  refine ⟨⟨H'.ok,H'.stays,H0.frames,H'.funs.2.2,fun L hL=>H'.fdict L (by rw [Cx.push_fs hf]; exact .tail _ hL),fun L hL=>H'.xs L (List.mem_append_right _ hL),H'.len,fun n p o h1 h2=>?_,H'.new,H'.nodup⟩,xx.adr,fun b o e hb=>?_,fun a ha=>?_,fun a o e=>xx.live a o (x.keep a o e)⟩
  · exact ORep.mono (fun a o _ e=>e) (.refl _) (.of_sub _ vs) (fun a _ o e=>e) (H'.store n p o h1 h2)
  · have hno : ¬ Own env b:=fun ho=>by
      rcases hown b ho with q | q
      · subst q; rw [x.loc] at e; exact nnS e
      · rw [x.cells b q] at e; exact nnS e
    rcases xx.keep b o (x.keep b o e) hb hno with q | ⟨hm,sl,q⟩
    · exact .inl q
    · rw [Cx.push_fs hf] at hm
      rcases List.mem_cons.mp hm with e' | hm
      · subst e'; rw [x.loc] at e; exact nnS e
      · exact .inr ⟨hm,sl,q⟩
  · rcases xx.fresh a ha with q | q
    · exact .inl q
    · refine .inr ?_
      cases e:S.h.get? a with
      | none=>rfl
      | some o=>have:=x.keep a o e; rw [q] at this; exact nnS this
end
/-- an exception leaves a frame -/
theorem hide_sub {h:Heap} {L:Addr} {fs:List Addr} : (hideAll (hideAll h [L]) fs).StaysIn (hideAll h (L :: fs)):=fun b o e=>by
  have h1:b ∉ fs:=fun hm=>by rw [hideAll_none fs hm] at e; exact nnS e
  have e1:=of_hideAll fs e
  have h2:b ≠ L:=fun hm=>by rw [hideAll_none [L] (hm ▸ .head _)] at e1; exact nnS e1
  exact hideAll_get _ (of_hideAll _ e1) fun hm=>by
    rcases List.mem_cons.mp hm with q | q
    · exact h2 q
    · exact h1 q
theorem trLeave {G:Amb} {c:Cx} {env:Env} {ks:List Addr} {Sr:Gs} (H:Heaps G (c.push env ks) Sr) (hf:env.frame=some env.locals) {e:Addr} {X:String} {msg:PySem.Str} {s:Shared} (th:Thr G (c.push env ks) Sr.h e X msg s.heap)
    {Q:Unit→Shared→Prop} {E:Value→Shared→Prop} (hq:∀ h',Thr G c (hideAll Sr.h [env.locals]) e X msg h'→Q () { s with heap:=h' }):wpAny G.M (c.A.deeper env) (leaving env (.ref e)) Q E s:=by
  have hfr:(c.A.deeper env).frames=some (env :: c.stack):=H.frames
  have hfs:(c.push env ks).fs=env.locals :: c.fs:=Cx.push_fs hf
  have none_of:∀ b,Sr.h.get? b=none→(hideAll Sr.h [env.locals]).get? b=none:=fun b q=>by
    cases e':(hideAll Sr.h [env.locals]).get? b with
    | none=>rfl
    | some o=>have:=of_hideAll _ e'; rw [q] at this; exact nnS this
  have slots_of:∀ {h':Heap},Sr.h.UpToSlots h'→(hideAll Sr.h [env.locals]).UpToSlots h':=fun x b o e=>x b o (of_hideAll _ e)
  rcases th with ⟨tk,mk⟩ | ⟨t,tk,h3,h4,h5,h6,h7⟩
  · refine wpAny_leaves_madeW (base:=hideAll Sr.h (c.push env ks).fs) hfr hf (fun b o q=>of_hideAll _ q) ?_ mk fun h' t x1 x2 x3 x4=>?_
    · exact funFrames_hide H.funs fun e' he a ha=>List.mem_filterMap.mpr ⟨e',he,ha⟩
    · have htn:Sr.h.get? t=none:=by
        cases q:Sr.h.get? t with
        | none=>rfl
        | some o =>
          have:t ∈ (c.push env ks).fs:=Classical.byContradiction fun hn=>by
            have:=hideAll_get _ q hn; rw [x3] at this; exact nnS this
          (refine xA (H.fdict t this) fun q0z _=>?_; refine xEEEA q0z fun o' es n ho' hd'=>?_)
          (refine xEEAA x2 fun oT nT hoT hcT hdT=>?_; try clear x2)
          rw [ho'] at q; (have k1:=(s1E q).symm; clear q; subst k1)
          have:=mk.keeps t o ho'
          (refine xE (x4 t o this fun vs q=>by rw [hd'] at q; cases q) fun sl hsl=>?_)
          rw [hoT] at hsl; (have k1:=s1E hsl; clear hsl; subst k1)
          rw [hd'] at hdT; exact nAny PySem.Data.ctorIdx hdT rfl
      rw [hfs] at x1
      exact hq h' (.inr ⟨t,tk,x2,none_of t htn,none_of e mk.new,slots_of ((Heap.UpToSlots.of_keeps mk.keeps).trans x4),.inl (flyingW_base hide_sub x1)⟩)
  · rcases h7 with fl | ⟨L,hL,hd⟩
    · refine wpAny_leaves_onW hfr hf fl fun h' x1 x2=>?_
      rw [hfs] at x1
      exact hq h' (.inr ⟨t,tk,h3.of_slots x2,none_of t h4,none_of e h5,slots_of (h6.trans x2),.inl (flyingW_base hide_sub x1)⟩)
    · have hL':env.frame=some L:=hL
      unfold leaving
      refine wpAny_bind (wpAny_noteFrame_againW hL' hd.2.2.2 ?_)
      refine wpAny_landsW hd fun h' fl x2=>?_
      (refine xAAA fl fun k1 k2 q0z k4=>?_; try clear fl; refine xAA q0z fun _ _ k3=>?_)
      have x1:Heap.FlyingW (hideAll Sr.h (c.push env ks).fs) c.stack e (.type X) (.ref t) h':=⟨k1,k2,k3,k4⟩
      rw [hfs] at x1
      exact hq h' (.inr ⟨t,tk,h3.of_slots x2,none_of t h4,none_of e h5,slots_of (h6.trans x2),.inl (flyingW_base hide_sub x1)⟩)
/-- behind a left frame: its object out of sight -/
theorem Heaps.left {G:Amb} {c:Cx} {env:Env} {ks:List Addr} {S:Gs} {S':Gs} {fr:PySem.Str→Option Value} (H0:Heaps G c S) (H':Heaps G (c.push env ks) S') (hf:env.frame=some env.locals) (x:Ext c S S') (hL:S.h.get? env.locals=none) (Hc:Heaps G c S') :
    Heaps G c ⟨S'.adr,S'.σ,hideAll S'.h [env.locals]⟩∧Ext c S ⟨S'.adr,S'.σ,hideAll S'.h [env.locals]⟩:=by
  have hfs:(c.push env ks).fs=env.locals :: c.fs:=Cx.push_fs hf
  have hLV:env.locals ∈ vol (c.push env ks) S':=List.mem_append_right _ (List.mem_append_left _ (by rw [hfs]; exact .head _))
  have off:∀ b o,b ≠ env.locals→S'.h.get? b=some o→(hideAll S'.h [env.locals]).get? b=some o:=fun b o hb e=>hideAll_get _ e fun hm=>hb (List.mem_singleton.mp hm)
  have hreg:env.locals ∉ S'.reg:=(H'.fdict _ (by rw [hfs]; exact .head _)).2
  have hbase:G.base.get? env.locals=none:=H'.vol_new hLV
  have nfs:∀ L,L ∈ c.fs→L ≠ env.locals:=fun L hm q=>by
    (refine xA (H0.fdict L hm) fun q0z _=>?_; refine xEEEA q0z fun o _ _ ho _=>?_)
    rw [q,hL] at ho; exact nnS ho
  have nX:∀ L,L ∈ c.X→L ≠ env.locals:=fun L hm q=>by
    (refine xA (H0.xs L hm) fun q0z _=>?_; refine xE q0z fun o ho=>?_)
    rw [q,hL] at ho; exact nnS ho
  have sub:∀ a,a ∈ vol c S'→a ∈ vol (c.push env ks) S':=vol_sub hf S'
  refine ⟨⟨Hc.ok,fun b o e=>off b o (fun q=>by rw [q,hbase] at e; exact nnS e) (Hc.stays b o e),Hc.frames,?_,fun L hm=>?_,fun L hm=>?_,Hc.len,fun n p o h1 h2=>?_,Hc.new,Hc.nodup⟩,x.adr,fun b o e hb=>?_,x.fresh,fun a o e=>?_⟩
  · exact funFrames_of Hc.funs fun L hm o e hd=>⟨o,off L o (nfs L hm) e,hd⟩
  · (refine xA (Hc.fdict L hm) fun q0z r=>?_; refine xEEEA q0z fun o es m e hd=>?_)
    exact ⟨⟨o,es,m,off L o (nfs L hm) e,hd⟩,r⟩
  · (refine xA (Hc.xs L hm) fun q0z r=>?_; refine xE q0z fun o e=>?_)
    exact ⟨⟨o,off L o (nX L hm) e⟩,r⟩
  · exact ORep.mono (fun a o hn e=>off a o (fun q=>hn (q ▸ hLV)) e) (.refl _) (.of_sub _ sub) (fun a ha o e=>off a o (fun q=>hreg (q ▸ reg_mem h1 h2 a ha)) e) (H'.store n p o h1 h2)
  · have hbL:b ≠ env.locals:=fun q=>by rw [q,hL] at e; exact nnS e
    rcases x.keep b o e hb with q | ⟨hm,sl,q⟩
    · exact .inl (off b _ hbL q)
    · exact .inr ⟨hm,sl,off b _ hbL q⟩
  · (refine xE (x.live a o e) fun o' e'=>?_)
    exact ⟨o',off a o' (fun q=>by rw [q,hL] at e; exact nnS e) e'⟩
noncomputable def Mf.fn (m:Mf SF) (fr:Fr) (σ:List AO):Option (Out D × List AO):=match m fr σ with
  | some (.val (.ret d),_,σ')=>some (.val d,σ')
  | some (.val .next,_,σ')=>some (.val .none,σ')
  | some (.val .brk,_,_)=>none
  | some (.val .cont,_,_)=>none
  | some (.exc X msg,_,σ')=>some (.exc X msg,σ')
  | none=>none
/-- what a call of f does -/
noncomputable abbrev Fm:=List D→List (PySem.Str × D)→List AO→Option (Out D × List AO)
noncomputable def Fn (G:Amb) (hn:Bool) (n:Nat) (f:Addr) (mf:Fm):Prop :=
  ∀ c S s vs ds kw kd out σ',Ho G hn n c S s→Rvs G c S vs ds→Rbs G c S kw kd→mf ds kd S.σ=some (out,σ') →
    ∀ (Q:Value→Shared→Prop) (E:Value→Shared→Prop),
      (∀ b,out = .val b→∀ a (S':Gs) (tk:Tk G.lo),S'.σ=σ'→Heaps G c S'→Ext c S S'→Rv G c S' a b→Q a (ShT s S'.h tk)) →
      (∀ X msg,out = .exc X msg→∀ (S':Gs) e h' (tk:Tk G.lo),S'.σ=σ'→Heaps G c S'→Ext c S S'→Thr G c S'.h e X msg h'→E (.ref e) (ShT s h' tk)) →
      codeAny G.M c.A (.call (.ref f) ⟨vs,kw⟩) (fun r s'=>match r with | .ok (.ret v)=>Q v s' | .ok _=>False | .error e=>E e s') s
/-- the binding of the arguments -/
noncomputable def Bnd (G:Amb) (fd:FuncData) (bf:List D→List (PySem.Str × D)→Option (List (PySem.Str × D))):Prop :=
  ∀ c S s vs ds kw kd bd,Heaps G c S→s.heap=S.h→G.lo ≤ s.toks→Rvs G c S vs ds→Rbs G c S kw kd→bf ds kd=some bd→Tr G c S s (fun S' b bd=>Rbs G c S' b bd∧b.map (·.1)=bd.map (·.1)) (bindArgs fd ⟨vs,kw⟩) (.val bd) S.σ
theorem Rbs.cx {G:Amb} {c c':Cx} {S:Gs} (h1:c'.fs=c.fs) (h2:c'.X=c.X):∀ {b:List (PySem.Str × Value)} {bd:List (PySem.Str × D)},Rbs G c S b bd→Rbs G c' S b bd
  | [],[],_=>trivial
  | (_,_) :: _,(_,_) :: _,⟨e,r,h⟩=>⟨e,by unfold Rv vol at *; rw [h1,h2]; exact r,Rbs.cx h1 h2 h⟩
theorem Rbs.names {G:Amb} {c:Cx} {S:Gs} : ∀ {b:List (PySem.Str × Value)} {bd:List (PySem.Str × D)},Rbs G c S b bd→b.map (·.1)=bd.map (·.1)
  | [],[],_=>rfl
  | (_,_) :: _,(_,_) :: _,⟨h1,_,h3⟩=>by rw [List.map_cons,List.map_cons,h1,Rbs.names h3]
theorem Fn.of_body {G:Amb} {hn:Bool} {n:Nat} {f:Addr} {oc:Value} {od:Option Addr} {osl:Array (Option Value)} {fd:FuncData} {body:List Stmt} {m:Mf SF} {bf:List D→List (PySem.Str × D)→Option (List (PySem.Str × D))}
    (hK:G.K.lookup f=some ⟨oc,od,.func fd,osl⟩) (hb:fd.body = .stmts body) (hg:fd.globals=mainGlobals) (hcl:fd.closure=[]) (hbl:fd.builtins=builtinsNs)
    (hcd:codeIn G.K fd.code fd.qualname=true) (hkind:fd.scope.kind = .function) (hco:fd.scope.isCoroutine=false) (hgen:fd.scope.isGenerator=false)
    (hfree:(fd.scope.names.all fun y=>y.2 != .free)=true)
    (hbind:Bnd G fd bf) (hnames:∀ ds kd bd,bf ds kd=some bd→(bd.all fun y=>fd.scope.names.lookup y.1 == some .local || fd.scope.names.lookup y.1 == some .cell)=true)
    (hbody:Exs G hn n fd.scope body m) :
    Fn G hn (n + 1) f (fun ds kd σ=>(bf ds kd).bind fun bd=>Mf.fn m (frB bd fun _=>none) σ):=by
  intro c S s vs ds kw kd out σ' q hv hk hm
  (refine xEA (Option.bind_eq_some_iff.mp hm) fun bd hbd hm=>?_)
  intro Q E hq hx
  have H:=q.H
  have hroom:c.A.depth < recursionLimit:=by have:=q.room; omega
  have hobj:=H.kin _ _ hK
  have hcr:=codeRec_of H.kin hcd
  refine codeAny_call_function (fd:=fd) (body:=body) hroom (by rw [q.heap]; exact hobj) rfl hco hgen hb (by rw [q.heap]; exact hcr) ?_
  have H1:Heaps G { c with A:=c.A.in1 } S:=H.setA rfl
  refine hbind { c with A:=c.A.in1 } S s vs ds kw kd bd H1 q.heap q.tok hv (Rbs.cx (c:=c) (c':={ c with A:=c.A.in1 }) rfl rfl hk) hbd _ _ (fun bd' hbd' binds S1 tk1 e1 HB xB rB=>?_) fun X msg hh=>by exact nVE hh
  (have k1:=valE hbd'; clear hbd'; subst k1)
  rw [hg,hcl,hbl]
  have HB':Heaps G c S1:=HB.setA rfl
  have rB1:Rbs G c S1 binds bd:=Rbs.cx (c:={ c with A:=c.A.in1 }) (c':=c) rfl rfl rB.1
  have hnm:=hnames ds kd bd hbd
  have hkinds:∀ x ∈ binds,fd.scope.names.lookup x.1=some .local∨(fd.scope.names.lookup x.1=some .cell∧((cellsFrom (S1.h.objs.size + 1) fd.scope.names []).lookup x.1).isSome=true):=by
    refine kindsX ?_ _
    have e:(binds.all fun y=>fd.scope.names.lookup y.1 == some .local || fd.scope.names.lookup y.1 == some .cell)=((binds.map (·.1)).all fun y=>fd.scope.names.lookup y == some .local || fd.scope.names.lookup y == some .cell):=by
      rw [List.all_map]; rfl
    have e':(bd.all fun y=>fd.scope.names.lookup y.1 == some .local || fd.scope.names.lookup y.1 == some .cell)=((bd.map (·.1)).all fun y=>fd.scope.names.lookup y == some .local || fd.scope.names.lookup y == some .cell):=by
      rw [List.all_map]; rfl
    rw [e,rB.2,← e']; exact hnm
  refine wpAny_up tk1.2 ?_
  refine wpAny_newFunctionEnv_cells hkind hkinds fun env he s₁ x htk=>?_
  have x0:=x.toInCall
  (refine xEE x0.same fun h₁ tk₁ es=>?_)
  subst es
  have hlim:h₁.NoLimit:=(H.ok.nolimit.keeps HB.stays).keeps x0.keep
  refine ⟨hlim,codeAny_func ?_⟩
  have hscope:env.scope=fd.scope:=by rw [he]; rfl
  have hloc:env.locals=S1.h.objs.size:=by rw [he]; rfl
  have hcells:env.cells=cellsFrom (S1.h.objs.size + 1) fd.scope.names []:=by rw [he]; rfl
  have hframe:env.frame=some env.locals:=by rw [he]; rfl
  have hks:∀ a ∈ env.cells.filterMap (fun p=>env.cells.lookup p.1),S1.h.get? a=none∧∃ o,h₁.get? a=some o:=fun a ha=>by
    (refine xEA (List.mem_filterMap.mp ha) fun q0z _ hy=>?_; obtain ⟨y,a'⟩:=q0z)
    have hab:=x.above y a (mem_of_lookup hy)
    (refine xEA (x.cell y a hy) fun o ho _=>?_)
    exact ⟨Heap.get?_none_of_le (by rw [hloc] at hab; exact Nat.le_of_lt hab),o,ho⟩
  have hown:∀ a,Own env a→a=env.locals∨a ∈ env.cells.filterMap (fun p=>env.cells.lookup p.1):=fun a ha=>by
    rcases ha with e | ⟨y,hy⟩
    · exact .inl e
    · exact .inr (List.mem_filterMap.mpr ⟨(y,a),mem_of_lookup hy,hy⟩)
  have EN:=HB'.enter (env:=env) (ks:=env.cells.filterMap (fun p=>env.cells.lookup p.1)) (h₁:=h₁) hframe (by rw [hscope]; exact hkind) (Heap.get?_none_of_le (by rw [hloc]; exact Nat.le_refl _)) hks x0.ns x0.keep
  have kof:∀ y,env.kindOf y=fd.scope.names.lookup y:=fun y=>kindOf_scope hscope
  have HV:=hasV_bind (kindOf:=env.kindOf) rB1 (m:=fun _=>none) (cm:=fun _=>none) (fr:=fun _=>none) (fun y d e=>by exact nnS e)
  have VV:EnvOk G (c.push env (env.cells.filterMap (fun p=>env.cells.lookup p.1))) env (frB bd fun _=>none) { S1 with h:=h₁ }:=by
    refine ⟨by rw [hscope]; exact hkind,by rw [he]; rfl,by rw [he]; rfl,rfl,?_,⟨_,x0.ns,fun y d hy hk=>?_⟩,fun y hy=>?_,fun y k hy=>?_,fun y z k hy hz=>?_⟩
    · refine List.mem_append_left _ ?_
      rw [Cx.push_fs hframe]; exact .head _
    · (refine xEA ((HV y d hy).1 hk) fun v hv1 hv2=>?_)
      exact ⟨v,hv1,EN.rv hframe hv2⟩
    · have hyc:env.kindOf y=some .cell:=by
        rcases hy with h | h
        · exact h
        · exfalso
          rw [kof] at h
          have:=List.all_eq_true.mp hfree (y,.free) (mem_of_lookup h)
          simp at this
      have hs:(env.cells.lookup y).isSome=true:=by rw [hcells]; exact cellsFrom_some _ _ _ (.inl (by rw [← kof]; exact hyc))
      (refine xE (Option.isSome_iff_exists.mp hs) fun k hk=>?_)
      refine ⟨k,_,hk,x.cell y k hk,fun d hd=>?_⟩
      (refine xEA ((HV y d hd).2 hyc) fun v hv1 hv2=>?_)
      exact ⟨v,hv1,EN.rv hframe hv2⟩
    · exact List.mem_append_left _ (List.mem_filterMap.mpr ⟨(y,k),mem_of_lookup hy,hy⟩)
    · exact name_of_addr x.apart (mem_of_lookup hy) (mem_of_lookup hz)
  have RR:Run G hn n fd.scope (c.push env (env.cells.filterMap (fun p=>env.cells.lookup p.1))) env (frB bd fun _=>none) { S1 with h:=h₁ } (ShT s h₁ ⟨tk₁,htk⟩) :=
    ⟨hscope,by show c.A.depth + 1 + 3 * n < recursionLimit; have:=q.room; omega,by show c.A.units + 3 + 30 * n < cLine; have:=q.units; omega,q.hand,rfl,htk,EN.H,VV⟩
  -- the body
  cases hmm:m (frB bd fun _=>none) S.σ with
  | none=>unfold Mf.fn at hm; rw [hmm] at hm; exact nnS hm
  | some p =>
    obtain ⟨o,fr',σ1⟩:=p
    have hb1:=hbody _ env _ { S1 with h:=h₁ } _ o fr' σ1 RR rfl hframe (by rw [← hmm,← e1])
    unfold Mf.fn at hm
    rw [hmm] at hm
    refine hb1 _ _ (fun f ho a S' tk' e' H' x' V' r'=>?_) fun X msg ho S' e h' tk' e' H' x' V' th=>?_
    · subst ho
      (refine xA (EN.back HB' hframe hown H' x') fun HC XC=>?_)
      have XC':Ext c S S':=Ext.trans ⟨xB.adr,xB.keep,xB.fresh,xB.live⟩ XC
      have back:∀ {v d},Rv G (c.push env (env.cells.filterMap (fun p=>env.cells.lookup p.1))) S' v d→Rv G c S' v d:=fun r=>VR.mono (fun a o _ e=>e) (.refl _) (.of_sub _ (vol_sub hframe S')) r
      cases f with
      | next =>
        (have k1:=s2A hm; have k2:=s2B hm; clear hm; subst k1 k2)
        cases a with
        | next=>exact hq .none rfl .none S' tk' e' HC XC' .none
        | _=>exact r'.elim
      | ret d =>
        (have k1:=s2A hm; have k2:=s2B hm; clear hm; subst k1 k2)
        cases a with
        | ret v=>exact hq d rfl v S' tk' e' HC XC' (back r')
        | _=>exact r'.elim
      | brk=>exact nnS hm
      | cont=>exact nnS hm
    · subst ho
      (have k1:=s2A hm; have k2:=s2B hm; clear hm; subst k1 k2)
      (refine xA (EN.back HB' hframe hown H' x') fun HC XC=>?_)
      have XC':Ext c S S':=Ext.trans ⟨xB.adr,xB.keep,xB.fresh,xB.live⟩ XC
      have hLS:S.h.get? env.locals=none:=by
        cases q:S.h.get? env.locals with
        | none=>rfl
        | some o =>
          (refine xE (xB.live _ o q) fun o' e''=>?_)
          rw [EN.loc] at e''; exact nnS e''
      (refine xA (Heaps.left (fr:=fun _=>none) H H' hframe XC' hLS HC) fun HL XL=>?_)
      refine trLeave (Sr:=S') H' hframe th fun h'' th'=>?_
      exact hx X msg rfl ⟨S'.adr,S'.σ,hideAll S'.h [env.locals]⟩ e h'' tk' e' HL XL th'
end Mine
end
section
open PySem PySem.W PyProof.Rows
namespace Mine
/-- keywords of a call -/
noncomputable def EvK (G:Amb) (hn:Bool) (n:Nat) (Z:Scope):List Keyword→List (PySem.Str × Mo D)→Prop
  | [],[]=>True
  | ⟨some x,e,_⟩ :: es,(y,m) :: ms=>x=y∧Ev G hn n Z e m∧EvK G hn n Z es ms
  | _,_=>False
noncomputable def Mo.seqK:List (PySem.Str × Mo D)→Mo (List (PySem.Str × D))
  | []=>Mo.pure []
  | (x,m) :: r=>Mo.bind m fun d=>Mo.bind (Mo.seqK r) fun ds=>Mo.pure ((x,d) :: ds)
noncomputable def Mo.args (ms:List (Mo D)) (ks:List (PySem.Str × Mo D)):Mo (List D × List (PySem.Str × D)) :=
  Mo.bind (Mo.seq ms) fun ds=>Mo.bind (Mo.seqK ks) fun kd=>Mo.pure (ds,kd)
section
variable {G:Amb} {hn:Bool} {n:Nat} {Z:Scope} {c:Cx} {S:Gs} {s:Shared}
noncomputable def RKs (G:Amb) (c:Cx) (S:Gs) (ks:List (PySem.Str × Mo D)) (vs:List Value) (kd:List (PySem.Str × D)):Prop:=Rbs G c S ((ks.map (·.1)).zip vs) kd
theorem trEvalAll {pos:Pos} : ∀ {es:List Keyword} {ms:List (PySem.Str × Mo D)},EvK G hn n Z es ms→∀ {c env fr S s out σ'},Run G hn n Z c env fr S s→Mo.seqK ms fr S.σ=some (out,σ') →
    Tr G c S s (fun S'=>RKs G c S' ms) (evalAll ((backToKw pos (keywordEach es env)).map (·.2))) out σ'
  | [],[],_,c,env,fr,S,s,out,σ',q,hm=>by refine Tr.cast hm ?_; exact Tr.pure q.H q.heap trivial
  | [],_ :: _,h,_,_,_,_,_,_,_,_,_=>h.elim
  | ⟨some _,_,_⟩ :: _,[],h,_,_,_,_,_,_,_,_,_=>h.elim
  | ⟨none,_,_⟩ :: _,[],h,_,_,_,_,_,_,_,_,_=>h.elim
  | ⟨none,_,_⟩ :: _,_ :: _,h,_,_,_,_,_,_,_,_,_=>h.elim
  | ⟨some x,e,_⟩ :: es,(y,m) :: ms,h,c,env,fr,S,s,out,σ',q,hm=>by
    show Tr G c S s _ (do
      let v ← (do let v ← eval e env; PySem.standAt pos; Pure.pure v)
      return v :: (← PySem.holding [v] (evalAll ((backToKw pos (keywordEach es env)).map (·.2))))) out σ'
    refine Tr.bindM (R₁:=Rv G c) hm (fun o1 σ1 h1=>?_) fun d v S1 tk H1 x1 ra h2=>?_
    · refine (h.2.1 c env fr S s o1 σ1 q h1).of_imp fun Q E w=>wpAny_bind (wpAny_mono w (fun _ _ z=>?_) fun _ _ z=>z)
      exact wpAny_bind (wpAny_standAt (wpAny_pure z))
    · skip
      have q1:=q.step (tk:=tk) H1 x1
      refine Tr.bindM h2 (fun o2 σ2 h3=>(trEvalAll h.2.2 q1 h3).holding) fun ds vs S2 tk2 H2 x2 rb h4=>?_
      refine Tr.cast h4 ?_
      exact Tr.pure H2 rfl (show RKs G c S2 ((y,m) :: ms) (v :: vs) ((y,d) :: ds) from ⟨rfl,ra.ext x2,rb⟩)
theorem kw_names {pos:Pos} {env:Env} : ∀ {es:List Keyword} {ms:List (PySem.Str × Mo D)},EvK G hn n Z es ms→(backToKw pos (keywordEach es env)).filterMap (·.1)=ms.map (·.1)∧(backToKw pos (keywordEach es env)).all (·.1.isSome)=true
  | [],[],_=>⟨rfl,rfl⟩
  | [],_ :: _,h=>h.elim
  | ⟨some _,_,_⟩ :: _,[],h=>h.elim
  | ⟨none,_,_⟩ :: _,[],h=>h.elim
  | ⟨none,_,_⟩ :: _,_ :: _,h=>h.elim
  | ⟨some x,e,_⟩ :: es,(y,m) :: ms,h=>by
    have ih:=kw_names (pos:=pos) (env:=env) h.2.2
    have hx:=h.1
    subst hx
    exact ⟨congrArg (x :: ·) ih.1,by rw [← ih.2]; rfl⟩
theorem star_all {pos:Pos} {env:Env} : ∀ {es:List Expr},es.all notStar=true→(backTo pos (starEach es env)).any (·.1)=false
  | [],_=>rfl
  | e :: es,h=>by
    have h2:=Bool.and_eq_true_iff.mp h
    rw [starEach_cons h2.1]
    have ih:=star_all (pos:=pos) (env:=env) h2.2
    show (false || (backTo pos (starEach es env)).any (·.1))=false
    rw [ih]; rfl
noncomputable def RArgs (G:Amb) (c:Cx) (S:Gs) (a:Args) (b:List D × List (PySem.Str × D)):Prop:=Rvs G c S a.pos b.1∧Rbs G c S a.kw b.2
theorem trArgs {f:Value} {pos:Pos} {es:List Expr} {ks:List Keyword} {ms:List (Mo D)} {mk:List (PySem.Str × Mo D)} (h:EvL G hn n Z es ms) (hs:es.all notStar=true) (hk:EvK G hn n Z ks mk)
    {env:Env} {fr:Fr} {out:Out (List D × List (PySem.Str × D))} {σ':List AO} (q:Run G hn n Z c env fr S s) (hm:Mo.args ms mk fr S.σ=some (out,σ')) :
    Tr G c S s (RArgs G c) (evalArgs f true (backTo pos (starEach es env)) (backToKw pos (keywordEach ks env))) out σ':=by
  have hst:=star_all (pos:=pos) (env:=env) hs
  have hkn:=kw_names (pos:=pos) (env:=env) hk
  have hsp:∀ {out σ'},Mo.seq ms fr S.σ=some (out,σ')→Tr G c S s (Rvs G c) (spliced (backTo pos (starEach es env))) out σ':=fun h1=>trSpliced h hs q h1
  have tail:∀ ds σ2 (S1:Gs) (tk:Tk G.lo) vs,S1.σ=σ2→Heaps G c S1→Ext c S S1→Rvs G c S1 vs ds→Mo.bind (Mo.seqK mk) (fun kd=>Mo.pure (ds,kd)) fr S1.σ=some (out,σ') →
      Tr G c S1 (ShT s S1.h tk) (RArgs G c) (evalAll ((backToKw pos (keywordEach ks env)).map (·.2)) >>= fun kv=>(Pure.pure vs:Sem (List Value)) >>= fun p=>Pure.pure ⟨p,((backToKw pos (keywordEach ks env)).filterMap (·.1)).zip kv⟩) out σ':=by
    intro ds σ2 S1 tk vs e1 H1 x1 ra h2
    have q1:=q.step (tk:=tk) H1 x1
    refine Tr.bindM h2 (fun o2 σ2 h3=>trEvalAll hk q1 h3) fun kd kv S2 tk2 H2 x2 rb h4=>?_
    refine Tr.cast h4 ?_
    rw [hkn.1]
    exact Tr.of_imp (Tr.pure (a:=(⟨vs,List.zip (mk.map (fun p:PySem.Str × Mo D=>p.1)) kv⟩:Args)) (b:=(ds,kd)) (R:=RArgs G c) H2 rfl ⟨ra.ext x2,rb⟩) fun Q E w=>wpAny_bind (wpAny_pure w)
  unfold evalArgs
  generalize hT:backTo pos (starEach es env)=T at hsp hst
  have fin:Tr G c S s (RArgs G c) (spliced T >>= fun vs=>PySem.holding (vs ++ []) (evalAll ((backToKw pos (keywordEach ks env)).map (·.2)) >>= fun kv=>(Pure.pure vs:Sem (List Value)) >>= fun p=>Pure.pure ⟨p,((backToKw pos (keywordEach ks env)).filterMap (·.1)).zip kv⟩)) out σ':=by
    refine Tr.bindM hm (fun o1 σ1 h1=>hsp h1) fun ds vs S1 tk H1 x1 ra h2=>?_
    exact Tr.holding (tail ds _ S1 tk vs rfl H1 x1 ra h2)
  cases T with
  | nil =>
    simp only [hkn.2,if_true]
    exact fin
  | cons p r =>
    obtain ⟨b,x⟩:=p
    cases b with
    | true=>exact nTF hst
    | false =>
      simp only [hkn.2,if_true]
      exact fin
end
end Mine
end
section
open PySem PySem.W PyProof.Rows
namespace Mine
noncomputable def Ca (G:Amb) (hn:Bool) (n:Nat) (f:Value) (mf:Fm):Prop :=
  ∀ c S s vs ds kw kd out σ',Ho G hn n c S s→Rvs G c S vs ds→Rbs G c S kw kd→mf ds kd S.σ=some (out,σ')→Tr G c S s (Rv G c) (call f vs kw) out σ'
theorem Fn.ca {G:Amb} {hn:Bool} {n:Nat} {f:Addr} {mf:Fm} (h:Fn G hn n f mf):Ca G hn n (.ref f) mf:=fun c S s vs ds kw kd out σ' q hv hk hm Q E hq hx=>wpAny_call (h c S s vs ds kw kd out σ' q hv hk hm Q E hq hx)
noncomputable def Kep (G:Amb) (f:Value):Prop:=∀ h,G.K.In h→∃ k,Looks G.M h (keeperOf f) k
theorem Kep.blt {G:Amb} {id:String} : Kep G (.builtin id):=fun _ _=>⟨.machine,Looks.of_pure rfl⟩
theorem Kep.typ {G:Amb} {id:String} : Kep G (.type id):=fun _ _=>⟨.machine,Looks.of_pure rfl⟩
theorem Kep.fn {G:Amb} {f:Addr} {oc:Value} {od:Option Addr} {osl:Array (Option Value)} {fd:FuncData} (hK:G.K.lookup f=some ⟨oc,od,.func fd,osl⟩):Kep G (.ref f):=fun _ X=>⟨.frame,(Looks.ld (X _ _ hK)).andThen .now⟩
theorem Kep.cls {G:Amb} {f:Addr} {oc:Value} {od:Option Addr} {osl:Array (Option Value)} {cd:ClassData} {r:Option Value} (hK:G.K.lookup f=some ⟨oc,od,.cls cd,osl⟩) (hs:specialIn G.K (.ref f) "__call__" = some r):Kep G (.ref f) :=
  fun _ X=>⟨_,(Looks.ld (X _ _ hK)).andThen ((looks_specialIn X hs).andThen .now)⟩
section
variable {G:Amb} {hn:Bool} {n:Nat} {Z:Scope} {c:Cx} {S:Gs} {s:Shared}
theorem trCallWith {pos:Pos} {f:Value} {mf:Fm} {es:List Expr} {ks:List Keyword} {ms:List (Mo D)} {mk:List (PySem.Str × Mo D)} (h:EvL G hn n Z es ms) (hs:es.all notStar=true) (hk:EvK G hn n Z ks mk)
    (hf:Kep G f) (hc:Ca G hn n f mf) {env:Env} {fr:Fr} {out:Out D} {σ':List AO} (q:Run G hn n Z c env fr S s) {first:List Value} {fd:List D} (rf:Rvs G c S first fd)
    (hm:Mo.bind (Mo.args ms mk) (fun a _ σ=>mf (fd ++ a.1) a.2 σ) fr S.σ=some (out,σ')) :
    Tr G c S s (Rv G c) (callWith pos f first (backTo pos (starEach es env)) (backToKw pos (keywordEach ks env))) out σ':=by
  unfold callWith
  refine Tr.bindM hm (fun o1 σ1 h1=>Tr.holding (trArgs h hs hk q h1)) fun b a S1 tk H1 x1 ra h2=>?_
  have q1:=q.step (tk:=tk) H1 x1
  refine Tr.standAt ?_
  have ht:=hc c S1 _ (first ++ a.pos) (fd ++ b.1) a.kw b.2 out σ' q1.ho (VRs.append (rf.ext x1) ra.1) ra.2 h2
  intro Q E hq hx
  have hst:=star_all (pos:=pos) (env:=env) hs
  have hsk:((backTo pos (starEach es env)).any (·.1) || (backToKw pos (keywordEach ks env)).any (·.1.isNone))=false:=by
    rw [hst,Bool.false_or]
    have:=(kw_names (pos:=pos) (env:=env) hk).2
    rw [List.any_eq_false]
    intro x hx
    have:=List.all_eq_true.mp this x hx
    cases hh:x.1 with
    | none=>rw [hh] at this; exact nFT this
    | some y=>intro q; exact nFT q
  (refine xE (hf S1.h H1.kin) fun k hk'=>?_)
  have tail:∀ {t:Sem Value},wpAny G.M c.A t Q E (ShT s S1.h tk)→wpAny G.M c.A (t >>= fun r=>PySem.holding [r] PySem.point >>= fun _=>Pure.pure r) Q E (ShT s S1.h tk) :=
    fun ht=>wpAny_bind (wpAny_mono ht (fun r s₂ hr=>wpAny_bind (wpAny_holding (wpAny_point (wpAny_pure hr)))) fun _ _ x=>x)
  have w:=ht Q E hq hx
  dsimp only
  rw [hsk]
  refine wpAny_bind (hk'.here ?_)
  cases k with
  | frame =>
    dsimp only
    split
    · exact tail w
    · exact tail (by unfold callMarked; exact Calls.wpAny_keep w)
  | boundFrame =>
    dsimp only
    split
    · exact tail w
    · exact tail (by unfold callMarked; exact Calls.wpAny_keep w)
  | machine=>exact tail w
  | caller=>exact tail (wpAny_operating w)
noncomputable def Mo.calF (mf:Fm) (ms:List (Mo D)) (mk:List (PySem.Str × Mo D)):Mo D:=Mo.bind (Mo.args ms mk) fun a _ σ=>mf a.1 a.2 σ
/-- a call of a name -/
theorem Ev.call {x:PySem.Str} {p pos:Pos} {f:Value} {mf:Fm} {es:List Expr} {ks:List Keyword} {ms:List (Mo D)} {mk:List (PySem.Str × Mo D)} (hx:Ev G hn n Z (.Name x p) (Mo.pure (.glob f))) (h:EvL G hn n Z es ms) (hk:EvK G hn n Z ks mk)
    (hf:Kep G f) (hc:Ca G hn n f mf) (hs:es.all notStar=true:=by rfl):Ev G hn n Z (.Call (.Name x p) es ks pos) (Mo.calF mf ms mk):=by
  intro c env fr S s out σ' q hm
  rw [arm_eval_Call_Name']
  refine Tr.bind (hx c env fr S s _ _ q rfl) (fun b hb a S1 tk e1 H1 x1 r1=>?_) fun _ _ h=>by exact nVE h
  (have k1:=valE hb; clear hb; subst k1)
  have ev:=VR.i_glob r1
  subst ev
  exact trCallWith (fd:=[]) h hs hk hf hc (q.step H1 x1) .nil (by rw [e1]; exact hm)
/-- a method found -/
noncomputable def Gm (G:Amb) (name:PySem.Str) (P:D→List AO→Bool) (f:Value):Prop :=
  ∀ c S s v d pl Q E,Heaps G c S→s.heap=S.h→Rv G c S v d→P d S.σ=true→(∀ tk,Q (f,[v]) { s with toks:=tk })→wpAny G.M c.A (getMethod v name pl) Q E s
noncomputable def Mo.chk (p:List AO→Bool):Mo Unit:=fun _ σ=>if p σ then some (.val (),σ) else none
theorem bindChk {β:Type} {p:List AO→Bool} {f:Unit→Mo β} {fr:Fr} {σ:List AO} {r:Out β × List AO} (h:Mo.bind (Mo.chk p) f fr σ=some r):p σ=true∧f () fr σ=some r:=by
  unfold Mo.bind Mo.chk at h
  cases hp:p σ with
  | true=>simp only [hp,if_true] at h; exact ⟨rfl,h⟩
  | false=>simp [hp] at h
noncomputable def Mo.meth (P:D→List AO→Bool) (mf:Fm) (mo:Mo D) (ms:List (Mo D)) (mk:List (PySem.Str × Mo D)):Mo D :=
  Mo.bind mo fun d=>Mo.bind (Mo.chk (P d)) fun _=>Mo.bind (Mo.args ms mk) fun a _ σ=>mf (d :: a.1) a.2 σ
theorem Ev.meth {o:Expr} {name:PySem.Str} {apos pos:Pos} {P:D→List AO→Bool} {f:Value} {mf:Fm} {es:List Expr} {ks:List Keyword} {mo:Mo D} {ms:List (Mo D)} {mk:List (PySem.Str × Mo D)} (ho:Ev G hn n Z o mo) (h:EvL G hn n Z es ms) (hk:EvK G hn n Z ks mk)
    (hg:Gm G name P f) (hf:Kep G f) (hc:Ca G hn n f mf) (hs:es.all notStar=true:=by rfl) (hbase:∀ env,attributeBase o name env (eval o env)=eval o env:=by intro _; rfl)
    (hfew:∀ env,methodCallForm (es.length + ks.length) (backTo pos (starEach es env)) (backToKw pos (keywordEach ks env))=true:=by intro _; rfl)
    (hline:(apos.endLine == pos.line)=true:=by rfl) :
    Ev G hn n Z (.Call (.Attribute o name apos) es ks pos) (Mo.meth P mf mo ms mk):=by
  intro c env fr S s out σ' q hm
  rw [arm_eval_Call,hbase]
  refine Tr.bindM hm (fun o1 σ1 h1=>ho c env fr S s o1 σ1 q h1) fun d ov S1 tk H1 x1 ra h2=>?_
  refine Tr.standAt ?_
  (refine xA (bindChk h2) fun hP h3=>?_)
  unfold methodCall
  rw [hfew]
  have hp:methodCallPos true o env apos pos=Pure.pure pos:=by unfold methodCallPos; simp [hline]
  have q1:=q.step (tk:=tk) H1 x1
  intro Q E hq hx
  refine wpAny_bind (wpAny_holding (wpAny_up tk.2 (hg c S1 _ ov d _ _ _ H1 rfl ra hP fun tk' htk=>?_)))
  rw [hp]
  refine wpAny_bind (wpAny_pure ?_)
  have q2:Run G hn n Z c env fr S1 (ShT s S1.h ⟨tk',htk⟩):=q.step H1 x1
  exact trCallWith (fd:=[d]) h hs hk hf hc q2 (VRs.one ra) h3 Q E hq hx
/-- an object of a class in the store -/
theorem Heaps.inst (H:Heaps G c S) {k:Nat} {C:Addr} {at_:List (PySem.Str × D)} {v:Value} (r:Rv G c S v (.ref k)) (hk:S.σ[k]? = some (.ins C at_)) :
    ∃ (p:Addr × Addr) (es:Array DictEntry) (m:Nat) (sl:Array (Option Value)),v = .ref p.1∧S.adr[k]? = some p∧InstAt S.h p.1 (instObj C p.2) C (some { cls:=.type "dict", dict:=none,data:=.dict es m,slots:=sl })∧S.h.get? p.2=some { cls:=.type "dict", dict:=none,data:=.dict es m,slots:=sl }∧VRe G.w.params S.adr (vol c S) S.h es.toList at_:=by
  (refine xEA r.i_ref fun p q0z hp=>?_; subst q0z)
  · (refine xAEEA (H.store k p _ hp hk) fun h1 es m h2 h3=>?_)
    exact ⟨p,es,m,#[],rfl,hp,⟨h1,rfl,rfl,h2⟩,h2,h3⟩
theorem Heaps.instX (H:Heaps G c S) {k:Nat} {C:Addr} {at_:List (PySem.Str × D)} {v:Value} (r:Rv G c S v (.ref k)) (hk:S.σ[k]? = some (.ins C at_)) :
    ∃ (p:Addr × Addr) (es:List DictEntry) (m:Nat),v = .ref p.1∧S.adr[k]? = some p∧InstAt S.h p.1 (instObj C p.2) C (some (dictOf es m))∧S.h.get? p.2=some (dictOf es m)∧S.h.get? p.1=some (instObj C p.2)∧VRe G.w.params S.adr (vol c S) S.h es at_:=by
  (refine xEA r.i_ref fun p q0z hp=>?_; subst q0z)
  · (refine xAEEA (H.store k p _ hp hk) fun h1 es m h2 h3=>?_)
    exact ⟨p,es.toList,m,rfl,hp,⟨h1,rfl,rfl,h2⟩,h2,h1,h3⟩
theorem VRe.getL {P:Params} {adr:Adr} {V:List Addr} {h:Heap} (name:PySem.Str) {es:List DictEntry} {at_:List (PySem.Str × D)} (r:VRe P adr V h es at_) :
    (at_.lookup name=none→W.getL name es=some none)∧∀ d,at_.lookup name=some d→∃ v,W.getL name es=some (some v)∧VR P adr V h v d :=
  VRe.ind (C:=fun es at_=>(at_.lookup name=none→W.getL name es=some none)∧∀ d,at_.lookup name=some d→∃ v,W.getL name es=some (some v)∧VR P adr V h v d) ⟨fun _=>rfl,fun d e=>nnS e⟩
    (fun e x t d es ds hk _ hv _ ih=>by
      have hs:e.key.isStr name=(x == name):=by rw [hk]; rfl
      have hr:e.refKey=false:=by unfold DictEntry.refKey; rw [hk]
      clear hk
      unfold W.getL at ih ⊢
      rw [List.find?_cons,hs]
      by_cases q:x=name
      · subst q
        rw [List.lookup_cons_self,beq_self_eq_true x]
        exact ⟨fun e=>nSn e,fun d' e'=>⟨_,rfl,s1E e' ▸ hv⟩⟩
      · rw [List.lookup_cons,beq_eq_false_iff_ne.mpr fun e:name=x=>q e.symm,beq_eq_false_iff_ne.mpr q,List.any_cons,hr,Bool.false_or]
        exact ih) r
noncomputable def isIns (C:Addr) (name:PySem.Str) (d:D) (σ:List AO):Bool:=match d with
  | .ref k=>(match σ[k]? with
    | some (.ins C' at_)=>C' == C && (at_.lookup name).isNone
    | _=>false)
  | _=>false
theorem isIns_of {C:Addr} {name:PySem.Str} {d:D} {σ:List AO} (h:isIns C name d σ=true):∃ k at_,d = .ref k∧σ[k]? = some (.ins C at_)∧at_.lookup name=none:=by
  unfold isIns at h
  split at h
  · rename_i k
    split at h
    · rename_i C' at_ e
      (refine xA (Bool.and_eq_true_iff.mp h) fun h1 h2=>?_)
      rw [beq_iff_eq] at h1
      subst h1
      exact ⟨k,at_,rfl,e,Option.isNone_iff_eq_none.mp h2⟩
    · exact nFT h
  · exact nFT h
theorem Gm.ins {C f:Addr} {name:PySem.Str} (hg:plainGet G.K C name=true) (hf:findIn G.K (.ref C) name=some (some (.ref f))) (ht:isFn G.K (.ref f)=true):Gm G name (isIns C name) (.ref f):=by
  intro c S s v d pl Q E H hs r hP hq
  (refine xEEAA (isIns_of hP) fun k at_ q0z hk hl=>?_; subst q0z)
  (refine xEE (H.inst r hk) fun p es w1z=>?_; refine xEEAAA w1z fun m sl q0z hp I w2z=>?_; refine xA w2z fun _ re=>?_; subst q0z)
  (refine xA (plainGet_of hg) fun g1 g2=>?_)
  rw [← hs] at I
  refine method_fn (by rw [hs]; exact H.kin) I g1 g2 hf (beq_iff_eq.mp ht) ?_ (hq s.toks)
  show (W.getL name es.toList).map _=_
  rw [(VRe.getL name re).1 hl]; rfl
/-- a read of an own attribute -/
noncomputable def Mo.attr (C:Addr) (name:PySem.Str) (mo:Mo D):Mo D:=Mo.bind mo fun d _ σ=>match d with
  | .ref k=>match σ[k]? with
    | some (.ins C' at_)=>if C'=C then match at_.lookup name with
        | some (.ref j)=>some (.val (.ref j),σ)
        | _=>none
      else none
    | _=>none
  | _=>none
theorem Ev.attr {o:Expr} {name:PySem.Str} {pos:Pos} {C:Addr} {mo:Mo D} {attr:Option Value} (ho:Ev G hn n Z o mo) (hg:plainGet G.K C name=true) (hh:hasDictIn G.K C=true) (ha:findIn G.K (.ref C) name=some attr) (hno:noGet G.K attr=true)
    (hbase:∀ env,attributeBase o name env (eval o env)=eval o env:=by intro _; rfl) (hname:∀ o' r,letTemporaryGo o o' r=Pure.pure ():=by intro _ _; rfl):Ev G hn n Z (.Attribute o name pos) (Mo.attr C name mo):=by
  intro c env fr S s out σ' q hm
  rw [arm_eval_Attribute,hbase]
  refine Tr.bindM hm (fun o1 σ1 h1=>ho c env fr S s o1 σ1 q h1) fun d ov S1 tk H1 x1 ra h2=>?_
  split at h2
  · rename_i k
    split at h2
    · rename_i C' at_ hk
      split at h2
      · rename_i hC
        subst hC
        split at h2
        · rename_i j hl
          refine Tr.cast h2 ?_
          refine Tr.standAt (Tr.tok H1 rfl fun Q E hq=>?_)
          (refine xEE (H1.inst ra hk) fun p es w3z=>?_; refine xEEAAA w3z fun m sl q0z hp I w4z=>?_; refine xA w4z fun _ re=>?_; subst q0z)
          (refine xA (plainGet_of hg) fun g1 g2=>?_)
          (refine xEA ((VRe.getL name re).2 _ hl) fun v hv rv=>?_)
          have hhv:handedIn v=true:=by refine xEA (VR.i_ref rv) fun _ ev _=>?_; subst ev; rfl
          refine wpAny_bind (wpAny_holding (get_value (s:=(ShT s S1.h tk)) H1.kin I g1 (findObj_own hh ha hno (by exact hv)) hhv ?_))
          rw [hname]
          exact wpAny_bind (wpAny_pure (wpAny_pure (hq v _ rv)))
        · exact nnS h2
      · exact nnS h2
    · exact nnS h2
  · exact nnS h2
end
end Mine
end
section
open PySem PySem.W PyProof.Rows
namespace Mine
theorem AdrLe.snoc (a:Adr) (p:Addr × Addr):AdrLe a (a ++ [p]):=.append a [p]
theorem reg_apart:∀ {adr:Adr} {σ:List AO},(reg adr σ).Nodup→∀ {n k:Nat} {p q:Addr × Addr} {o u:AO},n ≠ k→adr[n]? = some p→σ[n]? = some o→adr[k]? = some q→σ[k]? = some u→∀ a,a ∈ regOf p o→a ∉ regOf q u
  | [],_,_,n,k,_,_,_,_,_,h,_,_,_,_,_=>by simp at h
  | _ :: _,[],_,n,k,_,_,_,_,_,_,h,_,_,_,_=>by simp at h
  | p :: ps,o :: os,hn,n,k,p',q',o',u',hne,h1,h2,h3,h4,a,ha=>by
    (refine xAA (List.nodup_append.mp (show (regOf p o ++ reg ps os).Nodup from hn)) fun n1 n2 n3=>?_)
    cases n with
    | zero =>
      cases k with
      | zero=>exact absurd rfl hne
      | succ k =>
        simp at h1 h2; subst h1 h2
        intro hb
        exact n3 a ha a (reg_mem (by simpa using h3) (by simpa using h4) a hb) rfl
    | succ n =>
      cases k with
      | zero =>
        simp at h3 h4; subst h3 h4
        intro hb
        exact n3 a hb a (reg_mem (by simpa using h1) (by simpa using h2) a ha) rfl
      | succ k=>exact reg_apart n2 (fun e=>hne (congrArg (· + 1) e)) (by simpa using h1) (by simpa using h2) (by simpa using h3) (by simpa using h4) a ha
theorem reg_set:∀ {adr:Adr} {σ:List AO} {k:Nat} {p:Addr × Addr} {o o':AO},adr[k]? = some p→σ[k]? = some o→(regOf p o').Sublist (regOf p o)→(reg adr (σ.set k o')).Sublist (reg adr σ)
  | [],_,k,_,_,_,h,_,_=>by simp at h
  | _ :: _,[],k,_,_,_,_,h,_=>by simp at h
  | p :: ps,o :: os,0,_,_,o',h1,h2,hs=>by
    simp at h1 h2; subst h1 h2
    exact List.Sublist.append hs (.refl _)
  | p :: ps,o :: os,k + 1,_,_,o',h1,h2,hs=>List.Sublist.append (.refl _) (reg_set (by simpa using h1) (by simpa using h2) hs)
section
variable {G:Amb} {c:Cx} {S:Gs}
/-- one of the store's objects turns -/
theorem Heaps.turn (H:Heaps G c S) {k:Nat} {p:Addr × Addr} {o o':AO} (hp:S.adr[k]? = some p) (ho:S.σ[k]? = some o) (hreg:(regOf p o').Sublist (regOf p o)) {h':Heap}
    (same:∀ b x,b ∉ regOf p o→S.h.get? b=some x→h'.get? b=some x) (live:∀ b,b ∈ regOf p o→∃ x,h'.get? b=some x) (rep:ORep G.w.params S.adr (vol c S) h' p o') :
    Heaps G c ⟨S.adr,S.σ.set k o',h'⟩∧Ext c S ⟨S.adr,S.σ.set k o',h'⟩:=by
  have hr:∀ b,b ∈ regOf p o→b ∈ S.reg:=fun b hb=>reg_mem hp ho b hb
  have hsub:(reg S.adr (S.σ.set k o')).Sublist S.reg:=reg_set hp ho hreg
  have xx:Ext c S ⟨S.adr,S.σ.set k o',h'⟩:=⟨.refl _,fun b x e hb=>.inl (same b x (fun q=>hb (hr b q)) e),fun a ha=>.inl (hsub.subset ha),fun a x e=>by
    by_cases q:a ∈ regOf p o
    · exact live a q
    · exact ⟨x,same a x q e⟩⟩
  have off:∀ L,L ∉ S.reg→∀ x,S.h.get? L=some x→h'.get? L=some x:=fun L hL x e=>same L x (fun q=>hL (hr L q)) e
  refine ⟨⟨H.ok,fun b x e=>off b (fun q=>by rw [H.new b q] at e; exact nnS e) x (H.stays b x e),H.frames,?_,fun L hL=>?_,fun L hL=>?_,by rw [List.length_set]; exact H.len,fun n q u h1 h2=>?_,fun a ha=>H.new a (hsub.subset ha),H.nodup.sublist hsub⟩,xx⟩
  · exact funFrames_of H.funs fun L hL x e hd=>⟨x,off L (H.fdict L hL).2 x e,hd⟩
  · (refine xA (H.fdict L hL) fun q0z r=>?_; refine xEEEA q0z fun x es m e hd=>?_)
    exact ⟨⟨x,es,m,off L r x e,hd⟩,fun q=>r (hsub.subset q)⟩
  · (refine xAA (H.xs L hL) fun q0z r b=>?_; refine xE q0z fun x e=>?_)
    exact ⟨⟨x,off L r x e⟩,fun q=>r (hsub.subset q),b⟩
  · have h1':S.adr[n]? = some q:=h1
    have h2':(S.σ.set k o')[n]? = some u:=h2
    by_cases e:n=k
    · subst e
      rw [List.getElem?_set_self (List.getElem?_eq_some_iff.mp ho).1] at h2'
      rw [hp] at h1'
      (have k1:=s1E h1'; clear h1'; subst k1); (have k1:=s1E h2'; clear h2'; subst k1)
      exact ORep.mono (fun a x _ e=>e) (.refl _) (.of_sub _ fun a ha=>(List.mem_append.mp ha).elim (fun z=>List.mem_append_left _ (hsub.subset z)) (List.mem_append_right _)) (fun a _ x e=>e) rep
    · rw [List.getElem?_set_ne (fun q=>e q.symm)] at h2'
      refine ORep.mono xx.pres xx.adr xx.volLe (fun a ha x e'=>same a x (reg_apart H.nodup e h1' h2' hp ho a ha) e') (H.store n q u h1' h2')
/-- a new one -/
theorem Heaps.born (H:Heaps G c S) {p:Addr × Addr} {o:AO} {h':Heap} (k:∀ b x,S.h.get? b=some x→h'.get? b=some x) (hn:∀ a,a ∈ regOf p o→S.h.get? a=none∧∃ x,h'.get? a=some x) (hnd:(regOf p o).Nodup)
    (rep:Ext c S ⟨S.adr ++ [p],S.σ ++ [o],h'⟩→ORep G.w.params (S.adr ++ [p]) (vol c ⟨S.adr ++ [p],S.σ ++ [o],h'⟩) h' p o) :
    Heaps G c ⟨S.adr ++ [p],S.σ ++ [o],h'⟩∧Ext c S ⟨S.adr ++ [p],S.σ ++ [o],h'⟩:=by
  have hreg:reg (S.adr ++ [p]) (S.σ ++ [o])=S.reg ++ regOf p o:=reg_append H.len
  have xx:Ext c S ⟨S.adr ++ [p],S.σ ++ [o],h'⟩:=⟨.snoc _ _,fun b x e _=>.inl (k b x e),fun a ha=>by
    have ha':a ∈ reg (S.adr ++ [p]) (S.σ ++ [o]):=ha
    rw [hreg] at ha'
    rcases List.mem_append.mp ha' with q | q
    · exact .inl q
    · exact .inr (hn a q).1,fun a x e=>⟨x,k a x e⟩⟩
  have noin:∀ a x,S.h.get? a=some x→a ∉ regOf p o:=fun a x e hm=>by rw [(hn a hm).1] at e; exact nnS e
  have base_none:∀ a,S.h.get? a=none→G.base.get? a=none:=fun a e=>by
    cases q:G.base.get? a with
    | none=>rfl
    | some o=>rw [H.stays a o q] at e; exact nSn e
  have mem:∀ a,a ∈ (⟨S.adr ++ [p],S.σ ++ [o],h'⟩:Gs).reg→a ∈ S.reg∨a ∈ regOf p o:=fun a ha=>by
    have ha':a ∈ reg (S.adr ++ [p]) (S.σ ++ [o]):=ha
    rw [hreg] at ha'; exact List.mem_append.mp ha'
  refine ⟨⟨H.ok,fun b x e=>k b x (H.stays b x e),H.frames,H.funs.of_keeps fun b o e _=>⟨o,k b o e,rfl⟩,fun L hL=>?_,fun L hL=>?_,by rw [List.length_append,List.length_append,H.len]; rfl,fun n q u h1 h2=>?_,fun a ha=>?_,?_⟩,xx⟩
  · (refine xA (H.fdict L hL) fun q0z r=>?_; refine xEEEA q0z fun x es m e hd=>?_)
    exact ⟨⟨x,es,m,k _ _ e,hd⟩,fun q=>(mem L q).elim r (noin L x e)⟩
  · (refine xAA (H.xs L hL) fun q0z r b=>?_; refine xE q0z fun x e=>?_)
    exact ⟨⟨x,k _ _ e⟩,fun q=>(mem L q).elim r (noin L x e),b⟩
  · have h1':(S.adr ++ [p])[n]? = some q:=h1
    have h2':(S.σ ++ [o])[n]? = some u:=h2
    by_cases e:n < S.adr.length
    · rw [List.getElem?_append_left e] at h1'
      rw [List.getElem?_append_left (by rw [← H.len]; exact e)] at h2'
      exact ORep.mono xx.pres xx.adr xx.volLe (fun a _ x e=>k a x e) (H.store n q u h1' h2')
    · have hn':n=S.adr.length:=by
        have:=(List.getElem?_eq_some_iff.mp h1').1
        simp at this; omega
      subst hn'
      rw [List.getElem?_append_right (Nat.le_refl _),Nat.sub_self] at h1'
      rw [H.len,List.getElem?_append_right (Nat.le_refl _),Nat.sub_self] at h2'
      (have k1:=s1E h1'; clear h1'; subst k1); (have k1:=s1E h2'; clear h2'; subst k1)
      exact rep xx
  · rcases mem a ha with q | q
    · exact H.new a q
    · exact base_none a (hn a q).1
  · show (reg (S.adr ++ [p]) (S.σ ++ [o])).Nodup
    rw [hreg]
    exact List.nodup_append.mpr ⟨H.nodup,hnd,fun a ha b hb e=>by
      subst e
      (refine xE (H.reg_some ha) fun x hx=>?_)
      exact noin a x hx hb⟩
theorem Rv.mv {h':Heap} {v:Value} {d:D} (r:Rv G c S v d) (k:∀ b x,b ∉ S.reg→S.h.get? b=some x→h'.get? b=some x):VR G.w.params S.adr (vol c S) h' v d :=
  VR.mono (fun a x hn e=>k a x (fun q=>hn (List.mem_append_left _ q)) e) (.refl _) (.of_sub _ fun _ h=>h) r
theorem Rvs.mv {h':Heap} {v:List Value} {d:List D} (r:Rvs G c S v d) (k:∀ b x,b ∉ S.reg→S.h.get? b=some x→h'.get? b=some x):VRs G.w.params S.adr (vol c S) h' v d :=
  VRs.mono (fun a x hn e=>k a x (fun q=>hn (List.mem_append_left _ q)) e) (.refl _) (.of_sub _ fun _ h=>h) r
/-- a store's list -/
theorem Heaps.lst (H:Heaps G c S) {k:Nat} {ds:List D} {v:Value} (r:Rv G c S v (.ref k)) (hk:S.σ[k]? = some (.lst ds)) :
    ∃ (p:Addr × Addr) (o:Obj) (m:Nat) (vs:Array Value),v = .ref p.1∧S.adr[k]? = some p∧S.h.get? p.1=some o∧o.cls = .type "list" ∧ o.data = .seq vs m∧vs.size ≤ sizeLine∧Rvs G c S vs.toList ds:=by
  (refine xEA r.i_ref fun p q0z hp=>?_; subst q0z)
  · (refine xEEAA (H.store k p _ hp hk) fun m vs h1 h4 h5=>?_)
    exact ⟨p,_,m,vs,rfl,hp,h1,rfl,rfl,h4,h5⟩
theorem Heaps.lstX (H:Heaps G c S) {k:Nat} {ds:List D} {v:Value} (r:Rv G c S v (.ref k)) (hk:S.σ[k]? = some (.lst ds)) :
    ∃ (p:Addr × Addr) (m:Nat) (vs:Array Value),v = .ref p.1∧S.adr[k]? = some p∧S.h.get? p.1=some { cls:=.type "list", dict:=none,data:=.seq vs m,slots:=#[] }∧vs.size ≤ sizeLine∧Rvs G c S vs.toList ds:=by
  (refine xEA r.i_ref fun p q0z hp=>?_; subst q0z)
  · (refine xEEAA (H.store k p _ hp hk) fun m vs h1 h4 h5=>?_)
    exact ⟨p,m,vs,rfl,hp,h1,h4,h5⟩
/-- the store's list takes other items -/
theorem Heaps.setLst (H:Heaps G c S) {k:Nat} {ds ds':List D} {p:Addr × Addr} (hp:S.adr[k]? = some p) (hk:S.σ[k]? = some (.lst ds)) {h':Heap} (hs:Heap.SameBut p.1 S.h h') {m:Nat} {vs:Array Value}
    (ho:h'.get? p.1=some { cls:=.type "list", dict:=none,data:=.seq vs m,slots:=#[] }) (hz:vs.size ≤ sizeLine) (hr:Rvs G c S vs.toList ds') :
    Heaps G c ⟨S.adr,S.σ.set k (.lst ds'),h'⟩∧Ext c S ⟨S.adr,S.σ.set k (.lst ds'),h'⟩:=by
  have hin:p.1 ∈ S.reg:=reg_mem hp hk p.1 (.head _)
  refine H.turn (o':=.lst ds') hp hk (List.Sublist.refl _) (fun b x hb e=>hs.extBut b x (fun q=>hb (q ▸ .head _)) e) (fun b hb=>?_) ⟨m,vs,ho,hz,hr.mv fun b x hb e=>hs.extBut b x (fun q=>hb (q ▸ hin)) e⟩
  cases hb with
  | head=>exact ⟨_,ho⟩
  | tail _ q=>cases q
/-- a new list for the store -/
theorem Heaps.bornLst (H:Heaps G c S) {a:Addr} {h':Heap} (k:∀ b x,S.h.get? b=some x→h'.get? b=some x) (hn:S.h.get? a=none) {m:Nat} {vs:Array Value} {ds:List D}
    (ho:h'.get? a=some { cls:=.type "list", dict:=none,data:=.seq vs m,slots:=#[] }) (hz:vs.size ≤ sizeLine) (hr:Rvs G c S vs.toList ds) :
    Heaps G c ⟨S.adr ++ [(a,a)],S.σ ++ [.lst ds],h'⟩∧Ext c S ⟨S.adr ++ [(a,a)],S.σ ++ [.lst ds],h'⟩∧Rv G c ⟨S.adr ++ [(a,a)],S.σ ++ [.lst ds],h'⟩ (.ref a) (.ref S.σ.length):=by
  obtain ⟨H',x'⟩:=H.born (p:=(a,a)) (o:=.lst ds) k (fun b hb=>by
    cases hb with
    | head=>exact ⟨hn,_,ho⟩
    | tail _ q=>cases q) (List.nodup_cons.mpr ⟨List.not_mem_nil,.nil⟩) fun x=>⟨m,vs,ho,hz,hr.ext x⟩
  refine ⟨H',x',.ref (p:=(a,a)) ?_⟩
  show (S.adr ++ [(a,a)])[S.σ.length]? = _
  rw [← H.len,List.getElem?_append_right (Nat.le_refl _),Nat.sub_self]; rfl
/-- a store's list is let go: from here on it stays as it is -/
theorem Heaps.freeze (H:Heaps G c S) {k:Nat} {ds:List D} {v:Value} (r:Rv G c S v (.ref k)) (hk:S.σ[k]? = some (.lst ds)) :
    Heaps G c ⟨S.adr,S.σ.set k .dead,S.h⟩∧Ext c S ⟨S.adr,S.σ.set k .dead,S.h⟩∧Rv G c ⟨S.adr,S.σ.set k .dead,S.h⟩ v (.lst ds):=by
  (refine xEEEEAAAAAA (H.lst r hk) fun p o m vs q0z hp ho hc hd hz hr=>?_; subst q0z)
  obtain ⟨H',x'⟩:=H.turn hp hk (o':=.dead) (List.nil_sublist _) (h':=S.h) (fun _ _ _ e=>e) (fun b hb=>by
    cases hb with
    | head=>exact ⟨o,ho⟩
    | tail _ q=>cases q) trivial
  refine ⟨H',x',.lst ho hc hd hz (fun hm=>?_) (hr.ext x')⟩
  have hin:p.1 ∈ S.reg:=reg_mem hp hk p.1 (.head _)
  rcases List.mem_append.mp hm with q | q
  · (refine xEEEAA (mem_reg q) fun j pj oj h1 h2 h3=>?_)
    have h2':(S.σ.set k .dead)[j]? = some oj:=h2
    by_cases e:j=k
    · subst e
      rw [List.getElem?_set_self (List.getElem?_eq_some_iff.mp hk).1] at h2'
      (have k1:=s1E h2'; clear h2'; subst k1); cases h3
    · rw [List.getElem?_set_ne (fun q=>e q.symm)] at h2'
      exact reg_apart H.nodup e h1 h2' hp hk _ h3 (.head _)
  · rcases List.mem_append.mp q with q | q
    · exact (H.fdict _ q).2 hin
    · exact (H.xs _ q).2.1 hin
end
end Mine
end
section
open PySem PySem.W PyProof.Rows
namespace Mine
/-- an exception noted by the frame -/
noncomputable def ThrH (G:Amb) (c:Cx) (hr:Heap) (e:Addr) (X:String) (msg:PySem.Str) (h':Heap):Prop :=
  ∃ t tk,h'.TupAt t [.str msg tk]∧hr.get? t=none∧hr.get? e=none∧hr.UpToSlots h' ∧
    ∃ L,c.fenv.frame=some L∧Heap.HeldW (hideAll hr c.fs) c.stack e (.type X) (.ref t) L h'
theorem ThrH.thr {G:Amb} {c:Cx} {hr:Heap} {e:Addr} {X:String} {msg:PySem.Str} {h':Heap} (x:ThrH G c hr e X msg h'):Thr G c hr e X msg h' :=
  let ⟨t,tk,a3,a4,a5,a6,a7⟩:=x; .inr ⟨t,tk,a3,a4,a5,a6,.inr a7⟩
section
variable {M:Model} {A:Around} {E:Value→Shared→Prop} {s:Shared}
theorem setFlight_heldW {base:Heap} {l:List Env} {e L:Addr} {cls a0 fl:Value} {Q:Unit→Shared→Prop} (hkb:base.StaysIn s.heap) (hen:base.get? e=none) (hl:s.heap.FunFrames base l) (R:s.heap.TracedAtW base e cls a0 fl)
    (h:∀ h',Heap.HeldW base l e cls a0 L h'→s.heap.UpToSlots h'→Q () { s with heap:=h' }):wpAny M A (do
      if (← field (.ref e) 1) == .none then unsupported "frame.own-activation:exception-without-traceback"
      setFlight (.ref e) (some L)) Q E s:=by
  (refine xEE R fun oe vs w5z=>?_; refine xEEEAAAAA w5z fun T oT ts he hcls hd h1 hnT w6z=>?_; refine xAAA w6z fun hTe hT hdT h3=>?_; try clear R)
  have hsz3:3 < ts.size:=(Array.getElem?_eq_some_iff.mp h3).1
  have other:∀ b,b ≠ T→(s.heap.update T (Obj.mapFields (·.setIfInBounds 3 ((some L).elim Value.none fun f=>rawInt f)))).get? b=s.heap.get? b :=
    fun b hb=>Heap.get?_update_other _ _ (Ne.symm hb)
  have noRecord:∀ b o,s.heap.get? b=some o→(∀ vs,o.data ≠ .fields vs)→b ≠ T:=fun b o hb hnf q=>by
    rw [q,hT] at hb; injection hb with hb; subst hb; exact hnf ts hdT
  refine wpAny_bind (wpAny_field he hd h1 ?_)
  rw [if_neg (show ¬ ((Value.ref T == Value.none)=true) from by simp)]
  unfold setFlight
  refine wpAny_bind (wpAny_field he hd h1 ?_)
  rw [if_pos (show (Value.ref T != Value.none)=true from by simp)]
  refine wpAny_setField hT hdT hsz3 (h _ ⟨fun b o hbo=>(other b fun q=>by rw [q,hnT] at hbo; exact nnS hbo).trans (hkb b o hbo),hen,
    hl.of_keeps fun b o hb hnf=>⟨o,(other b (noRecord b o hb hnf)).trans hb,rfl⟩,?_⟩ fun b o hb hnf=>⟨o.slots,(other b (noRecord b o hb hnf)).trans hb⟩)
  exact ⟨oe,vs,T,_,_,(other e (Ne.symm hTe)).trans he,hcls,hd,h1,hnT,hTe,Heap.get?_update_self _ hT (Obj.isFreed_of_fields (Obj.data_mapFields hdT _)),Obj.data_mapFields hdT _,by simp [hsz3]⟩
end
section
variable {G:Amb} {c:Cx} {S:Gs} {s:Shared} {env:Env}
theorem trNote (H:Heaps G c S) (hf:c.fenv=env) {L:Addr} (hL:env.frame=some L) {e:Addr} {X:String} {msg:PySem.Str} (th:Thr G c S.h e X msg s.heap) {Q:Unit→Shared→Prop} {E:Value→Shared→Prop}
    (hq:∀ h',ThrH G c S.h e X msg h'→Q () { s with heap:=h' }):wpAny G.M c.A (noteFrame (.ref e) env) Q E s:=by
  subst hf
  have hfr:c.A.frames=some (c.fenv :: c.outer):=H.frames
  rcases th with ⟨tk,mk⟩ | ⟨t,tk,h3,h4,h5,h6,fl | ⟨L',hL',hd⟩⟩
  · (refine xEAA mk.there fun t he htn ht=>?_)
    have stay:(hideAll S.h c.fs).StaysIn s.heap:=fun b o q=>mk.keeps b o (of_hideAll _ q)
    have hnone:∀ b,S.h.get? b=none→(hideAll S.h c.fs).get? b=none:=fun b q=>by
      cases e':(hideAll S.h c.fs).get? b with
      | none=>rfl
      | some o=>have:=of_hideAll _ e'; rw [q] at this; exact nnS this
    have ff:S.h.FunFrames (hideAll S.h c.fs) (c.fenv :: c.outer):=funFrames_hide H.funs fun e' he a ha=>List.mem_filterMap.mpr ⟨e',he,ha⟩
    have ff':s.heap.FunFrames (hideAll S.h c.fs) (c.fenv :: c.outer):=ff.of_keeps fun b o hb _=>⟨o,mk.keeps b o hb,rfl⟩
    unfold noteFrame
    simp only [hL]
    refine wpAny_bind (wpAny_field he rfl (x:=.none) rfl ?_)
    rw [if_neg (by decide)]
    refine wpAny_entryW (base:=hideAll S.h c.fs) hfr ff' hL he stay (hnone e mk.new) rfl (Nat.lt_of_lt_of_le (by decide:1 < 6) (Nat.le_refl 6)) (a0:=.ref t) rfl fun h' hN=>?_
    (refine xAAA hN fun k1 k2 k3 k4=>?_; try clear hN)
    have sl:s.heap.UpToSlots h':=k4
    exact hq h' ⟨t,tk,Heap.TupAt.of_slots ⟨_,_,ht,rfl,rfl⟩ sl,htn,mk.new,(Heap.UpToSlots.of_keeps mk.keeps).trans sl,L,hL,k1,hnone e mk.new,k2,k3⟩
  · refine wpAny_looks_onW hfr hL fl fun h' hh sl=>?_
    exact hq h' ⟨t,tk,h3.of_slots sl,h4,h5,h6.trans sl,L,hL,hh⟩
  · rw [hL] at hL'; (have k1:=s1E hL'; clear hL'; subst k1)
    exact wpAny_noteFrame_againW hL hd.2.2.2 (by have:=hq s.heap ⟨t,tk,h3,h4,h5,h6,L,hL,hd⟩; exact this)
theorem trCameBack (hf:c.fenv=env) {L:Addr} (hL:env.frame=some L) {hr:Heap} {e:Addr} {X:String} {msg:PySem.Str} (th:ThrH G c hr e X msg s.heap) {E:Value→Shared→Prop}
    (hq:∀ h',Thr G c hr e X msg h'→E (.ref e) { s with heap:=h' }):cameBackBy G.M c.A env E (.ref e) s:=by
  subst hf
  (refine xEEAAA th fun t tk h3 h4 h5 w7z=>?_; refine xA w7z fun h6 w8z=>?_; refine xEA w8z fun L' hL' hd=>?_; try clear th)
  rw [hL] at hL'; (have k1:=s1E hL'; clear hL'; subst k1)
  unfold cameBackBy
  rw [hL]
  (refine xAAA hd fun k1 k2 k3 k4=>?_; try clear hd)
  exact setFlight_heldW (Q:=fun _ s''=>E (.ref e) s'') k1 k2 k3 k4 fun h' hh sl=>hq h' (ThrH.thr ⟨t,tk,h3.of_slots sl,h4,h5,h6.trans sl,L,hL,hh⟩)
end
end Mine
end
section
open PySem PySem.W PyProof.Rows
namespace Mine
noncomputable def Cx.addX (c:Cx) (its:List Addr):Cx:={ c with X:=its ++ c.X }
section
variable {G:Amb} {c:Cx} {S S':Gs} {its:List Addr} {env:Env} {fr:Fr}
theorem vol_addX {a:Addr} : a ∈ vol (c.addX its) S ↔ a ∈ its∨a ∈ vol c S:=by
  unfold vol Cx.addX
  simp only [List.mem_append]
  constructor
  · rintro (h | h | h | h)
    · exact .inr (.inl h)
    · exact .inr (.inr (.inl h))
    · exact .inl h
    · exact .inr (.inr (.inr h))
  · rintro (h | h | h | h)
    · exact .inr (.inr (.inl h))
    · exact .inl h
    · exact .inr (.inl h)
    · exact .inr (.inr (.inr h))
theorem Rv.addX (r:Rv G c S v d) (x:Ext c S S') (hi:∀ a ∈ its,S.h.get? a=none):Rv G (c.addX its) S' v d :=
  VR.mono x.pres x.adr (fun a ha=>(vol_addX.mp ha).elim (fun q=>.inr (hi a q)) (x.volLe a)) r
theorem Rv.dropX (r:Rv G (c.addX its) S v d):Rv G c S v d:=VR.mono (fun _ _ _ e=>e) (.refl _) (.of_sub _ fun _ ha=>vol_addX.mpr (.inr ha)) r
theorem Rvs.dropX (r:Rvs G (c.addX its) S v d):Rvs G c S v d:=VRs.mono (fun _ _ _ e=>e) (.refl _) (.of_sub _ fun _ ha=>vol_addX.mpr (.inr ha)) r
theorem EnvOk.addX (H:Heaps G c S) (V:EnvOk G c env fr S) (x:Ext c S S') (hi:∀ a ∈ its,S.h.get? a=none):EnvOk G (c.addX its) env fr S':=by
  have V':=x.env H V
  have hL:env.locals ∉ S.reg:=by
    rcases List.mem_append.mp V.loc with q | q
    · exact (H.fdict _ q).2
    · exact (H.xs _ q).2.1
  refine ⟨V.kind,V.glob,V.blt,V.frame,?_,?_,fun y hy=>?_,fun y k hk=>List.mem_append_right _ (V.own y k hk),V.apart⟩
  · refine Classical.byContradiction fun nQ=>?_
    rcases List.mem_append.mp V.loc with q | q
    · refine nQ ?_
      clear nQ
      exact List.mem_append_left _ q
    · refine nQ ?_
      clear nQ
      exact List.mem_append_right _ (List.mem_append_right _ q)
  · refine Classical.byContradiction fun nQ=>?_
    (refine xEA V.vars fun m hn hm=>?_)
    refine nQ ?_
    clear nQ
    exact ⟨m,x.ns hL hn,fun y d hd hk=>let ⟨v,hv,r⟩:=hm y d hd hk; ⟨v,hv,r.addX x hi⟩⟩
  · refine Classical.byContradiction fun nQ=>?_
    (refine xEEAA (V.cell y hy) fun k v0 hl hc hd=>?_)
    refine nQ ?_
    clear nQ
    exact ⟨k,v0,hl,x.cell (H.xs k (V.own y k hl)).2.1 hc,fun d q=>let ⟨v,hv,r⟩:=hd d q; ⟨v,hv,r.addX x hi⟩⟩
theorem EnvOk.dropX (V0:EnvOk G c env fr0 S0) (V:EnvOk G (c.addX its) env fr S):EnvOk G c env fr S:=by
  refine ⟨V.kind,V.glob,V.blt,V.frame,V0.loc,?_,fun y hy=>?_,V0.own,V.apart⟩
  · refine Classical.byContradiction fun nQ=>?_
    (refine xEA V.vars fun m hn hm=>?_)
    refine nQ ?_
    clear nQ
    exact ⟨m,hn,fun y d hd hk=>let ⟨v,hv,r⟩:=hm y d hd hk; ⟨v,hv,r.dropX⟩⟩
  · refine Classical.byContradiction fun nQ=>?_
    (refine xEEAA (V.cell y hy) fun k v0 hl hc hd=>?_)
    refine nQ ?_
    clear nQ
    exact ⟨k,v0,hl,hc,fun d q=>let ⟨v,hv,r⟩:=hd d q; ⟨v,hv,r.dropX⟩⟩
theorem Heaps.dropX (H:Heaps G (c.addX its) S):Heaps G c S :=
  ⟨H.ok,H.stays,H.frames,H.funs,H.fdict,fun L hL=>H.xs L (List.mem_append_right _ hL),H.len,fun n p o h1 h2=>ORep.mono (fun _ _ _ e=>e) (.refl _) (.of_sub _ fun _ ha=>vol_addX.mpr (.inr ha)) (fun _ _ _ e=>e) (H.store n p o h1 h2),H.new,H.nodup⟩
/-- fresh objects set apart -/
theorem Heaps.addX (H:Heaps G c S) {h':Heap} (k:∀ b o,S.h.get? b=some o→h'.get? b=some o) (hi:∀ a ∈ its,S.h.get? a=none∧∃ o,h'.get? a=some o):Heaps G (c.addX its) { S with h:=h' }∧Ext c S { S with h:=h' }:=by
  (refine xA (H.grow k) fun H' x=>?_)
  have base_none:∀ a,S.h.get? a=none→G.base.get? a=none:=fun a e=>by
    cases q:G.base.get? a with
    | none=>rfl
    | some o=>rw [H.stays a o q] at e; exact nSn e
  refine ⟨⟨H.ok,H'.stays,H.frames,H'.funs,H'.fdict,fun L hL=>?_,H.len,fun n p o h1 h2=>?_,H.new,H.nodup⟩,x⟩
  · refine Classical.byContradiction fun nQ=>?_
    rcases List.mem_append.mp hL with q | q
    · (refine xA (hi L q) fun h1 w9z=>?_; refine xE w9z fun o h2=>?_)
      refine nQ ?_
      clear nQ
      exact ⟨⟨o,h2⟩,fun hm=>(by (refine xE (H.reg_some hm) fun o ho=>?_); rw [h1] at ho; exact nnS ho),base_none L h1⟩
    · refine nQ ?_
      clear nQ
      exact H'.xs L q
  · exact ORep.mono x.pres x.adr (fun a ha=>(vol_addX.mp ha).elim (fun q=>.inr (hi a q).1) (x.volLe a)) (fun a _ o e=>k a o e) (H.store n p o h1 h2)
/-- the objects set apart turn; the rest is kept -/
structure Apart (c:Cx) (its:List Addr):Prop where
  off:∀ a ∈ its,a ∉ c.fs ++ c.X
theorem Heaps.turnX (H:Heaps G (c.addX its) S) (ap:Apart c its) {h':Heap} (k:∀ b o,b ∉ its→S.h.get? b=some o→h'.get? b=some o) (live:∀ a ∈ its,∃ o,h'.get? a=some o):Heaps G (c.addX its) { S with h:=h' }:=by
  have hreg:∀ a ∈ its,a ∉ S.reg:=fun a ha=>(H.xs a (List.mem_append_left _ ha)).2.1
  have off:∀ L,L ∉ its→∀ o,S.h.get? L=some o→h'.get? L=some o:=fun L hL o e=>k L o hL e
  refine ⟨H.ok,fun b o e=>k b o (fun q=>by rw [(H.xs b (List.mem_append_left _ q)).2.2] at e; exact nnS e) (H.stays b o e),H.frames,?_,fun L hL=>?_,fun L hL=>?_,H.len,fun n p o h1 h2=>?_,H.new,H.nodup⟩
  · exact funFrames_of H.funs fun L hL o e hd=>⟨o,off L (fun q=>ap.off L q (List.mem_append_left _ hL)) o e,hd⟩
  · refine Classical.byContradiction fun nQ=>?_
    (refine xA (H.fdict L hL) fun q0z r=>?_; refine xEEEA q0z fun o es m e hd=>?_)
    refine nQ ?_
    clear nQ
    exact ⟨⟨o,es,m,off L (fun q=>ap.off L q (List.mem_append_left _ hL)) o e,hd⟩,r⟩
  · refine Classical.byContradiction fun nQ=>?_
    (refine xA (H.xs L hL) fun q0z r=>?_; refine xE q0z fun o e=>?_)
    by_cases q:L ∈ its
    · refine nQ ?_
      clear nQ
      exact ⟨live L q,r⟩
    · refine nQ ?_
      clear nQ
      exact ⟨⟨o,off L q o e⟩,r⟩
  · exact ORep.mono (fun a o hn e=>k a o (fun q=>hn (vol_addX.mpr (.inl q))) e) (.refl _) (.of_sub _ fun _ h=>h) (fun a ha o e=>k a o (fun q=>hreg a q (reg_mem h1 h2 a ha)) e) (H.store n p o h1 h2)
theorem Heaps.endX (H:Heaps G (c.addX its) S) (ap:Apart c its) {h':Heap} (k:∀ b o,b ∉ its→S.h.get? b=some o→h'.get? b=some o):Heaps G c { S with h:=h' }:=by
  have hreg:∀ a ∈ its,a ∉ S.reg:=fun a ha=>(H.xs a (List.mem_append_left _ ha)).2.1
  have off:∀ L,L ∉ its→∀ o,S.h.get? L=some o→h'.get? L=some o:=fun L hL o e=>k L o hL e
  refine ⟨H.ok,fun b o e=>k b o (fun q=>by rw [(H.xs b (List.mem_append_left _ q)).2.2] at e; exact nnS e) (H.stays b o e),H.frames,?_,fun L hL=>?_,fun L hL=>?_,H.len,fun n p o h1 h2=>?_,H.new,H.nodup⟩
  · exact funFrames_of H.funs fun L hL o e hd=>⟨o,off L (fun q=>ap.off L q (List.mem_append_left _ hL)) o e,hd⟩
  · refine Classical.byContradiction fun nQ=>?_
    (refine xA (H.fdict L hL) fun q0z r=>?_; refine xEEEA q0z fun o es m e hd=>?_)
    refine nQ ?_
    clear nQ
    exact ⟨⟨o,es,m,off L (fun q=>ap.off L q (List.mem_append_left _ hL)) o e,hd⟩,r⟩
  · refine Classical.byContradiction fun nQ=>?_
    (refine xA (H.xs L (List.mem_append_right _ hL)) fun q0z r=>?_; refine xE q0z fun o e=>?_)
    refine nQ ?_
    clear nQ
    exact ⟨⟨o,off L (fun q=>ap.off L q (List.mem_append_right _ hL)) o e⟩,r⟩
  · exact ORep.mono (V:=vol (c.addX its) S) (h:=S.h) (fun a o hn e=>k a o (fun q=>hn (vol_addX.mpr (.inl q))) e) (.refl _) (.of_sub _ fun _ h=>vol_addX.mpr (.inr h)) (fun a ha o e=>k a o (fun q=>hreg a q (reg_mem h1 h2 a ha)) e) (H.store n p o h1 h2)
theorem Rv.turnX (r:Rv G (c.addX its) S v d) {h':Heap} (k:∀ b o,b ∉ its→S.h.get? b=some o→h'.get? b=some o):Rv G (c.addX its) { S with h:=h' } v d :=
  VR.mono (fun a o hn e=>k a o (fun q=>hn (vol_addX.mpr (.inl q))) e) (.refl _) (.of_sub _ fun _ h=>h) r
theorem Rvs.turnX (r:Rvs G (c.addX its) S v d) {h':Heap} (k:∀ b o,b ∉ its→S.h.get? b=some o→h'.get? b=some o):Rvs G (c.addX its) { S with h:=h' } v d :=
  VRs.mono (fun a o hn e=>k a o (fun q=>hn (vol_addX.mpr (.inl q))) e) (.refl _) (.of_sub _ fun _ h=>h) r
theorem EnvOk.turnX (V0:EnvOk G c env fr0 S0) (ap:Apart c its) (V:EnvOk G (c.addX its) env fr S) {h':Heap} (k:∀ b o,b ∉ its→S.h.get? b=some o→h'.get? b=some o):EnvOk G (c.addX its) env fr { S with h:=h' }:=by
  refine ⟨V.kind,V.glob,V.blt,V.frame,V.loc,?_,fun y hy=>?_,V.own,V.apart⟩
  · refine Classical.byContradiction fun nQ=>?_
    (refine xEA V.vars fun m q0z hm=>?_; refine xEEEA q0z fun o es ep ho r=>?_)
    refine nQ ?_
    clear nQ
    exact ⟨m,⟨o,es,ep,k _ _ (fun q=>ap.off _ q V0.loc) ho,r⟩,fun y d hd hk=>let ⟨v,hv,r⟩:=hm y d hd hk; ⟨v,hv,r.turnX k⟩⟩
  · refine Classical.byContradiction fun nQ=>?_
    (refine xEEAA (V.cell y hy) fun a v0 hl q0z hd=>?_; refine xEA q0z fun o ho r=>?_)
    refine nQ ?_
    clear nQ
    exact ⟨a,v0,hl,⟨o,k _ _ (fun q=>ap.off _ q (List.mem_append_right _ (V0.own y a hl))) ho,r⟩,fun d q=>let ⟨v,hv,r⟩:=hd d q; ⟨v,hv,r.turnX k⟩⟩
theorem ExtS.turnX (x:ExtS c env S S') (hi:∀ a ∈ its,S.h.get? a=none) {h':Heap} (k:∀ b o,b ∉ its→S'.h.get? b=some o→h'.get? b=some o):ExtS c env S { S' with h:=h' }:=by
  have nin:∀ b o,S.h.get? b=some o→b ∉ its:=fun b o e q=>by rw [hi b q] at e; exact nnS e
  refine ⟨x.adr,fun b o e hb ho=>?_,x.fresh,fun a o e=>?_⟩
  · refine Classical.byContradiction fun nQ=>?_
    rcases x.keep b o e hb ho with q | ⟨hf,sl,q⟩
    · refine nQ ?_
      clear nQ
      exact .inl (k b o (nin b o e) q)
    · refine nQ ?_
      clear nQ
      exact .inr ⟨hf,sl,k b _ (nin b o e) q⟩
  · (refine xE (x.live a o e) fun o' e'=>?_)
    exact ⟨o',k a o' (nin a o e) e'⟩
theorem Ext.turnX (x:Ext c S S') (hi:∀ a ∈ its,S.h.get? a=none) {h':Heap} (k:∀ b o,b ∉ its→S'.h.get? b=some o→h'.get? b=some o):Ext c S { S' with h:=h' }:=by
  have nin:∀ b o,S.h.get? b=some o→b ∉ its:=fun b o e q=>by rw [hi b q] at e; exact nnS e
  refine ⟨x.adr,fun b o e hb=>?_,x.fresh,fun a o e=>?_⟩
  · refine Classical.byContradiction fun nQ=>?_
    rcases x.keep b o e hb with q | ⟨hf,sl,q⟩
    · refine nQ ?_
      clear nQ
      exact .inl (k b o (nin b o e) q)
    · refine nQ ?_
      clear nQ
      exact .inr ⟨hf,sl,k b _ (nin b o e) q⟩
  · (refine xE (x.live a o e) fun o' e'=>?_)
    exact ⟨o',k a o' (nin a o e) e'⟩
theorem ExtS.ofX (x:ExtS (c.addX its) env S S'):ExtS c env S S':=⟨x.adr,x.keep,x.fresh,x.live⟩
end
/-- an iterator -/
structure WalkN (G:Amb) (c:Cx) (its:List Addr) (it:Addr) (target:Expr) (ds:List D) (P:List AO→Prop) (It:Nat→Gs→Prop):Prop where
  stable:∀ i S S',It i S→AdrLe S.adr S'.adr→Pres (vol c S) S.h S'.h→VolLe S.h (vol c S) (vol c S')→(∀ b ∈ its,∀ o,S.h.get? b=some o→S'.h.get? b=some o)→It i S'
  item:∀ i S s d (Q:Value→Shared→Prop) (E:Value→Shared→Prop),It i S→Heaps G c S→s.heap=S.h→G.lo ≤ s.toks→P S.σ→ds[i]? = some d →
    (∀ v h' (tk:Tk G.lo),(∀ b o,b ∉ its→S.h.get? b=some o→h'.get? b=some o)→(∀ b ∈ its,∃ o,h'.get? b=some o)→It (i + 1) { S with h:=h' }→Rv G c { S with h:=h' } v d→Q v (ShT s h' tk)) →
    wpAny G.M c.A (pyNext (.ref it)) (fun r s₁=>∃ v,r=some v∧wpAny G.M c.A (letOwnedTupleGo target (.ref it) v) (fun _ s₂=>Q v s₂) E s₁) E s
  done:∀ S s (Q:Option Value→Shared→Prop) (E:Value→Shared→Prop),It ds.length S→Heaps G c S→s.heap=S.h→G.lo ≤ s.toks→P S.σ →
    (∀ h' (tk:Tk G.lo),(∀ b o,b ∉ its→S.h.get? b=some o→h'.get? b=some o)→Q none (ShT s h' tk))→wpAny G.M c.A (pyNext (.ref it)) Q E s
structure Walk (G:Amb) (c:Cx) (its:List Addr) (it:Addr) (target:Expr) (ds:List D) (P:List AO→Prop) (It:Nat→Gs→Prop):Prop extends WalkN G c its it target ds P It where
  self:∀ i S s (Q:Value→Shared→Prop) (E:Value→Shared→Prop),It i S→s.heap=S.h→Q (.ref it) s→wpAny G.M c.A (pyIter (.ref it)) Q E s
structure Src where
  ds:List D
  P:List AO→Prop
/-- the iterator of a clause -/
noncomputable def RIt (G:Amb) (c:Cx) (S0:Gs) (target:Expr) (S:Gs) (a:Value) (x:Src):Prop :=
  ∃ it its It,a = .ref it∧(∀ b ∈ its,S0.h.get? b=none)∧Heaps G (c.addX its) S∧It 0 S∧Walk G (c.addX its) its it target x.ds x.P It
noncomputable def RItN (G:Amb) (c:Cx) (S0:Gs) (target:Expr) (S:Gs) (a:Value) (x:Src):Prop :=
  ∃ it its It,a = .ref it∧(∀ b ∈ its,S0.h.get? b=none)∧Heaps G (c.addX its) S∧It 0 S∧WalkN G (c.addX its) its it target x.ds x.P It
noncomputable def Itr (G:Amb) (hn:Bool) (n:Nat) (Z:Scope) (target iter:Expr) (m:Mo Src):Prop :=
  ∀ c env fr S s out σ',Run G hn n Z c env fr S s→m fr S.σ=some (out,σ') →
    Tr G c S s (RItN G c S target) (do let x ← foldedSetIterable iter env (← eval iter env); PySem.standAt iter.pos; PySem.holding [x] (pyIter x)) out σ'
open Classical in
noncomputable def Mf.each (P:List AO→Prop) (tgt:D→Mf Unit) (body:Mf SF):List D→Mf SF
  | []=>fun fr σ=>if P σ then some (.val .next,fr,σ) else none
  | d :: ds=>fun fr σ=>if P σ then Mf.bind (tgt d) (fun _=>Mf.bind body fun r=>match r with
      | .next=>Mf.each P tgt body ds
      | .cont=>Mf.each P tgt body ds
      | .brk=>Mf.pure .next
      | .ret d=>Mf.pure (.ret d)) fr σ else none
section
variable {G:Amb} {c:Cx} {its:List Addr} {env:Env} {hn:Bool} {n:Nat} {Z:Scope}
theorem item_post {M:Model} {A:Around} {it:Value} {target:Expr} {s:Shared} {B:Value→Shared→Prop} {N:Shared→Prop} {E:Value→Shared→Prop}
    (h:wpAny M A (pyNext it) (fun r s1=>∃ v,r=some v∧wpAny M A (letOwnedTupleGo target it v) (fun _ s2=>B v s2) E s1) E s) :
    wpAny M A (pyNext it) (fun r s1=>match r with | none=>N s1 | some v=>wpAny M A (letOwnedTupleGo target it v) (fun _ s1'=>B v s1') E s1) E s :=
  wpAny_mono h (fun r s1 hr=>by obtain ⟨v,rfl,hr⟩:=hr; exact hr) fun _ _ z=>z
theorem each_P {P:List AO→Prop} {tgt:D→Mf Unit} {body:Mf SF} {d:D} {ds:List D} {fr:Fr} {σ:List AO} {r:Out SF × Fr × List AO} (h:Mf.each P tgt body (d :: ds) fr σ=some r) :
    P σ∧Mf.bind (tgt d) (fun _=>Mf.bind body fun r=>match r with
      | .next=>Mf.each P tgt body ds
      | .cont=>Mf.each P tgt body ds
      | .brk=>Mf.pure .next
      | .ret d=>Mf.pure (.ret d)) fr σ=some r:=by
  unfold Mf.each at h
  by_cases hP:P σ
  · rw [if_pos hP] at h; exact ⟨hP,h⟩
  · rw [if_neg hP] at h; exact nnS h
theorem Mf.bind_inv {α β:Type} {m:Mf α} {f:α→Mf β} {fr fr':Fr} {σ σ':List AO} {out:Out β} (h:Mf.bind m f fr σ=some (out,fr',σ')) :
    ∃ oA frA σA,m fr σ=some (oA,frA,σA)∧(∀ X msg,oA = .exc X msg→out = .exc X msg∧fr'=frA∧σ'=σA)∧∀ a,oA = .val a→f a frA σA=some (out,fr',σ'):=by
  unfold Mf.bind at h
  split at h
  · rename_i a frA σA e
    exact ⟨_,_,_,e,fun X msg q=>(by exact nVE q),fun a q=>(by (have k1:=valE q; clear q; subst k1); exact h)⟩
  · rename_i X msg frA σA e
    (have k1:=s3A h; have k2:=s3B h; have k3:=s3C h; clear h; subst k1 k2 k3)
    exact ⟨_,_,_,e,fun X msg q=>(by (have k1:=excA q; have k2:=excB q; clear q; subst k1 k2); exact ⟨rfl,rfl,rfl⟩),fun a q=>(by exact nEV q)⟩
  · exact nnS h
theorem rfElim {G:Amb} {c:Cx} {S:Gs} {R:Flow→SF→Prop} {f:Flow} {b:SF} (r:RF G c S f b) (h1:R .next .next) (h2:R .cont .cont) (h3:R .brk .brk) (h4:∀ w d,Rv G c S w d→R (.ret w) (.ret d)):R f b:=by
  cases b with
  | next=>cases f with
    | next=>exact h1
    | _=>exact False.elim r
  | cont=>cases f with
    | cont=>exact h2
    | _=>exact False.elim r
  | brk=>cases f with
    | brk=>exact h3
    | _=>exact False.elim r
  | ret d=>cases f with
    | ret w=>exact h4 w d r
    | _=>exact False.elim r
theorem each_nilE {P:List AO→Prop} {tgt:D→Mf Unit} {body:Mf SF} {fr fr':Fr} {σ σ':List AO} {out:Out SF} (h:Mf.each P tgt body [] fr σ=some (out,fr',σ')) {X:Prop} (k:P σ→Out.val SF.next=out→fr=fr'→σ=σ'→X):X:=by
  unfold Mf.each at h
  by_cases hP:P σ
  · rw [if_pos hP] at h; exact k hP (s3A h) (s3B h) (s3C h)
  · rw [if_neg hP] at h; exact nnS h
/-- the loop's rule, its outcomes named -/
theorem forLoop_any {R:Result→Shared→Prop} {A:Around} {target:Expr} {it:Value} {body:List Stmt} {s:Shared} (I:Nat→Shared→Prop)
    (turn:∀ n s (U:Flow→Shared→Prop) (N:Shared→Prop) (E:Value→Shared→Prop),(∀ m s',m < n→I m s'→U .next s')→(∀ m s',m < n→I m s'→U .cont s')→(∀ s',R (.ok .next) s'→U .brk s')→(∀ v s',R (.ok (.ret v)) s'→U (.ret v) s')→(∀ s',R (.ok .next) s'→N s') →
      (∀ e s',notedBy G.M A env (fun e s'=>R (.error e) s') e s'→E e s')→I n s→wpAny G.M A (pyNext it) (fun r s₁=>match r with
      | none=>N s₁
      | some v=>wpAny G.M A (letOwnedTupleGo target it v) (fun _ s₁'=>wpAny G.M A (assign target env v) (fun _ s₂=>wpAny G.M A (execs body env) U E s₂) E s₁') E s₁) E s)
    (n:Nat) (h:I n s):codeAny G.M A (.forLoop target it body [] env) R s:=by
  refine codeAny_forLoop_any I (fun n s hI=>?_) n h
  refine wpAny_mono (turn n s (fun f s₃=>match f with | .next | .cont=>∃ m,m < n∧I m s₃ | .brk=>R (.ok .next) s₃ | .ret v=>R (.ok (.ret v)) s₃) (R (.ok .next)) _ (fun m s' h1 h2=>⟨m,h1,h2⟩) (fun m s' h1 h2=>⟨m,h1,h2⟩) (fun _ z=>z) (fun _ _ z=>z) (fun _ z=>z) (fun _ _ z=>z) hI) (fun r s₁ h₁=>?_) fun _ _ z=>z
  cases r with
  | none=>exact wpAny_execs_nil h₁
  | some v=>exact h₁
/-- what stands between the turns -/
noncomputable def FJ (G:Amb) (c:Cx) (its:List Addr) (env:Env) (S:Gs) (It:Nat→Gs→Prop) (run:List D→Mf SF) (ds:List D) (q:Out SF × Fr × List AO) (i:Nat) (fr1:Fr) (S':Gs):Prop :=
  It i S'∧Heaps G (c.addX its) S'∧EnvOk G (c.addX its) env fr1 S'∧ExtS c env S S'∧run (ds.drop i) fr1 S'.σ=some q
inductive FInv (N:Nat) (J:Nat→Fr→Gs→Prop) (s:Shared):Nat→Shared→Prop
  | mk (i:Nat) (fr1:Fr) (S':Gs) (tk:Tk G.lo):i ≤ N→J i fr1 S'→FInv N J s (N + 1 - i) (ShT s S'.h tk)
theorem forBody_ok {target:Expr} {body:List Stmt} {tgt:D→Mf Unit} {mb:Mf SF} (ht:As G hn n Z target tgt) (hb:Exs G hn n Z body mb) {fr:Fr} {S:Gs} {s:Shared} {v:Value} {d:D} (q:Run G hn n Z c env fr S s) (hf:c.fenv=env) (hl:env.frame=some env.locals) (rv:Rv G c S v d)
    {f:SF→Mf SF} {out:Out SF} {fr':Fr} {σ':List AO} (hm:Mf.bind (tgt d) (fun _=>Mf.bind mb f) fr S.σ=some (out,fr',σ')) {U:Flow→Shared→Prop} {E:Value→Shared→Prop}
    (kx:∀ X msg,out = .exc X msg→∀ (S2:Gs) e h' (tk:Tk G.lo),S2.σ=σ'→Heaps G c S2→ExtS c env S S2→EnvOk G c env fr' S2→Thr G c S2.h e X msg h'→E (.ref e) (ShT s h' tk))
    (kv:∀ fl b frB (S2:Gs) (tk:Tk G.lo),RF G c S2 fl b→f b frB S2.σ=some (out,fr',σ')→Heaps G c S2→ExtS c env S S2→EnvOk G c env frB S2→U fl (ShT s S2.h tk)) :
    wpAny G.M c.A (assign target env v) (fun _ s₂=>wpAny G.M c.A (execs body env) U E s₂) E s:=by
  refine xEEEAA (Mf.bind_inv hm) fun oA frA σA hA hAX hAV=>?_
  clear hm
  refine ht c env fr S s v d oA frA σA q rv hA _ _ (fun b' hb' u SA tkA eA HA xA VA _=>?_) fun X msg ho SA e h'' tkA eA HA xA VA th=>kx X msg (hAX X msg ho).1 SA e h'' tkA (eA.trans (hAX X msg ho).2.2.symm) HA xA ((hAX X msg ho).2.1.symm ▸ VA) th
  refine xEEEAA (Mf.bind_inv (hAV b' hb')) fun oB frB σB hB hBX hBV=>?_
  clear hAX hAV rv
  refine hb c env frA SA _ oB frB σB (q.stepS HA VA) hf hl ((congrArg (mb frA) eA).trans hB) _ _ (fun b hb' fl SB tkB eB HB xB VB rB=>kv fl b frB SB tkB rB (eB.symm ▸ hBV b hb') HB (xA.trans xB) VB) fun X msg ho SB e h'' tkB eB HB xB VB th=>kx X msg (hBX X msg ho).1 SB e h'' tkB (eB.trans (hBX X msg ho).2.2.symm) HB (xA.trans xB) ((hBX X msg ho).2.1.symm ▸ VB) th
theorem forTail_ok {target:Expr} {body:List Stmt} {tgt:D→Mf Unit} {mb:Mf SF} (ht:As G hn n Z target tgt) (hb:Exs G hn n Z body mb) {fr fr':Fr} {S S1:Gs} {s:Shared} (q:Run G hn n Z c env fr S s) (hf:c.fenv=env) (hl:env.frame=some env.locals) {it:Addr} {It:Nat→Gs→Prop} {x:Src} {out:Out SF} {σ':List AO} {tk1:Tk G.lo}
    (hnew:∀ b ∈ its,S.h.get? b=none) (HX:Heaps G (c.addX its) S1) (hIt:It 0 S1) (W:WalkN G (c.addX its) its it target x.ds x.P It) (x1:Ext c S S1) (h2:Mf.each x.P tgt mb x.ds fr S1.σ=some (out,fr',σ')) {Q:Flow→Shared→Prop} {E:Value→Shared→Prop}
    (hq:∀ b,out = .val b→∀ a (S':Gs) (tk:Tk G.lo),S'.σ=σ'→Heaps G c S'→ExtS c env S S'→EnvOk G c env fr' S'→RF G c S' a b→Q a (ShT s S'.h tk))
    (hx:∀ X msg,out = .exc X msg→∀ (S':Gs) e h' (tk:Tk G.lo),S'.σ=σ'→Heaps G c S'→ExtS c env S S'→EnvOk G c env fr' S'→Thr G c S'.h e X msg h'→E (.ref e) (ShT s h' tk)) :
    wpAny G.M c.A (runOwn (.forLoop target (.ref it) body [] env) env) Q E (ShT s S1.h tk1):=by
  have ap:Apart c its:=⟨fun a ha hm'=>by
    rcases List.mem_append.mp hm' with z | z
    · (refine xE (q.H.fs_some z) fun o ho=>?_); rw [hnew a ha] at ho; exact nnS ho
    · (refine xE ((q.H.xs a z).1) fun o ho=>?_); rw [hnew a ha] at ho; exact nnS ho⟩
  refine wpAny_runOwn ?_
  refine forLoop_any (FInv x.ds.length (FJ G c its env S It (Mf.each x.P tgt mb) x.ds (out,fr',σ')) s) ?_ (x.ds.length + 1) (.mk 0 fr S1 tk1 (Nat.zero_le _) ⟨hIt,HX,q.V.addX q.H x1 hnew,x1.s env,h2⟩)
  intro k s' U N E' hU1 hU2 hU3 hU4 hN hE hJ
  cases hJ with
  | mk i fr1 S' tk hile hJ =>
  refine xAAA hJ fun hI H' V' hJ=>?_
  refine xA hJ fun XX hmod=>?_
  by_cases hlt:i < x.ds.length
  · rw [List.drop_eq_getElem_cons hlt] at hmod
    refine xA (each_P hmod) fun hP hmod=>?_
    refine item_post ?_
    refine W.item i S' (ShT s S'.h tk) x.ds[i] _ _ hI H' rfl tk.2 hP (List.getElem?_eq_getElem hlt) fun v h' tk' hk hlive hI' rv=>?_
    have H1':=H'.turnX ap hk hlive
    have V1':=EnvOk.turnX q.V ap V' hk
    have X1':=XX.turnX hnew hk
    have hlt':x.ds.length + 1 - (i + 1) < x.ds.length + 1 - i:=by omega
    refine forBody_ok (c:=c.addX its) ht hb ⟨q.scope,q.room,q.units,q.hand,rfl,Subtype.property _,H1',V1'⟩ hf hl rv hmod (fun X msg ho S2 e h'' tk2 e2 H2 x2 V2 th=>hE _ _ ?_) fun fl b frB SB tkB rB hk2 HB xB VB=>?_
    · refine trNote (G:=G) (c:=c) (S:=S2) (s:=(ShT s h'' tk2)) H2.dropX hf hl (show Thr G c S2.h e X msg h'' from th) fun h3 th2=>?_
      refine trCameBack (c:=c) hf hl th2 fun h4 th3=>?_
      exact hx X msg ho S2 e h4 tk2 e2 H2.dropX (X1'.trans x2.ofX) (EnvOk.dropX q.V V2) th3
    · have XB:=X1'.trans xB.ofX
      have IB:It (i + 1) SB:=by
        refine W.stable _ _ SB hI' xB.adr (xB.pres V1'.ownIn) xB.volLe fun b hb o e=>?_
        have hno : ¬ Own env b:=fun ho=>ho.elim (fun z=>ap.off b hb (z ▸ q.V.loc)) fun ⟨y,z⟩=>ap.off b hb (List.mem_append_right _ (q.V.own y b z))
        exact (xB.keep b o e (H1'.xs b (List.mem_append_left _ hb)).2.1 hno).elim id fun z=>absurd (List.mem_append_left _ z.1) (ap.off b hb)
      revert hk2
      apply rfElim rB
      · exact fun h=>hU1 _ _ hlt' (.mk (i + 1) frB SB tkB hlt ⟨IB,HB,VB,XB,h⟩)
      · exact fun h=>hU2 _ _ hlt' (.mk (i + 1) frB SB tkB hlt ⟨IB,HB,VB,XB,h⟩)
      · exact fun h=>hU3 _ (hq _ (s3A h).symm .next SB tkB (s3C h) HB.dropX XB (s3B h ▸ EnvOk.dropX q.V VB) trivial)
      · exact fun w d rw h=>hU4 _ _ (hq _ (s3A h).symm (.ret w) SB tkB (s3C h) HB.dropX XB (s3B h ▸ EnvOk.dropX q.V VB) (Rv.dropX rw))
  · have hi':i=x.ds.length:=Nat.le_antisymm hile (Nat.le_of_not_lt hlt)
    subst hi'
    rw [List.drop_length] at hmod
    refine each_nilE hmod fun hP k1 k2 k3=>?_
    refine W.done S' (ShT s S'.h tk) _ _ hI H' rfl tk.2 hP fun h' tk' hk=>hN _ ?_
    exact hq _ k1.symm .next { S' with h:=h' } tk' k3 (H'.endX ap hk) (XX.turnX hnew hk) (k2 ▸ EnvOk.dropX q.V (EnvOk.turnX q.V ap V' hk)) trivial
theorem Ex.for {target iter:Expr} {body:List Stmt} {pos:Pos} {m:Mo Src} {tgt:D→Mf Unit} {mb:Mf SF} (hi:Itr G hn n Z target iter m) (ht:As G hn n Z target tgt) (hb:Exs G hn n Z body mb) :
    Ex G hn n Z (.For target iter body [] pos) (Mf.bind (Mf.lift m) fun x=>Mf.each x.P tgt mb x.ds):=by
  intro c env fr S s out fr' σ' q hf hl hm
  rw [exec_For]
  show TrF G c env S s (RF G c) (do
    PySem.standAt pos
    let x ← foldedSetIterable iter env (← eval iter env)
    PySem.standAt iter.pos
    runOwn (.forLoop target (← PySem.holding [x] (pyIter x)) body [] env) env) out fr' σ'
  refine TrF.standAt ?_
  have main:TrF G c env S s (RF G c) ((do let x ← foldedSetIterable iter env (← eval iter env); PySem.standAt iter.pos; PySem.holding [x] (pyIter x)) >>= fun it=>runOwn (.forLoop target it body [] env) env) out fr' σ':=by
    intro Q E hq hx
    rcases bindLift hm with ⟨x,σ1,h1,h2⟩ | ⟨X,msg,σ1,h1,e⟩
    rotate_left
    · cases e
      refine wpAny_bind (hi c env fr S s _ _ q h1 _ E (fun b' hb=>by exact nEV hb) fun X' msg' hm' S₁ e h' tk e1 H1 x1 th=>?_)
      (have k1:=excA hm'; have k2:=excB hm'; clear hm'; subst k1 k2)
      exact hx _ _ rfl S₁ e h' tk e1 H1 (x1.s env) (x1.env q.H q.V) th
    refine wpAny_bind (hi c env fr S s _ _ q h1 _ E (fun b' hb' a' S1 tk1 e1 H1 x1 r1=>?_) fun X msg hm'=>by exact nVE hm')
    (have k1:=valE hb'; clear hb'; subst k1)
    (refine xEEEAAAA r1 fun it its It q0z hnew HX hIt W=>?_; try clear r1; subst q0z)
    exact forTail_ok ht hb q hf hl hnew HX hIt W x1 (e1.symm ▸ h2) hq hx
  simp only [bind_assoc] at main
  exact main
end
end Mine
end
section
open PySem PySem.W PyProof.Rows
namespace Mine
theorem goPlain {M:Model} {A:Around} {target:Expr} {it:Addr} {v:Value} {s:Shared} {o:Obj} {nm:String} {Q:Unit→Shared→Prop} {E:Value→Shared→Prop} (ho:s.heap.get? it=some o) (hc:o.cls = .type nm)
    (hn : ["enumerate", "zip", "dict_itemiterator", "dict_reverseitemiterator", "odict_iterator", "itertools.zip_longest", "itertools.pairwise"].contains nm=false) (h:Q () s):wpAny M A (letOwnedTupleGo target (.ref it) v) Q E s:=by
  have key:wpAny M A (do
      let (.ref r,.ref a):=((Value.ref it,v):Value × Value) | return
      let o ← load r
      match o.cls,o.data with
      | .type n,.fields vs =>
        if ["enumerate", "zip", "dict_itemiterator", "dict_reverseitemiterator", "odict_iterator", "itertools.zip_longest", "itertools.pairwise"].contains n && vs[0]? == some (rawInt a) then
          PySem.rule "for.unpacks-the-owned-tuple"
          updateField r 0 .none
      | _,_=>pure ()) Q E s:=by
    cases v with
    | ref a =>
      refine wpAny_bind (wpAny_load ho ?_)
      rw [hc]
      cases o.data with
      | fields vs =>
        dsimp only
        rw [hn,Bool.false_and]
        exact wpAny_pure h
      | _=>exact wpAny_pure h
    | _=>exact wpAny_pure h
  unfold letOwnedTupleGo
  cases target <;> first | exact wpAny_pure h | exact key
theorem range_size1 (a b:Int):Builtin.Range.rangeSize a b 1=(((b - a).toNat:Nat):Int):=by
  unfold Builtin.Range.rangeSize
  rw [if_pos (by decide)]
  split <;> omega
theorem range_small1 {a b:Int} (b1 : -(2 ^ 61) ≤ a) (b2:a ≤ 2 ^ 61) (b3 : -(2 ^ 61) ≤ b) (b4:b ≤ 2 ^ 61):Builtin.Range.small a b 1=true:=by
  have e61:(2:Int) ^ 61=2305843009213693952:=by decide
  have e63:(2:Int) ^ 63=9223372036854775808:=by decide
  rw [e61] at b1 b2 b3 b4
  unfold Builtin.Range.small
  rw [range_size1]
  unfold Builtin.Range.rangeFitsLong
  rw [e63]
  simp only [Bool.and_eq_true,Bool.or_eq_true,decide_eq_true_eq,beq_iff_eq]
  refine ⟨⟨⟨⟨⟨by omega,by omega⟩,by omega,by omega⟩,by omega,by omega⟩,by omega,by omega⟩,.inr ?_⟩
  rw [if_pos (by decide)]
  simp only [Bool.and_eq_true,decide_eq_true_eq]
  omega
section
variable {G:Amb} {c:Cx} {S:Gs} {s:Shared}
/-- from a kit's walk, the container frozen -/
theorem Walk.of {its fp:List Addr} {it:Addr} {target:Expr} {ds:List D} {nn:Nat} {P:Nat→Value→Prop} {St:Nat→Heap→Prop} {nm:String} (W:Walks G.prog G.w c.A it fp its nn P St) (hnn:nn=ds.length) (Val:Gs→Prop)
    (hval:∀ S S',Val S→AdrLe S.adr S'.adr→Pres (vol c S) S.h S'.h→VolLe S.h (vol c S) (vol c S')→Val S')
    (hX:∀ b ∈ its,b ∈ c.X)
    (hfp:∀ S,Val S→∀ b ∈ fp,b ∈ its∨(b ∉ vol c S∧∃ o,S.h.get? b=some o))
    (hP:∀ S i v d,Val S→P i v→ds[i]? = some d→Rv G c S v d)
    (hst:∀ i h,St i h→∀ b ∈ its,∃ o,h.get? b=some o)
    (hcls:∀ i h,St i h→∃ o,h.get? it=some o∧o.cls = .type nm)
    (hn : ["enumerate", "zip", "dict_itemiterator", "dict_reverseitemiterator", "odict_iterator", "itertools.zip_longest", "itertools.pairwise"].contains nm=false:=by decide) :
    Walk G c its it target ds (fun _=>True) (fun i S=>St i S.h∧Val S):=by
  have vX:∀ S:Gs,∀ b ∈ its,b ∈ vol c S:=fun S b hb=>List.mem_append_right _ (List.mem_append_right _ (hX b hb))
  refine ⟨⟨fun i S S' h ha hp hv hk=>⟨W.frame i S.h S'.h h.1 fun b hb o e=>?_,hval S S' h.2 ha hp hv⟩,fun i S s d Q E h H hs hp0 _ hd hQ=>?_,fun S s Q E h H hs hp0 _ hQ=>?_⟩,fun i S s Q E h hs hQ=>W.self i s Q E (by rw [hs]; exact h.1) hQ⟩
  · rcases hfp S h.2 b hb with q | ⟨q,_⟩
    · exact hk b q o e
    · exact hp b o q e
  · have hlt:i < nn:=by rw [hnn]; exact (List.getElem?_eq_some_iff.mp hd).1
    refine wpAny_up hp0 ?_
    refine W.item i s _ _ hlt (by rw [hs]; exact h.1) fun v h' tk hPv hSt hk htk=>⟨v,rfl,?_⟩
    rw [hs] at hk
    (refine xEA (hcls _ _ hSt) fun o ho hc=>?_)
    refine goPlain (s:=(ShN s h' tk)) ho hc hn ?_
    have vv:Val { S with h:=h' }:=hval S { S with h:=h' } h.2 (.refl _) (fun a o hn e=>hk a o (fun q=>hn (vX S a q)) e) (.of_sub _ fun _ q=>q)
    exact hQ v h' ⟨tk,htk⟩ hk (hst _ _ hSt) ⟨hSt,vv⟩ (hP _ i v d vv hPv hd)
  · exact wpAny_up hp0 (W.done s _ _ (by rw [hs,hnn]; exact h.1) fun h' tk hk htk=>hQ h' ⟨tk,htk⟩ (by rw [hs] at hk; exact hk))
noncomputable def chars (x:PySem.Str):List D:=x.cps.toList.map fun k=>.str ⟨#[k]⟩
noncomputable def intsD (a b:Int):List D:=(List.range (b - a).toNat).map fun i=>.int (a + (i:Nat))
noncomputable def inR:Int→Bool
  | .ofNat n=>Nat.ble n 2305843009213693951
  | .negSucc n=>Nat.ble n 2305843009213693951
theorem inR_iff {i:Int} : inR i=true ↔ -(2 ^ 61) ≤ i∧i < 2 ^ 61:=by
  have e61:(2:Int) ^ 61=2305843009213693952:=by decide
  rw [e61]
  cases i with
  | ofNat n=>unfold inR; rw [Nat.ble_eq]; have:Int.ofNat n=(n:Int):=rfl; omega
  | negSucc n=>unfold inR; rw [Nat.ble_eq]; omega
theorem inR_nat {n:Nat} (h:n ≤ 1000000):inR (n:Int)=true:=by show Nat.ble n _=true; rw [Nat.ble_eq]; omega
noncomputable def srcD (d:D) (σ:List AO):Option Src:=match d with
  | .lst ds=>some ⟨ds,fun _=>True⟩
  | .tup ds=>some ⟨ds,fun _=>True⟩
  | .str x=>some ⟨chars x,fun _=>True⟩
  | .rng a b=>if (inR a && inR b)=true then some ⟨intsD a b,fun _=>True⟩ else none
  | .ref k=>match σ[k]? with
    | some (.lst ds)=>some ⟨ds,fun σ=>σ[k]? = some (.lst ds)⟩
    | _=>none
  | _=>none
noncomputable def ItAt (h:Heap) (it:Addr) (v:Value) (d:D):Prop:=match d with
  | .lst _=>∃ a,v = .ref a∧h.IsListIter it a 0
  | .ref _=>∃ a,v = .ref a∧h.IsListIter it a 0
  | .tup _=>∃ a,v = .ref a∧h.IsTupleIter it a 0
  | .str x=>∃ t,v = .str x t∧(h.IsStrIter it "str_ascii_iterator" x t 0∨h.IsStrIter it "str_iterator" x t 0)
  | .rng a b=>IsRangeIter h it a (((b - a).toNat:Nat):Int) 1
  | _=>False
theorem Walk.make (H:Heaps G c S) (hh:c.A.handled=none) {it:Addr} (hit:it ∈ c.X) {v:Value} {d:D} {target:Expr} {x:Src} (r:Rv G c S v d) (ha:ItAt S.h it v d) (hx:srcD d S.σ=some x):∃ It,It 0 S∧Walk G c [it] it target x.ds x.P It:=by
  have hX:∀ b ∈ [it],b ∈ c.X:=fun b hb=>by rcases List.mem_singleton.mp hb with rfl; exact hit
  have seqVal:∀ {a:Addr} {o1:Obj} {vs:Array Value} {ds:List D},S.h.get? a=some o1→a ∉ vol c S→Rvs G c S vs.toList ds→∀ (p:Heap→Prop) (pst:∀ h h':Heap,p h→(∀ o,h.get? a=some o→h'.get? a=some o)→p h'),p S.h →
      let Val:Gs→Prop:=fun S'=>p S'.h∧a ∉ vol c S'∧(∃ o,S'.h.get? a=some o)∧Rvs G c S' vs.toList ds
      Val S∧(∀ S1 S2,Val S1→AdrLe S1.adr S2.adr→Pres (vol c S1) S1.h S2.h→VolLe S1.h (vol c S1) (vol c S2)→Val S2):=by
    intro a o1 vs ds ho hn hr p pst hp
    refine ⟨⟨hp,hn,⟨o1,ho⟩,hr⟩,fun S1 S2 h ha hpr hv=>?_⟩
    (refine xAAA h fun h1 h2 q0z h4=>?_; try clear h; refine xE q0z fun o2 h3=>?_)
    exact ⟨pst _ _ h1 fun o e=>hpr a o h2 e,hv.notin h3 h2,⟨o2,hpr a o2 h2 h3⟩,VRs.mono hpr ha hv h4⟩
  have inV:it ∈ vol c S:=List.mem_append_right _ (List.mem_append_right _ hit)
  cases r with
  | none=>exact nnS hx
  | bool=>exact nnS hx
  | int=>exact nnS hx
  | dct=>exact nnS hx
  | glob=>exact nnS hx
  | exc=>exact nnS hx
  | @lst a o vs n ds ho hc hd hz hn hr =>
    (have k1:=s1E hx; clear hx; subst k1)
    (refine xEA ha fun a' e hi=>?_; try clear ha)
    (have k1:=Value.ref.inj e; clear e; subst k1)
    (refine xA (seqVal ho hn hr (fun h=>h.IsList a vs) (fun h h' x k=>x.at k) ⟨o,ho,hc,n,hd⟩) fun v0 vst=>?_)
    have W:=Walk.of (G:=G) (c:=c) (target:=target) (ds:=ds) (nm := "list_iterator") (Walks.list (prog:=G.prog) (w:=G.w) (A:=c.A) hh it a (fun e=>hn (e ▸ inV)) vs) (by have:=VRs.length hr; simpa using this) _ vst hX
      (fun S' h b hb=>by
        rcases List.mem_cons.mp hb with e | hb
        · exact .inl (by rw [e]; exact .head _)
        · rcases List.mem_singleton.mp hb with e
          rw [e]; exact .inr ⟨h.2.1,h.2.2.1⟩)
      (fun S' i v d h hp hd=>by
        (refine xEA (VRs.get h.2.2.2 hd) fun w hw rw'=>?_)
        have:vs[i]? = some w:=by simpa using hw
        rw [hp] at this; (have k1:=s1E this; clear this; subst k1); exact rw')
      (fun i h st b hb=>by rcases List.mem_singleton.mp hb with e; (refine xEA (st.1) fun o ho _=>?_); exact ⟨o,by rw [e]; exact ho⟩)
      (fun i h st=>by (refine xEAA (st.1) fun o ho hc _=>?_); exact ⟨o,ho,hc⟩)
    exact ⟨_,⟨⟨hi,v0.1⟩,v0⟩,W⟩
  | @tup a o vs n ds ho hc hd hz hn hr =>
    (have k1:=s1E hx; clear hx; subst k1)
    (refine xEA ha fun a' e hi=>?_; try clear ha)
    (have k1:=Value.ref.inj e; clear e; subst k1)
    (refine xA (seqVal ho hn hr (fun h=>h.IsTuple a vs) (fun h h' x k=>let ⟨o,ho,r⟩:=x; ⟨o,k o ho,r⟩) ⟨o,ho,hc,n,hd⟩) fun v0 vst=>?_)
    have W:=Walk.of (G:=G) (c:=c) (target:=target) (ds:=ds) (nm := "tuple_iterator") (Walks.tuple (prog:=G.prog) (w:=G.w) (A:=c.A) hh it a (fun e=>hn (e ▸ inV)) vs) (by have:=VRs.length hr; simpa using this) _ vst hX
      (fun S' h b hb=>by
        rcases List.mem_cons.mp hb with e | hb
        · exact .inl (by rw [e]; exact .head _)
        · rcases List.mem_singleton.mp hb with e
          rw [e]; exact .inr ⟨h.2.1,h.2.2.1⟩)
      (fun S' i v d h hp hd=>by
        (refine xEA (VRs.get h.2.2.2 hd) fun w hw rw'=>?_)
        have:vs[i]? = some w:=by simpa using hw
        rw [hp] at this; (have k1:=s1E this; clear this; subst k1); exact rw')
      (fun i h st b hb=>by rcases List.mem_singleton.mp hb with e; (refine xEA (st.1) fun o ho _=>?_); exact ⟨o,by rw [e]; exact ho⟩)
      (fun i h st=>by (refine xEAA (st.1) fun o ho hc _=>?_); exact ⟨o,ho,hc⟩)
    exact ⟨_,⟨⟨hi,v0.1⟩,v0⟩,W⟩
  | @str y t hy =>
    (have k1:=s1E hx; clear hx; subst k1)
    (refine xEA ha fun t' e hi=>?_; try clear ha)
    cases e
    have get:∀ i d,(chars y)[i]? = some d→∃ k,y.cps[i]? = some k∧d=D.str ⟨#[k]⟩:=fun i d h=>by
      unfold chars at h
      rw [List.getElem?_map] at h
      (refine xEA (Option.map_eq_some_iff.mp h) fun k hk e=>?_)
      exact ⟨k,by simpa using hk,e.symm⟩
    have one:∀ (S':Gs) i v d,True→SignAt y i v→(chars y)[i]? = some d→Rv G c S' v d:=fun S' i v d _ hp hd=>by
      (refine xEA (get i d hd) fun k hk q0z=>?_; subst q0z)
      (refine xEEA hp fun k' u hk' q0z=>?_; try clear hp; subst q0z)
      rw [hk] at hk'; (have k1:=s1E hk'; clear hk'; subst k1)
      exact .str _ _ (by show 1 ≤ sizeLine; decide)
    rcases hi with hi | hi
    · have W:=Walk.of (G:=G) (c:=c) (target:=target) (ds:=chars y) (nm := "str_ascii_iterator") (Walks.strAscii (prog:=G.prog) (w:=G.w) (A:=c.A) hh it y t) (by unfold chars; simp) (fun _=>True) (fun _ _ _ _ _ _=>trivial) hX
        (fun S' h b hb=>.inl hb) (fun S' i v d h hp hd=>one S' i v d trivial hp hd)
        (fun i h st b hb=>by rcases List.mem_singleton.mp hb with e; (refine xEA st fun o ho _=>?_; try clear st); exact ⟨o,by rw [e]; exact ho⟩)
        (fun i h st=>by (refine xEAA st fun o ho hc _=>?_; try clear st); exact ⟨o,ho,hc⟩)
      exact ⟨_,⟨hi,trivial⟩,W⟩
    · have W:=Walk.of (G:=G) (c:=c) (target:=target) (ds:=chars y) (nm := "str_iterator") (Walks.strWide (prog:=G.prog) (w:=G.w) (A:=c.A) hh it y t) (by unfold chars; simp) (fun _=>True) (fun _ _ _ _ _ _=>trivial) hX
        (fun S' h b hb=>.inl hb) (fun S' i v d h hp hd=>one S' i v d trivial hp hd)
        (fun i h st b hb=>by rcases List.mem_singleton.mp hb with e; (refine xEA st fun o ho _=>?_; try clear st); exact ⟨o,by rw [e]; exact ho⟩)
        (fun i h st=>by (refine xEAA st fun o ho hc _=>?_; try clear st); exact ⟨o,ho,hc⟩)
      exact ⟨_,⟨hi,trivial⟩,W⟩
  | @rng rr a b t u w hr hn =>
    unfold srcD at hx
    dsimp only at hx
    split at hx
    rotate_left
    · exact nnS hx
    (have k1:=s1E hx; clear hx; subst k1)
    have W:=Walk.of (G:=G) (c:=c) (target:=target) (ds:=intsD a b) (nm := "range_iterator") (Walks.range (prog:=G.prog) (w:=G.w) (A:=c.A) hh it a 1 (b - a).toNat) (by unfold intsD; simp) (fun _=>True) (fun _ _ _ _ _ _=>trivial) hX
      (fun S' h b hb=>.inl hb) (fun S' i v d h hp hd=>by
        (refine xE hp fun t q0z=>?_; try clear hp; subst q0z)
        unfold intsD at hd
        rw [List.getElem?_map] at hd
        (refine xEA (Option.map_eq_some_iff.mp hd) fun k hk e=>?_)
        obtain ⟨hk1,hk2⟩:=List.getElem?_eq_some_iff.mp hk
        rw [List.getElem_range] at hk2
        subst hk2
        rw [← e,Int.mul_one]
        exact .int _ _)
      (fun i h st b hb=>by rcases List.mem_singleton.mp hb with e; exact ⟨_,by rw [e]; exact st⟩)
      (fun i h st=>⟨_,st,rfl⟩)
    refine ⟨_,⟨?_,trivial⟩,W⟩
    have ha':IsRangeIter S.h it a (((b - a).toNat:Nat):Int) 1:=ha
    have e1:a + ((0:Nat):Int) * 1=a:=by simp
    have e2:(((b - a).toNat:Nat):Int) - ((0:Nat):Int)=(((b - a).toNat:Nat):Int):=by simp
    show IsRangeIter S.h it (a + ((0:Nat):Int) * 1) ((((b - a).toNat:Nat):Int) - ((0:Nat):Int)) 1
    rw [e1,e2]; exact ha'
  | @ref k p hp =>
    unfold srcD at hx
    dsimp only at hx
    split at hx
    rotate_left
    · exact nnS hx
    rename_i ds hk
    (have k1:=s1E hx; clear hx; subst k1)
    (refine xEA ha fun a' e hi=>?_; try clear ha)
    (have k1:=Value.ref.inj e; clear e; subst k1)
    refine ⟨fun i S'=>S'.h.IsListIter it p.1 i∧S'.adr[k]? = some p,⟨hi,hp⟩,?_⟩
    have lst:∀ {S':Gs},Heaps G c S'→S'.adr[k]? = some p→S'.σ[k]? = some (.lst ds)→∃ vs',S'.h.IsList p.1 vs'∧Rvs G c S' vs'.toList ds:=fun H' ha hk'=>by
      (refine xEEEEAAAAAA (H'.lst (v:=.ref p.1) (.ref ha) hk') fun p2 o2 m2 vs2 e2 hp2 ho2 hc2 hd2 hz2 hr2=>?_)
      rw [ha] at hp2; (have k1:=s1E hp2; clear hp2; subst k1)
      exact ⟨vs2,⟨o2,ho2,hc2,m2,hd2⟩,hr2⟩
    refine ⟨⟨fun i S1 S2 h ha hpr hv hk=>⟨h.1.at fun o e=>hk _ (.head _) o e,ha k p h.2⟩,fun i S1 s1 d Q1 E1 h H1 hs1 hp0 hP hd hQ=>?_,fun S1 s1 Q1 E1 h H1 hs1 hp0 hP hQ=>?_⟩,fun i S1 s1 Q1 E1 h hs1 hQ=>wpAny_pyIter_listiter (by rw [hs1]; exact h.1) hQ⟩
    · (refine xEA (lst H1 h.2 hP) fun vs' hl' hr'=>?_)
      (refine xEA (VRs.get hr' hd) fun v hv rv=>?_)
      refine wpAny_pyNext_list_item (by rw [hs1]; exact h.1) (by rw [hs1]; exact hl') (x:=v) (by simpa using hv) fun h' hit' hs'=>⟨v,rfl,?_⟩
      rw [hs1] at hs'
      have hk':∀ b o,b ∉ [it]→S1.h.get? b=some o→h'.get? b=some o:=fun b o hb e=>hs'.extBut b o (fun q=>hb (by rw [q]; exact .head _)) e
      (refine xEAA (id hit') fun oi hoi hci _=>?_)
      refine goPlain (nm := "list_iterator") (s:={ s1 with heap:=h' }) hoi hci (by decide) ?_
      exact hQ v h' ⟨s1.toks,hp0⟩ hk' (fun b hb=>by rcases List.mem_singleton.mp hb with e; exact ⟨oi,by rw [e]; exact hoi⟩) ⟨hit',h.2⟩ (VR.mono (fun b o hn e=>hk' b o (fun q=>hn (List.mem_append_right _ (List.mem_append_right _ (hX b q)))) e) (.refl _) (.of_sub _ fun _ h=>h) rv)
    · (refine xEA (lst H1 h.2 hP) fun vs' hl' hr'=>?_)
      refine wpAny_pyNext_list_end hh (by rw [hs1]; exact h.1) (by rw [hs1]; exact hl') ?_ fun h' he=>?_
      · have:=VRs.length hr'
        simp at this
        simp [this]
      · rw [hs1] at he
        exact hQ h' ⟨s1.toks,hp0⟩ fun b o hb e=>he b o (fun q=>hb (by rw [q]; exact .head _)) e
/-- an iterator, made -/
theorem trIterRaw (H:Heaps G c S) (hs:s.heap=S.h) {v:Value} {d:D} {x:Src} (r:Rv G c S v d) (hx:srcD d S.σ=some x) {Q:Value→Shared→Prop} {E:Value→Shared→Prop}
    (hq:∀ o:Obj,o.isFreed=false→ItAt (S.h.push o) S.h.objs.size v d→Q (.ref S.h.objs.size) { s with heap:=S.h.push o }):wpAny G.M c.A (pyIter v) Q E s:=by
  cases r with
  | none=>exact nnS hx
  | bool=>exact nnS hx
  | int=>exact nnS hx
  | dct=>exact nnS hx
  | glob=>exact nnS hx
  | exc=>exact nnS hx
  | @lst a o vs n ds ho hc hd hz hn hr =>
    have hl:s.heap.IsList a vs:=⟨o,by rw [hs]; exact ho,hc,n,hd⟩
    refine wpAny_pyIter_list hl ?_
    rw [hs]
    exact hq _ rfl ⟨a,rfl,_,Heap.get?_push_size _ rfl,rfl,rfl⟩
  | @tup a o vs n ds ho hc hd hz hn hr =>
    have hl:s.heap.IsTuple a vs:=⟨o,by rw [hs]; exact ho,hc,n,hd⟩
    refine wpAny_pyIter_tuple hl ?_
    rw [hs]
    exact hq _ rfl ⟨a,rfl,_,Heap.get?_push_size _ rfl,rfl,rfl⟩
  | @str y t hy =>
    cases ha:y.cps.all (· < 128)
    · refine wpAny_pyIter_wide ha ?_
      rw [hs]
      exact hq _ rfl ⟨t,rfl,.inr ⟨_,Heap.get?_push_size _ rfl,rfl,rfl⟩⟩
    · refine wpAny_pyIter_ascii ha ?_
      rw [hs]
      exact hq _ rfl ⟨t,rfl,.inl ⟨_,Heap.get?_push_size _ rfl,rfl,rfl⟩⟩
  | @rng rr a b t u w hr hn =>
    unfold srcD at hx
    dsimp only at hx
    split at hx
    rotate_left
    · exact nnS hx
    rename_i hb
    (refine xA (Bool.and_eq_true_iff.mp hb) fun hb1 hb2=>?_)
    (refine xA (inR_iff.mp hb1) fun b1 b2=>?_)
    (refine xA (inR_iff.mp hb2) fun b3 b4=>?_)
    refine wpAny_pyIter_range (by rw [hs]; exact hr) (range_small1 b1 (Int.le_of_lt b2) b3 (Int.le_of_lt b4)) ?_
    rw [hs,range_size1]
    exact hq _ rfl (Heap.get?_push_size _ rfl)
  | @ref k p hp =>
    unfold srcD at hx
    dsimp only at hx
    split at hx
    rotate_left
    · exact nnS hx
    rename_i ds hk
    (refine xEEEEAAAAAA (H.lst (.ref hp) hk) fun p' o m vs e' hp' ho hc hd hz hr=>?_)
    rw [hp] at hp'; (have k1:=s1E hp'; clear hp'; subst k1)
    refine wpAny_pyIter_list (s:=s) ⟨o,by rw [hs]; exact ho,hc,m,hd⟩ ?_
    rw [hs]
    exact hq _ rfl ⟨p.1,rfl,_,Heap.get?_push_size _ rfl,rfl,rfl⟩
theorem trIter (H:Heaps G c S) (hs:s.heap=S.h) (hh:c.A.handled=none) {v:Value} {d:D} {target:Expr} {x:Src} (r:Rv G c S v d) (hx:srcD d S.σ=some x) (hp0:G.lo ≤ s.toks:=by first | exact Subtype.property _ | exact Run.tok (by assumption) | exact Ho.tok (by assumption)):Tr G c S s (RIt G c S target) (pyIter v) (.val x) S.σ:=by
  refine Tr.of_wp (hp:=hp0) fun Q E hq=>?_
  refine trIterRaw H hs r hx fun o hf hI=>?_
  have fresh1:∀ b ∈ [S.h.objs.size],S.h.get? b=none:=fun b hb=>by
    rcases List.mem_singleton.mp hb with rfl
    exact Heap.get?_none_of_le (Nat.le_refl _)
  (refine xA (H.addX (its:=[S.h.objs.size]) (h':=S.h.push o) (fun _ _ e=>Heap.get?_push_of_some _ e) fun a ha=>⟨fresh1 a ha,by rcases List.mem_singleton.mp ha with rfl; exact ⟨o,Heap.get?_push_size _ hf⟩⟩) fun H1 x1=>?_)
  have r1:Rv G (c.addX [S.h.objs.size]) { S with h:=S.h.push o } v d:=r.addX x1 fresh1
  (refine xEA (Walk.make (target:=target) H1 hh (List.mem_append_left _ (.head _)) r1 hI hx) fun It h0 W=>?_)
  exact hq (.ref S.h.objs.size) { S with h:=S.h.push o } s.toks rfl H1.dropX x1 ⟨S.h.objs.size,[S.h.objs.size],It,rfl,fresh1,H1,h0,W⟩
end
noncomputable def Mo.src (m:Mo D):Mo Src:=Mo.bind m fun d _ σ=>(srcD d σ).map fun x=>(.val x,σ)
theorem Itr.ev {G:Amb} {n:Nat} {Z:Scope} {target iter:Expr} {m:Mo D} (h:Ev G true n Z iter m) (hf:∀ env x,foldedSetIterable iter env x=Pure.pure x:=by intro _ _; rfl):Itr G true n Z target iter (Mo.src m):=by
  intro c env fr S s out σ' q hm
  refine Tr.bindM hm (fun o1 σ1 h1=>h c env fr S s o1 σ1 q h1) fun d v S1 tk H1 x1 ra h2=>?_
  (refine xEA (Option.map_eq_some_iff.mp h2) fun x hx e=>?_)
  (have k1:=p2A e; have k2:=p2B e; clear e; subst k1 k2)
  rw [hf]
  refine Tr.of_imp (t:=pyIter v) ?_ fun Q E w=>wpAny_bind (wpAny_pure (wpAny_bind (wpAny_standAt (wpAny_holding w))))
  refine (trIter (target:=target) H1 rfl (q.hand rfl) ra hx).mono fun S' a b xx r=>?_
  (refine xEEEAA r fun it its It h1 h2 h3=>?_; try clear r)
  refine ⟨it,its,It,h1,fun b hb=>?_,⟨h3.1,h3.2.1,h3.2.2.toWalkN⟩⟩
  cases e:S.h.get? b with
  | none=>rfl
  | some o=>(refine xE (x1.live b o e) fun o' e'=>?_); rw [h2 b hb] at e'; exact nnS e'
end Mine
end
section
open PySem PySem.W PyProof.Rows
namespace Mine
/-- a step that may turn what O names -/
structure ExtO (c:Cx) (O:List Addr) (S S':Gs):Prop where
  adr:AdrLe S.adr S'.adr
  keep:∀ b o,S.h.get? b=some o→b ∉ S.reg→b ∉ O→S'.h.get? b=some o∨(b ∈ c.fs∧∃ sl,S'.h.get? b=some { o with slots:=sl })
  fresh:∀ a ∈ S'.reg,a ∈ S.reg∨S.h.get? a=none
  live:∀ a o,S.h.get? a=some o→∃ o',S'.h.get? a=some o'
theorem Ext.o {c:Cx} {S S':Gs} (x:Ext c S S') (O:List Addr):ExtO c O S S':=⟨x.adr,fun b o e h _=>x.keep b o e h,x.fresh,x.live⟩
theorem ExtO.refl (c:Cx) (O:List Addr) (S:Gs):ExtO c O S S:=(Ext.refl c S).o O
theorem ExtO.trans {c:Cx} {O:List Addr} {S S' S'':Gs} (x:ExtO c O S S') (y:ExtO c O S' S''):ExtO c O S S'':=by
  refine ⟨x.adr.trans y.adr,fun b o e hb ho=>?_,fun a ha=>?_,fun a o e=>?_⟩
  · have hb':b ∉ S'.reg:=fun hm=>by
      rcases x.fresh b hm with q | q
      · exact hb q
      · rw [e] at q; exact nSn q
    rcases x.keep b o e hb ho with q | ⟨hf,sl,q⟩
    · exact y.keep b o q hb' ho
    · rcases y.keep b _ q hb' ho with q' | ⟨hf',sl',q'⟩
      · exact .inr ⟨hf,sl,q'⟩
      · exact .inr ⟨hf,sl',q'⟩
  · rcases y.fresh a ha with q | q
    · exact x.fresh a q
    · refine .inr ?_
      cases e:S.h.get? a with
      | none=>rfl
      | some o=>(refine xE (x.live a o e) fun o' e'=>?_); rw [q] at e'; exact nnS e'
  · (refine xE (x.live a o e) fun o' e'=>?_)
    exact y.live a o' e'
theorem ExtO.pres {c:Cx} {O:List Addr} {S S':Gs} (x:ExtO c O S S') (hown:∀ a ∈ O,a ∈ c.fs ++ c.X):Pres (vol c S) S.h S'.h:=fun a o hn e=>by
  have h1:a ∉ S.reg:=fun q=>hn (List.mem_append_left _ q)
  have h2:a ∉ O:=fun q=>hn (List.mem_append_right _ (hown a q))
  rcases x.keep a o e h1 h2 with q | ⟨hf,_⟩
  · exact q
  · exact absurd (List.mem_append_right _ (List.mem_append_left _ hf)) hn
theorem ExtO.volLe {c:Cx} {O:List Addr} {S S':Gs} (x:ExtO c O S S'):VolLe S.h (vol c S) (vol c S'):=fun a ha=>by
  rcases List.mem_append.mp ha with q | q
  · rcases x.fresh a q with r | r
    · exact .inl (List.mem_append_left _ r)
    · exact .inr r
  · exact .inl (List.mem_append_right _ q)
theorem Rv.extO {G:Amb} {c:Cx} {O:List Addr} {S S':Gs} {v:Value} {d:D} (r:Rv G c S v d) (x:ExtO c O S S') (hown:∀ a ∈ O,a ∈ c.fs ++ c.X):Rv G c S' v d:=VR.mono (x.pres hown) x.adr x.volLe r
theorem Rvs.extO {G:Amb} {c:Cx} {O:List Addr} {S S':Gs} {v:List Value} {d:List D} (r:Rvs G c S v d) (x:ExtO c O S S') (hown:∀ a ∈ O,a ∈ c.fs ++ c.X):Rvs G c S' v d:=VRs.mono (x.pres hown) x.adr x.volLe r
theorem ExtO.cx {c:Cx} {O its:List Addr} {S S':Gs} (x:ExtO (c.addX its) O S S'):ExtO c O S S':=⟨x.adr,x.keep,x.fresh,x.live⟩
theorem ExtO.wide {c:Cx} {O O':List Addr} {S S':Gs} (x:ExtO c O S S') (h:∀ a ∈ O,a ∈ O'):ExtO c O' S S':=⟨x.adr,fun b o e hb ho=>x.keep b o e hb fun q=>ho (h b q),x.fresh,x.live⟩
/-- a store to a comprehension's target -/
noncomputable def AsC (G:Amb) (n:Nat) (Z:Scope) (W:List PySem.Str) (t:Expr) (f:D→Fr→Fr) (ok:D→Bool):Prop :=
  ∀ c env O fr S s v d,Run G true n Z c env fr S s→(∀ a ∈ O,a ∈ c.fs ++ c.X)→env.locals ∈ O→(∀ x ∈ W,∀ k,env.cells.lookup x=some k→k ∈ O)→Rv G c S v d→ok d=true →
    ∀ (Q:Unit→Shared→Prop) (E:Value→Shared→Prop),(∀ (S':Gs) (tk:Tk G.lo),S'.σ=S.σ→Heaps G c S'→ExtO c O S S'→EnvOk G c env (f d fr) S'→Q () (ShT s S'.h tk))→wpAny G.M c.A (assign t env v) Q E s
section
variable {G:Amb} {c:Cx} {env:Env} {S:Gs} {s:Shared} {fr:Fr} {n:Nat} {Z:Scope} {W:List PySem.Str}
theorem bindC_local {hn:Bool} (q:Run G hn n Z c env fr S s) {O:List Addr} (hO:env.locals ∈ O) {x:PySem.Str} {v:Value} {d:D} (hk:Z.names.lookup x=some .local) (r:Rv G c S v d) {Q:Unit→Shared→Prop} {E:Value→Shared→Prop}
    (hq:∀ (S':Gs) (tk:Tk G.lo),S'.σ=S.σ→Heaps G c S'→ExtO c O S S'→EnvOk G c env (upd fr x d) S'→Q () (ShT s S'.h tk)):wpAny G.M c.A (bindName env x v) Q E s:=by
  have hk':=(kindOf_scope q.scope).trans hk
  (refine xEA q.V.vars fun m hm hval=>?_)
  have hp:(env.scope.kind == .class || (env.scope.kind == .module && env.locals != env.globals))=false:=by rw [q.V.kind]; rfl
  refine wpAny_bindName (wpAny_storeName_local hk' (by rw [q.heap]; exact hm) (fun h' hm' hs=>?_) hp)
  rw [q.heap] at hs
  (refine xA (q.H.atLocals q.V.loc hs hm') fun H' xx=>?_)
  refine hq { S with h:=h' } ⟨s.toks + 1,Nat.le_succ_of_le q.tok⟩ rfl H' ⟨.refl _,fun b o e _ ho=>.inl (hs.extBut b o (fun z=>ho (z ▸ hO)) e),fun _ h=>.inl h,fun a o e=>?_⟩ (q.V.setLocal q.H hk' r hm hval hs hm')
  exact xx.live a o e
theorem AsC.name {x:PySem.Str} {pos:Pos} (hk:Z.names.lookup x=some .local):AsC G n Z W (.Name x pos) (fun d fr=>upd fr x d) (fun _=>true):=by
  intro c env O fr S s v d q hI hO hW r _ Q E hq
  show wpAny _ _ (do PySem.standAt pos; bindName env x v) Q E s
  exact wpAny_bind (wpAny_standAt (bindC_local q hO hk r hq))
noncomputable def isPair:D→Bool
  | .tup [_,_]=>true
  | _=>false
noncomputable def setPair (x y:PySem.Str) (d:D) (fr:Fr):Fr:=match d with
  | .tup [a,b]=>upd (upd fr x a) y b
  | _=>fr
theorem ext_fresh {S:Gs} {h':Heap} (k:Heap.ExtBut S.h.objs.size S.h h'):∀ b o,S.h.get? b=some o→h'.get? b=some o:=fun b o e=>k b o (Nat.ne_of_lt (Heap.lt_size e)) e
theorem AsC.pair {x y:PySem.Str} {p1 p2 pos:Pos} {k:Nat} (hx:Z.names.lookup x=some .local) (hy:Z.names.lookup y=some .local):AsC G n Z W (.Tuple [.Name x p1,.Name y p2] k pos) (setPair x y) isPair:=by
  intro c env O fr S s v d q hI hO hW r hok Q E hq
  unfold isPair at hok
  split at hok
  rotate_left
  · exact nFT hok
  rename_i d1 d2
  refine xEEEEAAAAAA (VR.i_tup r) fun a o vs nn ev ho hc hd _ _ hr=>?_
  subst ev
  refine xEEAA (VRs.i_two hr) fun v1 v2 e r10 r20=>?_
  clear r hr
  · have hsz:vs.size=2:=by rw [← Array.length_toList,e]; rfl
    have ht:s.heap.IsTuple a vs:=⟨o,by rw [q.heap]; exact ho,hc,nn,hd⟩
    refine wpAny_assign_Tuple (q.hand rfl) ht hsz.symm rfl fun h' hk=>?_
    rw [q.heap] at hk
    obtain ⟨H1,x1⟩:=q.H.grow (h':=h') (ext_fresh hk)
    have q1:Run G true n Z c env fr { S with h:=h' } { s with heap:=h' }:=q.step (tk:=⟨s.toks,q.tok⟩) H1 x1
    rw [e]
    have r1:Rv G c { S with h:=h' } v1 d1:=Rv.ext r10 x1
    have r2:Rv G c { S with h:=h' } v2 d2:=Rv.ext r20 x1
    show wpAny _ _ (do PySem.holding [v2] (assign (.Name x p1) env v1); assignInOrder [assign (.Name y p2) env] [v2]) Q E _
    refine wpAny_bind (wpAny_holding (AsC.name (W:=W) (pos:=p1) hx c env O fr _ _ v1 d1 q1 hI hO hW r1 rfl _ _ fun S2 tk e2 H2 x2 V2=>?_))
    have q2:Run G true n Z c env (upd fr x d1) S2 (ShT s S2.h tk):=⟨q.scope,q.room,q.units,q.hand,rfl,Subtype.property _,H2,V2⟩
    show wpAny _ _ (do PySem.holding [] (assign (.Name y p2) env v2); assignInOrder [] []) Q E _
    refine wpAny_bind (wpAny_holding (AsC.name (W:=W) (pos:=p2) hy c env O _ _ _ v2 d2 q2 hI hO hW (r2.extO x2 hI) rfl _ _ fun S3 tk3 e3 H3 x3 V3=>?_))
    exact wpAny_pure (hq S3 tk3 (e3.trans e2) H3 (((x1.o O).trans x2).trans x3) V3)
end
end Mine
end
section
open PySem PySem.W PyProof.Rows
namespace Mine
noncomputable abbrev Em (β:Type):=Fr→List AO→Option (List β × Fr × List AO)
open Classical in
noncomputable def lcEach {β:Type} (P:List AO→Prop) (tgt:D→Fr→Fr) (ok:D→Bool) (test:Mo Bool) (em:Em β):List D→Em β
  | []=>fun fr σ=>if P σ then some ([],fr,σ) else none
  | d :: ds=>fun fr σ=>if P σ then (if ok d then (match test (tgt d fr) σ with
      | some (.val true,σ1)=>(match em (tgt d fr) σ1 with
        | some (ys,fr2,σ2)=>(lcEach P tgt ok test em ds fr2 σ2).map fun r=>(ys ++ r.1,r.2)
        | none=>none)
      | some (.val false,σ1)=>lcEach P tgt ok test em ds (tgt d fr) σ1
      | some (.exc _ _,_)=>none
      | none=>none) else none) else none
noncomputable def emOne (m:Mo D):Em D:=fun fr σ=>match m fr σ with
  | some (.val d,σ')=>some ([d],fr,σ')
  | some (.exc _ _,_)=>none
  | none=>none
structure Accu (G:Amb) (O A0:List Addr) {β:Type} (Acc:Cx→Gs→List β→Prop):Prop where
  ext:∀ c S S' ys,(∀ a ∈ A0,a ∈ c.X)→Heaps G c S→(∀ a ∈ O,a ∈ c.fs ++ c.X)→Acc c S ys→ExtO c O S S'→Acc c S' ys
  add:∀ c its S S' ys,(∀ a ∈ A0,a ∈ c.X)→Heaps G c S→Acc c S ys→Ext c S S'→(∀ a ∈ its,S.h.get? a=none)→Acc (c.addX its) S' ys
  drop:∀ c its S ys,Acc (c.addX its) S ys→Acc c S ys
  turn:∀ c its S ys (h':Heap),(∀ a ∈ A0,a ∈ c.X)→Apart c its→Acc (c.addX its) S ys→(∀ b o,b ∉ its→S.h.get? b=some o→h'.get? b=some o)→Acc (c.addX its) { S with h:=h' } ys
theorem EnvOk.turnX' {G:Amb} {c:Cx} {its:List Addr} {env:Env} {fr:Fr} {S:Gs} (ap:Apart c its) (hloc:env.locals ∈ c.fs ++ c.X) (hown:∀ x k,env.cells.lookup x=some k→k ∈ c.X) (V:EnvOk G (c.addX its) env fr S) {h':Heap} (k:∀ b o,b ∉ its→S.h.get? b=some o→h'.get? b=some o):EnvOk G (c.addX its) env fr { S with h:=h' }:=by
  refine ⟨V.kind,V.glob,V.blt,V.frame,V.loc,?_,fun y hy=>?_,V.own,V.apart⟩
  · (refine xEA V.vars fun m q0z hm=>?_; refine xEEEA q0z fun o es ep ho r=>?_)
    exact ⟨m,⟨o,es,ep,k _ _ (fun q=>ap.off _ q hloc) ho,r⟩,fun y d hd hk=>let ⟨v,hv,r⟩:=hm y d hd hk; ⟨v,hv,r.turnX k⟩⟩
  · (refine xEEAA (V.cell y hy) fun a v0 hl q0z hd=>?_; refine xEA q0z fun o ho r=>?_)
    exact ⟨a,v0,hl,⟨o,k _ _ (fun q=>ap.off _ q (List.mem_append_right _ (hown y a hl))) ho,r⟩,fun d q=>let ⟨v,hv,r⟩:=hd d q; ⟨v,hv,r.turnX k⟩⟩
theorem EnvOk.dropX' {G:Amb} {c:Cx} {its:List Addr} {env:Env} {fr:Fr} {S:Gs} (hloc:env.locals ∈ c.fs ++ c.X) (hown:∀ x k,env.cells.lookup x=some k→k ∈ c.X) (V:EnvOk G (c.addX its) env fr S):EnvOk G c env fr S:=by
  refine ⟨V.kind,V.glob,V.blt,V.frame,hloc,?_,fun y hy=>?_,hown,V.apart⟩
  · (refine xEA V.vars fun m hn hm=>?_)
    exact ⟨m,hn,fun y d hd hk=>let ⟨v,hv,r⟩:=hm y d hd hk; ⟨v,hv,r.dropX⟩⟩
  · (refine xEEAA (V.cell y hy) fun k v0 hl hc hd=>?_)
    exact ⟨k,v0,hl,hc,fun d q=>let ⟨v,hv,r⟩:=hd d q; ⟨v,hv,r.dropX⟩⟩
theorem ExtO.turnIn {c:Cx} {O its:List Addr} {S S':Gs} (x:ExtO c (its ++ O) S S') {h':Heap} (k:∀ b o,b ∉ its→S'.h.get? b=some o→h'.get? b=some o) (live:∀ a ∈ its,∃ o,h'.get? a=some o):ExtO c (its ++ O) S { S' with h:=h' }:=by
  refine ⟨x.adr,fun b o e hb ho=>?_,x.fresh,fun a o e=>?_⟩
  · have nin:b ∉ its:=fun q=>ho (List.mem_append_left _ q)
    rcases x.keep b o e hb ho with q | ⟨hf,sl,q⟩
    · exact .inl (k b o nin q)
    · exact .inr ⟨hf,sl,k b _ nin q⟩
  · by_cases hi:a ∈ its
    · exact live a hi
    · (refine xE (x.live a o e) fun o' e'=>?_)
      exact ⟨o',k a o' hi e'⟩
structure ExtEnd (c:Cx) (its O:List Addr) (S S':Gs):Prop where
  adr:AdrLe S.adr S'.adr
  keep:∀ b o,S.h.get? b=some o→b ∉ S.reg→b ∉ its ++ O→S'.h.get? b=some o∨(b ∈ c.fs∧∃ sl,S'.h.get? b=some { o with slots:=sl })
  fresh:∀ a ∈ S'.reg,a ∈ S.reg∨S.h.get? a=none
  live:∀ a o,a ∉ its→S.h.get? a=some o→∃ o',S'.h.get? a=some o'
theorem ExtO.endIn {c:Cx} {O its:List Addr} {S S':Gs} (x:ExtO c (its ++ O) S S') {h':Heap} (k:∀ b o,b ∉ its→S'.h.get? b=some o→h'.get? b=some o):ExtEnd c its O S { S' with h:=h' }:=by
  refine ⟨x.adr,fun b o e hb ho=>?_,x.fresh,fun a o hi e=>?_⟩
  · have nin:b ∉ its:=fun q=>ho (List.mem_append_left _ q)
    rcases x.keep b o e hb ho with q | ⟨hf,sl,q⟩
    · exact .inl (k b o nin q)
    · exact .inr ⟨hf,sl,k b _ nin q⟩
  · (refine xE (x.live a o e) fun o' e'=>?_)
    exact ⟨o',k a o' hi e'⟩
theorem ExtO.join {c:Cx} {O O' its:List Addr} {S S1 S':Gs} (x:ExtO c O S S1) (hi:∀ a ∈ its,S.h.get? a=none) (hO:∀ a ∈ O',a ∈ O∨S.h.get? a=none) (y:ExtEnd c its O' S1 S'):ExtO c O S S':=by
  have nin:∀ b o,S.h.get? b=some o→b ∉ its:=fun b o e q=>by rw [hi b q] at e; exact nnS e
  refine ⟨x.adr.trans y.adr,fun b o e hb ho=>?_,fun a ha=>?_,fun a o e=>?_⟩
  · have hb':b ∉ S1.reg:=fun hm=>by
      rcases x.fresh b hm with q | q
      · exact hb q
      · rw [e] at q; exact nSn q
    have ho':b ∉ its ++ O':=fun hm=>by
      rcases List.mem_append.mp hm with q | q
      · exact nin b o e q
      · rcases hO b q with z | z
        · exact ho z
        · rw [e] at z; exact nSn z
    rcases x.keep b o e hb ho with q | ⟨hf,sl,q⟩
    · exact y.keep b o q hb' ho'
    · rcases y.keep b _ q hb' ho' with q' | ⟨hf',sl',q'⟩
      · exact .inr ⟨hf,sl,q'⟩
      · exact .inr ⟨hf,sl',q'⟩
  · rcases y.fresh a ha with q | q
    · exact x.fresh a q
    · refine .inr ?_
      cases e:S.h.get? a with
      | none=>rfl
      | some o=>(refine xE (x.live a o e) fun o' e'=>?_); rw [q] at e'; exact nnS e'
  · (refine xE (x.live a o e) fun o' e'=>?_)
    exact y.live a o' (nin a o e) e'
theorem ExtO.ext {c:Cx} {S S':Gs} (x:ExtO c [] S S'):Ext c S S':=⟨x.adr,fun b o e hb=>x.keep b o e hb (by simp),x.fresh,x.live⟩
/-- what a clause lays down -/
noncomputable def EmT (G:Amb) (n:Nat) (Z:Scope) (env:Env) (O:List Addr) (c0:Cx) {β:Type} (Acc:Cx→Gs→List β→Prop) (Good:List β→Prop) (t:Sem Unit) (em:Em β):Prop :=
  ∀ c,(∀ a,a ∈ c0.fs ++ c0.X→a ∈ c.fs ++ c.X)→∀ fr S s ys zs fr' σ',Run G true n Z c env fr S s→c.fs=c0.fs→Acc c S ys→em fr S.σ=some (zs,fr',σ')→Good (ys ++ zs) →
    ∀ (Q:Unit→Shared→Prop) (E:Value→Shared→Prop),(∀ (S':Gs) (tk:Tk G.lo),S'.σ=σ'→Heaps G c S'→ExtO c O S S'→EnvOk G c env fr' S'→Acc c S' (ys ++ zs)→Q () (ShT s S'.h tk))→wpAny G.M c.A t Q E s
noncomputable def testsOf (ifs:List Expr) (env:Env):Sem Bool:=forIn ifs true fun c r=>if r=true then do let ok ← isTrue c env (eval c env); pure (ForInStep.yield ok) else pure (ForInStep.yield r)
noncomputable def Ts (G:Amb) (n:Nat) (Z:Scope) (ifs:List Expr) (m:Mo Bool):Prop :=
  ∀ c env fr S s b σ',Run G true n Z c env fr S s→m fr S.σ=some (.val b,σ')→Tr G c S s (fun _ a b=>a=b) (testsOf ifs env) (.val b) σ'
theorem Ts.nil {G:Amb} {n:Nat} {Z:Scope} : Ts G n Z [] (Mo.pure true):=by
  intro c env fr S s b σ' q hm
  cases hm
  exact Tr.pure q.H q.heap rfl
theorem Ts.one {G:Amb} {n:Nat} {Z:Scope} {e:Expr} {m:Mo Bool} (h:Cd G true n Z e m):Ts G n Z [e] m:=by
  intro c env fr S s b σ' q hm
  intro Q E hq hx
  exact PySem.wpAny_tests_one (h c env fr S s _ _ q hm Q E hq hx)
section
variable {G:Amb} {c:Cx} {its:List Addr} {env:Env} {n:Nat} {Z:Scope} {W:List PySem.Str} {O:List Addr} {β:Type} {Acc:Cx→Gs→List β→Prop} {Good:List β→Prop}
theorem codeAny_compLoop_all {e:Expr} {depth:Nat} {target:Expr} {ifs:List Expr} {it acc:Value} {emit:Sem Unit} {A:Around} {R:Result→Shared→Prop} {s:Shared} (p:Pos)
    (heq:compTurn e depth it acc env=(PySem.standAt p >>= fun _=>pyNext it >>= fun r=>match r with
      | none=>pure (.done .next)
      | some v=>letOwnedTupleGo target it v >>= fun _=>assign target env v >>= fun _=>testsOf ifs env >>= fun ok=>(if ok=true then (emit >>= fun _=>again (.compLoop e depth it acc env)) else again (.compLoop e depth it acc env))))
    (hq:(Code.compLoop e depth it acc env).quiet=true) (hw:A.under (.compLoop e depth it acc env)=A)
    (hden:(model G.prog G.w).den (.compLoop e depth it acc env)=(compTurn e depth it acc env).onRaise (fun x=>do noteFrame x env; theTreesLotGoes x))
    (I:Nat→Shared→Prop)
    (turn:∀ n s (K F:Shared→Prop) (E:Value→Shared→Prop),(∀ m s',m < n→I m s'→K s')→(∀ s',R (.ok .next) s'→F s')→I n s→wpAny G.M A (pyNext it) (fun r s₁=>match r with
      | none=>F s₁
      | some v=>wpAny G.M A (letOwnedTupleGo target it v) (fun _ s₁'=>wpAny G.M A (assign target env v) (fun _ s₂ =>
          wpAny G.M A (testsOf ifs env) (fun ok s₃=>if ok=true then wpAny G.M A emit (fun _ s₅=>K s₅) E s₃ else K s₃) E s₂) E s₁') E s₁) E s)
    (n:Nat) (h:I n s):codeAny (model G.prog G.w) A (.compLoop e depth it acc env) R s:=by
  refine codeAny_loop hq I (fun n s hI=>?_) n h
  rw [hw,hden]
  refine wpAny_noted ?_
  rw [heq]
  refine wpAny_bind (wpAny_standAt (wpAny_bind (wpAny_mono (turn n s (fun s'=>∃ m,m < n∧I m s') (R (.ok .next)) _ (fun m s' h1 h2=>⟨m,h1,h2⟩) (fun _ z=>z) hI) (fun r s₁ h₁=>?_) fun _ _ h'=>h')))
  cases r with
  | none=>exact wpAny_pure h₁
  | some v =>
    refine wpAny_bind (wpAny_mono h₁ (fun _ s₁' h₁'=>wpAny_bind (wpAny_mono h₁' (fun _ s₂ h₂=>wpAny_bind (wpAny_mono h₂ (fun ok s₃ h₃=>?_) fun _ _ h'=>h')) fun _ _ h'=>h')) fun _ _ h'=>h')
    cases ok with
    | false=>exact wpAny_pure ⟨rfl,h₃⟩
    | true=>exact wpAny_bind (wpAny_mono h₃ (fun _ s₅ h₅=>wpAny_pure ⟨rfl,h₅⟩) fun _ _ h'=>h')
theorem item_postC {M:Model} {A:Around} {it:Value} {target:Expr} {s:Shared} {B:Value→Shared→Prop} {N:Shared→Prop} {E:Value→Shared→Prop}
    (h:wpAny M A (pyNext it) (fun r s1=>∃ v,r=some v∧wpAny M A (letOwnedTupleGo target it v) (fun _ s2=>B v s2) E s1) E s) :
    wpAny M A (pyNext it) (fun r s1=>match r with | none=>N s1 | some v=>wpAny M A (letOwnedTupleGo target it v) (fun _ s1'=>B v s1') E s1) E s :=
  wpAny_mono h (fun r s1 hr=>by obtain ⟨v,rfl,hr⟩:=hr; exact hr) fun _ _ z=>z
theorem lcEach_nilE {P:List AO→Prop} {tgt:D→Fr→Fr} {ok:D→Bool} {test:Mo Bool} {em:Em β} {fr:Fr} {σ:List AO} {zs:List β} {q:Fr × List AO} (h:lcEach P tgt ok test em [] fr σ=some (zs,q)) {X:Prop} (k:P σ→zs=[]→q=(fr,σ)→X):X:=by
  unfold lcEach at h
  by_cases hP:P σ
  · rw [if_pos hP] at h
    exact k hP (s2A h).symm (s2B h).symm
  · rw [if_neg hP] at h
    exact nnS h
theorem lcEach_consE {P:List AO→Prop} {tgt:D→Fr→Fr} {ok:D→Bool} {test:Mo Bool} {em:Em β} {d:D} {ds:List D} {fr:Fr} {σ:List AO} {zs:List β} {q:Fr × List AO} (h:lcEach P tgt ok test em (d :: ds) fr σ=some (zs,q)) {X:Prop}
    (k:P σ→ok d=true→∀ b σt,test (tgt d fr) σ=some (.val b,σt)→(b=false→lcEach P tgt ok test em ds (tgt d fr) σt=some (zs,q)) →
      (b=true→∃ ye fre σe,em (tgt d fr) σt=some (ye,fre,σe)∧∃ zr,lcEach P tgt ok test em ds fre σe=some (zr,q)∧ye ++ zr=zs)→X):X:=by
  unfold lcEach at h
  by_cases hP:P σ
  rotate_left
  · rw [if_neg hP] at h
    exact nnS h
  rw [if_pos hP] at h
  by_cases ho:ok d=true
  rotate_left
  · rw [if_neg ho] at h
    exact nnS h
  rw [if_pos ho] at h
  cases ht:test (tgt d fr) σ with
  | none=>rw [ht] at h; exact nnS h
  | some pr =>
    rw [ht] at h
    obtain ⟨ot,σt⟩:=pr
    cases ot with
    | exc=>exact nnS h
    | val b =>
      refine k hP ho b σt ht (fun e=>?_) fun e=>?_
      · subst e; exact h
      · subst e
        dsimp only at h
        cases he:em (tgt d fr) σt with
        | none=>rw [he] at h; exact nnS h
        | some pe =>
          rw [he] at h
          obtain ⟨ye,fre,σe⟩:=pe
          refine xEA (Option.map_eq_some_iff.mp h) fun r hr er=>⟨ye,fre,σe,rfl,r.1,?_,p2A er⟩
          rw [hr,← p2B er]
/-- what stands between the turns -/
noncomputable def CJ (G:Amb) (c:Cx) (its:List Addr) (env:Env) (O2:List Addr) (S1:Gs) (Acc:Cx→Gs→List β→Prop) (It:Nat→Gs→Prop) (ys zs:List β) (run:List D→Em β) (ds:List D) (q:Fr × List AO) (i:Nat) (ys1:List β) (fr1:Fr) (S':Gs):Prop :=
  It i S'∧Heaps G (c.addX its) S'∧EnvOk G (c.addX its) env fr1 S'∧ExtO c (its ++ O2) S1 S'∧Acc (c.addX its) S' (ys ++ ys1)∧∃ zs1,ys1 ++ zs1=zs∧run (ds.drop i) fr1 S'.σ=some (zs1,q)
inductive CInv (N:Nat) (J:Nat→List β→Fr→Gs→Prop) (s:Shared):Nat→Shared→Prop
  | mk (i:Nat) (ys1:List β) (fr1:Fr) (S':Gs) (tk:Tk G.lo):i ≤ N→J i ys1 fr1 S'→CInv N J s (N + 1 - i) (ShT s S'.h tk)
theorem EmT.addX {O2:List Addr} {emit:Sem Unit} {em:Em β} (hE:EmT G n Z env O2 c Acc Good emit em):EmT G n Z env O2 (c.addX its) Acc Good emit em:=fun c' h=>hE c' fun a ha=>h a (by
  rcases List.mem_append.mp ha with z | z
  · exact List.mem_append_left _ z
  · exact List.mem_append_right _ (List.mem_append_right _ z))
theorem mem_addX {O:List Addr} (hI:∀ a ∈ O,a ∈ c.fs ++ c.X):∀ a ∈ O,a ∈ (c.addX its).fs ++ (c.addX its).X:=fun a ha=>by
  rcases List.mem_append.mp (hI a ha) with z | z
  · exact List.mem_append_left _ z
  · exact List.mem_append_right _ (List.mem_append_right _ z)
/-- one turn -/
theorem compBody_ok {target:Expr} {ifs:List Expr} {emit:Sem Unit} {tgt:D→Fr→Fr} {ok:D→Bool} {test:Mo Bool} {em:Em β} {A0:List Addr} (hA0:∀ a ∈ A0,a ∈ c.X) (hacc:Accu G O A0 Acc) (hT:AsC G n Z W target tgt ok) (hS:Ts G n Z ifs test)
    {O2:List Addr} (hsub:∀ a ∈ O,a ∈ O2) (hE:EmT G n Z env O2 c Acc Good emit em) (hI:∀ a ∈ O,a ∈ c.fs ++ c.X) (hO:env.locals ∈ O) (hW:∀ x ∈ W,∀ k,env.cells.lookup x=some k→k ∈ O)
    {fr:Fr} {S:Gs} {s:Shared} {v:Value} {d:D} (q:Run G true n Z c env fr S s) (rv:Rv G c S v d) (hok:ok d=true) {ys:List β} (A1:Acc c S ys) {b:Bool} {σt:List AO} (hte:test (tgt d fr) S.σ=some (.val b,σt)) {K:Shared→Prop} {E:Value→Shared→Prop}
    (kf:b=false→∀ (S3:Gs) (tk:Tk G.lo),S3.σ=σt→Heaps G c S3→ExtO c O2 S S3→EnvOk G c env (tgt d fr) S3→Acc c S3 ys→K (ShT s S3.h tk))
    (kt:b=true→∃ ye fre σe,em (tgt d fr) σt=some (ye,fre,σe)∧Good (ys ++ ye)∧∀ (S3:Gs) (tk:Tk G.lo),S3.σ=σe→Heaps G c S3→ExtO c O2 S S3→EnvOk G c env fre S3→Acc c S3 (ys ++ ye)→K (ShT s S3.h tk)) :
    wpAny G.M c.A (assign target env v) (fun _ s₂=>wpAny G.M c.A (testsOf ifs env) (fun ok s₃=>if ok=true then wpAny G.M c.A emit (fun _ s₅=>K s₅) E s₃ else K s₃) E s₂) E s:=by
  refine hT c env O fr S s v d q hI hO hW rv hok _ _ fun SA tkA eA HA xA VA=>?_
  have AA:=hacc.ext _ _ _ _ hA0 q.H hI A1 xA
  refine hS c env _ SA _ b σt ⟨q.scope,q.room,q.units,q.hand,rfl,Subtype.property _,HA,VA⟩ ((congrArg _ eA).trans hte) _ _ (fun b' hb' u ST tkT eT HT xT rT=>?_) fun X msg ho=>nVE ho
  have rT:u=b:=rT.trans (valE hb').symm
  have VT:=xT.env HA VA
  have AT:=hacc.ext _ _ _ _ hA0 HA hI AA (xT.o O)
  have XT:=(xA.wide hsub).trans (xT.o O2)
  cases u with
  | false =>
    rw [if_neg Bool.false_ne_true]
    exact kf rT.symm ST tkT eT HT XT VT AT
  | true =>
    rw [if_pos rfl]
    refine xEEEAA (kt rT.symm) fun ye fre σe hee hg kk=>?_
    exact hE c (fun _ h=>h) _ ST _ ys ye fre σe ⟨q.scope,q.room,q.units,q.hand,rfl,Subtype.property _,HT,VT⟩ rfl AT ((congrArg _ eT).trans hee) hg _ _ fun SE tkE eE HE xE VE AE=>kk SE tkE eE HE (XT.trans xE) VE AE
/-- a clause's loop -/
theorem compLoop_ok {e:Expr} {depth:Nat} {target:Expr} {ifs:List Expr} {it:Addr} {acc:Value} {emit:Sem Unit} {tgt:D→Fr→Fr} {ok:D→Bool} {test:Mo Bool} {em:Em β} (p:Pos)
    (heq:compTurn e depth (.ref it) acc env=(PySem.standAt p >>= fun _=>pyNext (.ref it) >>= fun r=>match r with
      | none=>pure (.done .next)
      | some v=>letOwnedTupleGo target (.ref it) v >>= fun _=>assign target env v >>= fun _=>testsOf ifs env >>= fun ok=>(if ok=true then (emit >>= fun _=>again (.compLoop e depth (.ref it) acc env)) else again (.compLoop e depth (.ref it) acc env))))
    (hq:(Code.compLoop e depth (.ref it) acc env).quiet=true) (hw:c.A.under (.compLoop e depth (.ref it) acc env)=c.A)
    (hden:(model G.prog G.w).den (.compLoop e depth (.ref it) acc env)=(compTurn e depth (.ref it) acc env).onRaise (fun x=>do noteFrame x env; theTreesLotGoes x))
    {A0:List Addr} (hA0:∀ a ∈ A0,a ∈ c.X) (hacc:Accu G O A0 Acc) (hT:AsC G n Z W target tgt ok) (hS:Ts G n Z ifs test) {O2:List Addr} (hsub:∀ a ∈ O,a ∈ O2) (hI2:∀ a ∈ O2,a ∈ c.fs ++ c.X) (hE:EmT G n Z env O2 c Acc Good emit em) (hgood:∀ a b,Good (a ++ b)→Good a)
    {fr:Fr} {S1:Gs} {s:Shared} {ys:List β} {P:List AO→Prop} {It:Nat→Gs→Prop} {ds:List D} (ap:Apart c its) (hloc:env.locals ∈ c.fs ++ c.X) (hown:∀ x k,env.cells.lookup x=some k→k ∈ c.X)
    (hI:∀ a ∈ O,a ∈ c.fs ++ c.X) (hO:env.locals ∈ O) (hW:∀ x ∈ W,∀ k,env.cells.lookup x=some k→k ∈ O) (tk0:Tk G.lo) (q:Run G true n Z (c.addX its) env fr S1 (ShT s S1.h tk0)) (A1:Acc (c.addX its) S1 ys)
    (hIt:It 0 S1) (Wk:Walk G (c.addX its) its it target ds P It) {zs:List β} {fr':Fr} {σ':List AO} (hm:lcEach P tgt ok test em ds fr S1.σ=some (zs,fr',σ')) (hlen:Good (ys ++ zs))
    {R:Result→Shared→Prop} (hR:∀ (S':Gs) (tk:Tk G.lo),S'.σ=σ'→Heaps G c S'→ExtEnd c its O2 S1 S'→EnvOk G c env fr' S'→Acc c S' (ys ++ zs)→R (.ok .next) (ShT s S'.h tk)) :
    codeAny (model G.prog G.w) c.A (.compLoop e depth (.ref it) acc env) R (ShT s S1.h tk0):=by
  have hIX2:=mem_addX (its:=its) hI2
  refine codeAny_compLoop_all p heq hq hw hden (CInv ds.length (CJ G c its env O2 S1 Acc It ys zs (lcEach P tgt ok test em) ds (fr',σ')) s) ?_ (ds.length + 1) (.mk 0 [] fr S1 tk0 (Nat.zero_le _) ⟨hIt,q.H,q.V,ExtO.refl _ _ _,(List.append_nil ys).symm ▸ A1,zs,rfl,hm⟩)
  intro k s' K F E hK hF hJ
  cases hJ with
  | mk i ys1 fr1 S' tk hile hJ =>
  refine xAAA hJ fun hIi H' V' hJ=>?_
  refine xAA hJ fun XX hA hJ=>?_
  refine xEA hJ fun zs1 hz hmod=>?_
  by_cases hlt:i < ds.length
  · rw [List.drop_eq_getElem_cons hlt] at hmod
    refine lcEach_consE hmod fun hP hok b σt hte kf kt=>?_
    clear hmod
    refine item_postC ?_
    refine Wk.item i S' (ShT s S'.h tk) ds[i] _ _ hIi H' rfl tk.2 hP (List.getElem?_eq_getElem hlt) fun v h' tk' hk hlive hI' rv=>?_
    have H1':=H'.turnX ap hk hlive
    have V1':=EnvOk.turnX' ap hloc hown V' hk
    have stab:∀ {Sb:Gs},ExtO (c.addX its) O2 { S' with h:=h' } Sb→It (i + 1) Sb:=fun {Sb} xab=>by
      refine Wk.stable _ _ Sb hI' xab.adr (xab.pres hIX2) xab.volLe fun b hb o e=>?_
      exact (xab.keep b o e (H1'.xs b (List.mem_append_left _ hb)).2.1 (fun z=>ap.off b hb (hI2 b z))).elim id fun z=>absurd (List.mem_append_left _ z.1) (ap.off b hb)
    have XT:∀ {Sb:Gs},ExtO (c.addX its) O2 { S' with h:=h' } Sb→ExtO c (its ++ O2) S1 Sb:=fun x=>(XX.turnIn hk hlive).trans (x.cx.wide fun a ha=>List.mem_append_right _ ha)
    have hlt':ds.length + 1 - (i + 1) < ds.length + 1 - i:=by omega
    refine compBody_ok (c:=c.addX its) (fun a ha=>List.mem_append_right _ (hA0 a ha)) hacc hT hS hsub hE.addX (mem_addX hI) hO hW ⟨q.scope,q.room,q.units,q.hand,rfl,Subtype.property _,H1',V1'⟩ rv hok (hacc.turn _ _ _ _ h' hA0 ap hA hk) hte (fun hb S3 tk3 e3 H3 x3 V3 A3=>?_) fun hb=>?_
    · exact hK _ _ hlt' (.mk (i + 1) ys1 _ S3 tk3 hlt ⟨stab x3,H3,V3,XT x3,A3,zs1,hz,e3.symm ▸ kf hb⟩)
    · refine xEEEA (kt hb) fun ye fre σe hee hzr=>?_
      refine xEA hzr fun zr hr hz2=>?_
      have hz3:(ys1 ++ ye) ++ zr=zs:=by rw [List.append_assoc,hz2,hz]
      refine ⟨ye,fre,σe,hee,hgood _ zr ?_,fun S3 tk3 e3 H3 x3 V3 A3=>hK _ _ hlt' (.mk (i + 1) (ys1 ++ ye) _ S3 tk3 hlt ⟨stab x3,H3,V3,XT x3,List.append_assoc ys ys1 ye ▸ A3,zr,hz3,e3.symm ▸ hr⟩)⟩
      rw [List.append_assoc,List.append_assoc,hz2,hz]
      exact hlen
  · have hi':i=ds.length:=Nat.le_antisymm hile (Nat.le_of_not_lt hlt)
    subst hi'
    rw [List.drop_length] at hmod
    refine lcEach_nilE hmod fun hP e1 e2=>?_
    refine Wk.done S' (ShT s S'.h tk) _ _ hIi H' rfl tk.2 hP fun h' tk' hk=>hF _ ?_
    rw [e1,List.append_nil] at hz
    subst hz
    rw [p2A e2] at *
    exact hR { S' with h:=h' } tk' (p2B e2).symm (H'.endX ap hk) (XX.endIn hk) (EnvOk.dropX' hloc hown (EnvOk.turnX' ap hloc hown V' hk)) (hacc.drop _ _ _ _ (hacc.turn _ _ _ _ h' hA0 ap hA hk))
end
end Mine
end
section
open PySem PySem.W PyProof.Rows
namespace Mine
section
variable {G:Amb} {c:Cx} {S:Gs} {env:Env} {fr:Fr}
/-- one object set apart turns -/
theorem Heaps.atX (H:Heaps G c S) {a:Addr} (ha:a ∈ c.X) (hfs:a ∉ c.fs) {h':Heap} (hs:Heap.SameBut a S.h h') (live:∃ o,h'.get? a=some o):Heaps G c { S with h:=h' }:=by
  (refine xAA (H.xs a ha) fun _ hreg hb=>?_)
  have hv:a ∈ vol c S:=List.mem_append_right _ (List.mem_append_right _ ha)
  have off:∀ L,L ≠ a→∀ o,S.h.get? L=some o→h'.get? L=some o:=fun L hL o e=>hs.extBut L o hL e
  refine ⟨H.ok,fun b o e=>off b (fun q=>by rw [q,hb] at e; exact nnS e) o (H.stays b o e),H.frames,?_,fun L hL=>?_,fun L hL=>?_,H.len,fun n p o h1 h2=>?_,H.new,H.nodup⟩
  · exact funFrames_of H.funs fun L hL o e hd=>⟨o,off L (fun q=>hfs (q ▸ hL)) o e,hd⟩
  · (refine xA (H.fdict L hL) fun q0z r=>?_; refine xEEEA q0z fun o es m e hd=>?_)
    exact ⟨⟨o,es,m,off L (fun q=>hfs (q ▸ hL)) o e,hd⟩,r⟩
  · (refine xA (H.xs L hL) fun q0z r=>?_; refine xE q0z fun o e=>?_)
    by_cases q:L=a
    · subst q; exact ⟨live,r⟩
    · exact ⟨⟨o,off L q o e⟩,r⟩
  · exact ORep.mono (fun b o hn e=>off b (fun q=>hn (q ▸ hv)) o e) (.refl _) (.of_sub _ fun _ h=>h) (fun b hb o e=>off b (fun q=>hreg (q ▸ reg_mem h1 h2 b hb)) o e) (H.store n p o h1 h2)
theorem Rv.atX (r:Rv G c S v d) {a:Addr} (ha:a ∈ c.X) {h':Heap} (hs:Heap.SameBut a S.h h'):Rv G c { S with h:=h' } v d :=
  VR.mono (fun b o hn e=>hs.extBut b o (fun q=>hn (q ▸ List.mem_append_right _ (List.mem_append_right _ ha))) e) (.refl _) (.of_sub _ fun _ h=>h) r
theorem Rvs.atX (r:Rvs G c S v d) {a:Addr} (ha:a ∈ c.X) {h':Heap} (hs:Heap.SameBut a S.h h'):Rvs G c { S with h:=h' } v d :=
  VRs.mono (fun b o hn e=>hs.extBut b o (fun q=>hn (q ▸ List.mem_append_right _ (List.mem_append_right _ ha))) e) (.refl _) (.of_sub _ fun _ h=>h) r
theorem EnvOk.atX (V:EnvOk G c env fr S) {a:Addr} (ha:a ∈ c.X) (hl:a ≠ env.locals) (hk:∀ x k,env.cells.lookup x=some k→a ≠ k) {h':Heap} (hs:Heap.SameBut a S.h h'):EnvOk G c env fr { S with h:=h' }:=by
  have off:∀ L,L ≠ a→∀ o,S.h.get? L=some o→h'.get? L=some o:=fun L hL o e=>hs.extBut L o hL e
  refine ⟨V.kind,V.glob,V.blt,V.frame,V.loc,?_,fun y hy=>?_,V.own,V.apart⟩
  · (refine xEA V.vars fun m q0z hm=>?_; refine xEEEA q0z fun o es ep ho r=>?_)
    exact ⟨m,⟨o,es,ep,off _ (fun q=>hl q.symm) _ ho,r⟩,fun y d hd hk=>let ⟨v,hv,r⟩:=hm y d hd hk; ⟨v,hv,r.atX ha hs⟩⟩
  · (refine xEEAA (V.cell y hy) fun b v0 hb q0z hd=>?_; refine xEA q0z fun o ho r=>?_)
    exact ⟨b,v0,hb,⟨o,off _ (fun q=>hk y b hb q.symm) _ ho,r⟩,fun d q=>let ⟨v,hv,r⟩:=hd d q; ⟨v,hv,r.atX ha hs⟩⟩
theorem ExtO.atX (H:Heaps G c S) {a:Addr} {O:List Addr} (ha:a ∈ O) {h':Heap} (hs:Heap.SameBut a S.h h') (live:∃ o,h'.get? a=some o):ExtO c O S { S with h:=h' } :=
  ⟨.refl _,fun b o e _ ho=>.inl (hs.extBut b o (fun q=>ho (q ▸ ha)) e),fun _ h=>.inl h,fun b o e=>by
    by_cases q:b=a
    · subst q; exact live
    · exact ⟨o,hs.extBut b o q e⟩⟩
end
/-- a list under way -/
noncomputable def AccL (G:Amb) (a:Addr) (c:Cx) (S:Gs) (ys:List D):Prop:=a ∉ c.fs∧∃ n vs,S.h.get? a=some { cls:=.type "list", dict:=none,data:=.seq vs n,slots:=#[] }∧Rvs G c S vs.toList ys
theorem Accu.lst {G:Amb} {a:Addr} {O:List Addr} (hO:a ∉ O):Accu G O [a] (AccL G a) where
  ext:=fun c S S' ys hA H hI h x=>by
    (refine xAEEA h fun hf n vs h3 h4=>?_; try clear h)
    refine ⟨hf,n,vs,?_,h4.extO x hI⟩
    rcases x.keep a _ h3 (H.xs a (hA a (.head _))).2.1 hO with q | ⟨hf',_⟩
    · exact q
    · exact absurd hf' hf
  add:=fun c its S S' ys hA H h x hi=>by
    (refine xAEEA h fun hf n vs h3 h4=>?_; try clear h)
    refine ⟨hf,n,vs,?_,VRs.mono x.pres x.adr (fun a ha=>(vol_addX.mp ha).elim (fun q=>.inr (hi a q)) (x.volLe a)) h4⟩
    rcases x.keep a _ h3 (H.xs a (hA a (.head _))).2.1 with q | ⟨hf',_⟩
    · exact q
    · exact absurd hf' hf
  drop:=fun c its S ys h=>by
    (refine xAEEA h fun hf n vs h3 h4=>?_; try clear h)
    exact ⟨hf,n,vs,h3,h4.dropX⟩
  turn:=fun c its S ys h' hA ap h k=>by
    (refine xAEEA h fun hf n vs h3 h4=>?_; try clear h)
    have hn:a ∉ its:=fun q=>ap.off a q (List.mem_append_right _ (hA a (.head _)))
    exact ⟨hf,n,vs,k a _ hn h3,h4.turnX k⟩
theorem append_isL {prog:Program} {w:World} {A:Around} {E:Value→Shared→Prop} {s:Shared} {l:Addr} {items:Array Value} {n:Nat} {v:Value} {Q:Value→Shared→Prop} (hl:s.heap.get? l=some { cls:=.type "list", dict:=none,data:=.seq items n,slots:=#[] }) (hsz:items.size ≤ sizeLine)
    (hQ:∀ h' n',h'.get? l=some { cls:=.type "list", dict:=none,data:=.seq (items.push v) n',slots:=#[] }→Heap.SameBut l s.heap h'→Q .none { s with heap:=h' }):wpAny (model prog w) A (call (.builtin "list.append") [.ref l,v]) Q E s:=by
  refine call_meets PySem.F.slot_list_append ⟨_,hl,rfl⟩ PySem.F.entry_list_append (PySem.F.args_list_append_2 _ _) (PySem.list_append l items n v hsz) ⟨hl,hQ _ _ (IsL.update hl fun xs=>xs.push v) (Heap.SameBut.update ..)⟩
noncomputable def GoodL (ys:List D):Prop:=ys.length ≤ sizeLine
/-- an element laid down -/
theorem EmT.lst {G:Amb} {n:Nat} {Z:Scope} {env:Env} {a:Addr} {O:List Addr} {c0:Cx} {elt:Expr} {m:Mo D} (h:Ev G true n Z elt m) (ha:a ∈ c0.X) (hf:a ∉ c0.fs) (hO:a ∈ O) (hl:a ≠ env.locals) (hk:∀ x k,env.cells.lookup x=some k→a ≠ k) :
    EmT G n Z env O c0 (AccL G a) GoodL (eval elt env >>= fun x=>call (.builtin "list.append") [.ref a,x] >>= fun _=>Pure.pure ()) (emOne m):=by
  intro c hc fr S s ys zs fr' σ' q hfs hA hm hg Q E hq
  have haX:a ∈ c.X:=by
    rcases List.mem_append.mp (hc a (List.mem_append_right _ ha)) with z | z
    · rw [hfs] at z; exact absurd z hf
    · exact z
  have haf:a ∉ c.fs:=by rw [hfs]; exact hf
  unfold emOne at hm
  cases hmm:m fr S.σ with
  | none=>rw [hmm] at hm; exact nnS hm
  | some p =>
    obtain ⟨o,σ1⟩:=p
    rw [hmm] at hm
    cases o with
    | exc=>exact nnS hm
    | val d =>
      (have k1:=s3A hm; have k2:=s3B hm; have k3:=s3C hm; clear hm; subst k1 k2 k3)
      refine wpAny_bind (h c env fr S s _ _ q hmm _ E (fun b hb v S1 tk e1 H1 x1 r1=>?_) fun _ _ ho=>by exact nVE ho)
      (have k1:=valE hb; clear hb; subst k1)
      (refine xAEEA hA fun _ nn vs h3 h4=>?_; try clear hA)
      have h3':S1.h.get? a=some { cls:=.type "list", dict:=none,data:=.seq vs nn,slots:=#[] }:=by
        rcases x1.keep a _ h3 (q.H.xs a haX).2.1 with q | ⟨hf',_⟩
        · exact q
        · exact absurd hf' haf
      have h4':=h4.ext x1
      have hz:vs.size ≤ sizeLine:=by
        have e1:=VRs.length h4
        have e2:(ys ++ [d]).length ≤ sizeLine:=hg
        simp at e1 e2
        omega
      refine wpAny_bind (append_isL (s:=(ShT s S1.h tk)) h3' hz fun h' n' hl' hs'=>?_)
      have live:∃ o,h'.get? a=some o:=⟨_,hl'⟩
      refine wpAny_pure (hq { S1 with h:=h' } tk e1 (H1.atX haX haf hs' live) ((x1.o O).trans (ExtO.atX H1 hO hs' live)) ((x1.env q.H q.V).atX haX hl hk hs') ⟨haf,n',vs.push v,hl',?_⟩)
      rw [Array.toList_push]
      exact VRs.append (h4'.atX haX hs') (VRs.one (r1.atX haX hs'))
end Mine
end
section
open PySem PySem.W PyProof.Rows
namespace Mine
/-- the code of a clause -/
structure Clause (G:Amb) (e:Expr) (depth:Nat) (acc:Value) (env:Env) (target:Expr) (ifs:List Expr) (emit:Sem Unit) (p:Pos):Prop where
  loop:∀ it,compTurn e depth it acc env=(PySem.standAt p >>= fun _=>pyNext it >>= fun r=>match r with
      | none=>pure (.done .next)
      | some v=>letOwnedTupleGo target it v >>= fun _=>assign target env v >>= fun _=>testsOf ifs env >>= fun ok=>(if ok=true then (emit >>= fun _=>again (.compLoop e depth it acc env)) else again (.compLoop e depth it acc env)))
  quiet:∀ it,(Code.compLoop e depth it acc env).quiet=true
  under:∀ (A:Around) it,A.under (.compLoop e depth it acc env)=A
  den:∀ it,(model G.prog G.w).den (.compLoop e depth it acc env)=(compTurn e depth it acc env).onRaise (fun x=>do noteFrame x env; theTreesLotGoes x)
  underS:∀ (A:Around) it,A.under (.compStart e depth it acc env)=A
  denS:∀ it,(model G.prog G.w).den (.compStart e depth it acc env)=(compStart e depth it acc env).onRaise (fun x=>do noteFrame x env; PySem.standAt theWindowsPlace)
  async:((clausesOf e)[depth]?).elim false (·.is_async != 0)=false
section
variable {G:Amb} {e:Expr} {depth:Nat} {acc:Value} {env:Env} {target:Expr} {ifs:List Expr} {emit:Sem Unit} {p:Pos}
theorem Clause.start (C:Clause G e depth acc env target ifs emit p) {A:Around} {it:Value} {R:Result→Shared→Prop} {s:Shared} (h0:codeAny (model G.prog G.w) A (.compLoop e depth it acc env) R s)
    (h:∀ (Q:Value→Shared→Prop) (E:Value→Shared→Prop),Q it s→wpAny (model G.prog G.w) A (pyIter it) Q E s):codeAny (model G.prog G.w) A (.compStart e depth it acc env) R s:=by
  refine codeAny_of_tree ?_
  rw [C.underS,C.denS]
  refine wpAny_notedAt ?_
  unfold compStart
  rw [C.async]
  show wpAny _ _ (ask >>= _) _ _ s
  refine wpAny_bind (wpAny_askSetting (wpAny_ite ?_))
  split
  · exact wpAny_bind (wpAny_pure (wpAny_pure (And.intro (C.quiet it) h0)))
  · refine wpAny_bind (wpAny_rule ?_)
    cases hq:(clausesOf e)[depth]? with
    | none=>exact wpAny_bind (h _ _ (wpAny_pure (And.intro (C.quiet it) h0)))
    | some g=>exact wpAny_bind (wpAny_standAt (wpAny_bind (h _ _ (wpAny_pure (And.intro (C.quiet it) h0)))))
end
end Mine
end
section
open PySem PySem.W PyProof.Rows
namespace Mine
noncomputable def relab (scope Z:Scope):Scope:={ scope with names:=scope.names.map fun (n,k)=>if (k == .free && Z.kind == .function && Z.names.lookup n == some .cell) then (n,.cell) else (n,k) }
theorem relabel_eq {scope Z:Scope} {env:Env} (h:env.scope=Z):relabel scope env=relab scope Z:=by subst h; rfl
theorem lookup_relab {Z:Scope} : ∀ {names:List (PySem.Str × NameKind)} {x:PySem.Str},
    (names.map fun (n,k)=>if (k == NameKind.free && Z.kind == .function && Z.names.lookup n == some .cell) then (n,NameKind.cell) else (n,k)).lookup x=(names.lookup x).map fun k=>if (k == NameKind.free && Z.kind == .function && Z.names.lookup x == some .cell) then NameKind.cell else k
  | [],_=>rfl
  | (n,k) :: r,x=>by
    have ih:=lookup_relab (Z:=Z) (names:=r) (x:=x)
    show List.lookup x ((if (k == NameKind.free && Z.kind == .function && Z.names.lookup n == some .cell)=true then (n,NameKind.cell) else (n,k)) :: _)=_
    by_cases hx:x=n
    · subst hx
      rw [List.lookup_cons_self,Option.map_some]
      split <;> rw [List.lookup_cons_self]
    · have hx':(x == n)=false:=by simpa using hx
      by_cases hc:(k == NameKind.free && Z.kind == .function && Z.names.lookup n == some .cell)=true
      · rw [if_pos hc]; simp only [List.lookup_cons,hx']; exact ih
      · rw [if_neg hc]; simp only [List.lookup_cons,hx']; exact ih
theorem closure_ok {env:Env} : ∀ (names:List (PySem.Str × NameKind)) (cs:List (PySem.Str × Addr)),(∀ x ∈ names,x.2 = .free→(env.cells.lookup x.1).isSome=true) →
    ∃ cl,(forIn names cs fun (x:PySem.Str × NameKind) (r:List (PySem.Str × Addr))=>(if x.2 == .free then (do let a ← PySem.cellOf env x.1; pure (ForInStep.yield ((x.1,a) :: r))) else pure (ForInStep.yield r):Sem (ForInStep (List (PySem.Str × Addr)))))=pure (cl ++ cs) ∧
      (∀ x k,cl.lookup x=some k→env.cells.lookup x=some k)∧∀ x,(x,NameKind.free) ∈ names→(cl.lookup x).isSome=true
  | [],cs,_=>⟨[],rfl,(fun _ _ e=>by exact nnS e),fun _ h=>by cases h⟩
  | (n,k) :: r,cs,h=>by
    rw [List.forIn_cons]
    by_cases hk:k = .free
    · subst hk
      (refine xE (Option.isSome_iff_exists.mp (h (n,.free) (.head _) rfl)) fun a ha=>?_)
      (refine xEAA (closure_ok (env:=env) r ((n,a) :: cs) fun x hx=>h x (.tail _ hx)) fun cl h1 h2 h3=>?_)
      refine ⟨cl ++ [(n,a)],?_,fun x k' hl=>?_,fun x hx=>?_⟩
      · have e1:PySem.cellOf env n=pure a:=by unfold PySem.cellOf; rw [ha]
        show ((do let a ← PySem.cellOf env n; pure (ForInStep.yield ((n,a) :: cs)):Sem _) >>= _)=_
        rw [e1]
        show (forIn r ((n,a) :: cs) _:Sem _)=_
        rw [List.append_assoc]
        exact h1
      · rw [List.lookup_append] at hl
        cases e:cl.lookup x with
        | some k2=>rw [e] at hl; (have k1:=s1E hl; clear hl; subst k1); exact h2 x _ e
        | none =>
          rw [e,Option.none_or,List.lookup_cons] at hl
          by_cases hx:x=n
          · subst hx; rw [beq_self_eq_true] at hl; (have k1:=s1E hl; clear hl; subst k1); exact ha
          · have hx':(x == n)=false:=by simpa using hx
            rw [hx'] at hl; exact nnS hl
      · rw [List.lookup_append]
        rcases List.mem_cons.mp hx with e | hx
        · cases e
          rw [List.lookup_cons_self]
          cases List.lookup n cl <;> rfl
        · (refine xE (Option.isSome_iff_exists.mp (h3 x hx)) fun k2 e=>?_)
          rw [e]; rfl
    · have hk':(k == NameKind.free)=false:=by simpa using hk
      (refine xEAA (closure_ok (env:=env) r cs fun x hx=>h x (.tail _ hx)) fun cl h1 h2 h3=>?_)
      refine ⟨cl,?_,h2,fun x hx=>?_⟩
      · show ((if (k == NameKind.free)=true then _ else pure (ForInStep.yield cs):Sem _) >>= _)=_
        rw [hk']
        exact h1
      · rcases List.mem_cons.mp hx with e | hx
        · (have k1:=p2A e; have k2:=p2B e; clear e; subst k1 k2); exact absurd rfl hk
        · exact h3 x hx
theorem closureFor_ok {scope:Scope} {env:Env} (h:∀ x ∈ scope.names,x.2 = .free→(env.cells.lookup x.1).isSome=true) :
    ∃ cl,closureFor scope env=pure cl∧(∀ x k,cl.lookup x=some k→env.cells.lookup x=some k)∧∀ x,(x,NameKind.free) ∈ scope.names→(cl.lookup x).isSome=true:=by
  (refine xEA (closure_ok (env:=env) scope.names [] h) fun cl h1 h2=>?_)
  refine ⟨cl,?_,h2⟩
  rw [List.append_nil] at h1
  unfold closureFor
  show (forIn scope.names [] _ >>= fun cs=>pure cs)=_
  rw [bind_pure,← h1]
theorem cellsFrom_append:∀ (names:List (PySem.Str × NameKind)) (n:Nat) (a b:List (PySem.Str × Addr)),cellsFrom n names (a ++ b)=cellsFrom n names a ++ b
  | [],_,_,_=>rfl
  | (x,k) :: r,n,a,b=>by
    unfold cellsFrom
    split
    · exact cellsFrom_append r (n + 1) ((x,n) :: a) b
    · exact cellsFrom_append r n a b
theorem cellsFrom_mem:∀ (names:List (PySem.Str × NameKind)) (n:Nat) (a:List (PySem.Str × Addr)) {x:PySem.Str} {k:Addr},(x,k) ∈ cellsFrom n names a→(x,k) ∈ a∨(x,NameKind.cell) ∈ names
  | [],_,_,_,_,h=>.inl h
  | (y,kd) :: r,n,a,x,k,h=>by
    unfold cellsFrom at h
    split at h
    · rename_i hk
      rcases cellsFrom_mem r _ _ h with q | q
      · rcases List.mem_cons.mp q with e | q
        · (have k1:=p2A e; have k2:=p2B e; clear e; subst k1 k2)
          rw [beq_iff_eq] at hk
          subst hk
          exact .inr (.head _)
        · exact .inl q
      · exact .inr (.tail _ q)
    · rcases cellsFrom_mem r _ _ h with q | q
      · exact .inl q
      · exact .inr (.tail _ q)
theorem wpAny_compEnv {M:Model} {A:Around} {E:Value→Shared→Prop} {s:Shared} {scope:Scope} {env:Env} {cl:List (PySem.Str × Addr)} {Q:Env→Shared→Prop}
    (hq:Q { scope,locals:=s.heap.objs.size,globals:=env.globals,cells:=cellsFrom (s.heap.objs.size + 1) scope.names cl,qual:=env.qual,func:=none,code:=env.code,frame:=env.frame,builtins:=env.builtins }
      { s with heap:=pushCells (s.heap.push { cls:=.type "dict", data:=.dict #[] }) scope.names }):wpAny M A (newFunctionEnv scope env.globals cl [] env.qual none .none (some env)) Q E s:=by
  simp only [newFunctionEnv,Option.isSome_some,if_true]
  refine wpAny_bind (wpAny_alloc ?_)
  refine wpAny_bind (wpAny_layCells _ (fun name kind cells=>by cases hkc:kind == NameKind.cell <;> simp [hkc]) _ _ _ _ ?_)
  rw [show ({ s with heap:=s.heap.push { cls:=.type "dict", data:=.dict #[] } } : Shared).heap.objs.size=s.heap.objs.size + 1 from Heap.size_push ..]
  exact wpAny_bind (wpAny_pure (wpAny_pure hq))
noncomputable def frIn (scope:Scope) (fr:Fr):Fr:=fun x=>if scope.names.lookup x=some .free then fr x else none
/-- what stands behind a comprehension's loop -/
structure CompMid (G:Amb) (c:Cx) (S:Gs) {β:Type} (Acc:Cx→Gs→List β→Prop) (zs:List β) (σ':List AO) (D0 C:Addr) (its:List Addr) (S':Gs):Prop where
  H:Heaps G (c.addX its) S'
  ap:Apart c its
  there:D0 ∈ its
  thereC:C ∈ its
  ne:D0 ≠ C
  acc:Acc (c.addX its) S' zs
  ext:Ext c S S'
  new:∀ a ∈ its,S.h.get? a=none
  σ:S'.σ=σ'
  big:1 < D0
noncomputable def goodScope (scope Z:Scope) (W:List PySem.Str):Bool :=
  scope.kind == .function && decide ((scope.names.map (·.1)).Nodup) && (scope.names.all fun x=>x.2 != .free || Z.names.lookup x.1 == some .cell || Z.names.lookup x.1 == some .free) && (W.all fun x=>scope.names.lookup x == some .cell) &&
    (scope.names.all fun x=>x.2 != .local || scope.names.lookup x.1 == some .local)
theorem lookup_of_mem {names:List (PySem.Str × NameKind)} (hn:(names.map (·.1)).Nodup) {x:PySem.Str} {k:NameKind} (h:(x,k) ∈ names):names.lookup x=some k:=by
  induction names with
  | nil=>cases h
  | cons p r ih =>
    obtain ⟨y,ky⟩:=p
    (refine xA (List.nodup_cons.mp (show (y :: r.map (·.1)).Nodup from hn)) fun h1 h2=>?_)
    rcases List.mem_cons.mp h with e | hr
    · (have k1:=p2A e; have k2:=p2B e; clear e; subst k1 k2); exact List.lookup_cons_self
    · have:x ≠ y:=fun e=>h1 (List.mem_map.mpr ⟨(x,k),hr,e⟩)
      rw [List.lookup_cons,show (x == y)=false by simpa using this]
      exact ih h2 hr
noncomputable abbrev addrs (l:List (PySem.Str × Addr)):List Addr:=l.map fun p=>p.2
theorem trComp {G:Amb} {c:Cx} {S:Gs} {s:Shared} {env:Env} {fr:Fr} {n:Nat} {Z scope:Scope} {e:Expr} {g:Comprehension} {gs:List Comprehension} {pos p:Pos} {newAcc:Sem Value} {accObj:Obj} {emit:Value→Env→Sem Unit} {W:List PySem.Str}
    {β:Type} {Acc:Addr→Cx→Gs→List β→Prop} {Good:List β→Prop} {em:Em β} {tgt:D→Fr→Fr} {ok:D→Bool} {test:Mo Bool} {m:Mo D} (q:Run G true n Z c env fr S s)
    (hcl:clausesOf e=g :: gs) (hs:∀ env x,foldedSetIterable g.iter env x=Pure.pure x) (hsc:goodScope scope Z W=true)
    (hacc0:accObj.isFreed=false) (hnew:∀ (M:Model) (A:Around) (Q:Value→Shared→Prop) E (s:Shared),Q (.ref s.heap.objs.size) { s with heap:=s.heap.push accObj }→wpAny M A newAcc Q E s)
    (hA:∀ (D0:Addr) (O:List Addr),D0 ∉ O→Accu G O [D0] (Acc D0)) (hA0:∀ (D0:Addr) (c:Cx) (S:Gs),D0 ∉ c.fs→S.h.get? D0=some accObj→Acc D0 c S [])
    (hE:∀ (D0:Addr) (O:List Addr) (c0:Cx) (cenv:Env),D0 ∈ c0.X→D0 ∉ c0.fs→D0 ∈ O→D0 ≠ cenv.locals→(∀ x k,cenv.cells.lookup x=some k→D0 ≠ k)→(∀ a ∈ O,a ∈ c0.fs ++ c0.X)→cenv.locals ∈ O→(∀ x ∈ W,∀ k,cenv.cells.lookup x=some k→k ∈ O)→cenv.locals ≠ D0→(∃ O1:List Addr,D0 ∉ O1∧(∀ a ∈ O1,a ∈ O)∧cenv.locals ∈ O1∧∀ x ∈ W,∀ k,cenv.cells.lookup x=some k→k ∈ O1) →
      EmT G n (relab scope Z) cenv O c0 (Acc D0) Good (emit (.ref D0) cenv) em)
    (hgood:∀ a b,Good (a ++ b)→Good a) (hT:AsC G n (relab scope Z) W g.target tgt ok) (hTs:Ts G n (relab scope Z) g.ifs test) (hC:∀ (D0:Addr) (cenv:Env),Clause G e 0 (.ref D0) cenv g.target g.ifs (emit (.ref D0) cenv) p)
    (hi:Ev G true n Z g.iter m) {d:D} {σ1:List AO} (hm:m fr S.σ=some (.val d,σ1)) {x:Src} (hx:srcD d σ1=some x) {zs:List β} {fr':Fr} {σ':List AO} (hl:lcEach x.P tgt ok test em x.ds (frIn scope fr) σ1=some (zs,fr',σ')) (hg:Good zs)
    {use:Option (Value→Sem Unit)} {Q:Value→Shared→Prop} {E:Value→Shared→Prop} (hq:∀ (D0 C:Addr) (its:List Addr) (S':Gs) (tk:Tk G.lo) m',CompMid G c S (Acc D0) zs σ' D0 C its S'→S'.h.Ns C m'→compPost G.M c.A E use Q (.ref D0) C (.ok .next) (ShT s S'.h tk)) :
    wpAny G.M c.A (comprehension e scope env pos newAcc false (eval g.iter env) use) Q E s:=by
  unfold goodScope at hsc
  simp only [Bool.and_eq_true,decide_eq_true_eq,beq_iff_eq] at hsc
  (refine xA hsc fun q0z hloc=>?_; try clear hsc; refine xA q0z fun q1z hWc=>?_; refine xA q1z fun q2z hfree=>?_; refine xA q2z fun hkind hnd=>?_)
  have hfree':∀ y ∈ scope.names,y.2 = .free→env.kindOf y.1=some .cell∨env.kindOf y.1=some .free:=fun y hy hk=>by
    have:=List.all_eq_true.mp hfree y hy
    rw [hk] at this
    simp only [bne_self_eq_false,Bool.false_or,Bool.or_eq_true,beq_iff_eq] at this
    rw [kindOf_scope q.scope]; exact this
  have cellOk:∀ {S':Gs} {y},EnvOk G c env fr S'→(env.kindOf y=some .cell∨env.kindOf y=some .free)→(env.cells.lookup y).isSome=true:=fun V hy=>by
    (refine xEEA (V.cell _ hy) fun k _ hk _=>?_)
    rw [hk]; rfl
  (refine xEAA (closureFor_ok (scope:=scope) (env:=env) fun y hy hk=>cellOk q.V (hfree' y hy hk)) fun cl hclos hcl1 hcl2=>?_)
  refine wpAny_comprehension_free (use:=use) hcl (hs env) hclos hkind (fun y hy hk=>?_) ?_
  · have:=List.all_eq_true.mp hloc y hy
    rw [hk] at this
    simpa using this
  refine hi c env fr S s _ _ q hm _ E (fun b hb v S1 tk1 e1 H1 x1 r1=>?_) fun _ _ ho=>by exact nVE ho
  (have k1:=valE hb; clear hb; subst k1)
  refine trIterRaw (s:=(ShT s S1.h tk1)) H1 rfl r1 (by rw [e1]; exact hx) fun o hof hIt=>?_
  refine hnew _ _ _ _ _ ?_
  refine wpAny_compEnv ?_
  have sz2:(S1.h.push o).objs.size=S1.h.objs.size + 1:=Heap.size_push ..
  have sz3:((S1.h.push o).push accObj).objs.size=S1.h.objs.size + 2:=by rw [Heap.size_push,sz2]
  have sz4:(((S1.h.push o).push accObj).push { cls:=.type "dict", data:=.dict #[] }).objs.size=S1.h.objs.size + 3:=by rw [Heap.size_push,sz3]
  show codeAny G.M c.A (.compStart e 0 (.ref S1.h.objs.size) (.ref (S1.h.push o).objs.size) _) _ _
  dsimp only
  rw [sz2,sz3]
  have eD:(S1.h.push o).objs.size=S1.h.objs.size + 1:=sz2
  generalize hh4:pushCells (((S1.h.push o).push accObj).push { cls:=.type "dict", data:=.dict #[] }) scope.names=h4
  have cok:=cellsFrom_ok scope.names (((S1.h.push o).push accObj).push { cls:=.type "dict", data:=.dict #[] }) (S1.h.objs.size + 3) [] ⟨fun _ _ hm=>(nomatch hm),List.Pairwise.nil⟩ (by rw [sz4]; exact Nat.le_refl _)
  rw [sz4,hh4] at cok
  have pk:∀ b x,(((S1.h.push o).push accObj).push { cls:=.type "dict", data:=.dict #[] }).get? b=some x→h4.get? b=some x:=fun b x e=>by rw [← hh4]; exact pushCells_keeps _ _ b x e
  have gC:h4.Ns (S1.h.objs.size + 2) (fun _=>none):=by
    have:=(Heap.Ns.new ((S1.h.push o).push accObj) (.type "dict")).keeps pk
    rw [sz3] at this; exact this
  have gD:h4.get? (S1.h.objs.size + 1)=some accObj:=pk _ _ (Heap.get?_push_of_some _ (by rw [← sz2]; exact Heap.get?_push_size _ hacc0))
  have gI:h4.get? S1.h.objs.size=some o:=pk _ _ (Heap.get?_push_of_some _ (Heap.get?_push_of_some _ (Heap.get?_push_size _ hof)))
  have k4:∀ b x,S1.h.get? b=some x→h4.get? b=some x:=fun b x e=>pk _ _ (Heap.get?_push_of_some _ (Heap.get?_push_of_some _ (Heap.get?_push_of_some _ e)))
  have hcells:cellsFrom (S1.h.objs.size + 2 + 1) scope.names cl=cellsFrom (S1.h.objs.size + 3) scope.names [] ++ cl:=cellsFrom_append scope.names (S1.h.objs.size + 3) [] cl
  rw [hcells]
  generalize hnw:cellsFrom (S1.h.objs.size + 3) scope.names []=new at cok
  have nwlt:∀ y k,(y,k) ∈ new→S1.h.objs.size + 3 ≤ k:=fun y k h=>(cok.empty y k h).2
  have nwcell:∀ y k,(y,k) ∈ new→h4.IsCell k none:=fun y k h=>(cok.empty y k h).1
  have nwname:∀ y k,(y,k) ∈ new→(y,NameKind.cell) ∈ scope.names:=fun y k h=>by
    rw [← hnw] at h
    rcases cellsFrom_mem _ _ _ h with q | q
    · cases q
    · exact q
  have nwsome:∀ y,scope.names.lookup y=some .cell→(new.lookup y).isSome=true:=fun y hy=>by rw [← hnw]; exact cellsFrom_some _ _ _ (.inl hy)
  have fr1:∀ a,S1.h.objs.size ≤ a→S1.h.get? a=none:=fun a ha=>Heap.get?_none_of_le ha
  have hnewAll:∀ a ∈ S1.h.objs.size :: (S1.h.objs.size + 1) :: (S1.h.objs.size + 2) :: addrs new,S1.h.get? a=none∧∃ x,h4.get? a=some x:=fun a ha=>by
    rcases List.mem_cons.mp ha with rfl | ha
    · exact ⟨fr1 _ (Nat.le_refl _),o,gI⟩
    rcases List.mem_cons.mp ha with rfl | ha
    · exact ⟨fr1 _ (by omega),_,gD⟩
    rcases List.mem_cons.mp ha with rfl | ha
    · (refine xEEEA gC fun x _ _ hx _=>?_; try clear gC)
      exact ⟨fr1 _ (by omega),x,hx⟩
    · (refine xEA (List.mem_map.mp ha) fun q0z hm q1z=>?_; obtain ⟨y,k⟩:=q0z; subst q1z)
      (refine xEA (nwcell y k hm) fun x hx _=>?_)
      exact ⟨fr1 _ (Nat.le_trans (by omega) (nwlt y k hm)),x,hx⟩
  (refine xA (H1.addX (its:=S1.h.objs.size :: (S1.h.objs.size + 1) :: (S1.h.objs.size + 2) :: addrs new) k4 hnewAll) fun H4 x4=>?_)
  have V1:=x1.env q.H q.V
  have V4:EnvOk G (c.addX (S1.h.objs.size :: (S1.h.objs.size + 1) :: (S1.h.objs.size + 2) :: addrs new)) { scope:=relabel scope env,locals:=S1.h.objs.size + 2,globals:=env.globals,cells:=new ++ cl,qual:=env.qual,func:=none,code:=env.code,frame:=env.frame,builtins:=env.builtins } (frIn scope fr) { S1 with h:=h4 }:=by
    have lk:∀ y k,(new ++ cl).lookup y=some k→(y,k) ∈ new∨env.cells.lookup y=some k:=fun y k h=>by
      rw [List.lookup_append] at h
      cases e:new.lookup y with
      | some k2=>rw [e] at h; (have k1:=s1E h; clear h; subst k1); exact .inl (mem_of_lookup e)
      | none=>rw [e,Option.none_or] at h; exact .inr (hcl1 y k h)
    refine ⟨hkind,V1.glob,V1.blt,V1.frame,List.mem_append_right _ (List.mem_append_left _ (.tail _ (.tail _ (.head _)))),⟨_,gC,fun y dy hy hky=>?_⟩,fun y hy=>?_,fun y k hk=>?_,fun y z k hy hz=>?_⟩
    · exfalso
      unfold frIn at hy
      split at hy
      · rename_i hfr
        have:(relabel scope env).names.lookup y=some .local:=hky
        rw [relabel_eq rfl] at this
        unfold relab at this
        rw [lookup_relab,hfr] at this
        simp only [Option.map_some,Option.some.injEq] at this
        split at this <;> cases this
      · exact nnS hy
    · have hy':∃ k0,scope.names.lookup y=some k0∧(k0 = .cell∨k0 = .free):=by
        have hy2:(relabel scope env).names.lookup y=some .cell∨(relabel scope env).names.lookup y=some .free:=hy
        rw [relabel_eq rfl] at hy2
        unfold relab at hy2
        rw [lookup_relab] at hy2
        cases e:scope.names.lookup y with
        | none=>rw [e] at hy2; rcases hy2 with h | h <;> exact nnS h
        | some k0 =>
          refine ⟨k0,rfl,?_⟩
          rw [e] at hy2
          cases k0 <;> first | exact .inl rfl | exact .inr rfl | (rcases hy2 with h | h <;> cases h)
      (refine xEA hy' fun k0 hk0 hcf=>?_; try clear hy')
      rcases hcf with rfl | rfl
      · (refine xE (Option.isSome_iff_exists.mp (nwsome y hk0)) fun k hk=>?_)
        refine ⟨k,none,?_,nwcell y k (mem_of_lookup hk),fun d hd=>?_⟩
        · show (new ++ cl).lookup y=some k
          rw [List.lookup_append,hk]; rfl
        · unfold frIn at hd
          rw [hk0,if_neg (by decide)] at hd; exact nnS hd
      · have hmem:=mem_of_lookup hk0
        (refine xE (Option.isSome_iff_exists.mp (hcl2 y hmem)) fun k hk=>?_)
        have hnone:new.lookup y=none:=by
          cases e:new.lookup y with
          | none=>rfl
          | some k2 =>
            have:=lookup_of_mem hnd (nwname y k2 (mem_of_lookup e))
            rw [hk0] at this; cases this
        (refine xEEAA (V1.cell y (hfree' _ hmem rfl)) fun k' v0 hl' hc' hd'=>?_)
        rw [hcl1 y k hk] at hl'
        (have k1:=s1E hl'; clear hl'; subst k1)
        refine ⟨k,v0,?_,hc'.keeps k4,fun d hd=>?_⟩
        · show (new ++ cl).lookup y=some k
          rw [List.lookup_append,hnone]; exact hk
        · unfold frIn at hd
          rw [hk0,if_pos rfl] at hd
          (refine xEA (hd' d hd) fun v' h1 h2=>?_)
          exact ⟨v',h1,h2.addX x4 fun a ha=>(hnewAll a ha).1⟩
    · rcases lk y k hk with h | h
      · exact List.mem_append_left _ (.tail _ (.tail _ (.tail _ (List.mem_map.mpr ⟨(y,k),h,rfl⟩))))
      · exact List.mem_append_right _ (V1.own y k h)
    · have old:∀ y,env.cells.lookup y=some k→k < S1.h.objs.size:=fun y h=>by
        (refine xA (H1.xs k (V1.own y k h)) fun q0z _=>?_; refine xE q0z fun x hx=>?_)
        exact Heap.lt_size hx
      rcases lk y k hy with h | h <;> rcases lk z k hz with h' | h'
      · exact name_of_addr cok.apart h h'
      · exact absurd (Nat.lt_of_lt_of_le (old z h') (Nat.le_trans (Nat.le_add_right _ 3) (nwlt y k h))) (Nat.lt_irrefl _)
      · exact absurd (Nat.lt_of_lt_of_le (old y h) (Nat.le_trans (Nat.le_add_right _ 3) (nwlt z k h'))) (Nat.lt_irrefl _)
      · exact V1.apart y z k h h'
  have apR:Apart c (S1.h.objs.size :: (S1.h.objs.size + 1) :: (S1.h.objs.size + 2) :: addrs new):=⟨fun a ha hm'=>by
    have:=(hnewAll a ha).1
    rcases List.mem_append.mp hm' with z | z
    · (refine xE (H1.fs_some z) fun x hx=>?_); rw [this] at hx; exact nnS hx
    · (refine xE ((H1.xs a z).1) fun x hx=>?_); rw [this] at hx; exact nnS hx⟩
  have apR':Apart c ((S1.h.objs.size + 1) :: (S1.h.objs.size + 2) :: addrs new):=⟨fun a ha=>apR.off a (.tail _ ha)⟩
  have hnin:S1.h.objs.size ∉ (S1.h.objs.size + 1) :: (S1.h.objs.size + 2) :: addrs new:=fun hm'=>by
    rcases List.mem_cons.mp hm' with z | hm'
    · omega
    rcases List.mem_cons.mp hm' with z | hm'
    · omega
    · (refine xEA (List.mem_map.mp hm') fun q0z hm'' e=>?_; obtain ⟨y,k⟩:=q0z)
      have:=nwlt y k hm''
      have e':k=S1.h.objs.size:=e
      omega
  have apI:Apart (c.addX ((S1.h.objs.size + 1) :: (S1.h.objs.size + 2) :: addrs new)) [S1.h.objs.size]:=⟨fun a ha hm'=>by
    rcases List.mem_singleton.mp ha with rfl
    rcases List.mem_append.mp hm' with z | z
    · exact apR.off _ (.head _) (List.mem_append_left _ z)
    · rcases List.mem_append.mp z with z | z
      · exact hnin z
      · exact apR.off _ (.head _) (List.mem_append_right _ z)⟩
  have r4:Rv G ((c.addX ((S1.h.objs.size + 1) :: (S1.h.objs.size + 2) :: addrs new)).addX [S1.h.objs.size]) { S1 with h:=h4 } v d:=r1.addX x4 fun a ha=>(hnewAll a ha).1
  have hIt4:ItAt h4 S1.h.objs.size v d:=by
    have step:∀ x,(S1.h.push o).get? S1.h.objs.size=some x→h4.get? S1.h.objs.size=some x:=fun x hx=>pk _ _ (Heap.get?_push_of_some _ (Heap.get?_push_of_some _ hx))
    unfold ItAt at hIt ⊢
    split at hIt
    · (refine xEA hIt fun a e w11z=>?_; refine xEA w11z fun x hx r=>?_; try clear hIt); exact ⟨a,e,x,step x hx,r⟩
    · (refine xEA hIt fun a e w12z=>?_; refine xEA w12z fun x hx r=>?_; try clear hIt); exact ⟨a,e,x,step x hx,r⟩
    · (refine xEA hIt fun a e w13z=>?_; refine xEA w13z fun x hx r=>?_; try clear hIt); exact ⟨a,e,x,step x hx,r⟩
    · (refine xEA hIt fun a e q0z=>?_; try clear hIt; obtain ⟨x,hx,r⟩ | ⟨x,hx,r⟩:=q0z)
      · exact ⟨a,e,.inl ⟨x,step x hx,r⟩⟩
      · exact ⟨a,e,.inr ⟨x,step x hx,r⟩⟩
    · exact step _ hIt
    · exact hIt.elim
  (refine xEA (Walk.make (G:=G) (target:=g.target) (c:=(c.addX ((S1.h.objs.size + 1) :: (S1.h.objs.size + 2) :: addrs new)).addX [S1.h.objs.size]) (S:={ S1 with h:=h4 }) H4 (q.hand rfl) (List.mem_append_left _ (.head _)) r4 hIt4 (by rw [e1]; exact hx)) fun It hI0 Wk=>?_)
  have locIn:S1.h.objs.size + 2 ∈ (S1.h.objs.size + 2) :: addrs new:=.head _
  have hWO:∀ x ∈ W,∀ k,(new ++ cl).lookup x=some k→k ∈ (S1.h.objs.size + 2) :: addrs new:=fun x hx k hk=>by
    have hc:scope.names.lookup x=some .cell:=by
      have:=List.all_eq_true.mp hWc x hx
      simpa using this
    (refine xE (Option.isSome_iff_exists.mp (nwsome x hc)) fun k2 hk2=>?_)
    rw [List.lookup_append,hk2] at hk
    (have k1:=(s1E hk).symm; clear hk; subst k1)
    exact .tail _ (List.mem_map.mpr ⟨(x,k),mem_of_lookup hk2,rfl⟩)
  have hsc2:(relabel scope env)=relab scope Z:=relabel_eq q.scope
  have dNo:S1.h.objs.size + 1 ∉ (S1.h.objs.size + 2) :: addrs new:=fun hm'=>by
    rcases List.mem_cons.mp hm' with z | hm'
    · omega
    · (refine xEA (List.mem_map.mp hm') fun q0z hm'' e=>?_; obtain ⟨y,k⟩:=q0z)
      have:=nwlt y k hm''
      have e':k=S1.h.objs.size + 1:=e
      omega
  have O2in:∀ a ∈ (S1.h.objs.size + 1) :: (S1.h.objs.size + 2) :: addrs new,a ∈ (c.addX ((S1.h.objs.size + 1) :: (S1.h.objs.size + 2) :: addrs new)).fs ++ (c.addX ((S1.h.objs.size + 1) :: (S1.h.objs.size + 2) :: addrs new)).X:=fun a ha=>List.mem_append_right _ (List.mem_append_left _ ha)
  have ownB:∀ x k,(new ++ cl).lookup x=some k→k ∈ (c.addX ((S1.h.objs.size + 1) :: (S1.h.objs.size + 2) :: addrs new)).X:=fun x k hk=>by
    rw [List.lookup_append] at hk
    cases e:new.lookup x with
    | some k2=>rw [e] at hk; (have k1:=(s1E hk).symm; clear hk; subst k1); exact List.mem_append_left _ (.tail _ (.tail _ (List.mem_map.mpr ⟨(x,k),mem_of_lookup e,rfl⟩)))
    | none=>rw [e,Option.none_or] at hk; exact List.mem_append_right _ (V1.own x k (hcl1 x k hk))
  have dCell:∀ x k,(new ++ cl).lookup x=some k→S1.h.objs.size + 1 ≠ k:=fun x k hk z=>by
    rw [List.lookup_append] at hk
    cases e:new.lookup x with
    | some k2=>rw [e] at hk; (have k1:=(s1E hk).symm; clear hk; subst k1); have:=nwlt x k (mem_of_lookup e); omega
    | none =>
      rw [e,Option.none_or] at hk
      (refine xA (H1.xs k (V1.own x k (hcl1 x k hk))) fun q0z _=>?_; refine xE q0z fun y hy=>?_)
      have h1:=Heap.lt_size hy
      rw [← z] at h1
      exact absurd (Nat.lt_of_succ_lt h1) (Nat.lt_irrefl _)
  refine (hC (S1.h.objs.size + 1) _).start ?_ fun Q' E' hQ=>Wk.self 0 { S1 with h:=h4 } _ Q' E' hI0 rfl hQ
  refine compLoop_ok (c:=c.addX ((S1.h.objs.size + 1) :: (S1.h.objs.size + 2) :: addrs new)) (its:=[S1.h.objs.size]) (O:=(S1.h.objs.size + 2) :: addrs new) (O2:=(S1.h.objs.size + 1) :: (S1.h.objs.size + 2) :: addrs new) (A0:=[S1.h.objs.size + 1]) (W:=W) (ys:=[]) (Acc:=Acc (S1.h.objs.size + 1)) (Good:=Good) (n:=n) (Z:=relab scope Z)
    p ((hC _ _).loop _) ((hC _ _).quiet _) ((hC _ _).under _ _) ((hC _ _).den _) (fun a ha=>by rcases List.mem_singleton.mp ha with rfl; exact List.mem_append_left _ (.head _)) (hA _ _ dNo) hT hTs (fun a ha=>.tail _ ha) O2in
    (hE _ _ _ _ (List.mem_append_left _ (.head _)) (fun z=>apR'.off _ (.head _) (List.mem_append_left _ z)) (.head _) (Nat.ne_of_lt (Nat.lt_succ_self _)) dCell O2in (.tail _ (.head _)) (fun x hx k hk=>.tail _ (hWO x hx k hk)) (Nat.ne_of_gt (Nat.lt_succ_self _)) ⟨_,dNo,fun a ha=>.tail _ ha,.head _,hWO⟩)
    hgood apI (List.mem_append_right _ (List.mem_append_left _ (.tail _ (.head _)))) ownB (fun a ha=>O2in a (.tail _ ha)) (.head _) hWO tk1 ⟨hsc2,q.room,q.units,q.hand,rfl,tk1.2,H4,V4⟩ (hA0 _ _ _ (fun z=>apR'.off _ (.head _) (List.mem_append_left _ z)) gD) hI0 Wk (by rw [e1]; exact hl) hg fun S' tk' e' H' xe V' A'=>?_
  (refine xEA V'.vars fun m' hns _=>?_)
  refine hq (S1.h.objs.size + 1) (S1.h.objs.size + 2) ((S1.h.objs.size + 1) :: (S1.h.objs.size + 2) :: addrs new) S' tk' m' ⟨H',apR',.head _,.tail _ (.head _),Nat.ne_of_lt (Nat.lt_succ_self _),A',?_,fun a ha=>?_,e',Nat.lt_succ_of_lt H1.big⟩ hns
  · have xe':ExtEnd c [S1.h.objs.size] ((S1.h.objs.size + 1) :: (S1.h.objs.size + 2) :: addrs new) { S1 with h:=h4 } S':=⟨xe.adr,xe.keep,xe.fresh,xe.live⟩
    have j:=ExtO.join (x4.o []) (fun a ha=>by rcases List.mem_singleton.mp ha with rfl; exact fr1 _ (Nat.le_refl _)) (fun a ha=>.inr (hnewAll a (.tail _ ha)).1) xe'
    exact x1.trans j.ext
  · cases e:S.h.get? a with
    | none=>rfl
    | some o=>(refine xE (x1.live _ o e) fun o' e''=>?_); rw [(hnewAll a (.tail _ ha)).1] at e''; exact nnS e''
end Mine
end
section
open PySem PySem.W PyProof.Rows
namespace Mine
section
variable {G:Amb} {env:Env} {elt target iter target2 iter2 key:Expr} {ifs ifs2:List Expr} {scope:Scope} {pos:Pos} {acc:Value}
noncomputable def emitL (elt:Expr) (acc:Value) (env:Env):Sem Unit:=eval elt env >>= fun x=>call (.builtin "list.append") [acc,x] >>= fun _=>Pure.pure ()
theorem Clause.list1:Clause G (.ListComp elt [⟨target,iter,ifs,0⟩] scope pos) 0 acc env target ifs (emitL elt acc env) iter.pos where
  loop:=fun it=>by rfl
  quiet:=fun _=>rfl
  under:=fun _ _=>rfl
  den:=fun _=>rfl
  underS:=fun _ _=>rfl
  denS:=fun _=>rfl
  async:=rfl
end
end Mine
end
section
open PySem PySem.W PyProof.Rows
namespace Mine
end Mine
end
section
open PySem PySem.W PyProof.Rows
namespace Mine
section
variable {G:Amb} {c:Cx} {S S':Gs} {D0 C:Addr} {its:List Addr} {σ':List AO} {h':Heap}
theorem CompMid.off {β:Type} {Acc:Cx→Gs→List β→Prop} {zs:List β} (M:CompMid G c S Acc zs σ' D0 C its S'):D0 ∉ vol c { S' with h:=h' }:=fun hm=>by
  rcases List.mem_append.mp hm with q | q
  · exact (M.H.xs D0 (List.mem_append_left _ M.there)).2.1 q
  · exact M.ap.off D0 M.there q
theorem CompMid.back {β:Type} {Acc:Cx→Gs→List β→Prop} {zs:List β} (M:CompMid G c S Acc zs σ' D0 C its S') (hs:Heap.SameBut C S'.h h'):Heaps G c { S' with h:=h' }∧Ext c S { S' with h:=h' } :=
  ⟨M.H.endX M.ap fun b o hb e=>hs.extBut b o (fun z=>hb (z ▸ M.thereC)) e,M.ext.turnX (its:=[C]) (fun a ha=>by rcases List.mem_singleton.mp ha with rfl; exact M.new _ M.thereC) fun b o hb e=>hs.extBut b o (fun z=>hb (z ▸ .head _)) e⟩
theorem CompMid.lstF {zs:List D} (M:CompMid G c S (AccL G D0) zs σ' D0 C its S') (hs:Heap.SameBut C S'.h h') (hz:zs.length ≤ sizeLine):Rv G c { S' with h:=h' } (.ref D0) (.lst zs):=by
  (refine xAEEA M.acc fun _ n vs ho hr=>?_)
  refine .lst (hs.extBut _ _ M.ne ho) rfl rfl ?_ M.off ?_
  · have:=VRs.length hr; simp at this; omega
  · exact VRs.mono (fun a o hn e=>hs.extBut a o (fun z=>hn (z ▸ vol_addX.mpr (.inl M.thereC))) e) (.refl _) (.of_sub _ fun a ha=>vol_addX.mpr (.inr ha)) hr
end
noncomputable def lcRun {β:Type} (scope:Scope) (m:Mo D) (tgt:D→Fr→Fr) (ok:D→Bool) (test:Mo Bool) (em:Em β):Fr→List AO→Option (List β × List AO):=fun fr σ=>match m fr σ with
  | some (.val d,σ1)=>(srcD d σ1).bind fun x=>(lcEach x.P tgt ok test em x.ds (frIn scope fr) σ1).map fun r=>(r.1,r.2.2)
  | _=>none
theorem lcRunE {β:Type} {scope:Scope} {m:Mo D} {tgt:D→Fr→Fr} {ok:D→Bool} {test:Mo Bool} {em:Em β} {fr:Fr} {σ σ':List AO} {zs:List β} (h:lcRun scope m tgt ok test em fr σ=some (zs,σ')) :
    ∃ d σ1 x fr',m fr σ=some (.val d,σ1)∧srcD d σ1=some x∧lcEach x.P tgt ok test em x.ds (frIn scope fr) σ1=some (zs,fr',σ'):=by
  unfold lcRun at h
  split at h
  rotate_left
  · exact nnS h
  rename_i d σ1 hm
  (refine xEA (Option.bind_eq_some_iff.mp h) fun x hx h=>?_)
  (refine xEA (Option.map_eq_some_iff.mp h) fun r hr e=>?_)
  (have k1:=p2A e; have k2:=p2B e; clear e; subst k1 k2)
  exact ⟨d,σ1,x,r.2.1,hm,hx,hr⟩
section
variable {G:Amb} {n:Nat} {Z:Scope} {elt target iter target2 iter2 key:Expr} {ifs ifs2:List Expr} {scope:Scope} {pos:Pos} {W:List PySem.Str} {m m2:Mo D} {tgt tgt2:D→Fr→Fr} {ok ok2:D→Bool} {test test2:Mo Bool} {me mk:Mo D}
/-- what a comprehension's core gives, whatever is done with it -/
noncomputable def CompL (G:Amb) (n:Nat) (Z:Scope) (e:Expr) (run:Fr→List AO→Option (List D × List AO)):Prop :=
  ∀ c env fr S s zs σ',Run G true n Z c env fr S s→run fr S.σ=some (zs,σ')→zs.length ≤ sizeLine→∀ (use:Option (Value→Sem Unit)) (Q:Value→Shared→Prop) (E:Value→Shared→Prop),
    (∀ (D0 C:Addr) (its:List Addr) (S':Gs) (tk:Tk G.lo) m',CompMid G c S (AccL G D0) zs σ' D0 C its S'→S'.h.Ns C m'→compPost G.M c.A E use Q (.ref D0) C (.ok .next) (ShT s S'.h tk)) →
    wpAny G.M c.A (match e with | .ListComp _ gens scope pos=>comprehension e scope env (firstIterPos gens pos) (newList []) (firstAsync gens) (firstIter gens env) use | _=>unsupported "") Q E s
theorem newList_raw (M:Model) (A:Around) (Q:Value→Shared→Prop) (E:Value→Shared→Prop) (s:Shared) (h:Q (.ref s.heap.objs.size) { s with heap:=s.heap.push { cls:=.type "list", data:=.seq #[] } }):wpAny M A (newList []) Q E s :=
  wpAny_newObj_type h (by show (0:Nat) ≤ sizeLine; exact Nat.zero_le _)
theorem CompL.one (hi:Ev G true n Z iter m) (hT:AsC G n (relab scope Z) W target tgt ok) (hTs:Ts G n (relab scope Z) ifs test) (he:Ev G true n (relab scope Z) elt me) (hsc:goodScope scope Z W=true)
    (hs:∀ env x,foldedSetIterable iter env x=Pure.pure x:=by intro _ _; rfl):CompL G n Z (.ListComp elt [⟨target,iter,ifs,0⟩] scope pos) (lcRun scope m tgt ok test (emOne me)):=by
  intro c env fr S s zs σ' q hm hz use Q E hq
  (refine xEE (lcRunE hm) fun d σ1 w14z=>?_; refine xEEAA w14z fun x fr' h1 h2 h3=>?_)
  exact trComp (g:=⟨target,iter,ifs,0⟩) (Good:=GoodL) (Acc:=AccL G) (emit:=emitL elt) q rfl hs hsc rfl newList_raw (fun D0 O h=>Accu.lst h) (fun D0 c S hf h=>⟨hf,0,#[],h,.nil⟩)
    (fun D0 O c0 cenv a1 a2 a3 a4 a5 _ _ _ _ _=>EmT.lst he a1 a2 a3 a4 a5) (fun a b h=>by unfold GoodL at h ⊢; rw [List.length_append] at h; omega) hT hTs (fun _ _=>Clause.list1) hi h1 h2 h3 hz hq
theorem Ev.lcF {gens:List Comprehension} {run:Fr→List AO→Option (List D × List AO)} (h:CompL G n Z (.ListComp elt gens scope pos) run):Ev G true n Z (.ListComp elt gens scope pos) (fun fr σ=>match run fr σ with
    | some (zs,σ')=>if zs.length ≤ sizeLine then some (.val (.lst zs),σ') else none
    | none=>none):=by
  intro c env fr S s out σ' q hm
  dsimp only at hm
  split at hm
  rotate_left
  · exact nnS hm
  rename_i zs σ1 hr
  split at hm
  rotate_left
  · exact nnS hm
  rename_i hz
  (have k1:=(s2A hm).symm; have k2:=(s2B hm).symm; clear hm; subst k1 k2)
  intro Q E hq _
  refine h c env fr S s zs σ' q hr hz none Q E fun D0 C its S' tk m' M hn=>⟨m',hn,fun h' hs=>?_⟩
  (refine xA (M.back hs) fun H x=>?_)
  exact hq _ rfl (.ref D0) { S' with h:=h' } tk M.σ H x (M.lstF hs hz)
end
end Mine
end
section
open PySem PySem.W PyProof.Rows
namespace Mine
section
variable {G:Amb} {c:Cx} {env:Env} {S:Gs} {s:Shared} {fr fr':Fr} {hn:Bool} {n:Nat} {Z:Scope}
theorem interactive_fun {env:Env} (V:EnvOk G c env fr S):interactive env=false:=by unfold interactive; rw [V.kind]; rfl
theorem Ex.expr {e:Expr} {pos:Pos} {m:Mo D} (h:Ev G hn n Z e m) (hs:∀ env,swapsWith e none pos.line env=Pure.pure false:=by intro _; rfl):Ex G hn n Z (.Expr e pos) (Mf.bind (Mf.lift m) fun _=>Mf.pure .next):=by
  intro c env fr S s out fr' σ' q hf hl hm
  rw [exec_Expr env e pos (interactive_fun q.V) (hs env)]
  refine TrF.standAt (TrF.bindE q hm (fun o1 σ1 e1=>h c env fr S s o1 σ1 q e1) fun b a S1 tk q1 x1 r1 e2=>?_)
  refine TrF.cast e2 ?_
  intro Q E hq hx
  exact wpAny_dropValue (hq _ rfl .next S1 tk rfl q1.H (.refl ..) q1.V trivial)
/-- tuple targets -/
noncomputable def AsAll (G:Amb) (hn:Bool) (n:Nat) (Z:Scope):List Expr→List (D→Mf Unit)→Prop
  | [],[]=>True
  | e :: es,f :: fs=>As G hn n Z e f∧AsAll G hn n Z es fs
  | _,_=>False
noncomputable def Mf.goA:List (D→Mf Unit)→List D→Mf Unit
  | f :: fs,d :: ds=>Mf.bind (f d) fun _=>Mf.goA fs ds
  | _,_=>Mf.pure ()
noncomputable def Mf.tupA (fs:List (D→Mf Unit)) (d:D):Mf Unit:=match d with
  | .tup ds=>if ds.length=fs.length then Mf.goA fs ds else fun _ _=>none
  | _=>fun _ _=>none
theorem assignEach_cons {t:Expr} {ts:List Expr} {env:Env} (h:notStar t=true):assignEach (t :: ts) env=(false,assign t env) :: assignEach ts env:=by
  cases t <;> first | rfl | exact nFT h
theorem assignEach_len {env:Env} : ∀ {ts:List Expr},ts.all notStar=true→(assignEach ts env).length=ts.length∧(assignEach ts env).findIdx? (·.1)=none
  | [],_=>⟨rfl,rfl⟩
  | t :: ts,h=>by
    have h2:=Bool.and_eq_true_iff.mp h
    rw [assignEach_cons h2.1]
    have ih:=assignEach_len (env:=env) h2.2
    refine ⟨by rw [List.length_cons,List.length_cons,ih.1],?_⟩
    rw [List.findIdx?_cons,ih.2]; rfl
theorem asAll_len:∀ {ts:List Expr} {fs:List (D→Mf Unit)},AsAll G hn n Z ts fs→ts.length=fs.length
  | [],[],_=>rfl
  | [],_ :: _,h=>h.elim
  | _ :: _,[],h=>h.elim
  | t :: ts,f :: fs,h=>by rw [List.length_cons,List.length_cons,asAll_len h.2]
theorem trGoA {env:Env} : ∀ {ts:List Expr} {fs:List (D→Mf Unit)},AsAll G hn n Z ts fs→ts.all notStar=true→∀ {c fr S s vs ds out fr' σ'},Run G hn n Z c env fr S s→Rvs G c S vs ds→vs.length=ts.length→Mf.goA fs ds fr S.σ=some (out,fr',σ') →
    TrF G c env S s (fun _ _ _=>True) (assignInOrder ((assignEach ts env).map (·.2)) vs) out fr' σ'
  | [],[],_,_,c,fr,S,s,vs,ds,out,fr',σ',q,r,hlen,hm=>by
    cases vs with
    | nil=>refine TrF.cast hm ?_; exact TrF.pure q.H q.V q.heap trivial
    | cons=>cases hlen
  | [],_ :: _,h,_,_,_,_,_,_,_,_,_,_,_,_,_,_=>h.elim
  | _ :: _,[],h,_,_,_,_,_,_,_,_,_,_,_,_,_,_=>h.elim
  | t :: ts,f :: fs,h,hs,c,fr,S,s,vs,ds,out,fr',σ',q,r,hlen,hm=>by
    have h2:=Bool.and_eq_true_iff.mp hs
    cases vs with
    | nil=>cases hlen
    | cons v vs =>
      cases r with
      | @cons _ d _ ds rv rs =>
        rw [assignEach_cons h2.1]
        show TrF G c env S s _ (do PySem.holding vs (assign t env v); assignInOrder ((assignEach ts env).map (·.2)) vs) out fr' σ'
        refine TrF.bindM hm (fun o1 f1 σ1 e1=>TrF.holding (h.1 c env fr S s v d o1 f1 σ1 q rv e1)) fun b fr1 a S1 tk H1 x1 V1 _ e2=>?_
        exact trGoA h.2 h2.2 (q.stepS H1 V1) (Rvs.extS rs x1 q.V.ownIn) (by simpa using hlen) e2
theorem As.tup {ts:List Expr} {k:Nat} {pos:Pos} {fs:List (D→Mf Unit)} (h:AsAll G true n Z ts fs) (hs:ts.all notStar=true):As G true n Z (.Tuple ts k pos) (Mf.tupA fs):=by
  intro c env fr S s v d out fr' σ' q r hm
  unfold Mf.tupA at hm
  split at hm
  rotate_left
  · exact nnS hm
  rename_i ds
  split at hm
  rotate_left
  · exact nnS hm
  rename_i hlen
  refine xEEEEAAAAAA (VR.i_tup r) fun a o vs nn ev ho hc hd _ _ hr=>?_
  subst ev
  · have hl:=VRs.length hr
    have hel:=assignEach_len (env:=env) hs
    have hsz:(assignEach ts env).length=vs.size:=by
      rw [hel.1,asAll_len h,← hlen,← hl]; simp
    intro Q E hq hx
    have ht:s.heap.IsTuple a vs:=⟨o,by rw [q.heap]; exact ho,hc,nn,hd⟩
    refine wpAny_assign_Tuple (q.hand rfl) ht hsz hel.2 fun h' hk=>?_
    rw [q.heap] at hk
    (refine xA (q.H.grow (h':=h') (ext_fresh hk)) fun H1 x1=>?_)
    have q1:Run G true n Z c env fr { S with h:=h' } { s with heap:=h' }:=q.step (tk:=⟨s.toks,q.tok⟩) H1 x1
    refine trGoA h hs q1 (Rvs.ext hr x1) (by rw [Array.length_toList,← hsz,hel.1]) hm Q E (fun b hb a' S' tk e H x V r=>hq b hb a' S' tk e H ((x1.s env).trans x) V r) fun X msg ho S' e h2 tk e2 H x V th=>hx X msg ho S' e h2 tk e2 H ((x1.s env).trans x) V th
/-- two names at once, their stores swapped -/
noncomputable def Mf.swap2 (x y:PySem.Str) (d:D):Mf Unit:=match d with
  | .tup [a,b]=>Mf.bind (Mf.set y b) fun _=>Mf.set x a
  | _=>fun _ _=>none
theorem Ex.swap2 {t1 t2 value:Expr} {k:Nat} {p1 p2 pt pos:Pos} {x y:PySem.Str} {m:Mo D} (h:Ev G true n Z value m) (hx:NameK Z x) (hy:NameK Z y)
    (hst:∀ env,env.scope=Z→swapsWithSole [.Tuple [.Name x p1,.Name y p2] k pt] value pos.line env=Pure.pure false∧swappedStores [.Tuple [.Name x p1,.Name y p2] k pt] value env=Pure.pure (some [x,y])) :
    Ex G true n Z (.Assign [.Tuple [.Name x p1,.Name y p2] k pt] value pos) (Mf.bind (Mf.lift m) fun d=>Mf.bind (Mf.swap2 x y d) fun _=>Mf.pure .next):=by
  intro c env fr S s out fr' σ' q hf hl hm
  (refine xA (hst env q.scope) fun e2 e3=>?_)
  rw [exec_Assign_arm,e2,e3]
  show TrF G c env S s (RF G c) (do
    PySem.standAt pos
    let v ← eval value env
    (do
      PySem.rule "assign.swapped-stores"
      let items ← unpackItems v 2 none
      assignInOrder [bindName env y,bindName env x] items.reverse
      Pure.pure Flow.next)) out fr' σ'
  refine TrF.standAt (TrF.bindE q hm (fun o1 σ1 e1=>h c env fr S s o1 σ1 q e1) fun d a S1 tk q1 x1 r1 e2=>?_)
  unfold Mf.swap2 at e2
  split at e2
  rotate_left
  · exact nnS e2
  rename_i d1 d2
  refine TrF.cast e2 ?_
  refine TrF.rule ?_
  intro Q E hq hx'
  refine xEEEEAAAAAA (VR.i_tup r1) fun a o vs nn ev ho hc hd _ _ hr=>?_
  subst ev
  refine xEEAA (VRs.i_two hr) fun v1 v2 e r10 r20=>?_
  clear r1 hr
  · have hsz:vs.size=2:=by rw [← Array.length_toList,e]; rfl
    have ht:((ShT s S1.h tk):Shared).heap.IsTuple a vs:=⟨o,ho,hc,nn,hd⟩
    rw [← hsz]
    refine wpAny_bind (wpAny_unpackItems_tuple (q.hand rfl) ht fun h' hk=>?_)
    obtain ⟨H2,x2⟩:=q1.H.grow (h':=h') (ext_fresh hk)
    have q2:Run G true n Z c env fr { S1 with h:=h' } (ShT s h' tk):=q1.step (tk:=tk) H2 x2
    rw [e]
    have r1:Rv G c { S1 with h:=h' } v1 d1:=Rv.ext r10 x2
    have r2:Rv G c { S1 with h:=h' } v2 d2:=Rv.ext r20 x2
    show wpAny _ _ (do
      (do PySem.holding [v1] (bindName env y v2); (do PySem.holding [] (bindName env x v1); assignInOrder [] []))
      Pure.pure Flow.next) Q E _
    refine wpAny_bind (wpAny_bind (wpAny_holding (trBind q2 hy r2 _ _ (fun b hb u S3 tk3 e3 H3 x3 V3 _=>?_) fun _ _ ho=>by exact nVE ho)))
    have q3:=q2.stepS (tk:=tk3) H3 V3
    refine wpAny_bind (wpAny_holding (trBind q3 hx (Rv.extS r1 x3 q2.V.ownIn) _ _ (fun b hb u S4 tk4 e4 H4 x4 V4 _=>?_) fun _ _ ho=>by exact nVE ho))
    refine wpAny_pure (wpAny_pure (hq _ rfl .next S4 tk4 ?_ H4 (((x2.s env).trans x3).trans x4) V4 trivial))
    rw [e4,e3]
/-- a comprehension's value stored as it is made -/
theorem Ex.asgnF {elt:Expr} {gens:List Comprehension} {scope:Scope} {pc pos pt:Pos} {x:PySem.Str} {run:Fr→List AO→Option (List D × List AO)} (h:CompL G n Z (.ListComp elt gens scope pc) run) (hx:NameK Z x)
    (hst:∀ env,env.scope=Z→swapsWithSole [.Name x pt] (.ListComp elt gens scope pc) pos.line env=Pure.pure true) :
    Ex G true n Z (.Assign [.Name x pt] (.ListComp elt gens scope pc) pos) (fun fr σ=>match run fr σ with
      | some (zs,σ')=>if zs.length ≤ sizeLine then some (.val .next,upd fr x (.lst zs),σ') else none
      | none=>none):=by
  intro c env fr S s out fr' σ' q hf hl hm
  dsimp only at hm
  split at hm
  rotate_left
  · exact nnS hm
  rename_i zs σ1 hr
  split at hm
  rotate_left
  · exact nnS hm
  rename_i hz
  cases hm
  rw [exec_Assign_arm,hst env q.scope]
  show TrF G c env S s (RF G c) (do
    PySem.standAt pos
    (do
      let _ ← comprehension (.ListComp elt gens scope pc) scope env (firstIterPos gens pc) (newList []) (firstAsync gens) (firstIter gens env) (some fun v=>assign (.Name x pt) env v)
      Pure.pure ())
    Pure.pure Flow.next) _ _ _
  refine TrF.standAt ?_
  intro Q E hq hxx
  refine wpAny_bind (wpAny_bind (h c env fr S s zs σ' q hr hz (some fun v=>assign (.Name x pt) env v) _ E fun D0 C its S' tk m' M hn=>?_))
  -- the store, C still apart
  have apC:Apart c [C]:=⟨fun a ha=>by rcases List.mem_singleton.mp ha with rfl; exact M.ap.off _ M.thereC⟩
  have sub:∀ a,a ∈ vol (c.addX [C]) S'→a ∈ vol (c.addX its) S':=fun a ha=>(vol_addX.mp ha).elim (fun z=>by rcases List.mem_singleton.mp z with rfl; exact vol_addX.mpr (.inl M.thereC)) fun z=>vol_addX.mpr (.inr z)
  have HC:Heaps G (c.addX [C]) S':=⟨M.H.ok,M.H.stays,M.H.frames,M.H.funs,M.H.fdict,fun L hL=>M.H.xs L (by
      rcases List.mem_append.mp hL with z | z
      · rcases List.mem_singleton.mp z with rfl; exact List.mem_append_left _ M.thereC
      · exact List.mem_append_right _ z),M.H.len,fun n p o h1 h2=>ORep.mono (fun _ _ _ e=>e) (.refl _) (.of_sub _ sub) (fun _ _ _ e=>e) (M.H.store n p o h1 h2),M.H.new,M.H.nodup⟩
  have VC:EnvOk G (c.addX [C]) env fr S':=q.V.addX q.H M.ext fun a ha=>by rcases List.mem_singleton.mp ha with rfl; exact M.new _ M.thereC
  have qC:Run G true n Z (c.addX [C]) env fr S' (ShT s S'.h tk):=⟨q.scope,q.room,q.units,q.hand,rfl,Subtype.property _,HC,VC⟩
  have rC:Rv G (c.addX [C]) S' (.ref D0) (.lst zs):=by
    (refine xAEEA M.acc fun _ nn vs ho hr=>?_)
    refine .lst ho rfl rfl (by have:=VRs.length hr; simp at this; omega) (fun hm=>?_) (VRs.mono (fun _ _ _ e=>e) (.refl _) (.of_sub _ sub) hr)
    rcases vol_addX.mp hm with z | z
    · rcases List.mem_singleton.mp z with e; exact M.ne e
    · exact M.off (h':=S'.h) z
  show wpAny _ _ (do PySem.standAt pt; bindName env x (.ref D0)) _ _ _
  refine wpAny_bind (wpAny_standAt (trBind qC hx rC _ _ (fun b hb u S2 tk2 e2 H2 x2 V2 _=>?_) fun _ _ ho=>by cases ho))
  have hCns:C ∉ S'.reg:=(HC.xs C (List.mem_append_left _ (.head _))).2.1
  have hCo : ¬ Own env C:=fun ho=>by
    rcases ho with z | ⟨y,z⟩
    · exact apC.off C (.head _) (z ▸ q.V.loc)
    · exact apC.off C (.head _) (List.mem_append_right _ (q.V.own y C z))
  (refine xEEEAA hn fun oC esC epC hoC hdC hrest=>?_; try clear hn)
  have hn2:S2.h.Ns C m':=by
    rcases x2.keep C oC hoC hCns hCo with z | ⟨hfz,_⟩
    · exact ⟨oC,esC,epC,z,hdC,hrest⟩
    · exact absurd (List.mem_append_left _ hfz) (apC.off C (.head _))
  refine ⟨m',hn2,fun h' hs=>wpAny_pure (wpAny_pure ?_)⟩
  have kk:∀ b o,b ∉ [C]→S2.h.get? b=some o→h'.get? b=some o:=fun b o hb e=>hs.extBut b o (fun z=>hb (z ▸ .head _)) e
  have xx:ExtS c env S S2:=(M.ext.s env).trans x2.ofX
  refine hq _ rfl .next { S2 with h:=h' } tk2 (e2.trans M.σ) (H2.endX apC kk) (xx.turnX (fun a ha=>by rcases List.mem_singleton.mp ha with rfl; exact M.new _ M.thereC) kk) ?_ trivial
  exact EnvOk.dropX q.V (EnvOk.turnX' apC q.V.loc q.V.own V2 kk)
end
end Mine
end
section
open PySem PySem.W PyProof.Rows
namespace Mine
section
variable {G:Amb} {c:Cx} {env:Env} {S:Gs} {s:Shared} {fr fr':Fr} {hn:Bool} {n:Nat} {Z:Scope}
/-- a list set apart, taken into the store -/
theorem Heaps.adopt {D0:Addr} {S':Gs} {zs:List D} (HH:Heaps G (c.addX [D0]) S') (hap:D0 ∉ c.fs ++ c.X) (acc:AccL G D0 (c.addX [D0]) S' zs) (hz:zs.length ≤ sizeLine) :
    Heaps G c ⟨S'.adr ++ [(D0,D0)],S'.σ ++ [.lst zs],S'.h⟩∧Rv G c ⟨S'.adr ++ [(D0,D0)],S'.σ ++ [.lst zs],S'.h⟩ (.ref D0) (.ref S'.σ.length):=by
  (refine xAEEA acc fun _ n vs ho hr=>?_; try clear acc)
  have H:=HH.dropX
  have hreg:reg (S'.adr ++ [(D0,D0)]) (S'.σ ++ [.lst zs])=S'.reg ++ [D0]:=reg_append H.len
  have hnr:D0 ∉ S'.reg:=(HH.xs D0 (List.mem_append_left _ (.head _))).2.1
  have hbase:=(HH.xs D0 (List.mem_append_left _ (.head _))).2.2
  have mem:∀ a,a ∈ (⟨S'.adr ++ [(D0,D0)],S'.σ ++ [.lst zs],S'.h⟩:Gs).reg→a ∈ S'.reg∨a=D0:=fun a ha=>by
    have ha':a ∈ reg (S'.adr ++ [(D0,D0)]) (S'.σ ++ [.lst zs]):=ha
    rw [hreg] at ha'
    rcases List.mem_append.mp ha' with q | q
    · exact .inl q
    · exact .inr (List.mem_singleton.mp q)
  have volsub:∀ a,a ∈ vol c ⟨S'.adr ++ [(D0,D0)],S'.σ ++ [.lst zs],S'.h⟩→a ∈ vol (c.addX [D0]) S':=fun a ha=>by
    rcases List.mem_append.mp ha with q | q
    · rcases mem a q with z | z
      · exact List.mem_append_left _ z
      · exact vol_addX.mpr (.inl (z ▸ .head _))
    · exact vol_addX.mpr (.inr (List.mem_append_right _ q))
  have kk:Pres (vol (c.addX [D0]) S') S'.h S'.h:=fun a o _ e=>e
  have hsz:vs.size ≤ sizeLine:=by have:=VRs.length hr; simp at this; omega
  have hlen:S'.adr.length=S'.σ.length:=H.len
  refine ⟨⟨H.ok,H.stays,H.frames,H.funs,fun L hL=>?_,fun L hL=>?_,?_,fun j q u h1 h2=>?_,fun a ha=>?_,?_⟩,.ref (p:=(D0,D0)) ?_⟩
  · (refine xA (H.fdict L hL) fun h1 h2=>?_)
    exact ⟨h1,fun q=>(mem L q).elim h2 fun z=>hap (List.mem_append_left _ (z ▸ hL))⟩
  · (refine xAA (H.xs L hL) fun h1 h2 h3=>?_)
    exact ⟨h1,fun q=>(mem L q).elim h2 fun z=>hap (List.mem_append_right _ (z ▸ hL)),h3⟩
  · show (S'.adr ++ _).length=(S'.σ ++ _).length
    simp at hlen ⊢; exact hlen
  · have h1':(S'.adr ++ [(D0,D0)])[j]? = some q:=h1
    have h2':(S'.σ ++ [.lst zs])[j]? = some u:=h2
    by_cases e:j < S'.adr.length
    · rw [List.getElem?_append_left e] at h1'
      rw [List.getElem?_append_left (by rw [← hlen]; exact e)] at h2'
      exact ORep.mono kk (.snoc _ _) (.of_sub _ volsub) (fun a ha o e'=>e') (HH.store j q u h1' h2')
    · have hj:j=S'.adr.length:=by
        have:=(List.getElem?_eq_some_iff.mp h1').1
        simp at this; omega
      subst hj
      rw [List.getElem?_append_right (Nat.le_refl _),Nat.sub_self] at h1'
      rw [hlen,List.getElem?_append_right (Nat.le_refl _),Nat.sub_self] at h2'
      (have k1:=s1E h1'; clear h1'; subst k1); (have k1:=s1E h2'; clear h2'; subst k1)
      exact ⟨n,vs,ho,hsz,VRs.mono kk (.snoc _ _) (.of_sub _ volsub) hr⟩
  · rcases mem a ha with q | q
    · exact H.new a q
    · rw [q]; exact hbase
  · show (reg (S'.adr ++ [(D0,D0)]) (S'.σ ++ [.lst zs])).Nodup
    rw [hreg]
    exact List.nodup_append.mpr ⟨H.nodup,List.nodup_cons.mpr ⟨List.not_mem_nil,.nil⟩,fun a ha b hb e=>by
      rcases List.mem_singleton.mp hb with rfl
      exact hnr (e ▸ ha)⟩
  · show (S'.adr ++ [(D0,D0)])[S'.σ.length]? = _
    rw [← hlen,List.getElem?_append_right (Nat.le_refl _),Nat.sub_self]; rfl
theorem CompMid.sub {β:Type} {Acc:Cx→Gs→List β→Prop} {zs:List β} {σ':List AO} {D0 C:Addr} {its as:List Addr} {S':Gs} (M:CompMid G c S Acc zs σ' D0 C its S') (hs:∀ a ∈ as,a ∈ its):Heaps G (c.addX as) S' :=
  ⟨M.H.ok,M.H.stays,M.H.frames,M.H.funs,M.H.fdict,fun L hL=>M.H.xs L (by
      rcases List.mem_append.mp hL with z | z
      · exact List.mem_append_left _ (hs L z)
      · exact List.mem_append_right _ z),M.H.len,fun n p o h1 h2=>ORep.mono (fun _ _ _ e=>e) (.refl _) (.of_sub _ fun a ha=>(vol_addX.mp ha).elim (fun z=>vol_addX.mpr (.inl (hs a z))) fun z=>vol_addX.mpr (.inr z)) (fun _ _ _ e=>e) (M.H.store n p o h1 h2),M.H.new,M.H.nodup⟩
/-- behind the loop of a comprehension, its value stored by its use -/
theorem trUse {x:PySem.Str} {pt:Pos} (q:Run G true n Z c env fr S s) (hx:NameK Z x) {β:Type} {Acc:Cx→Gs→List β→Prop} {zs:List β} {σ' σ2:List AO} {D0 C:Addr} {its:List Addr} {S' S2:Gs} {m':PySem.Str→Option Value} {tk:Tk G.lo} {d:D} (M:CompMid G c S Acc zs σ' D0 C its S')
    (hn:S'.h.Ns C m') (h2:S2.h=S'.h) (H2:Heaps G (c.addX [C]) S2) (x2:Ext c S S2) (rC:Rv G (c.addX [C]) S2 (.ref D0) d) (hσ:S2.σ=σ2) {Q:Unit→Shared→Prop} {E:Value→Shared→Prop}
    (hq:∀ (S3:Gs) (tk:Tk G.lo),S3.σ=σ2→Heaps G c S3→ExtS c env S S3→EnvOk G c env (upd fr x d) S3→Q () (ShT s S3.h tk)) :
    wpAny G.M c.A (assign (.Name x pt) env (.ref D0)) (fun _ s''=>∃ m,s''.heap.Ns C m∧∀ h',Heap.SameBut C s''.heap h'→Q () { s'' with heap:=h' }) E (ShT s S'.h tk):=by
  have apC:Apart c [C]:=⟨fun a ha=>by rcases List.mem_singleton.mp ha with rfl; exact M.ap.off _ M.thereC⟩
  have VC:EnvOk G (c.addX [C]) env fr S2:=q.V.addX q.H x2 fun a ha=>by rcases List.mem_singleton.mp ha with rfl; exact M.new _ M.thereC
  rw [← h2] at hn ⊢
  have qC:Run G true n Z (c.addX [C]) env fr S2 (ShT s S2.h tk):=⟨q.scope,q.room,q.units,q.hand,rfl,Subtype.property _,H2,VC⟩
  show wpAny _ _ (do PySem.standAt pt; bindName env x (.ref D0)) _ _ _
  refine wpAny_bind (wpAny_standAt (trBind qC hx rC _ _ (fun b hb u S3 tk3 e3 H3 x3 V3 _=>?_) fun _ _ ho=>by exact nVE ho))
  have hCns:C ∉ S2.reg:=(H2.xs C (List.mem_append_left _ (.head _))).2.1
  have hCo : ¬ Own env C:=fun ho=>by
    rcases ho with z | ⟨y,z⟩
    · exact apC.off C (.head _) (z ▸ q.V.loc)
    · exact apC.off C (.head _) (List.mem_append_right _ (q.V.own y C z))
  (refine xEEEAA hn fun oC esC epC hoC hdC hrest=>?_; try clear hn)
  have hn2:S3.h.Ns C m':=by
    rcases x3.keep C oC hoC hCns hCo with z | ⟨hfz,_⟩
    · exact ⟨oC,esC,epC,z,hdC,hrest⟩
    · exact absurd (List.mem_append_left _ hfz) (apC.off C (.head _))
  refine ⟨m',hn2,fun h' hs=>?_⟩
  have kk:∀ b o,b ∉ [C]→S3.h.get? b=some o→h'.get? b=some o:=fun b o hb e=>hs.extBut b o (fun z=>hb (z ▸ .head _)) e
  have xx:ExtS c env S S3:=(x2.s env).trans x3.ofX
  exact hq { S3 with h:=h' } tk3 (e3.trans hσ) (H3.endX apC kk) (xx.turnX (fun a ha=>by rcases List.mem_singleton.mp ha with rfl; exact M.new _ M.thereC) kk) (EnvOk.dropX q.V (EnvOk.turnX' apC q.V.loc q.V.own V3 kk))
theorem Ex.asgnR {elt:Expr} {gens:List Comprehension} {scope:Scope} {pc pos pt:Pos} {x:PySem.Str} {run:Fr→List AO→Option (List D × List AO)} (h:CompL G n Z (.ListComp elt gens scope pc) run) (hx:NameK Z x)
    (hst:∀ env,env.scope=Z→swapsWithSole [.Name x pt] (.ListComp elt gens scope pc) pos.line env=Pure.pure true) :
    Ex G true n Z (.Assign [.Name x pt] (.ListComp elt gens scope pc) pos) (fun fr σ=>match run fr σ with
      | some (zs,σ')=>if zs.length ≤ sizeLine then some (.val .next,upd fr x (.ref σ'.length),σ' ++ [.lst zs]) else none
      | none=>none):=by
  intro c env fr S s out fr' σ' q hf hl hm
  dsimp only at hm
  split at hm
  rotate_left
  · exact nnS hm
  rename_i zs σ1 hr
  split at hm
  rotate_left
  · exact nnS hm
  rename_i hz
  refine TrF.cast hm ?_
  rw [exec_Assign_arm,hst env q.scope]
  show TrF G c env S s (RF G c) (do
    PySem.standAt pos
    (do
      let _ ← comprehension (.ListComp elt gens scope pc) scope env (firstIterPos gens pc) (newList []) (firstAsync gens) (firstIter gens env) (some fun v=>assign (.Name x pt) env v)
      Pure.pure ())
    Pure.pure Flow.next) _ _ _
  refine TrF.standAt ?_
  intro Q E hq hxx
  refine wpAny_bind (wpAny_bind (h c env fr S s zs _ q hr hz (some fun v=>assign (.Name x pt) env v) _ E fun D0 C its S' tk m' M hn=>?_))
  have hσ:=M.σ
  have HD:Heaps G ((c.addX [C]).addX [D0]) S':=M.sub (as:=[D0,C]) fun a ha=>by
    rcases List.mem_cons.mp ha with rfl | ha
    · exact M.there
    · rcases List.mem_singleton.mp ha with rfl; exact M.thereC
  have hap:D0 ∉ (c.addX [C]).fs ++ (c.addX [C]).X:=fun hm=>by
    rcases List.mem_append.mp hm with z | z
    · exact M.ap.off D0 M.there (List.mem_append_left _ z)
    · rcases List.mem_append.mp z with z | z
      · exact M.ne (List.mem_singleton.mp z)
      · exact M.ap.off D0 M.there (List.mem_append_right _ z)
  have acc:AccL G D0 ((c.addX [C]).addX [D0]) S' zs:=by
    (refine xAEEA M.acc fun hf nn vs h1 h2=>?_)
    refine ⟨hf,nn,vs,h1,VRs.mono (fun _ _ _ e=>e) (.refl _) (.of_sub _ fun a ha=>?_) h2⟩
    rcases vol_addX.mp ha with z | z
    · rcases List.mem_singleton.mp z with rfl; exact vol_addX.mpr (.inl M.there)
    · rcases vol_addX.mp z with z | z
      · rcases List.mem_singleton.mp z with rfl; exact vol_addX.mpr (.inl M.thereC)
      · exact vol_addX.mpr (.inr z)
  (refine xA (HD.adopt hap acc hz) fun H2 r2=>?_)
  have hM:∀ a,a ∈ (⟨S'.adr ++ [(D0,D0)],S'.σ ++ [.lst zs],S'.h⟩:Gs).reg→a ∈ S'.reg∨a=D0:=fun a ha=>by
    have ha':a ∈ reg (S'.adr ++ [(D0,D0)]) (S'.σ ++ [.lst zs]):=ha
    rw [show reg (S'.adr ++ [(D0,D0)]) (S'.σ ++ [.lst zs])=S'.reg ++ [D0] from reg_append M.H.len] at ha'
    rcases List.mem_append.mp ha' with q | q
    · exact .inl q
    · exact .inr (List.mem_singleton.mp q)
  have x2:Ext c S ⟨S'.adr ++ [(D0,D0)],S'.σ ++ [.lst zs],S'.h⟩:=⟨M.ext.adr.trans (.snoc _ _),M.ext.keep,fun a ha=>by
    rcases hM a ha with z | z
    · exact M.ext.fresh a z
    · rw [z]; exact .inr (M.new D0 M.there),M.ext.live⟩
  refine trUse (Q:=fun u s''=>wpAny G.M c.A (Pure.pure ()) (fun _ s'=>wpAny G.M c.A (Pure.pure Flow.next) Q E s') E s'') (S2:=⟨S'.adr ++ [(D0,D0)],S'.σ ++ [.lst zs],S'.h⟩) q hx M hn rfl H2 x2 r2 rfl fun S3 tk3 e3 H3 x3 V3=>?_
  rw [hσ] at V3
  refine wpAny_pure (wpAny_pure (hq _ rfl .next S3 tk3 (by rw [e3]; show S'.σ ++ _=_; rw [hσ]) H3 x3 V3 trivial))
end
section
variable {G:Amb} {n:Nat} {Z:Scope} {val target iter key:Expr} {ifs:List Expr} {scope:Scope} {pos:Pos} {W:List PySem.Str} {m:Mo D} {tgt:D→Fr→Fr} {ok:D→Bool} {test:Mo Bool} {mk mv:Mo D}
open Classical in
open Classical in
end
end Mine
end
section
open PySem PySem.W PyProof.Rows
namespace Mine
noncomputable def dele (fr:Fr) (x:PySem.Str):Fr:=fun y=>if y=x then none else fr y
section
variable {G:Amb} {c:Cx} {S:Gs} {s:Shared} {env:Env} {fr:Fr} {n:Nat} {Z:Scope}
/-- the heap behind a caught exception -/
theorem Heaps.caught (H:Heaps G c S) {h5:Heap} (k:(hideAll S.h c.fs).StaysIn h5) (sl:S.h.UpToSlots h5):Heaps G c { S with h:=h5 }∧Ext c S { S with h:=h5 }:=by
  have off:∀ b o,b ∉ c.fs→S.h.get? b=some o→h5.get? b=some o:=fun b o hb e=>k b o (hideAll_get _ e hb)
  have onf:∀ b o,b ∈ c.fs→S.h.get? b=some o→∃ sl,h5.get? b=some { o with slots:=sl }:=fun b o hb e=>by
    (refine xA (H.fdict b hb) fun q0z _=>?_; refine xEEEA q0z fun o' es m e' hd=>?_)
    rw [e] at e'; (have k1:=s1E e'; clear e'; subst k1)
    exact sl b o e fun vs q=>by rw [hd] at q; exact nAny PySem.Data.ctorIdx q rfl
  have x:Ext c S { S with h:=h5 }:=⟨.refl _,fun b o e _=>by
    by_cases hb:b ∈ c.fs
    · exact .inr ⟨hb,onf b o hb e⟩
    · exact .inl (off b o hb e),fun _ h=>.inl h,fun b o e=>by
    by_cases hb:b ∈ c.fs
    · (refine xE (onf b o hb e) fun sl h=>?_); exact ⟨_,h⟩
    · exact ⟨o,off b o hb e⟩⟩
  refine ⟨⟨H.ok,fun b o e=>off b o (fun hb=>by rw [(H.funs.mem hb).1] at e; exact nnS e) (H.stays b o e),H.frames,?_,fun L hL=>?_,fun L hL=>?_,H.len,fun j p o h1 h2=>?_,H.new,H.nodup⟩,x⟩
  · refine funFrames_of H.funs fun L hL o e hd=>?_
    (refine xE (onf L o hL e) fun sl h=>?_)
    exact ⟨_,h,hd⟩
  · (refine xA (H.fdict L hL) fun q0z r=>?_; refine xEEEA q0z fun o es m e hd=>?_)
    (refine xE (onf L o hL e) fun sl h=>?_)
    exact ⟨⟨_,es,m,h,hd⟩,r⟩
  · (refine xA (H.xs L hL) fun q0z r=>?_; refine xE q0z fun o e=>?_)
    (refine xE (x.live L o e) fun o' e'=>?_)
    exact ⟨⟨o',e'⟩,r⟩
  · exact ORep.mono x.pres x.adr x.volLe (fun a ha o e=>off a o (fun hf=>(H.fdict a hf).2 (reg_mem h1 h2 a ha)) e) (H.store j p o h1 h2)
theorem nameBlt {x:PySem.Str} {pos:Pos} {v:Value} (H:Heaps G c S) (V:EnvOk G c env fr S) (hs:s.heap=S.h) {A:Around} (hk:env.kindOf x=some .globalImplicit) (e:nsIn G.K mainGlobals x=some none) (hv:bootBuiltins x=some v) (hnm:x ≠ "__name__") (hd:(x == ("__debug__" : PySem.Str))=false)
    {Q:Value→Shared→Prop} {E:Value→Shared→Prop} (hq:Q v s):wpAny G.M A (eval (.Name x pos) env) Q E s:=by
  refine Calls.Name_function_global V.kind hk (Calls.loadGlobal_builtin (mg:=G.mg) (mb:=G.mb) (v:=v) ?_ (mg_none_of H.ok.inK H.ok.g e) ?_ ((H.ok.builtins x hnm).trans hv) hq) hd
  · rw [V.glob,hs]; exact H.ok.g.keeps H.stays
  · rw [V.blt,hs]; exact H.ok.b.keeps H.stays
noncomputable def subE (X T:String):Option Bool:=if X = "ValueError" ∨ X = "AssertionError" ∨ X = "TypeError" then (if T = "ValueError" ∨ T = "AssertionError" ∨ T = "TypeError" then some (decide (X=T)) else none) else none
theorem subE_ok {X T:String} {b:Bool} (h:subE X T=some b):isSubtype (.type X) (.type T)=pure b:=by
  unfold subE at h
  split at h
  · rename_i hX
    split at h
    · rename_i hT
      (have k1:=s1E h; clear h; subst k1)
      rcases hX with rfl | rfl | rfl <;> rcases hT with rfl | rfl | rfl <;> (rw [isSubtype_type]; kernel_rfl)
    · exact nnS h
  · exact nnS h
theorem excE_ok {T:String} (hT:T = "ValueError" ∨ T = "AssertionError" ∨ T = "TypeError"):isSubtype (.type T) (.type "BaseException")=pure true∧isSubtype (.type ((Manifest.find? T).elim "type" fun x=>x.metatype)) (.type "tuple")=pure false:=by
  rcases hT with rfl | rfl | rfl
  · exact ⟨PySem.F.isExc_ValueError,PySem.F.notTuple_ValueError⟩
  · exact ⟨PySem.F.isExc_AssertionError,PySem.F.notTuple_AssertionError⟩
  · exact ⟨PySem.F.isExc_TypeError,PySem.F.notTuple_TypeError⟩
theorem subE_T {X T:String} {b:Bool} (h:subE X T=some b):T = "ValueError" ∨ T = "AssertionError" ∨ T = "TypeError" := by
  unfold subE at h
  split at h
  · split at h
    · assumption
    · exact nnS h
  · exact nnS h
structure Hdl where
  T:String
  n:PySem.Str
  m:Mf SF
structure HdlOk (G:Amb) (n:Nat) (Z:Scope) (x:PySem.Str) (suite:List Stmt) (d:Hdl):Prop where
  kind:Z.names.lookup x=some .globalImplicit
  glo:nsIn G.K mainGlobals x=some none
  blt:bootBuiltins x=some (.type d.T)
  nn:x ≠ "__name__"
  dbg:(x == ("__debug__" : PySem.Str))=false
  loc:Z.names.lookup d.n=some .local
  suite:Exs G false n Z suite d.m
noncomputable def HdlsOk (G:Amb) (n:Nat) (Z:Scope):List ExceptHandler→List Hdl→Prop
  | [],[]=>True
  | h :: hs,d :: ds=>(∃ x np b₀ suite pos,h = .ExceptHandler (some (.Name x np)) (some d.n) (b₀ :: suite) pos∧HdlOk G n Z x (b₀ :: suite) d)∧HdlsOk G n Z hs ds
  | _,_=>False
noncomputable def Mf.catch:List Hdl→String→PySem.Str→Mf SF
  | [],_,_=>fun _ _=>none
  | h :: r,X,msg=>match subE X h.T with
    | some true=>fun fr σ=>match h.m (upd fr h.n (.exc X msg)) σ with
      | some (.val f,fr',σ')=>some (.val f,dele fr' h.n,σ')
      | _=>none
    | some false=>Mf.catch r X msg
    | none=>fun _ _=>none
noncomputable def Mf.try (body:Mf SF) (hs:List Hdl):Mf SF:=fun fr σ=>match body fr σ with
  | some (.exc X msg,fr',σ')=>Mf.catch hs X msg fr' σ'
  | r=>r
theorem trUnbind {A:Around} (H:Heaps G c S) (V:EnvOk G c env fr S) (hs:s.heap=S.h) {x:PySem.Str} {p:Pos} (hk:env.kindOf x=some .local) {d:D} (hb:fr x=some d) {Q:Unit→Shared→Prop} {E:Value→Shared→Prop}
    (hq:∀ (S':Gs),S'.σ=S.σ→Heaps G c S'→ExtS c env S S'→EnvOk G c env (dele fr x) S'→Q () { s with heap:=S'.h }):wpAny G.M A (unbindBehindTheSuite env x p) Q E s:=by
  (refine xEA V.vars fun m hm hval=>?_)
  (refine xEA (hval x d hb hk) fun w hw _=>?_)
  have hp:(env.scope.kind == .class || (env.scope.kind == .module && env.locals != env.globals))=false:=by rw [V.kind]; rfl
  unfold unbindBehindTheSuite
  refine wpAny_onRaise (wpAny_unbindName_local hk (by rw [hs]; exact hm) hw hp fun h' u hm' hs'=>?_)
  rw [hs] at hs'
  (refine xA (H.atLocals V.loc hs' hm') fun H' xx=>?_)
  refine hq { S with h:=h' } rfl H' xx ⟨V.kind,V.glob,V.blt,V.frame,V.loc,⟨_,hm',fun y dy hy hky=>?_⟩,fun y hy=>?_,V.own,V.apart⟩
  · unfold dele at hy
    split at hy
    · exact nnS hy
    · rename_i hne
      (refine xEA (hval y dy hy hky) fun w' hw' r=>?_)
      exact ⟨w',by rw [if_neg hne]; exact hw',r.extS xx V.ownIn⟩
  · (refine xEEAA (V.cell y hy) fun k v0 hl hc hd=>?_)
    have hne:k ≠ env.locals:=fun q=>by
      (refine xEA hc fun o ho hdo=>?_; try clear hc)
      (refine xEEEAA hm fun o2 _ _ ho2 hdo2 _=>?_; try clear hm)
      rw [q,ho2] at ho; (have k1:=s1E ho; clear ho; subst k1); rw [hdo2] at hdo; exact nAny PySem.Data.ctorIdx hdo rfl
    refine ⟨k,v0,hl,hc.sameBut hs' hne,fun dy hy'=>?_⟩
    unfold dele at hy'
    split at hy'
    · exact nnS hy'
    · (refine xEA (hd dy hy') fun w' hw' r=>?_)
      exact ⟨w',hw',r.extS xx V.ownIn⟩
theorem trHandle {L:Addr} (hf:c.fenv=env) (hlc:env.frame=some env.locals) (scope:env.scope=Z) (room:c.A.depth + 3 * n < recursionLimit) (units:c.A.units + 30 * n < cLine) (H:Heaps G c S) (V:EnvOk G c env fr S) {e t:Addr} {X:String} {msg:PySem.Str} {tk:Tok}
    (he:S.h.get? e=none) (ht:S.h.get? t=none):∀ {hs:List ExceptHandler} {ds:List Hdl},HdlsOk G n Z hs ds→∀ {s:Shared},G.lo ≤ s.toks→Heap.FlyingW (hideAll S.h c.fs) c.stack e (.type X) (.ref t) s.heap→s.heap.TupAt t [.str msg tk]→S.h.UpToSlots s.heap →
      ∀ {out fr' σ'},Mf.catch ds X msg fr S.σ=some (out,fr',σ')→∀ {Q:Flow→Shared→Prop} {E:Value→Shared→Prop},
        (∀ b,out = .val b→∀ a (S':Gs) (tk:Tk G.lo),S'.σ=σ'→Heaps G c S'→ExtS c env S S'→EnvOk G c env fr' S'→RF G c S' a b→Q a (ShT s S'.h tk))→wpAny G.M c.A (handleBy (.ref e) env hs) Q E s
  | [],[],_,_,_,_,_,_,_,_,_,hm,_,_,_=>by exact nnS hm
  | [],_ :: _,h,_,_,_,_,_,_,_,_,_,_,_,_=>h.elim
  | _ :: _,[],h,_,_,_,_,_,_,_,_,_,_,_,_=>h.elim
  | h₁ :: hs,d :: ds,h,s,htk,fl,tup,sl,out,fr',σ',hm,Q,E,hq=>by
    (refine xA h fun q0z hrest=>?_; try clear h; refine xEE q0z fun x np w17z=>?_; refine xEEEA w17z fun b₀ suite pos q1z ok=>?_; subst q1z)
    unfold Mf.catch at hm
    cases hsub:subE X d.T with
    | none=>rw [hsub] at hm; exact nnS hm
    | some b =>
      rw [hsub] at hm
      (refine xA (excE_ok (subE_T hsub)) fun hexc hnt=>?_)
      (refine xA (H.caught (h5:=s.heap) fl.1 sl) fun H5 x5=>?_)
      have V5:=x5.env H V
      (refine xEA fl.there fun ob hob hobc=>?_)
      refine wpAny_handleBy_builtin_as (X:=X) (T:=d.T) (b:=b) hexc hnt (subE_ok hsub) ?_
      refine nameBlt (S:={ S with h:=s.heap }) H5 V5 rfl ((kindOf_scope scope).trans ok.kind) ok.glo ok.blt ok.nn ok.dbg ⟨rfl,⟨ob,hob,hobc⟩,?_⟩
      cases b with
      | false =>
        rw [if_neg (by decide)]
        exact trHandle (L:=L) hf hlc scope room units H V he ht hrest htk fl tup sl hm hq
      | true =>
        rw [if_pos rfl]
        dsimp only at hm
        split at hm
        rotate_left
        · exact nnS hm
        rename_i f frs σs hmm
        (have k1:=s3A hm; have k2:=s3B hm; have k3:=s3C hm; clear hm; subst k1 k2 k3)
        refine lands_againW fl fun h6 fl6 sl6=>?_
        (refine xA (H.caught (h5:=h6) fl6.1 (sl.trans sl6)) fun H6 x6=>?_)
        have V6:=x6.env H V
        (refine xEEAAA fl6.first fun oe ws hoe hoec hoed hoe0=>?_)
        have tup6:=tup.of_slots sl6
        have nin:∀ a,S.h.get? a=none→a ∉ vol c { S with h:=h6 }:=fun a ha hm=>by
          (refine xE (H.vol_some (show a ∈ vol c S from hm)) fun o ho=>?_)
          rw [ha] at ho; exact nnS ho
        have rv:Rv G c { S with h:=h6 } (.ref e) (.exc X msg):=.exc hoe hoec hoed hoe0 tup6 (nin e he) (nin t ht)
        have hk':env.kindOf d.n=some .local:=(kindOf_scope scope).trans ok.loc
        -- the name bound
        (refine xEA V6.vars fun m hmN hval=>?_)
        have hp:(env.scope.kind == .class || (env.scope.kind == .module && env.locals != env.globals))=false:=by rw [V6.kind]; rfl
        refine wpAny_storeName_local hk' hmN (fun h7 hm7 hs7=>?_) hp
        have hs7':Heap.SameBut env.locals h6 h7:=hs7
        (refine xA (H6.atLocals (env:=env) V6.loc hs7' hm7) fun H7 x7=>?_)
        have V7:=V6.setLocal H6 hk' rv hmN hval hs7' hm7
        have HM:Heaps G { c with A:=c.A.mark (some (.ref e)) } { S with h:=h7 }:=H7.setA rfl
        have VM:EnvOk G { c with A:=c.A.mark (some (.ref e)) } env (upd fr d.n (.exc X msg)) { S with h:=h7 }:=⟨V7.kind,V7.glob,V7.blt,V7.frame,V7.loc,V7.vars,V7.cell,V7.own,V7.apart⟩
        have qM:Run G false n Z { c with A:=c.A.mark (some (.ref e)) } env (upd fr d.n (.exc X msg)) { S with h:=h7 } (ShT s h7 ⟨s.toks + 1,Nat.le_succ_of_le htk⟩):=⟨scope,room,units,(fun h=>by exact nFT h),rfl,Nat.le_succ_of_le htk,HM,VM⟩
        refine ok.suite { c with A:=c.A.mark (some (.ref e)) } env _ _ _ _ _ _ qM hf hlc hmm _ _ (fun b hb a S8 tk8 e8 H8 x8 V8 r8=>?_) fun _ _ ho=>by exact nVE ho
        (have k1:=valE hb; clear hb; subst k1)
        have H8':Heaps G c S8:=H8.setA rfl
        have V8':EnvOk G c env frs S8:=⟨V8.kind,V8.glob,V8.blt,V8.frame,V8.loc,V8.vars,V8.cell,V8.own,V8.apart⟩
        have x8':ExtS c env { S with h:=h7 } S8:=⟨x8.adr,x8.keep,x8.fresh,x8.live⟩
        have q8:Run G false n Z c env frs S8 (ShT s S8.h tk8):=⟨scope,room,units,(fun h=>by exact nFT h),rfl,tk8.2,H8',V8'⟩
        refine wpAny_bind (trStoreLocal q8 ok.loc (.none) _ _ (fun _ _ u S9 tk9 e9 H9 x9 V9 _=>?_) fun _ _ ho=>by exact nVE ho)
        refine trUnbind (s:=(ShT s S9.h tk9)) H9 V9 rfl hk' (d:=.none) upd_self fun S10 e10 H10 x10 V10=>?_
        have e1:dele (upd frs d.n .none) d.n=dele frs d.n:=by
          funext y
          unfold dele upd
          by_cases hy:y=d.n <;> simp [hy]
        rw [e1] at V10
        have xx:ExtS c env S8 S10:=x9.trans x10
        have rf:RF G c S10 a f:=by
          have r8':RF G c S8 a f:=r8
          cases a with
          | ret v=>cases f with
            | ret dd=>exact Rv.extS r8' xx V8'.ownIn
            | _=>exact r8'.elim
          | next=>cases f <;> exact r8'
          | brk=>cases f <;> exact r8'
          | cont=>cases f <;> exact r8'
        exact hq _ rfl a S10 tk9 ((e10.trans e9).trans e8) H10 ((((x6.s env).trans x7).trans x8').trans xx) V10 rf
theorem Ex.try {body:List Stmt} {h₀:ExceptHandler} {hs:List ExceptHandler} {pos:Pos} {m:Mf SF} {ds:List Hdl} (hb:Exs G true n Z body m) (hh:HdlsOk G n Z (h₀ :: hs) ds):Ex G true n Z (.Try body (h₀ :: hs) [] [] pos) (Mf.try m ds):=by
  intro c env fr S s out fr' σ' q hf hl hm
  show TrF G c env S s (RF G c) (do PySem.standAt pos; tryStmt false (execs body env) (h₀ :: hs) (execs [] env) [] env) out fr' σ'
  refine TrF.standAt ?_
  intro Q E hq hx
  refine wpAny_tryStmt_except ?_
  unfold Mf.try at hm
  cases hmm:m fr S.σ with
  | none=>rw [hmm] at hm; exact nnS hm
  | some p =>
    obtain ⟨o,fr1,σ1⟩:=p
    rw [hmm] at hm
    cases o with
    | val f =>
      (have k1:=s3A hm; have k2:=s3B hm; have k3:=s3C hm; clear hm; subst k1 k2 k3)
      refine hb c env fr S s _ _ _ q hf hl hmm _ _ (fun b hb' a S' tk e' H' x' V' r'=>?_) fun _ _ ho=>by exact nVE ho
      (have k1:=valE hb'; clear hb'; subst k1)
      have fin:=hq f rfl a S' tk e' H' x' V' r'
      cases a with
      | next=>exact wpAny_execs_nil fin
      | _=>exact fin
    | exc X msg =>
      dsimp only at hm
      refine hb c env fr S s _ _ _ q hf hl hmm _ _ (fun b hb'=>by exact nEV hb') fun X' msg' ho S' e h' tk e' H' x' V' th=>?_
      (have k1:=excA ho; have k2:=excB ho; clear ho; subst k1 k2)
      refine trNote (s:=(ShT s h' tk)) H' hf hl th fun h4 th4=>?_
      (refine xEEAAA th4 fun t tk' k3 k4 k5 w18z=>?_; refine xA w18z fun k6 w19z=>?_; refine xEA w19z fun L hL hd=>?_; try clear th4)
      refine wpAny_landsW (s:=(ShT s h4 tk)) hd fun h5 fl sl5=>?_
      refine trHandle (L:=L) (s:=(ShT s h5 tk)) hf hl q.scope q.room q.units H' V' k5 k4 hh tk.2 fl (k3.of_slots sl5) (k6.trans sl5) (by rw [e']; exact hm) fun b hb' a S'' tk'' e'' H'' x'' V'' r''=>?_
      exact hq b hb' a S'' tk'' e'' H'' (x'.trans x'') V'' r''
end
end Mine
end
section
open PySem PySem.W PyProof.Rows
namespace Mine
section
variable {G:Amb} {n:Nat} {Z:Scope}
theorem Ex.raise {X newId initId:String} (F:ExcCallFacts X newId initId) (FR:ExcRaiseFacts X) {x:PySem.Str} {np cpos pos:Pos} {a:Expr} {m:Mo D} (hk:Z.names.lookup x=some .globalImplicit) (e:nsIn G.K mainGlobals x=some none) (hv:bootBuiltins x=some (.type X)) (hnm:x ≠ "__name__")
    (hd:(x == ("__debug__" : PySem.Str))=false) (h:Ev G true n Z a m) (hs:notStar a=true):Ex G true n Z (.Raise (some (.Call (.Name x np) [a] [] cpos)) none pos) (Mf.bind (Mf.lift m) fun d fr σ=>match d with
      | .str msg=>some (.exc X msg,fr,σ)
      | _=>none):=by
  intro c env fr S s out fr' σ' q hf hl hm
  intro Q E hq hx
  have hk':=(kindOf_scope q.scope).trans hk
  have hst:=star_all (pos:=cpos) (env:=env) (es:=[a]) (by show (notStar a && true)=true; rw [hs]; rfl)
  refine wpAny_Raise_call F FR (q.hand rfl) hst (nameBlt q.H q.V q.heap hk' e hv hnm hd ⟨rfl,?_⟩)
  have es:starEach [a] env=[(false,eval a env)]:=starEach_cons hs
  rw [es]
  refine Calls.evalArgs_plain (Calls.spliced_cons ?_)
  rcases bindLift hm with ⟨d,σ1,h1,h2⟩ | ⟨X',msg,σ1,h1,e'⟩
  · refine h c env fr S s _ _ q h1 _ _ (fun b hb v S1 tk e1 H1 x1 r1=>?_) fun _ _ ho=>by exact nVE ho
    (have k1:=valE hb; clear hb; subst k1)
    refine Calls.spliced_nil ⟨rfl,by show 1 ≤ sizeLine; decide,fun h' ex hex=>?_⟩
    split at h2
    rotate_left
    · exact nnS h2
    rename_i msg
    (have k1:=s3A h2; have k2:=s3B h2; have k3:=s3C h2; clear h2; subst k1 k2 k3)
    refine xEA (VR.i_str r1) fun _ ev _=>?_
    subst ev
    exact hx X msg rfl S1 ex h' tk e1 H1 (x1.s env) (x1.env q.H q.V) (.inl ⟨_,Heap.MadeExc.of hex⟩)
  · cases e'
    refine h c env fr S s _ _ q h1 _ _ (fun b hb=>by exact nEV hb) fun X2 msg2 ho S1 ex h' tk e1 H1 x1 th=>?_
    (have k1:=excA ho; have k2:=excB ho; clear ho; subst k1 k2)
    exact hx X' msg rfl S1 ex h' tk e1 H1 (x1.s env) (x1.env q.H q.V) th
end
end Mine
end
section
open PySem PySem.W PyProof.Rows
namespace Mine
mutual
noncomputable def pyD (look:Nat→Option PyData):D→Option PyData
  | .none=>some .none
  | .bool b=>some (.bool b)
  | .int i=>some (.int i)
  | .str x=>some (.str x)
  | .tup ds=>(pyDs look ds).map .tuple
  | .lst ds=>(pyDs look ds).map .list
  | .ref n=>look n
  | _=>none
noncomputable def pyDs (look:Nat→Option PyData):List D→Option (List PyData)
  | []=>some []
  | d :: ds=>(pyD look d).bind fun x=>(pyDs look ds).map fun xs=>x :: xs
end
noncomputable def look0:Nat→Option PyData:=fun _=>none
noncomputable def look1 (σ:List AO) (n:Nat):Option PyData:=match σ[n]? with
  | some (.lst ds)=>(pyDs look0 ds).map .list
  | _=>none
noncomputable def look2 (σ:List AO) (n:Nat):Option PyData:=match σ[n]? with
  | some (.lst ds)=>(pyDs (look1 σ) ds).map .list
  | _=>none
section
variable {P:Params} {adr:Adr} {V:List Addr} {h:Heap} {look:Nat→Option PyData}
mutual
theorem reads_of (hl:∀ n p x,adr[n]? = some p→look n=some x→∃ as,Reads h (.ref p.1) x as):∀ {d:D} {v:Value} {x:PyData},VR P adr V h v d→pyD look d=some x→∃ as,Reads h v x as
  | .none,_,_,r,e=>by have q:=r.i_none; subst q; (have k1:=s1E e; clear e; subst k1); exact ⟨_,.none⟩
  | .bool _,_,_,r,e=>by have q:=r.i_bool; subst q; (have k1:=s1E e; clear e; subst k1); exact ⟨_,.bool _⟩
  | .int _,_,_,r,e=>by refine xE r.i_int fun t q=>?_; subst q; (have k1:=s1E e; clear e; subst k1); exact ⟨_,.int _ _⟩
  | .str _,_,_,r,e=>by refine xEA r.i_str fun t q _=>?_; subst q; (have k1:=s1E e; clear e; subst k1); exact ⟨_,.str _ _⟩
  | .tup ds,_,_,r,e=>by
    refine xEEEEAAAAAA r.i_tup fun a o vs nn q h1 h2 h3 _ _ h6=>?_
    subst q
    · skip
      (refine xEA (Option.map_eq_some_iff.mp e) fun xs hx e'=>?_)
      subst e'
      (refine xE (readsAll_of hl h6 hx) fun as ra=>?_)
      exact ⟨_,.tuple h1 h2 h3 ra⟩
  | .lst ds,_,_,r,e=>by
    refine xEEEEAAAAAA r.i_lst fun a o vs nn q h1 h2 h3 _ _ h6=>?_
    subst q
    · skip
      (refine xEA (Option.map_eq_some_iff.mp e) fun xs hx e'=>?_)
      subst e'
      (refine xE (readsAll_of hl h6 hx) fun as ra=>?_)
      exact ⟨_,.list h1 h2 h3 ra⟩
  | .ref n,_,_,r,e=>by
    refine xEA r.i_ref fun p q hp=>?_
    subst q
    exact hl _ _ _ hp e
  | .dct _,_,_,_,e=>by exact nnS e
  | .glob _,_,_,_,e=>by exact nnS e
  | .exc _ _,_,_,_,e=>by exact nnS e
  | .rng _ _,_,_,_,e=>by exact nnS e
theorem readsAll_of (hl:∀ n p x,adr[n]? = some p→look n=some x→∃ as,Reads h (.ref p.1) x as):∀ {ds:List D} {vs:List Value} {xs:List PyData},VRs P adr V h vs ds→pyDs look ds=some xs→∃ as,ReadsAll h vs xs as
  | [],_,_,r,e=>by have q:=r.i_nil; subst q; (have k1:=s1E e; clear e; subst k1); exact ⟨_,.nil⟩
  | d :: ds,_,_,r,e=>by
    refine xEEAA r.i_cons fun v ws q rv rs=>?_
    subst q
    · skip
      (refine xEA (Option.bind_eq_some_iff.mp e) fun x hx e=>?_)
      (refine xEA (Option.map_eq_some_iff.mp e) fun xs hxs e'=>?_)
      subst e'
      (refine xE (reads_of hl rv hx) fun as ra=>?_)
      (refine xE (readsAll_of hl rs hxs) fun bs rb=>?_)
      exact ⟨_,.cons ra rb⟩
end
end
section
variable {G:Amb} {hn:Bool} {n:Nat} {Z:Scope} {c:Cx} {S:Gs} {s:Shared}
theorem look1_ok (H:Heaps G c S):∀ n p x,S.adr[n]? = some p→look1 S.σ n=some x→∃ as,Reads S.h (.ref p.1) x as:=fun n p x hp e=>by
  unfold look1 at e
  split at e
  · rename_i ds hk
    (refine xEA (Option.map_eq_some_iff.mp e) fun xs hx e'=>?_)
    subst e'
    (refine xEEAA (H.store n p _ hp hk) fun m vs h1 h4 h5=>?_)
    (refine xE (readsAll_of (look:=look0) (fun _ _ _ _ e=>by exact nnS e) h5 hx) fun as ra=>?_)
    exact ⟨_,.list h1 rfl rfl ra⟩
  · exact nnS e
theorem look2_ok (H:Heaps G c S):∀ n p x,S.adr[n]? = some p→look2 S.σ n=some x→∃ as,Reads S.h (.ref p.1) x as:=fun n p x hp e=>by
  unfold look2 at e
  split at e
  · rename_i ds hk
    (refine xEA (Option.map_eq_some_iff.mp e) fun xs hx e'=>?_)
    subst e'
    (refine xEEAA (H.store n p _ hp hk) fun m vs h1 h4 h5=>?_)
    (refine xE (readsAll_of (look1_ok H) h5 hx) fun as ra=>?_)
    exact ⟨_,.list h1 rfl rfl ra⟩
  · exact nnS e
noncomputable def py (σ:List AO) (d:D):Option PyData:=(pyD (look2 σ) d).bind fun x=>if SeqAt.shaped x then some x else none
theorem py_ok (H:Heaps G c S) {v:Value} {d:D} {x:PyData} (r:Rv G c S v d) (e:py S.σ d=some x):(∃ as,Reads S.h v x as)∧SeqAt.shaped x=true:=by
  unfold py at e
  (refine xEA (Option.bind_eq_some_iff.mp e) fun y hy e=>?_)
  split at e
  · rename_i hs
    (have k1:=s1E e; clear e; subst k1)
    exact ⟨reads_of (look2_ok H) r hy,hs⟩
  · exact nnS e
noncomputable def opEq:F2:=fun a b σ=>(py σ a).bind fun x=>(py σ b).map fun y=>(.val (.bool (PyData.eqv x y)),σ)
noncomputable def opNe:F2:=fun a b σ=>(py σ a).bind fun x=>(py σ b).map fun y=>(.val (.bool (!PyData.eqv x y)),σ)
theorem Ho.u64 (q:Ho G hn n c S s) (h3:3 ≤ n):c.A.units + 64 < cLine:=by have:=q.units; omega
theorem Op2.eq (h3:3 ≤ n):Op2 G hn n (compareOp .Eq) opEq:=by
  intro c S s va vb da db out σ' q ra rb hm
  (refine xEA (Option.bind_eq_some_iff.mp hm) fun x hx hm=>?_)
  (refine xEA (Option.map_eq_some_iff.mp hm) fun y hy e=>?_)
  (have k1:=p2A e; have k2:=p2B e; clear e; subst k1 k2)
  (refine xA (py_ok q.H ra hx) fun q0z s1=>?_; refine xE q0z fun as r1=>?_)
  (refine xA (py_ok q.H rb hy) fun q0z s2=>?_; refine xE q0z fun bs r2=>?_)
  exact Tr.tok q.H q.heap fun Q E hq=>eq_dataH (by rw [q.heap]; exact r1) (by rw [q.heap]; exact r2) s1 s2 (q.u64 h3) (hq _ s.toks (.bool _))
theorem Op2.ne (h3:3 ≤ n):Op2 G hn n (compareOp .NotEq) opNe:=by
  intro c S s va vb da db out σ' q ra rb hm
  (refine xEA (Option.bind_eq_some_iff.mp hm) fun x hx hm=>?_)
  (refine xEA (Option.map_eq_some_iff.mp hm) fun y hy e=>?_)
  (have k1:=p2A e; have k2:=p2B e; clear e; subst k1 k2)
  (refine xA (py_ok q.H ra hx) fun q0z s1=>?_; refine xE q0z fun as r1=>?_)
  (refine xA (py_ok q.H rb hy) fun q0z s2=>?_; refine xE q0z fun bs r2=>?_)
  exact Tr.tok q.H q.heap fun Q E hq=>ne_dataH (by rw [q.heap]; exact r1) (by rw [q.heap]; exact r2) s1 s2 (q.u64 h3) (hq _ s.toks (.bool _))
end
end Mine
end
section
open PySem PySem.W PyProof.Rows
namespace Mine
section
variable {G:Amb} {hn:Bool} {n:Nat} {Z:Scope} {c:Cx} {S:Gs} {s:Shared}
/-- an operator of two values that leaves all as it is -/
theorem Op2.pure {t:Value→Value→Sem Value} {f:D→D→Option D}
    (h:∀ c S s va vb da db d,Ho G hn n c S s→Rv G c S va da→Rv G c S vb db→f da db=some d→∀ (Q:Value→Shared→Prop) (E:Value→Shared→Prop),(∀ v tk,Rv G c S v d→Q v { s with toks:=tk })→wpAny G.M c.A (t va vb) Q E s) :
    Op2 G hn n t (fun a b σ=>(f a b).map fun d=>(.val d,σ)):=by
  intro c S s va vb da db out σ' q ra rb hm
  (refine xEA (Option.map_eq_some_iff.mp hm) fun d hd e=>?_)
  (have k1:=p2A e; have k2:=p2B e; clear e; subst k1 k2)
  exact Tr.tok q.H q.heap fun Q E hq=>h c S s va vb da db d q ra rb hd Q E hq
noncomputable def fAdd:D→D→Option D
  | .int a,.int b=>some (.int (a + b))
  | .str x,.str y=>if x.length + y.length ≤ sizeLine then some (.str (x ++ y)) else none
  | _,_=>none
noncomputable def fSub:D→D→Option D
  | .int a,.int b=>some (.int (a - b))
  | _,_=>none
noncomputable def fMod:D→D→Option D
  | .int a,.int b=>if b ≠ 0 then some (.int (a.fmod b)) else none
  | _,_=>none
noncomputable def fDiv:D→D→Option D
  | .int a,.int b=>if b ≠ 0∧b.natAbs < 1073741824 then some (.int (a.fdiv b)) else none
  | _,_=>none
noncomputable def fPow:D→D→Option D
  | .int a,.int b=>if 0 ≤ b∧(Builtin.Int.intBits a:Int) * b ≤ 2 ^ 27 then some (.int (a ^ b.toNat)) else none
  | _,_=>none
theorem Str.length_append (x y:PySem.Str):(x ++ y).length=x.length + y.length:=by
  show (x.cps ++ y.cps).size=_
  exact Array.size_append
theorem Op2.add:Op2 G hn n (binaryOp .Add) (fun a b σ=>(fAdd a b).map fun d=>(.val d,σ)):=Op2.pure fun c S s va vb da db d q ra rb h Q E hq=>by
  unfold fAdd at h
  split at h
  · (have k1:=s1E h; clear h; subst k1); (refine xE ra.i_int fun _ q0z=>?_; subst q0z); (refine xE rb.i_int fun _ q0z=>?_; subst q0z); exact PyProof.Rows.add_int (hq _ _ (.int _ _))
  · split at h
    · rename_i hsz
      (have k1:=s1E h; clear h; subst k1); (refine xEA ra.i_str fun _ q0z _=>?_; subst q0z); (refine xEA rb.i_str fun _ q0z _=>?_; subst q0z)
      exact PyProof.Rows.add_str (fun t' tk=>hq _ tk (.str _ _ (by rw [Str.length_append]; exact hsz))) hsz
    · exact nnS h
  · exact nnS h
theorem Op2.mod:Op2 G hn n (binaryOp .Mod) (fun a b σ=>(fMod a b).map fun d=>(.val d,σ)):=Op2.pure fun c S s va vb da db d q ra rb h Q E hq=>by
  unfold fMod at h
  split at h
  · split at h
    · rename_i hb
      (have k1:=s1E h; clear h; subst k1); (refine xE ra.i_int fun _ q0z=>?_; subst q0z); (refine xE rb.i_int fun _ q0z=>?_; subst q0z); exact PyProof.Rows.mod_int hb (hq _ _ (.int _ _))
    · exact nnS h
  · exact nnS h
theorem Op2.fdiv:Op2 G hn n (binaryOp .FloorDiv) (fun a b σ=>(fDiv a b).map fun d=>(.val d,σ)):=Op2.pure fun c S s va vb da db d q ra rb h Q E hq=>by
  unfold fDiv at h
  split at h
  · split at h
    · rename_i hb
      (have k1:=s1E h; clear h; subst k1); (refine xE ra.i_int fun _ q0z=>?_; subst q0z); (refine xE rb.i_int fun _ q0z=>?_; subst q0z); exact PyProof.Rows.floordiv_int hb.1 (hq _ _ (.int _ _)) (.inl (PyProof.noPylong_small hb.2))
    · exact nnS h
  · exact nnS h
theorem Op2.pow:Op2 G hn n (binaryOp .Pow) (fun a b σ=>(fPow a b).map fun d=>(.val d,σ)):=Op2.pure fun c S s va vb da db d q ra rb h Q E hq=>by
  unfold fPow at h
  split at h
  · split at h
    · rename_i hb
      (have k1:=s1E h; clear h; subst k1); (refine xE ra.i_int fun _ q0z=>?_; subst q0z); (refine xE rb.i_int fun _ q0z=>?_; subst q0z); exact PyProof.Rows.pow_int hb.1 hb.2 (hq _ _ (.int _ _))
    · exact nnS h
  · exact nnS h
noncomputable def fLt:D→D→Option D
  | .int a,.int b=>some (.bool (decide (a < b)))
  | .str x,.str y=>some (.bool (decide (x.cps.toList < y.cps.toList)))
  | _,_=>none
noncomputable def fGt:D→D→Option D
  | .int a,.int b=>some (.bool (decide (b < a)))
  | .str x,.str y=>some (.bool (decide (y.cps.toList < x.cps.toList)))
  | _,_=>none
noncomputable def fGe:D→D→Option D
  | .int a,.int b=>some (.bool (decide (b ≤ a)))
  | .str x,.str y=>some (.bool (!decide (x.cps.toList < y.cps.toList)))
  | _,_=>none
theorem Op2.lt:Op2 G hn n (compareOp .Lt) (fun a b σ=>(fLt a b).map fun d=>(.val d,σ)):=Op2.pure fun c S s va vb da db d q ra rb h Q E hq=>by
  unfold fLt at h
  split at h
  · (have k1:=s1E h; clear h; subst k1); (refine xE ra.i_int fun _ q0z=>?_; subst q0z); (refine xE rb.i_int fun _ q0z=>?_; subst q0z); exact PyProof.Rows.lt_int (hq _ s.toks (.bool _))
  · (have k1:=s1E h; clear h; subst k1); (refine xEA ra.i_str fun _ q0z _=>?_; subst q0z); (refine xEA rb.i_str fun _ q0z _=>?_; subst q0z); exact PyProof.Rows.lt_str (hq _ s.toks (.bool _))
  · exact nnS h
theorem Op2.gt:Op2 G hn n (compareOp .Gt) (fun a b σ=>(fGt a b).map fun d=>(.val d,σ)):=Op2.pure fun c S s va vb da db d q ra rb h Q E hq=>by
  unfold fGt at h
  split at h
  · (have k1:=s1E h; clear h; subst k1); (refine xE ra.i_int fun _ q0z=>?_; subst q0z); (refine xE rb.i_int fun _ q0z=>?_; subst q0z); exact PyProof.Rows.gt_int (hq _ s.toks (.bool _))
  · (have k1:=s1E h; clear h; subst k1); (refine xEA ra.i_str fun _ q0z _=>?_; subst q0z); (refine xEA rb.i_str fun _ q0z _=>?_; subst q0z); exact PySem.P.gt_str (hq _ s.toks (.bool _))
  · exact nnS h
/-- is, is not: against None and between types -/
noncomputable def fIs (a b:D):Option Bool:=match b with
  | .none=>(match a with
    | .none=>some true
    | d=>if d.solid=true then some false else none)
  | .glob (.type Y)=>(match a with
    | .glob (.type X)=>some (X == Y)
    | _=>none)
  | _=>none
theorem type_beq (X Y:String):(Value.type X == Value.type Y)=(X == Y):=by
  by_cases h:X=Y
  · subst h; simp
  · have:Value.type X ≠ Value.type Y:=fun e=>h (by (have k1:=Value.type.inj e; clear e; subst k1); rfl)
    rw [beq_eq_false_iff_ne.mpr this,beq_eq_false_iff_ne.mpr h]
theorem fIs_none {a b:D} {t:Bool} (h:fIs a b=some t):(b = .none∧((a = .none∧t=true)∨(a.solid=true∧t=false)))∨∃ X Y,a = .glob (.type X)∧b = .glob (.type Y)∧t=(X == Y):=by
  unfold fIs at h
  split at h
  · split at h
    · (have k1:=s1E h; clear h; subst k1); exact .inl ⟨rfl,.inl ⟨rfl,rfl⟩⟩
    · split at h
      · rename_i hd
        (have k1:=s1E h; clear h; subst k1); exact .inl ⟨rfl,.inr ⟨hd,rfl⟩⟩
      · exact nnS h
  · split at h
    · (have k1:=s1E h; clear h; subst k1); exact .inr ⟨_,_,rfl,rfl,rfl⟩
    · exact nnS h
  · exact nnS h
theorem Op2.is:Op2 G hn n (compareOp .Is) (fun a b σ=>((fIs a b).map D.bool).map fun d=>(.val d,σ)):=Op2.pure fun c S s va vb da db d q ra rb h Q E hq=>by
  (refine xEA (Option.map_eq_some_iff.mp h) fun b hb q0z=>?_; subst q0z)
  rcases fIs_none hb with ⟨rfl,⟨rfl,rfl⟩ | ⟨hs,rfl⟩⟩ | ⟨X,Y,rfl,rfl,rfl⟩
  · obtain rfl:=ra.i_none
    obtain rfl:=rb.i_none
    exact PySem.wpAny_is_self rfl (hq _ s.toks (.bool _))
  · obtain rfl:=rb.i_none
    exact PyProof.Rows.is_none_ne (ra.solid hs) (hq _ s.toks (.bool _))
  · obtain rfl:=ra.i_glob
    obtain rfl:=rb.i_glob
    exact PySem.wpAny_is_plain rfl (by rw [type_beq]; exact hq _ s.toks (.bool _))
theorem Op2.isNot:Op2 G hn n (compareOp .IsNot) (fun a b σ=>((fIs a b).map fun t=>D.bool (!t)).map fun d=>(.val d,σ)):=Op2.pure fun c S s va vb da db d q ra rb h Q E hq=>by
  (refine xEA (Option.map_eq_some_iff.mp h) fun b hb q0z=>?_; subst q0z)
  rcases fIs_none hb with ⟨rfl,⟨rfl,rfl⟩ | ⟨hs,rfl⟩⟩ | ⟨X,Y,rfl,rfl,rfl⟩
  · obtain rfl:=ra.i_none
    obtain rfl:=rb.i_none
    exact PySem.wpAny_isNot_self rfl (hq _ s.toks (.bool _))
  · obtain rfl:=rb.i_none
    exact PyProof.Rows.isnot_none_ne (ra.solid hs) (hq _ s.toks (.bool _))
  · obtain rfl:=ra.i_glob
    obtain rfl:=rb.i_glob
    exact PySem.wpAny_isNot_plain rfl (by rw [type_beq]; exact hq _ s.toks (.bool _))
/-- membership in a list or a tuple -/
noncomputable def opIn:F2:=fun a b σ=>(py σ a).bind fun x=>(py σ b).bind fun y=>match y with
  | .list ys=>some (.val (.bool (ys.any fun y=>PyData.eqv y x)),σ)
  | .tuple ys=>some (.val (.bool (ys.any fun y=>PyData.eqv y x)),σ)
  | _=>none
theorem shaped_list {ys:List PyData} (h:SeqAt.shaped (.list ys)=true):PyData.canLayAll0 ys=true∧PyData.depthAll ys ≤ 64:=by
  have h1:=SeqAt.canLay_of_shaped h
  have h2:=SeqAt.depth_of_shaped h
  simp only [PyData.canLay0] at h1
  simp only [PyData.depth] at h2
  exact ⟨h1,by omega⟩
theorem shaped_tuple {ys:List PyData} (h:SeqAt.shaped (.tuple ys)=true):PyData.canLayAll0 ys=true∧PyData.depthAll ys ≤ 64:=by
  have h1:=SeqAt.canLay_of_shaped h
  have h2:=SeqAt.depth_of_shaped h
  simp only [PyData.canLay0] at h1
  simp only [PyData.depth] at h2
  exact ⟨h1,by omega⟩
theorem Op2.in (h3:3 ≤ n):Op2 G hn n (compareOp .In) opIn:=by
  intro c S s va vb da db out σ' q ra rb hm
  (refine xEA (Option.bind_eq_some_iff.mp hm) fun x hx hm=>?_)
  (refine xEA (Option.bind_eq_some_iff.mp hm) fun y hy hm=>?_)
  (refine xA (py_ok q.H ra hx) fun q0z s1=>?_; refine xE q0z fun as r1=>?_)
  (refine xA (py_ok q.H rb hy) fun q0z s2=>?_; refine xE q0z fun bs r2=>?_)
  have hu:=q.u64 h3
  split at hm
  · (have k1:=s2A hm; have k2:=s2B hm; clear hm; subst k1 k2)
    (refine xA (shaped_list s2) fun k1 k2=>?_)
    exact Tr.tok q.H q.heap fun Q E hq=>SeqAt.in_list_reads (by rw [q.heap]; exact r2) (by rw [q.heap]; exact r1) k1 (SeqAt.canLay_of_shaped s1) (by have:=q.units; omega) (hq _ s.toks (.bool _))
  · (have k1:=s2A hm; have k2:=s2B hm; clear hm; subst k1 k2)
    (refine xA (shaped_tuple s2) fun k1 k2=>?_)
    exact Tr.tok q.H q.heap fun Q E hq=>SeqAt.in_tuple_reads (by rw [q.heap]; exact r2) (by rw [q.heap]; exact r1) k1 (SeqAt.canLay_of_shaped s1) (by have:=q.units; omega) (hq _ s.toks (.bool _))
  · exact nnS hm
end
end Mine
end
section
open PySem PySem.W PyProof.Rows
namespace Mine
section
variable {G:Amb} {hn:Bool} {n:Nat} {Z:Scope} {c:Cx} {S:Gs} {s:Shared}
/-- the kinds that an index goes to -/
noncomputable def isSub:D→List AO→Bool
  | .lst _,_=>true
  | .tup _,_=>true
  | .str _,_=>true
  | .dct _,_=>true
  | .ref k,σ=>match σ[k]? with
    | some (.lst _)=>true
    | _=>false
  | _,_=>false
theorem subKind (H:Heaps G c S) (hs:s.heap=S.h) {v:Value} {d:D} (r:Rv G c S v d) (h:isSub d S.σ=true):∃ T id,s.TypeIs v T∧typeLookup (.type T) "__getitem__" = pure (some (.builtin id)):=by
  cases r with
  | none=>exact nFT h
  | bool=>exact nFT h
  | int=>exact nFT h
  | glob=>exact nFT h
  | exc=>exact nFT h
  | rng=>exact nFT h
  | str x t hx=>exact ⟨"str", _,typeIs_str s x t,PySem.F.slot_str_getitem.lookup⟩
  | tup h1 h2 h3=>exact ⟨"tuple", _,⟨_,by rw [hs]; exact h1,h2⟩,PySem.F.slot_tuple_getitem.lookup⟩
  | lst h1 h2 h3=>exact ⟨"list", _,⟨_,by rw [hs]; exact h1,h2⟩,PySem.slot_list_getitem.lookup⟩
  | dct h0 h1=>exact ⟨"dict", _,⟨_,by rw [hs]; exact h1,rfl⟩,PySem.F.slot_dict_getitem.lookup⟩
  | @ref k p hp =>
    unfold isSub at h
    dsimp only at h
    split at h
    · rename_i ds hk
      (refine xEEAA (H.store k p _ hp hk) fun m vs h1 h4 h5=>?_)
      exact ⟨"list", _,⟨_,by rw [hs]; exact h1,rfl⟩,PySem.slot_list_getitem.lookup⟩
    · exact nFT h
noncomputable def notSlice:Expr→Bool
  | .Slice ..=>false
  | _=>true
theorem subscripted_plain {slice:Expr} (h:notSlice slice=true) (o i:Value):subscripted slice false o i=operate [o,i] (getItem o i):=by
  cases slice <;> first | rfl | exact nFT h
theorem Ev.sub {value slice:Expr} {pos:Pos} {mo mi:Mo D} {f:F2} (ho:Ev G hn n Z value mo) (hi:Ev G hn n Z slice mi) (hf:Op2 G hn n getItem f) (hs:notSlice slice=true) :
    Ev G hn n Z (.Subscript value slice pos) (Mo.bind mo fun a=>Mo.bind mi fun b _ σ=>if isSub a σ then f a b σ else none):=by
  intro c env fr S s out σ' q hm
  rw [arm_eval_Subscript]
  refine Tr.bindM hm (fun o1 σ1 h1=>ho c env fr S s o1 σ1 q h1) fun da va S1 tk H1 x1 ra h2=>?_
  have q1:=q.step (tk:=tk) H1 x1
  refine Tr.bindM h2 (fun o2 σ2 h3=>(hi c env fr S1 _ o2 σ2 q1 h3).holding) fun db vb S2 tk2 H2 x2 rb h4=>?_
  have q2:=q1.step (tk:=tk2) H2 x2
  split at h4
  rotate_left
  · exact nnS h4
  rename_i hsub
  have t:=hf c S2 _ va vb da db out σ' q2.ho (ra.ext x2) rb h4
  refine Tr.standAt ?_
  intro Q E hq hx
  (refine xEEA (subKind (s:=(ShT s S2.h tk2)) H2 rfl (ra.ext x2) hsub) fun T id hT hl=>?_)
  refine wpAny_bind ?_
  rw [getitemInPython_of_ne hT.not_modules]
  refine wpAny_bind (wpAny_specialOf hT hl ?_)
  refine wpAny_pure ?_
  rw [subscripted_plain hs]
  exact wpAny_bind (wpAny_operating (t _ E (fun b hb a S' tk' e H x r=>wpAny_bind (wpAny_letTemporaryGo (wpAny_pure (hq b hb a S' tk' e H x r)))) hx))
/-- an item by its place -/
noncomputable def atIdx (ds:List D) (i:Int):Option D:=(seqIndex? i ds.length).bind fun k=>ds[k]?
noncomputable def fIdx (σ:List AO):D→D→Option D
  | .lst ds,.int i=>if inR i=true then atIdx ds i else none
  | .tup ds,.int i=>if inR i=true then atIdx ds i else none
  | .ref k,.int i=>match σ[k]? with
    | some (.lst ds)=>if inR i=true then atIdx ds i else none
    | _=>none
  | .str x,.int i=>if inR i=true then ((seqIndex? i x.length).bind (x.cps[·]?)).map fun k=>.str ⟨#[k]⟩ else none
  | .dct es,.str x=>(es.find? fun e=>e.1=x).map (·.2)
  | _,_=>none
theorem seqIndex_pos {k:Int} {n j:Nat} (h:seqIndex? k n=some j):(0 ≤ k∧j=k.toNat)∨(k < 0∧-(n:Int) ≤ k∧j=(k + n).toNat):=by
  unfold seqIndex? at h
  by_cases hk:k < 0
  · simp only [hk,if_true] at h
    split at h
    · rename_i hc
      simp only [Bool.and_eq_true,decide_eq_true_eq] at hc
      (have k1:=s1E h; clear h; subst k1)
      exact .inr ⟨hk,by omega,rfl⟩
    · exact nnS h
  · simp only [hk,if_false] at h
    split at h
    · (have k1:=s1E h; clear h; subst k1); exact .inl ⟨by omega,rfl⟩
    · exact nnS h
theorem getList {A:Around} {s:Shared} {prog:Program} {w:World} {l:Addr} {vs:Array Value} {i:Int} {t:Tok} {v:Value} {j:Nat} (hl:s.heap.IsList l vs) (hb : -(2 ^ 61) ≤ i∧i < 2 ^ 61) (hj:seqIndex? i vs.size=some j) (hv:vs[j]? = some v)
    {Q:Value→Shared→Prop} {E:Value→Shared→Prop} (h:Q v s):wpAny (model prog w) A (getItem (.ref l) (.int i t)) Q E s:=by
  have e62:(2:Int) ^ 61=2305843009213693952:=by decide
  have e63:(2:Int) ^ 63=9223372036854775808:=by decide
  rw [e62] at hb
  rcases seqIndex_pos hj with ⟨h0,rfl⟩ | ⟨h0,h1,rfl⟩
  · exact wpAny_getItem_list hl h0 (by rw [e63]; omega) hv h
  · exact wpAny_getItem_list_neg hl h0 h1 (by rw [e63]; omega) hv h
theorem atIdx_get {P:Params} {adr:Adr} {V:List Addr} {h:Heap} {vs:Array Value} {ds:List D} (r:VRs P adr V h vs.toList ds) {i:Int} {d:D} (e:atIdx ds i=some d):∃ j v,seqIndex? i vs.size=some j∧vs[j]? = some v∧VR P adr V h v d:=by
  (refine xEA (Option.bind_eq_some_iff.mp e) fun j hj hd=>?_)
  obtain ⟨v,hv,rv⟩:=r.get hd
  have hlen:=r.length
  exact ⟨j,v,by rw [show vs.size=ds.length by simpa using hlen]; exact hj,by simpa using hv,rv⟩
theorem valueAt_of {G:Amb} {P:Params} {adr:Adr} {V:List Addr} {h:Heap} {es:List DictEntry} {ds:List (PySem.Str × D)} (hP:P=G.w.params) (r:VRe P adr V h es ds) :
    ∃ kvs,Pairs (strKind G.prog G.w) es kvs∧kvs.map (·.1)=ds.map (·.1)∧VRs P adr V h (kvs.map (·.2)) (ds.map (·.2))∧(∀ e ∈ es,∃ k,Value.isStrOf k e.key=true∧e.hash=hashStr G.w k) :=
  VRe.ind (C:=fun es ds=>∃ kvs,Pairs (strKind G.prog G.w) es kvs∧kvs.map (·.1)=ds.map (·.1)∧VRs P adr V h (kvs.map (·.2)) (ds.map (·.2))∧(∀ e ∈ es,∃ k,Value.isStrOf k e.key=true∧e.hash=hashStr G.w k)) ⟨[],.nil,rfl,.nil,fun _ h=>nomatch h⟩
    (fun e x t d es ds hk hh hv _ ih=>by
      (refine xEAAA ih fun kvs h1 h2 h3 h4=>?_; try clear ih)
      have q:Value.isStrOf x e.key=true:=by rw [hk]; exact beq_self_eq_true x
      exact ⟨(x,e.val) :: kvs,.cons q rfl h1,congrArg (x :: ·) h2,.cons hv h3,fun e' he'=>(List.mem_cons.mp he').elim (fun e0=>e0 ▸ ⟨x,q,by rw [hh,hP]; rfl⟩) (h4 e')⟩) r
theorem dictOf_of {a:Addr} {es:List (PySem.Str × D)} (r:Rv G c S (.ref a) (.dct es)):∃ kvs,S.h.DictOf (strKind G.prog G.w) a kvs∧kvs.map (·.1)=es.map (·.1)∧Rvs G c S (kvs.map (·.2)) (es.map (·.2)):=by
  cases r with
  | @dct _ es' nn ds h0 h1 hn h2 h3 =>
    (refine xEAAA (valueAt_of rfl h3) fun kvs k1 k2 k3 k4=>?_)
    refine ⟨kvs,⟨_,es',nn,h1,⟨rfl,rfl,rfl⟩,rfl,fun e he=>k4 e (by simpa using he),k1,by rw [k2]; exact hn⟩,k2,k3⟩
theorem find_pairs {P:Params} {adr:Adr} {V:List Addr} {h:Heap} {x:PySem.Str} : ∀ {kvs:List (PySem.Str × Value)} {ds:List (PySem.Str × D)} {d:D},kvs.map (·.1)=ds.map (·.1)→VRs P adr V h (kvs.map (·.2)) (ds.map (·.2))→(ds.find? fun e=>e.1=x).map (·.2)=some d →
    ∃ v,valueAt kvs x=some v∧VR P adr V h v d
  | [],[],_,_,_,e=>by exact nnS e
  | [],_ :: _,_,h,_,_=>by exact nNC h
  | _ :: _,[],_,h,_,_=>by exact nCN h
  | (k,v) :: kvs,(k',d') :: ds,d,h,r,e=>by
    rw [List.map_cons,List.map_cons] at h r
    cases r with
    | cons rv rs =>
      simp only [List.cons.injEq] at h
      (refine xA h fun h1 h2=>?_; try clear h)
      have h1':k=k':=h1
      subst h1'
      by_cases hk:k=x
      · rw [List.find?_cons_of_pos (by simpa using hk)] at e
        (have k1:=s1E e; clear e; subst k1)
        exact ⟨v,by unfold valueAt; rw [List.find?_cons_of_pos (by simpa using hk)]; rfl,rv⟩
      · rw [List.find?_cons_of_neg (by simpa using hk)] at e
        (refine xEA (find_pairs h2 rs e) fun w hw rw'=>?_)
        exact ⟨w,by unfold valueAt at hw ⊢; rw [List.find?_cons_of_neg (by simpa using hk)]; exact hw,rw'⟩
theorem Op2.idx:Op2 G hn n getItem (fun a b σ=>(fIdx σ a b).map fun d=>(.val d,σ)):=by
  intro c S s va vb da db out σ' q ra rb hm
  (refine xEA (Option.map_eq_some_iff.mp hm) fun d hd e=>?_)
  (have k1:=p2A e; have k2:=p2B e; clear e; subst k1 k2)
  refine Tr.tok q.H q.heap fun Q E hq=>?_
  unfold fIdx at hd
  split at hd
  · split at hd
    · rename_i hb
      replace hb:=inR_iff.mp hb
      (refine xE rb.i_int fun _ q0z=>?_; subst q0z)
      (refine xEEEEAAAAAA ra.i_lst fun _ _ _ _ q0z h1 h2 h3 h4 h5 h6=>?_; subst q0z)
      · (refine xEEAA (atIdx_get h6 hd) fun j v hj hv rv=>?_)
        exact getList ⟨_,by rw [q.heap]; exact h1,h2,_,h3⟩ hb hj hv (hq v s.toks rv)
    · exact nnS hd
  · split at hd
    · rename_i hb
      replace hb:=inR_iff.mp hb
      (refine xE rb.i_int fun _ q0z=>?_; subst q0z)
      (refine xEEEEAAAAAA ra.i_tup fun _ _ _ _ q0z h1 h2 h3 h4 h5 h6=>?_; subst q0z)
      · (refine xEEAA (atIdx_get h6 hd) fun j v hj hv rv=>?_)
        have e62:(2:Int) ^ 61=2305843009213693952:=by decide
        have e63:(2:Int) ^ 63=9223372036854775808:=by decide
        rw [e62] at hb
        exact PyProof.Rows.getItem_tuple ⟨_,by rw [q.heap]; exact h1,h2,_,h3⟩ (by rw [e63]; omega) (by rw [e63]; omega) hj hv (hq v s.toks rv)
    · exact nnS hd
  · split at hd
    · rename_i k i ds hk
      split at hd
      · rename_i hb
        replace hb:=inR_iff.mp hb
        (refine xE rb.i_int fun _ q0z=>?_; subst q0z)
        (refine xEEEEAAAAAA (q.H.lst ra hk) fun p o m vs q0z hp ho hc hdd hz hr=>?_; subst q0z)
        (refine xEEAA (atIdx_get hr hd) fun j v hj hv rv=>?_)
        exact getList ⟨o,by rw [q.heap]; exact ho,hc,m,hdd⟩ hb hj hv (hq v s.toks rv)
      · exact nnS hd
    · exact nnS hd
  · split at hd
    · rename_i hb
      replace hb:=inR_iff.mp hb
      (refine xEA (Option.map_eq_some_iff.mp hd) fun k hk q0z=>?_; subst q0z)
      (refine xE rb.i_int fun _ q0z=>?_; subst q0z)
      (refine xEA ra.i_str fun _ q0z _=>?_; subst q0z)
      have e62:(2:Int) ^ 61=2305843009213693952:=by decide
      have e63:(2:Int) ^ 63=9223372036854775808:=by decide
      rw [e62] at hb
      refine PyProof.Rows.getItem_str ?_ hk (hq _ _ (.str _ _ (by show 1 ≤ sizeLine; decide)))
      rw [e63]
      simp only [Bool.or_eq_false_iff,decide_eq_false_iff_not]
      omega
    · exact nnS hd
  · rename_i es x
    (refine xEA rb.i_str fun t q0z hx=>?_; subst q0z)
    (refine xE ra.i_dct fun a q0z=>?_; subst q0z)
    · (refine xEAA (dictOf_of ra) fun kvs k1 k2 k3=>?_)
      (refine xEA (find_pairs k2 k3 hd) fun v hv rv=>?_)
      exact wpAny_getItem_of (knd:=strKind G.prog G.w) (k:=x) (by show Value.isStrOf x (.str x t)=true; unfold Value.isStrOf; exact beq_self_eq_true x) (by rw [q.heap]; exact k1.mapOf) hv (hq v _ rv)
  · exact nnS hd
end
end Mine
end
section
open PySem PySem.W PyProof.Rows
namespace Mine
section
variable {G:Amb} {hn:Bool} {n:Nat} {Z:Scope} {c:Cx} {S:Gs} {s:Shared}
noncomputable def EvP (G:Amb) (hn:Bool) (n:Nat) (Z:Scope):Option Expr→Option (Mo D)→Prop
  | none,none=>True
  | some e,some m=>Ev G hn n Z e m
  | _,_=>False
noncomputable def Mo.part:Option (Mo D)→Mo (Option Int)
  | none=>Mo.pure none
  | some m=>Mo.bind m fun d _ σ=>match d with
    | .int i=>some (.val (some i),σ)
    | _=>none
noncomputable def RPart (v:Value) (p:Option Int):Prop:=match p with
  | none=>v = .none
  | some i=>∃ t,v = .int i t
theorem trPart {e:Option Expr} {m:Option (Mo D)} (h:EvP G hn n Z e m) {env:Env} {fr:Fr} {out:Out (Option Int)} {σ':List AO} (q:Run G hn n Z c env fr S s) (hm:Mo.part m fr S.σ=some (out,σ')):Tr G c S s (fun _ v p=>RPart v p) (valueOrNone (evalOpt e env)) out σ':=by
  cases e with
  | none=>cases m with
    | none=>refine Tr.cast hm ?_; exact Tr.pure q.H q.heap rfl
    | some m=>exact h.elim
  | some e=>cases m with
    | none=>exact h.elim
    | some m =>
      show Tr G c S s _ (eval e env) out σ'
      have hm:Mo.bind m (fun d _ σ=>match d with
        | .int i=>some (.val (some i),σ)
        | _=>none) fr S.σ=some (out,σ'):=hm
      unfold Mo.bind at hm
      cases hmm:m fr S.σ with
      | none=>rw [hmm] at hm; exact nnS hm
      | some p =>
        obtain ⟨o,σ1⟩:=p
        rw [hmm] at hm
        intro Q E hq hx
        cases o with
        | exc X msg =>
          (have k1:=s2A hm; have k2:=s2B hm; clear hm; subst k1 k2)
          exact h c env fr S s _ _ q hmm Q E (fun b hb=>by exact nEV hb) fun X' msg' ho S' e h' tk e1 H1 x1 th=>(by (have k1:=excA ho; have k2:=excB ho; clear ho; subst k1 k2); exact hx _ _ rfl S' e h' tk e1 H1 x1 th)
        | val d =>
          dsimp only at hm
          split at hm
          · rename_i i
            (have k1:=s2A hm; have k2:=s2B hm; clear hm; subst k1 k2)
            refine h c env fr S s _ _ q hmm Q E (fun b hb v S1 tk e1 H1 x1 r1=>?_) fun _ _ ho=>by exact nVE ho
            (have k1:=valE hb; clear hb; subst k1)
            refine xE (VR.i_int r1) fun _ ev=>?_
            subst ev
            exact hq _ rfl _ S1 tk e1 H1 x1 ⟨_,rfl⟩
          · exact nnS hm
noncomputable def sliceD (ds:List D) (lo hi st:Option Int):List D:=(sliceRange (sliceBounds lo hi st ds.length).1 (sliceBounds lo hi st ds.length).2.1 (sliceBounds lo hi st ds.length).2.2).filterMap (ds[·]?)
theorem sliceD_rel {P:Params} {adr:Adr} {V:List Addr} {h:Heap} {vs:Array Value} {ds:List D} (r:VRs P adr V h vs.toList ds) (lo hi st:Option Int):VRs P adr V h (slicePick vs lo hi st).toList (sliceD ds lo hi st):=by
  have hlen:vs.size=ds.length:=by simpa using r.length
  unfold slicePick sliceD
  rw [hlen]
  generalize sliceRange (sliceBounds lo hi st ds.length).1 (sliceBounds lo hi st ds.length).2.1 (sliceBounds lo hi st ds.length).2.2=ks
  show VRs P adr V h (ks.filterMap (vs[·]?)) (ks.filterMap (ds[·]?))
  induction ks with
  | nil=>exact .nil
  | cons k ks ih =>
    rw [List.filterMap_cons,List.filterMap_cons]
    cases hv:vs[k]? with
    | none =>
      have hd:ds[k]? = none:=by rw [List.getElem?_eq_none_iff,← hlen]; simpa using hv
      rw [hd]; exact ih
    | some v =>
      (refine xEA (r.get_val (k:=k) (by simpa using hv)) fun d hd rv=>?_)
      rw [hd]; exact .cons rv ih
noncomputable def lstOf (d:D) (σ:List AO):Option (List D):=match d with
  | .lst ds=>some ds
  | .ref k=>match σ[k]? with
    | some (.lst ds)=>some ds
    | _=>none
  | _=>none
theorem lstOf_ok (H:Heaps G c S) {v:Value} {d:D} {ds:List D} (r:Rv G c S v d) (h:lstOf d S.σ=some ds):∃ a vs,v = .ref a∧S.h.IsList a vs∧vs.size ≤ sizeLine∧Rvs G c S vs.toList ds:=by
  unfold lstOf at h
  split at h
  · (have k1:=s1E h; clear h; subst k1)
    (refine xEEEEAAAAAA r.i_lst fun _ _ _ _ q0z h1 h2 h3 h4 h5 h6=>?_; subst q0z)
    exact ⟨_,_,rfl,⟨_,h1,h2,_,h3⟩,h4,h6⟩
  · split at h
    · rename_i k ds' hk
      (have k1:=s1E h; clear h; subst k1)
      (refine xEEEEAAAAAA (H.lst r hk) fun p o m vs q0z hp ho hc hd hz hr=>?_; subst q0z)
      exact ⟨p.1,vs,rfl,⟨o,ho,hc,m,hd⟩,hz,hr⟩
    · exact nnS h
  · exact nnS h
/-- the value of a slice of a list: the list made last -/
theorem trSliceL {value:Expr} {lo hi st:Option Expr} {ps pos:Pos} {mo:Mo D} {ml mh ms:Option (Mo D)} {env:Env} {fr:Fr} (hv:Ev G hn n Z value mo) (h1:EvP G hn n Z lo ml) (h2:EvP G hn n Z hi mh) (h3:EvP G hn n Z st ms) (q:Run G hn n Z c env fr S s)
    {da:D} {σ1 σ2 σ3 σ4:List AO} {pl ph pt:Option Int} {ds:List D} (e1:mo fr S.σ=some (.val da,σ1)) (e2:Mo.part ml fr σ1=some (.val pl,σ2)) (e3:Mo.part mh fr σ2=some (.val ph,σ3)) (e4:Mo.part ms fr σ3=some (.val pt,σ4)) (hl:lstOf da σ4=some ds) (h0:pt ≠ some 0)
    {Q:Value→Shared→Prop} {E:Value→Shared→Prop} (hq:∀ (S':Gs) (tk:Tk G.lo) vs,S'.σ=σ4→Heaps G c S'→Ext c S S'→Rvs G c S' vs.toList (sliceD ds pl ph pt)→vs.size ≤ sizeLine→Q (.ref S'.h.objs.size) (ShT s (S'.h.push { cls:=.type "list", data:=.seq vs }) tk)) :
    wpAny G.M c.A (eval (.Subscript value (.Slice lo hi st ps) pos) env) Q E s:=by
  rw [arm_eval_Subscript]
  refine wpAny_bind (hv c env fr S s _ _ q e1 _ E (fun b hb va S1 tk1 x1e H1 x1 ra=>?_) fun _ _ ho=>by exact nVE ho)
  (have k1:=valE hb; clear hb; subst k1); subst x1e
  have q1:=q.step (tk:=tk1) H1 x1
  rw [arm_eval_Slice]
  refine wpAny_bind (wpAny_holding (wpAny_bind (trPart h1 q1 e2 _ E (fun b hb vl S2 tk2 x2e H2 x2 rl=>?_) fun _ _ ho=>by exact nVE ho)))
  (have k1:=valE hb; clear hb; subst k1); subst x2e
  have q2:=q1.step (tk:=tk2) H2 x2
  refine wpAny_bind (wpAny_holding (trPart h2 q2 e3 _ E (fun b hb vu S3 tk3 x3e H3 x3 ru=>?_) fun _ _ ho=>by exact nVE ho))
  (have k1:=valE hb; clear hb; subst k1); subst x3e
  have q3:=q2.step (tk:=tk3) H3 x3
  refine wpAny_bind (wpAny_holding (trPart h3 q3 e4 _ E (fun b hb vt S4 tk4 x4e H4 x4 rt=>?_) fun _ _ ho=>by exact nVE ho))
  (have k1:=valE hb; clear hb; subst k1); subst x4e
  refine wpAny_newObj_type ?_
  have ra4:=((ra.ext x2).ext x3).ext x4
  (refine xEEAAA (lstOf_ok H4 ra4 hl) fun a vs q0z hlist hz hr=>?_; subst q0z)
  (refine xA (H4.push { cls:=.type "slice", data:=.fields #[vl,vu,vt] }) fun H5 x5=>?_)
  have hlist5:(S4.h.push { cls:=.type "slice", data:=.fields #[vl,vu,vt] }).IsList a vs:=hlist.push _
  have hsl:(S4.h.push { cls:=.type "slice", data:=.fields #[vl,vu,vt] }).IsSliceOf S4.h.objs.size vl vu vt:=.new ..
  have part:∀ {v p},RPart v p→IsPart v p:=fun {v p} h=>by
    cases p with
    | none=>cases h; exact .none
    | some i=>(refine xE h fun t q0z=>?_; try clear h; subst q0z); exact .int i t
  refine wpAny_bind (wpAny_standAt ?_)
  have hT:((ShT s (S4.h.push { cls:=.type "slice", data:=.fields #[vl,vu,vt] }) tk4):Shared).TypeIs (.ref a) "list" := hlist5.typeIs
  refine wpAny_bind ?_
  rw [getitemInPython_of_ne hT.not_modules]
  refine wpAny_bind (wpAny_specialOf hT PySem.slot_list_getitem.lookup ?_)
  refine wpAny_pure ?_
  have fin:wpAny G.M c.A (getItem (.ref a) (.ref S4.h.objs.size)) (fun r s₃=>wpAny G.M c.A (letTemporaryGo value (.ref a) r >>= fun _=>Pure.pure r) Q E s₃) E (ShT s (S4.h.push { cls:=.type "slice", data:=.fields #[vl,vu,vt] }) tk4):=by
    refine wpAny_getItem_list_slice hlist5 hsl (part rl) (part ru) (part rt) h0 ?_ hz
    refine wpAny_bind (wpAny_letTemporaryGo (wpAny_pure ?_))
    refine hq { S4 with h:=S4.h.push { cls:=.type "slice", data:=.fields #[vl,vu,vt] } } tk4 (slicePick vs pl ph pt) rfl H5 (((x1.trans x2).trans x3).trans (x4.trans x5)) (sliceD_rel (hr.ext x5) _ _ _) ?_
    exact Nat.le_trans (slicePick_size_le ..) hz
  refine wpAny_bind ?_
  cases st with
  | none=>exact wpAny_operating fin
  | some e=>exact wpAny_operating fin
noncomputable def Mo.slice (mo:Mo D) (ml mh ms:Option (Mo D)):Mo (List D):=Mo.bind mo fun da=>Mo.bind (Mo.part ml) fun pl=>Mo.bind (Mo.part mh) fun ph=>Mo.bind (Mo.part ms) fun pt _ σ=>if pt ≠ some 0 then (lstOf da σ).map fun ds=>(.val (sliceD ds pl ph pt),σ) else none
theorem bindVal {α β:Type} {m:Mo α} {f:α→Mo β} {fr:Fr} {σ σ':List AO} {b:β} (h:Mo.bind m f fr σ=some (.val b,σ')):∃ a σ1,m fr σ=some (.val a,σ1)∧f a fr σ1=some (.val b,σ'):=by
  unfold Mo.bind at h
  generalize m fr σ=p at h ⊢
  rcases p with _ | ⟨_ | _,_⟩
  · exact nnS h
  · exact ⟨_,_,rfl,h⟩
  · cases h
theorem bindO {α β:Type} {m:Mo α} {f:α→Mo β} {fr:Fr} {σ σ':List AO} {out:Out β} (h:Mo.bind m f fr σ=some (out,σ')) :
    ∃ o σ1,m fr σ=some (o,σ1)∧(∀ X msg,o = .exc X msg→out = .exc X msg∧σ'=σ1)∧∀ a,o = .val a→f a fr σ1=some (out,σ'):=by
  unfold Mo.bind at h
  generalize m fr σ=p at h ⊢
  rcases p with _ | ⟨_ | _,_⟩
  · exact nnS h
  · exact ⟨_,_,rfl,fun X msg q=>(by exact nVE q),fun a q=>(by (have k1:=valE q; clear q; subst k1); exact h)⟩
  · (have k1:=s2A h; have k2:=s2B h; clear h; subst k1 k2)
    exact ⟨_,_,rfl,fun X msg q=>(by (have k1:=excA q; have k2:=excB q; clear q; subst k1 k2); exact ⟨rfl,rfl⟩),fun a q=>(by exact nEV q)⟩
theorem if_val {α:Type} {p:Prop} [Decidable p] {x:Option α} {r:α} (h:(if p then x else none)=some r):p∧x=some r:=by
  by_cases q:p
  · rw [if_pos q] at h; exact ⟨q,h⟩
  · rw [if_neg q] at h; exact nnS h
theorem sliceE {mo:Mo D} {ml mh ms:Option (Mo D)} {fr:Fr} {σ σ4:List AO} {zs:List D} (h:Mo.slice mo ml mh ms fr σ=some (.val zs,σ4)) :
    ∃ da σ1 σ2 σ3 pl ph pt ds,mo fr σ=some (.val da,σ1)∧Mo.part ml fr σ1=some (.val pl,σ2)∧Mo.part mh fr σ2=some (.val ph,σ3)∧Mo.part ms fr σ3=some (.val pt,σ4)∧lstOf da σ4=some ds∧pt ≠ some 0∧zs=sliceD ds pl ph pt:=by
  (refine xEEA (bindVal h) fun da σ1 h1 h=>?_)
  (refine xEEA (bindVal h) fun pl σ2 h2 h=>?_)
  (refine xEEA (bindVal h) fun ph σ3 h3 h=>?_)
  (refine xEEA (bindVal h) fun pt σ5 h4 h=>?_)
  have h0:=if_val h
  (refine xEA (Option.map_eq_some_iff.mp h0.2) fun ds hds e=>?_)
  cases e
  exact ⟨da,σ1,σ2,σ3,pl,ph,pt,ds,h1,h2,h3,h4,hds,h0.1,rfl⟩
theorem Ev.slcF {value:Expr} {lo hi st:Option Expr} {ps pos:Pos} {mo:Mo D} {ml mh ms:Option (Mo D)} (hv:Ev G hn n Z value mo) (h1:EvP G hn n Z lo ml) (h2:EvP G hn n Z hi mh) (h3:EvP G hn n Z st ms) :
    Ev G hn n Z (.Subscript value (.Slice lo hi st ps) pos) (fun fr σ=>match Mo.slice mo ml mh ms fr σ with
      | some (.val zs,σ')=>some (.val (.lst zs),σ')
      | _=>none):=by
  intro c env fr S s out σ' q hm
  dsimp only at hm
  split at hm
  rotate_left
  · exact nnS hm
  rename_i zs σ1 hs
  refine Tr.cast hm ?_
  (refine xEE (sliceE hs) fun da σ1 w20z=>?_; refine xEE w20z fun σ2 σ3 w21z=>?_; refine xEEEEAAAAAA w21z fun pl ph pt ds e1 e2 e3 e4 hl h0 q0z=>?_; subst q0z)
  intro Q E hq hx
  refine trSliceL hv h1 h2 h3 q e1 e2 e3 e4 hl h0 fun S' tk vs e' H' x' r' hz=>?_
  have hz':vs.toList.length ≤ sizeLine:=by simpa using hz
  exact hq _ rfl _ { S' with h:=S'.h.push { cls:=.type "list", data:=.seq vs } } tk e' (H'.push _).1 (x'.trans (H'.push _).2) (by have:=Rv.newLst H' r' hz' (nn:=0); simpa using this)
theorem Ev.slcR {value:Expr} {lo hi st:Option Expr} {ps pos:Pos} {mo:Mo D} {ml mh ms:Option (Mo D)} (hv:Ev G hn n Z value mo) (h1:EvP G hn n Z lo ml) (h2:EvP G hn n Z hi mh) (h3:EvP G hn n Z st ms) :
    Ev G hn n Z (.Subscript value (.Slice lo hi st ps) pos) (fun fr σ=>match Mo.slice mo ml mh ms fr σ with
      | some (.val zs,σ')=>some (.val (.ref σ'.length),σ' ++ [.lst zs])
      | _=>none):=by
  intro c env fr S s out σ' q hm
  dsimp only at hm
  split at hm
  rotate_left
  · exact nnS hm
  rename_i zs σ1 hs
  refine Tr.cast hm ?_
  (refine xEE (sliceE hs) fun da σ1 w22z=>?_; refine xEE w22z fun σ2 σ3 w23z=>?_; refine xEEEEAAAAAA w23z fun pl ph pt ds e1 e2 e3 e4 hl h0 q0z=>?_; subst q0z)
  intro Q E hq hx
  refine trSliceL hv h1 h2 h3 q e1 e2 e3 e4 hl h0 fun S' tk vs e' H' x' r' hz=>?_
  (refine xAA (H'.bornLst (a:=S'.h.objs.size) (h':=S'.h.push { cls:=.type "list", data:=.seq vs }) (fun _ _ e=>Heap.get?_push_of_some _ e) (Heap.get?_none_of_le (Nat.le_refl _)) (Heap.get?_push_size _ rfl) hz r') fun Hb xb rb=>?_)
  exact hq _ rfl _ ⟨S'.adr ++ [(S'.h.objs.size,S'.h.objs.size)],S'.σ ++ [.lst (sliceD ds pl ph pt)],S'.h.push { cls:=.type "list", data:=.seq vs }⟩ tk (by show S'.σ ++ _=_; rw [e']) Hb (x'.trans xb) (by rw [← e']; exact rb)
end
end Mine
end
section
open PySem PySem.W PyProof.Rows
namespace Mine
section
variable {G:Amb} {hn:Bool} {n:Nat} {Z:Scope} {c:Cx} {S:Gs} {s:Shared}
noncomputable def sliceS (x:PySem.Str) (lo hi:Option Int):PySem.Str:=if (Builtin.Str.strSliceIndices lo hi 1 x.length).length == x.length then x else ⟨((Builtin.Str.strSliceIndices lo hi 1 x.length).filterMap (x.cps[·]?)).toArray⟩
theorem Ev.slcS {value:Expr} {lo hi:Option Expr} {ps pos:Pos} {mo:Mo D} {ml mh:Option (Mo D)} (hv:Ev G hn n Z value mo) (h1:EvP G hn n Z lo ml) (h2:EvP G hn n Z hi mh) :
    Ev G hn n Z (.Subscript value (.Slice lo hi none ps) pos) (Mo.bind mo fun da=>Mo.bind (Mo.part ml) fun pl=>Mo.bind (Mo.part mh) fun ph _ σ=>match da with
      | .str x=>if (sliceS x pl ph).length ≤ sizeLine then some (.val (.str (sliceS x pl ph)),σ) else none
      | _=>none):=by
  intro c env fr S s out σ' q hm
  rw [arm_eval_Subscript]
  refine Tr.bindM hm (fun o1 σ1 e1=>hv c env fr S s o1 σ1 q e1) fun da va S1 tk H1 x1 ra hm1=>?_
  have q1:=q.step (tk:=tk) H1 x1
  intro Q E hq hx
  rw [arm_eval_Slice]
  refine wpAny_bind (wpAny_holding (wpAny_bind ?_))
  (refine xEEAA (bindO hm1) fun o3 σ3 h3 hX3 hV3=>?_)
  refine trPart h1 q1 h3 _ E (fun pl hb vl S2 tk2 e2 H2 x2 rl=>?_) fun X msg ho S' e h' tk e1 H' x' th=>?_
  rotate_left
  · exact hx X msg (hX3 X msg ho).1 S' e h' tk (e1.trans (hX3 X msg ho).2.symm) H' x' th
  have hm2:=hV3 pl hb
  rw [← e2] at hm2
  have q2:=q1.step (tk:=tk2) H2 x2
  refine wpAny_bind (wpAny_holding ?_)
  (refine xEEAA (bindO hm2) fun o4 σ4 h4 hX4 hV4=>?_)
  refine trPart h2 q2 h4 _ E (fun ph hb vu S3 tk3 e3 H3 x3 ru=>?_) fun X msg ho S' e h' tk e1 H' x' th=>?_
  rotate_left
  · exact hx X msg (hX4 X msg ho).1 S' e h' tk (e1.trans (hX4 X msg ho).2.symm) H' (x2.trans x') th
  have hm3:=hV4 ph hb
  rw [← e3] at hm3
  clear hV4 hX4 h4 hm2 hV3 hX3 h3 hm1 hm
  refine Classical.byContradiction fun nQ=>?_
  split at hm3
  rotate_left
  · exact nnS hm3
  rename_i x
  split at hm3
  rotate_left
  · exact nnS hm3
  rename_i hsz
  (have k1:=s2A hm3; have k2:=s2B hm3; clear hm3; subst k1 k2)
  (refine xEA ra.i_str fun t q0z hxl=>?_; subst q0z)
  refine nQ ?_
  clear nQ
  refine wpAny_bind (wpAny_holding ?_)
  show wpAny _ _ (Pure.pure Value.none) _ _ _
  refine wpAny_pure (wpAny_newObj_type ?_)
  refine Classical.byContradiction fun nQ=>?_
  (refine xA (H3.push { cls:=.type "slice", data:=.fields #[vl,vu,.none] }) fun H5 x5=>?_)
  have part:∀ {v p},RPart v p→∃ pt:Option (Int × Tok),v=partValue pt∧pt.map (·.1)=p:=fun {v p} h=>by
    cases p with
    | none=>cases h; exact ⟨none,rfl,rfl⟩
    | some i=>(refine xE h fun t q0z=>?_; try clear h; subst q0z); exact ⟨some (i,t),rfl,rfl⟩
  (refine xEA (part rl) fun l q0z el=>?_; subst q0z)
  (refine xEA (part ru) fun u q0z eu=>?_; subst q0z)
  refine nQ ?_
  clear nQ
  refine wpAny_bind (wpAny_standAt ?_)
  have hT:((ShT s (S3.h.push { cls:=.type "slice", data:=.fields #[partValue l,partValue u,.none] }) tk3):Shared).TypeIs (.str x t) "str" := typeIs_str _ x t
  refine wpAny_bind ?_
  rw [getitemInPython_of_ne hT.not_modules]
  refine wpAny_bind (wpAny_specialOf hT PySem.F.slot_str_getitem.lookup ?_)
  refine wpAny_pure ?_
  show wpAny _ _ (operate _ (getItem (.str x t) (.ref S3.h.objs.size)) >>= _) _ _ _
  refine wpAny_bind (wpAny_operating (wpAny_getItem_str_slice (l:=l) (u:=u) (st:=none) ⟨_,Heap.get?_push_size _ rfl,rfl,rfl⟩ rfl ?_))
  have fin:∀ (t':Tok) tk',wpAny G.M c.A (letTemporaryGo value (.str x t) (.str (sliceS x pl ph) t') >>= fun _=>Pure.pure (.str (sliceS x pl ph) t')) Q E (ShT s (S3.h.push { cls:=.type "slice", data:=.fields #[partValue l,partValue u,.none] }) tk'):=fun t' tk' =>
    wpAny_bind (wpAny_letTemporaryGo (wpAny_pure (hq _ rfl _ { S3 with h:=S3.h.push { cls:=.type "slice", data:=.fields #[partValue l,partValue u,.none] } } tk' rfl H5 ((x2.trans x3).trans x5) (.str _ _ hsz))))
  unfold sliceMade slicePicked
  rw [el,eu]
  unfold sliceS at fin hsz
  refine Classical.byContradiction fun nQ=>?_
  by_cases hc:((Builtin.Str.strSliceIndices pl ph 1 x.length).length == x.length)=true
  · rw [if_pos hc] at hsz
    simp only [hc,if_true] at fin
    refine nQ ?_
    clear nQ
    rw [if_pos (show ((((none:Option (Int × Tok)).map (·.1)).getD 1 == 1) && ((Builtin.Str.strSliceIndices pl ph (((none:Option (Int × Tok)).map (·.1)).getD 1) x.length).length == x.length))=true from hc)]
    exact fin t tk3
  · rw [if_neg hc] at hsz
    simp only [hc,if_false] at fin
    refine nQ ?_
    clear nQ
    rw [if_neg (show ¬ ((((none:Option (Int × Tok)).map (·.1)).getD 1 == 1) && ((Builtin.Str.strSliceIndices pl ph (((none:Option (Int × Tok)).map (·.1)).getD 1) x.length).length == x.length))=true from hc)]
    exact ⟨hsz,fin _ ⟨tk3.1 + 1,Nat.le_succ_of_le tk3.2⟩⟩
end
end Mine
end
section
open PySem PySem.W PyProof.Rows
namespace Mine
section
variable {G:Amb} {hn:Bool} {n:Nat} {Z:Scope} {c:Cx} {S:Gs} {s:Shared}
/-- a function of one argument -/
noncomputable def one1 (f:F1):Fm:=fun ds kd σ=>match ds,kd with
  | [d],[]=>f d σ
  | _,_=>none
noncomputable def one2 (f:F2):Fm:=fun ds kd σ=>match ds,kd with
  | [a,b],[]=>f a b σ
  | _,_=>none
theorem Ca.one {f:Value} {g:F1} (h:Op1 G hn n (fun v=>call f [v]) g):Ca G hn n f (one1 g):=by
  intro c S s vs ds kw kd out σ' q hv hk hm
  unfold one1 at hm
  split at hm
  · refine xEA (VRs.i_one hv) fun v e r1=>?_
    subst e
    cases kw with
    | nil=>exact h c S s _ _ out σ' q r1 hm
    | cons=>exact hk.elim
  · exact nnS hm
theorem Ca.two {f:Value} {g:F2} (h:Op2 G hn n (fun v w=>call f [v,w]) g):Ca G hn n f (one2 g):=by
  intro c S s vs ds kw kd out σ' q hv hk hm
  unfold one2 at hm
  split at hm
  · refine xEEAA (VRs.i_two hv) fun v w e r1 r2=>?_
    subst e
    cases kw with
    | nil=>exact h c S s _ _ _ _ out σ' q r1 r2 hm
    | cons=>exact hk.elim
  · exact nnS hm
/-- len -/
noncomputable def fLen:F1:=fun d σ=>match d with
  | .str x=>some (.val (.int x.length),σ)
  | .tup ds=>some (.val (.int ds.length),σ)
  | d=>(lstOf d σ).map fun ds=>(.val (.int ds.length),σ)
theorem Ca.len:Ca G hn n (.builtin "len") (one1 fLen):=Ca.one (by
  intro c S s v d out σ' q r hm
  unfold fLen at hm
  split at hm
  · refine Tr.cast hm ?_
    (refine xEA r.i_str fun t q0z hx=>?_; subst q0z)
    exact Tr.tok q.H q.heap fun Q E hq=>PyProof.Rows.len_str (by have:=sizeLine63 hx; omega) (hq _ _ (.int _ _))
  · refine Tr.cast hm ?_
    (refine xEEEEAAAAAA r.i_tup fun _ _ _ _ q0z h1 h2 h3 h4 h5 h6=>?_; subst q0z)
    · have hl:=VRs.length h6
      exact Tr.tok q.H q.heap fun Q E hq=>PyProof.Rows.len_tuple ⟨_,by rw [q.heap]; exact h1,h2,_,h3⟩ (sizeLine63 h4) (by rw [← hl] at hq; simpa using hq _ (s.toks + 1 + 1) (.int _ (s.toks + 1)))
  · (refine xEA (Option.map_eq_some_iff.mp hm) fun ds hds e=>?_)
    (have k1:=p2A e; have k2:=p2B e; clear e; subst k1 k2)
    (refine xEEAAA (lstOf_ok q.H r hds) fun a vs q0z hl hz hr=>?_; subst q0z)
    have hlen:=VRs.length hr
    exact Tr.tok q.H q.heap fun Q E hq=>Calls.call_len_list (by rw [q.heap]; exact hl) (sizeLine63 hz) (by rw [← hlen] at hq; simpa using hq _ (s.toks + 1 + 1) (.int _ (s.toks + 1))))
/-- type -/
noncomputable def fType:F1:=fun d σ=>match d with
  | .str _=>some (.val (.glob (.type "str")),σ)
  | .int _=>some (.val (.glob (.type "int")),σ)
  | .tup _=>some (.val (.glob (.type "tuple")),σ)
  | d=>(lstOf d σ).map fun _=>(.val (.glob (.type "list")),σ)
theorem Ca.type:Ca G hn n (.type "type") (one1 fType):=Ca.one (by
  intro c S s v d out σ' q r hm
  unfold fType at hm
  split at hm
  · refine Tr.cast hm ?_; (refine xEA r.i_str fun _ q0z _=>?_; subst q0z)
    exact Tr.tok q.H q.heap fun Q E hq=>call_type_of (typeIs_str s _ _) (by decide) (hq _ s.toks (.glob _))
  · refine Tr.cast hm ?_; (refine xE r.i_int fun _ q0z=>?_; subst q0z)
    exact Tr.tok q.H q.heap fun Q E hq=>call_type_of (typeIs_int s _ _) (by decide) (hq _ s.toks (.glob _))
  · refine Tr.cast hm ?_
    (refine xEEEEAAAAAA r.i_tup fun _ _ _ _ q0z h1 h2 h3 h4 h5 h6=>?_; subst q0z)
    · exact Tr.tok q.H q.heap fun Q E hq=>call_type_of ⟨_,by rw [q.heap]; exact h1,h2⟩ (by decide) (hq _ s.toks (.glob _))
  · (refine xEA (Option.map_eq_some_iff.mp hm) fun ds hds e=>?_)
    (have k1:=p2A e; have k2:=p2B e; clear e; subst k1 k2)
    (refine xEEAAA (lstOf_ok q.H r hds) fun a vs q0z q1z hz hr=>?_; subst q0z; refine xEAA q1z fun o ho hc _=>?_)
    exact Tr.tok q.H q.heap fun Q E hq=>call_type_of ⟨o,by rw [q.heap]; exact ho,hc⟩ (by decide) (hq _ s.toks (.glob _)))
/-- chr -/
noncomputable def fChr:F1:=fun d σ=>match d with
  | .int i=>if 0 ≤ i∧i ≤ 1114111 then some (.val (.str ⟨#[i.toNat]⟩),σ) else none
  | _=>none
/-- range -/
noncomputable def fRng:Fm:=fun ds kd σ=>match ds,kd with
  | [.int b],[]=>some (.val (.rng 0 b),σ)
  | [.int a,.int b],[]=>some (.val (.rng a b),σ)
  | _,_=>none
theorem fRng_inv {ds:List D} {kd:List (PySem.Str × D)} {σ:List AO} {r:Out D × List AO} (h:fRng ds kd σ=some r) {X:Prop} (k1:∀ b,ds=[.int b]→kd=[]→some (.val (.rng 0 b),σ)=some r→X) (k2:∀ a b,ds=[.int a,.int b]→kd=[]→some (.val (.rng a b),σ)=some r→X):X:=by
  cases ds with
  | nil=>exact nnS h
  | cons d ds=>cases d with
    | none | bool | str | tup | lst | dct | ref | glob | exc | rng=>exact nnS h
    | int a=>cases ds with
      | nil=>cases kd with
        | nil=>exact k1 a rfl rfl h
        | cons=>exact nnS h
      | cons e ds=>cases e with
        | none | bool | str | tup | lst | dct | ref | glob | exc | rng=>exact nnS h
        | int b=>cases ds with
          | cons=>exact nnS h
          | nil=>cases kd with
            | nil=>exact k2 a b rfl rfl h
            | cons=>exact nnS h
theorem Ca.range:Ca G hn n (.type "range") fRng:=by
  intro c S s vs ds kw kd out σ' q hv hk hm
  refine fRng_inv hm (fun b e1 e2 hm=>?_) fun a b e1 e2 hm=>?_
  · refine Tr.cast hm ?_
    clear hm
    rw [e1] at hv
    rw [e2] at hk
    (refine xEA (VRs.i_one hv) fun v q0z r1=>?_; subst q0z)
    (refine xE r1.i_int fun t q0z=>?_; subst q0z)
    obtain rfl:=Rbs.i_nil hk
    refine Tr.of_wp fun Q E hq=>call_range_1 ?_
    have:=hq (.ref S.h.objs.size) { S with h:=S.h.push { cls:=.type "range", data:=.fields #[.int 0 s.toks,.int b t,.int 1 (s.toks + 1)] } } (s.toks + 1 + 1) rfl (q.H.push _).1 (q.H.push _).2 (.rng (IsRange.new ..) q.H.size_notin)
    rw [← q.heap] at this; exact this
  · refine Tr.cast hm ?_
    clear hm
    rw [e1] at hv
    rw [e2] at hk
    (refine xEEAA (VRs.i_two hv) fun v1 v2 q0z r1 r2=>?_; subst q0z)
    (refine xE r1.i_int fun t q0z=>?_; subst q0z)
    (refine xE r2.i_int fun u q0z=>?_; subst q0z)
    obtain rfl:=Rbs.i_nil hk
    refine Tr.of_wp fun Q E hq=>call_range_2 ?_
    have:=hq (.ref S.h.objs.size) { S with h:=S.h.push { cls:=.type "range", data:=.fields #[.int a t,.int b u,.int 1 s.toks] } } (s.toks + 1) rfl (q.H.push _).1 (q.H.push _).2 (.rng (IsRange.new ..) q.H.size_notin)
    rw [← q.heap] at this; exact this
/-- list of a list, list of a string -/
theorem trListL {v:Value} {d:D} {ds:List D} (q:Ho G hn n c S s) (r:Rv G c S v d) (h:lstOf d S.σ=some ds) {Q:Value→Shared→Prop} {E:Value→Shared→Prop}
    (hq:∀ h' vs cc,(∀ b o,S.h.get? b=some o→h'.get? b=some o)→h'.get? S.h.objs.size=some { cls:=.type "list", data:=.seq vs cc }→vs.size ≤ sizeLine→Rvs G c S vs.toList ds→Q (.ref S.h.objs.size) { s with heap:=h' }):wpAny G.M c.A (call (.type "list") [v]) Q E s:=by
  (refine xEEAAA (lstOf_ok q.H r h) fun a vs q0z q1z hz hr=>?_; subst q0z; refine xEAAE q1z fun o ho hc m hd=>?_)
  refine call_list_seq (hsz:=hz) a (.inl rfl) (by rw [q.heap]; exact ho) hc hd fun h' c' hk hD=>?_
  rw [q.heap] at hk hD ⊢
  exact hq h' vs c' hk hD hz hr
theorem Op1.listR:Op1 G hn n (fun v=>call (.type "list") [v]) (fun d σ=>(lstOf d σ).map fun ds=>(.val (.ref σ.length),σ ++ [.lst ds])):=by
  intro c S s v d out σ' q r hm
  (refine xEA (Option.map_eq_some_iff.mp hm) fun ds hds e=>?_)
  (have k1:=p2A e; have k2:=p2B e; clear e; subst k1 k2)
  refine Tr.of_wp fun Q E hq=>trListL q r hds fun h' vs cc hk hD hz hr=>?_
  (refine xAA (q.H.bornLst (a:=S.h.objs.size) hk (Heap.get?_none_of_le (Nat.le_refl _)) hD hz hr) fun Hb xb rb=>?_)
  exact hq _ _ s.toks rfl Hb xb rb
/-- sum of a list of ints -/
noncomputable def intsOf:List D→Option (List Int)
  | []=>some []
  | .int i :: ds=>(intsOf ds).map (i :: ·)
  | _=>none
theorem intsOf_rel {P:Params} {adr:Adr} {V:List Addr} {h:Heap} {vs:List Value} {ds:List D} {ns:List Int} (r:VRs P adr V h vs ds) (e:intsOf ds=some ns):∀ (i:Nat) v,vs[i]? = some v→∃ t,v = .int (ns.getD i 0) t :=
  VRs.ind (C:=fun vs ds=>∀ ns,intsOf ds=some ns→∀ (i:Nat) v,vs[i]? = some v→∃ t,v = .int (ns.getD i 0) t) (fun _ _ _ _ h=>nnS h)
    (fun v d vs ds r _ ih ns e i w hw=>by
      cases d with
      | int k =>
        (refine xEA (Option.map_eq_some_iff.mp e) fun ms hms e'=>?_)
        clear e
        subst e'
        cases i with
        | zero=>exact (Option.some.inj hw) ▸ r.i_int
        | succ i=>exact ih ms hms i w hw
      | _=>exact nnS e) r ns e
theorem intsOf_len:∀ {ds:List D} {ns:List Int},intsOf ds=some ns→ns.length=ds.length
  | [],_,e=>by (have k1:=s1E e; clear e; subst k1); rfl
  | d :: ds,ns,e=>by
    cases d with
    | int k =>
      (refine xEA (Option.map_eq_some_iff.mp e) fun ms hms e'=>?_)
      subst e'
      simp [intsOf_len hms]
    | _=>exact nnS e
theorem preSum_list:∀ (ns:List Int) (k:Nat),k ≤ ns.length→preSum (fun i=>ns.getD i 0) k=(ns.take k).sum
  | ns,0,_=>by simp [preSum]
  | ns,k + 1,h=>by
    rw [preSum,preSum_list ns k (by omega),List.take_add_one,List.sum_append]
    rw [List.getElem?_eq_getElem (by omega)]
    simp [List.getD_eq_getElem?_getD,List.getElem?_eq_getElem (show k < ns.length by omega)]
noncomputable def fSum:F1:=fun d σ=>(lstOf d σ).bind fun ds=>(intsOf ds).map fun ns=>(.val (.int ns.sum),σ)
theorem Ca.sum:Ca G true n (.builtin "sum") (one1 fSum):=Ca.one (by
  intro c S s v d out σ' q r hm
  (refine xEA (Option.bind_eq_some_iff.mp hm) fun ds hds hm=>?_)
  (refine xEA (Option.map_eq_some_iff.mp hm) fun ns hns e=>?_)
  (have k1:=p2A e; have k2:=p2B e; clear e; subst k1 k2)
  (refine xEEAAA (lstOf_ok q.H r hds) fun a vs q0z hl hz hr=>?_; subst q0z)
  have hlen:vs.size=ns.length:=by rw [intsOf_len hns]; simpa using VRs.length hr
  refine Tr.of_wp fun Q E hq=>call_sum_walkG ?_
  have hl':s.heap.IsList a vs:=by rw [q.heap]; exact hl
  have hne:a ≠ s.heap.objs.size:=by (refine xEA hl' fun o ho _=>?_; try clear hl'); exact Nat.ne_of_lt (Heap.lt_size ho)
  refine wpAny_pyIter_list hl' ⟨_,_,_,_,_,_,fun i=>ns.getD i 0,rfl,Walks.list (A:=c.A.in1) (q.hand rfl) s.heap.objs.size a hne vs,⟨⟨_,Heap.get?_push_size _ rfl,rfl,rfl⟩,hl'.push _⟩,fun b hb=>?_,fun i v hv=>intsOf_rel hr hns i v (by simpa using hv),fun h' tk t' hk=>?_⟩
  · rw [Heap.size_push]
    rcases List.mem_cons.mp hb with rfl | hb
    · exact Nat.lt_succ_self _
    · rcases List.mem_singleton.mp hb with rfl
      (refine xEA hl' fun o ho _=>?_; try clear hl')
      exact Nat.lt_succ_of_lt (Heap.lt_size ho)
  · have hk':∀ b o,S.h.get? b=some o→h'.get? b=some o:=fun b o e=>by
      rw [← q.heap] at e
      exact hk b o (fun hm=>by rcases List.mem_singleton.mp hm with rfl; exact Nat.lt_irrefl _ (Heap.lt_size e)) (Heap.get?_push_of_some _ e)
    (refine xA (q.H.grow hk') fun H1 x1=>?_)
    rw [hlen,preSum_list ns ns.length (Nat.le_refl _),List.take_length]
    exact hq _ { S with h:=h' } tk rfl H1 x1 (.int _ _))
end
end Mine
end
section
open PySem PySem.W PyProof.Rows
namespace Mine
section
variable {G:Amb} {hn:Bool} {n:Nat} {Z:Scope} {c:Cx} {S:Gs} {s:Shared}
noncomputable def isStr:D→List AO→Bool
  | .str _,_=>true
  | _,_=>false
set_option maxRecDepth 100000 in
theorem Gm.str {name:PySem.Str} {id:String} (slot:Slot "str" name id) (hty:typeOf (.builtin id)=pure (.type "method_descriptor")):Gm G name isStr (.builtin id):=by
  intro c S s v d pl Q E H hs r hP hq
  unfold isStr at hP
  split at hP
  · rename_i x
    refine xEA (VR.i_str r) fun t ev hx=>?_
    subst ev
    have h1:=hq s.toks
    exact getMethod_builtin (T := "str") (v:=.str x t) (typeIs_str s x t) PySem.F.plainAttrs_str slot hty (fun a e=>by exact nAny PySem.Value.ctorIdx e rfl) h1
  · exact nFT hP
noncomputable def isRefL (d:D) (σ:List AO):Bool:=match d with
  | .ref k=>match σ[k]? with
    | some (.lst _)=>true
    | _=>false
  | _=>false
theorem isRefL_of {d:D} {σ:List AO} (h:isRefL d σ=true):∃ k ds,d = .ref k∧σ[k]? = some (.lst ds):=by
  unfold isRefL at h
  split at h
  · split at h
    · rename_i k _ ds hk; exact ⟨k,ds,rfl,hk⟩
    · exact nFT h
  · exact nFT h
theorem Gm.lst {name:PySem.Str} {id:String} (slot:Slot "list" name id) (hty:typeOf (.builtin id)=pure (.type "method_descriptor")):Gm G name isRefL (.builtin id):=by
  intro c S s v d pl Q E H hs r hP hq
  (refine xEEA (isRefL_of hP) fun k ds q0z hk=>?_; subst q0z)
  (refine xEEEAAAA (H.lstX r hk) fun p m vs q0z hp ho hz hr=>?_; subst q0z)
  exact getMethod_builtin ⟨_,by rw [hs]; exact ho,rfl⟩ PySem.F.plainAttrs_list slot hty (fun a e=>by (have k1:=Value.ref.inj e; clear e; subst k1); exact ⟨_,by rw [hs]; exact ho,rfl⟩) (hq s.toks)
/-- append -/
noncomputable def fAppend:F2:=fun a b σ=>match a with
  | .ref k=>match σ[k]? with
    | some (.lst ds)=>if ds.length + 1 ≤ sizeLine then some (.val .none,σ.set k (.lst (ds ++ [b]))) else none
    | _=>none
  | _=>none
theorem Ca.append:Ca G hn n (.builtin "list.append") (one2 fAppend):=Ca.two (by
  intro c S s va vb da db out σ' q ra rb hm
  unfold fAppend at hm
  split at hm
  · split at hm
    · rename_i k _ ds hk
      split at hm
      · rename_i hsz
        refine Tr.cast hm ?_
        (refine xEEEAAAA (q.H.lstX ra hk) fun p m vs q0z hp ho hz hr=>?_; subst q0z)
        have hlen:=VRs.length hr
        refine Tr.of_wp fun Q E hq=>append_isL (by rw [q.heap]; exact ho) hz fun h' n' hl' hs'=>?_
        rw [q.heap] at hs'
        (refine xA (q.H.setLst (ds':=ds ++ [db]) hp hk hs' hl' (by rw [Array.size_push]; simp at hlen; omega) (by rw [Array.toList_push]; exact VRs.append hr (VRs.one rb))) fun H1 x1=>?_)
        exact hq .none ⟨S.adr,S.σ.set k (.lst (ds ++ [db])),h'⟩ s.toks rfl H1 x1 .none
      · exact nnS hm
    · exact nnS hm
  · exact nnS hm)
end
end Mine
end
section
open PySem PySem.W PyProof.Rows
namespace Mine
section
variable {G:Amb} {hn:Bool} {n:Nat} {Z:Scope} {c:Cx} {S:Gs} {s:Shared}
noncomputable def mfCls (C:Addr) (mfI:Fm):Fm:=fun ds kd σ=>match mfI (.ref σ.length :: ds) kd (σ ++ [.ins C []]) with
  | some (.val .none,σ')=>some (.val (.ref σ.length),σ')
  | some (.exc X msg,σ')=>some (.exc X msg,σ')
  | _=>none
theorem units_tc (vs:List Value) (kw:List (PySem.Str × Value)):(Code.builtin "type.__call__" ⟨vs,kw⟩).cUnits ≤ 2:=by
  have:(Code.builtin "type.__call__" ⟨vs,kw⟩).cUnits=(Code.builtin "type.__call__" ⟨[],[]⟩).cUnits:=rfl
  rw [this]; decide +kernel
theorem Fn.cls {C fI:Addr} {mfI:Fm} (hm:makesIn G.K C=true) (hi:findIn G.K (.ref C) "__init__" = some (some (.ref fI))) (hf:typeIn G.K (.ref fI)=some (.type "function")) (h:Fn G hn n fI mfI):Fn G hn (n + 1) C (mfCls C mfI):=by
  intro c S s vs ds kw kd out σ' q hv hk hmm Q E hq hx
  obtain ⟨hh,g,d,tk,os⟩:=s
  have hheap:hh=S.h:=q.heap
  subst hheap
  have X:=q.H.kin
  refine make_core (makes_of X hm) (looks_findIn X hi) (fun self=>bind_fn X self hf) (.inl rfl) ?_
  -- the new object in the store
  have gX:((S.h.push emptyDict).push (instObj C S.h.objs.size)).get? (S.h.objs.size + 1)=some (instObj C S.h.objs.size):=by
    have:=Heap.get?_push_size (S.h.push emptyDict) (o:=instObj C S.h.objs.size) rfl
    rwa [Heap.size_push] at this
  have gD:((S.h.push emptyDict).push (instObj C S.h.objs.size)).get? S.h.objs.size=some emptyDict:=Heap.get?_push_of_some _ (Heap.get?_push_size _ rfl)
  obtain ⟨HB,xB⟩:=q.H.born (p:=(S.h.objs.size + 1,S.h.objs.size)) (o:=.ins C []) (h':=(S.h.push emptyDict).push (instObj C S.h.objs.size)) (fun b o e=>Heap.get?_push_of_some _ (Heap.get?_push_of_some _ e))
    (fun a ha=>by
      cases ha with
      | head=>exact ⟨Heap.get?_none_of_le (Nat.le_succ _),_,gX⟩
      | tail _ ha=>cases ha with
        | head=>exact ⟨Heap.get?_none_of_le (Nat.le_refl _),_,gD⟩
        | tail _ ha=>cases ha)
    (by
      show [S.h.objs.size + 1,S.h.objs.size].Nodup
      refine List.nodup_cons.mpr ⟨fun hm=>?_,List.nodup_cons.mpr ⟨List.not_mem_nil,.nil⟩⟩
      have:=List.mem_singleton.mp hm
      omega)
    (fun x=>⟨gX,#[],0,gD,.nil⟩)
  have hA:(c.A.under (.builtin "type.__call__" ⟨.ref C :: vs,kw⟩)).frames=c.A.frames:=by
    unfold Around.under
    cases c.A.frames <;> rfl
  have HU:Heaps G { c with A:=c.A.under (.builtin "type.__call__" ⟨.ref C :: vs,kw⟩) } ⟨S.adr ++ [(S.h.objs.size + 1,S.h.objs.size)],S.σ ++ [.ins C []],(S.h.push emptyDict).push (instObj C S.h.objs.size)⟩:=HB.setA hA
  have qU:Ho G hn n { c with A:=c.A.under (.builtin "type.__call__" ⟨.ref C :: vs,kw⟩) } ⟨S.adr ++ [(S.h.objs.size + 1,S.h.objs.size)],S.σ ++ [.ins C []],(S.h.push emptyDict).push (instObj C S.h.objs.size)⟩ ⟨(S.h.push emptyDict).push (instObj C S.h.objs.size),g,d,tk,os⟩ :=
    ⟨by show c.A.depth + 1 + 3 * n < recursionLimit; have:=q.room; omega,by
      have hu:(c.A.under (.builtin "type.__call__" ⟨.ref C :: vs,kw⟩)).units ≤ c.A.units + 2:=by
        show c.A.units + _ ≤ _
        exact Nat.add_le_add_left (units_tc _ _) _
      have:=q.units
      show (c.A.under (.builtin "type.__call__" ⟨.ref C :: vs,kw⟩)).units + 30 * n < cLine
      omega,q.hand,rfl,q.tok,HU⟩
  have rx:Rv G c ⟨S.adr ++ [(S.h.objs.size + 1,S.h.objs.size)],S.σ ++ [.ins C []],(S.h.push emptyDict).push (instObj C S.h.objs.size)⟩ (.ref (S.h.objs.size + 1)) (.ref S.σ.length):=by
    refine .ref (p:=(S.h.objs.size + 1,S.h.objs.size)) ?_
    show (S.adr ++ [_])[S.σ.length]? = _
    rw [← q.H.len,List.getElem?_append_right (Nat.le_refl _),Nat.sub_self]; rfl
  unfold mfCls at hmm
  cases hI:mfI (.ref S.σ.length :: ds) kd (S.σ ++ [.ins C []]) with
  | none=>rw [hI] at hmm; exact nnS hmm
  | some pr =>
    obtain ⟨o,σ1⟩:=pr
    rw [hI] at hmm
    have call:=h { c with A:=c.A.under (.builtin "type.__call__" ⟨.ref C :: vs,kw⟩) } _ _ (.ref (S.h.objs.size + 1) :: vs) (.ref S.σ.length :: ds) kw kd o σ1 qU (.cons rx (show Rvs G c _ vs ds from Rvs.ext hv xB)) (Rbs.cx (c:=c) (c':={ c with A:=c.A.under (.builtin "type.__call__" ⟨.ref C :: vs,kw⟩) }) rfl rfl (Rbs.ext xB hk)) hI
      (fun v s'=>v = .none∧Q (.ref (S.h.objs.size + 1)) s') E (fun b hb a S' tk' e' H' x' r'=>by
        subst hb
        cases b with
        | none =>
          (have k1:=s2A hmm; have k2:=s2B hmm; clear hmm; subst k1 k2)
          have ev:=VR.i_none r'
          subst ev
          have x'':Ext c ⟨S.adr ++ [(S.h.objs.size + 1,S.h.objs.size)],S.σ ++ [.ins C []],(S.h.push emptyDict).push (instObj C S.h.objs.size)⟩ S':=⟨x'.adr,x'.keep,x'.fresh,x'.live⟩
          exact ⟨rfl,hq _ rfl _ S' tk' e' (H'.setA hA.symm) (xB.trans x'') (Rv.ext rx x'')⟩
        | _=>exact nnS hmm) (fun X' msg ho S' e h' tk' e' H' x' th=>by
        subst ho
        (have k1:=s2A hmm; have k2:=s2B hmm; clear hmm; subst k1 k2)
        have x'':Ext c ⟨S.adr ++ [(S.h.objs.size + 1,S.h.objs.size)],S.σ ++ [.ins C []],(S.h.push emptyDict).push (instObj C S.h.objs.size)⟩ S':=⟨x'.adr,x'.keep,x'.fresh,x'.live⟩
        exact hx _ _ rfl S' e h' tk' e' (H'.setA hA.symm) (xB.trans x'') th)
    refine codeAny_mono call fun r s' z=>?_
    rcases r with e | (v | _ | _ | _) <;> first | exact z | exact z.elim
end
end Mine
end
section
open PySem PySem.W PyProof.Rows PySem.Calls Builtin Builtin.ObjectAttr Builtin.Getset_descriptor
set_option maxRecDepth 100000
namespace Mine
section
variable {prog:Program} {w:World} {A:Around} {s:Shared} {K:Frag} {x C dx:Addr} {R:Result→Shared→Prop}
theorem osaDict {ox od od':Obj} {name:PySem.Str} {tk:Tok} {v:Value} {es:List DictEntry} {n:Nat} (X:K.In s.heap)
    (I:InstAt s.heap x ox C (some od)) (hd:ox.dict=some dx) (hD:s.heap.get? dx=some od) (hp:plainOver K C=true) (ht:takerIn K C name=some none) (hh:(clsIn K C).any (·.hasDict)=true)
    (hl:(lookIn name od).isSome=true) (e:Obj.putName name (PyData.keyHash w.params name) (.str name s.toks) v od=od') (e':od'.data = .dict es.toArray n) (hz:es.length ≤ 1000)
    (h:R (.ok (.ret .none)) (ShN s (s.heap.update dx (Obj.putName name (PyData.keyHash w.params name) (.str name s.toks) v)) (s.toks + 1))) :
    codeAny (model prog w) A (.call (.builtin "object.__setattr__") ⟨[.ref x,.str name tk,v],[]⟩) R s:=by
  refine osa_open X I hp ht fun b=>?_
  (refine xEA (any_some hh) fun cd hc hd'=>?_)
  have hfr:od'.isFreed=false:=by obtain ⟨_,_,dd,_⟩:=od'; cases e'; rfl
  have D':(s.heap.update dx (Obj.putName name (PyData.keyHash w.params name) (.str name s.toks) v)).get? dx=some od':=by
    have:=Heap.get?_update_self (Obj.putName name (PyData.keyHash w.params name) (.str name s.toks) v) hD (by rw [e]; exact hfr)
    rw [e] at this; exact this
  obtain ⟨hx,hcl,hn,-⟩:=I
  obtain ⟨oc,odi,oda,osl⟩:=ox
  dsimp only at hcl hd
  subst hcl hd
  refine wpAny_bind (wpAny_pure (wpAny_bind (wpAny_bind (wpAny_loadPart hx (wpAny_bind ((looks_clsIn X hc).here ?_))))))
  rw [hd']
  refine wpAny_pure (a:=some dx) (wpAny_bind (wpAny_pure (wpAny_bind ?_)))
  unfold nsSet
  refine wpAny_bind (wpAny_bind (wpAny_askSetting (wpAny_pure (wpAny_bind (wpAny_mkText (wpAny_bind (wpAny_loadPart hD ?_)))))))
  unfold lookIn at hl
  split at hl
  · rename_i es₀ n₀ q
    rw [q]
    dsimp only
    have c:(!es₀.any (·.key.isStr name) && es₀.any (·.refKey))=false:=by
      rw [← Array.any_toList,← Array.any_toList]
      split at hl
      · rename_i en he
        rw [List.any_eq_true.mpr ⟨en,List.mem_of_find?_eq_some he,List.find?_some he⟩]; rfl
      · split at hl
        · exact nFT hl
        · rename_i z; rw [Bool.not_eq_true] at z; rw [z,Bool.and_false]
    rw [aRefKeyMayBeTheName_at,c]
    refine wpAny_updatePart hD ?_
    refine wpAny_bind (wpAny_lookBehind D' (by rw [e']; exact pastItsLine_dict (by rw [List.size_toArray,sizeLine_eq]; omega)) ?_)
    exact wpAny_pure h
  · exact nFT hl
end
theorem putL_new {name:PySem.Str} {hsh:Int} {key v:Value} : ∀ {es:List DictEntry},(∀ e ∈ es,e.key.isStr name=false)→putL name hsh key v es=es ++ [⟨hsh,key,v⟩]∧es.any (·.key.isStr name)=false
  | [],_=>⟨rfl,rfl⟩
  | e :: es,h=>by
    have h1:=h e (.head _)
    (refine xA (putL_new (hsh:=hsh) (key:=key) (v:=v) fun x hx=>h x (.tail _ hx)) fun h2 h3=>?_)
    unfold putL
    rw [h1]
    refine ⟨by rw [if_neg (by decide),h2]; rfl,by rw [List.any_cons,h1,h3]; rfl⟩
theorem VRe.noName {P:Params} {adr:Adr} {V:List Addr} {h:Heap} {name:PySem.Str} {es:List DictEntry} {at_:List (PySem.Str × D)} (r:VRe P adr V h es at_) (hl:at_.lookup name=none):∀ e ∈ es,e.key.isStr name=false :=
  VRe.ind (C:=fun es at_=>at_.lookup name=none→∀ e ∈ es,e.key.isStr name=false) (fun _ _ he=>nomatch he)
    (fun e x t d es ds hk _ _ _ ih hl e' he=>by
      rw [List.lookup_cons] at hl
      by_cases q:name=x
      · subst q; rw [beq_self_eq_true] at hl; exact nSn hl
      · rw [beq_eq_false_iff_ne.mpr q] at hl
        rcases List.mem_cons.mp he with rfl | he
        · rw [hk]
          exact beq_eq_false_iff_ne.mpr fun e:x=name=>q e.symm
        · exact ih hl e' he) r hl
theorem VRe.snoc {P:Params} {adr:Adr} {V:List Addr} {h:Heap} {x:PySem.Str} {t:Tok} {v:Value} {d:D} (rv:VR P adr V h v d) {es:List DictEntry} {at_:List (PySem.Str × D)} (r:VRe P adr V h es at_):VRe P adr V h (es ++ [⟨PyData.keyHash P x,.str x t,v⟩]) (at_ ++ [(x,d)]) :=
  VRe.ind (C:=fun es at_=>VRe P adr V h (es ++ [⟨PyData.keyHash P x,.str x t,v⟩]) (at_ ++ [(x,d)])) (.cons rfl rfl rv .nil) (fun _ _ _ _ _ _ hk hh hv _ ih=>.cons hk hh hv ih) r
section
variable {G:Amb} {hn:Bool} {n:Nat} {Z:Scope} {c:Cx} {S:Gs} {s:Shared}
noncomputable def Mf.setA (C:Addr) (name:PySem.Str) (mo:Mo D) (d:D):Mf Unit:=Mf.bind (Mf.lift mo) fun o fr σ=>match o with
  | .ref k=>match σ[k]? with
    | some (.ins C' at_)=>if C'=C∧at_.lookup name=none∧at_.length < 900 then some (.val (),fr,σ.set k (.ins C (at_ ++ [(name,d)]))) else none
    | _=>none
  | _=>none
theorem VRe.length {P:Params} {adr:Adr} {V:List Addr} {h:Heap} {es:List DictEntry} {at_:List (PySem.Str × D)} (r:VRe P adr V h es at_):es.length=at_.length :=
  VRe.ind (C:=fun es at_=>es.length=at_.length) rfl (fun _ _ _ _ _ _ _ _ _ _ ih=>congrArg (· + 1) ih) r
theorem As.attr {o:Expr} {name:PySem.Str} {pos:Pos} {C:Addr} {mo:Mo D} (ho:Ev G hn n Z o mo) (hs:findIn G.K (.ref C) "__setattr__" = some (some (.builtin "object.__setattr__"))) (hp:plainOver G.K C=true) (ht:takerIn G.K C name=some none) (hh:hasDictIn G.K C=true) :
    As G hn n Z (.Attribute o name pos) (Mf.setA C name mo):=by
  intro c env fr S s v d out fr' σ' q r hm
  show TrF G c env S s _ (do let ov ← PySem.holding [v] (eval o env); PySem.standAt pos.atName; PySem.holding [v,ov] (setAttr ov name v); release [v,ov] []) out fr' σ'
  refine TrF.bindE q hm (fun o1 σ1 e1=>(ho c env fr S s o1 σ1 q e1).holding) fun od ov S1 tk q1 x1 r1 e2=>?_
  split at e2
  · rename_i k
    split at e2
    · rename_i C' at_ hk
      split at e2
      · rename_i hc
        (refine xAA hc fun q0z hl hlen=>?_; try clear hc; subst q0z)
        refine TrF.cast e2 ?_
        refine TrF.standAt ?_
        intro Q E hq hx
        (refine xEEEAAAAA (q1.H.instX r1 hk) fun p es m q0z hpa I hD hX re=>?_; subst q0z)
        have rv:=r.ext x1
        have nn:=VRe.noName re hl
        have put:∀ (t:Tok),Obj.putName name (PyData.keyHash G.w.params name) (.str name t) v (dictOf es m)=dictOf (es ++ [⟨PyData.keyHash G.w.params name,.str name t,v⟩]) (m + 1):=fun t=>by
          rw [putName_dict]
          (refine xA (putL_new (hsh:=PyData.keyHash G.w.params name) (key:=.str name t) (v:=v) nn) fun e1 e2=>?_)
          unfold putN
          rw [e1,e2]; rfl
        have hgl:(lookIn name (dictOf es m)).isSome=true:=by
          show (W.getL name es).isSome=true
          rw [(VRe.getL name re).1 hl]; rfl
        have hle:=VRe.length re
        refine wpAny_bind (wpAny_holding (set_plain q1.H.kin I hs (osaDict (s:=(ShT s S1.h ⟨tk.1 + 1,Nat.le_succ_of_le tk.2⟩)) (n:=m + 1) (es:=es ++ [⟨PyData.keyHash G.w.params name,.str name (tk.1 + 1),v⟩]) q1.H.kin I rfl hD hp ht hh hgl (put _) rfl (by rw [List.length_append]; simp; omega) ?_)))
        have hne:p.2 ≠ p.1:=fun e=>by
          rw [e,hX] at hD
          cases hD
        have same:∀ b x,b ∉ regOf p (.ins C' at_)→S1.h.get? b=some x→(S1.h.update p.2 (Obj.putName name (PyData.keyHash G.w.params name) (.str name (tk.1 + 1)) v)).get? b=some x:=fun b x hb e=>(Heap.get?_update_other _ _ (fun z:p.2=b=>hb (by rw [← z]; exact .tail _ (.head _)))).trans e
        have gD:(S1.h.update p.2 (Obj.putName name (PyData.keyHash G.w.params name) (.str name (tk.1 + 1)) v)).get? p.2=some (dictOf (es ++ [⟨PyData.keyHash G.w.params name,.str name (tk.1 + 1),v⟩]) (m + 1)):=by
          have:=Heap.get?_update_self (Obj.putName name (PyData.keyHash G.w.params name) (.str name (tk.1 + 1)) v) hD (by rw [put]; rfl)
          rw [put] at this; exact this
        have gX:(S1.h.update p.2 (Obj.putName name (PyData.keyHash G.w.params name) (.str name (tk.1 + 1)) v)).get? p.1=some (instObj C' p.2):=(Heap.get?_update_other _ _ hne).trans hX
        have inReg:∀ a ∈ regOf p (.ins C' at_),a ∈ S1.reg:=fun a ha=>reg_mem hpa hk a ha
        obtain ⟨H2,x2⟩:=q1.H.turn (o':=.ins C' (at_ ++ [(name,d)])) hpa hk (List.Sublist.refl _) same (fun b hb=>by
            cases hb with
            | head=>exact ⟨_,gX⟩
            | tail _ hb=>cases hb with
              | head=>exact ⟨_,gD⟩
              | tail _ hb=>cases hb)
          ⟨gX,_,m + 1,gD,by
            have:=VRe.mono (V:=vol c S1) (h:=S1.h) (fun a x hn e=>same a x (fun z=>hn (List.mem_append_left _ (inReg a z))) e) (.refl _) (.of_sub _ fun _ h=>h) re
            exact VRe.snoc (Rv.mv rv fun b x hb e=>same b x (fun z=>hb (inReg b z)) e) this⟩
        refine wpAny_release ?_
        exact hq () rfl () ⟨S1.adr,S1.σ.set k (.ins C' (at_ ++ [(name,d)])),S1.h.update p.2 (Obj.putName name (PyData.keyHash G.w.params name) (.str name (tk.1 + 1)) v)⟩ ⟨tk.1 + 1 + 1,Nat.le_succ_of_le (Nat.le_succ_of_le tk.2)⟩ rfl H2 (x2.s env) (x2.env q1.H q1.V) trivial
      · exact nnS e2
    · exact nnS e2
  · exact nnS e2
end
end Mine
end
section
open PySem PySem.W PyProof.Rows PySem.Calls
set_option maxRecDepth 100000
namespace Mine
section
variable {M:Model} {A:Around} {E:Value→Shared→Prop} {s:Shared} {K:Frag} {x C f:Addr} {ox:Obj} {od:Option Obj} {v i:Value}
theorem setItemK {Q:Unit→Shared→Prop} (X:K.In s.heap) (I:InstAt s.heap x ox C od) (hq:noSeq K C=true) (hs:findIn K (.ref C) "__setitem__" = some (some (.ref f))) (hf:isFn K (.ref f)=true)
    (h:wpAny M A (call (.ref f) [.ref x,i,v]) (fun _=>Q ()) E s):wpAny M A (setItem (.ref x) i v) Q E s:=by
  unfold setItem sequenceKey
  refine wpAny_holding (wpAny_bind (wpAny_bind (I.type.here ?_)))
  refine wpAny_bind ((anyM_none X hq).here ?_)
  rw [if_pos (show (!false)=true from rfl)]
  exact wpAny_pure (wpAny_bind (special_fn X I hs (beq_iff_eq.mp hf) (wpAny_mono h (fun _ _ z=>wpAny_pure z) fun _ _ z=>z)))
theorem delItemK {Q:Unit→Shared→Prop} (X:K.In s.heap) (I:InstAt s.heap x ox C od) (hq:noSeq K C=true) (hs:findIn K (.ref C) "__delitem__" = some (some (.ref f))) (hf:isFn K (.ref f)=true)
    (h:wpAny M A (call (.ref f) [.ref x,i]) (fun _=>Q ()) E s):wpAny M A (delItem (.ref x) i) Q E s:=by
  unfold delItem sequenceKey
  refine wpAny_holding (wpAny_bind (wpAny_bind (I.type.here ?_)))
  refine wpAny_bind ((anyM_none X hq).here ?_)
  rw [if_pos (show (!false)=true from rfl)]
  exact wpAny_pure (wpAny_bind (special_fn X I hs (beq_iff_eq.mp hf) (wpAny_mono h (fun _ _ z=>wpAny_pure z) fun _ _ z=>z)))
theorem containsK {Q:Bool→Shared→Prop} (X:K.In s.heap) (I:InstAt s.heap x ox C od) (hs:findIn K (.ref C) "__contains__" = some (some (.ref f))) (hf:isFn K (.ref f)=true)
    (h:wpAny M A (call (.ref f) [.ref x,v]) (fun r s'=>wpAny M A (truthy r) Q E s') E s):wpAny M A (contains (.ref x) v) Q E s:=by
  unfold contains
  refine wpAny_holding (wpAny_bind (wpAny_bind (I.type.here ((looks_findIn X hs).here ?_))))
  rw [if_neg (by simp)]
  exact wpAny_bind (unlessNone_K X I hs hf h)
end
section
variable {G:Amb} {hn:Bool} {n:Nat} {Z:Scope} {c:Cx} {S:Gs} {s:Shared}
noncomputable def isC (C:Addr) (d:D) (σ:List AO):Bool:=match d with
  | .ref k=>(match σ[k]? with
    | some (.ins C' _)=>C' == C
    | _=>false)
  | _=>false
theorem isC_of {C:Addr} {d:D} {σ:List AO} (h:isC C d σ=true):∃ k at_,d = .ref k∧σ[k]? = some (.ins C at_):=by
  unfold isC at h
  split at h
  · rename_i k
    split at h
    · rename_i C' at_ e
      rw [beq_iff_eq] at h
      subst h
      exact ⟨k,at_,rfl,e⟩
    · exact nFT h
  · exact nFT h
noncomputable def Mf.setI (C:Addr) (mf:Fm) (mo mi:Mo D) (d:D):Mf Unit:=Mf.bind (Mf.lift mo) fun a=>Mf.bind (Mf.lift mi) fun b fr σ=>if isC C a σ then (match mf [a,b,d] [] σ with
  | some (.val _,σ')=>some (.val (),fr,σ')
  | some (.exc X msg,σ')=>some (.exc X msg,fr,σ')
  | none=>none) else none
theorem As.item {o i:Expr} {pos:Pos} {C f:Addr} {mf:Fm} {mo mi:Mo D} (ho:Ev G hn n Z o mo) (hi:Ev G hn n Z i mi) (hq:noSeq G.K C=true) (hs:findIn G.K (.ref C) "__setitem__" = some (some (.ref f))) (hf:isFn G.K (.ref f)=true) (hc:Ca G hn n (.ref f) mf) :
    As G hn n Z (.Subscript o i pos) (Mf.setI C mf mo mi):=by
  intro c env fr S s v d out fr' σ' q r hm
  rw [arm_assign_Subscript]
  refine TrF.bindE q hm (fun o1 σ1 e1=>(ho c env fr S s o1 σ1 q e1).holding) fun da ov S1 tk q1 x1 ra e2=>?_
  refine TrF.bindE q1 e2 (fun o1 σ1 e1=>(hi c env fr S1 _ o1 σ1 q1 e1).holding) fun db iv S2 tk2 q2 x2 rb e4=>?_
  split at e4
  rotate_left
  · exact nnS e4
  rename_i hC
  (refine xEEA (isC_of hC) fun k at_ q0z hk=>?_; subst q0z)
  have ra2:=ra.ext x2
  (refine xEEEAAAAA (q2.H.instX ra2 hk) fun p es m q0z hpa I _ _ _=>?_; subst q0z)
  refine TrF.standAt ?_
  intro Q E hqq hx
  cases hmm:mf [.ref k,db,d] [] S2.σ with
  | none=>rw [hmm] at e4; exact nnS e4
  | some pr =>
    obtain ⟨oo,σ3⟩:=pr
    rw [hmm] at e4
    refine wpAny_bind (wpAny_holding (setItemK q2.H.kin I hq hs hf ?_))
    refine hc c S2 _ [.ref p.1,iv,v] [.ref k,db,d] [] [] oo σ3 q2.ho (.cons ra2 (.cons rb (.cons ((r.ext x1).ext x2) .nil))) trivial hmm _ E (fun b hb a S3 tk3 e6 H3 x3 r3=>?_) fun X msg hho S3 e h' tk3 e6 H3 x3 th=>?_
    · subst hb
      (have k1:=s3A e4; have k2:=s3B e4; have k3:=s3C e4; clear e4; subst k1 k2 k3)
      exact wpAny_release (hqq () rfl () S3 tk3 e6 H3 (x3.s env) (x3.env q2.H q2.V) trivial)
    · subst hho
      (have k1:=s3A e4; have k2:=s3B e4; have k3:=s3C e4; clear e4; subst k1 k2 k3)
      exact hx _ _ rfl S3 e h' tk3 e6 H3 (x3.s env) (x3.env q2.H q2.V) th
theorem Ex.del {o i:Expr} {ps pos:Pos} {C f:Addr} {mf:Fm} {mo mi:Mo D} (ho:Ev G hn n Z o mo) (hi:Ev G hn n Z i mi) (hq:noSeq G.K C=true) (hs:findIn G.K (.ref C) "__delitem__" = some (some (.ref f))) (hf:isFn G.K (.ref f)=true) (hc:Ca G hn n (.ref f) mf) :
    Ex G hn n Z (.Delete [.Subscript o i ps] pos) (Mf.bind (Mf.lift mo) fun a=>Mf.bind (Mf.lift mi) fun b fr σ=>if isC C a σ then (match mf [a,b] [] σ with
      | some (.val _,σ')=>some (.val .next,fr,σ')
      | some (.exc X msg,σ')=>some (.exc X msg,fr,σ')
      | none=>none) else none):=by
  intro c env fr S s out fr' σ' q hf' hl hm
  show TrF G c env S s (RF G c) (do
    PySem.standAt pos
    (do
      (do
        let ov ← eval o env
        let iv ← PySem.holding [ov] (eval i env)
        PySem.standAt ps
        PySem.holding [ov,iv] (delItem ov iv)
        release [ov,iv] [])
      Pure.pure ())
    Pure.pure Flow.next) out fr' σ'
  refine TrF.standAt ?_
  simp only [bind_assoc,pure_bind]
  refine TrF.bindE q hm (fun o1 σ1 e1=>ho c env fr S s o1 σ1 q e1) fun da ov S1 tk q1 x1 ra e2=>?_
  refine TrF.bindE q1 e2 (fun o1 σ1 e1=>(hi c env fr S1 _ o1 σ1 q1 e1).holding) fun db iv S2 tk2 q2 x2 rb e4=>?_
  split at e4
  rotate_left
  · exact nnS e4
  rename_i hC
  (refine xEEA (isC_of hC) fun k at_ q0z hk=>?_; subst q0z)
  have ra2:=ra.ext x2
  (refine xEEEAAAAA (q2.H.instX ra2 hk) fun p es m q0z hpa I _ _ _=>?_; subst q0z)
  refine TrF.standAt ?_
  intro Q E hqq hx
  cases hmm:mf [.ref k,db] [] S2.σ with
  | none=>rw [hmm] at e4; exact nnS e4
  | some pr =>
    obtain ⟨oo,σ3⟩:=pr
    rw [hmm] at e4
    refine wpAny_bind (wpAny_holding (delItemK q2.H.kin I hq hs hf ?_))
    refine hc c S2 _ [.ref p.1,iv] [.ref k,db] [] [] oo σ3 q2.ho (.cons ra2 (.cons rb .nil)) trivial hmm _ E (fun b hb a S3 tk3 e6 H3 x3 r3=>?_) fun X msg hho S3 e h' tk3 e6 H3 x3 th=>?_
    · subst hb
      (have k1:=s3A e4; have k2:=s3B e4; have k3:=s3C e4; clear e4; subst k1 k2 k3)
      exact wpAny_bind (wpAny_release (wpAny_pure (hqq _ rfl .next S3 tk3 e6 H3 (x3.s env) (x3.env q2.H q2.V) trivial)))
    · subst hho
      (have k1:=s3A e4; have k2:=s3B e4; have k3:=s3C e4; clear e4; subst k1 k2 k3)
      exact hx _ _ rfl S3 e h' tk3 e6 H3 (x3.s env) (x3.env q2.H q2.V) th
/-- membership by the own method -/
noncomputable def opInC (C:Addr) (mf:Fm):F2:=fun a b σ=>if isC C b σ then (match mf [b,a] [] σ with
  | some (.val d,σ')=>(truD d).map fun t=>(.val (.bool t),σ')
  | some (.exc X msg,σ')=>some (.exc X msg,σ')
  | none=>none) else none
theorem Op2.inC {C f:Addr} {mf:Fm} (hs:findIn G.K (.ref C) "__contains__" = some (some (.ref f))) (hf:isFn G.K (.ref f)=true) (hc:Ca G hn n (.ref f) mf):Op2 G hn n (compareOp .In) (opInC C mf):=by
  intro c S s va vb da db out σ' q ra rb hm
  unfold opInC at hm
  split at hm
  rotate_left
  · exact nnS hm
  rename_i hC
  (refine xEEA (isC_of hC) fun k at_ q0z hk=>?_; subst q0z)
  (refine xEEEAAAAA (q.H.instX rb hk) fun p es m q0z hpa I _ _ _=>?_; subst q0z)
  intro Q E hqq hx
  cases hmm:mf [.ref k,da] [] S.σ with
  | none=>rw [hmm] at hm; exact nnS hm
  | some pr =>
    obtain ⟨oo,σ3⟩:=pr
    rw [hmm] at hm
    refine wpAny_bind (containsK (by rw [q.heap]; exact q.H.kin) (by rw [q.heap]; exact I) hs hf ?_)
    refine hc c S _ [.ref p.1,va] [.ref k,da] [] [] oo σ3 q (.cons rb (.cons ra .nil)) trivial hmm _ E (fun b hb a S3 tk3 e6 H3 x3 r3=>?_) fun X msg hho S3 e h' tk3 e6 H3 x3 th=>?_
    · subst hb
      (refine xEA (Option.map_eq_some_iff.mp hm) fun t ht e=>?_)
      (have k1:=p2A e; have k2:=p2B e; clear e; subst k1 k2)
      refine trTruthy (q.step (tk:=tk3) H3) r3 ht _ E (fun b hb u S4 tk4 e7 H4 x4 r4=>?_) fun _ _ ho=>by exact nVE ho
      (have k1:=valE hb; clear hb; subst k1)
      subst r4
      exact wpAny_pure (hqq _ rfl _ S4 tk4 (e7.trans e6) H4 (x3.trans x4) (.bool _))
    · subst hho
      (have k1:=s2A hm; have k2:=s2B hm; clear hm; subst k1 k2)
      exact hx _ _ rfl S3 e h' tk3 e6 H3 x3 th
end
end Mine
end
section
open PySem PySem.W PyProof.Rows PySem.Calls
set_option maxRecDepth 100000
namespace Mine
/-- where a parameter's value comes from -/
inductive Sr where
  | pos (i:Nat)
  | kw (i:Nat)
  | con (v:Value) (d:D)
noncomputable def Sr.val (vs:List Value) (kw:List (PySem.Str × Value)):Sr→Value
  | .pos i=>vs.getD i .none
  | .kw i=>(kw.map (·.2)).getD i .none
  | .con v _=>v
noncomputable def Sr.dat (ds:List D) (kd:List (PySem.Str × D)):Sr→D
  | .pos i=>ds.getD i .none
  | .kw i=>(kd.map (·.2)).getD i .none
  | .con _ d=>d
noncomputable def Sr.ok:Sr→Prop
  | .con v d=>∀ P adr V h,VR P adr V h v d
  | _=>True
noncomputable def SrsOk:List (PySem.Str × Sr)→Prop
  | []=>True
  | p :: r=>p.2.ok∧SrsOk r
section
variable {G:Amb} {c:Cx} {S:Gs}
theorem VRs.getD {P:Params} {adr:Adr} {V:List Addr} {h:Heap} {vs:List Value} {ds:List D} (r:VRs P adr V h vs ds) (i:Nat):VR P adr V h (vs.getD i .none) (ds.getD i .none):=by
  by_cases hi:i < ds.length
  · (refine xEA (r.get (List.getElem?_eq_getElem hi)) fun v hv rv=>?_)
    rw [List.getD_eq_getElem?_getD,List.getD_eq_getElem?_getD,hv,List.getElem?_eq_getElem hi]
    exact rv
  · have hi' : ¬ i < vs.length:=by rw [r.length]; exact hi
    rw [List.getD_eq_getElem?_getD,List.getD_eq_getElem?_getD,List.getElem?_eq_none (by omega),List.getElem?_eq_none (by omega)]
    exact .none
theorem Rbs.snds:∀ {b:List (PySem.Str × Value)} {bd:List (PySem.Str × D)},Rbs G c S b bd→Rvs G c S (b.map (·.2)) (bd.map (·.2))
  | [],[],_=>.nil
  | (_,_) :: _,(_,_) :: _,⟨_,h2,h3⟩=>.cons h2 (Rbs.snds h3)
theorem Sr.rv {vs:List Value} {ds:List D} {kw:List (PySem.Str × Value)} {kd:List (PySem.Str × D)} (r:Rvs G c S vs ds) (q:Rbs G c S kw kd):∀ {a:Sr},a.ok→Rv G c S (a.val vs kw) (a.dat ds kd)
  | .pos i,_=>VRs.getD r i
  | .kw i,_=>VRs.getD q.snds i
  | .con _ _,h=>h _ _ _ _
theorem srs_rbs {vs:List Value} {ds:List D} {kw:List (PySem.Str × Value)} {kd:List (PySem.Str × D)} (r:Rvs G c S vs ds) (q:Rbs G c S kw kd):∀ {pl:List (PySem.Str × Sr)},SrsOk pl →
    Rbs G c S (pl.map fun p=>(p.1,p.2.val vs kw)) (pl.map fun p=>(p.1,p.2.dat ds kd))
  | [],_=>trivial
  | _ :: _,h=>⟨rfl,Sr.rv r q h.1,srs_rbs r q h.2⟩
theorem rbs_app:∀ {b b':List (PySem.Str × Value)} {bd bd':List (PySem.Str × D)},Rbs G c S b bd→Rbs G c S b' bd'→Rbs G c S (b ++ b') (bd ++ bd')
  | [],_,[],_,_,h=>h
  | (_,_) :: _,_,(_,_) :: _,_,⟨h1,h2,h3⟩,h=>⟨h1,h2,rbs_app h3 h⟩
noncomputable def bfOf (k:Nat) (ks:List PySem.Str) (pl:List (PySem.Str × Sr)) (ds:List D) (kd:List (PySem.Str × D)):Option (List (PySem.Str × D)) :=
  if ds.length=k then if kd.map (·.1)=ks then some (pl.map fun p=>(p.1,p.2.dat ds kd)) else none else none
theorem Bnd.plan {fd:FuncData} {k:Nat} {ks:List PySem.Str} {pl:List (PySem.Str × Sr)} (hc:SrsOk pl)
    (hp:∀ S vs kw,vs.length=k→kw.map (·.1)=ks→peek G.K S (bindArgs fd ⟨vs,kw⟩)=some (pl.map fun p=>(p.1,p.2.val vs kw))):Bnd G fd (bfOf k ks pl):=by
  intro c S s vs ds kw kd bd H hs hp0 r q hb
  unfold bfOf at hb
  split at hb
  · rename_i h1
    split at hb
    · rename_i h2
      (have k1:=s1E hb; clear hb; subst k1)
      refine Tr.tok (hp:=hp0) H hs fun Q E hq=>?_
      refine (Looks.of_peek (M:=G.M) (h:=s.heap) (by rw [hs]; exact H.kin) (hp _ vs kw (r.length.trans h1) (q.names.trans h2))).here (hq _ s.toks ?_)
      exact ⟨srs_rbs r q hc,Rbs.names (srs_rbs r q hc)⟩
    · exact nnS hb
  · exact nnS hb
noncomputable def pkA {α:Type} (K:Frag) (S:Setting):Sem α→Option (Obj × (Addr→Sem α))
  | .rule _ k=>pkA K S (k ())
  | .point _ k=>pkA K S (k ())
  | .ask k=>pkA K S (k S)
  | .load a _ k=>(K.lookup a).bind fun o=>pkA K S (k o)
  | .alloc o k=>some (o,k)
  | _=>none
theorem goOpt {α β:Type} {f:α→Option β} {l:Option α} {b:β} {P:Prop} (e:l.bind f=some b) (h:∀ o,l=some o→f o=some b→P):P:=by
  cases l with
  | none=>exact nnS e
  | some o=>exact h o rfl e
theorem wp_of_pkA {α:Type} {K:Frag} {M:Model} {A:Around} {E:Value→Shared→Prop} {Q:α→Shared→Prop} {s:Shared} {o:Obj} (X:K.In s.heap) :
    ∀ (t:Sem α) (g:Addr→Sem α),pkA K ⟨M.prog,M.w.params⟩ t=some (o,g)→wpAny M A (g s.heap.objs.size) Q E { s with heap:=s.heap.push o }→wpAny M A t Q E s:=by
  intro t
  induction t with
  | rule _ k ih=>intro g e q Γ p hΓ; exact ih () g e q Γ p hΓ
  | point _ k ih=>intro g e q Γ p hΓ; exact ih () g e q Γ p hΓ
  | ask k ih=>intro g e q Γ p hΓ; exact ih _ g e q Γ p hΓ
  | load a _ k ih =>
    intro g e q Γ p hΓ
    exact goOpt (f:=fun o=>pkA K ⟨M.prog,M.w.params⟩ (k o)) (l:=K.lookup _) e fun ob ho e=>⟨ob,X _ _ ho,ih ob g e q Γ p hΓ⟩
  | alloc ob k _ =>
    intro g e q
    have e:some (ob,k)=some (o,g):=e
    (refine xA (Prod.mk.inj (Option.some.inj e)) fun e1 e2=>?_)
    subst e1
    subst e2
    show wpAny M A (alloc ob >>= k) Q E s
    exact wpAny_bind (wpAny_alloc q)
  | _=>intro g e; exact nnS e
noncomputable def kwEnt (P:Params):Tok→List (PySem.Str × Value)→List DictEntry
  | _,[]=>[]
  | t,x :: r=>⟨PyData.keyHash P x.1,.str x.1 t,x.2⟩ :: kwEnt P (t + 1) r
theorem putL_fresh {k:PySem.Str} {hsh:Int} {key v:Value} : ∀ {es:List DictEntry},(∀ e ∈ es,e.key.isStr k=false)→putL k hsh key v es=es ++ [⟨hsh,key,v⟩]
  | [],_=>rfl
  | e :: r,h=>by
    show (if e.key.isStr k then _ else e :: putL k hsh key v r)=_
    rw [h e (.head _),if_neg Bool.false_ne_true,putL_fresh fun x hx=>h x (.tail _ hx)]
    rfl
theorem nsSetFresh {M:Model} {A:Around} {E:Value→Shared→Prop} {s:Shared} {d:Addr} {es:List DictEntry} {n:Nat} {k:PySem.Str} {v:Value} {Q:Unit→Shared→Prop} (ho:s.heap.get? d=some (dictOf es n))
    (hs:∀ e ∈ es,e.key.isStr k=false) (hr:∀ e ∈ es,e.refKey=false)
    (h:∀ h',Heap.SameBut d s.heap h'→h'.get? d=some (dictOf (es ++ [⟨PyData.keyHash M.w.params k,.str k s.toks,v⟩]) (n + 1))→Q () (ShN s h' (s.toks + 1))) :
    wpAny M A (nsSet d k v) Q E s:=by
  have e1:es.any (·.key.isStr k)=false:=by
    cases q:es.any (·.key.isStr k) with
    | false=>rfl
    | true=>(refine xEA (List.any_eq_true.mp q) fun e he z=>?_); rw [hs e he] at z; exact nFT z
  have e2:es.any (·.refKey)=false:=by
    cases q:es.any (·.refKey) with
    | false=>rfl
    | true=>(refine xEA (List.any_eq_true.mp q) fun e he z=>?_); rw [hr e he] at z; exact nFT z
  have e:Obj.putName k (PyData.keyHash M.w.params k) (.str k s.toks) v (dictOf es n)=dictOf (es ++ [⟨PyData.keyHash M.w.params k,.str k s.toks,v⟩]) (n + 1):=by
    rw [putName_dict,putL_fresh hs]
    show dictOf _ (if es.any (·.key.isStr k) then n else n + 1)=_
    rw [e1,if_neg Bool.false_ne_true]
  have c:aRefKeyMayBeTheName k es.toArray=false:=by
    rw [aRefKeyMayBeTheName_at,← Array.any_toList,← Array.any_toList]
    show (!es.any (·.key.isStr k) && es.any (·.refKey))=false
    rw [e2,Bool.and_false]
  unfold nsSet
  refine wpAny_bind (wpAny_bind (wpAny_askSetting (wpAny_pure (wpAny_bind (wpAny_mkText (wpAny_bind (wpAny_loadPart ho ?_)))))))
  dsimp only
  rw [c]
  refine wpAny_updatePart (o:=dictOf es n) ho (h _ (Heap.SameBut.update ..) ?_)
  rw [← e]
  refine Heap.get?_update_self _ ho ?_
  show (Obj.putName k (PyData.keyHash M.w.params k) (.str k s.toks) v (dictOf es n)).isFreed=false
  rw [e]; rfl
theorem fillD {M:Model} {A:Around} {E:Value→Shared→Prop} {d:Addr} {Q:PUnit→Shared→Prop} : ∀ (ex:List (PySem.Str × Value)) (s:Shared) (es:List DictEntry) (n:Nat),s.heap.get? d=some (dictOf es n) →
    (∀ e ∈ es,∀ x ∈ ex,e.key.isStr x.1=false)→(∀ e ∈ es,e.refKey=false)→(ex.map (·.1)).Nodup →
    (∀ h',Heap.SameBut d s.heap h'→h'.get? d=some (dictOf (es ++ kwEnt M.w.params s.toks ex) (n + ex.length))→Q ⟨⟩ (ShN s h' (s.toks + ex.length))) →
    wpAny M A (forIn ex PUnit.unit fun x _=>(nsSet d x.1 x.2 >>= fun _=>pure (ForInStep.yield PUnit.unit))) Q E s
  | [],s,es,n,ho,_,_,_,h=>by
    rw [List.forIn_nil]
    refine wpAny_pure (h s.heap (Heap.SameBut.refl ..) ?_)
    show s.heap.get? d=some (dictOf (es ++ []) n)
    rw [List.append_nil]
    exact ho
  | x :: r,s,es,n,ho,hs,hr,hn,h=>by
    (refine xA (List.nodup_cons.mp (show (x.1 :: r.map (·.1)).Nodup from hn)) fun hn1 hn2=>?_)
    rw [List.forIn_cons]
    refine wpAny_bind (wpAny_bind (nsSetFresh ho (fun e he=>hs e he x (.head _)) hr fun h' hb ho'=>wpAny_pure ?_))
    show wpAny M A (forIn r PUnit.unit fun x _=>(nsSet d x.1 x.2 >>= fun _=>pure (ForInStep.yield PUnit.unit))) Q E (ShN s h' (s.toks + 1))
    refine fillD r (ShN s h' (s.toks + 1)) _ _ ho' (fun e he y hy=>?_) (fun e he=>?_) hn2 fun h'' hb' ho''=>?_
    · rcases List.mem_append.mp he with he | he
      · exact hs e he y (.tail _ hy)
      · obtain rfl:=List.mem_singleton.mp he
        show (x.1 == y.1)=false
        exact beq_eq_false_iff_ne.mpr fun q=>hn1 (by rw [q]; exact List.mem_map_of_mem hy)
    · rcases List.mem_append.mp he with he | he
      · exact hr e he
      · obtain rfl:=List.mem_singleton.mp he
        rfl
    · have t1:s.toks + 1 + r.length=s.toks + (r.length + 1):=by omega
      have t2:n + 1 + r.length=n + (r.length + 1):=by omega
      show Q ⟨⟩ (ShN s h'' (s.toks + 1 + r.length))
      rw [t1]
      refine h h'' (hb.trans hb') ?_
      rw [t2,List.append_assoc] at ho''
      exact ho''
theorem kwEnt_vre {P:Params} {adr:Adr} {V:List Addr} {h:Heap} : ∀ {kw:List (PySem.Str × Value)} {kd:List (PySem.Str × D)} (t:Tok),kw.map (·.1)=kd.map (·.1)→VRs P adr V h (kw.map (·.2)) (kd.map (·.2))→VRe P adr V h (kwEnt P t kw) kd
  | [],[],_,_,_=>.nil
  | [],_ :: _,_,e,_=>by exact nNC e
  | _ :: _,[],_,e,_=>by exact nCN e
  | (x,v) :: r,(y,d) :: q,t,e,hv=>by
    have e':x :: r.map (·.1)=y :: q.map (·.1):=e
    injection e' with e1 e2
    subst e1
    cases hv with
    | cons h1 h2=>exact .cons rfl rfl h1 (kwEnt_vre (t + 1) e2 h2)
/-- further keywords, in a dict of their own -/
noncomputable def bfKw (k:Nat) (ks:List PySem.Str) (pl:List (PySem.Str × Sr)) (nm:PySem.Str) (ds:List D) (kd:List (PySem.Str × D)):Option (List (PySem.Str × D)) :=
  if ds.length=k then if kd.map (·.1)=ks then some ((pl.map fun p=>(p.1,p.2.dat ds kd)) ++ [(nm,.dct kd)]) else none else none
theorem Bnd.planKw {fd:FuncData} {k:Nat} {ks:List PySem.Str} {pl:List (PySem.Str × Sr)} {nm:PySem.Str} (hc:SrsOk pl) (hnd:ks.Nodup)
    (hp:∀ S vs kw,vs.length=k→kw.map (·.1)=ks→pkA G.K S (bindArgs fd ⟨vs,kw⟩)=some (dictOf [] 0,fun D=>(forIn kw PUnit.unit fun x _=>(nsSet D x.1 x.2 >>= fun _=>pure (ForInStep.yield PUnit.unit))) >>= fun _=>pure ((pl.map fun p=>(p.1,p.2.val vs kw)) ++ [(nm,Value.ref D)]))):Bnd G fd (bfKw k ks pl nm):=by
  intro c S s vs ds kw kd bd H hs hp0 r q hb
  unfold bfKw at hb
  split at hb
  rotate_left
  · exact nnS hb
  rename_i h1
  split at hb
  rotate_left
  · exact nnS hb
  rename_i h2
  (have k1:=s1E hb; clear hb; subst k1)
  refine Tr.of_wp (hp:=hp0) fun Q E hq=>?_
  have hsz:s.heap.objs.size=S.h.objs.size:=by rw [hs]
  refine wp_of_pkA (by rw [hs]; exact H.kin) _ _ (hp _ vs kw (r.length.trans h1) (q.names.trans h2)) ?_
  have hnone:S.h.get? s.heap.objs.size=none:=Heap.get?_none_of_le (by rw [hsz]; exact Nat.le_refl _)
  refine wpAny_bind (fillD kw _ [] 0 (Heap.get?_push_size _ rfl) (fun e he=>by cases he) (fun e he=>by cases he) (by rw [q.names,h2]; exact hnd) fun h' hb ho=>wpAny_pure ?_)
  have keep:∀ b o,S.h.get? b=some o→h'.get? b=some o:=fun b o e=>by
    have e1:(s.heap.push (dictOf [] 0)).get? b=some o:=Heap.get?_push_of_some _ (by rw [hs]; exact e)
    exact hb.extBut b o (fun q=>by rw [q,hnone] at e; exact nnS e) e1
  (refine xA (H.grow keep) fun H' x'=>?_)
  refine hq _ { S with h:=h' } _ rfl H' x' ?_
  have r':=r.ext x'
  have q':=q.ext x'
  have key:Rbs G c { S with h:=h' } [(nm,Value.ref s.heap.objs.size)] [(nm,D.dct kd)]:=by
    refine ⟨rfl,.dct (by rw [hsz]; exact H.big) (es:=(kwEnt G.w.params s.toks kw).toArray) (n:=0 + kw.length) ?_ ?_ ?_ ?_,trivial⟩
    · rw [ho]; rfl
    · rw [h2]; exact hnd
    · intro hm
      have:s.heap.objs.size ∈ vol c S:=hm
      (refine xE (H.vol_some this) fun o e=>?_)
      rw [hnone] at e; exact nnS e
    · exact kwEnt_vre _ q.names q'.snds
  exact ⟨rbs_app (srs_rbs r' q' hc) key,Rbs.names (rbs_app (srs_rbs r' q' hc) key)⟩
end
end Mine
end
section
open PySem PySem.W PyProof.Rows PySem.Calls
set_option maxRecDepth 100000
namespace Mine
section
variable {G:Amb} {hn:Bool} {n:Nat} {Z:Scope} {c:Cx} {S:Gs} {s:Shared}
theorem Heaps.pushLst (H:Heaps G c S) {vs:Array Value} {k:Nat} {ds:List D} (hz:vs.size ≤ sizeLine) (r:Rvs G c S vs.toList ds) :
    Heaps G c { S with h:=S.h.push { cls:=.type "list", data:=.seq vs k } }∧Ext c S { S with h:=S.h.push { cls:=.type "list", data:=.seq vs k } }∧Rv G c { S with h:=S.h.push { cls:=.type "list", data:=.seq vs k } } (.ref S.h.objs.size) (.lst ds):=by
  (refine xA (H.push { cls:=.type "list", data:=.seq vs k }) fun H1 x1=>?_)
  exact ⟨H1,x1,.lst (Heap.get?_push_size _ rfl) rfl rfl hz H.size_notin (r.ext x1)⟩
/-- two lists added -/
noncomputable def fAddL:F2:=fun a b σ=>(lstOf a σ).bind fun xs=>(lstOf b σ).bind fun ys=>if xs.length + ys.length ≤ sizeLine then some (.val (.lst (xs ++ ys)),σ) else none
theorem Op2.addL:Op2 G hn n (binaryOp .Add) fAddL:=by
  intro c S s va vb da db out σ' q ra rb hm
  (refine xEA (Option.bind_eq_some_iff.mp hm) fun xs hx hm=>?_)
  (refine xEA (Option.bind_eq_some_iff.mp hm) fun ys hy hm=>?_)
  split at hm
  rotate_left
  · exact nnS hm
  rename_i hle
  refine Tr.cast hm ?_
  (refine xEEAAA (lstOf_ok q.H ra hx) fun a vs q0z q1z hz hr=>?_; subst q0z; refine xEAAE q1z fun q2z ho hc k hd=>?_; obtain ⟨cls,dd,data,sl⟩:=q2z)
  (refine xEEAAA (lstOf_ok q.H rb hy) fun b ws q0z q1z hz2 hr2=>?_; subst q0z; refine xEAAE q1z fun q2z ho2 hc2 k2 hd2=>?_; obtain ⟨cls2,dd2,data2,sl2⟩:=q2z)
  simp only at hc hd hc2 hd2
  subst hc hd hc2 hd2
  have hsz:vs.size + ws.size ≤ sizeLine:=by
    have h1:=VRs.length hr; have h2:=VRs.length hr2
    rw [Array.length_toList] at h1 h2; omega
  refine Tr.of_wp fun Q E hq=>?_
  rw [← q.heap] at ho ho2
  refine concat_meets ⟨_,ho,rfl⟩ ⟨_,ho2,rfl⟩ noFill_list_add seq_list_add PySem.F.slot_list_add PySem.F.entry_list_add (PySem.F.args_list_add_2 _ _) (list_addW a b vs ws k k2 dd dd2 sl sl2 hsz) ⟨ho,ho2,?_⟩
  (refine xAA (q.H.pushLst (vs:=vs ++ ws) (k:=0) (ds:=xs ++ ys) (by simpa using hsz) (by rw [Array.toList_append]; exact VRs.append hr hr2)) fun H1 x1 r1=>?_)
  have:=hq _ { S with h:=S.h.push { cls:=.type "list", data:=.seq (vs ++ ws) } } s.toks rfl H1 x1 r1
  rw [← q.heap] at this
  exact this
noncomputable def fListSF:F1:=fun d σ=>match d with
  | .str x=>some (.val (.lst (chars x)),σ)
  | _=>none
noncomputable def fListSR:F1:=fun d σ=>match d with
  | .str x=>some (.val (.ref σ.length),σ ++ [.lst (chars x)])
  | _=>none
end
end Mine
end
section
open PySem PySem.W PyProof.Rows PySem.Calls
set_option maxRecDepth 100000
namespace Mine
section
variable {G:Amb} {hn:Bool} {n:Nat} {Z:Scope} {c:Cx} {S:Gs} {s:Shared}
/-- a list display laid in the store -/
noncomputable def Mo.lstR (ms:List (Mo D)):Mo D:=Mo.bind (Mo.seq ms) fun ds=>Mo.bind (Mo.guard (decide (ds.length ≤ sizeLine)) ()) fun _ _ σ=>some (.val (.ref σ.length),σ ++ [.lst ds])
theorem trNewListR {vs:List Value} {ds:List D} (q:Ho G hn n c S s) (hr:Rvs G c S vs ds) (hl:ds.length ≤ sizeLine):Tr G c S s (Rv G c) (newList vs) (.val (.ref S.σ.length)) (S.σ ++ [.lst ds]):=by
  have hl':vs.length ≤ sizeLine:=by have:=VRs.length hr; omega
  refine Tr.of_wp fun Q E hq=>wpAny_newObj_type ?_ (by show vs.toArray.size ≤ sizeLine; simpa using hl')
  (refine xAA (q.H.bornLst (a:=S.h.objs.size) (h':=S.h.push { cls:=.type "list", data:=.seq vs.toArray }) (m:=0) (fun b x e=>Heap.get?_push_of_some _ e) (Heap.get?_none_of_le (Nat.le_refl _)) (Heap.get?_push_size _ rfl) (by simpa using hl') (by simpa using hr)) fun Hb xb rb=>?_)
  have:=hq _ _ s.toks rfl Hb xb rb
  rw [← q.heap] at this; exact this
theorem Ev.lstR {es:List Expr} {pos:Pos} {ms:List (Mo D)} (h:EvL G hn n Z es ms) (hs:es.all notStar=true):Ev G hn n Z (.List es pos) (Mo.lstR ms):=by
  intro c env fr S s out σ' q hm
  show Tr G c S s (Rv G c) (do standAt pos; newList (← spliced (backTo pos (starEach es env)))) out σ'
  refine Tr.standAt (Tr.bindM hm (fun o1 σ1 h1=>trSpliced h hs q h1) fun ds vs S1 tk H1 x1 ra h2=>?_)
  unfold Mo.bind at h2
  split at h2
  · rename_i u σ2 hg
    (refine xA (guardE hg) fun hle e=>?_)
    cases e
    refine Tr.cast h2 ?_
    exact trNewListR (q.step H1 x1).ho ra (of_decide_eq_true hle)
  · rename_i hg
    (refine xA (guardE hg) fun _ e=>?_)
    cases e
  · exact nnS h2
/-- minus -/
noncomputable def fNeg:F1:=fun d σ=>match d with
  | .int i=>some (.val (.int (-i)),σ)
  | _=>none
/-- strings of a list -/
noncomputable def strsOf:List D→Option (List PySem.Str)
  | []=>some []
  | .str x :: ds=>(strsOf ds).map (x :: ·)
  | _=>none
theorem strsOf_rel {P:Params} {adr:Adr} {V:List Addr} {h:Heap} {vs:List Value} {ds:List D} {ns:List PySem.Str} (r:VRs P adr V h vs ds) (e:strsOf ds=some ns) :
    ∃ l:List (PySem.Str × Tok),vs=strValues l∧l.map (·.1)=ns∧∀ x ∈ ns,x.length ≤ sizeLine :=
  VRs.ind (C:=fun vs ds=>∀ ns,strsOf ds=some ns→∃ l:List (PySem.Str × Tok),vs=strValues l∧l.map (·.1)=ns∧∀ x ∈ ns,x.length ≤ sizeLine)
    (fun ns e=>⟨[],rfl,s1E e,fun x hx=>by rw [← s1E e] at hx; cases hx⟩)
    (fun v d vs ds r _ ih ns e=>by
      cases d with
      | str k =>
        (refine xEA (Option.map_eq_some_iff.mp e) fun ms hms e'=>?_)
        clear e
        subst e'
        (refine xEAA (ih ms hms) fun l h1 h2 h3=>?_)
        clear ih
        (refine xEA r.i_str fun t q0z hx=>?_; subst q0z)
        exact ⟨(k,t) :: l,congrArg (Value.str k t :: ·) h1,congrArg (k :: ·) h2,fun x hx'=>(List.mem_cons.mp hx').elim (fun e=>e ▸ hx) (h3 x)⟩
      | _=>exact nnS e) r ns e
/-- lower, upper -/
noncomputable def fLower:F1:=fun d σ=>match d with
  | .str x=>if x.length ≤ 5592405 then some (.val (.str (Txt.lower x)),σ) else none
  | _=>none
noncomputable def fUpper:F1:=fun d σ=>match d with
  | .str x=>if x.length ≤ 5592405 then some (.val (.str (Txt.upper x)),σ) else none
  | _=>none
theorem Ca.lower:Ca G hn n (.builtin "str.lower") (one1 fLower):=Ca.one (by
  intro c S s v d out σ' q r hm
  unfold fLower at hm
  split at hm
  rotate_left
  · exact nnS hm
  split at hm
  rotate_left
  · exact nnS hm
  rename_i x hx
  refine Tr.cast hm ?_; (refine xEA r.i_str fun _ q0z _=>?_; subst q0z)
  have:=len_lower x
  exact Tr.tok q.H q.heap fun Q E hq=>SC.lower (fit_lower hx) (hq _ _ (.str _ _ (by show _ ≤ 16777216; omega))))
/-- join -/
noncomputable def fJoin:F2:=fun a b σ=>match a with
  | .str x=>(lstOf b σ).bind fun ds=>(strsOf ds).bind fun xs=>if JoinOk x xs=true then some (.val (.str (Txt.join x xs)),σ) else none
  | _=>none
theorem joinOk_le {x:PySem.Str} {xs:List PySem.Str} (h:JoinOk x xs=true):(Txt.join x xs).length ≤ sizeLine:=by
  unfold JoinOk at h
  rw [Bool.not_eq_true'] at h
  obtain ⟨l,hl⟩:∃ l:List (PySem.Str × Tok),l.map (·.1)=xs:=⟨xs.map fun y=>(y,0),by rw [List.map_map]; exact List.map_id _⟩
  subst hl
  exact joinFit_length h
theorem Ca.join:Ca G hn n (.builtin "str.join") (one2 fJoin):=Ca.two (by
  intro c S s va vb da db out σ' q ra rb hm
  unfold fJoin at hm
  split at hm
  rotate_left
  · exact nnS hm
  rename_i x
  (refine xEA (Option.bind_eq_some_iff.mp hm) fun ds hds hm=>?_)
  (refine xEA (Option.bind_eq_some_iff.mp hm) fun xs hxs hm=>?_)
  split at hm
  rotate_left
  · exact nnS hm
  rename_i hok
  refine Tr.cast hm ?_
  (refine xEA ra.i_str fun _ q0z _=>?_; subst q0z)
  (refine xEEAAA (lstOf_ok q.H rb hds) fun a vs q0z hl hz hr=>?_; subst q0z)
  (refine xEAA (strsOf_rel hr hxs) fun l h1 h2 h3=>?_)
  refine Tr.tok q.H q.heap fun Q E hq=>SC.join (l:=l) (texts:=xs) ?_ h2 hok fun t' k=>hq _ k (.str _ _ (joinOk_le hok))
  rw [q.heap,← h1]
  exact hl)
/-- str of an exception with one text, of an int -/
noncomputable def fStr:F1:=fun d σ=>match d with
  | .exc X msg=>if (X = "ValueError" ∨ X = "AssertionError" ∨ X = "TypeError")∧msg.length ≤ sizeLine then some (.val (.str msg),σ) else none
  | .int i=>if i.natAbs.log2 < 1920 then some (.val (.str (PySem.Str.ofString (toString i))),σ) else none
  | _=>none
theorem Ca.str (h1:1 ≤ n):Ca G hn n (.type "str") (one1 fStr):=Ca.one (by
  intro c S s v d out σ' q r hm
  have hu:c.A.units + 2 < cLine:=by have:=q.units; omega
  unfold fStr at hm
  split at hm
  · split at hm
    rotate_left
    · exact nnS hm
    rename_i X msg hX
    (have k1:=s2A hm; have k2:=s2B hm; clear hm; subst k1 k2)
    (refine xEE r.i_exc fun e t w24z=>?_; refine xEEEAAAAA w24z fun oe vs tk q0z k1 k2 k3 k4 w25z=>?_; refine xAA w25z fun k5 _ _=>?_; subst q0z)
    have hex:s.heap.ExcAt e X (.ref t):=⟨_,_,by rw [q.heap]; exact k1,k2,k3,k4⟩
    have hht:s.heap.TupAt t [.str msg tk]:=by rw [q.heap]; exact k5
    refine Tr.tok q.H q.heap fun Q E hq=>?_
    have hQ:=hq (.str msg tk) s.toks (.str msg tk hX.2)
    rcases hX.1 with rfl | rfl | rfl
    · exact PySem.P.str_of_exc_one PySem.F.excStr_ValueError hu hex hht hQ
    · exact PySem.P.str_of_exc_one PySem.F.excStr_AssertionError hu hex hht hQ
    · exact PySem.P.str_of_exc_one PySem.F.excStr_TypeError hu hex hht hQ
  · split at hm
    rotate_left
    · exact nnS hm
    rename_i hb
    (have k1:=s2A hm; have k2:=s2B hm; clear hm; subst k1 k2)
    (refine xE r.i_int fun _ q0z=>?_; subst q0z)
    exact Tr.tok q.H q.heap fun Q E hq=>PySem.P.str_of_int hb (hq _ _ (.str _ _ (int_text_fits hb)))
  · exact nnS hm)
/-- repr of an int -/
noncomputable def fRepr:F1:=fun d σ=>match d with
  | .int i=>if i.natAbs.log2 < 1920 then some (.val (.str (PySem.Str.ofString (toString i))),σ) else none
  | _=>none
theorem Ca.repr:Ca G hn n (.builtin "repr") (one1 fRepr):=Ca.one (by
  intro c S s v d out σ' q r hm
  unfold fRepr at hm
  split at hm
  · split at hm
    rotate_left
    · exact nnS hm
    rename_i hb
    refine Tr.cast hm ?_
    (refine xE r.i_int fun _ q0z=>?_; subst q0z)
    exact Tr.tok q.H q.heap fun Q E hq=>PySem.P.repr_of_int hb (hq _ _ (.str _ _ (int_text_fits hb)))
  · exact nnS hm)
end
end Mine
end
section
open PySem PySem.W PyProof.Rows PySem.Calls
set_option maxRecDepth 100000
namespace Mine
section
open PySem.Sre PySem.Sre.M
/-- a code: a leading set, the set, the end -/
structure SetCode (code:Array Nat) (P:Nat→Bool) (b e:Nat):Prop where
  head:header code=(1,b)
  hinted:hasFirstSet ({ code,text:=#[],lim:=0,start:=0,pc:=0,pos:=0,handed:=0,marks:=#[] } : M)=true
  bpos:0 < b
  first:∀ (c:Nat) (z:PySem.Sre.Seen),∃ z',inSet code c code.size 5 true z = .ok (P c,z')
  opb:ops[code.getD b 0]? = some .IN
  again:∀ (c:Nat) (z:PySem.Sre.Seen),∃ z',inSet code c code.size (b + 2) true z = .ok (P c,z')
  width:b + (1 + code.getD (b + 1) 0)=e
  opE:ops[code.getD e 0]? = some .SUCCESS
  blt:b < code.size
  elt:e < code.size
variable {code:Array Nat} {P:Nat→Bool} {b e:Nat}
theorem admitted_ok (C:SetCode code P b e) {m:M} (hc:m.code=code):∀ (fuel s:Nat) (z:PySem.Sre.Seen),m.lim + 1 - s ≤ fuel→m.lim=m.text.size →
    (∃ z',admitted m fuel s z = .ok (none,z')∧(m.text.toList.drop s).any P=false) ∨
    ∃ z' j,admitted m fuel s z = .ok (some j,z')∧j < m.lim∧P (m.text.getD j 0)=true∧(m.text.toList.drop s).any P=true
  | 0,s,z,hf,hl=>by
    refine .inl ⟨z,rfl,?_⟩
    rw [List.drop_eq_nil_of_le (by rw [Array.length_toList]; omega)]; rfl
  | fuel + 1,s,z,hf,hl=>by
    unfold admitted
    by_cases hs:s ≥ m.lim
    · rw [if_pos hs]
      refine .inl ⟨z,rfl,?_⟩
      rw [List.drop_eq_nil_of_le (by rw [Array.length_toList]; omega)]; rfl
    · rw [if_neg hs]
      have hlt:s < m.text.toList.length:=by rw [Array.length_toList]; omega
      (refine xE (C.first (m.text.getD s 0) z) fun z1 h1=>?_)
      rw [hc,h1]
      have hd:m.text.toList.drop s=m.text.getD s 0 :: m.text.toList.drop (s + 1):=by
        rw [List.drop_eq_getElem_cons hlt]
        congr 1
        rw [Array.getD_eq_getD_getElem?,Array.getElem?_eq_getElem (by rw [Array.length_toList] at hlt; exact hlt)]
        simp
      cases hP:P (m.text.getD s 0) with
      | true=>exact .inr ⟨z1,s,rfl,by omega,hP,by rw [hd,List.any_cons,hP]; rfl⟩
      | false =>
        rcases admitted_ok C hc fuel (s + 1) z1 (by omega) hl with ⟨z',h2,h3⟩ | ⟨z',j,h2,h3,h4,h5⟩
        · exact .inl ⟨z',h2,by rw [hd,List.any_cons,hP,h3]; rfl⟩
        · exact .inr ⟨z',j,h2,h3,h4,by rw [hd,List.any_cons,h5,Bool.or_true]⟩
/-- one step -/
theorem run_step {m:M} {k:Nat} (ho:m.outcome=none):runFor (k + 1) m=runFor k m.step:=by
  rw [runFor,ho]; rfl
theorem step_exec {m:M} (ho:m.outcome=none) (ha:m.answer=none) (hp:m.pc < m.code.size):m.step=m.exec:=by
  unfold M.step
  rw [ho,ha]
  exact if_pos hp
theorem failed_ok {m:M} (h1:m.outcome=none) (h2:m.answer=some false) (h3:m.frames=[]):(m.runFor 4).outcome=some .failed:=by
  have e1:m.step = { m with outcome:=some .failed }:=by unfold M.step; rw [h1,h2,h3]; rfl
  rw [run_step h1,e1]
  rfl
theorem matched_ok {m:M} {f:PySem.Sre.Frame} (h1:m.outcome=none) (h2:m.answer=some true) (h3:m.frames=[f]) (hf:f.wait = .nextStart):(m.runFor 2).outcome=some .matched:=by
  have e0:m.step=M.resume { m with answer:=none,frames:=[],weight:=m.weight - (1 + f.kept.marks.size),pc:=f.pc,pos:=f.pos,outermost:=f.outermost } f true:=by
    unfold M.step; rw [h1,h2,h3]; rfl
  have er:∀ m:M,M.resume m f true=m.say true:=fun m=>by unfold M.resume; rw [hf]; rfl
  have e1:∃ m',m.step=m'∧m'.outcome=none∧m'.answer=some true∧m'.frames=[]:=⟨_,e0.trans (er _),h1,rfl,rfl⟩
  (refine xEAAA e1 fun m' e k1 k2 k3=>?_; try clear e1)
  rw [run_step h1,e,run_step k1]
  show (m'.step).outcome=_
  unfold M.step
  rw [k1,k2,k3]
  rfl
theorem exec_in (C:SetCode code P b e) {m:M} (hc:m.code=code) (hp:m.pc=b) (hl:m.pos < m.lim) (hP:P (m.text.getD m.pos 0)=true):∃ z,m.exec = { m with seen:=z,pc:=e,pos:=m.pos + 1 }:=by
  have hw:ops[m.word 0]? = some .IN:=by unfold M.word; rw [hc,hp]; exact C.opb
  unfold M.exec
  simp only [hw]
  rw [if_neg (by omega)]
  have ha:∃ z',accepts m.code m.pc (m.text.getD m.pos 0) (m.seen.add (m.word 0)) = .ok (true,z'):=by
    unfold accepts
    rw [hc,hp,C.opb]
    (refine xE (C.again (m.text.getD m.pos 0) (m.seen.add (m.word 0))) fun z' h=>?_)
    exact ⟨z',by rw [hP] at h; exact h⟩
  obtain ⟨z',ha⟩:=ha
  have ha':accepts m.code m.pc (m.text.getD m.pos 0) (m.seen.add (m.word 0)) = .ok (true,z'):=ha
  refine ⟨z',?_⟩
  simp only [ha']
  have hwid:m.pc + itemWidth m.code m.pc=e:=by
    unfold itemWidth
    rw [hc,hp,C.opb]
    exact C.width
  rw [hwid]
theorem exec_success (C:SetCode code P b e) {m:M} (hc:m.code=code) (hp:m.pc=e) (hw:m.wholeText=false) (hm:m.mustAdvance=false):∃ z,m.exec = { m with seen:=z,handed:=m.pos,answer:=some true }:=by
  have hop:ops[m.word 0]? = some .SUCCESS:=by unfold M.word; rw [hc,hp]; exact C.opE
  unfold M.exec
  simp only [hop,hw,hm,Bool.false_and,Bool.or_false,Bool.and_false]
  exact ⟨_,rfl⟩
theorem attempt_ok (C:SetCode code P b e) {m:M} (hc:m.code=code) (hl:m.lim=m.text.size) (hp:m.pc=b) (ho:m.outcome=none) (ha:m.answer=none) (hf:m.frames=[]) (hwt:m.weight=0) (hw:m.wholeText=false) :
    ((m.attemptFrom 0 true).runFor 4).outcome=some (if m.text.toList.any P then .matched else .failed):=by
  unfold attemptFrom
  have hh:m.hasFirstSet=true:=by
    have:=C.hinted
    unfold hasFirstSet at this ⊢
    rw [hc]
    exact this
  rw [hh,if_neg (by decide)]
  rcases admitted_ok C hc (m.lim + 1 - 0) 0 m.seen (Nat.le_refl _) hl with ⟨z',h1,h2⟩ | ⟨z',j,h1,h2,h3,h4⟩
  · rw [h1]
    rw [List.drop_zero] at h2
    rw [h2]
    exact failed_ok (m:=M.say { m with seen:=z' } false) ho rfl hf
  · rw [h1]
    rw [List.drop_zero] at h4
    rw [h4]
    have e0:({ m with mustAdvance:=false,seen:=z' } : M).attemptAt j true = { m with mustAdvance:=false,seen:=z',start:=j,pos:=j,lastmark:=-1,lastindex:=-1,frames:=[{ wait:=.nextStart,pc:=b,pos:=j,outermost:=true }],weight:=1,pc:=b,handed:=j,outermost:=true }:=by
      unfold attemptAt attempt
      simp only [hwt,hp,hf]
      rfl
    show (runFor 4 (({ m with mustAdvance:=false,seen:=z' } : M).attemptAt j true)).outcome=some .matched
    rw [e0]
    generalize hM1:({ m with mustAdvance:=false,seen:=z',start:=j,pos:=j,lastmark:=-1,lastindex:=-1,frames:=[{ wait:=.nextStart,pc:=b,pos:=j,outermost:=true }],weight:=1,pc:=b,handed:=j,outermost:=true } : M)=m1
    have f1:m1.code=code:=by rw [← hM1]; exact hc
    have f2:m1.pc=b:=by rw [← hM1]
    have f3:m1.outcome=none:=by rw [← hM1]; exact ho
    have f4:m1.answer=none:=by rw [← hM1]; exact ha
    have f5:m1.pos=j:=by rw [← hM1]
    have f6:m1.lim=m.lim:=by rw [← hM1]
    have f7:m1.text=m.text:=by rw [← hM1]
    have f8:m1.wholeText=false:=by rw [← hM1]; exact hw
    have f9:m1.mustAdvance=false:=by rw [← hM1]
    have f10:m1.frames=[{ wait:=.nextStart,pc:=b,pos:=j,outermost:=true }]:=by rw [← hM1]
    (refine xE (exec_in C f1 f2 (by rw [f5,f6]; exact h2) (by rw [f5,f7]; exact h3)) fun z1 e1=>?_)
    rw [run_step f3,step_exec f3 f4 (by rw [f1,f2]; exact C.blt),e1]
    (refine xE (exec_success C (m:={ m1 with seen:=z1,pc:=e,pos:=m1.pos + 1 }) f1 rfl f8 f9) fun z2 e2=>?_)
    rw [run_step (m:={ m1 with seen:=z1,pc:=e,pos:=m1.pos + 1 }) f3,step_exec (m:={ m1 with seen:=z1,pc:=e,pos:=m1.pos + 1 }) f3 f4 (by show e < m1.code.size; rw [f1]; exact C.elt),e2]
    exact matched_ok f3 rfl f10 rfl
theorem search_ok (C:SetCode code P b e) (text:Array Nat):((forSearch code text 0 0 text.size false).runFor 4).outcome=some (if text.toList.any P then .matched else .failed):=by
  have e1:(header code).1=1:=by rw [C.head]
  have e2:(header code).2=b:=by rw [C.head]
  unfold forSearch
  dsimp only
  rw [e1]
  by_cases hz:text.size=0
  · have ht:text.toList.any P=false:=by
      have:text.toList=[]:=List.eq_nil_of_length_eq_zero (by rw [Array.length_toList]; exact hz)
      rw [this]; rfl
    rw [ht,if_pos (by simp [hz])]
    exact failed_ok rfl rfl rfl
  · rw [if_neg (by simp only [Bool.or_eq_true,decide_eq_true_eq]; omega)]
    exact attempt_ok C rfl rfl e2 rfl rfl rfl rfl rfl
theorem turn_ok (C:SetCode code P b e) (text:Array Nat):∃ m',(forSearch code text 0 0 text.size false).runFor 4=m'∧m'.outcome=some (if text.toList.any P then .matched else .failed):=⟨_,rfl,search_ok C text⟩
end
end Mine
end
section
open PySem PySem.W PyProof.Rows PySem.Calls
set_option maxRecDepth 100000
namespace Mine
section
open PySem.Builtin PySem.Builtin.Re
theorem slot_search:Slot "re.Pattern" "search" "re.Pattern.search" :=
  .of (owner := "re.Pattern") (n := "search") (by rw [typeLookup_type,builtinLookup_eq_fast]; kernel_rfl) (by decide +kernel) (by decide +kernel) (by decide +kernel)
    (by first | exact .inl (by decide +kernel) | exact .inr (by decide +kernel)) (by rw [isSubtype_type]; kernel_rfl)
theorem type_search:typeOf (.builtin "re.Pattern.search")=pure (.type "method_descriptor"):=by show builtinType _=_; rw [builtinType_eq_fast]; kernel_rfl
theorem entry_search:entryFor table "re.Pattern.search" = some Builtin.«re.Pattern.search»:=entryFor_of_tree (by kernel_rfl)
theorem args_search (a b:Value):argsOk "re.Pattern.search" ⟨[a,b],[]⟩:=by unfold argsOk; kernel_rfl
theorem attrs_pattern:PlainAttrs "re.Pattern" :=
  ⟨⟨"object.__getattribute__", by rw [typeLookup_type,builtinLookup_eq_fast]; kernel_rfl,by decide +kernel⟩,by rw [typeLookup_type,builtinLookup_eq_fast]; kernel_rfl⟩
theorem noBool_match:typeLookup (.type "re.Match") "__bool__" = pure none:=by rw [typeLookup_type,builtinLookup_eq_fast]; kernel_rfl
theorem noLen_match:typeLookup (.type "re.Match") "__len__" = pure none:=by rw [typeLookup_type,builtinLookup_eq_fast]; kernel_rfl
/-- a pattern that stands in the frame -/
noncomputable def PatOk (K:Frag) (p:Addr) (P:Nat→Bool):Prop :=
  ∃ (code:Array Nat) (b e:Nat) (o:Obj) (vs:Array Value) (ca:Addr) (co:Obj) (cvs:Array Value) (cn:Nat),
    K.lookup p=some o∧o.cls = .type "re.Pattern" ∧ o.dict=none∧o.data = .fields vs∧reRawNat (vs.getD 6 .none)=0∧reRawNat (vs.getD 2 .none)=0∧vs.getD 5 .none = .ref ca ∧
    K.lookup ca=some co∧co.data = .seq cvs cn∧(cvs.map reRawOf).map (·.toNat)=code∧SetCode code P b e
section
variable {M:Model} {A:Around} {E:Value→Shared→Prop} {s:Shared} {K:Frag} {p:Addr} {P:Nat→Bool} {x:PySem.Str} {t:Tok}
theorem rules_ok {f:Nat→PUnit→Sem (ForInStep PUnit)} (hf:∀ i (Q:ForInStep PUnit→Shared→Prop),Q (.yield ⟨⟩) s→wpAny M A (f i ⟨⟩) Q E s) {Q:PUnit→Shared→Prop} (h:Q ⟨⟩ s):∀ l:List Nat,wpAny M A (forIn l PUnit.unit f) Q E s
  | []=>by rw [List.forIn_nil]; exact wpAny_pure h
  | i :: l=>by
    rw [List.forIn_cons]
    exact wpAny_bind (hf i _ (rules_ok hf h l))
theorem runToEnd_ok {m m':PySem.Sre.M} (h4:m.runFor 4=m') {b:Bool} (ho:m'.outcome=some (if b then .matched else .failed)) {Q:Option PySem.Sre.M→Shared→Prop} (h:Q (if b then some m' else none) s):wpAny M A (reRunToEnd m) Q E s:=by
  unfold reRunToEnd
  have e:reDrive (2 ^ 64) m=pure m':=by
    show reDrive (18446744073709551615 + 1) m=_
    rw [reDrive]
    show (if (m.runFor 4).outcome.isSome=true then pure (m.runFor 4) else _)=_
    rw [h4,ho]
    rfl
  rw [e]
  refine wpAny_bind (wpAny_pure ?_)
  refine wpAny_bind (rules_ok (fun i Q hQ=>?_) ?_ _)
  · cases m'.seen.has i with
    | true=>exact wpAny_bind (wpAny_rule (wpAny_pure hQ))
    | false=>exact wpAny_pure hQ
  · rw [ho]
    cases b with
    | true=>exact wpAny_pure h
    | false=>exact wpAny_pure h
theorem search_body (hP:PatOk K p P) (X:K.In s.heap) (hx:x.length ≤ sizeLine) {Q:Fin→Shared→Prop} (hno:x.cps.toList.any P=false→Q (.done (.ret .none)) s)
    (hyes:x.cps.toList.any P=true→∀ h' a o,(∀ b o,s.heap.get? b=some o→h'.get? b=some o)→h'.get? a=some o→o.cls = .type "re.Match" → Q (.done (.ret (.ref a))) { s with heap:=h' }) :
    wpAny M A (Builtin.«re.Pattern.search» ⟨[.ref p,.str x t],[]⟩) Q E s:=by
  (refine xEE hP fun code b w26z=>?_; refine xEE w26z fun e o w27z=>?_; refine xEE w27z fun vs ca w28z=>?_; refine xEEEAAAAA w28z fun co cvs cn k1 k2 k3 k4 k5 w29z=>?_; refine xAAA w29z fun k6 k7 k8 w30z=>?_; refine xAA w30z fun k9 k10 C=>?_; try clear hP)
  unfold Builtin.«re.Pattern.search» reTarget
  refine wpAny_bind (wpAny_bind (wpAny_of_eq (a:=[some (.str x t),none,none]) rfl ?_))
  refine wpAny_bind (wpAny_pure ?_)
  refine wpAny_bind (wpAny_pure ?_)
  refine wpAny_bind (wpAny_fieldsOf (X _ _ k1) k4 ?_)
  refine wpAny_bind (wpAny_of_eq (a:=(x.cps,0)) rfl ?_)
  dsimp only
  rw [k5]
  refine wpAny_bind (wpAny_of_eq (a:=()) rfl ?_)
  rw [k7]
  refine wpAny_bind (m:=reRawItems (.ref ca)) (wpAny_bind (wpAny_seqItems (X _ _ k8) k9 (wpAny_pure ?_)))
  refine wpAny_pure ?_
  dsimp only [Option.getD]
  rw [k6,k10]
  have hl:min (2 ^ 63 - 1:Int).toNat x.cps.size=x.cps.size:=Nat.min_eq_right (by have:x.cps.size ≤ 16777216:=hx; omega)
  have h0:min (0:Int).toNat x.cps.size=0:=Nat.zero_min _
  rw [hl,h0]
  (refine xEA (turn_ok C x.cps) fun m' h4 ho=>?_)
  unfold reAnswer
  refine wpAny_bind (runToEnd_ok h4 ho ?_)
  cases hb:x.cps.toList.any P with
  | false=>exact wpAny_pure (hno hb)
  | true =>
    refine wpAny_bind (m:=reNewMatch _ _ _ _ _ _) ?_
    unfold reNewMatch
    refine wpAny_bind (wpAny_newTuple ?_ (by show (2:Nat) ≤ 16777216; decide))
    refine wpAny_newObj_type ?_
    refine wpAny_pure ?_
    exact hyes hb _ _ _ (fun b o e=>Heap.get?_push_of_some _ (Heap.get?_push_of_some _ e)) (Heap.get?_push_size _ rfl) rfl
end
end
section
variable {G:Amb} {hn:Bool} {n:Nat} {Z:Scope} {c:Cx} {S:Gs} {s:Shared}
/-- what the search hands out: none, or a match -/
noncomputable def RMt (S:Gs) (v:Value) (b:Bool):Prop:=(v = .none∧b=false)∨∃ a o,v = .ref a∧b=true∧S.h.get? a=some o∧o.cls = .type "re.Match"
theorem trSearch {p:Addr} {P:Nat→Bool} {x:PySem.Str} {t:Tok} (hP:PatOk G.K p P) (hx:x.length ≤ sizeLine) (q:Ho G hn n c S s):Tr G c S s RMt (call (.builtin "re.Pattern.search") [.ref p,.str x t]) (.val (x.cps.toList.any P)) S.σ:=by
  have X:G.K.In s.heap:=by rw [q.heap]; exact q.H.kin
  refine Tr.of_wp fun Q E hq=>?_
  have hT:s.TypeIs (.ref p) "re.Pattern" := by
    (refine xEE hP fun code b w31z=>?_; refine xEE w31z fun e o w32z=>?_; refine xEE w32z fun vs ca w33z=>?_; refine xEEEAA w33z fun co cvs cn k1 k2 _=>?_; try clear hP)
    exact ⟨o,X _ _ k1,k2⟩
  refine wpAny_call_entry slot_search hT entry_search (search_body hP X hx (fun h=>⟨_,rfl,?_⟩) fun h h' a o k ho hc=>⟨_,rfl,?_⟩) (args_search _ _)
  · have:=hq .none S s.toks rfl q.H (.refl ..) (.inl ⟨rfl,h⟩)
    rw [← q.heap] at this; exact this
  · (refine xA (q.H.grow (h':=h') (fun b o e=>k b o (by rw [q.heap]; exact e))) fun H1 x1=>?_)
    exact hq (.ref a) { S with h:=h' } s.toks rfl H1 x1 (.inr ⟨a,o,rfl,h,ho,hc⟩)
theorem trMatch {v:Value} {b:Bool} (q:Ho G hn n c S s) (r:RMt S v b):Tr G c S s (fun _ a b=>a=b) (truthy v) (.val b) S.σ:=by
  refine Tr.tok q.H q.heap fun Q E hq=>?_
  rcases r with ⟨rfl,rfl⟩ | ⟨a,o,rfl,rfl,ho,hc⟩
  · exact wpAny_pure (hq _ s.toks rfl)
  · have hT:s.TypeIs (.ref a) "re.Match" := ⟨o,by rw [q.heap]; exact ho,hc⟩
    unfold truthy
    refine wpAny_bind (wpAny_callSpecial?_none (name:=PySem.Str.ofString "__bool__") hT noBool_match ?_)
    refine wpAny_bind (wpAny_specialOf hT noLen_match ?_)
    exact wpAny_pure (hq _ s.toks rfl)
theorem trCallWithR {β:Type} {R:Gs→Value→β→Prop} {pos:Pos} {f:Value} {mf:List D→List (PySem.Str × D)→List AO→Option (Out β × List AO)} {es:List Expr} {ks:List Keyword} {ms:List (Mo D)} {mk:List (PySem.Str × Mo D)} (h:EvL G hn n Z es ms) (hs:es.all notStar=true) (hk:EvK G hn n Z ks mk)
    (hf:Kep G f) (hc:∀ c S s vs ds kw kd out σ',Ho G hn n c S s→Rvs G c S vs ds→Rbs G c S kw kd→mf ds kd S.σ=some (out,σ')→Tr G c S s R (call f vs kw) out σ') {env:Env} {fr:Fr} {out:Out β} {σ':List AO} (q:Run G hn n Z c env fr S s) {first:List Value} {fd:List D} (rf:Rvs G c S first fd)
    (hm:Mo.bind (Mo.args ms mk) (fun a _ σ=>mf (fd ++ a.1) a.2 σ) fr S.σ=some (out,σ')) :
    Tr G c S s R (callWith pos f first (backTo pos (starEach es env)) (backToKw pos (keywordEach ks env))) out σ':=by
  unfold callWith
  refine Tr.bindM hm (fun o1 σ1 h1=>Tr.holding (trArgs h hs hk q h1)) fun b a S1 tk H1 x1 ra h2=>?_
  have q1:=q.step (tk:=tk) H1 x1
  refine Tr.standAt ?_
  have ht:=hc c S1 _ (first ++ a.pos) (fd ++ b.1) a.kw b.2 out σ' q1.ho (VRs.append (rf.ext x1) ra.1) ra.2 h2
  intro Q E hq hx
  have hst:=star_all (pos:=pos) (env:=env) hs
  have hsk:((backTo pos (starEach es env)).any (·.1) || (backToKw pos (keywordEach ks env)).any (·.1.isNone))=false:=by
    rw [hst,Bool.false_or]
    have:=(kw_names (pos:=pos) (env:=env) hk).2
    rw [List.any_eq_false]
    intro x hx
    have:=List.all_eq_true.mp this x hx
    cases hh:x.1 with
    | none=>rw [hh] at this; exact nFT this
    | some y=>intro q; exact nFT q
  (refine xE (hf S1.h H1.kin) fun k hk'=>?_)
  have tail:∀ {t:Sem Value},wpAny G.M c.A t Q E (ShT s S1.h tk)→wpAny G.M c.A (t >>= fun r=>PySem.holding [r] PySem.point >>= fun _=>Pure.pure r) Q E (ShT s S1.h tk) :=
    fun ht=>wpAny_bind (wpAny_mono ht (fun r s₂ hr=>wpAny_bind (wpAny_holding (wpAny_point (wpAny_pure hr)))) fun _ _ x=>x)
  have w:=ht Q E hq hx
  dsimp only
  rw [hsk]
  refine wpAny_bind (hk'.here ?_)
  cases k with
  | frame =>
    dsimp only
    split
    · exact tail w
    · exact tail (by unfold callMarked; exact Calls.wpAny_keep w)
  | boundFrame =>
    dsimp only
    split
    · exact tail w
    · exact tail (by unfold callMarked; exact Calls.wpAny_keep w)
  | machine=>exact tail w
  | caller=>exact tail (wpAny_operating w)
/-- regex.search(value) for its truth -/
noncomputable def Mo.srch (pat:Addr→Option (Nat→Bool)) (mo ma:Mo D):Mo Bool:=Mo.bind mo fun d=>Mo.bind (Mo.opt (match d with
  | .glob (.ref p)=>pat p
  | _=>none)) fun P=>Mo.bind ma fun x=>match x with
    | .str x=>Mo.pure (x.cps.toList.any P)
    | _=>Mo.fail
theorem srch_glob {pat:Addr→Option (Nat→Bool)} {d:D} {P:Nat→Bool} (h:(match d with
  | .glob (.ref p)=>pat p
  | _=>none)=some P):∃ p,d = .glob (.ref p)∧pat p=some P:=by
  split at h
  · exact ⟨_,rfl,h⟩
  · exact nnS h
theorem srch_str {d:D} {P:Nat→Bool} {fr:Fr} {σ:List AO} {r:Out Bool × List AO} (h:(match d with
    | .str x=>(Mo.pure (x.cps.toList.any P):Mo Bool)
    | _=>Mo.fail) fr σ=some r):∃ x,d = .str x∧r=(.val (x.cps.toList.any P),σ):=by
  cases d <;> first | exact nnS h | exact ⟨_,rfl,(s1E h).symm⟩
/-- the search as a callee -/
noncomputable def mfSrch (p:Addr) (P:Nat→Bool) (ds:List D) (kd:List (PySem.Str × D)) (σ:List AO):Option (Out Bool × List AO):=(pick fun x=>ds=[.glob (.ref p),.str x]∧kd=[]).map fun x=>(.val (x.cps.toList.any P),σ)
theorem ca_srch {p:Addr} {P:Nat→Bool} (hP:PatOk G.K p P) {c:Cx} {S:Gs} {s:Shared} {vs:List Value} {ds:List D} {kw:List (PySem.Str × Value)} {kd:List (PySem.Str × D)} {out:Out Bool} {σ':List AO} (q:Ho G hn n c S s) (hv:Rvs G c S vs ds) (hk:Rbs G c S kw kd) (hm:mfSrch p P ds kd S.σ=some (out,σ')) :
    Tr G c S s RMt (call (.builtin "re.Pattern.search") vs kw) out σ':=by
  refine xEA (Option.map_eq_some_iff.mp hm) fun x hx e=>?_
  have hx:=pick_ok hx
  refine Tr.cast (congrArg some e) ?_
  clear hm e
  rw [hx.2] at hk
  rw [hx.1] at hv
  clear hx
  refine xEEAA (VRs.i_two hv) fun v w e r1 r2=>?_
  rw [e,Rbs.i_nil hk]
  refine xEA (VR.i_str r2) fun t ev hxl=>?_
  rw [VR.i_glob r1,ev]
  exact trSearch hP hxl q
theorem args_srch {p:Addr} {P:Nat→Bool} {ma:Mo D} {fr:Fr} {σ:List AO} {r:Out Bool × List AO} (h3:Mo.bind ma (fun x=>match x with
    | .str x=>Mo.pure (x.cps.toList.any P)
    | _=>Mo.fail) fr σ=some r):Mo.bind (Mo.args [ma] []) (fun a _ σ=>mfSrch p P ([.glob (.ref p)] ++ a.1) a.2 σ) fr σ=some r:=by
  unfold Mo.args Mo.seq Mo.seqK
  unfold Mo.bind at h3 ⊢
  cases hma:ma fr σ with
  | none=>rw [hma] at h3; exact nnS h3
  | some pr =>
    rw [hma] at h3
    obtain ⟨o1,σ1⟩:=pr
    cases o1 with
    | exc X msg=>exact h3
    | val dx =>
      refine xEA (srch_str h3) fun x e1 e2=>?_
      rw [e1,e2]
      show (pick fun y=>[D.glob (.ref p),.str x]=[.glob (.ref p),.str y]∧([]:List (PySem.Str × D))=[]).map (fun x=>(Out.val (x.cps.toList.any P),σ1))=_
      rw [pick_mk (a:=x) ⟨rfl,rfl⟩ fun y hy=>by have q:=hy.1; injection q with _ q; injection q with q _; injection q with q; exact q.symm]
      rfl
theorem trEvSearch {o a:Expr} {apos pos:Pos} {pat:Addr→Option (Nat→Bool)} {mo ma:Mo D} (hpat:∀ p P,pat p=some P→PatOk G.K p P) (ho:Ev G hn n Z o mo) (ha:Ev G hn n Z a ma)
    (hs:notStar a=true) (hbase:∀ env,attributeBase o "search" env (eval o env)=eval o env)
    (hfew:∀ env,methodCallForm 1 (backTo pos (starEach [a] env)) (backToKw pos (keywordEach [] env))=true)
    (hline:(apos.endLine == pos.line)=true) {c:Cx} {S:Gs} {s:Shared} {env:Env} {fr:Fr} {out:Out Bool} {σ':List AO} (q:Run G hn n Z c env fr S s) (hm:Mo.srch pat mo ma fr S.σ=some (out,σ')) :
    Tr G c S s RMt (eval (.Call (.Attribute o "search" apos) [a] [] pos) env) out σ':=by
  rw [arm_eval_Call,hbase]
  unfold Mo.srch at hm
  refine Tr.bindM hm (fun o1 σ1 h1=>ho c env fr S s o1 σ1 q h1) fun d ov S1 tk H1 x1 ra h2=>?_
  refine xEA (bindOpt h2) fun P hPat h3=>?_
  refine xEA (srch_glob hPat) fun p ed hPat=>?_
  subst ed
  have ev:=VR.i_glob ra
  subst ev
  have hP:=hpat p P hPat
  have h4:=args_srch (p:=p) h3
  clear hm h2 h3 hPat hpat
  refine Tr.standAt ?_
  unfold methodCall
  rw [show methodCallForm ([a].length + ([]:List Keyword).length) (backTo pos (starEach [a] env)) (backToKw pos (keywordEach [] env))=true from hfew env]
  have hp:methodCallPos true o env apos pos=Pure.pure pos:=by unfold methodCallPos; simp [hline]
  rw [hp]
  clear hp
  intro Q E hq hx
  have hX:∃ oo,S1.h.get? p=some oo∧oo.cls = .type "re.Pattern" ∧ oo.dict=none:=by
    obtain ⟨_,_,_,oo,_,_,_,_,_,k1,k2,k3,_⟩:=hP
    exact ⟨oo,H1.kin _ _ k1,k2,k3⟩
  refine xEAA hX fun oo X k2 k3=>?_
  refine wpAny_bind (wpAny_holding (getMethod_builtin (T := "re.Pattern") ⟨oo,X,k2⟩ attrs_pattern slot_search type_search (fun a e=>by (have k1:=Value.ref.inj e; clear e; subst k1); exact ⟨oo,X,k3⟩) ?_))
  refine wpAny_bind (wpAny_pure ?_)
  exact trCallWithR (R:=RMt) (es:=[a]) (ks:=[]) (ms:=[ma]) (mk:=[]) (fd:=[.glob (.ref p)]) (mf:=mfSrch p P) ⟨ha,trivial⟩ (by show (notStar a && true)=true; rw [hs]; rfl) trivial Kep.blt (fun c S s vs ds kw kd out σ' q hv hk hm=>ca_srch hP q hv hk hm) (q.step H1 x1) (VRs.one (.glob _)) h4 Q E hq hx
theorem Cd.search {o a:Expr} {apos pos:Pos} {pat:Addr→Option (Nat→Bool)} {mo ma:Mo D} (hpat:∀ p P,pat p=some P→PatOk G.K p P) (ho:Ev G hn n Z o mo) (ha:Ev G hn n Z a ma)
    (hs:notStar a=true:=by rfl) (hbase:∀ env,attributeBase o "search" env (eval o env)=eval o env:=by intro _; rfl)
    (hfew:∀ env,methodCallForm 1 (backTo pos (starEach [a] env)) (backToKw pos (keywordEach [] env))=true:=by intro _; rfl)
    (hline:(apos.endLine == pos.line)=true:=by rfl) :
    Cd G hn n Z (.Call (.Attribute o "search" apos) [a] [] pos) (Mo.srch pat mo ma):=by
  intro c env fr S s out σ' q hm
  show Tr G c S s _ (do let v ← eval (.Call (.Attribute o "search" apos) [a] [] pos) env; standAt pos; holding [v] (truthy v)) out σ'
  refine Tr.bind (trEvSearch hpat ho ha hs hbase hfew hline q hm) (fun b hb v S1 tk e1 H1 x1 r1=>?_) fun _ _ h=>⟨h,rfl⟩
  subst e1
  rw [hb]
  exact Tr.standAt (Tr.holding (trMatch (q.step H1 x1).ho r1))
end
end Mine
end
section
open PySem PySem.W PyProof.Rows PySem.Calls
set_option maxRecDepth 100000
namespace Mine
section
open PySem.Sre PySem.Sre.M
noncomputable def codeN:Array Nat:=#[14,10,4,1,1,22,0,31,16,127,0,13,7,22,0,31,16,127,0,1]
noncomputable def codeV:Array Nat:=#[14,14,4,1,1,9,4294966783,0,0,2147483648,0,0,0,0,0,13,11,9,4294966783,0,0,2147483648,0,0,0,0,0,1]
noncomputable def ctlN (c:Nat):Bool:=decide (c ≤ 31) || decide (c=127)
noncomputable def ctlV (c:Nat):Bool:=decide (c < 256) && (codeV.getD (6 + c / 32) 0).testBit (c % 32)
theorem setN (i:Nat) (c:Nat) (z:PySem.Sre.Seen) (h:∃ a b d,inSet codeN c codeN.size i true z=if (decide (0 ≤ c) && decide (c ≤ 31))=true then .ok (true,a) else if (c == 127)=true then .ok (true,b) else .ok (false,d)) :
    ∃ z',inSet codeN c codeN.size i true z = .ok (ctlN c,z') :=
  h.elim fun a h=>h.elim fun b h=>h.elim fun d h=>by
    rw [h]
    clear h
    unfold ctlN
    by_cases h1:c ≤ 31
    · exact ⟨a,by rw [decide_eq_true h1,decide_eq_true (Nat.zero_le c)]; rfl⟩
    · by_cases h2:c=127
      · exact ⟨b,by rw [decide_eq_true h2,h2]; rfl⟩
      · exact ⟨d,by rw [decide_eq_false h1,decide_eq_false h2,beq_eq_false_iff_ne.mpr h2,Bool.and_false]; rfl⟩
theorem setCodeN:SetCode codeN ctlN 11 19 where
  head:=by rfl
  hinted:=by rfl
  bpos:=by decide
  first:=fun c z=>setN 5 c z ⟨_,_,_,rfl⟩
  opb:=by rfl
  again:=fun c z=>setN 13 c z ⟨_,_,_,rfl⟩
  width:=by rfl
  opE:=by rfl
  blt:=by decide
  elt:=by decide
theorem setV (i:Nat) (h1:∀ k,k < 8→codeV.getD (i + (1 + k)) 0=codeV.getD (6 + k) 0) (c:Nat) (z:PySem.Sre.Seen) (h:∃ a d,inSet codeV c codeV.size i true z=if (decide (c < 256) && (codeV.getD (i + (1 + c / 32)) 0).testBit (c % 32))=true then .ok (true,a) else .ok (false,d)) :
    ∃ z',inSet codeV c codeV.size i true z = .ok (ctlV c,z') :=
  h.elim fun a h=>h.elim fun d h=>by
    rw [h]
    clear h
    unfold ctlV
    by_cases hc:c < 256
    · rw [h1 (c / 32) (Nat.div_lt_of_lt_mul hc)]
      generalize (codeV.getD (6 + c / 32) 0).testBit (c % 32)=b
      rw [decide_eq_true hc]
      exact b.rec ⟨d,rfl⟩ ⟨a,rfl⟩
    · rw [decide_eq_false hc]
      exact ⟨d,rfl⟩
theorem setCodeV:SetCode codeV ctlV 15 27 where
  head:=by rfl
  hinted:=by rfl
  bpos:=by decide
  first:=fun c z=>setV 5 (fun k _=>congrArg (codeV.getD · 0) (Nat.add_assoc 5 1 k).symm) c z ⟨_,_,rfl⟩
  opb:=by rfl
  again:=fun c z=>setV 17 (by decide) c z ⟨_,_,rfl⟩
  width:=by rfl
  opE:=by rfl
  blt:=by decide
  elt:=by decide
end
theorem patN {K:Frag} {p ca:Addr} {x:PySem.Str} {t u:Tok} {m:Nat} {cvs:Array Value} (h1:K.lookup p=some { cls:=.type "re.Pattern", data:=.fields #[.str x t,.int 32 u,.int 0 0,.none,.none,.ref ca,.int 0 0] })
    (h2:K.lookup ca=some { cls:=.type "tuple", data:=.seq cvs m }) (h3:(cvs.map Builtin.Re.reRawOf).map (·.toNat)=codeN):PatOk K p ctlN :=
  ⟨codeN,11,19,_,_,ca,_,_,_,h1,rfl,rfl,rfl,rfl,rfl,rfl,h2,rfl,h3,setCodeN⟩
theorem patV {K:Frag} {p ca:Addr} {x:PySem.Str} {t u:Tok} {m:Nat} {cvs:Array Value} (h1:K.lookup p=some { cls:=.type "re.Pattern", data:=.fields #[.str x t,.int 32 u,.int 0 0,.none,.none,.ref ca,.int 0 0] })
    (h2:K.lookup ca=some { cls:=.type "tuple", data:=.seq cvs m }) (h3:(cvs.map Builtin.Re.reRawOf).map (·.toNat)=codeV):PatOk K p ctlV :=
  ⟨codeV,15,27,_,_,ca,_,_,_,h1,rfl,rfl,rfl,rfl,rfl,rfl,h2,rfl,h3,setCodeV⟩
end Mine
end
section
open PySem PySem.W PyProof.Rows PySem.Calls
set_option maxRecDepth 100000
namespace Mine
section
variable {G:Amb} {hn:Bool} {n:Nat} {Z:Scope} {c:Cx} {S:Gs} {s:Shared}
noncomputable def itemsOf (es:List (PySem.Str × D)):List D:=es.map fun p=>.tup [.str p.1,p.2]
theorem WalkN.items (hh:c.A.handled=none) {it d:Addr} (hit:it ∈ c.X) {es:List (PySem.Str × D)} {kvs:List (PySem.Str × Value)} {ep:Nat} {elts:List Expr} {k:Nat} {pt:Pos} (hk:kvs.map (·.1)=es.map (·.1)) (hlen:es.all (fun p=>decide (p.1.length ≤ sizeLine))=true) :
    WalkN G c [it] it (.Tuple elts k pt) (itemsOf es) (fun _=>True) (fun i S=>(∃ ok ov,IsItemIter S.h it d i kvs.length ep ok ov)∧S.h.DictAt (strKind G.prog G.w) d kvs ep∧d ∉ vol c S∧Rvs G c S (kvs.map (·.2)) (es.map (·.2))):=by
  have hkl:kvs.length=es.length:=by have:=congrArg List.length hk; simpa using this
  have itV:∀ S:Gs,it ∈ vol c S:=fun S=>List.mem_append_right _ (List.mem_append_right _ hit)
  have ne:∀ {S:Gs},d ∉ vol c S→d ≠ it:=fun h e=>h (e ▸ itV _)
  refine ⟨fun i S S' h ha hp hv hkeep=>?_,fun i S s dd Q E h H hs hp0 _ hd hQ=>?_,fun S s Q E h H hs hp0 _ hQ=>?_⟩
  · (refine xAAA h fun q0z h2 h3 h4=>?_; try clear h; refine xEE q0z fun ok ov h1=>?_)
    (refine xEEA (id h2) fun od _ hod _=>?_)
    exact ⟨⟨ok,ov,hkeep it (.head _) _ h1⟩,h2.at fun o e=>hp d o h3 e,hv.notin hod h3,VRs.mono hp ha hv h4⟩
  · (refine xAAA h fun q0z h2 h3 h4=>?_; try clear h; refine xEE q0z fun ok ov h1=>?_)
    unfold itemsOf at hd
    rw [List.getElem?_map] at hd
    (refine xEA (Option.map_eq_some_iff.mp hd) fun q0z he q1z=>?_; obtain ⟨x,dv⟩:=q0z; subst q1z)
    have hx:x.length ≤ sizeLine:=by
      have:=List.all_eq_true.mp hlen (x,dv) (List.mem_of_getElem? he)
      simpa using this
    have hlt:i < es.length:=(List.getElem?_eq_some_iff.mp he).1
    obtain ⟨⟨x',v⟩,hkv⟩:∃ p,kvs[i]? = some p:=⟨_,List.getElem?_eq_getElem (by rw [hkl]; exact hlt)⟩
    have hxx:x'=x:=by
      have e1:(kvs.map (·.1))[i]? = some x':=by rw [List.getElem?_map,hkv]; rfl
      rw [hk,List.getElem?_map,he] at e1
      simpa using e1.symm
    subst hxx
    have hv:Rv G c S v dv:=by
      obtain ⟨w,hw,r⟩:=VRs.get h4 (k:=i) (d:=dv) (by rw [List.getElem?_map,he]; rfl)
      rw [List.getElem?_map,hkv] at hw
      (have k1:=s1E hw; clear hw; subst k1); exact r
    rw [← hs] at h1 h2
    refine wpAny_pyNext_items_item h1 h2 hkv fun key h' hkey hout htup hsz hkp=>⟨_,rfl,wpAny_letOwnedTupleGo_items hout fun h'' he'' hs''=>?_⟩
    obtain ⟨t,rfl⟩:∃ t,key = .str x' t:=by
      have hkey':Value.isStrOf x' key=true:=hkey
      cases key with
      | str y t=>exact ⟨t,by unfold Value.isStrOf at hkey'; rw [beq_iff_eq.mp hkey']⟩
      | _=>unfold Value.isStrOf at hkey'; exact nFT hkey'
    have hsz':s.heap.objs.size=S.h.objs.size:=by rw [hs]
    rw [hsz'] at htup ⊢
    rw [hs] at hkp
    have hitlt:it < S.h.objs.size:=by rw [hs] at h1; exact Heap.lt_size h1
    have keep:∀ b o,b ∉ [it]→S.h.get? b=some o→h''.get? b=some o:=fun b o hb e=>by
      have hbi:b ≠ it:=fun q=>hb (by rw [q]; exact .head _)
      rw [hs''.2 b hbi]
      exact hkp b o hbi e
    have pres:Pres (vol c S) S.h h'':=fun a o hn e=>keep a o (fun q=>hn (by rcases List.mem_singleton.mp q with rfl; exact itV S)) e
    refine hQ (.ref S.h.objs.size) h'' ⟨s.toks,hp0⟩ keep (fun b hb=>by rcases List.mem_singleton.mp hb with rfl; exact ⟨_,he''⟩) ⟨⟨_,_,he''⟩,?_,h3,VRs.mono pres (.refl _) (.of_sub _ fun _ q=>q) h4⟩ ?_
    · rw [hs] at h2
      exact h2.at fun o e=>pres d o h3 e
    · refine .tup (o:={ cls:=.type "tuple", data:=.seq #[.str x' t,v] }) ?_ rfl rfl (by show 2 ≤ sizeLine; decide) H.size_notin (.cons (.str _ _ hx) (.cons ?_ .nil))
      · rw [hs''.2 _ (Nat.ne_of_gt hitlt)]; exact htup
      · exact VR.mono pres (.refl _) (.of_sub _ fun _ q=>q) hv
  · obtain ⟨⟨ok,ov,h1⟩,h2,h3,h4⟩:=h
    rw [← hs] at h1 h2
    refine wpAny_pyNext_items_end hh h1 h2 (List.getElem?_eq_none (by rw [hkl]; unfold itemsOf; simp)) fun h' hb=>hQ h' ⟨s.toks,hp0⟩ fun b o hbi e=>?_
    rw [hs] at hb
    exact hb b o (fun q=>hbi (by rw [q]; exact .head _)) e
noncomputable def Mo.items (mo:Mo D):Mo Src:=Mo.bind mo fun d=>Mo.opt (match d with
  | .dct es=>if es.all (fun p=>decide (p.1.length ≤ sizeLine)) then some ⟨itemsOf es,fun _=>True⟩ else none
  | _=>none)
theorem Itr.items {o:Expr} {apos pos:Pos} {elts:List Expr} {k:Nat} {pt:Pos} {mo:Mo D} (ho:Ev G true n Z o mo) (hbase:∀ env,attributeBase o "items" env (eval o env)=eval o env:=by intro _; rfl)
    (hline:(apos.endLine == pos.line)=true:=by rfl):Itr G true n Z (.Tuple elts k pt) (.Call (.Attribute o "items" apos) [] [] pos) (Mo.items mo):=by
  intro c env fr S s out σ' q hm
  have hfs:∀ x,foldedSetIterable (.Call (.Attribute o "items" apos) [] [] pos) env x=Pure.pure x:=fun _=>rfl
  simp only [hfs,pure_bind]
  rw [arm_eval_Call,hbase,bind_assoc]
  refine Tr.bindM hm (fun o1 σ1 h1=>ho c env fr S s o1 σ1 q h1) fun d v S1 tk H1 x1 ra h2=>?_
  unfold Mo.opt at h2
  (refine xEA (Option.map_eq_some_iff.mp h2) fun x hx h3=>?_)
  (have k1:=p2A h3; have k2:=p2B h3; clear h3; subst k1 k2)
  split at hx
  rotate_left
  · exact nnS hx
  rename_i es
  split at hx
  rotate_left
  · exact nnS hx
  rename_i hlen
  (have k1:=s1E hx; clear hx; subst k1)
  have hh:=q.hand rfl
  obtain ⟨a,es',nn,rfl,h0,h1,hnd,hna,hre⟩:∃ (a:Addr) (es':Array DictEntry) (nn:Nat),v = .ref a∧1 < a∧S1.h.get? a=some { cls:=.type "dict", dict:=none,data:=.dict es' nn,slots:=#[] }∧(es.map (·.1)).Nodup∧a ∉ vol c S1∧VRe G.w.params S1.adr (vol c S1) S1.h es'.toList es:=by
    exact VR.i_dctF ra
  obtain ⟨kvs,k1,k2,kv,k4⟩:=valueAt_of (G:=G) rfl hre
  have hat:S1.h.DictAt (strKind G.prog G.w) a kvs nn:=⟨_,es',h1,⟨rfl,rfl,rfl⟩,rfl,fun e he=>k4 e (by simpa using he),k1,by rw [k2]; exact hnd⟩
  have hsys:(a == sysModules)=false:=beq_eq_false_iff_ne.mpr (Nat.ne_of_gt h0)
  refine Tr.of_wp fun Q E hq=>?_
  refine wpAny_bind (wpAny_bind (wpAny_standAt ?_))
  unfold methodCall
  refine wpAny_bind (wpAny_holding (getMethod_builtin (T := "dict") ⟨_,h1,rfl⟩ F.plainAttrs_dict F.slot_dict_items F.type_dict_items (fun b e=>by (have k1:=Value.ref.inj e; clear e; subst k1); exact ⟨_,h1,rfl⟩) ?_))
  have hp:methodCallPos true o env apos pos=Pure.pure pos:=by unfold methodCallPos; simp [hline]
  show wpAny _ _ (methodCallPos true o env apos pos >>= _) _ _ _
  rw [hp]
  refine wpAny_bind (wpAny_pure ?_)
  show wpAny _ _ (callWith pos (.builtin "dict.items") [.ref a] [] []) _ _ _
  refine method_meetsIn F.slot_dict_items F.entry_dict_items rfl (PySem.evalArgs_none ⟨rfl,⟨_,h1,rfl⟩,F.args_dict_items_1 _,_,meets_dict_items (strKind G.prog G.w) a hsys,⟨kvs,hat.dictOf⟩,?_⟩)
  refine wpAny_bind (wpAny_standAt (wpAny_holding ?_))
  refine wpAny_pyIter_items (knd:=strKind G.prog G.w) ⟨_,Heap.get?_push_size _ rfl,rfl,rfl⟩ (hat.push _) ?_
  have hsz:(S1.h.push { cls:=.type "dict_items", data:=.fields #[.ref a] }).objs.size=S1.h.objs.size + 1:=Heap.size_push ..
  have freshN:S1.h.get? (S1.h.objs.size + 1)=none:=Heap.get?_none_of_le (Nat.le_succ _)
  have fresh1:∀ b ∈ [S1.h.objs.size + 1],S1.h.get? b=none:=fun b hb=>by rcases List.mem_singleton.mp hb with rfl; exact freshN
  have fresh0:∀ b ∈ [S1.h.objs.size + 1],S.h.get? b=none:=fun b hb=>by
    rcases List.mem_singleton.mp hb with rfl
    cases e:S.h.get? (S1.h.objs.size + 1) with
    | none=>rfl
    | some o=>obtain ⟨o',e'⟩:=x1.live _ o e; rw [freshN] at e'; exact nnS e'
  show Q (.ref (S1.h.push { cls:=.type "dict_items", data:=.fields #[.ref a] }).objs.size) _
  rw [hsz]
  generalize hh3:(S1.h.push { cls:=.type "dict_items", data:=.fields #[.ref a] }).push { cls:=.type "dict_itemiterator", data:=.fields #[.none,.bool false,.ref a,.int 0 0,.int kvs.length 0,.int nn 0,.none,.none] } = h3
  have k3:∀ b o,S1.h.get? b=some o→h3.get? b=some o:=fun b o e=>by rw [← hh3]; exact Heap.get?_push_of_some _ (Heap.get?_push_of_some _ e)
  have gI:IsItemIter h3 (S1.h.objs.size + 1) a 0 kvs.length nn .none .none:=by
    rw [← hh3,← hsz]; exact Heap.get?_push_size _ rfl
  obtain ⟨H3,x3⟩:=H1.addX (its:=[S1.h.objs.size + 1]) (h':=h3) k3 fun b hb=>⟨fresh1 b hb,by rcases List.mem_singleton.mp hb with rfl; exact ⟨_,gI⟩⟩
  have hdV:a ∉ vol (c.addX [S1.h.objs.size + 1]) { S1 with h:=h3 }:=fun hm=>by
    rcases vol_addX.mp hm with z | z
    · rcases List.mem_singleton.mp z with rfl; rw [freshN] at h1; exact nnS h1
    · exact hna z
  have hit:S1.h.objs.size + 1 ∈ (c.addX [S1.h.objs.size + 1]).X:=List.mem_append_left _ (.head _)
  refine hq (.ref (S1.h.objs.size + 1)) { S1 with h:=h3 } tk rfl H3.dropX x3 ⟨S1.h.objs.size + 1,[S1.h.objs.size + 1],_,rfl,fresh0,H3,?_,WalkN.items (c:=c.addX [S1.h.objs.size + 1]) (d:=a) (ep:=nn) hh hit k2 hlen⟩
  exact ⟨⟨.none,.none,gI⟩,hat.at fun o e=>k3 _ _ e,hdV,VRs.mono (fun b o hn e=>k3 b o e) (.refl _) (fun b hb=>(vol_addX.mp hb).elim (fun z=>.inr (fresh1 b z)) fun z=>.inl z) kv⟩
end
end Mine
end
section
open PySem PySem.W PyProof.Rows PySem.Calls
set_option maxRecDepth 100000
namespace Mine
section
variable {G:Amb} {hn:Bool} {n:Nat} {Z:Scope} {c:Cx} {S:Gs} {s:Shared}
/-- format of the one text that a refused thing gives -/
noncomputable def fmtX:PySem.Str:=⟨#[72,101,97,100,101,114,32,110,97,109,101,115,47,118,97,108,117,101,115,32,109,117,115,116,32,98,101,32,111,102,32,116,121,112,101,32,115,116,114,32,40,103,111,116,32,123,48,125,41]⟩
noncomputable def fmtY:PySem.Str:=⟨#[72,101,97,100,101,114,32,110,97,109,101,115,47,118,97,108,117,101,115,32,109,117,115,116,32,98,101,32,111,102,32,116,121,112,101,32,115,116,114,32,40,103,111,116,32,53,41]⟩
section
open PySem.Builtin PySem.Builtin.Str
theorem field_0 {prog:Program} {w:World} {A:Around} {E:Value→Shared→Prop} {s:Shared} {id:String} {a:Array Value} {byName:PySem.Str→Sem Value} {v:Value} {Q:Value × Numbering→Shared→Prop} (ha:a[0]? = some v)
    (h:Q (v,.manual) s):wpAny (model prog w) A (fieldObject id (some a) byName [48] .unset) Q E s:=by
  unfold fieldObject
  refine wpAny_bind (wpAny_of_eq (a:=some 0) rfl ?_)
  refine wpAny_bind (wpAny_of_eq (a:=(some 0,.manual)) rfl ?_)
  simp only [ha,pure_bind]
  rw [KPc.range_list]
  exact wpAny_bind (wpAny_pure (wpAny_pure h))
theorem meets_fmt (t u:Tok):Meets («str.format» ⟨[.str ⟨#[72,101,97,100,101,114,32,110,97,109,101,115,47,118,97,108,117,101,115,32,109,117,115,116,32,98,101,32,111,102,32,116,121,112,101,32,115,116,114,32,40,103,111,116,32,123,48,125,41]⟩ t,.str ⟨#[53]⟩ u],[]⟩) (fun _ R s=>∀ t' k,R (.ok (.ret (.str ⟨#[72,101,97,100,101,114,32,110,97,109,101,115,47,118,97,108,117,101,115,32,109,117,115,116,32,98,101,32,111,102,32,116,121,112,101,32,115,116,114,32,40,103,111,116,32,53,41]⟩ t'))) { s with toks:=k }):=by
  apply KPc.meets_of
  intro _ _ _ _ _ _ _
  unfold Builtin.«str.format»
  refine wpAny_bind (wpAny_of_eq (a:=(_,_,_)) rfl ?_)
  refine wpAny_bind ?_
  refine wpAny_bind ?_
  rw [KPc.range_list]
  refine KFm.start ?_
  intro _ _
  refine KPc.turn ?_
  kpc_if
  kpc_check
  refine wpAny_bind (field_0 (by rfl) ?_)
  refine wpAny_bind (wpAny_holding (wpAny_of_eq (a:=_) rfl ?_))
  kpc_if
  refine wpAny_bind (wpAny_pure ?_)
  kfm_val
  refine wpAny_bind (wpAny_of_eq (a:=some _) rfl ?_)
  refine wpAny_pure ?_
  refine KFm.after_field (by kpc_g) (by kpc_text) (by kpc_obj) (by kfm_len) (by kpc_obj) (by kfm_cat2) (by kfm_rest) ?_
  intro _ _
  kfm_turns
end
noncomputable def fFmt:F2:=fun a b σ=>match a,b with
  | .str x,.str y=>if x=fmtX∧y=⟨#[53]⟩ then some (.val (.str fmtY),σ) else none
  | _,_=>none
theorem Ca.format:Ca G hn n (.builtin "str.format") (one2 fFmt):=Ca.two (by
  intro c S s va vb da db out σ' q ra rb hm
  unfold fFmt at hm
  split at hm
  rotate_left
  · exact nnS hm
  split at hm
  rotate_left
  · exact nnS hm
  rename_i x y hxy
  (refine xA hxy fun q0z q1z=>?_; try clear hxy; subst q0z; subst q1z)
  refine Tr.cast hm ?_
  (refine xEA ra.i_str fun _ q0z _=>?_; subst q0z)
  (refine xEA rb.i_str fun _ q0z _=>?_; subst q0z)
  exact Tr.tok q.H q.heap fun Q E hq=>KFm.call_k (X':=fmtX) (T:=fmtY) rfl (KFm.args_2 _ _) (meets_fmt _ _) fun t' k=>hq _ k (.str _ _ (by show (47:Nat) ≤ 16777216; decide)))
end
end Mine
end
section
open PySem PySem.W PyProof.Rows PySem.Calls
set_option maxRecDepth 100000
namespace Mine
section
variable {G:Amb} {hn:Bool} {n:Nat} {Z:Scope}
theorem sw_of {P:Env→Prop} {Z:Scope} (h:∀ env:Env,P { env with scope:=Z }):∀ env:Env,env.scope=Z→P env:=fun env e=>by
  have:=h env
  rw [← e] at this
  exact this
theorem Ev.dead {e:Expr} : Ev G hn n Z e (fun _ _=>none):=fun _ _ _ _ _ _ _ _ hm=>by exact nnS hm
theorem Exs.dead {b:List Stmt} : Exs G hn n Z b (fun _ _=>none):=fun _ _ _ _ _ _ _ _ _ _ _ hm=>by exact nnS hm
theorem Fn.mono {f:Addr} {mf spec:Fm} (h:Fn G hn n f mf) (k:∀ ds kd σ r,spec ds kd σ=some r→mf ds kd σ=some r):Fn G hn n f spec :=
  fun c S s vs ds kw kd out σ' q hv hk hm=>h c S s vs ds kw kd out σ' q hv hk (k _ _ _ _ hm)
theorem Ho.le {n':Nat} {c:Cx} {S:Gs} {s:Shared} (hle:n ≤ n') (q:Ho G hn n' c S s):Ho G hn n c S s:=⟨by have:=q.room; omega,by have:=q.units; omega,q.hand,q.heap,q.tok,q.H⟩
theorem Fn.up {n':Nat} {f:Addr} {mf:Fm} (h:Fn G hn n f mf) (hle:n ≤ n'):Fn G hn n' f mf :=
  fun c S s vs ds kw kd out σ' q hv hk hm=>h c S s vs ds kw kd out σ' (q.le hle) hv hk hm
noncomputable def fdAt (K:Frag) (a:Addr):FuncData:=match K.lookup a with
  | some ⟨_,_,.func fd,_⟩=>fd
  | _=>default
noncomputable def bodyAt (K:Frag) (a:Addr):List Stmt:=match (fdAt K a).body with
  | .stmts b=>b
  | _=>[]
noncomputable abbrev scopeAt (K:Frag) (a:Addr):Scope:=(fdAt K a).scope
noncomputable def fnOk (K:Frag) (a:Addr):Bool:=match K.lookup a with
  | some ⟨_,_,.func fd,_⟩=>decide (fd.globals=mainGlobals) && fd.closure.isEmpty && decide (fd.builtins=builtinsNs) && codeIn K fd.code fd.qualname && decide (fd.scope.kind = .function) && !fd.scope.isCoroutine && !fd.scope.isGenerator &&
    (fd.scope.names.all fun y=>y.2 != .free) && (match fd.body with
      | .stmts _=>true
      | _=>false)
  | _=>false
theorem Fn.at {K:Frag} (hK:G.K=K) {a:Addr} {m:Mf SF} {bf:List D→List (PySem.Str × D)→Option (List (PySem.Str × D))} (hi:fnOk K a=true) (hbind:Bnd G (fdAt K a) bf)
    (hnames:∀ ds kd bd,bf ds kd=some bd→(bd.all fun y=>(scopeAt K a).names.lookup y.1 == some .local || (scopeAt K a).names.lookup y.1 == some .cell)=true) (hbody:Exs G hn n (scopeAt K a) (bodyAt K a) m) :
    Fn G hn (n + 1) a (fun ds kd σ=>(bf ds kd).bind fun bd=>Mf.fn m (frB bd fun _=>none) σ):=by
  unfold fnOk at hi
  split at hi
  · rename_i oc od fd osl hl
    have hfd:fdAt K a=fd:=by unfold fdAt; rw [hl]
    simp only [Bool.and_eq_true,decide_eq_true_eq,Bool.not_eq_true'] at hi
    (refine xA hi fun q0z h9=>?_; try clear hi; refine xA q0z fun q1z h8=>?_; refine xA q1z fun q2z h7=>?_; refine xA q2z fun q3z h6=>?_; refine xA q3z fun q4z h5=>?_; refine xA q4z fun q5z h4=>?_; refine xA q5z fun q6z h3=>?_; refine xA q6z fun h1 h2=>?_)
    split at h9
    · rename_i body hb
      have hbd:bodyAt K a=body:=by unfold bodyAt; rw [hfd,hb]
      rw [hbd] at hbody
      unfold scopeAt at hbody hnames
      rw [hfd] at hbind hnames hbody
      exact Fn.of_body (by rw [hK]; exact hl) hb h1 (List.isEmpty_iff.mp h2) h3 (by rw [hK]; exact h4) h5 h6 h7 h8 hbind hnames hbody
    · exact nFT h9
  · exact nFT hi
theorem Kep.at {K:Frag} (hK:G.K=K) {a:Addr} (hi:fnOk K a=true):Kep G (.ref a):=by
  unfold fnOk at hi
  split at hi
  · rename_i oc od fd osl hl
    exact Kep.fn (by rw [hK]; exact hl)
  · exact nFT hi
section
variable {o:Expr} {name:PySem.Str} {apos pos:Pos} {mf:Fm} {es:List Expr} {ks:List Keyword} {mo:Mo D} {ms:List (Mo D)} {mk:List (PySem.Str × Mo D)}
theorem Ev.methS {id:String} (slot:Slot "str" name id) (hty:typeOf (.builtin id)=Pure.pure (.type "method_descriptor")) (ho:Ev G hn n Z o mo) (h:EvL G hn n Z es ms) (hk:EvK G hn n Z ks mk) (hc:Ca G hn n (.builtin id) mf)
    (hs:es.all notStar=true:=by rfl) (hbase:∀ env,attributeBase o name env (eval o env)=eval o env:=by intro _; rfl)
    (hfew:∀ env,methodCallForm (es.length + ks.length) (backTo pos (starEach es env)) (backToKw pos (keywordEach ks env))=true:=by intro _; rfl)
    (hline:(apos.endLine == pos.line)=true:=by rfl) :
    Ev G hn n Z (.Call (.Attribute o name apos) es ks pos) (Mo.meth isStr mf mo ms mk):=by
  have g:Gm G name isStr (.builtin id):=Gm.str slot hty
  exact @Ev.meth G hn n Z o name apos pos isStr (.builtin id) mf es ks mo ms mk ho h hk g Kep.blt hc hs hbase hfew hline
theorem Ev.methL {id:String} (slot:Slot "list" name id) (hty:typeOf (.builtin id)=Pure.pure (.type "method_descriptor")) (ho:Ev G hn n Z o mo) (h:EvL G hn n Z es ms) (hk:EvK G hn n Z ks mk) (hc:Ca G hn n (.builtin id) mf)
    (hs:es.all notStar=true:=by rfl) (hbase:∀ env,attributeBase o name env (eval o env)=eval o env:=by intro _; rfl)
    (hfew:∀ env,methodCallForm (es.length + ks.length) (backTo pos (starEach es env)) (backToKw pos (keywordEach ks env))=true:=by intro _; rfl)
    (hline:(apos.endLine == pos.line)=true:=by rfl) :
    Ev G hn n Z (.Call (.Attribute o name apos) es ks pos) (Mo.meth isRefL mf mo ms mk):=by
  have g:Gm G name isRefL (.builtin id):=Gm.lst slot hty
  exact @Ev.meth G hn n Z o name apos pos isRefL (.builtin id) mf es ks mo ms mk ho h hk g Kep.blt hc hs hbase hfew hline
theorem Ev.methI {C f:Addr} (hg:plainGet G.K C name=true) (hf:findIn G.K (.ref C) name=some (some (.ref f))) (ht:isFn G.K (.ref f)=true) (hkp:Kep G (.ref f)) (ho:Ev G hn n Z o mo) (h:EvL G hn n Z es ms) (hk:EvK G hn n Z ks mk) (hc:Ca G hn n (.ref f) mf)
    (hs:es.all notStar=true:=by rfl) (hbase:∀ env,attributeBase o name env (eval o env)=eval o env:=by intro _; rfl)
    (hfew:∀ env,methodCallForm (es.length + ks.length) (backTo pos (starEach es env)) (backToKw pos (keywordEach ks env))=true:=by intro _; rfl)
    (hline:(apos.endLine == pos.line)=true:=by rfl) :
    Ev G hn n Z (.Call (.Attribute o name apos) es ks pos) (Mo.meth (isIns C name) mf mo ms mk):=by
  have g:Gm G name (isIns C name) (.ref f):=Gm.ins hg hf ht
  exact @Ev.meth G hn n Z o name apos pos (isIns C name) (.ref f) mf es ks mo ms mk ho h hk g hkp hc hs hbase hfew hline
end
end
end Mine
end
section
open PySem PySem.W PyProof.Rows PySem.Calls
set_option maxRecDepth 100000
namespace Mine
theorem ofs_inj (a b:String):(PySem.Str.ofString a=PySem.Str.ofString b)=(a=b):=by
  apply propext
  constructor
  · intro h
    rw [PySem.Str.ofString_eq_toList,PySem.Str.ofString_eq_toList] at h
    have h1:a.toList.map Char.toNat=b.toList.map Char.toNat:=by
      have:=congrArg PySem.Str.cps h
      simpa using this
    have inj:∀ {l m:List Char},l.map Char.toNat=m.map Char.toNat→l=m:=by
      intro l
      induction l with
      | nil=>intro m h; cases m with
        | nil=>rfl
        | cons=>exact nNC h
      | cons c l ih=>intro m h; cases m with
        | nil=>exact nCN h
        | cons d m =>
          simp only [List.map_cons,List.cons.injEq] at h
          rw [ih h.2,Char.ext (UInt32.toNat_inj.mp h.1)]
    exact String.toList_inj.mp (inj h1)
  · intro h; rw [h]
theorem upd_same (fr:Fr) (x:PySem.Str) (d:D):upd fr x d x=some d:=if_pos rfl
theorem upd_diff {a b:String} {fr:Fr} {d:D} (h:(a == b)=false):upd fr (PySem.Str.ofString b) d (PySem.Str.ofString a)=fr (PySem.Str.ofString a) :=
  upd_ne (by rw [Ne,ofs_inj]; simpa using h)
theorem len1 {α:Type} : ∀ {l:List α},l.length=1→∃ a,l=[a]
  | [a],_=>⟨a,rfl⟩
theorem len2 {α:Type} {l:List α} (h:l.length=2):∃ a b,l=[a,b]:=by
  cases l with
  | nil=>cases h
  | cons a l =>
    (refine xE (len1 (Nat.succ.inj h)) fun b e=>?_)
    exact ⟨a,b,by rw [e]⟩
theorem len3 {α:Type} {l:List α} (h:l.length=3):∃ a b c,l=[a,b,c]:=by
  cases l with
  | nil=>cases h
  | cons a l =>
    (refine xEE (len2 (Nat.succ.inj h)) fun b c e=>?_)
    exact ⟨a,b,c,by rw [e]⟩
theorem kw0 {l:List (PySem.Str × Value)} (h:l.map (·.1)=[]):l=[]:=List.map_eq_nil_iff.mp h
theorem kw1 {x:PySem.Str} {l:List (PySem.Str × Value)} (h:l.map (·.1)=[x]):∃ v,l=[(x,v)]:=by
  (refine xE (len1 (l:=l) (by have:=congrArg List.length h; simpa using this)) fun p e=>?_)
  subst e
  cases h
  exact ⟨p.2,rfl⟩
theorem lcEach_pure {β:Type} {P:List AO→Prop} {tgt:D→Fr→Fr} {ok:D→Bool} {test:Mo Bool} {em:Em β} (I:Fr→Prop) (t:D→Bool) (f:D→β) {σ:List AO} (hP:P σ) :
    ∀ {ds:List D},(∀ d ∈ ds,∀ fr,I fr→ok d=true∧I (tgt d fr)∧test (tgt d fr) σ=some (.val (t d),σ)∧(t d=true→∃ fr2,I fr2∧em (tgt d fr) σ=some ([f d],fr2,σ))) →
    ∀ fr,I fr→∃ fr',lcEach P tgt ok test em ds fr σ=some ((ds.filter t).map f,fr',σ)
  | [],_,fr,_=>⟨fr,by unfold lcEach; rw [if_pos hP]; rfl⟩
  | d :: ds,h,fr,hI=>by
    (refine xAAA (h d (.head _) fr hI) fun h1 h2 h3 h4=>?_)
    have h':∀ d ∈ ds,∀ fr,I fr→ok d=true∧I (tgt d fr)∧test (tgt d fr) σ=some (.val (t d),σ)∧(t d=true→∃ fr2,I fr2∧em (tgt d fr) σ=some ([f d],fr2,σ)):=fun d hd=>h d (.tail _ hd)
    unfold lcEach
    rw [if_pos hP,if_pos h1,h3]
    cases ht:t d with
    | true =>
      (refine xEA (h4 ht) fun fr2 hI2 he=>?_)
      (refine xE (lcEach_pure I t f hP h' fr2 hI2) fun fr' e=>?_)
      refine ⟨fr',?_⟩
      dsimp only
      rw [he]
      dsimp only
      rw [e,List.filter_cons_of_pos ht]
      rfl
    | false =>
      (refine xE (lcEach_pure I t f hP h' _ h2) fun fr' e=>?_)
      refine ⟨fr',?_⟩
      dsimp only
      rw [e,List.filter_cons_of_neg (by rw [ht]; decide)]
theorem lcRun_pure {β:Type} {scope:Scope} {m:Mo D} {tgt:D→Fr→Fr} {ok:D→Bool} {test:Mo Bool} {em:Em β} {fr:Fr} {σ σ1:List AO} (I:Fr→Prop) (t:D→Bool) (f:D→β) {d:D} {x:Src} (hm:m fr σ=some (.val d,σ1)) (hx:srcD d σ1=some x) (hP:x.P σ1)
    (h0:I (frIn scope fr)) (h:∀ d ∈ x.ds,∀ fr,I fr→ok d=true∧I (tgt d fr)∧test (tgt d fr) σ1=some (.val (t d),σ1)∧(t d=true→∃ fr2,I fr2∧em (tgt d fr) σ1=some ([f d],fr2,σ1))) :
    lcRun scope m tgt ok test em fr σ=some ((x.ds.filter t).map f,σ1):=by
  (refine xE (lcEach_pure I t f hP h _ h0) fun fr' e=>?_)
  unfold lcRun
  rw [hm]
  dsimp only
  rw [hx]
  dsimp only [Option.bind]
  rw [e]
  rfl
theorem bind_some {α β:Type} {m:Mf α} {f:α→Mf β} {fr fr':Fr} {σ σ':List AO} {a:α} (h:m fr σ=some (.val a,fr',σ')):Mf.bind m f fr σ=f a fr' σ':=by unfold Mf.bind; rw [h]
theorem bind_exc {α β:Type} {m:Mf α} {f:α→Mf β} {fr fr':Fr} {σ σ':List AO} {X:String} {msg:PySem.Str} (h:m fr σ=some (.exc X msg,fr',σ')):Mf.bind m f fr σ=some (.exc X msg,fr',σ'):=by unfold Mf.bind; rw [h]
/-- one turn -/
noncomputable def turn (tgt:D→Mf Unit) (body:Mf SF) (d:D):Mf SF:=Mf.bind (tgt d) fun _=>body
theorem each_cons {P:List AO→Prop} {tgt:D→Mf Unit} {body:Mf SF} {d:D} {ds:List D} {fr fr':Fr} {σ σ':List AO} (hP:P σ) {r:Out SF} (h:turn tgt body d fr σ=some (r,fr',σ')) :
    Mf.each P tgt body (d :: ds) fr σ=match (generalizing:=false) r with
      | .val .next=>Mf.each P tgt body ds fr' σ'
      | .val .cont=>Mf.each P tgt body ds fr' σ'
      | .val .brk=>some (.val .next,fr',σ')
      | .val (.ret v)=>some (.val (.ret v),fr',σ')
      | .exc X msg=>some (.exc X msg,fr',σ'):=by
  have e0:Mf.each P tgt body (d :: ds) fr σ=Mf.bind (tgt d) (fun _=>Mf.bind body fun r=>match r with
      | .next=>Mf.each P tgt body ds
      | .cont=>Mf.each P tgt body ds
      | .brk=>Mf.pure .next
      | .ret d=>Mf.pure (.ret d)) fr σ:=by
    conv=>lhs; unfold Mf.each
    exact if_pos hP
  rw [e0]
  clear e0
  unfold turn at h
  cases ht:tgt d fr σ with
  | none=>unfold Mf.bind at h; rw [ht] at h; exact nnS h
  | some p =>
    obtain ⟨o,fr1,σ1⟩:=p
    cases o with
    | exc X msg =>
      rw [bind_exc ht] at h ⊢
      (have k1:=s3A h; have k2:=s3B h; have k3:=s3C h; clear h; subst k1 k2 k3)
      rfl
    | val u =>
      rw [bind_some ht] at h ⊢
      cases r with
      | exc X msg=>rw [bind_exc h]
      | val s =>
        rw [bind_some h]
        cases s <;> rfl
theorem each_nil {P:List AO→Prop} {tgt:D→Mf Unit} {body:Mf SF} {fr:Fr} {σ:List AO} (hP:P σ):Mf.each P tgt body [] fr σ=some (.val .next,fr,σ):=by
  unfold Mf.each
  rw [if_pos hP]
/-- a loop whose turns all go on -/
theorem each_run {P:List AO→Prop} {tgt:D→Mf Unit} {body:Mf SF} (J:Nat→Fr→List AO→Prop) {ds:List D} (hP:∀ i fr σ,J i fr σ→P σ)
    (step:∀ i d fr σ,ds[i]? = some d→J i fr σ→∃ fr' σ',turn tgt body d fr σ=some (.val .next,fr',σ')∧J (i + 1) fr' σ') {fr:Fr} {σ:List AO} (h0:J 0 fr σ) :
    ∃ fr' σ',Mf.each P tgt body ds fr σ=some (.val .next,fr',σ')∧J ds.length fr' σ':=by
  have key:∀ (es:List D) (i:Nat) fr σ,(∀ k,es[k]? = ds[i + k]?)→J i fr σ→∃ fr' σ',Mf.each P tgt body es fr σ=some (.val .next,fr',σ')∧J (i + es.length) fr' σ':=by
    intro es
    induction es with
    | nil=>intro i fr σ _ hJ; exact ⟨fr,σ,each_nil (hP _ _ _ hJ),hJ⟩
    | cons d es ih =>
      intro i fr σ he hJ
      (refine xEEA (step i d fr σ (by have:=he 0; simpa using this.symm) hJ) fun fr1 σ1 e1 h1=>?_)
      (refine xEEA (ih (i + 1) fr1 σ1 (fun k=>by have:=he (k + 1); rw [show i + 1 + k=i + (k + 1) by omega]; simpa using this) h1) fun fr2 σ2 e2 h2=>?_)
      refine ⟨fr2,σ2,?_,by rw [List.length_cons,show i + (es.length + 1)=i + 1 + es.length by omega]; exact h2⟩
      rw [each_cons (hP _ _ _ hJ) e1]
      exact e2
  (refine xEEA (key ds 0 fr σ (fun k=>by rw [Nat.zero_add]) h0) fun fr' σ' e hJ=>?_)
  exact ⟨fr',σ',e,by rw [Nat.zero_add] at hJ; exact hJ⟩
theorem get_last {σ:List AO} {a:AO} : (σ ++ [a])[σ.length]? = some a:=by simp
theorem set_last {σ:List AO} {a b:AO} : (σ ++ [a]).set σ.length b=σ ++ [b]:=by simp
theorem get_old {σ τ:List AO} {k:Nat} {a:AO} (h:σ[k]? = some a):(σ ++ τ)[k]? = some a:=by
  rw [List.getElem?_append_left (List.getElem?_eq_some_iff.mp h).1]; exact h
end Mine
end
section
open PySem PySem.W PyProof.Rows PySem.Calls
set_option maxRecDepth 100000
namespace Mine
theorem Fn.top {G:Amb} {n:Nat} {f:Addr} {oc:Value} {od:Option Addr} {osl:Array (Option Value)} {fd:FuncData} {body:List Stmt} {m:Mf SF} {x:PySem.Str} (hok:G.Ok)
    (hK:G.K.lookup f=some ⟨oc,od,.func fd,osl⟩) (hb:fd.body = .stmts body) (hg:fd.globals=mainGlobals) (hcl:fd.closure=[]) (hbl:fd.builtins=builtinsNs)
    (hcd:codeIn G.K fd.code fd.qualname=true) (hkind:fd.scope.kind = .function) (hco:fd.scope.isCoroutine=false) (hgen:fd.scope.isGenerator=false)
    (hfree:(fd.scope.names.all fun y=>y.2 != .free)=true)
    (hpk:∀ S v,peek G.K S (bindArgs fd ⟨[v],[]⟩)=some [(x,v)]) (hnm:(fd.scope.names.lookup x == some .local || fd.scope.names.lookup x == some .cell)=true)
    (hbody:Exs G true n fd.scope body m) {A:Around} (hA:A.frames=some []) (hand:A.handled=none) (room:A.depth + 1 + 3 * n < recursionLimit) (units:A.units + 3 + 30 * n < cLine)
    {v:Value} {d d':D} {σ':List AO} (rv:∀ V h',(∀ a ∈ V,G.base.get? a=none)→(∀ b o,G.base.get? b=some o→h'.get? b=some o)→VR G.w.params [] V h' v d)
    (hm:Mf.fn m (upd (fun _=>none) x d) []=some (.val d',σ')) {s:Shared} (hs:s.heap=G.base) (htop:G.lo ≤ s.toks) {Q:Result→Shared→Prop}
    (hq:∀ a c (S':Gs) (tk:Tk G.lo),Heaps G c S'→Rv G c S' a d'→Q (.ok (.ret a)) (ShT s S'.h tk)):codeAny G.M A (.call (.ref f) ⟨[v],[]⟩) Q s:=by
  have hkin:G.K.In s.heap:=by rw [hs]; exact hok.inK
  have hobj:=hkin _ _ hK
  have hcr:=codeRec_of hkin hcd
  refine codeAny_call_function (fd:=fd) (body:=body) (by omega) hobj rfl hco hgen hb hcr ?_
  refine (Looks.of_peek (M:=G.M) (h:=s.heap) hkin (hpk _ v)).here ?_
  rw [hg,hcl,hbl]
  have hkinds:∀ y ∈ [(x,v)],fd.scope.names.lookup y.1=some .local∨(fd.scope.names.lookup y.1=some .cell∧((cellsFrom (s.heap.objs.size + 1) fd.scope.names []).lookup y.1).isSome=true) :=
    kindsX (by rw [List.all_cons,List.all_nil,Bool.and_true]; exact hnm) _
  refine wpAny_up htop ?_
  refine wpAny_newFunctionEnv_cells hkind hkinds fun env he s₁ x1 htk=>?_
  have x0:=x1.toInCall
  (refine xEE x0.same fun h₁ tk₁ es=>?_)
  subst es
  have keepb:∀ b o,G.base.get? b=some o→h₁.get? b=some o:=fun b o e=>x0.keep b o (by rw [hs]; exact e)
  have hlim:h₁.NoLimit:=hok.nolimit.keeps keepb
  refine ⟨hlim,codeAny_func ?_⟩
  have hscope:env.scope=fd.scope:=by rw [he]; rfl
  have hloc:env.locals=s.heap.objs.size:=by rw [he]; rfl
  have hcells:env.cells=cellsFrom (s.heap.objs.size + 1) fd.scope.names []:=by rw [he]; rfl
  have hframe:env.frame=some env.locals:=by rw [he]; rfl
  have hL:G.base.get? env.locals=none:=by rw [hloc,hs]; exact Heap.get?_none_of_le (Nat.le_refl _)
  let ks:=env.cells.filterMap (fun p=>env.cells.lookup p.1)
  have hks:∀ a ∈ ks,G.base.get? a=none∧∃ o,h₁.get? a=some o:=fun a ha=>by
    (refine xEA (List.mem_filterMap.mp ha) fun q0z _ hy=>?_; obtain ⟨y,a'⟩:=q0z)
    have hab:=x1.above y a (mem_of_lookup hy)
    (refine xEA (x1.cell y a hy) fun o ho _=>?_)
    refine ⟨?_,o,ho⟩
    rw [← hs]
    exact Heap.get?_none_of_le (by rw [hloc] at hab; exact Nat.le_of_lt hab)
  (refine xEEEAA x0.ns fun oL esL epL hoL hdL hrest=>?_)
  let c:Cx:={ A:=A.deeper env,fenv:=env,outer:=[],X:=ks }
  have hfs:c.fs=[env.locals]:=by
    show (env :: []).filterMap (·.frame)=_
    rw [List.filterMap_cons,hframe]; rfl
  have HH:Heaps G c ⟨[],[],h₁⟩:=by
    refine ⟨hok,keepb,?_,?_,fun L hm=>?_,fun L hm=>?_,rfl,fun n p o e=>(by simp at e),fun a ha=>(by cases ha),List.nodup_nil⟩
    · show (A.deeper env).frames=some (env :: [])
      exact Around.frames_deeper hA
    · exact ⟨by rw [hscope,hkind]; decide,⟨env.locals,oL,hframe,hL,hoL,fun vs q=>by rw [hdL] at q; exact nAny PySem.Data.ctorIdx q rfl⟩,trivial⟩
    · rw [hfs] at hm
      rw [List.mem_singleton.mp hm]
      exact ⟨⟨oL,esL,epL,hoL,hdL⟩,fun q=>(by cases q)⟩
    · exact ⟨(hks L hm).2,fun q=>(by cases q),(hks L hm).1⟩
  have hV:∀ a ∈ vol c ⟨[],[],h₁⟩,G.base.get? a=none:=fun a ha=>HH.vol_new ha
  have rB1:Rbs G c ⟨[],[],h₁⟩ [(x,v)] [(x,d)]:=⟨rfl,rv _ _ hV keepb,trivial⟩
  have kof:∀ y,env.kindOf y=fd.scope.names.lookup y:=fun y=>kindOf_scope hscope
  have HV:=hasV_bind (kindOf:=env.kindOf) rB1 (m:=fun _=>none) (cm:=fun _=>none) (fr:=fun _=>none) (fun y d e=>by exact nnS e)
  have VV:EnvOk G c env (upd (fun _=>none) x d) ⟨[],[],h₁⟩:=by
    refine ⟨by rw [hscope]; exact hkind,by rw [he]; rfl,by rw [he]; rfl,rfl,?_,⟨_,⟨oL,esL,epL,hoL,hdL,hrest⟩,fun y d hy hk=>?_⟩,fun y hy=>?_,fun y k hy=>?_,fun y z k hy hz=>?_⟩
    · refine List.mem_append_left _ ?_
      rw [hfs]; exact .head _
    · exact (HV y d hy).1 hk
    · have hyc:env.kindOf y=some .cell:=by
        rcases hy with h | h
        · exact h
        · exfalso
          rw [kof] at h
          have:=List.all_eq_true.mp hfree (y,.free) (mem_of_lookup h)
          simp at this
      have hsm:(env.cells.lookup y).isSome=true:=by rw [hcells]; exact cellsFrom_some _ _ _ (.inl (by rw [← kof]; exact hyc))
      (refine xE (Option.isSome_iff_exists.mp hsm) fun k hk=>?_)
      exact ⟨k,_,hk,x1.cell y k hk,fun d hd=>(HV y d hd).2 hyc⟩
    · exact List.mem_filterMap.mpr ⟨(y,k),mem_of_lookup hy,hy⟩
    · exact name_of_addr x1.apart (mem_of_lookup hy) (mem_of_lookup hz)
  have RR:Run G true n fd.scope c env (upd (fun _=>none) x d) ⟨[],[],h₁⟩ (ShT s h₁ ⟨tk₁,htk⟩) :=
    ⟨hscope,by show A.depth + 1 + 3 * n < recursionLimit; exact room,by show A.units + 3 + 30 * n < cLine; exact units,fun _=>hand,rfl,htk,HH,VV⟩
  cases hmm:m (upd (fun _=>none) x d) [] with
  | none=>unfold Mf.fn at hm; rw [hmm] at hm; exact nnS hm
  | some p =>
    obtain ⟨o,fr',σ1⟩:=p
    have hb1:=hbody _ env _ ⟨[],[],h₁⟩ _ o fr' σ1 RR rfl hframe hmm
    unfold Mf.fn at hm
    rw [hmm] at hm
    refine hb1 _ _ (fun f ho a S' tk' e' H' x' V' r'=>?_) fun X msg ho S' e h' tk' e' H' x' V' th=>?_
    · subst ho
      cases f with
      | next =>
        cases hm
        cases a with
        | next=>exact hq .none c S' tk' H' .none
        | _=>exact r'.elim
      | ret d =>
        cases hm
        cases a with
        | ret v=>exact hq v c S' tk' H' r'
        | _=>exact r'.elim
      | brk=>exact nnS hm
      | cont=>exact nnS hm
    · subst ho
      cases hm
end Mine
end
section
open PySem PySem.W PyProof.Rows PySem.Calls
set_option maxRecDepth 100000
namespace Mine
theorem Fn.topAt {G:Amb} {K:Frag} (hKK:G.K=K) {n:Nat} {a:Addr} {m:Mf SF} {x:PySem.Str} (hok:G.Ok) (hi:fnOk K a=true)
    (hpk:∀ S v,peek K S (bindArgs (fdAt K a) ⟨[v],[]⟩)=some [(x,v)]) (hnm:((scopeAt K a).names.lookup x == some .local || (scopeAt K a).names.lookup x == some .cell)=true)
    (hbody:Exs G true n (scopeAt K a) (bodyAt K a) m) {A:Around} (hA:A.frames=some []) (hand:A.handled=none) (room:A.depth + 1 + 3 * n < recursionLimit) (units:A.units + 3 + 30 * n < cLine)
    {v:Value} {d d':D} {σ':List AO} (rv:∀ V h',(∀ a ∈ V,G.base.get? a=none)→(∀ b o,G.base.get? b=some o→h'.get? b=some o)→VR G.w.params [] V h' v d)
    (hm:Mf.fn m (upd (fun _=>none) x d) []=some (.val d',σ')) {s:Shared} (hs:s.heap=G.base) (htop:G.lo ≤ s.toks) {Q:Result→Shared→Prop}
    (hq:∀ a c (S':Gs) (tk:Tk G.lo),Heaps G c S'→Rv G c S' a d'→Q (.ok (.ret a)) (ShT s S'.h tk)):codeAny G.M A (.call (.ref a) ⟨[v],[]⟩) Q s:=by
  unfold fnOk at hi
  split at hi
  · rename_i oc od fd osl hl
    have hfd:fdAt K a=fd:=by unfold fdAt; rw [hl]
    simp only [Bool.and_eq_true,decide_eq_true_eq,Bool.not_eq_true'] at hi
    (refine xA hi fun q0z h9=>?_; try clear hi; refine xA q0z fun q1z h8=>?_; refine xA q1z fun q2z h7=>?_; refine xA q2z fun q3z h6=>?_; refine xA q3z fun q4z h5=>?_; refine xA q4z fun q5z h4=>?_; refine xA q5z fun q6z h3=>?_; refine xA q6z fun h1 h2=>?_)
    split at h9
    · rename_i body hb
      have hbd:bodyAt K a=body:=by unfold bodyAt; rw [hfd,hb]
      rw [hbd] at hbody
      unfold scopeAt at hbody hnm
      rw [hfd] at hpk hnm hbody
      exact Fn.top hok (by rw [hKK]; exact hl) hb h1 (List.isEmpty_iff.mp h2) h3 (by rw [hKK]; exact h4) h5 h6 h7 h8 (by rw [hKK]; exact hpk) hnm hbody hA hand room units rv hm hs htop hq
    · exact nFT h9
  · exact nFT hi
theorem list_rv {P:Params} {base:Heap} {l:Addr} {vs:List Value} {ns:List Int} (hL:base.IsList l vs.toArray) (hI:IntsAre vs ns) (hlen:ns.length ≤ 63):∀ V h',(∀ a ∈ V,base.get? a=none)→(∀ b o,base.get? b=some o→h'.get? b=some o)→VR P [] V h' (.ref l) (.lst (ns.map .int)):=by
  intro V h' hV hk
  (refine xEAAE hL fun o ho hc n hd=>?_; try clear hL)
  have e:∀ {vs:List Value} {ns:List Int},IntsAre vs ns→VRs P [] V h' vs (ns.map .int)∧vs.length=ns.length:=by
    intro vs ns hI
    induction hI with
    | nil=>exact ⟨.nil,rfl⟩
    | cons n t _ ih=>exact ⟨.cons (.int n t) ih.1,by rw [List.length_cons,List.length_cons,ih.2]⟩
  (refine xA (e hI) fun h1 h2=>?_)
  refine .lst (hk _ _ ho) hc hd ?_ (fun hm=>?_) (by simpa using h1)
  · have e:sizeLine=16777216:=rfl
    simp only [List.size_toArray]
    omega
  · rw [hV l hm] at ho; exact nnS ho
end Mine
end
section
open PySem PySem.W PyProof.Rows
namespace Mine
section
variable {α β:Type} {fr fr1:Fr} {σ σ1 σ2:List AO}
theorem ev_fn {m:Mf SF} {o:Out SF} {r:Option (Out D × List AO)} (h:m fr σ=some (o,fr1,σ1)) (h2:Mf.fn (fun _ _=>some (o,fr1,σ1)) fr σ=r):Mf.fn m fr σ=r:=by
  rw [← h2]; unfold Mf.fn; rw [h]
theorem ev_bind {m:Mf α} {f:α→Mf β} {a:α} {r:Option (Out β × Fr × List AO)} (h:m fr σ=some (.val a,fr1,σ1)) (h2:f a fr1 σ1=r):Mf.bind m f fr σ=r:=by
  rw [← h2]; unfold Mf.bind; rw [h]
theorem ev_seq {m k:Mf SF} {f:SF} {r:Option (Out SF × Fr × List AO)} (h:m fr σ=some (.val f,fr1,σ1)) (h2:(match f with | .next=>k | .brk=>Mf.pure .brk | .cont=>Mf.pure .cont | .ret d=>Mf.pure (.ret d)) fr1 σ1=r):Mf.seq m k fr σ=r:=by
  cases f <;> exact ev_bind h h2
theorem ev_lift {m:Mo α} {o:Out α} (h:m fr σ=some (o,σ1)):Mf.lift m fr σ=some (o,fr,σ1):=by
  unfold Mf.lift; rw [h]; rfl
theorem ev_pure {b:α} : Mf.pure b fr σ=some (.val b,fr,σ):=rfl
theorem ev_set {x:PySem.Str} {d:D} : Mf.set x d fr σ=some (.val (),upd fr x d,σ):=rfl
theorem ev_mpure {b:α} : Mo.pure b fr σ=some (.val b,σ):=rfl
theorem ev_mbind {m:Mo α} {f:α→Mo β} {a:α} {r:Option (Out β × List AO)} (h:m fr σ=some (.val a,σ1)) (h2:f a fr σ1=r):Mo.bind m f fr σ=r:=by
  rw [← h2]; unfold Mo.bind; rw [h]
theorem ev_opt {o:Option α} {b:α} (h:o=some b):Mo.opt o fr σ=some (.val b,σ):=by rw [h]; rfl
theorem ev_var {x:PySem.Str} {d:D} (h:fr x=some d):Mo.var x fr σ=some (.val d,σ):=by unfold Mo.var; rw [h]; rfl
theorem ev_op1 {f:F1} {m:Mo D} {a:D} {r:Option (Out D × List AO)} (h:m fr σ=some (.val a,σ1)) (h2:f a σ1=r):Mo.op1 f m fr σ=r:=ev_mbind h h2
theorem ev_op2 {f:F2} {m k:Mo D} {a b:D} {r:Option (Out D × List AO)} (h:m fr σ=some (.val a,σ1)) (h2:k fr σ1=some (.val b,σ2)) (h3:f a b σ2=r):Mo.op2 f m k fr σ=r:=ev_mbind h (ev_mbind h2 h3)
theorem ev_tru {m:Mo D} {a:D} {b:Bool} (h:m fr σ=some (.val a,σ1)) (h2:truD a=some b):Mo.tru m fr σ=some (.val b,σ1):=ev_mbind h (ev_opt h2)
theorem ev_ite {m:Mo Bool} {a b:Mo α} {t:Bool} {r:Option (Out α × List AO)} (h:m fr σ=some (.val t,σ1)) (h2:(if t then a else b) fr σ1=r):Mo.ite m a b fr σ=r:=ev_mbind h h2
theorem ev_ifT {a b:Fr→List AO→α} {r:α} (h:a fr σ=r):(if true then a else b) fr σ=r:=by rw [← h]; rfl
theorem ev_ifF {a b:Fr→List AO→α} {r:α} (h:b fr σ=r):(if false then a else b) fr σ=r:=by rw [← h]; rfl
theorem ev_snil:Mo.seq [] fr σ=some (.val [],σ):=rfl
theorem ev_scons {m:Mo D} {ms:List (Mo D)} {d:D} {ds:List D} (h:m fr σ=some (.val d,σ1)) (h2:Mo.seq ms fr σ1=some (.val ds,σ2)):Mo.seq (m :: ms) fr σ=some (.val (d :: ds),σ2):=ev_mbind h (ev_mbind h2 rfl)
theorem ev_knil:Mo.seqK [] fr σ=some (.val [],σ):=rfl
theorem ev_kcons {x:PySem.Str} {m:Mo D} {ms:List (PySem.Str × Mo D)} {d:D} {ds:List (PySem.Str × D)} (h:m fr σ=some (.val d,σ1)) (h2:Mo.seqK ms fr σ1=some (.val ds,σ2)):Mo.seqK ((x,m) :: ms) fr σ=some (.val ((x,d) :: ds),σ2):=ev_mbind h (ev_mbind h2 rfl)
theorem ev_calF {mf:Fm} {ms:List (Mo D)} {mk:List (PySem.Str × Mo D)} {ds:List D} {kd:List (PySem.Str × D)} {r:Option (Out D × List AO)} (h:Mo.seq ms fr σ=some (.val ds,σ1)) (h2:Mo.seqK mk fr σ1=some (.val kd,σ2)) (h3:mf ds kd σ2=r):Mo.calF mf ms mk fr σ=r :=
  ev_mbind (a:=(ds,kd)) (ev_mbind h (ev_mbind h2 rfl)) h3
theorem ev_one1 {f:F1} {d:D} {r:Option (Out D × List AO)} (h:f d σ=r):one1 f [d] [] σ=r:=h
theorem ev_one2 {f:F2} {a b:D} {r:Option (Out D × List AO)} (h:f a b σ=r):one2 f [a,b] [] σ=r:=h
theorem ev_meth {P:D→List AO→Bool} {mf:Fm} {mo:Mo D} {ms:List (Mo D)} {mk:List (PySem.Str × Mo D)} {d:D} {ds:List D} {kd:List (PySem.Str × D)} {σ3:List AO} {r:Option (Out D × List AO)} (h:mo fr σ=some (.val d,σ1)) (hP:P d σ1=true) (h1:Mo.seq ms fr σ1=some (.val ds,σ2)) (h2:Mo.seqK mk fr σ2=some (.val kd,σ3)) (h3:mf (d :: ds) kd σ3=r):Mo.meth P mf mo ms mk fr σ=r :=
  ev_mbind h (ev_mbind (a:=()) (σ1:=σ1) (by unfold Mo.chk; rw [if_pos hP]) (ev_mbind (a:=(ds,kd)) (ev_mbind h1 (ev_mbind h2 rfl)) h3))
theorem ev_lst {ms:List (Mo D)} {ds:List D} (h:Mo.seq ms fr σ=some (.val ds,σ1)) (h2:ds.length ≤ sizeLine):Mo.lst ms fr σ=some (.val (.lst ds),σ1) :=
  ev_mbind h (ev_opt (if_pos (decide_eq_true h2)))
theorem ev_tup {ms:List (Mo D)} {ds:List D} (h:Mo.seq ms fr σ=some (.val ds,σ1)) (h2:ds.length ≤ sizeLine):Mo.tup ms fr σ=some (.val (.tup ds),σ1) :=
  ev_mbind h (ev_opt (if_pos (decide_eq_true h2)))
theorem ev_lstR {ms:List (Mo D)} {ds:List D} (h:Mo.seq ms fr σ=some (.val ds,σ1)) (h2:ds.length ≤ sizeLine):Mo.lstR ms fr σ=some (.val (.ref σ1.length),σ1 ++ [.lst ds]) :=
  ev_mbind h (ev_mbind (a:=()) (ev_opt (if_pos (decide_eq_true h2))) rfl)
theorem ev_anil:Mo.ands [] fr σ=some (.val true,σ):=rfl
theorem ev_onil:Mo.ors [] fr σ=some (.val false,σ):=rfl
theorem ev_acons {m:Mo Bool} {ms:List (Mo Bool)} {b:Bool} {r:Option (Out Bool × List AO)} (h:m fr σ=some (.val b,σ1)) (h2:(if b then Mo.ands ms else Mo.pure false) fr σ1=r):Mo.ands (m :: ms) fr σ=r:=ev_mbind h h2
theorem ev_ocons {m:Mo Bool} {ms:List (Mo Bool)} {b:Bool} {r:Option (Out Bool × List AO)} (h:m fr σ=some (.val b,σ1)) (h2:(if b then Mo.pure true else Mo.ors ms) fr σ1=r):Mo.ors (m :: ms) fr σ=r:=ev_mbind h h2
theorem ev_attr {C:Addr} {name:PySem.Str} {m:Mo D} {k j:Nat} {as:List (PySem.Str × D)} (h:m fr σ=some (.val (.ref k),σ1)) (h2:σ1[k]? = some (.ins C as)) (h3:as.lookup name=some (.ref j)):Mo.attr C name m fr σ=some (.val (.ref j),σ1):=by
  refine ev_mbind h ?_
  dsimp only
  rw [h2]; dsimp only
  rw [if_pos rfl,h3]
theorem ev_there {a b:String} {d:D} {r:Option D} (h:(a == b)=false) (h2:fr (PySem.Str.ofString a)=r):upd fr (PySem.Str.ofString b) d (PySem.Str.ofString a)=r:=(upd_diff h).trans h2
theorem ev_part0:Mo.part none fr σ=some (.val none,σ):=rfl
theorem ev_part1 {m:Mo D} {i:Int} (h:m fr σ=some (.val (.int i),σ1)):Mo.part (some m) fr σ=some (.val (some i),σ1):=by
  unfold Mo.part; exact ev_mbind h rfl
theorem ev_omap {o:Option D} {d:D} (h:o=some d):(o.map fun d=>(Out.val d,σ))=some (.val d,σ):=by rw [h]; rfl
theorem ev_obool {o:Option Bool} {b:Bool} (h:o=some b):o.map D.bool=some (.bool b):=by rw [h]; rfl
theorem ev_onot {o:Option Bool} {b:Bool} (h:o=some b):(o.map fun t=>D.bool (!t))=some (.bool !b):=by rw [h]; rfl
theorem ev_when {p:Prop} [Decidable p] {x r:Option α} (h:p) (h2:x=r):(if p then x else none)=r:=(if_pos h).trans h2
theorem ev_src {m:Mo D} {d:D} {x:Src} (h:m fr σ=some (.val d,σ1)) (h2:srcD d σ1=some x):Mo.src m fr σ=some (.val x,σ1):=by
  refine ev_mbind h ?_
  rw [h2]; rfl
theorem ev_swap2 {x y:PySem.Str} {a b:D} : Mf.swap2 x y (.tup [a,b]) fr σ=some (.val (),upd (upd fr y b) x a,σ):=rfl
theorem ev_tupA {fs:List (D→Mf Unit)} {ds:List D} {r:Option (Out Unit × Fr × List AO)} (h:ds.length=fs.length) (h2:Mf.goA fs ds fr σ=r):Mf.tupA fs (.tup ds) fr σ=r:=by
  rw [← h2]; unfold Mf.tupA; dsimp only; rw [if_pos h]
theorem ev_goA {f:D→Mf Unit} {fs:List (D→Mf Unit)} {d:D} {ds:List D} {r:Option (Out Unit × Fr × List AO)} (h:f d fr σ=some (.val (),fr1,σ1)) (h2:Mf.goA fs ds fr1 σ1=r):Mf.goA (f :: fs) (d :: ds) fr σ=r:=ev_bind h h2
theorem ev_goA0:Mf.goA [] [] fr σ=some (.val (),fr,σ):=rfl
theorem ev_emOne {m:Mo D} {d:D} (h:m fr σ=some (.val d,σ1)):emOne m fr σ=some ([d],fr,σ1):=by
  unfold emOne; rw [h]
theorem ev_truB {b:Bool} : truD (.bool b)=some b:=rfl
theorem ev_fnR {d:D} : Mf.fn (fun _ _=>some (.val (.ret d),fr1,σ1)) fr σ=some (.val d,σ1):=rfl
theorem ev_fnN:Mf.fn (fun _ _=>some (.val .next,fr1,σ1)) fr σ=some (.val .none,σ1):=rfl
theorem ev_l0:([]:List D).length ≤ sizeLine:=show 0 ≤ sizeLine by decide
theorem ev_l1 {a:D} : [a].length ≤ sizeLine:=show 1 ≤ sizeLine by decide
theorem ev_l2 {a b:D} : [a,b].length ≤ sizeLine:=show 2 ≤ sizeLine by decide
theorem ev_l3 {a b c:D} : [a,b,c].length ≤ sizeLine:=show 3 ≤ sizeLine by decide
theorem ev_l4 {a b c d:D} : [a,b,c,d].length ≤ sizeLine:=show 4 ≤ sizeLine by decide
theorem ev_l5 {a b c d e:D} : [a,b,c,d,e].length ≤ sizeLine:=show 5 ≤ sizeLine by decide
theorem ev_l6 {a b c d e f:D} : [a,b,c,d,e,f].length ≤ sizeLine:=show 6 ≤ sizeLine by decide
theorem ev_l7 {a b c d e f g:D} : [a,b,c,d,e,f,g].length ≤ sizeLine:=show 7 ≤ sizeLine by decide
theorem ev_l8 {a b c d e f g h:D} : [a,b,c,d,e,f,g,h].length ≤ sizeLine:=show 8 ≤ sizeLine by decide
end
noncomputable def dRef:D→Option (Nat)
  | .ref x=>some x
  | _=>none
theorem dRef_eq {d:D} {a:Nat} (h:dRef d=some a):d = .ref a:=by cases d <;> first | (cases h; done) | ((have k1:=s1E h; clear h; subst k1); rfl)
noncomputable def dStr:D→Option (PySem.Str)
  | .str x=>some x
  | _=>none
theorem dStr_eq {d:D} {a:PySem.Str} (h:dStr d=some a):d = .str a:=by cases d <;> first | (cases h; done) | ((have k1:=s1E h; clear h; subst k1); rfl)
noncomputable def dLst:D→Option (List D)
  | .lst x=>some x
  | _=>none
theorem dLst_eq {d:D} {a:List D} (h:dLst d=some a):d = .lst a:=by cases d <;> first | (cases h; done) | ((have k1:=s1E h; clear h; subst k1); rfl)
section
variable {α β γ:Type} {p:D→Option α} {q:D→Option β} {u:D→Option γ} {mp:α→D} {mq:β→D} {mu:γ→D} {ds:List D} {kd:List (PySem.Str × D)} {σ:List AO} {r:Out D × List AO}
noncomputable def on1 (p:D→Option α) (f:α→List AO→Option (Out D × List AO)):Fm:=fun ds kd σ=>match ds,kd with
  | [a],[]=>(p a).bind fun x=>f x σ
  | _,_=>none
noncomputable def on2 (p:D→Option α) (q:D→Option β) (f:α→β→List AO→Option (Out D × List AO)):Fm:=fun ds kd σ=>match ds,kd with
  | [a,b],[]=>(p a).bind fun x=>(q b).bind fun y=>f x y σ
  | _,_=>none
noncomputable def on3 (p:D→Option α) (q:D→Option β) (u:D→Option γ) (f:α→β→γ→List AO→Option (Out D × List AO)):Fm:=fun ds kd σ=>match ds,kd with
  | [a,b,c],[]=>(p a).bind fun x=>(q b).bind fun y=>(u c).bind fun z=>f x y z σ
  | _,_=>none
theorem on1_mk {f:α→List AO→Option (Out D × List AO)} {a:D} {x:α} (h:p a=some x):on1 p f [a] [] σ=f x σ:=congrArg (fun o=>Option.bind o fun x=>f x σ) h
theorem on2_mk {f:α→β→List AO→Option (Out D × List AO)} {a b:D} {x:α} {y:β} (h:p a=some x) (h2:q b=some y):on2 p q f [a,b] [] σ=f x y σ:=by
  show (p a).bind _=_
  rw [h,h2]; rfl
theorem on3_mk {f:α→β→γ→List AO→Option (Out D × List AO)} {a b c:D} {x:α} {y:β} {z:γ} (h:p a=some x) (h2:q b=some y) (h3:u c=some z):on3 p q u f [a,b,c] [] σ=f x y z σ:=by
  show (p a).bind _=_
  rw [h,h2,h3]; rfl
theorem on1_inv (hp:∀ {d a},p d=some a→d=mp a) {f:α→List AO→Option (Out D × List AO)} (h:on1 p f ds kd σ=some r):∃ a,ds=[mp a]∧kd=[]∧f a σ=some r:=by
  cases ds with
  | nil=>exact nnS h
  | cons d ds=>cases ds with
    | cons=>exact nnS h
    | nil=>cases kd with
      | cons=>exact nnS h
      | nil =>
        (refine xEA (Option.bind_eq_some_iff.mp h) fun a e h=>?_)
        exact ⟨a,by rw [hp e],rfl,h⟩
theorem on2_inv (hp:∀ {d a},p d=some a→d=mp a) (hq:∀ {d a},q d=some a→d=mq a) {f:α→β→List AO→Option (Out D × List AO)} (h:on2 p q f ds kd σ=some r):∃ a b,ds=[mp a,mq b]∧kd=[]∧f a b σ=some r:=by
  cases ds with
  | nil=>exact nnS h
  | cons d ds=>cases ds with
    | nil=>exact nnS h
    | cons d2 ds=>cases ds with
      | cons=>exact nnS h
      | nil=>cases kd with
        | cons=>exact nnS h
        | nil =>
          (refine xEA (Option.bind_eq_some_iff.mp h) fun a e h=>?_)
          (refine xEA (Option.bind_eq_some_iff.mp h) fun b e2 h=>?_)
          exact ⟨a,b,by rw [hp e,hq e2],rfl,h⟩
theorem on3_inv (hp:∀ {d a},p d=some a→d=mp a) (hq:∀ {d a},q d=some a→d=mq a) (hu:∀ {d a},u d=some a→d=mu a) {f:α→β→γ→List AO→Option (Out D × List AO)} (h:on3 p q u f ds kd σ=some r):∃ a b c,ds=[mp a,mq b,mu c]∧kd=[]∧f a b c σ=some r:=by
  cases ds with
  | nil=>exact nnS h
  | cons d ds=>cases ds with
    | nil=>exact nnS h
    | cons d2 ds=>cases ds with
      | nil=>exact nnS h
      | cons d3 ds=>cases ds with
        | cons=>exact nnS h
        | nil=>cases kd with
          | cons=>exact nnS h
          | nil =>
            (refine xEA (Option.bind_eq_some_iff.mp h) fun a e h=>?_)
            (refine xEA (Option.bind_eq_some_iff.mp h) fun b e2 h=>?_)
            (refine xEA (Option.bind_eq_some_iff.mp h) fun c e3 h=>?_)
            exact ⟨a,b,c,by rw [hp e,hq e2,hu e3],rfl,h⟩
end
theorem bfOf_all {k:Nat} {ks:List PySem.Str} {pl:List (PySem.Str × Sr)} {nm:List (PySem.Str × NameKind)} (hp:(pl.all fun y=>nm.lookup y.1 == some .local || nm.lookup y.1 == some .cell)=true) :
    ∀ ds kd bd,bfOf k ks pl ds kd=some bd→(bd.all fun y=>nm.lookup y.1 == some .local || nm.lookup y.1 == some .cell)=true:=by
  intro ds kd bd hb
  unfold bfOf at hb
  by_cases h1:ds.length=k
  rotate_left
  · rw [if_neg h1] at hb; exact nnS hb
  rw [if_pos h1] at hb
  by_cases h2:kd.map (·.1)=ks
  rotate_left
  · rw [if_neg h2] at hb; exact nnS hb
  rw [if_pos h2] at hb
  rw [← s1E hb,List.all_map]
  exact hp
theorem ite_inv {α:Type} {p:Prop} [Decidable p] {x:Option α} {r:α} (h:(if p then x else none)=some r):p∧x=some r:=by
  by_cases q:p
  · rw [if_pos q] at h; exact ⟨q,h⟩
  · rw [if_neg q] at h; exact nnS h
end Mine
end
section
open PySem PySem.W PyProof.Rows PySem.Calls
set_option maxRecDepth 100000
namespace Mine
/-! what the functions of values give at the values that are met, each by definition: the equations that Lean would write of itself are far larger -/
section
variable {fr:Fr} {σ:List AO} {d:D}
theorem goA_nil:Mf.goA [] []=Mf.pure ():=rfl
theorem goA_cons {f:D→Mf Unit} {fs:List (D→Mf Unit)} {d:D} {ds:List D} : Mf.goA (f :: fs) (d :: ds)=Mf.bind (f d) fun _=>Mf.goA fs ds:=rfl
theorem tupA_tup {fs:List (D→Mf Unit)} {ds:List D} : Mf.tupA fs (.tup ds)=if ds.length=fs.length then Mf.goA fs ds else fun _ _=>none:=rfl
theorem andV_one {m:Mo D} : Mo.andV [m]=m:=rfl
theorem andV_cons {m k:Mo D} {r:List (Mo D)} : Mo.andV (m :: k :: r)=Mo.bind m fun v=>Mo.bind (Mo.opt (truD v)) fun b=>if b then Mo.andV (k :: r) else Mo.pure v:=rfl
theorem orV_one {m:Mo D} : Mo.orV [m]=m:=rfl
theorem orV_cons {m k:Mo D} {r:List (Mo D)} : Mo.orV (m :: k :: r)=Mo.bind m fun v=>Mo.bind (Mo.opt (truD v)) fun b=>if b then Mo.pure v else Mo.orV (k :: r):=rfl
theorem ands_nil:Mo.ands []=Mo.pure true:=rfl
theorem ands_cons {m:Mo Bool} {r:List (Mo Bool)} : Mo.ands (m :: r)=Mo.bind m fun b=>if b then Mo.ands r else Mo.pure false:=rfl
theorem ors_nil:Mo.ors []=Mo.pure false:=rfl
theorem ors_cons {m:Mo Bool} {r:List (Mo Bool)} : Mo.ors (m :: r)=Mo.bind m fun b=>if b then Mo.pure true else Mo.ors r:=rfl
theorem seq_nil:Mo.seq []=Mo.pure []:=rfl
theorem seq_cons {m:Mo D} {r:List (Mo D)} : Mo.seq (m :: r)=Mo.bind m fun d=>Mo.bind (Mo.seq r) fun ds=>Mo.pure (d :: ds):=rfl
theorem seqK_nil:Mo.seqK []=Mo.pure []:=rfl
theorem seqK_cons {x:PySem.Str} {m:Mo D} {r:List (PySem.Str × Mo D)} : Mo.seqK ((x,m) :: r)=Mo.bind m fun d=>Mo.bind (Mo.seqK r) fun ds=>Mo.pure ((x,d) :: ds):=rfl
theorem frB_nil:frB [] fr=fr:=rfl
theorem frB_cons {x:PySem.Str} {r:List (PySem.Str × D)} : frB ((x,d) :: r) fr=frB r (upd fr x d):=rfl
theorem one1_at {f:F1} : one1 f [d] [] σ=f d σ:=rfl
theorem one2_at {f:F2} {e:D} : one2 f [d,e] [] σ=f d e σ:=rfl
theorem isStr_str {x:PySem.Str} : isStr (.str x) σ=true:=rfl
theorem isStr_int {i:Int} : isStr (.int i) σ=false:=rfl
theorem isStr_none:isStr .none σ=false:=rfl
theorem isStr_tup {ds:List D} : isStr (.tup ds) σ=false:=rfl
theorem isStr_lst {ds:List D} : isStr (.lst ds) σ=false:=rfl
theorem isStr_ref {k:Nat} : isStr (.ref k) σ=false:=rfl
theorem truD_none:truD .none=some false:=rfl
theorem truD_bool {b:Bool} : truD (.bool b)=some b:=rfl
theorem truD_int {i:Int} : truD (.int i)=some (decide (i ≠ 0)):=rfl
theorem truD_str {x:PySem.Str} : truD (.str x)=some (decide (x.length ≠ 0)):=rfl
theorem truD_lst {ds:List D} : truD (.lst ds)=some (!ds.isEmpty):=rfl
theorem solid_bool {b:Bool} : D.solid (.bool b)=true:=rfl
theorem solid_int {i:Int} : D.solid (.int i)=true:=rfl
theorem solid_str {x:PySem.Str} : D.solid (.str x)=true:=rfl
theorem solid_tup {ds:List D} : D.solid (.tup ds)=true:=rfl
theorem solid_lst {ds:List D} : D.solid (.lst ds)=true:=rfl
theorem solid_ref {k:Nat} : D.solid (.ref k)=true:=rfl
theorem fIs_nn:fIs .none .none=some true:=rfl
theorem fIs_bool {b:Bool} : fIs (.bool b) .none=some false:=rfl
theorem fIs_int {i:Int} : fIs (.int i) .none=some false:=rfl
theorem fIs_str {x:PySem.Str} : fIs (.str x) .none=some false:=rfl
theorem fIs_tup {ds:List D} : fIs (.tup ds) .none=some false:=rfl
theorem fIs_lst {ds:List D} : fIs (.lst ds) .none=some false:=rfl
theorem fIs_ref {k:Nat} : fIs (.ref k) .none=some false:=rfl
theorem fIs_type {X Y:String} : fIs (.glob (.type X)) (.glob (.type Y))=some (X == Y):=rfl
theorem fType_str {x:PySem.Str} : fType (.str x) σ=some (.val (.glob (.type "str")),σ):=rfl
theorem fType_int {i:Int} : fType (.int i) σ=some (.val (.glob (.type "int")),σ):=rfl
theorem fType_tup {ds:List D} : fType (.tup ds) σ=some (.val (.glob (.type "tuple")),σ):=rfl
theorem fType_lst {ds:List D} : fType (.lst ds) σ=(lstOf (.lst ds) σ).map fun _=>(.val (.glob (.type "list")),σ):=rfl
theorem fType_ref {k:Nat} : fType (.ref k) σ=(lstOf (.ref k) σ).map fun _=>(.val (.glob (.type "list")),σ):=rfl
theorem sub_tup {ds:List D} : isSub (.tup ds) σ=true:=rfl
theorem pyD_str {look:Nat→Option PyData} {x:PySem.Str} : pyD look (.str x)=some (.str x):=rfl
theorem fLower_str {x:PySem.Str} : fLower (.str x) σ=if x.length ≤ 5592405 then some (.val (.str (Txt.lower x)),σ) else none:=rfl
theorem fUpper_str {x:PySem.Str} : fUpper (.str x) σ=if x.length ≤ 5592405 then some (.val (.str (Txt.upper x)),σ) else none:=rfl
theorem fNeg_int {i:Int} : fNeg (.int i) σ=some (.val (.int (-i)),σ):=rfl
theorem fListSF_str {x:PySem.Str} : fListSF (.str x) σ=some (.val (.lst (chars x)),σ):=rfl
theorem fListSR_str {x:PySem.Str} : fListSR (.str x) σ=some (.val (.ref σ.length),σ ++ [.lst (chars x)]):=rfl
theorem fChr_int {i:Int} : fChr (.int i) σ=if 0 ≤ i∧i ≤ 1114111 then some (.val (.str ⟨#[i.toNat]⟩),σ) else none:=rfl
theorem fRng_1 {b:Int} : fRng [.int b] [] σ=some (.val (.rng 0 b),σ):=rfl
theorem fRng_2 {a b:Int} : fRng [.int a,.int b] [] σ=some (.val (.rng a b),σ):=rfl
theorem fAdd_ii {a b:Int} : fAdd (.int a) (.int b)=some (.int (a + b)):=rfl
theorem fSub_ii {a b:Int} : fSub (.int a) (.int b)=some (.int (a - b)):=rfl
theorem fLt_ii {a b:Int} : fLt (.int a) (.int b)=some (.bool (decide (a < b))):=rfl
theorem fGt_ii {a b:Int} : fGt (.int a) (.int b)=some (.bool (decide (b < a))):=rfl
theorem fGe_ii {a b:Int} : fGe (.int a) (.int b)=some (.bool (decide (b ≤ a))):=rfl
theorem lstOf_lst {ds:List D} : lstOf (.lst ds) σ=some ds:=rfl
end
end Mine
end
section
open PySem PySem.W PyProof.Rows PySem.Calls
set_option maxRecDepth 100000
namespace Mine
/-- two texts written out, as a call's arguments -/
theorem wp_args2 {M:Model} {A:Around} {f:Value} {pos p1 p2:Pos} {y z:PySem.Str} {k1 k2:Nat} {env:Env} {Q:Args→Shared→Prop} {E:Value→Shared→Prop} {s:Shared}
    (h:Q ⟨[.str y s.toks,.str z (s.toks + 1)],[]⟩ { s with toks:=s.toks + 1 + 1 }) :
    wpAny M A (evalArgs f true (backTo pos (starEach [.Constant (.str y) k1 p1,.Constant (.str z) k2 p2] env)) (backToKw pos (keywordEach [] env))) Q E s:=fun _ _ _=>h
section
variable {G:Amb} {hn:Bool} {n:Nat} {Z:Scope}
noncomputable def fRepl (y z:PySem.Str) (d:D):Option D:=(dStr d).bind fun x=>if x.length ≤ 1048576∧(Txt.replace x y z).length ≤ sizeLine then some (.str (Txt.replace x y z)) else none
noncomputable def Mo.repl (y z:PySem.Str) (mo:Mo D):Mo D:=Mo.bind mo fun d=>Mo.opt (fRepl y z d)
/-- o.replace('..', '..') -/
theorem Ev.replC {o:Expr} {apos pos p1 p2:Pos} {y z:PySem.Str} {k1 k2:Nat} {mo:Mo D} (hlo:1 ≤ G.lo) (ho:Ev G hn n Z o mo) (hyz:(y == z)=false:=by decide +kernel) (hz:z.length ≤ 14:=by decide +kernel)
    (hbase:∀ env,attributeBase o "replace" env (eval o env)=eval o env:=by intro _; rfl)
    (hfew:∀ env,methodCallForm (([.Constant (.str y) k1 p1,.Constant (.str z) k2 p2]:List Expr).length + ([]:List Keyword).length) (backTo pos (starEach [.Constant (.str y) k1 p1,.Constant (.str z) k2 p2] env)) (backToKw pos (keywordEach [] env))=true:=by intro _; rfl)
    (hline:(apos.endLine == pos.line)=true:=by rfl) :
    Ev G hn n Z (.Call (.Attribute o "replace" apos) [.Constant (.str y) k1 p1,.Constant (.str z) k2 p2] [] pos) (Mo.repl y z mo):=by
  intro c env fr S s out σ' q hm
  rw [arm_eval_Call,hbase]
  refine Tr.bindM hm (fun o1 σ1 h1=>ho c env fr S s o1 σ1 q h1) fun d ov S1 tk H1 x1 ra h2=>?_
  refine Tr.standAt ?_
  refine xEA (Option.map_eq_some_iff.mp h2) fun r hr e=>?_
  refine xEA (Option.bind_eq_some_iff.mp hr) fun x hx hr=>?_
  refine xA (ite_inv hr) fun hc hr=>?_
  have e:=congrArg some e
  rw [← s1E hr] at e
  refine Tr.cast e ?_
  rw [dStr_eq hx] at ra
  refine xEA (VR.i_str ra) fun t ev hxl=>?_
  subst ev
  clear h2 hr hx e hm
  unfold methodCall
  rw [hfew]
  have hp:methodCallPos true o env apos pos=Pure.pure pos:=by unfold methodCallPos; simp [hline]
  rw [hp]
  refine Tr.weak tk.2 ?_
  intro Q E hq _
  refine wpAny_bind (wpAny_holding (getMethod_builtin (T := "str") (v:=.str x t) (typeIs_str _ x t) PySem.F.plainAttrs_str F.slot_str_replace F.type_str_replace (fun a e=>by exact nAny PySem.Value.ctorIdx e rfl) ?_))
  refine wpAny_bind (wpAny_pure ?_)
  unfold callWith
  refine wpAny_bind (wpAny_holding (wp_args2 ?_))
  refine wpAny_bind (wpAny_standAt ?_)
  dsimp only
  refine wpAny_bind ((Looks.of_pure (M:=G.M) (h:=S1.h) (r:=Keeper.machine) rfl).here ?_)
  show wpAny G.M c.A (PySem.call (.builtin "str.replace") [.str x t,.str y tk.1,.str z (tk.1 + 1)] >>= fun r=>PySem.holding [r] PySem.point >>= fun _=>Pure.pure r) Q E _
  have h1:1 ≤ tk.1:=Nat.le_trans hlo tk.2
  refine wpAny_bind (SC.replaceW (Nat.ne_of_gt h1) (Nat.succ_ne_zero _) (Nat.ne_of_lt (Nat.lt_succ_self _)) hyz hc.1 hz fun t' k=>?_)
  exact wpAny_bind (wpAny_holding (wpAny_point (wpAny_pure (hq _ rfl _ S1 k rfl H1 (.refl ..) (.str _ _ hc.2)))))
end
end Mine
end
section
open PySem PySem.W PyProof.Rows PySem.Calls
set_option maxRecDepth 100000
namespace Mine
theorem fillsI_list:fillsInplaceSlot (.type "list") "add" (Operator.Add == .Add)=pure false:=by
  unfold fillsInplaceSlot
  show (typeLookup (.type "list") (dunderI "add") >>= fun fi=>pure (fi.isSome && !isSeqSlot fi))=pure false
  rw [PySem.F.slot_list_iadd.lookup]
  kernel_rfl
theorem fillsN_list:fillsNumberSlot (.type "list") "add" = pure false:=by kernel_rfl
theorem seqI_list:seqSlot? (.type "list") (dunderI "add")=pure (some (.builtin "list.__iadd__")):=by
  unfold seqSlot?
  rw [PySem.F.slot_list_iadd.lookup]
  kernel_rfl
section
variable {M:Model} {A:Around} {E:Value→Shared→Prop} {s:Shared}
theorem inplace_list {a b:Value} {Q:Value→Shared→Prop} (ha:s.TypeIs a "list") (hb:s.TypeIs b "list") (hc:wpAny M A (call (.builtin "list.__iadd__") [a,b]) Q E s):wpAny M A (inplaceOp .Add a b) Q E s:=by
  unfold inplaceOp
  refine wpAny_holding ?_
  refine wpAny_bind (wpAny_typeOf ha (wpAny_bind (wpAny_of_eq fillsI_list ?_)))
  show wpAny M A (if false=true then _ else _) Q E s
  rw [if_neg Bool.false_ne_true]
  refine wpAny_bind (binaryOp1_none (nm := "add") ha hb fillsN_list ?_)
  refine wpAny_bind (wpAny_of_eq seqI_list ?_)
  exact wpAny_bind (wpAny_rule hc)
end
theorem meets_iadd {l:Addr} {items:Array Value} {n:Nat} {b:Addr} {items2:Array Value} {n2:Nat} {dd:Option Addr} {ss:Array (Option Value)} (hs0 : ¬(!items.isEmpty && Builtin.List.listTooLong (items.size + items2.size))=true) (hs1:items.size ≤ sizeLine) (hs2:items.size + items2.size ≤ sizeLine + 1) :
    Meets (Builtin.«list.__iadd__» ⟨[.ref l,.ref b],[]⟩) (fun _ R s=>s.heap.get? l=some { cls:=.type "list", dict:=none,data:=.seq items n,slots:=#[] }∧s.heap.get? b=some { cls:=.type "list", dict:=dd,data:=.seq items2 n2,slots:=ss }∧R (.ok (.ret (Value.ref l))) { s with heap:=s.heap.update l (Obj.mapSeq fun x=>x ++ items2),toks:=s.toks }) :=
  .of_wp fun prog w A R s h=>by
    obtain ⟨hp,g,d,tk,os⟩:=s
    obtain ⟨hl,hb,h⟩:=h
    have f3:=sub_list_list
    have hz':(items ++ items2).size ≤ sizeLine + 1:=by rw [Array.size_append]; exact hs2
    wp_walk using (wpAny_updateSeq hl rfl (hz:=hs1) (_hz':=hz')),wpAny_loadPart' hl,wpAny_loadPart' hb
    exact ⟨_,rfl,h⟩
section
variable {G:Amb} {hn:Bool} {n:Nat} {Z:Scope}
noncomputable def atL (σ:List AO) (k:Nat):Option (List D):=pick fun ds=>σ[k]? = some (.lst ds)
theorem atL_ok {σ:List AO} {k:Nat} {ds:List D} (h:atL σ k=some ds):σ[k]? = some (.lst ds):=pick_ok (P:=fun ds=>σ[k]? = some (.lst ds)) h
theorem atL_mk {σ:List AO} {k:Nat} {ds:List D} (h:σ[k]? = some (.lst ds)):atL σ k=some ds:=pick_mk h fun b hb=>by have q:=s1E (hb.symm.trans h); injection q
/-- list += frozen list -/
noncomputable def fIadd:F2:=fun a b σ=>(dRef a).bind fun k=>(dLst b).bind fun es=>(atL σ k).bind fun ds=>if ds.length + es.length ≤ sizeLine then some (.val (.ref k),σ.set k (.lst (ds ++ es))) else none
theorem Op2.iadd:Op2 G hn n (fun v w=>inplaceOp .Add v w) fIadd:=by
  intro c S s va vb da db out σ' q ra rb hm
  refine xEA (Option.bind_eq_some_iff.mp hm) fun k hk hm=>?_
  refine xEA (Option.bind_eq_some_iff.mp hm) fun es hj hm=>?_
  refine xEA (Option.bind_eq_some_iff.mp hm) fun ds hds hm=>?_
  refine xA (ite_inv hm) fun hz hm=>?_
  refine Tr.cast hm ?_
  rw [dRef_eq hk] at ra
  rw [dLst_eq hj] at rb
  have hds:=atL_ok hds
  clear hm hk hj
  refine xEEEAAAA (q.H.lstX ra hds) fun p m vs ev hp ho hzl hr=>?_
  refine xEEEEAAAAAA rb.i_lst fun a2 ob vs2 m2 ev2 ho2 hc2 hd2 hz2 hnot hr2=>?_
  subst ev
  subst ev2
  have l1:=VRs.length hr
  have l2:=VRs.length hr2
  rw [Array.length_toList] at l1 l2
  have hsz:vs.size + vs2.size ≤ sizeLine:=by rw [l1,l2]; exact hz
  have ho':s.heap.get? p.1=some { cls:=.type "list", dict:=none,data:=.seq vs m,slots:=#[] }:=by rw [q.heap]; exact ho
  obtain ⟨oc,od,oda,os⟩:=ob
  simp only at hc2 hd2
  subst hc2 hd2
  have ho2':s.heap.get? a2=some { cls:=.type "list", dict:=od,data:=.seq vs2 m2,slots:=os }:=by rw [q.heap]; exact ho2
  refine Tr.of_wp fun Q E hq=>inplace_list ⟨_,ho',rfl⟩ ⟨_,ho2',rfl⟩ (call_meets PySem.F.slot_list_iadd ⟨_,ho',rfl⟩ PySem.F.entry_list_iadd (PySem.F.args_list_iadd_2 _ _)
    (meets_iadd (extend_door hsz) hzl (Nat.le_succ_of_le hsz)) ⟨ho',ho2',?_⟩)
  have hs':Heap.SameBut p.1 S.h (S.h.update p.1 (Obj.mapSeq fun x=>x ++ vs2)):=Heap.SameBut.update ..
  refine xA (q.H.setLst (ds':=ds ++ es) hp hds hs' (PySem.IsL.update ho fun x=>x ++ vs2) (by rw [Array.size_append]; exact hsz) (by rw [Array.toList_append]; exact VRs.append hr hr2)) fun H1 x1=>?_
  have:=hq (.ref p.1) ⟨S.adr,S.σ.set k (.lst (ds ++ es)),S.h.update p.1 (Obj.mapSeq fun x=>x ++ vs2)⟩ s.toks rfl H1 x1 (.ref hp)
  rw [← q.heap] at this; exact this
theorem trLoad {c:Cx} {env:Env} {fr:Fr} {S:Gs} {s:Shared} {x:PySem.Str} {out:Out D} {σ':List AO} (r:Run G hn n Z c env fr S s) (hk:Z.names.lookup x=some .local) (hm:Mo.var x fr S.σ=some (out,σ')):Tr G c S s (Rv G c) (loadName env x) out σ':=by
  refine xEA (Option.map_eq_some_iff.mp hm) fun d hd1 hd2=>?_
  refine Tr.cast (congrArg some hd2) ?_
  refine xEA r.V.vars fun m hns hv=>?_
  refine xEA (hv x d hd1 ((kindOf_scope r.scope).trans hk)) fun v hmv rv=>?_
  exact Tr.tok r.H r.heap fun Q E hq=>wpAny_loadName_local r.V.kind ((kindOf_scope r.scope).trans hk) (by rw [r.heap]; exact hns) hmv (hq _ s.toks rv)
noncomputable def Mf.iadd (x:PySem.Str) (mv:Mo D):Mf SF:=Mf.bind (Mf.lift (Mo.var x)) fun a=>Mf.bind (Mf.lift mv) fun b=>Mf.bind (Mf.lift fun _ σ=>fIadd a b σ) fun d=>Mf.bind (Mf.set x d) fun _=>Mf.pure .next
theorem Ex.iadd {x:PySem.Str} {npos pos:Pos} {value:Expr} {mv:Mo D} (hk:Z.names.lookup x=some .local) (h:Ev G hn n Z value mv):Ex G hn n Z (.AugAssign (.Name x npos) .Add value pos) (Mf.iadd x mv):=by
  intro c env fr S s out fr' σ' q hf hl hm
  rw [arm_exec_AugAssign]
  refine TrF.standAt (TrF.bindE q hm (fun o1 σ1 e1=>trLoad q hk e1) fun a va S1 tk q1 x1 r1 e2=>?_)
  refine TrF.bindE q1 e2 (fun o1 σ1 e1=>(h c env fr S1 _ o1 σ1 q1 e1).holding) fun b vb S2 tk2 q2 x2 r2 e3=>?_
  refine TrF.standAt (TrF.bindE q2 e3 (fun o1 σ1 e1=>trOperate (Op2.iadd c S2 _ va vb a b o1 σ1 q2.ho (r1.ext x2) r2 e1)) fun d vd S3 tk3 q3 x3 r3 e4=>?_)
  refine TrF.standAt (TrF.bindM (R₁:=fun _ _ _=>True) e4 (fun o1 f1 σ1 e5=>?_) fun b fr1 _ S4 tk4 H4 x4 V4 _ e5=>?_)
  · refine TrF.cast e5 ?_
    exact trBind q3 (.inl hk) r3
  · refine TrF.cast e5 ?_
    exact TrF.pure (a:=Flow.next) H4 V4 rfl trivial
end
end Mine
end
section
open PySem PySem.W PyProof.Rows PySem.Calls
set_option maxRecDepth 100000
namespace Mine
section
variable {prog:Program} {w:World} {A:Around} {E:Value→Shared→Prop} {s:Shared} {K:Frag} {x C f:Addr} {ox:Obj} {od:Option Obj}
theorem callLenI {Q:Value→Shared→Prop} (X:K.In s.heap) (I:InstAt s.heap x ox C od) (hs:findIn K (.ref C) "__len__" = some (some (.ref f))) (hf:isFn K (.ref f)=true)
    (h:wpAny (model prog w) A.in1 (call (.ref f) [.ref x]) (fun r s'=>∃ n u,r = .int n u∧0 ≤ n∧n < 2 ^ 63∧Q (.int n s'.toks) { s' with toks:=s'.toks + 1 }) E s):wpAny (model prog w) A (call (.builtin "len") [.ref x]) Q E s:=by
  refine Calls.call_function_entry kind_len plain_len entry_len (args_len1 _) ?_
  unfold Builtin.«len»
  refine wpAny_bind (m:=oneArg "len" _) (wpAny_pure (wpAny_bind (m:=callSpecial? (.ref x) (PySem.Str.ofString "__len__")) (special_fn X I hs (beq_iff_eq.mp hf) (wpAny_mono h (fun r s' hr=>?_) fun _ _ z=>z))))
  obtain ⟨n,u,rfl,h0,h1,hq⟩:=hr
  refine wpAny_bind (wpAny_holding (wpAny_pure (wpAny_bind (wpAny_letGo ?_))))
  show wpAny _ _ (if n < 0 then _ else if n ≥ 2 ^ 63 then _ else _) _ _ _
  rw [if_neg (Int.not_lt.mpr h0),if_neg (Int.not_le.mpr h1)]
  exact wpAny_bind (wpAny_mkInt (wpAny_pure ⟨_,rfl,hq⟩))
end
section
variable {G:Amb} {hn:Bool} {n:Nat} {Z:Scope}
theorem Ho.in1 {c:Cx} {S:Gs} {s:Shared} (q:Ho G hn (n + 1) c S s):Ho G hn n { c with A:=c.A.in1 } S s :=
  ⟨by have:=q.room; show c.A.depth + 3 * n < _; omega,by have:=q.units; show c.A.units + 1 + 30 * n < _; omega,q.hand,q.heap,q.tok,q.H.setA rfl⟩
theorem Ho.in2 {c:Cx} {S:Gs} {s:Shared} (q:Ho G hn (n + 1) c S s):Ho G hn n { c with A:=c.A.in1.in1 } S s :=
  ⟨by have:=q.room; show c.A.depth + 3 * n < _; omega,by have:=q.units; show c.A.units + 1 + 1 + 30 * n < _; omega,q.hand,q.heap,q.tok,q.H.setA rfl⟩
noncomputable def outInt:Out D→Option Int
  | .val (.int n)=>some n
  | _=>none
noncomputable def outStr:Out D→Option PySem.Str
  | .val (.str x)=>some x
  | _=>none
theorem outInt_eq {o:Out D} {i:Int} (h:outInt o=some i):o = .val (.int i):=by
  cases o with
  | exc=>exact nnS h
  | val d=>cases d <;> first | exact nnS h | exact congrArg (fun i=>Out.val (D.int i)) (s1E h)
theorem outStr_eq {o:Out D} {x:PySem.Str} (h:outStr o=some x):o = .val (.str x):=by
  cases o with
  | exc=>exact nnS h
  | val d=>cases d <;> first | exact nnS h | exact congrArg (fun x=>Out.val (D.str x)) (s1E h)
/-- len of an object whose class has the method -/
noncomputable def fLenI (C:Addr) (mf:Fm):F1:=fun d σ=>if isC C d σ=true then (mf [d] [] σ).bind fun r=>(outInt r.1).bind fun i=>if 0 ≤ i∧i < 2 ^ 63 then some (.val (.int i),r.2) else none else none
theorem Ca.lenI {C f:Addr} {mf:Fm} (hs:findIn G.K (.ref C) "__len__" = some (some (.ref f))) (hf:isFn G.K (.ref f)=true) (hc:Ca G hn n (.ref f) mf):Ca G hn (n + 1) (.builtin "len") (one1 (fLenI C mf)):=Ca.one (by
  intro c S s v d out σ' q rv hm
  refine xA (ite_inv hm) fun hC hm=>?_
  refine xEA (Option.bind_eq_some_iff.mp hm) fun r hr hm=>?_
  refine xEA (Option.bind_eq_some_iff.mp hm) fun i hi hm=>?_
  refine xA (ite_inv hm) fun hlt hm=>?_
  refine Tr.cast hm ?_
  clear hm
  refine xEEA (isC_of hC) fun k at_ ed hk=>?_
  subst ed
  refine xEEEAAAAA (q.H.instX rv hk) fun p es m ev hpa I _ _ _=>?_
  subst ev
  obtain ⟨o,σ2⟩:=r
  have ho:o = .val (.int i):=outInt_eq hi
  subst ho
  refine Tr.weak q.tok ?_
  intro Q E hq _
  refine callLenI (by rw [q.heap]; exact q.H.kin) (by rw [q.heap]; exact I) hs hf ?_
  refine hc { c with A:=c.A.in1 } S s [.ref p.1] [.ref k] [] [] _ _ q.in1 (VRs.one rv) trivial hr _ E (fun b hb a S' tk e H' x r'=>?_) fun _ _ ho=>nVE ho
  have hb:=valE hb
  subst hb
  refine xE (VR.i_int r') fun u ev=>?_
  exact ⟨i,u,ev,hlt.1,hlt.2,hq _ rfl (.int i tk.1) S' (tk.1 + 1) e (H'.setA rfl) ⟨x.adr,x.keep,x.fresh,x.live⟩ (.int i _)⟩)
/-- str of an object whose class has the method -/
noncomputable def fStrI (C:Addr) (mf:Fm):F1:=fun d σ=>if isC C d σ=true then (mf [d] [] σ).bind fun r=>(outStr r.1).bind fun x=>some (.val (.str x),r.2) else none
theorem Ca.strI {C f:Addr} {mf:Fm} (hs:findIn G.K (.ref C) "__str__" = some (some (.ref f))) (hf:isFn G.K (.ref f)=true) (hc:Ca G hn n (.ref f) mf):Ca G hn (n + 1) (.type "str") (one1 (fStrI C mf)):=Ca.one (by
  intro c S s v d out σ' q rv hm
  refine xA (ite_inv hm) fun hC hm=>?_
  refine xEA (Option.bind_eq_some_iff.mp hm) fun r hr hm=>?_
  refine xEA (Option.bind_eq_some_iff.mp hm) fun i hi hm=>?_
  refine Tr.cast hm ?_
  clear hm
  refine xEEA (isC_of hC) fun k at_ ed hk=>?_
  subst ed
  refine xEEEAAAAA (q.H.instX rv hk) fun p es m ev hpa I _ _ _=>?_
  subst ev
  obtain ⟨o,σ2⟩:=r
  have ho:o = .val (.str i):=outStr_eq hi
  subst ho
  refine Tr.weak q.tok ?_
  intro Q E hq _
  refine kso_call (by have:=q.units; show c.A.units + 1 + 1 < _; omega) (by rw [q.heap]; exact q.H.kin) (by rw [q.heap]; exact I) hs hf ?_
  refine hc { c with A:=c.A.in1.in1 } S s [.ref p.1] [.ref k] [] [] _ _ q.in2 (VRs.one rv) trivial hr _ E (fun b hb a S' tk e H' x r'=>?_) fun _ _ ho=>nVE ho
  have hb:=valE hb
  subst hb
  refine xEA (VR.i_str r') fun u ev hx=>?_
  subst ev
  exact hq _ rfl (.str i u) S' tk.1 e (H'.setA rfl) ⟨x.adr,x.keep,x.fresh,x.live⟩ (.str i _ hx))
end
end Mine
end
section
open PySem PySem.W PyProof.Rows PySem.Calls
set_option maxRecDepth 100000
namespace Mine
section
variable {prog:Program} {w:World} {A:Around} {E:Value→Shared→Prop} {s:Shared}
theorem bounds_all (n:Nat):sliceIndices .none .none .none n=pure (((0:Nat):Int),(n:Int),1):=by
  refine (sliceIndices_raw none none none n (by simp)).trans ?_
  simp [sliceBounds]
theorem upd_congr {h:Heap} {a:Addr} {o:Obj} {f g:Obj→Obj} (ho:h.get? a=some o) (e:f o=g o):h.update a f=h.update a g:=by
  obtain ⟨objs,l⟩:=h
  have hx:objs[a]? = some o:=by
    unfold Heap.get? at ho
    dsimp only at ho
    revert ho
    cases objs[a]? with
    | none=>exact id
    | some p =>
      obtain ⟨c,d,dt,sl⟩:=p
      cases dt <;> first | exact id | exact fun q=>nomatch q
  show Heap.mk _ _=Heap.mk _ _
  congr 1
  apply Array.ext_getElem?
  intro i
  rw [Array.getElem?_modify,Array.getElem?_modify]
  by_cases hi:a=i
  · subst hi
    simp [hx,e]
  · simp [hi]
/-- all of a list's items made anew -/
theorem setItem_all {a sl b:Addr} {xs vs:Array Value} {m m2:Nat} {ob:Obj} {Q:Unit→Shared→Prop} (hab:a ≠ b) (ha:s.heap.get? a=some { cls:=.type "list", dict:=none,data:=.seq xs m,slots:=#[] }) (hs:s.heap.IsSliceOf sl .none .none .none)
    (hb:s.heap.get? b=some ob) (hbc:ob.cls = .type "list") (hbd:ob.data = .seq vs m2) (hx:xs.size ≤ sizeLine) (hv:vs.size ≤ sizeLine) (hxv:xs.size + vs.size ≤ sizeLine)
    (h:Q () { s with heap:=s.heap.update a (Obj.mapSeq fun _=>vs) }):wpAny (model prog w) A (setItem (.ref a) (.ref sl) (.ref b)) Q E s:=by
  have hl:s.heap.IsList a xs:=⟨_,ha,rfl,m,rfl⟩
  obtain ⟨os,hos,hcs,hds⟩:=id hs
  have hTs:s.TypeIs (.ref sl) "slice" := ⟨os,hos,hcs⟩
  unfold setItem
  refine wpAny_holding ?_
  refine wpAny_bind (wpAny_sequenceKey hl.typeIs (by decide) ?_)
  refine wpAny_bind (wpAny_callSpecial?_slot (name:=PySem.Str.ofString "__setitem__") hl.typeIs PySem.F.slot_list_setitem
    (wpAny_call_entry PySem.F.slot_list_setitem hl.typeIs PySem.F.entry_list_setitem ?_ (PySem.args_list_setitem _ _ _)))
  show wpAny _ _ (Builtin.List.listSubscript? (.ref sl) >>= _) _ _ s
  refine wpAny_bind ?_
  unfold Builtin.List.listSubscript?
  refine wpAny_bind (wpAny_specialOf hTs slice_no_index ?_)
  simp only [Option.isNone_none,if_true]
  refine wpAny_pure ?_
  show wpAny _ _ (typeOf (.ref sl) >>= _) _ _ s
  refine wpAny_bind (wpAny_typeOf hTs ?_)
  rw [if_neg (by decide)]
  rw [listSliceParts_eq]
  refine wpAny_bind (wpAny_bind (wpAny_field hos hds (x:=.none) rfl (wpAny_bind (wpAny_listPart .none ?_))))
  rw [if_neg (by exact Bool.false_ne_true)]
  refine wpAny_bind (wpAny_field hos hds (x:=.none) rfl (wpAny_bind (wpAny_listPart .none ?_)))
  refine wpAny_bind (wpAny_field hos hds (x:=.none) rfl (wpAny_bind (wpAny_listPart .none (wpAny_pure ?_))))
  have hsr:Builtin.List.listSameRef (.ref a) (.ref b)=false:=by
    show (a == b)=false
    simp [hab]
  rw [hsr]
  have hTb:s.TypeIs (.ref b) "list" := ⟨ob,hb,hbc⟩
  refine wpAny_bind (m:=Builtin.List.listAllItems (.ref b) _) ?_
  unfold Builtin.List.listAllItems
  refine wpAny_bind (wpAny_typeOf hTb ?_)
  rw [if_pos (by decide)]
  unfold Builtin.List.listItems
  refine wpAny_bind (wpAny_seqItems hb hbd (wpAny_pure ?_))
  refine wpAny_bind (m:=Builtin.List.listItems (.ref a)) ?_
  unfold Builtin.List.listItems
  refine wpAny_bind (wpAny_seqItems ha rfl (wpAny_pure ?_))
  refine wpAny_bind (wpAny_of_eq (bounds_all xs.size) ?_)
  rw [if_pos (show ((1:Int) == 1)=true by decide)]
  refine wpAny_bind (wpAny_rule ?_)
  have hlt : ¬ Builtin.List.listTooLong (xs.size + vs.size)=true:=by
    unfold Builtin.List.listTooLong
    simp; omega
  rw [if_neg hlt]
  have hf:(fun xs_1:Array Value=>xs_1.extract 0 ((0:Nat):Int).toNat ++ vs ++ xs_1.extract (max ((0:Nat):Int) (xs.size:Int)).toNat xs_1.size) xs=vs:=by
    simp
  refine wpAny_bind (wpAny_updateSeq ha rfl ?_ hx ?_)
  refine wpAny_bind (wpAny_letGo ?_)
  refine wpAny_pure ⟨.none,rfl,wpAny_pure ?_⟩
  · have e:s.heap.update a (Obj.mapSeq fun x=>x.extract 0 ((0:Nat):Int).toNat ++ vs ++ x.extract (max ((0:Nat):Int) (xs.size:Int)).toNat)=s.heap.update a (Obj.mapSeq fun _=>vs) :=
      upd_congr ha (by show Obj.mk _ _ _ _=Obj.mk _ _ _ _; simp)
    dsimp only
    rw [e]
    exact h
  · simp
    omega
end
end Mine
end
section
open PySem PySem.W PyProof.Rows PySem.Calls
set_option maxRecDepth 100000
namespace Mine
section
variable {G:Amb} {hn:Bool} {n:Nat} {Z:Scope}
theorem VRs.le {P:Params} {adr:Adr} {V:List Addr} {h:Heap} {vs:Array Value} {ds:List D} (r:VRs P adr V h vs.toList ds):vs.size=ds.length:=by
  have:=VRs.length r
  rwa [Array.length_toList] at this
end
end Mine
end
section
open PySem PySem.W PyProof.Rows PySem.Calls PySem.MeetsSeq PySem.SeqAt
set_option maxRecDepth 100000
namespace Mine
/-- remove: the turns from i on, where the first hit is at j; the items are asked in the state as it stands -/
theorem rmLoop (l:Addr) (items:Array Value) (n:Nat) (x:Value) (e:Value→Bool) (j:Nat) (hj:j < items.size) (hit:e items[j]=true) (hs1:items.size ≤ sizeLine) (k:Nat) :
    ∀ i:Nat,i + k=j→(∀ m (hm:m < items.size),i ≤ m→m < j→e items[m]=false)→Meets (Builtin.«list.remove.loop» ⟨[.ref l,x,rawInt i],[]⟩)
      (fun A R s=>s.heap.get? l=some { cls:=.type "list", dict:=none,data:=.seq items n,slots:=#[] }∧(∀ y,y ∈ items→EqAt A.in1 s y x (e y)) ∧
        R (.ok (.ret .none)) { s with heap:=s.heap.update l (Obj.mapSeq fun xs=>xs.eraseIdxIfInBounds j) }):=by
  have hz':(items.eraseIdxIfInBounds j).size ≤ sizeLine + 1:=Nat.le_trans (size_erased items _) (Nat.le_succ_of_le hs1)
  induction k with
  | zero =>
    intro i hk _ prog w A R s h
    obtain ⟨hp,g,d,tk,os⟩:=s
    obtain ⟨hl,he,h⟩:=h
    have e0:i=j:=hk
    subst e0
    wp_walk using wpAny_loadPart' hl
    rw [show items[((i:Nat):Int).toNat]? = some items[i] by simp [hj]]
    refine wpAny_bind (he _ (Array.getElem_mem hj) prog w _ _ ?_)
    rw [hit]
    wp_walk using (wpAny_updateSeq hl rfl (hz:=hs1) (_hz':=hz')),wpAny_loadPart' hl
    simpa using h
  | succ k ih =>
    intro i hk hno prog w A R s h
    obtain ⟨hp,g,d,tk,os⟩:=s
    obtain ⟨hl,he,h⟩:=h
    have hlt:i < items.size:=by omega
    wp_walk using wpAny_loadPart' hl
    rw [show items[((i:Nat):Int).toNat]? = some items[i] by simp [hlt]]
    refine wpAny_bind (he _ (Array.getElem_mem hlt) prog w _ _ ?_)
    rw [hno i hlt (Nat.le_refl _) (by omega)]
    wp_walk
    rw [show ((i:Int) + 1)=((i + 1:Nat):Int) by push_cast; rfl]
    refine ⟨plainId_quiet plain_remove_loop _,codeAny_builtin entry_remove_loop ?_⟩
    rw [Around.under_plainId plain_remove_loop _]
    exact ih (i + 1) (by omega) (fun m hm h1 h2=>hno m hm (by omega) h2) prog w A R _ ⟨hl,he,h⟩
theorem rmList (l:Addr) (items:Array Value) (n:Nat) (x:Value) (e:Value→Bool) (j:Nat) (hj:j < items.size) (hit:e items[j]=true) (hno:∀ m (hm:m < items.size),m < j→e items[m]=false) (hs1:items.size ≤ sizeLine) :
    Meets (Builtin.«list.remove» ⟨[.ref l,x],[]⟩)
      (fun A R s=>s.heap.get? l=some { cls:=.type "list", dict:=none,data:=.seq items n,slots:=#[] }∧(∀ y,y ∈ items→EqAt A.in1 s y x (e y)) ∧
        R (.ok (.ret .none)) { s with heap:=s.heap.update l (Obj.mapSeq fun xs=>xs.eraseIdxIfInBounds j) }):=by
  intro prog w A R s h
  obtain ⟨hp,g,d,tk,os⟩:=s
  obtain ⟨hl,he,h⟩:=h
  wp_walk using wpAny_loadPart' hl
  refine ⟨plainId_quiet plain_remove_loop _,codeAny_builtin entry_remove_loop ?_⟩
  rw [Around.under_plainId plain_remove_loop _]
  exact rmLoop l items n x e j hj hit hs1 j 0 (Nat.zero_add j) (fun m hm _ h2=>hno m hm h2) prog w A R _ ⟨hl,he,h⟩
end Mine
end
section
open PySem PySem.W PyProof.Rows PySem.Calls PySem.MeetsSeq PySem.SeqAt
set_option maxRecDepth 100000
namespace Mine
section
variable {G:Amb} {hn:Bool} {n:Nat} {Z:Scope}
theorem seq_inj {vs ws:Array Value} {a b:Nat} (h:Data.seq vs a=Data.seq ws b):vs=ws:=by injection h
noncomputable def pyL (σ:List AO) (d:D):Option (List PyData):=match py σ d with
  | some (.list xs)=>some xs
  | _=>none
theorem pyL_ok {σ:List AO} {d:D} {xs:List PyData} (h:pyL σ d=some xs):py σ d=some (.list xs):=by
  unfold pyL at h
  cases e:py σ d with
  | none=>rw [e] at h; exact nnS h
  | some p =>
    rw [e] at h
    cases p <;> first | exact nnS h | (have q:=s1E h; rw [q])
noncomputable def fwd (xs:List PyData) (y:PyData):Nat:=xs.findIdx fun x=>PyData.eqv x y
/-- the first item that is like it goes -/
noncomputable def fRemove:F2:=fun a b σ=>(dRef a).bind fun k=>(atL σ k).bind fun ds=>(pyL σ a).bind fun xs=>(py σ b).bind fun y =>
  if fwd xs y < xs.length then some (.val .none,σ.set k (.lst (ds.eraseIdx (fwd xs y)))) else none
theorem VRs.erase {P:Params} {adr:Adr} {V:List Addr} {h:Heap} : ∀ {ds:List D} {vs:List Value} (_:VRs P adr V h vs ds) (j:Nat),VRs P adr V h (vs.eraseIdx j) (ds.eraseIdx j)
  | [],_,r,j=>by have q:=r.i_nil; subst q; exact r
  | d :: ds,_,r,j=>by
    refine xEEAA r.i_cons fun v ws q rv rs=>?_
    subst q
    cases j with
    | zero=>exact rs
    | succ j=>exact .cons rv (VRs.erase rs j)
theorem Op2.remove (h3:3 ≤ n):Op2 G hn n (fun v w=>call (.builtin "list.remove") [v,w]) fRemove:=by
  intro c S s va vb da db out σ' q ra rb hm
  refine xEA (Option.bind_eq_some_iff.mp hm) fun k hk hm=>?_
  refine xEA (Option.bind_eq_some_iff.mp hm) fun ds hds hm=>?_
  refine xEA (Option.bind_eq_some_iff.mp hm) fun xs hxs hm=>?_
  refine xEA (Option.bind_eq_some_iff.mp hm) fun y hy hm=>?_
  refine xA (ite_inv hm) fun hj hm=>?_
  refine Tr.cast hm ?_
  refine xA (py_ok q.H ra (pyL_ok hxs)) fun q0z s1=>?_
  refine xE q0z fun as r1=>?_
  refine xA (py_ok q.H rb hy) fun q0z s2=>?_
  refine xE q0z fun bs r2=>?_
  rw [dRef_eq hk] at ra
  have hds:=atL_ok hds
  clear hm hk hy hxs
  refine xEEEAAAA (q.H.lstX ra hds) fun p m vs ev hp ho hzl hr=>?_
  subst ev
  refine xA (shaped_list s1) fun c1 c2=>?_
  have r4:∃ as,ReadsAll S.h vs.toList xs as:=by
    cases r1 with
    | list g1 g2 g3 g4 =>
      have:=(g1.symm.trans ho)
      have e:=Option.some.inj this
      subst e
      exact ⟨_,seq_inj g3 ▸ g4⟩
  refine xE r4 fun as4 r4=>?_
  have hmap:=readsAll_map xs _ _ c1 r4
  have hlen:vs.size=xs.length:=by rw [← hmap,List.length_map,Array.length_toList]
  have hget:∀ i (hi:i < vs.size) (hi':i < xs.length),xs[i]=readOf S.h vs[i]:=fun i hi hi'=>by
    simp [← hmap]
  have ho':s.heap.get? p.1=some { cls:=.type "list", dict:=none,data:=.seq vs m,slots:=#[] }:=by rw [q.heap]; exact ho
  have hhit:PyData.eqv (readOf S.h (vs[fwd xs y]'(hlen ▸ hj))) y=true:=by
    rw [← hget _ (hlen ▸ hj) hj]
    exact List.findIdx_getElem (p:=fun x=>PyData.eqv x y) (w:=hj)
  have hno:∀ i (hi:i < vs.size),i < fwd xs y→PyData.eqv (readOf S.h vs[i]) y=false:=fun i hi hl=>by
    rw [← hget _ hi (hlen ▸ hi)]
    have:=List.not_of_lt_findIdx (p:=fun x=>PyData.eqv x y) (xs:=xs) hl
    simpa using this
  have hu:=q.u64 h3
  have hu2:=q.units
  have he:∀ v,v ∈ vs→EqAt c.A.in1 s v vb (PyData.eqv (readOf S.h v) y):=by
    have:=items_eqAt (A:=c.A) (s:=s) (x:=vb) (d:=y) (by rw [q.heap]; exact r4) (by rw [q.heap]; exact r2) c1 (SeqAt.canLay_of_shaped s2) (by omega)
    rw [q.heap] at this
    exact this
  have hs':Heap.SameBut p.1 S.h (S.h.update p.1 (Obj.mapSeq fun x=>x.eraseIdxIfInBounds (fwd xs y))):=Heap.SameBut.update ..
  have hel:(vs.eraseIdxIfInBounds (fwd xs y)).toList=vs.toList.eraseIdx (fwd xs y):=by
    simp
  refine Tr.of_wp fun Q E hq=>call_meets PySem.F.slot_list_remove ⟨_,ho',rfl⟩ PySem.F.entry_list_remove (PySem.F.args_list_remove_2 _ _)
    (rmList p.1 vs m vb (fun v=>PyData.eqv (readOf S.h v) y) (fwd xs y) (hlen ▸ hj) hhit hno hzl) ⟨ho',he,?_⟩
  refine xA (q.H.setLst (ds':=ds.eraseIdx (fwd xs y)) hp hds hs' (PySem.IsL.update ho fun x=>x.eraseIdxIfInBounds (fwd xs y)) (Nat.le_trans (by rw [← Array.length_toList,hel,← Array.length_toList]; exact List.length_eraseIdx_le _ _) hzl) (by rw [hel]; exact VRs.erase hr _)) fun H1 x1=>?_
  have:=hq .none ⟨S.adr,S.σ.set k (.lst (ds.eraseIdx (fwd xs y))),S.h.update p.1 (Obj.mapSeq fun x=>x.eraseIdxIfInBounds (fwd xs y))⟩ s.toks rfl H1 x1 .none
  rw [← q.heap] at this; exact this
theorem Ca.remove (h3:3 ≤ n):Ca G hn n (.builtin "list.remove") (one2 fRemove):=Ca.two (Op2.remove h3)
end
end Mine
end
section
open PySem PySem.W PyProof.Rows PySem.Calls
set_option maxRecDepth 100000
set_option maxHeartbeats 4000000
namespace Mine
local macro_rules | `(tactic| kpt_len) => `(tactic| exact (show _ ≤ 1000000 by omega))
theorem modA (a b:PySem.Str) (ta tb t:Tok) (r:Addr) (ha:a.length ≤ 100000) (hb:b.length ≤ 100000):Meets (Builtin.«str.__mod__» ⟨[.str ⟨#[37,115,58,32,37,115]⟩ t,.ref r],[]⟩)
    (fun _ R s=>IsTup s.heap r #[.str a ta,.str b tb]∧∀ t' k,R (.ok (.ret (.str (a ++ ⟨#[58,32]⟩ ++ b) t'))) { s with toks:=k }):=by
  kpt_run
end Mine
end
section
open PySem PySem.W PyProof.Rows PySem.Calls
set_option maxRecDepth 100000
namespace Mine
section
variable {G:Amb} {hn:Bool} {n:Nat} {Z:Scope}
/-- a row of two texts -/
noncomputable def dTwo:D→Option (PySem.Str × PySem.Str)
  | .tup [.str a,.str b]=>some (a,b)
  | _=>none
theorem dTwo_eq {d:D} {p:PySem.Str × PySem.Str} (h:dTwo d=some p):d = .tup [.str p.1,.str p.2]:=by
  cases d with
  | tup ds =>
    cases ds with
    | nil=>exact nnS h
    | cons x ds =>
      cases ds with
      | nil=>cases x <;> exact nnS h
      | cons y ds =>
        cases ds with
        | nil=>cases x <;> first | exact nnS h | (cases y <;> first | exact nnS h | ((have q:=s1E h); subst q; rfl))
        | cons z ds=>cases x <;> first | exact nnS h | (cases y <;> exact nnS h)
  | _=>exact nnS h
noncomputable def Fmt (F:PySem.Str) (T:PySem.Str→PySem.Str→PySem.Str):Prop:=∀ (a b:PySem.Str) (ta tb t:Tok) (r:Addr),a.length ≤ 100000→b.length ≤ 100000→Meets (Builtin.«str.__mod__» ⟨[.str F t,.ref r],[]⟩)
    (fun _ R s=>IsTup s.heap r #[.str a ta,.str b tb]∧∀ t' k,R (.ok (.ret (.str (T a b) t'))) { s with toks:=k })
theorem fmtA:Fmt ⟨#[37,115,58,32,37,115]⟩ fun a b=>a ++ ⟨#[58,32]⟩ ++ b:=modA
noncomputable def fFmt2 (F:PySem.Str) (T:PySem.Str→PySem.Str→PySem.Str):F2:=fun a b σ=>(dStr a).bind fun f=>(dTwo b).bind fun p =>
  if f=F∧p.1.length ≤ 100000∧p.2.length ≤ 100000∧(T p.1 p.2).length ≤ sizeLine then some (.val (.str (T p.1 p.2)),σ) else none
theorem Op2.fmt {F:PySem.Str} {T:PySem.Str→PySem.Str→PySem.Str} (h:Fmt F T):Op2 G hn n (binaryOp .Mod) (fFmt2 F T):=by
  intro c S s va vb da db out σ' q ra rb hm
  refine xEA (Option.bind_eq_some_iff.mp hm) fun f hf hm=>?_
  refine xEA (Option.bind_eq_some_iff.mp hm) fun p hp hm=>?_
  refine xA (ite_inv hm) fun hz hm=>?_
  refine Tr.cast hm ?_
  rw [dStr_eq hf,hz.1] at ra
  rw [dTwo_eq hp] at rb
  clear hm hf hp
  refine xEA ra.i_str fun t ev hfl=>?_
  subst ev
  refine xEEEEAAAAAA rb.i_tup fun a o vs nn ev h1 h2 h3 _ _ h6=>?_
  subst ev
  refine xEEAA h6.i_two fun v w ev r1 r2=>?_
  refine xEA r1.i_str fun ta ev1 _=>?_
  refine xEA r2.i_str fun tb ev2 _=>?_
  subst ev1
  subst ev2
  have ev':vs = #[.str p.1 ta,.str p.2 tb]:=by
    rw [← Array.toArray_toList (xs:=vs),ev]
  subst ev'
  have hT:s.TypeIs (.ref a) "tuple" := ⟨o,by rw [q.heap]; exact h1,h2⟩
  refine Tr.weak q.tok fun Q E hq hx=>?_
  refine KPt.bin_left (T := "str") (U := "tuple") (op:=.Mod) (by decide) (typeIs_str s F t) hT PySem.F.fills_str_mod KPt.fills_tuple PySem.F.slot_str_mod
    (call_meets PySem.F.slot_str_mod (typeIs_str s F t) PySem.F.entry_str_mod (PySem.F.args_str_mod_2 _ _) (h p.1 p.2 ta tb t a hz.2.1 hz.2.2.1) ⟨⟨o,by rw [q.heap]; exact h1,h2,nn,h3⟩,fun t' k=>⟨(fun e=>nomatch e),?_⟩⟩)
  have:=hq _ rfl (.str (T p.1 p.2) t') S k rfl q.H (Ext.refl c S) (.str _ _ hz.2.2.2)
  rw [← q.heap] at this
  exact this
end
end Mine
end
section
open PySem PySem.W PyProof.Rows PySem.Calls
set_option maxRecDepth 100000
namespace Mine
section
variable {G:Amb} {hn:Bool} {n:Nat} {Z:Scope}
theorem VRs.i_three {P:Params} {adr:Adr} {V:List Addr} {h:Heap} {vs:List Value} {d e f:D} (r:VRs P adr V h vs [d,e,f]):∃ u v w,vs=[u,v,w]∧VR P adr V h u d∧VR P adr V h v e∧VR P adr V h w f:=by
  refine xEEAA r.i_cons fun u us q1 r1 rs=>?_
  refine xEEAA (VRs.i_two rs) fun v w q2 r2 r3=>?_
  subst q2
  exact ⟨u,v,w,q1,r1,r2,r3⟩
/-- three names at once, their stores swapped -/
noncomputable def Mf.swap3 (x y z:PySem.Str) (d:D):Mf Unit:=match d with
  | .tup [a,b,e]=>Mf.bind (Mf.set z e) fun _=>Mf.bind (Mf.set y b) fun _=>Mf.set x a
  | _=>fun _ _=>none
theorem ev_swap3 {x y z:PySem.Str} {a b e:D} {fr:Fr} {σ:List AO} : Mf.swap3 x y z (.tup [a,b,e]) fr σ=some (.val (),upd (upd (upd fr z e) y b) x a,σ):=rfl
theorem Ex.swap3 {value:Expr} {k:Nat} {p1 p2 p3 pt pos:Pos} {x y z:PySem.Str} {m:Mo D} (h:Ev G true n Z value m) (hx:NameK Z x) (hy:NameK Z y) (hz:NameK Z z)
    (hst:∀ env,env.scope=Z→swapsWithSole [.Tuple [.Name x p1,.Name y p2,.Name z p3] k pt] value pos.line env=Pure.pure false∧swappedStores [.Tuple [.Name x p1,.Name y p2,.Name z p3] k pt] value env=Pure.pure (some [x,y,z])) :
    Ex G true n Z (.Assign [.Tuple [.Name x p1,.Name y p2,.Name z p3] k pt] value pos) (Mf.bind (Mf.lift m) fun d=>Mf.bind (Mf.swap3 x y z d) fun _=>Mf.pure .next):=by
  intro c env fr S s out fr' σ' q hf hl hm
  (refine xA (hst env q.scope) fun e2 e3=>?_)
  rw [exec_Assign_arm,e2,e3]
  show TrF G c env S s (RF G c) (do
    PySem.standAt pos
    let v ← eval value env
    (do
      PySem.rule "assign.swapped-stores"
      let items ← unpackItems v 3 none
      assignInOrder [bindName env z,bindName env y,bindName env x] items.reverse
      Pure.pure Flow.next)) out fr' σ'
  refine TrF.standAt (TrF.bindE q hm (fun o1 σ1 e1=>h c env fr S s o1 σ1 q e1) fun d a S1 tk q1 x1 r1 e2=>?_)
  unfold Mf.swap3 at e2
  split at e2
  rotate_left
  · exact nnS e2
  rename_i d1 d2 d3
  refine TrF.cast e2 ?_
  refine TrF.rule ?_
  intro Q E hq hx'
  refine xEEEEAAAAAA (VR.i_tup r1) fun a o vs nn ev ho hc hd _ _ hr=>?_
  subst ev
  refine xE (VRs.i_three hr) fun v1 q0=>?_
  refine xE q0 fun v2 q0=>?_
  refine xE q0 fun v3 q0=>?_
  refine xA q0 fun e q0=>?_
  refine xA q0 fun r10 q0=>?_
  refine xA q0 fun r20 r30=>?_
  clear r1 hr
  · have hsz:vs.size=3:=by rw [← Array.length_toList,e]; rfl
    have ht:((ShT s S1.h tk):Shared).heap.IsTuple a vs:=⟨o,ho,hc,nn,hd⟩
    rw [← hsz]
    refine wpAny_bind (wpAny_unpackItems_tuple (q.hand rfl) ht fun h' hk=>?_)
    refine xA (q1.H.grow (h':=h') (ext_fresh hk)) fun H2 x2=>?_
    have q2:Run G true n Z c env fr { S1 with h:=h' } (ShT s h' tk):=q1.step (tk:=tk) H2 x2
    rw [e]
    have r1:Rv G c { S1 with h:=h' } v1 d1:=Rv.ext r10 x2
    have r2:Rv G c { S1 with h:=h' } v2 d2:=Rv.ext r20 x2
    have r3:Rv G c { S1 with h:=h' } v3 d3:=Rv.ext r30 x2
    show wpAny _ _ (do
      (do PySem.holding [v2,v1] (bindName env z v3); (do PySem.holding [v1] (bindName env y v2); (do PySem.holding [] (bindName env x v1); assignInOrder [] [])))
      Pure.pure Flow.next) Q E _
    refine wpAny_bind (wpAny_bind (wpAny_holding (trBind q2 hz r3 _ _ (fun b hb u S3 tk3 e3 H3 x3 V3 _=>?_) fun _ _ ho=>by exact nVE ho)))
    have q3:=q2.stepS (tk:=tk3) H3 V3
    have r2':=Rv.extS r2 x3 q2.V.ownIn
    have r1':=Rv.extS r1 x3 q2.V.ownIn
    refine wpAny_bind (wpAny_holding (trBind q3 hy r2' _ _ (fun b hb u S4 tk4 e4 H4 x4 V4 _=>?_) fun _ _ ho=>by exact nVE ho))
    have q4:=q3.stepS (tk:=tk4) H4 V4
    refine wpAny_bind (wpAny_holding (trBind q4 hx (Rv.extS r1' x4 q3.V.ownIn) _ _ (fun b hb u S5 tk5 e5 H5 x5 V5 _=>?_) fun _ _ ho=>by exact nVE ho))
    refine wpAny_pure (wpAny_pure (hq _ rfl .next S5 tk5 ?_ H5 ((((x2.s env).trans x3).trans x4).trans x5) V5 trivial))
    rw [e5,e4,e3]
end
end Mine
end
section
open PySem PySem.W PyProof.Rows PySem.Calls
set_option maxRecDepth 100000
namespace Mine
section
variable {G:Amb} {hn:Bool} {n:Nat} {Z:Scope}
/-- all of a stored list by a frozen one -/
noncomputable def Mf.slcF (mo:Mo D) (d:D):Mf Unit:=Mf.bind (Mf.lift mo) fun a fr σ=>(dRef a).bind fun k=>(dLst d).bind fun es=>(atL σ k).bind fun ds =>
  if ds.length + es.length ≤ sizeLine then some (.val (),fr,σ.set k (.lst es)) else none
theorem As.slcF {o:Expr} {ps pos:Pos} {mo:Mo D} (ho:Ev G hn n Z o mo):As G hn n Z (.Subscript o (.Slice none none none ps) pos) (Mf.slcF mo):=by
  intro c env fr S s v d out fr' σ' q r hm
  rw [arm_assign_Subscript]
  refine TrF.bindE q hm (fun o1 σ1 e1=>(ho c env fr S s o1 σ1 q e1).holding) fun da ov S1 tk q1 x1 ra hm=>?_
  refine xEA (Option.bind_eq_some_iff.mp hm) fun k hk hm=>?_
  refine xEA (Option.bind_eq_some_iff.mp hm) fun es hj hm=>?_
  refine xEA (Option.bind_eq_some_iff.mp hm) fun ds hds hm=>?_
  refine xA (ite_inv hm) fun hz hm=>?_
  have rb:=r.ext x1
  rw [dRef_eq hk] at ra
  rw [dLst_eq hj] at rb
  have hds:=atL_ok hds
  refine TrF.cast hm ?_
  clear hm hk hj
  refine xEEEAAAA (q1.H.lstX ra hds) fun p m vs ev hp ho1 hzl hr=>?_
  refine xEEEEAAAAAA rb.i_lst fun a2 ob vs2 m2 ev2 ho2 hc2 hd2 hz2 hnot hr2=>?_
  subst ev
  subst ev2
  have l1:=VRs.le hr
  have l2:=VRs.le hr2
  have hne:p.1 ≠ a2:=fun e=>hnot (List.mem_append_left _ (e ▸ reg_mem hp hds p.1 (.head _)))
  intro Q E hqq hx
  rw [arm_eval_Slice]
  refine wpAny_bind (wpAny_holding (wpAny_bind ?_))
  show wpAny _ _ (Pure.pure Value.none) _ _ _
  refine wpAny_pure (wpAny_bind (wpAny_holding ?_))
  show wpAny _ _ (Pure.pure Value.none) _ _ _
  refine wpAny_pure (wpAny_bind (wpAny_holding ?_))
  show wpAny _ _ (Pure.pure Value.none) _ _ _
  refine wpAny_pure (wpAny_newObj_type ?_)
  refine xA (q1.H.push { cls:=.type "slice", data:=.fields #[.none,.none,.none] }) fun H5 x5=>?_
  refine wpAny_bind (wpAny_standAt (wpAny_bind (wpAny_holding ?_)))
  have o5:=Heap.get?_push_of_some { cls:=.type "slice", data:=.fields #[.none,.none,.none] } ho1
  have o6:=Heap.get?_push_of_some { cls:=.type "slice", data:=.fields #[.none,.none,.none] } ho2
  have hsl:(S1.h.push { cls:=.type "slice", data:=.fields #[.none,.none,.none] }).IsSliceOf S1.h.objs.size .none .none .none:=.new ..
  refine setItem_all hne o5 hsl o6 hc2 hd2 hzl hz2 (by rw [l1,l2]; exact hz) ?_
  have hs':Heap.SameBut p.1 (S1.h.push { cls:=.type "slice", data:=.fields #[.none,.none,.none] }) ((S1.h.push { cls:=.type "slice", data:=.fields #[.none,.none,.none] }).update p.1 (Obj.mapSeq fun _=>vs2)):=Heap.SameBut.update ..
  refine xA (H5.setLst (ds':=es) hp hds hs' (PySem.IsL.update o5 fun _=>vs2) hz2 ((show Rvs G c S1 vs2.toList es from hr2).ext x5)) fun H1 x6=>?_
  have x7:Ext c S1 ⟨S1.adr,S1.σ.set k (.lst es),(S1.h.push { cls:=.type "slice", data:=.fields #[.none,.none,.none] }).update p.1 (Obj.mapSeq fun _=>vs2)⟩:=x5.trans x6
  exact wpAny_release (hqq () rfl () ⟨S1.adr,S1.σ.set k (.lst es),_⟩ tk rfl H1 (x7.s env) (x7.env q1.H q1.V) trivial)
end
end Mine
end
section
open PySem PySem.W PyProof.Rows PySem.Calls
set_option maxRecDepth 100000
namespace Mine
section
variable {G:Amb} {hn:Bool} {n:Nat} {Z:Scope} {c:Cx} {S:Gs} {s:Shared}
noncomputable def numd (ds:List D):List D:=ds.zipIdx.map fun p=>.tup [.int p.2,p.1]
theorem numd_at {ds:List D} {i:Nat} {d:D} (h:(numd ds)[i]? = some d):∃ x,ds[i]? = some x∧d = .tup [.int i,x]:=by
  unfold numd at h
  rw [List.getElem?_map] at h
  refine xEA (Option.map_eq_some_iff.mp h) fun p hp e=>?_
  rw [List.getElem?_zipIdx] at hp
  refine xEA (Option.map_eq_some_iff.mp hp) fun x hx e2=>?_
  subst e2
  exact ⟨x,hx,by rw [← e]; simp⟩
theorem numd_len {ds:List D} : (numd ds).length=ds.length:=by simp [numd]
theorem WalkN.enum (hh:c.A.handled=none) {e it l:Addr} (he:e ∈ c.X) (hi:it ∈ c.X) (hne:e ≠ it) {ds:List D} {vs:Array Value} {elts:List Expr} {k:Nat} {pt:Pos} :
    WalkN G c [e,it] e (.Tuple elts k pt) (numd ds) (fun _=>True) (fun i S=>(∃ old,IsEnum S.h e it i old)∧S.h.IsListIter it l i∧S.h.IsList l vs∧l ∉ vol c S∧Rvs G c S vs.toList ds):=by
  have eV:∀ S:Gs,e ∈ vol c S:=fun S=>List.mem_append_right _ (List.mem_append_right _ he)
  have iV:∀ S:Gs,it ∈ vol c S:=fun S=>List.mem_append_right _ (List.mem_append_right _ hi)
  have inV:∀ (S:Gs) b,b ∈ [e,it]→b ∈ vol c S:=fun S b hb=>by
    rcases List.mem_cons.mp hb with rfl | hb
    · exact eV S
    · rcases List.mem_singleton.mp hb with rfl; exact iV S
  refine ⟨fun i S S' h ha hp hv hkeep=>?_,fun i S s dd Q E h H hs hp0 _ hd hQ=>?_,fun S s Q E h H hs hp0 _ hQ=>?_⟩
  · refine xA h fun q0 h=>?_
    refine xE q0 fun old h1=>?_
    refine xAAA h fun h2 h3 h4 h5=>?_
    refine xEA (id h2) fun o2 ho2 hr2=>?_
    refine xEA (id h3) fun o3 ho3 hr3=>?_
    exact ⟨⟨old,hkeep e (.head _) _ h1⟩,⟨o2,hkeep it (.tail _ (.head _)) _ ho2,hr2⟩,⟨o3,hp l _ h4 ho3,hr3⟩,hv.notin ho3 h4,VRs.mono hp ha hv h5⟩
  · refine xA h fun q0 h=>?_
    refine xE q0 fun old h1=>?_
    refine xAAA h fun h2 h3 h4 h5=>?_
    refine xEA (numd_at hd) fun x hx ed=>?_
    subst ed
    refine xEA (VRs.get h5 hx) fun v hvv rv=>?_
    rw [Array.getElem?_toList] at hvv
    rw [← hs] at h1 h2 h3
    refine wpAny_pyNext_enum_item h1 h2 h3 hvv hne fun h' g1 g2 g3 g4 g5=>⟨_,rfl,wpAny_letOwnedTupleGo_enum g1 fun h'' gE gS=>?_⟩
    have hsz:s.heap.objs.size=S.h.objs.size:=by rw [hs]
    rw [hsz] at g3 ⊢
    rw [hs] at g5
    have elt:e < S.h.objs.size:=by rw [hs] at h1; exact Heap.lt_size h1
    have gS':∀ b,b ≠ e→∀ o,h'.get? b=some o→h''.get? b=some o:=fun b hb o e'=>(gS.2 b hb).trans e'
    have keep:∀ b o,b ∉ [e,it]→S.h.get? b=some o→h''.get? b=some o:=fun b o hb e' =>
      gS' b (fun q=>hb (q ▸ .head _)) o (g5 b o (fun q=>hb (q ▸ .head _)) (fun q=>hb (q ▸ .tail _ (.head _))) e')
    have pres:Pres (vol c S) S.h h'':=fun a o hn e'=>keep a o (fun q=>hn (inV S a q)) e'
    refine xEA (id g2) fun o2 ho2 hr2=>?_
    have g2':h''.get? it=some o2:=gS' it (fun q=>hne q.symm) o2 ho2
    refine xEA (id h3) fun o3 ho3 hr3=>?_
    rw [hs] at ho3
    refine hQ (.ref S.h.objs.size) h'' ⟨s.toks + 1,Nat.le_succ_of_le hp0⟩ keep (fun b hb=>?_) ⟨⟨_,gE⟩,⟨o2,g2',hr2⟩,⟨o3,pres l _ h4 ho3,hr3⟩,h4,VRs.mono pres (.refl _) (.of_sub _ fun _ q=>q) h5⟩ ?_
    · rcases List.mem_cons.mp hb with rfl | hb
      · exact ⟨_,gE⟩
      · rcases List.mem_singleton.mp hb with rfl; exact ⟨_,g2'⟩
    · refine .tup (o:={ cls:=.type "tuple", data:=.seq #[.int i s.toks,v] }) (gS' _ (Nat.ne_of_gt elt) _ g3) rfl rfl (by show 2 ≤ sizeLine; decide) H.size_notin (.cons (.int _ _) (.cons ?_ .nil))
      exact VR.mono pres (.refl _) (.of_sub _ fun _ q=>q) rv
  · refine xA h fun q0 h=>?_
    refine xE q0 fun old h1=>?_
    refine xAAA h fun h2 h3 h4 h5=>?_
    have hl:=VRs.le h5
    rw [← hs] at h1 h2 h3
    refine wpAny_pyNext_enum_end hh h1 h2 h3 (by rw [numd_len,← hl]; simp) fun h' hb=>hQ h' ⟨s.toks,hp0⟩ fun b o hbi e'=>?_
    rw [hs] at hb
    exact hb b o (fun q=>hbi (by rw [q]; exact .tail _ (.head _))) e'
end
end Mine
end
section
open PySem PySem.W PyProof.Rows PySem.Calls
set_option maxRecDepth 100000
namespace Mine
section
variable {G:Amb} {hn:Bool} {n:Nat} {Z:Scope} {c:Cx} {S:Gs} {s:Shared}
/-- a call whose answer is told by any relation -/
theorem trCallR {β:Type} {R:Gs→Value→β→Prop} {pos:Pos} {f:Value} {mf:List D→List (PySem.Str × D)→List AO→Option (Out β × List AO)} {es:List Expr} {ks:List Keyword} {ms:List (Mo D)} {mk:List (PySem.Str × Mo D)} (h:EvL G hn n Z es ms) (hs:es.all notStar=true) (hk:EvK G hn n Z ks mk)
    (hf:∀ h,G.K.In h→Looks G.M h (keeperOf f) .machine) {env:Env} {fr:Fr} {out:Out β} {σ':List AO} (q:Run G hn n Z c env fr S s)
    (hc:∀ S1 (tk:Tk G.lo) vs ds kw kd,Ho G hn n c S1 (ShT s S1.h tk)→Ext c S S1→Rvs G c S1 vs ds→Rbs G c S1 kw kd→mf ds kd S1.σ=some (out,σ')→Tr G c S1 (ShT s S1.h tk) R (call f vs kw) out σ')
    (hm:Mo.bind (Mo.args ms mk) (fun a _ σ=>mf a.1 a.2 σ) fr S.σ=some (out,σ')) :
    Tr G c S s R (callWith pos f [] (backTo pos (starEach es env)) (backToKw pos (keywordEach ks env))) out σ':=by
  unfold callWith
  refine Tr.bindM hm (fun o1 σ1 h1=>Tr.holding (trArgs h hs hk q h1)) fun b a S1 tk H1 x1 ra h2=>?_
  have q1:=q.step (tk:=tk) H1 x1
  refine Tr.standAt ?_
  have ht:=hc S1 tk ([] ++ a.pos) b.1 a.kw b.2 q1.ho x1 ra.1 ra.2 h2
  intro Q E hq hx
  have hst:=star_all (pos:=pos) (env:=env) hs
  have hsk:((backTo pos (starEach es env)).any (·.1) || (backToKw pos (keywordEach ks env)).any (·.1.isNone))=false:=by
    rw [hst,Bool.false_or]
    have:=(kw_names (pos:=pos) (env:=env) hk).2
    rw [List.any_eq_false]
    intro x hx
    have:=List.all_eq_true.mp this x hx
    cases hh:x.1 with
    | none=>rw [hh] at this; exact nFT this
    | some y=>intro q; exact nFT q
  have w:=ht Q E hq hx
  dsimp only
  rw [hsk]
  refine wpAny_bind ((hf S1.h H1.kin).here ?_)
  exact wpAny_bind (wpAny_mono w (fun r s₂ hr=>wpAny_bind (wpAny_holding (wpAny_point (wpAny_pure hr)))) fun _ _ x=>x)
noncomputable def fEnum (ds:List D) (kd:List (PySem.Str × D)) (σ:List AO):Option (Out Src × List AO):=match ds,kd with
  | [.lst xs],[]=>some (.val ⟨numd xs,fun _=>True⟩,σ)
  | _,_=>none
theorem fEnum_inv {ds:List D} {kd:List (PySem.Str × D)} {σ σ':List AO} {out:Out Src} (h:fEnum ds kd σ=some (out,σ')):∃ xs,ds=[.lst xs]∧kd=[]∧out = .val ⟨numd xs,fun _=>True⟩∧σ'=σ:=by
  unfold fEnum at h
  split at h
  · rename_i xs
    exact ⟨xs,rfl,rfl,(s2A h).symm,(s2B h).symm⟩
  · exact nnS h
theorem Itr.enum {x:PySem.Str} {p pos:Pos} {e:Expr} {m:Mo D} {elts:List Expr} {k:Nat} {pt:Pos} (hx:Ev G true n Z (.Name x p) (Mo.pure (.glob (.type "enumerate")))) (h:Ev G true n Z e m) (hs : [e].all notStar=true:=by rfl) :
    Itr G true n Z (.Tuple elts k pt) (.Call (.Name x p) [e] [] pos) (Mo.bind (Mo.args [m] []) fun a _ σ=>fEnum a.1 a.2 σ):=by
  intro c env fr S s out σ' q hm
  have hfs:∀ x',foldedSetIterable (.Call (.Name x p) [e] [] pos) env x'=Pure.pure x':=fun _=>rfl
  simp only [hfs,pure_bind]
  rw [arm_eval_Call_Name',bind_assoc]
  refine Tr.bind (hx c env fr S s _ _ q rfl) (fun b hb a S1 tk e1 H1 x1 r1=>?_) fun _ _ h=>by exact nVE h
  (have k1:=valE hb; clear hb; subst k1)
  have ev:=VR.i_glob r1
  subst ev
  have q1:=q.step (tk:=tk) H1 x1
  have hT:=trCallR (R:=fun S' a y=>RItN G c S (.Tuple elts k pt) S' a y∧∀ (s:Shared) (Q:Value→Shared→Prop) (E:Value→Shared→Prop),s.heap=S'.h→Q a s→wpAny G.M c.A (pyIter a) Q E s) (pos:=pos) (f:=.type "enumerate") (mf:=fEnum) (es:=[e]) (ks:=[]) (ms:=[m]) (mk:=[]) (out:=out) (σ':=σ') ⟨h,trivial⟩ hs trivial (fun _ _=>Looks.of_pure rfl) q1
    (fun S2 tk2 vs ds kw kd q2 x2 hv hkw hm2=>by
      refine xEA (fEnum_inv hm2) fun xs ed ek=>?_
      refine xA ek fun e2 ek=>?_
      refine xA ek fun e3 e4=>?_
      clear hm2 ek hm
      subst ed e2 e3 e4
      refine xEA (VRs.i_one hv) fun v ev r2=>?_
      subst ev
      have ek:=Rbs.i_nil hkw
      subst ek
      refine xEEEEAAAAAA r2.i_lst fun a o vs nn ev g1 g2 g3 _ gn g6=>?_
      subst ev
      refine Tr.of_wp fun Q E hq=>call_enumerate_list ⟨o,g1,g2,nn,g3⟩ fun h' gE gI gz gk=>?_
      have f1:S2.h.get? (S2.h.objs.size + 1)=none:=Heap.get?_none_of_le (Nat.le_succ _)
      have f0:S2.h.get? S2.h.objs.size=none:=Heap.get?_none_of_le (Nat.le_refl _)
      have fresh:∀ b ∈ [S2.h.objs.size + 1,S2.h.objs.size],S2.h.get? b=none:=fun b hb=>by
        rcases List.mem_cons.mp hb with rfl | hb
        · exact f1
        · rcases List.mem_singleton.mp hb with rfl; exact f0
      have fresh0:∀ b ∈ [S2.h.objs.size + 1,S2.h.objs.size],S.h.get? b=none:=fun b hb=>by
        cases e:S.h.get? b with
        | none=>rfl
        | some o=>obtain ⟨o',e'⟩:=(x1.trans x2).live _ o e; rw [fresh b hb] at e'; exact nnS e'
      have gI':=id gI
      refine xEA gI' fun oi hoi _=>?_
      have gE':h'.get? (S2.h.objs.size + 1)=_:=gE
      have gone:∀ b ∈ [S2.h.objs.size + 1,S2.h.objs.size],S2.h.get? b=none∧∃ o,h'.get? b=some o:=fun b hb=>⟨fresh b hb,by
        rcases List.mem_cons.mp hb with rfl | hb
        · exact ⟨_,gE'⟩
        · rcases List.mem_singleton.mp hb with rfl; exact ⟨_,hoi⟩⟩
      refine xA (q2.H.addX (its:=[S2.h.objs.size + 1,S2.h.objs.size]) (h':=h') gk gone) fun H3 x3=>?_
      have hnV:a ∉ vol (c.addX [S2.h.objs.size + 1,S2.h.objs.size]) { S2 with h:=h' }:=fun hm=>by
        rcases vol_addX.mp hm with z | z
        · rw [fresh a z] at g1; exact nnS g1
        · exact gn z
      refine hq (.ref (S2.h.objs.size + 1)) { S2 with h:=h' } _ rfl H3.dropX x3 ⟨⟨S2.h.objs.size + 1,[S2.h.objs.size + 1,S2.h.objs.size],_,rfl,fresh0,H3,?_,WalkN.enum (c:=c.addX [S2.h.objs.size + 1,S2.h.objs.size]) (it:=S2.h.objs.size) (l:=a) (vs:=vs) (q.hand rfl) (List.mem_append_left _ (.head _)) (List.mem_append_left _ (.tail _ (.head _))) (Nat.succ_ne_self _)⟩,fun s Q E hs hQ=>wpAny_pyIter_enum (by rw [hs]; exact gE') hQ⟩
      exact ⟨⟨.none,gE'⟩,gI,⟨o,gk _ _ g1,g2,nn,g3⟩,hnV,VRs.mono (fun b o hn e=>gk b o e) (.refl _) (fun b hb=>(vol_addX.mp hb).elim (fun z=>.inr (fresh b z)) fun z=>.inl z) g6⟩) (by rw [e1]; exact hm)
  intro Q E hq hx'
  refine wpAny_bind (hT _ E (fun b hb a S3 tk3 e3 H3 x3 r3=>?_) hx')
  exact wpAny_bind (wpAny_standAt (wpAny_holding (r3.2 _ _ _ rfl (hq b hb a S3 tk3 e3 H3 x3 r3.1))))
end
end Mine
end
section
open PySem PySem.W PyProof.Rows PySem.Calls
set_option maxRecDepth 100000
namespace Mine
/-! steps that no program takes: a store's list is let go (frz), a call that sees nothing of the store (alone), a call whose own objects are forgotten (drop) -/
section
variable (p:Nat→Prop)
/-- all of a value's references are such -/
noncomputable def D.refs (d:D):Prop:=D.rec (motive_1:=fun _=>Prop) (motive_2:=fun _=>Prop) (motive_3:=fun _=>Prop) (motive_4:=fun _=>Prop) True (fun _=>True) (fun _=>True) (fun _=>True) (fun _ h=>h) (fun _ h=>h) (fun _ h=>h) p (fun _=>True) (fun _ _=>True) (fun _ _=>True) True (fun _ _ h k=>h∧k) True (fun _ _ h k=>h∧k) (fun _ _ h=>h) d
noncomputable def refsL (d:List D):Prop:=D.rec_1 (motive_1:=fun _=>Prop) (motive_2:=fun _=>Prop) (motive_3:=fun _=>Prop) (motive_4:=fun _=>Prop) True (fun _=>True) (fun _=>True) (fun _=>True) (fun _ h=>h) (fun _ h=>h) (fun _ h=>h) p (fun _=>True) (fun _ _=>True) (fun _ _=>True) True (fun _ _ h k=>h∧k) True (fun _ _ h k=>h∧k) (fun _ _ h=>h) d
noncomputable def refsE (d:List (PySem.Str × D)):Prop:=D.rec_2 (motive_1:=fun _=>Prop) (motive_2:=fun _=>Prop) (motive_3:=fun _=>Prop) (motive_4:=fun _=>Prop) True (fun _=>True) (fun _=>True) (fun _=>True) (fun _ h=>h) (fun _ h=>h) (fun _ h=>h) p (fun _=>True) (fun _ _=>True) (fun _ _=>True) True (fun _ _ h k=>h∧k) True (fun _ _ h k=>h∧k) (fun _ _ h=>h) d
end
noncomputable def noRef:Nat→Prop:=fun _=>False
theorem refsL_of {p:Nat→Prop} : ∀ {ds:List D},(∀ d ∈ ds,d.refs p)→refsL p ds
  | [],_=>trivial
  | _ :: _,h=>⟨h _ (.head _),refsL_of fun d hd=>h d (.tail _ hd)⟩
section
variable {P:Params} {adr adr':Adr} {V V':List Addr} {h:Heap} {p:Nat→Prop}
section
variable (hv:∀ a,a ∈ V'→a ∈ V) (ha:∀ (n:Nat) q,p n→adr[n]? = some q→adr'[n]? = some q)
include hv ha
theorem VR.trim {v:Value} {d:D} (r:VR P adr V h v d):d.refs p→VR P adr' V' h v d :=
  VR.rec (motive_1:=fun v d _=>d.refs p→VR P adr' V' h v d) (motive_2:=fun vs ds _=>refsL p ds→VRs P adr' V' h vs ds) (motive_3:=fun es ds _=>refsE p ds→VRe P adr' V' h es ds)
    (fun _=>.none) (fun b _=>.bool b) (fun i t _=>.int i t) (fun x t hx _=>.str x t hx) (fun e c d z n _ r k=>.tup e c d z (fun q=>n (hv _ q)) (r k)) (fun e c d z n _ r k=>.lst e c d z (fun q=>n (hv _ q)) (r k)) (fun b e q n _ r k=>.dct b e q (fun q=>n (hv _ q)) (r k)) (fun e k=>.ref (ha _ _ k e)) (fun v _=>.glob v)
    (fun e c d k ht n1 n2 _=>.exc e c d k ht (fun q=>n1 (hv _ q)) (fun q=>n2 (hv _ q))) (fun e n _=>.rng e (fun q=>n (hv _ q)))
    (fun _=>.nil) (fun _ _ e r k=>.cons (e k.1) (r k.2)) (fun _=>.nil) (fun e k _ _ v r j=>.cons e k (v j.1) (r j.2)) r
theorem VRs.trim {v:List Value} {d:List D} (r:VRs P adr V h v d):refsL p d→VRs P adr' V' h v d :=
  VRs.rec (motive_1:=fun v d _=>d.refs p→VR P adr' V' h v d) (motive_2:=fun vs ds _=>refsL p ds→VRs P adr' V' h vs ds) (motive_3:=fun es ds _=>refsE p ds→VRe P adr' V' h es ds)
    (fun _=>.none) (fun b _=>.bool b) (fun i t _=>.int i t) (fun x t hx _=>.str x t hx) (fun e c d z n _ r k=>.tup e c d z (fun q=>n (hv _ q)) (r k)) (fun e c d z n _ r k=>.lst e c d z (fun q=>n (hv _ q)) (r k)) (fun b e q n _ r k=>.dct b e q (fun q=>n (hv _ q)) (r k)) (fun e k=>.ref (ha _ _ k e)) (fun v _=>.glob v)
    (fun e c d k ht n1 n2 _=>.exc e c d k ht (fun q=>n1 (hv _ q)) (fun q=>n2 (hv _ q))) (fun e n _=>.rng e (fun q=>n (hv _ q)))
    (fun _=>.nil) (fun _ _ e r k=>.cons (e k.1) (r k.2)) (fun _=>.nil) (fun e k _ _ v r j=>.cons e k (v j.1) (r j.2)) r
end
end
section
variable {G:Amb} {hn:Bool} {n:Nat} {Z:Scope} {c:Cx} {S:Gs} {s:Shared}
noncomputable def Mo.frz (m:Mo D):Mo D:=Mo.bind m fun d _ σ=>(dRef d).bind fun k=>(atL σ k).map fun ds=>(.val (.lst ds),σ.set k .dead)
theorem Ev.frz {e:Expr} {m:Mo D} (h:Ev G hn n Z e m):Ev G hn n Z e (Mo.frz m):=by
  intro c env fr S s out σ' q hm
  unfold Mo.frz Mo.bind at hm
  cases hq:m fr S.σ with
  | none=>rw [hq] at hm; exact nnS hm
  | some pr =>
    obtain ⟨o,σ1⟩:=pr
    rw [hq] at hm
    cases o with
    | exc X msg=>exact Tr.cast hm (h c env fr S s _ _ q hq)
    | val d =>
      refine xEA (Option.bind_eq_some_iff.mp hm) fun k hk hm=>?_
      refine xEA (Option.map_eq_some_iff.mp hm) fun ds hds hm=>?_
      refine Tr.cast (congrArg some hm) ?_
      intro Q E hqq _
      refine (h c env fr S s _ _ q hq).onVal fun a S' tk e1 H1 x1 r1=>?_
      rw [dRef_eq hk] at r1
      subst e1
      refine xAA (H1.freeze r1 (atL_ok hds)) fun H2 x2 r2=>?_
      exact hqq _ rfl a ⟨S'.adr,S'.σ.set k .dead,S'.h⟩ tk rfl H2 (x1.trans x2) r2
/-- ahead of a suite: a name's list is let go -/
noncomputable def Mf.frz (x:PySem.Str) (m:Mf SF):Mf SF:=fun fr σ=>((fr x).bind dRef).bind fun k=>(atL σ k).bind fun ds=>m (upd fr x (.lst ds)) (σ.set k .dead)
theorem Exs.frz {b:List Stmt} {m:Mf SF} (x:PySem.Str) (h:Exs G hn n Z b m):Exs G hn n Z b (Mf.frz x m):=by
  intro c env fr S s out fr' σ' q hf hl hm
  refine xEA (Option.bind_eq_some_iff.mp hm) fun k hk hm=>?_
  refine xEA (Option.bind_eq_some_iff.mp hm) fun ds hds hm=>?_
  refine xEA (Option.bind_eq_some_iff.mp hk) fun d hd hk=>?_
  have e1:=dRef_eq hk
  subst e1
  have hs:=atL_ok hds
  have hlt:k < S.adr.length:=by rw [q.H.len]; exact (List.getElem?_eq_some_iff.mp hs).1
  refine xAA (q.H.freeze (.ref (List.getElem?_eq_getElem hlt)) hs) fun H1 x1 _=>?_
  have V1:EnvOk G c env (upd fr x (.lst ds)) ⟨S.adr,S.σ.set k .dead,S.h⟩:=by
    have V0:=x1.env q.H q.V
    have go:∀ y d v,upd fr x (.lst ds) y=some d→(∀ d,fr y=some d→Rv G c S v d)→Rv G c ⟨S.adr,S.σ.set k .dead,S.h⟩ v d:=fun y d v e r=>by
      by_cases e':y=x
      · subst e'
        rw [upd_self] at e
        rw [← s1E e]
        exact (q.H.freeze (r _ hd) hs).2.2
      · rw [upd_ne e'] at e
        exact (r _ e).ext x1
    have some':∀ y d,upd fr x (.lst ds) y=some d→∃ d,fr y=some d:=fun y d e=>by
      by_cases e':y=x
      · subst e'; exact ⟨_,hd⟩
      · rw [upd_ne e'] at e; exact ⟨_,e⟩
    refine ⟨V0.kind,V0.glob,V0.blt,V0.frame,V0.loc,?_,fun y hy=>?_,V0.own,V0.apart⟩
    · refine xEA q.V.vars fun m hns hv=>?_
      refine ⟨m,hns,fun y d hy hky=>?_⟩
      refine xE (some' y d hy) fun d0 e0=>?_
      refine xEA (hv y d0 e0 hky) fun v hmv _=>?_
      exact ⟨v,hmv,go y d v hy fun d e=>by refine xEA (hv y d e hky) fun w hw r=>?_; rw [hmv] at hw; rw [s1E hw]; exact r⟩
    · refine xEEAA (q.V.cell y hy) fun a v0 hl hc hv=>?_
      refine ⟨a,v0,hl,hc,fun d hyd=>?_⟩
      refine xE (some' y d hyd) fun d0 e0=>?_
      refine xEA (hv d0 e0) fun v hmv _=>?_
      exact ⟨v,hmv,go y d v hyd fun d e=>by refine xEA (hv d e) fun w hw r=>?_; rw [hmv] at hw; rw [s1E hw]; exact r⟩
  intro Q E hq hx
  refine h c env _ ⟨S.adr,S.σ.set k .dead,S.h⟩ s out fr' σ' ⟨q.scope,q.room,q.units,q.hand,q.heap,q.tok,H1,V1⟩ hf hl hm Q E (fun b hb a S' tk e H x V r=>hq b hb a S' tk e H ((x1.s env).trans x) V r) fun X msg ho S' e h' tk e' H x V th=>hx X msg ho S' e h' tk e' H ((x1.s env).trans x) V th
end
end Mine
end
section
open PySem PySem.W PyProof.Rows PySem.Calls
set_option maxRecDepth 100000
namespace Mine
section
variable {G:Amb} {hn:Bool} {n:Nat} {c:Cx} {S:Gs} {s:Shared}
/-- the store out of sight -/
noncomputable def Cx.hide (c:Cx) (l:List Addr):Cx:={ c with X:=l ++ c.X }
theorem vol_hide {S:Gs} {l:List Addr} (a:Addr):a ∈ vol (c.hide l) S ↔ a ∈ S.reg∨a ∈ c.fs∨a ∈ l∨a ∈ c.X:=by
  unfold vol
  rw [List.mem_append,List.mem_append]
  show a ∈ S.reg∨a ∈ c.fs∨a ∈ l ++ c.X ↔ _
  rw [List.mem_append]
theorem vol_mem {S:Gs} (a:Addr):a ∈ vol c S ↔ a ∈ S.reg∨a ∈ c.fs∨a ∈ c.X:=by
  unfold vol
  rw [List.mem_append,List.mem_append]
theorem Heaps.hide (H:Heaps G c S):Heaps G (c.hide S.reg) ⟨[],[],S.h⟩ :=
  ⟨H.ok,H.stays,H.frames,H.funs,fun L hL=>⟨(H.fdict L hL).1,List.not_mem_nil⟩,fun L hL=>(List.mem_append.mp hL).elim (fun q=>⟨H.reg_some q,List.not_mem_nil,H.new L q⟩) fun q=>⟨(H.xs L q).1,List.not_mem_nil,(H.xs L q).2.2⟩,rfl,fun n p o h1 _=>by simp at h1,fun a ha=>absurd ha List.not_mem_nil,.nil⟩
theorem Heaps.show (H:Heaps G c S) {S':Gs} (H':Heaps G (c.hide S.reg) S') (x:Ext (c.hide S.reg) ⟨[],[],S.h⟩ S'):Heaps G c ⟨S.adr,S.σ,S'.h⟩∧Ext c S ⟨S.adr,S.σ,S'.h⟩:=by
  have kp:∀ b o,S.h.get? b=some o→b ∉ c.fs→S'.h.get? b=some o:=fun b o e hb=>(x.keep b o e List.not_mem_nil).elim id fun q=>absurd q.1 hb
  have xx:Ext c S ⟨S.adr,S.σ,S'.h⟩:=⟨.refl _,fun b o e _=>x.keep b o e List.not_mem_nil,fun a ha=>.inl ha,x.live⟩
  refine ⟨⟨H.ok,H'.stays,H'.frames,H'.funs,fun L hL=>⟨(H'.fdict L hL).1,(H.fdict L hL).2⟩,fun L hL=>⟨(H'.xs L (List.mem_append_right _ hL)).1,(H.xs L hL).2⟩,H.len,fun n p o h1 h2=>?_,H.new,H.nodup⟩,xx⟩
  exact ORep.mono xx.pres xx.adr xx.volLe (fun a ha o e=>kp a o e fun q=>(H.fdict a q).2 (reg_mem h1 h2 a ha)) (H.store n p o h1 h2)
theorem Fn.alone {f:Addr} {mf spec:Fm} (h:Fn G hn n f mf) (k:∀ ds kd σ r,spec ds kd σ=some r→∃ d τ,r=(.val d,σ)∧kd=[]∧refsL noRef ds∧d.refs noRef∧mf ds [] []=some (.val d,τ)):Fn G hn n f spec:=by
  intro c S s vs ds kw kd out σ' q hv hk hm
  refine xEE (k _ _ _ _ hm) fun d τ e=>?_
  refine xA e fun e1 e=>?_
  refine xA e fun e2 e=>?_
  refine xAA e fun e3 e4 e5=>?_
  have k1:=p2A e1
  have k2:=p2B e1
  subst k1 k2 e2
  have hkw:kw=[]:=by
    cases kw with
    | nil=>rfl
    | cons p t=>exact hk.elim
  subst hkw
  have hv0:Rvs G (c.hide S.reg) ⟨[],[],S.h⟩ vs ds:=VRs.trim (fun a ha=>(vol_mem a).mpr ((vol_hide a).mp ha |>.elim (fun q=>absurd q List.not_mem_nil) fun q=>q.elim (fun q=>.inr (.inl q)) fun q=>q.elim .inl fun q=>.inr (.inr q))) (fun _ _ q=>q.elim) hv e3
  intro Q E hq hx
  refine h (c.hide S.reg) ⟨[],[],S.h⟩ s vs ds [] [] _ τ ⟨q.room,q.units,q.hand,q.heap,q.tok,q.H.hide⟩ hv0 trivial e5 Q E (fun b hb a S' tk e H x r=>?_) fun X msg ho=>by exact nVE ho
  have k1:=valE hb
  subst k1
  refine xA (q.H.show H x) fun H2 x2=>?_
  exact hq _ rfl a ⟨S.adr,S.σ,S'.h⟩ tk rfl H2 x2 (VR.trim (p:=noRef) (fun a ha=>(vol_hide a).mpr ((vol_mem a).mp ha |>.elim (fun q=>.inr (.inr (.inl q))) fun q=>q.elim (fun q=>.inr (.inl q)) fun q=>.inr (.inr (.inr q)))) (fun _ _ q=>q.elim) r e4)
theorem reg_take:∀ (adr:Adr) (σ:List AO) (n:Nat),(reg (adr.take n) (σ.take n)).Sublist (reg adr σ)
  | [],_,n=>by rw [List.take_nil]; exact .refl _
  | p :: ps,[],n=>by cases n <;> exact .refl _
  | p :: ps,o :: os,0=>List.nil_sublist _
  | p :: ps,o :: os,n + 1=>.append (.refl _) (reg_take ps os n)
noncomputable def AO.refs (p:Nat→Prop):AO→Prop
  | .lst ds=>refsL p ds
  | .ins _ es=>refsE p es
  | .dead=>True
theorem VRe.trim {P:Params} {adr adr':Adr} {V V':List Addr} {h:Heap} {p:Nat→Prop} (hv:∀ a,a ∈ V'→a ∈ V) (ha:∀ (n:Nat) q,p n→adr[n]? = some q→adr'[n]? = some q) {es:List DictEntry} {d:List (PySem.Str × D)} (r:VRe P adr V h es d):refsE p d→VRe P adr' V' h es d :=
  VRe.ind (C:=fun es d=>refsE p d→VRe P adr' V' h es d) (fun _=>.nil) (fun _ _ _ _ _ _ e k v _ ih j=>.cons e k (VR.trim hv ha v j.1) (ih j.2)) r
theorem ORep.trim {P:Params} {adr adr':Adr} {V V':List Addr} {h:Heap} {p:Nat→Prop} (hv:∀ a,a ∈ V'→a ∈ V) (ha:∀ (n:Nat) q,p n→adr[n]? = some q→adr'[n]? = some q) {b:Addr × Addr} {o:AO} (r:ORep P adr V h b o) (k:o.refs p):ORep P adr' V' h b o:=by
  cases o with
  | dead=>trivial
  | lst ds =>
    refine xEEAA r fun n vs h1 h2 h3=>?_
    exact ⟨n,vs,h1,h2,VRs.trim hv ha h3 k⟩
  | ins C es =>
    refine xAEEA r fun h1 fs n h2 h3=>?_
    exact ⟨h1,fs,n,h2,VRe.trim hv ha h3 k⟩
/-- the references of what lies in the store are of the store -/
theorem VR.within {P:Params} {adr:Adr} {V:List Addr} {h:Heap} {v:Value} {d:D} (r:VR P adr V h v d):d.refs (· < adr.length) :=
  VR.rec (motive_1:=fun v d _=>d.refs (· < adr.length)) (motive_2:=fun vs ds _=>refsL (· < adr.length) ds) (motive_3:=fun es ds _=>refsE (· < adr.length) ds)
    trivial (fun _=>trivial) (fun _ _=>trivial) (fun _ _ _=>trivial) (fun _ _ _ _ _ _ r=>r) (fun _ _ _ _ _ _ r=>r) (fun _ _ _ _ _ r=>r) (fun e=>(List.getElem?_eq_some_iff.mp e).1) (fun _=>trivial)
    (fun _ _ _ _ _ _ _=>trivial) (fun _ _=>trivial)
    trivial (fun _ _ e r=>⟨e,r⟩) trivial (fun _ _ _ _ v r=>⟨v,r⟩) r
theorem VRs.within {P:Params} {adr:Adr} {V:List Addr} {h:Heap} {vs:List Value} {ds:List D} (r:VRs P adr V h vs ds):refsL (· < adr.length) ds :=
  VRs.ind (C:=fun _ ds=>refsL (· < adr.length) ds) trivial (fun _ _ _ _ r _ k=>⟨r.within,k⟩) r
theorem ORep.within {P:Params} {adr:Adr} {V:List Addr} {h:Heap} {b:Addr × Addr} {o:AO} (r:ORep P adr V h b o):o.refs (· < adr.length):=by
  cases o with
  | dead=>trivial
  | lst ds =>
    refine xEEAA r fun n vs h1 h2 h3=>?_
    exact h3.within
  | ins C es =>
    refine xAEEA r fun h1 fs n h2 h3=>?_
    exact VRe.ind (C:=fun _ ds=>refsE (· < adr.length) ds) trivial (fun _ _ _ _ _ _ _ _ r _ k=>⟨r.within,k⟩) h3
theorem Heaps.drop (H:Heaps G c S) {S':Gs} (H':Heaps G c S') (x:Ext c S S') (k:∀ (j:Nat) (o:AO),(S'.σ.take S.σ.length)[j]? = some o→S.σ[j]? = some o∨o.refs (· < S.σ.length)) :
    Heaps G c ⟨S.adr,S'.σ.take S.σ.length,S'.h⟩∧Ext c S ⟨S.adr,S'.σ.take S.σ.length,S'.h⟩:=by
  have hadr:S'.adr.take S.adr.length=S.adr:=by
    refine List.ext_getElem? fun i=>?_
    by_cases hi:i < S.adr.length
    · rw [List.getElem?_take,if_pos hi,List.getElem?_eq_getElem hi]
      exact x.adr i _ (List.getElem?_eq_getElem hi)
    · rw [List.getElem?_take,if_neg hi,List.getElem?_eq_none (by omega)]
  have hsub:(reg S.adr (S'.σ.take S.σ.length)).Sublist S'.reg:=by
    have:=reg_take S'.adr S'.σ S.adr.length
    rw [hadr,H.len] at this; exact this
  have hle:S.adr.length ≤ S'.adr.length:=by
    have:=congrArg List.length hadr
    rw [List.length_take] at this; omega
  have vs:∀ a,a ∈ vol c ⟨S.adr,S'.σ.take S.σ.length,S'.h⟩→a ∈ vol c S':=fun a ha=>(vol_mem a).mpr ((vol_mem a).mp ha |>.imp_left fun q=>hsub.subset q)
  have ha:∀ (n:Nat) q,n < S.σ.length→S'.adr[n]? = some q→S.adr[n]? = some q:=fun n q hn e=>by
    rw [← H.len] at hn
    rw [← hadr,List.getElem?_take,if_pos hn]; exact e
  refine ⟨⟨H.ok,H'.stays,H'.frames,H'.funs,fun L hL=>⟨(H'.fdict L hL).1,fun q=>(H'.fdict L hL).2 (hsub.subset q)⟩,fun L hL=>⟨(H'.xs L hL).1,fun q=>(H'.xs L hL).2.1 (hsub.subset q),(H'.xs L hL).2.2⟩,?_,fun j q o h1 h2=>?_,fun a ha=>H'.new a (hsub.subset ha),H'.nodup.sublist hsub⟩,.refl _,x.keep,fun a ha=>x.fresh a (hsub.subset ha),x.live⟩
  · rw [List.length_take,← H.len,← H'.len]
    show S.adr.length=_
    omega
  · have h1':S.adr[j]? = some q:=h1
    have h2':(S'.σ.take S.σ.length)[j]? = some o:=h2
    have h3:S'.σ[j]? = some o:=by
      rw [List.getElem?_take] at h2'
      by_cases hj:j < S.σ.length
      · rw [if_pos hj] at h2'; exact h2'
      · rw [if_neg hj] at h2'; exact nnS h2'
    refine ORep.trim vs ha (H'.store j q o (x.adr _ _ h1') h3) ?_
    rcases k j o h2' with e | e
    · rw [← H.len]; exact (H.store j q o h1' e).within
    · exact e
/-- a call's own objects, of which nothing is left, forgotten -/
theorem Fn.drop {f:Addr} {mf spec:Fm} (h:Fn G hn n f mf) (k:∀ ds kd σ r,spec ds kd σ=some r→∃ τ,mf ds kd σ=some (r.1,τ)∧r.2=τ.take σ.length∧(∀ (j:Nat) (o:AO),r.2[j]? = some o→σ[j]? = some o∨o.refs (· < σ.length))∧∀ d,r.1 = .val d→d.refs (· < σ.length)):Fn G hn n f spec:=by
  intro c S s vs ds kw kd out σ' q hv hk hm
  refine xE (k _ _ _ _ hm) fun τ e=>?_
  refine xA e fun e1 e=>?_
  refine xAA e fun e2 e3 e4=>?_
  have e2':σ'=τ.take S.σ.length:=e2
  clear e2
  subst e2'
  intro Q E hq hx
  have go:∀ {S':Gs},S'.σ=τ→Heaps G c S'→Ext c S S'→Heaps G c ⟨S.adr,τ.take S.σ.length,S'.h⟩∧Ext c S ⟨S.adr,τ.take S.σ.length,S'.h⟩:=fun {S'} e H x=>by
    have:=q.H.drop H x (fun j o hj=>e3 j o (by rw [← e]; exact hj))
    rw [e] at this; exact this
  refine h c S s vs ds kw kd out τ q hv hk e1 Q E (fun b hb a S' tk e H x r=>?_) fun X msg ho S' e h' tk e' H x th=>?_
  · refine xA (go e H x) fun H2 x2=>?_
    refine hq b hb a ⟨S.adr,τ.take S.σ.length,S'.h⟩ tk rfl H2 x2 (VR.trim (p:=(· < S.σ.length)) (fun a ha=>?_) (fun j p hj e=>?_) r (e4 b hb))
    · refine (vol_mem a).mpr ((vol_mem a).mp ha |>.imp_left fun q=>?_)
      have:=reg_take S'.adr S'.σ S.adr.length
      have hadr:S'.adr.take S.adr.length=S.adr:=List.ext_getElem? fun i=>by
        by_cases hi:i < S.adr.length
        · rw [List.getElem?_take,if_pos hi,List.getElem?_eq_getElem hi]
          exact x.adr i _ (List.getElem?_eq_getElem hi)
        · rw [List.getElem?_take,if_neg hi,List.getElem?_eq_none (by omega)]
      rw [hadr,‹Ho G hn n c S s›.H.len] at this
      exact this.subset (by rw [e]; exact q)
    · have hj':j < S.adr.length:=by rw [q.H.len]; exact hj
      have:=x.adr j _ (List.getElem?_eq_getElem hj')
      rw [e] at this
      rw [List.getElem?_eq_getElem hj',s1E this]
  · refine xA (go e' H x) fun H2 x2=>?_
    exact hx X msg ho ⟨S.adr,τ.take S.σ.length,S'.h⟩ e h' tk rfl H2 x2 th
end
end Mine
end
section
open PySem PySem.W PyProof.Rows PySem.Calls
set_option maxRecDepth 100000
namespace Mine
/-! behind a statement that mints a token the count of tokens is above naught -/
noncomputable def Mints {α:Type} (t:Sem α):Prop:=∀ M Γ (Q:α→Pos→Shared→Prop) (E:Value→Pos→Shared→Prop) p s,Sem.wp M Γ t Q E p s→Sem.wp M Γ t (fun a p s'=>s.toks + 1 ≤ s'.toks∧Q a p s') (fun e p s'=>s.toks + 1 ≤ s'.toks∧E e p s') p s
theorem Mints.fresh {α:Type} {k:Tok→Sem α} : Mints (.fresh k):=fun M Γ Q E p s h=>by
  rw [Sem.wp_fresh] at h ⊢
  exact wp_toks (k s.toks) (n:=s.toks + 1) (Nat.le_refl _) h
theorem Mints.left {α β:Type} {t:Sem α} {f:α→Sem β} (h:Mints t):Mints (t >>= f):=fun M Γ Q E p s w=>by
  rw [Sem.wp_bind'] at w ⊢
  refine Sem.wp_mono M Γ t (fun a p' s' z=>?_) (fun e p' s' z=>z) p s (h M Γ _ _ p s w)
  exact wp_toks (f a) z.1 z.2
theorem Mints.stand {β:Type} {p':Pos} {f:Unit→Sem β} (h:Mints (f ())):Mints (standAt p' >>= f):=fun M Γ Q E p s w=>by
  have e:∀ (Q:β→Pos→Shared→Prop) E,Sem.wp M Γ (standAt p' >>= f) Q E p s=Sem.wp M Γ (f ()) Q E p' s:=fun Q E=>by
    rw [Sem.wp_bind']
    exact Sem.wp_at ..
  rw [e] at w ⊢
  exact h M Γ Q E p' s w
theorem mints_int {i:Int} : Mints (mkInt i):=Mints.left (t:=PySem.fresh) Mints.fresh
theorem Mints.up {α:Type} {M:Model} {A:Around} {t:Sem α} {Q:α→Shared→Prop} {E:Value→Shared→Prop} {s:Shared} (ht:Mints t) (h:wpAny M A t (fun a s'=>1 ≤ s'.toks→Q a s') (fun e s'=>1 ≤ s'.toks→E e s') s):wpAny M A t Q E s :=
  fun Γ p hΓ=>Sem.wp_mono M Γ t (fun _ _ s' z=>z.2 (Nat.le_trans (Nat.le_add_left 1 s.toks) z.1)) (fun _ _ s' z=>z.2 (Nat.le_trans (Nat.le_add_left 1 s.toks) z.1)) p s (ht M Γ _ _ p s (h Γ p hΓ))
/-- the ambient with one token minted -/
noncomputable def Amb.up (G:Amb):Amb:={ G with lo:=1 }
section
variable {G:Amb} {hn:Bool} {n:Nat} {Z:Scope} {c:Cx} {S:Gs} {s:Shared} {env:Env} {fr:Fr}
theorem Heaps.up (H:Heaps G c S):Heaps G.up c S:=⟨⟨H.ok.inK,H.ok.g,H.ok.b,H.ok.nolimit,H.ok.builtins⟩,H.stays,H.frames,H.funs,H.fdict,H.xs,H.len,H.store,H.new,H.nodup⟩
theorem Heaps.down (H:Heaps G.up c S):Heaps G c S:=⟨⟨H.ok.inK,H.ok.g,H.ok.b,H.ok.nolimit,H.ok.builtins⟩,H.stays,H.frames,H.funs,H.fdict,H.xs,H.len,H.store,H.new,H.nodup⟩
theorem EnvOk.up (V:EnvOk G c env fr S):EnvOk G.up c env fr S:=⟨V.kind,V.glob,V.blt,V.frame,V.loc,V.vars,V.cell,V.own,V.apart⟩
theorem EnvOk.down (V:EnvOk G.up c env fr S):EnvOk G c env fr S:=⟨V.kind,V.glob,V.blt,V.frame,V.loc,V.vars,V.cell,V.own,V.apart⟩
/-- behind a statement that mints: the count of tokens is above naught -/
theorem Exs.switch {st:Stmt} {rest:List Stmt} {m k:Mf SF} (hlo:G.lo=0) (h1:Ex G hn n Z st m) (hm:∀ env,env.scope=Z→Mints (exec st env)) (h2:Exs G.up hn n Z rest k):Exs G hn n Z (st :: rest) (Mf.seq m k):=by
  intro c env fr S s out fr' σ' q hf hl hmm
  have down:∀ {t:Sem Flow} {S:Gs} {s:Shared} {out:Out SF} {fr':Fr} {σ':List AO},TrF G.up c env S s (RF G.up c) t out fr' σ'→TrF G c env S s (RF G c) t out fr' σ':=fun h Q E hq hx =>
    h Q E (fun b hb a S' tk e H x V r=>hq b hb a S' ⟨tk.1,by rw [hlo]; exact Nat.zero_le _⟩ e H.down x V.down r) fun X msg ho S' e h' tk e' H x V th=>hx X msg ho S' e h' ⟨tk.1,by rw [hlo]; exact Nat.zero_le _⟩ e' H.down x V.down th
  have up:∀ {out:Out SF} {fr1:Fr} {σ1:List AO},TrF G c env S s (RF G c) (exec st env) out fr1 σ1→TrF G.up c env S s (RF G.up c) (exec st env) out fr1 σ1:=fun h Q E hq hx =>
    Mints.up (hm env q.scope) (h _ _ (fun b hb a S' tk e H x V r h1=>hq b hb a S' ⟨tk.1,h1⟩ e H.up x V.up r) fun X msg ho S' e h' tk e' H x V th h1=>hx X msg ho S' e h' ⟨tk.1,h1⟩ e' H.up x V.up th)
  rw [execs_cons]
  refine down (TrF.bindM hmm (fun o1 f1 σ1 e1=>up (h1 c env fr S s o1 f1 σ1 q hf hl e1)) fun b fr1 a S1 tk H1 x1 V1 r1 e2=>?_)
  cases a with
  | next=>cases b with
    | next=>exact h2 c env fr1 S1 _ out fr' σ' ⟨q.scope,q.room,q.units,q.hand,rfl,tk.2,H1,V1⟩ hf hl e2
    | _=>exact r1.elim
  | brk=>cases b with
    | brk=>refine TrF.cast e2 ?_; exact TrF.pure (a:=Flow.brk) H1 V1 rfl trivial
    | _=>exact r1.elim
  | cont=>cases b with
    | cont=>refine TrF.cast e2 ?_; exact TrF.pure (a:=Flow.cont) H1 V1 rfl trivial
    | _=>exact r1.elim
  | ret v=>cases b with
    | ret d=>refine TrF.cast e2 ?_; exact TrF.pure (a:=Flow.ret v) H1 V1 rfl r1
    | _=>exact r1.elim
/-- a list display that begins with an int -/
theorem mints_list {i:Int} {kd:Nat} {p1 pos pa:Pos} {t:Expr} {es:List Expr}
    (hst:∀ env,env.scope=Z→(assignEach [t] env).map (·.2)=[assign t env]∧swapsWithSole [t] (.List (.Constant (.int i) kd p1 :: es) pos) pa.line env=pure false∧swappedStores [t] (.List (.Constant (.int i) kd p1 :: es) pos) env=pure none) :
    ∀ env,env.scope=Z→Mints (exec (.Assign [t] (.List (.Constant (.int i) kd p1 :: es) pos) pa) env):=fun env he=>by
  refine xAA (hst env he) fun e1 e2 e3=>?_
  rw [exec_Assign_arm,e1,e2,e3]
  show Mints (do
    PySem.standAt pa
    let v ← eval (.List (.Constant (.int i) kd p1 :: es) pos) env
    (do assign t env v; Pure.pure Flow.next))
  refine Mints.stand (Mints.left ?_)
  show Mints (do standAt pos; newList (← spliced (backTo pos (starEach (.Constant (.int i) kd p1 :: es) env))))
  refine Mints.stand (Mints.left ?_)
  rw [starEach_cons rfl]
  show Mints (do
      let v ← eval (.Constant (.int i) kd p1) env
      return [v] ++ (← PySem.holding [v] (spliced (backTo pos (starEach es env)))))
  exact Mints.left mints_int
end
end Mine
end
section
open PySem PySem.W PyProof.Rows PySem.Calls
set_option maxRecDepth 100000
namespace Mine
/-! a text put together of texts (a format by two `%s` of a written tuple is laid so) -/
noncomputable def catS (acc:PySem.Str) (xs:List PySem.Str):PySem.Str:=xs.foldl (· ++ ·) acc
theorem catS_le (xs:List PySem.Str):∀ acc:PySem.Str,acc.length ≤ (catS acc xs).length:=by
  induction xs with
  | nil=>exact fun _=>Nat.le_refl _
  | cons x r ih=>exact fun acc=>Nat.le_trans (by rw [Str.length_append]; exact Nat.le_add_right _ _) (ih (acc ++ x))
noncomputable def Mo.txt (m:Mo D):Mo D:=Mo.bind m fun d=>Mo.opt ((dStr d).map .str)
noncomputable def Mo.joined (ms:List (Mo D)):Mo D:=fun fr σ=>match Mo.seq ms fr σ with
  | some (.val ds,σ')=>(strsOf ds).bind fun xs=>if (catS Str.empty xs).length ≤ sizeLine then some (.val (.str (catS Str.empty xs)),σ') else none
  | _=>none
section
variable {G:Amb} {hn:Bool} {n:Nat} {Z:Scope}
theorem Ev.fvS {e:Expr} {pos:Pos} {m:Mo D} (h:Ev G hn n Z e m):Ev G hn n Z (.FormattedValue e 115 none pos) (Mo.txt m):=by
  intro c env fr S s out σ' q hm
  unfold Mo.txt Mo.bind at hm
  cases hq:m fr S.σ with
  | none=>rw [hq] at hm; exact nnS hm
  | some pr =>
    obtain ⟨o,σ1⟩:=pr
    rw [hq] at hm
    cases o with
    | exc X msg =>
      intro Q E hqq hx
      refine wpAny_FormattedValue_s ?_
      have k1:=s2A hm
      have k2:=s2B hm
      subst k1 k2
      exact (h c env fr S s _ _ q hq).onExc fun S' e h' tk e1 H x th=>hx X msg rfl S' e h' tk e1 H x th
    | val d =>
      refine xEA (Option.map_eq_some_iff.mp hm) fun d' hd e=>?_
      refine xEA (Option.map_eq_some_iff.mp hd) fun x hx e'=>?_
      subst e'
      refine Tr.cast (congrArg some e) ?_
      have hd:=dStr_eq hx
      subst hd
      refine Tr.weak q.tok fun Q E hqq _=>?_
      refine wpAny_FormattedValue_s ((h c env fr S s _ _ q hq).onVal fun a S' tk e1 H1 x1 r1=>?_)
      refine xEA r1.i_str fun t ea hl=>?_
      subst ea
      exact habitSame_str (fun t' k=>formatField_str (fun t2 k2=>hqq _ rfl _ S' k2 e1 H1 x1 (.str _ _ hl)) hl) hl
theorem seq_inv {m:Mo D} {ms:List (Mo D)} {fr:Fr} {σ σ':List AO} {ds:List D} (h:Mo.seq (m :: ms) fr σ=some (.val ds,σ')):∃ d es σ1,ds=d :: es∧m fr σ=some (.val d,σ1)∧Mo.seq ms fr σ1=some (.val es,σ'):=by
  rw [seq_cons] at h
  unfold Mo.bind at h
  cases q1:m fr σ with
  | none=>rw [q1] at h; exact nnS h
  | some p1 =>
    obtain ⟨o1,σ1⟩:=p1
    rw [q1] at h
    cases o1 with
    | exc=>exact nEV (s2A h)
    | val d =>
      dsimp only at h
      cases q2:Mo.seq ms fr σ1 with
      | none=>rw [q2] at h; exact nnS h
      | some p2 =>
        obtain ⟨o2,σ2⟩:=p2
        rw [q2] at h
        cases o2 with
        | exc=>exact nEV (s2A h)
        | val es=>exact ⟨d,es,σ1,(valE (s2A h)).symm,rfl,by rw [← s2B h]; exact q2⟩
theorem trJoin:∀ {es:List Expr} {ms:List (Mo D)},EvL G hn n Z es ms→∀ {c env fr S s acc ds xs σ'},Run G hn n Z c env fr S s→Mo.seq ms fr S.σ=some (.val ds,σ')→strsOf ds=some xs→(catS acc xs).length ≤ sizeLine →
    Tr G c S s (Rv G c) (joinParts acc (evalEach es env)) (.val (.str (catS acc xs))) σ'
  | [],[],_,c,env,fr,S,s,acc,ds,xs,σ',q,hm,hx,hl=>by
    have k1:=valE (s2A hm)
    have k2:=s2B hm
    subst k1 k2
    have k3:=s1E hx
    subst k3
    exact Tr.tok q.H q.heap fun Q E hq=>joinParts_nil (hq _ _ (.str _ _ hl)) hl
  | [],_ :: _,h,_,_,_,_,_,_,_,_,_,_,_,_,_=>h.elim
  | _ :: _,[],h,_,_,_,_,_,_,_,_,_,_,_,_,_=>h.elim
  | e :: es,m :: ms,h,c,env,fr,S,s,acc,ds,xs,σ',q,hm,hx,hl=>by
    refine xEE (seq_inv hm) fun d ds' w=>?_
    refine xEAA w fun σ1 ed h1 h2=>?_
    subst ed
    cases d with
    | str x =>
      refine xEA (Option.map_eq_some_iff.mp (show (strsOf ds').map (x :: ·)=some xs from hx)) fun ys hy ey=>?_
      subst ey
      intro Q E hq hx'
      refine joinParts_cons ((h.1 c env fr S s _ _ q h1).onVal fun a S1 tk e1 H1 x1 r1=>?_)
      refine xEA r1.i_str fun t ea _=>?_
      subst ea
      subst e1
      refine ⟨Nat.le_trans (catS_le ys (acc ++ x)) hl,?_⟩
      refine trJoin h.2 (acc:=acc ++ x) (q.step (tk:=tk) H1 x1) h2 hy hl Q E (fun b hb a S2 tk2 e2 H2 x2 r2=>hq b hb a S2 tk2 e2 H2 (x1.trans x2) r2) fun _ _ ho=>nVE ho
    | _=>exact nnS hx
theorem Ev.joined {e1 e2:Expr} {es:List Expr} {pos:Pos} {ms:List (Mo D)} (h:EvL G hn n Z (e1 :: e2 :: es) ms):Ev G hn n Z (.JoinedStr (e1 :: e2 :: es) pos) (Mo.joined ms):=by
  intro c env fr S s out σ' q hm
  unfold Mo.joined at hm
  cases hq:Mo.seq ms fr S.σ with
  | none=>rw [hq] at hm; exact nnS hm
  | some pr =>
    obtain ⟨o,σ1⟩:=pr
    rw [hq] at hm
    cases o with
    | exc=>exact nnS hm
    | val ds =>
      refine xEA (Option.bind_eq_some_iff.mp hm) fun xs hx hm=>?_
      refine xA (ite_inv hm) fun hl hm=>?_
      refine Tr.cast hm ?_
      exact trJoin h q hq hx hl
end
end Mine
end
section
open PySem PySem.W PyProof.Rows
set_option maxRecDepth 100000
set_option maxHeartbeats 8000000
namespace Mine
section
local macro_rules | `(tactic| o_head $_) => `(tactic| assumption)
/-- the frame's objects, as the line's own head writes them out (pre.heap_1) -/
theorem pre (hh:PySem.Challenge.rw_ta0143_01.row.Holds):PySem.Challenge.rw_ta0143_01.row.Holds:=by k_head
end
end Mine
end
section
open PySem PySem.W PyProof.Rows PySem.Calls
set_option maxRecDepth 100000
namespace Mine
section
variable {G:Amb} {hn:Bool} {n:Nat} {Z:Scope} {p:Pos}
noncomputable abbrev K1 (P:Params):Frag:=pre.heap_1 P
theorem g_len (h:G.K=K1 G.w.params) (hk:Z.names.lookup ("len" : PySem.Str)=some .globalImplicit):Ev G hn n Z (.Name "len" p) (Mo.pure (.glob (.builtin "len"))):=Ev.blt hk (by rw [h]; rfl) (by kernel_rfl) (by decide) rfl
theorem g_range (h:G.K=K1 G.w.params) (hk:Z.names.lookup ("range" : PySem.Str)=some .globalImplicit):Ev G hn n Z (.Name "range" p) (Mo.pure (.glob (.type "range"))):=Ev.blt hk (by rw [h]; rfl) (by kernel_rfl) (by decide) rfl
theorem g_type (h:G.K=K1 G.w.params) (hk:Z.names.lookup ("type" : PySem.Str)=some .globalImplicit):Ev G hn n Z (.Name "type" p) (Mo.pure (.glob (.type "type"))):=Ev.blt hk (by rw [h]; rfl) (by kernel_rfl) (by decide) rfl
theorem g_sum (h:G.K=K1 G.w.params) (hk:Z.names.lookup ("sum" : PySem.Str)=some .globalImplicit):Ev G hn n Z (.Name "sum" p) (Mo.pure (.glob (.builtin "sum"))):=Ev.blt hk (by rw [h]; rfl) (by kernel_rfl) (by decide) rfl
theorem g_str (h:G.K=K1 G.w.params) (hk:Z.names.lookup ("str" : PySem.Str)=some .globalImplicit):Ev G hn n Z (.Name "str" p) (Mo.pure (.glob (.type "str"))):=Ev.blt hk (by rw [h]; rfl) (by kernel_rfl) (by decide) rfl
theorem g_repr (h:G.K=K1 G.w.params) (hk:Z.names.lookup ("repr" : PySem.Str)=some .globalImplicit):Ev G hn n Z (.Name "repr" p) (Mo.pure (.glob (.builtin "repr"))):=Ev.blt hk (by rw [h]; rfl) (by kernel_rfl) (by decide) rfl
theorem g_list (h:G.K=K1 G.w.params) (hk:Z.names.lookup ("list" : PySem.Str)=some .globalImplicit):Ev G hn n Z (.Name "list" p) (Mo.pure (.glob (.type "list"))):=Ev.blt hk (by rw [h]; rfl) (by kernel_rfl) (by decide) rfl
theorem g_enumerate (h:G.K=K1 G.w.params) (hk:Z.names.lookup ("enumerate" : PySem.Str)=some .globalImplicit):Ev G hn n Z (.Name "enumerate" p) (Mo.pure (.glob (.type "enumerate"))):=Ev.blt hk (by rw [h]; rfl) (by kernel_rfl) (by decide) rfl
theorem g_formatparam (h:G.K=K1 G.w.params) (hk:Z.names.lookup ("_formatparam" : PySem.Str)=some .globalImplicit):Ev G hn n Z (.Name "_formatparam" p) (Mo.pure (.glob (.ref 54))):=Ev.glo hk (by rw [h]; rfl) rfl
theorem g_Headers (h:G.K=K1 G.w.params) (hk:Z.names.lookup ("Headers" : PySem.Str)=some .globalImplicit):Ev G hn n Z (.Name "Headers" p) (Mo.pure (.glob (.ref 175))):=Ev.glo hk (by rw [h]; rfl) rfl
theorem g_law_run (h:G.K=K1 G.w.params) (hk:Z.names.lookup ("_law_run" : PySem.Str)=some .globalImplicit):Ev G hn n Z (.Name "_law_run" p) (Mo.pure (.glob (.ref 184))):=Ev.glo hk (by rw [h]; rfl) rfl
theorem g_law_plain (h:G.K=K1 G.w.params) (hk:Z.names.lookup ("_law_plain" : PySem.Str)=some .globalImplicit):Ev G hn n Z (.Name "_law_plain" p) (Mo.pure (.glob (.ref 189))):=Ev.glo hk (by rw [h]; rfl) rfl
theorem g_name_disallowed_re (h:G.K=K1 G.w.params) (hk:Z.names.lookup ("_name_disallowed_re" : PySem.Str)=some .globalImplicit):Ev G hn n Z (.Name "_name_disallowed_re" p) (Mo.pure (.glob (.ref 41))):=Ev.glo hk (by rw [h]; rfl) rfl
theorem g_value_disallowed_re (h:G.K=K1 G.w.params) (hk:Z.names.lookup ("_value_disallowed_re" : PySem.Str)=some .globalImplicit):Ev G hn n Z (.Name "_value_disallowed_re" p) (Mo.pure (.glob (.ref 46))):=Ev.glo hk (by rw [h]; rfl) rfl
theorem b_ValueError (h:G.K=K1 G.w.params):nsIn G.K mainGlobals "ValueError" = some none:=by rw [h]; rfl
theorem b_AssertionError (h:G.K=K1 G.w.params):nsIn G.K mainGlobals "AssertionError" = some none:=by rw [h]; rfl
theorem b_TypeError (h:G.K=K1 G.w.params):nsIn G.K mainGlobals "TypeError" = some none:=by rw [h]; rfl
theorem i1_76 (h:G.K=K1 G.w.params):plainGet G.K 175 "_convert_string_type" = true:=by rw [h]; rfl
theorem i2_76 (h:G.K=K1 G.w.params):findIn G.K (.ref 175) "_convert_string_type" = some (some (.ref 76)):=by rw [h]; rfl
theorem i3_76 (h:G.K=K1 G.w.params):isFn G.K (.ref 76)=true:=by rw [h]; rfl
theorem i2_83 (h:G.K=K1 G.w.params):findIn G.K (.ref 175) "__len__" = some (some (.ref 83)):=by rw [h]; rfl
theorem i3_83 (h:G.K=K1 G.w.params):isFn G.K (.ref 83)=true:=by rw [h]; rfl
theorem i2_90 (h:G.K=K1 G.w.params):findIn G.K (.ref 175) "__setitem__" = some (some (.ref 90)):=by rw [h]; rfl
theorem i3_90 (h:G.K=K1 G.w.params):isFn G.K (.ref 90)=true:=by rw [h]; rfl
theorem i2_95 (h:G.K=K1 G.w.params):findIn G.K (.ref 175) "__delitem__" = some (some (.ref 95)):=by rw [h]; rfl
theorem i3_95 (h:G.K=K1 G.w.params):isFn G.K (.ref 95)=true:=by rw [h]; rfl
theorem i2_109 (h:G.K=K1 G.w.params):findIn G.K (.ref 175) "__contains__" = some (some (.ref 109)):=by rw [h]; rfl
theorem i3_109 (h:G.K=K1 G.w.params):isFn G.K (.ref 109)=true:=by rw [h]; rfl
theorem i1_114 (h:G.K=K1 G.w.params):plainGet G.K 175 "get_all" = true:=by rw [h]; rfl
theorem i2_114 (h:G.K=K1 G.w.params):findIn G.K (.ref 175) "get_all" = some (some (.ref 114)):=by rw [h]; rfl
theorem i3_114 (h:G.K=K1 G.w.params):isFn G.K (.ref 114)=true:=by rw [h]; rfl
theorem i1_122 (h:G.K=K1 G.w.params):plainGet G.K 175 "get" = true:=by rw [h]; rfl
theorem i2_122 (h:G.K=K1 G.w.params):findIn G.K (.ref 175) "get" = some (some (.ref 122)):=by rw [h]; rfl
theorem i3_122 (h:G.K=K1 G.w.params):isFn G.K (.ref 122)=true:=by rw [h]; rfl
theorem i1_127 (h:G.K=K1 G.w.params):plainGet G.K 175 "keys" = true:=by rw [h]; rfl
theorem i2_127 (h:G.K=K1 G.w.params):findIn G.K (.ref 175) "keys" = some (some (.ref 127)):=by rw [h]; rfl
theorem i3_127 (h:G.K=K1 G.w.params):isFn G.K (.ref 127)=true:=by rw [h]; rfl
theorem i1_132 (h:G.K=K1 G.w.params):plainGet G.K 175 "values" = true:=by rw [h]; rfl
theorem i2_132 (h:G.K=K1 G.w.params):findIn G.K (.ref 175) "values" = some (some (.ref 132)):=by rw [h]; rfl
theorem i3_132 (h:G.K=K1 G.w.params):isFn G.K (.ref 132)=true:=by rw [h]; rfl
theorem i1_139 (h:G.K=K1 G.w.params):plainGet G.K 175 "items" = true:=by rw [h]; rfl
theorem i2_139 (h:G.K=K1 G.w.params):findIn G.K (.ref 175) "items" = some (some (.ref 139)):=by rw [h]; rfl
theorem i3_139 (h:G.K=K1 G.w.params):isFn G.K (.ref 139)=true:=by rw [h]; rfl
theorem i2_151 (h:G.K=K1 G.w.params):findIn G.K (.ref 175) "__str__" = some (some (.ref 151)):=by rw [h]; rfl
theorem i3_151 (h:G.K=K1 G.w.params):isFn G.K (.ref 151)=true:=by rw [h]; rfl
theorem i1_165 (h:G.K=K1 G.w.params):plainGet G.K 175 "setdefault" = true:=by rw [h]; rfl
theorem i2_165 (h:G.K=K1 G.w.params):findIn G.K (.ref 175) "setdefault" = some (some (.ref 165)):=by rw [h]; rfl
theorem i3_165 (h:G.K=K1 G.w.params):isFn G.K (.ref 165)=true:=by rw [h]; rfl
theorem i1_172 (h:G.K=K1 G.w.params):plainGet G.K 175 "add_header" = true:=by rw [h]; rfl
theorem i2_172 (h:G.K=K1 G.w.params):findIn G.K (.ref 175) "add_header" = some (some (.ref 172)):=by rw [h]; rfl
theorem i3_172 (h:G.K=K1 G.w.params):isFn G.K (.ref 172)=true:=by rw [h]; rfl
theorem ok_54 (P:Params):fnOk (K1 P) 54=true:=by kernel_rfl
theorem i4_54 (h:G.K=K1 G.w.params):Kep G (.ref 54):=Kep.at h (ok_54 _)
theorem ok_69 (P:Params):fnOk (K1 P) 69=true:=by kernel_rfl
theorem ok_76 (P:Params):fnOk (K1 P) 76=true:=by kernel_rfl
theorem i4_76 (h:G.K=K1 G.w.params):Kep G (.ref 76):=Kep.at h (ok_76 _)
theorem ok_83 (P:Params):fnOk (K1 P) 83=true:=by kernel_rfl
theorem ok_90 (P:Params):fnOk (K1 P) 90=true:=by kernel_rfl
theorem ok_95 (P:Params):fnOk (K1 P) 95=true:=by kernel_rfl
theorem ok_109 (P:Params):fnOk (K1 P) 109=true:=by kernel_rfl
theorem ok_114 (P:Params):fnOk (K1 P) 114=true:=by kernel_rfl
theorem i4_114 (h:G.K=K1 G.w.params):Kep G (.ref 114):=Kep.at h (ok_114 _)
theorem ok_122 (P:Params):fnOk (K1 P) 122=true:=by kernel_rfl
theorem i4_122 (h:G.K=K1 G.w.params):Kep G (.ref 122):=Kep.at h (ok_122 _)
theorem ok_127 (P:Params):fnOk (K1 P) 127=true:=by kernel_rfl
theorem i4_127 (h:G.K=K1 G.w.params):Kep G (.ref 127):=Kep.at h (ok_127 _)
theorem ok_132 (P:Params):fnOk (K1 P) 132=true:=by kernel_rfl
theorem i4_132 (h:G.K=K1 G.w.params):Kep G (.ref 132):=Kep.at h (ok_132 _)
theorem ok_139 (P:Params):fnOk (K1 P) 139=true:=by kernel_rfl
theorem i4_139 (h:G.K=K1 G.w.params):Kep G (.ref 139):=Kep.at h (ok_139 _)
theorem ok_151 (P:Params):fnOk (K1 P) 151=true:=by kernel_rfl
theorem ok_165 (P:Params):fnOk (K1 P) 165=true:=by kernel_rfl
theorem i4_165 (h:G.K=K1 G.w.params):Kep G (.ref 165):=Kep.at h (ok_165 _)
theorem ok_172 (P:Params):fnOk (K1 P) 172=true:=by kernel_rfl
theorem i4_172 (h:G.K=K1 G.w.params):Kep G (.ref 172):=Kep.at h (ok_172 _)
theorem ok_184 (P:Params):fnOk (K1 P) 184=true:=by kernel_rfl
theorem i4_184 (h:G.K=K1 G.w.params):Kep G (.ref 184):=Kep.at h (ok_184 _)
theorem ok_189 (P:Params):fnOk (K1 P) 189=true:=by kernel_rfl
theorem i4_189 (h:G.K=K1 G.w.params):Kep G (.ref 189):=Kep.at h (ok_189 _)
theorem ok_194 (P:Params):fnOk (K1 P) 194=true:=by kernel_rfl
noncomputable def pat1 (p:Addr):Option (Nat→Bool):=if p=41 then some ctlN else if p=46 then some ctlV else none
theorem pat_ok (h:G.K=K1 G.w.params):∀ p P,pat1 p=some P→PatOk G.K p P:=by
  intro p P hp
  unfold pat1 at hp
  split at hp
  · rename_i e; cases hp; subst e
    exact patN (by rw [h]; rfl) (by rw [h]; rfl) (by decide +kernel)
  · split at hp
    · rename_i e; cases hp; subst e
      exact patV (by rw [h]; rfl) (by rw [h]; rfl) (by decide +kernel)
    · cases hp
end
end Mine
end
section
open PySem PySem.W PyProof.Rows PySem.Calls
set_option maxRecDepth 100000
set_option maxHeartbeats 4000000
namespace Mine
section
variable {G:Amb}
theorem at_headers (h:G.K=K1 G.w.params) {hn n Z} {o:Expr} {pos:Pos} {mo:Mo D} (ho:Ev G hn n Z o mo) (hbase:∀ env,attributeBase o "_headers" env (eval o env)=eval o env:=by intro _; rfl) (hname:∀ o' r,letTemporaryGo o o' r=Pure.pure ():=by intro _ _; rfl):Ev G hn n Z (.Attribute o "_headers" pos) (Mo.attr 175 "_headers" mo) :=
  Ev.attr ho (by rw [h]; rfl) (by rw [h]; rfl) (by rw [h]; rfl) (by rw [h]; rfl) hbase hname
theorem st_headers (h:G.K=K1 G.w.params) {hn n Z} {o:Expr} {pos:Pos} {mo:Mo D} (ho:Ev G hn n Z o mo):As G hn n Z (.Attribute o "_headers" pos) (Mf.setA 175 "_headers" mo) :=
  As.attr ho (by rw [h]; rfl) (by rw [h]; rfl) (by rw [h]; rfl) (by rw [h]; rfl)
theorem kep_headers (h:G.K=K1 G.w.params):Kep G (.ref 175):=Kep.cls (by rw [h]; rfl) (by rw [h]; rfl)
end
section
noncomputable def msgV:PySem.Str := "Control characters not allowed in headers"
noncomputable def get2:List D→Option (D × D)
  | [a,b]=>some (a,b)
  | _=>none
theorem get2_eq {ds:List D} {p:D × D} (h:get2 ds=some p):ds=[p.1,p.2]:=by
  rcases ds with _ | ⟨a,_ | ⟨b,_ | ⟨c,t⟩⟩⟩ <;> first | (cases h; done) | (cases h; rfl)
noncomputable def dBool:D→Option Bool
  | .bool b=>some b
  | _=>none
theorem dBool_eq {d:D} {a:Bool} (h:dBool d=some a):d = .bool a:=by cases d <;> first | (cases h; done) | (cases h; rfl)
noncomputable def kwB:List (PySem.Str × D)→Option (PySem.Str × Bool)
  | [p]=>(dBool p.2).map fun b=>(p.1,b)
  | _=>none
theorem kwB_eq {kd:List (PySem.Str × D)} {q:PySem.Str × Bool} (h:kwB kd=some q):kd=[(q.1,.bool q.2)]:=by
  rcases kd with _ | ⟨a,_ | ⟨b,t⟩⟩
  · cases h
  · (refine xEA (Option.map_eq_some_iff.mp h) fun b e q0z=>?_; subst q0z)
    rw [← dBool_eq e]
  · cases h
noncomputable def siD:PySem.Str ⊕ Int→D
  | .inl x=>.str x
  | .inr i=>.int i
noncomputable def dSI:D→Option (PySem.Str ⊕ Int)
  | .str x=>some (.inl x)
  | .int i=>some (.inr i)
  | _=>none
theorem dSI_eq {d:D} {a:PySem.Str ⊕ Int} (h:dSI d=some a):d=siD a:=by cases d <;> first | (cases h; done) | (cases h; rfl)
noncomputable def sConv:Fm:=fun ds kd σ=>(get2 ds).bind fun p=>(kwB kd).bind fun q=>if q.1 = "name" then (dSI p.2).bind fun t=>t.elim (fun x=>some (if x.cps.toList.any (if q.2 then ctlN else ctlV) then .exc "ValueError" msgV else .val (.str x),σ)) (fun i=>if i=5 then some (.exc "AssertionError" fmtY,σ) else none) else none
theorem sConv_str {a:D} {x:PySem.Str} {b:Bool} {σ:List AO} : sConv [a,.str x] [("name", .bool b)] σ=some (if x.cps.toList.any (if b then ctlN else ctlV) then .exc "ValueError" msgV else .val (.str x),σ):=by
  simp only [sConv,get2,kwB,dBool,dSI,Option.bind_some,Option.map_some,if_true,Sum.elim_inl,Sum.elim_inr]
theorem sConv_int {a:D} {b:Bool} {σ:List AO} : sConv [a,.int 5] [("name", .bool b)] σ=some (.exc "AssertionError" fmtY,σ):=by
  simp only [sConv,get2,kwB,dBool,dSI,Option.bind_some,Option.map_some,if_true,Sum.elim_inl,Sum.elim_inr]
end
section
variable {G:Amb} (h:G.K=K1 G.w.params)
include h
theorem f_conv:Fn G true 5 76 sConv:=by
  have body:∃ m,Exs G true 4 (scopeAt (K1 G.w.params) 76) (bodyAt (K1 G.w.params) 76) m∧∀ ds kd σ r,sConv ds kd σ=some r→((bfOf 2 ["name"] [("self", .pos 0),("value", .pos 1),("name", .kw 0)] ds kd).bind fun bd=>Mf.fn m (frB bd fun _=>none) σ)=some r:=by
    conv in (bodyAt _ _)=>whnf
    generalize hE1:Expr.Constant (Const.str "Header names/values must be of type str (got {0})") 0 ⟨33,29,33,80⟩=E1
    have kE1:∀ {Z},Ev G true 4 Z E1 (Mo.pure (.str "Header names/values must be of type str (got {0})")):=fun {Z}=>hE1 ▸ Ev.kStr (n:=4) (by decide +kernel)
    refine ⟨_,(Exs.cons (Ex.ite (Cd.cmp (Ev.call (g_type h rfl) (ms:=[_]) (mk:=[]) ⟨(Ev.loc rfl rfl),trivial⟩ trivial Kep.typ Ca.type) (g_str h rfl) (Op2.is))
      (Exs.cons (Ex.asgn (Ev.ite (Cd.val (Ev.loc rfl rfl)) (g_name_disallowed_re h rfl) (g_value_disallowed_re h rfl)) (As.name (Or.inl rfl)) (sw_of fun env=>⟨rfl,by kernel_rfl,by kernel_rfl⟩))
      (Exs.cons (Ex.ite (Cd.search (pat_ok h) (Ev.loc rfl rfl) (Ev.loc rfl rfl))
        (Exs.cons (Ex.raise F.excCall_ValueError F.excRaise_ValueError rfl (b_ValueError h) rfl (by decide +kernel) rfl (Ev.kStr (by decide +kernel)) rfl)
        Exs.nil)
        Exs.nil)
      (Exs.cons (Ex.ret (Ev.loc rfl rfl))
      Exs.nil)))
      Exs.nil)
    (Exs.cons (Ex.raise F.excCall_AssertionError F.excRaise_AssertionError rfl (b_AssertionError h) rfl (by decide +kernel) rfl (Ev.methS F.slot_str_format_m F.type_str_format_m kE1 (ms:=[_]) (mk:=[]) ⟨(Ev.call (g_repr h rfl) (ms:=[_]) (mk:=[]) ⟨(Ev.loc rfl rfl),trivial⟩ trivial Kep.blt Ca.repr),trivial⟩ trivial Ca.format (hbase:=fun _=>by rw [← hE1]; rfl)) rfl)
    Exs.nil)),?_⟩
    intro ds kd σ r hr
    (refine xEA (Option.bind_eq_some_iff.mp hr) fun q0z e1 hr1=>?_; obtain ⟨a,d⟩:=q0z)
    (refine xEA (Option.bind_eq_some_iff.mp hr1) fun q0z e2 hr2=>?_; obtain ⟨nm,b⟩:=q0z)
    (refine xA (ite_inv hr2) fun hnm hr3=>?_)
    (refine xEA (Option.bind_eq_some_iff.mp hr3) fun t e3 hr4=>?_)
    have hnm:nm = "name" := hnm
    obtain rfl:ds=[a,d]:=get2_eq e1
    obtain rfl:kd=[(nm,.bool b)]:=kwB_eq e2
    obtain rfl:d=siD t:=dSI_eq e3
    subst hnm
    clear hr hr1 hr2 hr3 e1 e2 e3
    cases t with
    | inl x =>
      cases hr4
      simp only [siD,bfOf,List.length_cons,List.length_nil,List.map_cons,List.map_nil,if_true,Nat.reduceAdd,Option.bind_some,Sr.dat,List.getD_cons_zero,List.getD_cons_succ]
      cases b
      · simp only [Mf.fn,Mf.seq,Mf.bind,Mf.lift,Mf.set,Mf.pure,Mo.op2,Mo.bind,Mo.calF,Mo.args,seq_nil,seq_cons,seqK_nil,Mo.pure,Mo.var,Mo.tru,Mo.opt,Mo.ite,Mo.srch,Mo.meth,frB_nil,frB_cons,upd_same,upd_diff,one1_at,Option.map_some,↓reduceIte,fIs_type,Nat.reduceEqDiff,Bool.false_eq_true,beq_self_eq_true,String.reduceBEq,fType_str,truD_bool,pat1]
        cases hx:x.cps.toList.any ctlV <;> simp only [Mf.bind,Mf.lift,Mf.pure,Mo.pure,Mo.var,upd_same,upd_diff,Option.map_some,↓reduceIte,Bool.false_eq_true,String.reduceBEq] <;> rfl
      · simp only [Mf.fn,Mf.seq,Mf.bind,Mf.lift,Mf.set,Mf.pure,Mo.op2,Mo.bind,Mo.calF,Mo.args,seq_nil,seq_cons,seqK_nil,Mo.pure,Mo.var,Mo.tru,Mo.opt,Mo.ite,Mo.srch,Mo.meth,frB_nil,frB_cons,upd_same,upd_diff,one1_at,Option.map_some,↓reduceIte,fIs_type,beq_self_eq_true,String.reduceBEq,fType_str,truD_bool,pat1]
        cases hx:x.cps.toList.any ctlN <;> simp only [Mf.bind,Mf.lift,Mf.pure,Mo.pure,Mo.var,upd_same,upd_diff,Option.map_some,↓reduceIte,Bool.false_eq_true,String.reduceBEq] <;> rfl
    | inr i =>
      (refine xA (ite_inv hr4) fun q0z hr5=>?_; subst q0z)
      cases hr5
      clear hr4
      kernel_rfl
  (refine xEA body fun m hm hs=>?_; try clear body)
  refine Fn.mono (Fn.at h (ok_76 _) (Bnd.plan (by exact ⟨trivial,trivial,trivial,trivial⟩) ?_) ?_ hm) hs
  · intro S vs kw hv hk
    refine Eq.trans (congrArg (fun K=>peek K S _) h) ?_
    (refine xEE (len2 hv) fun v0 v1 q0z=>?_; subst q0z)
    (refine xE (kw1 hk) fun w0 q0z=>?_; subst q0z)
    kernel_rfl
  · exact bfOf_all (by kernel_rfl)
end
end Mine
end
section
open PySem PySem.W PyProof.Rows PySem.Calls
set_option maxRecDepth 100000
set_option maxHeartbeats 4000000
namespace Mine
section
/-- a list of pairs of texts -/
noncomputable def pD (p:PySem.Str × PySem.Str):D:=.tup [.str p.1,.str p.2]
theorem pD_inj {p q:PySem.Str × PySem.Str} (h:pD p=pD q):p=q:=by
  obtain ⟨a,b⟩:=p
  obtain ⟨c,d⟩:=q
  injection h with h
  injection h with h1 h2
  injection h1 with h1
  injection h2 with h2 _
  injection h2 with h2
  exact Prod.ext h1 h2
theorem pDs_inj {ps qs:List (PySem.Str × PySem.Str)} (h:ps.map pD=qs.map pD):ps=qs:=List.map_inj_right (fun _ _=>pD_inj) |>.mp h
noncomputable def shortS (x:PySem.Str):Bool:=decide (x.length ≤ 1000) && x.cps.toList.all (fun c=>decide (c < 128))
/-- the table at k -/
noncomputable def hdr (σ:List AO) (k:Nat):Option (Nat × List (PySem.Str × PySem.Str)):=pick fun r=>σ[k]? = some (.ins 175 [("_headers", .ref r.1)])∧σ[r.1]? = some (.lst (r.2.map pD))∧r.2.length ≤ 1000∧∀ p ∈ r.2,shortS p.1=true∧shortS p.2=true
theorem hdr_ok {σ:List AO} {k j:Nat} {ps:List (PySem.Str × PySem.Str)} (h:hdr σ k=some (j,ps)):σ[k]? = some (.ins 175 [("_headers", .ref j)])∧σ[j]? = some (.lst (ps.map pD))∧ps.length ≤ 1000∧∀ p ∈ ps,shortS p.1=true∧shortS p.2=true:=pick_ok (P:=fun r:Nat × List (PySem.Str × PySem.Str)=>σ[k]? = some (.ins 175 [("_headers", .ref r.1)])∧σ[r.1]? = some (.lst (r.2.map pD))∧r.2.length ≤ 1000∧∀ p ∈ r.2,shortS p.1=true∧shortS p.2=true) (a:=(j,ps)) h
theorem hdr_of {σ:List AO} {k j:Nat} {ps:List (PySem.Str × PySem.Str)} (h1:σ[k]? = some (.ins 175 [("_headers", .ref j)])) (h2:σ[j]? = some (.lst (ps.map pD))) (h3:ps.length ≤ 1000) (h4:∀ p ∈ ps,shortS p.1=true∧shortS p.2=true):hdr σ k=some (j,ps) :=
  pick_mk ⟨h1,h2,h3,h4⟩ fun r hr=>by
    obtain ⟨i,qs⟩:=r
    have e1:=Option.some.inj (h1.symm.trans hr.1)
    have e2:=hr.2.1
    clear h1 hr h3 h4
    injection e1 with _ e1
    injection e1 with e1 _
    injection e1 with _ e1
    injection e1 with e1
    dsimp only at e1 e2
    rw [← e1,h2] at e2
    injection e2 with e2
    injection e2 with e2
    rw [e1,pDs_inj e2]
theorem pickL (ds:List D) (a k:Nat):((List.range k).map (a + ·)).filterMap (ds[·]?)=(ds.drop a).take k:=by
  have:=pick_run ds.toArray a k
  simpa using this
theorem sliceD_all (ds:List D):sliceD ds none none none=ds:=by
  have e:sliceBounds none none none ds.length=(((0:Nat):Int),(ds.length:Int),1):=by simp [sliceBounds]
  unfold sliceD
  rw [e]
  simp only [sliceRange_one,pickL]
  rw [List.drop_zero,Nat.sub_zero,List.take_of_length_le (Nat.le_refl _)]
theorem sz0:(0 ≤ sizeLine)=True:=eq_true (by decide)
theorem sz1:(1 ≤ sizeLine)=True:=eq_true (by decide)
theorem sz2:(2 ≤ sizeLine)=True:=eq_true (by decide)
theorem sz3:(3 ≤ sizeLine)=True:=eq_true (by decide)
theorem lookup_one (x:PySem.Str) (d:D):List.lookup x [(x,d)]=some d:=by simp [List.lookup]
theorem filter_true {α:Type} (l:List α):l.filter (fun _=>true)=l:=List.filter_eq_self.mpr fun _ _=>rfl
end
section
variable {G:Amb} (h:G.K=K1 G.w.params)
include h
noncomputable def sKeys:Fm:=on1 dRef fun k σ=>(hdr σ k).map fun r=>(.val (.lst (r.2.map fun p=>.str p.1)),σ)
noncomputable def sValues:Fm:=on1 dRef fun k σ=>(hdr σ k).map fun r=>(.val (.lst (r.2.map fun p=>.str p.2)),σ)
noncomputable def sItems:Fm:=on1 dRef fun k σ=>(hdr σ k).map fun r=>(.val (.ref σ.length),σ ++ [.lst (r.2.map pD)])
theorem f_keys:Fn G true 6 127 sKeys:=by
  have body:∃ m,Exs G true 5 (scopeAt (K1 G.w.params) 127) (bodyAt (K1 G.w.params) 127) m∧∀ ds kd σ r,sKeys ds kd σ=some r→((bfOf 1 [] [("self", .pos 0)] ds kd).bind fun bd=>Mf.fn m (frB bd fun _=>none) σ)=some r:=by
    refine ⟨_,(Exs.cons (Ex.ret (Ev.lcF (CompL.one (W:=[]) (at_headers h (Ev.loc rfl rfl)) (AsC.pair rfl rfl) Ts.nil (Ev.loc rfl rfl) (by first | rfl | kernel_rfl))))
    Exs.nil),?_⟩
    intro ds kd σ r hr
    replace hr:=on1_inv dRef_eq hr
    obtain ⟨k,rfl,rfl,hr⟩:=hr
    obtain ⟨⟨j,ps⟩,hh,hr⟩:=Option.map_eq_some_iff.mp hr
    cases hr
    (refine xAAA (hdr_ok hh) fun h1 h2 h3 h4=>?_)
    simp only [bfOf,List.length_cons,List.length_nil,List.map_cons,List.map_nil,if_true,Nat.reduceAdd,Option.bind_some,Sr.dat,List.getD_cons_zero,List.getD_cons_succ]
    simp only [Mf.fn,Mf.seq,Mf.bind,Mf.lift,Mf.pure,Mo.attr,frB_nil,frB_cons]
    rw [lcRun_pure (σ1:=σ) (d:=.ref j) (x:=⟨ps.map pD,fun σ=>σ[j]? = some (.lst (ps.map pD))⟩) (fun _=>True) (fun _=>true) (fun d=>match d with
      | .tup [a,_]=>a
      | _=>.none) (by simp only [Mo.bind,Mo.var,upd_same,Option.map_some,↓reduceIte,h1,lookup_one]) (by unfold srcD; simp only [h2]) h2 trivial (fun d hd fr _=>by
        (refine xEA (List.mem_map.mp hd) fun p hp q0z=>?_; subst q0z)
        refine ⟨rfl,trivial,rfl,fun _=>⟨setPair "k" "v" (pD p) fr,trivial,?_⟩⟩
        simp only [emOne,setPair,pD,Mo.var,upd_same,upd_diff,Option.map_some,String.reduceBEq])]
    simp only [filter_true,List.map_map]
    rw [if_pos (by rw [List.length_map]; have e:sizeLine=16777216:=rfl; omega)]
    rfl
  (refine xEA body fun m hm hs=>?_; try clear body)
  refine Fn.mono (Fn.at h (ok_127 _) (Bnd.plan (by exact ⟨trivial,trivial⟩) ?_) ?_ hm) hs
  · intro S vs kw hv hk
    refine Eq.trans (congrArg (fun K=>peek K S _) h) ?_
    (refine xE (len1 hv) fun v0 q0z=>?_; subst q0z)
    obtain rfl:=kw0 hk
    kernel_rfl
  · exact bfOf_all (by kernel_rfl)
theorem f_values:Fn G true 6 132 sValues:=by
  have body:∃ m,Exs G true 5 (scopeAt (K1 G.w.params) 132) (bodyAt (K1 G.w.params) 132) m∧∀ ds kd σ r,sValues ds kd σ=some r→((bfOf 1 [] [("self", .pos 0)] ds kd).bind fun bd=>Mf.fn m (frB bd fun _=>none) σ)=some r:=by
    refine ⟨_,(Exs.cons (Ex.ret (Ev.lcF (CompL.one (W:=[]) (at_headers h (Ev.loc rfl rfl)) (AsC.pair rfl rfl) Ts.nil (Ev.loc rfl rfl) (by first | rfl | kernel_rfl))))
    Exs.nil),?_⟩
    intro ds kd σ r hr
    replace hr:=on1_inv dRef_eq hr
    obtain ⟨k,rfl,rfl,hr⟩:=hr
    obtain ⟨⟨j,ps⟩,hh,hr⟩:=Option.map_eq_some_iff.mp hr
    cases hr
    (refine xAAA (hdr_ok hh) fun h1 h2 h3 h4=>?_)
    simp only [bfOf,List.length_cons,List.length_nil,List.map_cons,List.map_nil,if_true,Nat.reduceAdd,Option.bind_some,Sr.dat,List.getD_cons_zero,List.getD_cons_succ]
    simp only [Mf.fn,Mf.seq,Mf.bind,Mf.lift,Mf.pure,Mo.attr,frB_nil,frB_cons]
    rw [lcRun_pure (σ1:=σ) (d:=.ref j) (x:=⟨ps.map pD,fun σ=>σ[j]? = some (.lst (ps.map pD))⟩) (fun _=>True) (fun _=>true) (fun d=>match d with
      | .tup [_,b]=>b
      | _=>.none) (by simp only [Mo.bind,Mo.var,upd_same,Option.map_some,↓reduceIte,h1,lookup_one]) (by unfold srcD; simp only [h2]) h2 trivial (fun d hd fr _=>by
        (refine xEA (List.mem_map.mp hd) fun p hp q0z=>?_; subst q0z)
        refine ⟨rfl,trivial,rfl,fun _=>⟨setPair "k" "v" (pD p) fr,trivial,?_⟩⟩
        simp only [emOne,setPair,pD,Mo.var,upd_same,Option.map_some])]
    simp only [filter_true,List.map_map]
    rw [if_pos (by rw [List.length_map]; have e:sizeLine=16777216:=rfl; omega)]
    rfl
  (refine xEA body fun m hm hs=>?_; try clear body)
  refine Fn.mono (Fn.at h (ok_132 _) (Bnd.plan (by exact ⟨trivial,trivial⟩) ?_) ?_ hm) hs
  · intro S vs kw hv hk
    refine Eq.trans (congrArg (fun K=>peek K S _) h) ?_
    (refine xE (len1 hv) fun v0 q0z=>?_; subst q0z)
    obtain rfl:=kw0 hk
    kernel_rfl
  · exact bfOf_all (by kernel_rfl)
theorem f_items:Fn G true 6 139 sItems:=by
  have body:∃ m,Exs G true 5 (scopeAt (K1 G.w.params) 139) (bodyAt (K1 G.w.params) 139) m∧∀ ds kd σ r,sItems ds kd σ=some r→((bfOf 1 [] [("self", .pos 0)] ds kd).bind fun bd=>Mf.fn m (frB bd fun _=>none) σ)=some r:=by
    refine ⟨_,(Exs.cons (Ex.ret (Ev.slcR (ml:=none) (mh:=none) (ms:=none) (at_headers h (Ev.loc rfl rfl)) trivial trivial trivial))
    Exs.nil),?_⟩
    intro ds kd σ r hr
    replace hr:=on1_inv dRef_eq hr
    obtain ⟨k,rfl,rfl,hr⟩:=hr
    obtain ⟨⟨j,ps⟩,hh,hr⟩:=Option.map_eq_some_iff.mp hr
    cases hr
    (refine xAAA (hdr_ok hh) fun h1 h2 h3 h4=>?_)
    simp only [bfOf,List.length_cons,List.length_nil,List.map_cons,List.map_nil,if_true,Nat.reduceAdd,Option.bind_some,Sr.dat,List.getD_cons_zero,List.getD_cons_succ]
    simp only [Mf.fn,Mf.seq,Mf.bind,Mf.lift,Mf.pure,Mo.bind,Mo.pure,Mo.var,Mo.attr,frB_nil,frB_cons,upd_same,Option.map_some,↓reduceIte,Mo.slice,Mo.part,h1,lookup_one,lstOf,h2]
    rw [if_pos (by simp)]
    simp only [sliceD_all,Mf.pure,Option.map_some]
  (refine xEA body fun m hm hs=>?_; try clear body)
  refine Fn.mono (Fn.at h (ok_139 _) (Bnd.plan (by exact ⟨trivial,trivial⟩) ?_) ?_ hm) hs
  · intro S vs kw hv hk
    refine Eq.trans (congrArg (fun K=>peek K S _) h) ?_
    (refine xE (len1 hv) fun v0 q0z=>?_; subst q0z)
    obtain rfl:=kw0 hk
    kernel_rfl
  · exact bfOf_all (by kernel_rfl)
end
end Mine
end
section
open PySem PySem.W PyProof.Rows PySem.Calls
set_option maxRecDepth 100000
set_option maxHeartbeats 4000000
namespace Mine
section
theorem isIns_ok {σ:List AO} {k:Nat} {name:PySem.Str} {d:D} (h:σ[k]? = some (.ins 175 [("_headers", d)])) (hn:name ≠ "_headers"):isIns 175 name (.ref k) σ=true:=by
  unfold isIns
  simp only [h,List.lookup]
  have e:(name == ("_headers" : PySem.Str))=false:=by rw [beq_eq_false_iff_ne]; exact hn
  rw [e]
  rfl
theorem short_le {x:PySem.Str} (h:shortS x=true):x.length ≤ 1000:=by
  unfold shortS at h
  simp only [Bool.and_eq_true,decide_eq_true_eq] at h
  exact h.1
theorem short_asc {x:PySem.Str} (h:shortS x=true):∀ c ∈ x.cps.toList,c < 128:=by
  unfold shortS at h
  simp only [Bool.and_eq_true,List.all_eq_true,decide_eq_true_eq] at h
  exact h.2
theorem short_of {x:PySem.Str} (h1:x.length ≤ 1000) (h2:∀ c ∈ x.cps.toList,c < 128):shortS x=true:=by
  unfold shortS
  simp only [Bool.and_eq_true,List.all_eq_true,decide_eq_true_eq]
  exact ⟨h1,h2⟩
theorem lower_short {x:PySem.Str} (h:shortS x=true):Txt.lower x=⟨x.cps.map lo1⟩:=lower_ascii (short_asc h)
theorem short_lower {x:PySem.Str} (h:shortS x=true):shortS (Txt.lower x)=true:=by
  rw [lower_short h]
  refine short_of (by show (x.cps.map lo1).size ≤ 1000; rw [Array.size_map]; exact short_le h) fun c hc=>?_
  simp only [Array.toList_map,List.mem_map] at hc
  (refine xEA hc fun d hd q0z=>?_; try clear hc; subst q0z)
  have:=short_asc h d hd
  unfold lo1
  split
  · simp_all; omega
  · exact this
theorem py_str (σ:List AO) {x:PySem.Str} (hx:shortS x=true):py σ (.str x)=some (.str x):=by
  unfold py
  simp only [pyD_str,Option.bind_some]
  rw [if_pos]
  unfold SeqAt.shaped
  have e:PyData.strOk x=true:=by
    unfold PyData.strOk
    rw [Array.all_eq_true']
    intro c hc
    have:=short_asc hx c (by simpa using hc)
    simp; omega
  simp [PyData.canLay0,PyData.depth,e]
theorem shortS_le {x:PySem.Str} (h:shortS x=true):x.length ≤ 5592405:=by have:=short_le h; omega
theorem fIdx_0 (σ:List AO) (a b:D):fIdx σ (.tup [a,b]) (.int 0)=some a:=by kernel_rfl
theorem fIdx_1 (σ:List AO) (a b:D):fIdx σ (.tup [a,b]) (.int 1)=some b:=by kernel_rfl
theorem opEq_str (σ:List AO) {x y:PySem.Str} (hx:shortS x=true) (hy:shortS y=true):opEq (.str x) (.str y) σ=some (.val (.bool (x == y)),σ):=by
  unfold opEq
  rw [py_str σ hx,py_str σ hy]
  rfl
end
section
variable {G:Amb} (h:G.K=K1 G.w.params)
include h
noncomputable def sGetall:Fm:=on2 dRef dStr fun k x σ=>if shortS x=true∧(Txt.lower x).cps.toList.any ctlN=false then (hdr σ k).map fun r=>(.val (.lst ((r.2.filter fun p=>Txt.lower p.1 == Txt.lower x).map fun p=>.str p.2)),σ) else none
theorem f_getall:Fn G true 6 114 sGetall:=by
  have body:∃ m,Exs G true 5 (scopeAt (K1 G.w.params) 114) (bodyAt (K1 G.w.params) 114) m∧∀ ds kd σ r,sGetall ds kd σ=some r→((bfOf 2 [] [("self", .pos 0),("name", .pos 1)] ds kd).bind fun bd=>Mf.fn m (frB bd fun _=>none) σ)=some r:=by
    refine ⟨_,(Exs.cons (Ex.asgn (Ev.methI (i1_76 h) (i2_76 h) (i3_76 h) (i4_76 h) (Ev.loc rfl rfl) (ms:=[_]) (mk:=[("name", _)]) ⟨(Ev.methS F.slot_str_lower F.type_str_lower (Ev.cel rfl rfl) (ms:=[]) (mk:=[]) trivial trivial Ca.lower),trivial⟩ ⟨rfl,Ev.kBool,trivial⟩ ((f_conv h).up (by omega)).ca) (As.name (Or.inr rfl)) (sw_of fun env=>⟨rfl,by kernel_rfl,by kernel_rfl⟩))
    (Exs.cons (Ex.ret (Ev.lcF (CompL.one (W:=[]) (at_headers h (Ev.loc rfl rfl)) (AsC.name rfl) (Ts.one (Cd.cmp (Ev.methS F.slot_str_lower F.type_str_lower (Ev.sub (Ev.loc rfl rfl) Ev.kInt Op2.idx rfl) (ms:=[]) (mk:=[]) trivial trivial Ca.lower) (Ev.cel rfl rfl) (Op2.eq (by omega)))) (Ev.sub (Ev.loc rfl rfl) Ev.kInt Op2.idx rfl) (by first | rfl | kernel_rfl))))
    Exs.nil)),?_⟩
    intro ds kd σ r hr
    replace hr:=on2_inv dRef_eq dStr_eq hr
    obtain ⟨k,x,rfl,rfl,hr⟩:=hr
    replace hr:=ite_inv hr
    obtain ⟨hx,hr⟩:=hr
    obtain ⟨⟨j,ps⟩,hh,hr⟩:=Option.map_eq_some_iff.mp hr
    cases hr
    (refine xAAA (hdr_ok hh) fun h1 h2 h3 h4=>?_)
    have i1:isIns 175 "_convert_string_type" (.ref k) σ=true:=isIns_ok h1 (by rw [Ne,ofs_inj]; decide)
    simp only [bfOf,List.length_cons,List.length_nil,List.map_cons,List.map_nil,if_true,Nat.reduceAdd,Option.bind_some,Sr.dat,List.getD_cons_zero,List.getD_cons_succ]
    simp only [Mf.fn,Mf.seq,Mf.bind,Mf.lift,Mf.set,Mf.pure,Mo.op2,Mo.bind,Mo.args,seq_nil,seq_cons,seqK_nil,seqK_cons,Mo.pure,Mo.var,Mo.tru,Mo.meth,Mo.chk,Mo.attr,frB_nil,frB_cons,upd_same,upd_diff,one1_at,Option.map_some,↓reduceIte,Bool.false_eq_true,String.reduceBEq,isStr_str,i1,fLower,sConv_str,sConv_int,shortS_le hx.1,hx.2]
    rw [lcRun_pure (σ1:=σ) (d:=.ref j) (x:=⟨ps.map pD,fun σ=>σ[j]? = some (.lst (ps.map pD))⟩) (fun fr=>fr "name" = some (.str (Txt.lower x))) (fun d=>match d with
      | .tup [.str a,_]=>Txt.lower a == Txt.lower x
      | _=>false) (fun d=>match d with
      | .tup [_,b]=>b
      | _=>.none) (by simp only [Mo.bind,Mo.var,upd_same,upd_diff,Option.map_some,↓reduceIte,String.reduceBEq,h1,lookup_one]) (by unfold srcD; simp only [h2]) h2 (by
        unfold frIn
        rw [if_pos (by kernel_rfl)]
        simp only [upd_same]) (fun d hd fr hI=>by
        (refine xEA (List.mem_map.mp hd) fun p hp q0z=>?_; subst q0z)
        have hI':upd fr "kv" (pD p) "name" = some (.str (Txt.lower x)):=by simp only [upd_diff,String.reduceBEq]; exact hI
        refine ⟨rfl,hI',?_,fun _=>⟨upd fr "kv" (pD p),hI',?_⟩⟩
        · simp only [Mo.bind,Mo.pure,Mo.var,Mo.opt,Mo.chk,upd_same,upd_diff,one1_at,Option.map_some,↓reduceIte,String.reduceBEq,isStr_str,truD_bool,fLower_str,pD,sub_tup,fIdx_0,shortS_le (h4 p hp).1,hI,opEq_str σ (short_lower (h4 p hp).1) (short_lower hx.1)]
        · simp only [emOne,pD,Mo.bind,Mo.pure,Mo.var,upd_same,Option.map_some,↓reduceIte,sub_tup,fIdx_1])]
    simp only [List.filter_map,List.map_map]
    rw [if_pos (by rw [List.length_map]; have e:sizeLine=16777216:=rfl; have:=List.length_filter_le (l:=ps) (p:=(fun d=>match d with
      | .tup [.str a,_]=>Txt.lower a == Txt.lower x
      | _=>false) ∘ pD); omega)]
    rfl
  (refine xEA body fun m hm hs=>?_; try clear body)
  refine Fn.mono (Fn.at h (ok_114 _) (Bnd.plan (by exact ⟨trivial,trivial,trivial⟩) ?_) ?_ hm) hs
  · intro S vs kw hv hk
    refine Eq.trans (congrArg (fun K=>peek K S _) h) ?_
    (refine xEE (len2 hv) fun v0 v1 q0z=>?_; subst q0z)
    obtain rfl:=kw0 hk
    kernel_rfl
  · exact bfOf_all (by kernel_rfl)
end
end Mine
end
section
open PySem PySem.W PyProof.Rows PySem.Calls
set_option maxRecDepth 100000
set_option maxHeartbeats 4000000
namespace Mine
/-! statements, evaluated -/
theorem xEEE {T0 T1 T2:Type} {P0:T0→T1→T2→Prop} (h:∃ a0 a1 a2,P0 a0 a1 a2) {G:Prop} (k:∀ a0 a1 a2,P0 a0 a1 a2→G):G:=h.elim fun a0 h0=>h0.elim fun a1 h1=>h1.elim fun a2 h2=>k a0 a1 a2 h2
section
variable {α β:Type} {fr fr1:Fr} {σ σ1 σ2:List AO} {X:String} {msg:PySem.Str}
theorem ev_bindX {m:Mf α} {f:α→Mf β} (h:m fr σ=some (.exc X msg,fr1,σ1)):Mf.bind m f fr σ=some (.exc X msg,fr1,σ1):=bind_exc h
theorem ev_mbindX {m:Mo α} {f:α→Mo β} (h:m fr σ=some (.exc X msg,σ1)):Mo.bind m f fr σ=some (.exc X msg,σ1):=by unfold Mo.bind; rw [h]
theorem seq_next {m k:Mf SF} {r:Option (Out SF × Fr × List AO)} (h:m fr σ=some (.val .next,fr1,σ1)) (h2:k fr1 σ1=r):Mf.seq m k fr σ=r:=ev_bind h h2
theorem seq_ret {m k:Mf SF} {d:D} (h:m fr σ=some (.val (.ret d),fr1,σ1)):Mf.seq m k fr σ=some (.val (.ret d),fr1,σ1):=ev_bind h rfl
theorem seq_cont {m k:Mf SF} (h:m fr σ=some (.val .cont,fr1,σ1)):Mf.seq m k fr σ=some (.val .cont,fr1,σ1):=ev_bind h rfl
theorem seq_exc {m k:Mf SF} (h:m fr σ=some (.exc X msg,fr1,σ1)):Mf.seq m k fr σ=some (.exc X msg,fr1,σ1):=bind_exc h
theorem fn_next {m k:Mf SF} {r:Option (Out D × List AO)} (h:m fr σ=some (.val .next,fr1,σ1)) (h2:Mf.fn k fr1 σ1=r):Mf.fn (Mf.seq m k) fr σ=r:=by
  rw [← h2]; unfold Mf.fn; rw [seq_next h rfl]
theorem fn_ret {m k:Mf SF} {d:D} (h:m fr σ=some (.val (.ret d),fr1,σ1)):Mf.fn (Mf.seq m k) fr σ=some (.val d,σ1):=by
  unfold Mf.fn; rw [seq_ret h]
theorem fn_exc {m k:Mf SF} (h:m fr σ=some (.exc X msg,fr1,σ1)):Mf.fn (Mf.seq m k) fr σ=some (.exc X msg,σ1):=by
  unfold Mf.fn; rw [seq_exc h]
theorem fn_by {m k:Mf SF} {r:Option (Out D × List AO)} (Q:Fr→Prop) (o:Out SF) (σ1:List AO) (h:∃ fr',Q fr'∧m fr σ=some (o,fr',σ1)) (h2:∀ fr',Q fr'→m fr σ=some (o,fr',σ1)→Mf.fn (Mf.seq m k) fr σ=r):Mf.fn (Mf.seq m k) fr σ=r:=h.elim fun fr' e=>h2 fr' e.1 e.2
theorem fn_end:Mf.fn (Mf.pure .next) fr σ=some (.val .none,σ):=rfl
theorem st_set {m:Mo D} {x:PySem.Str} {d:D} (h:m fr σ=some (.val d,σ1)):Mf.bind (Mf.lift m) (fun d=>Mf.bind (Mf.set x d) fun _=>Mf.pure SF.next) fr σ=some (.val .next,upd fr x d,σ1):=ev_bind (ev_lift h) rfl
theorem st_expr {m:Mo D} {d:D} (h:m fr σ=some (.val d,σ1)):Mf.bind (Mf.lift m) (fun _=>Mf.pure SF.next) fr σ=some (.val .next,fr,σ1):=ev_bind (ev_lift h) rfl
theorem st_x {m:Mo α} {f:α→Mf β} (h:m fr σ=some (.exc X msg,σ1)):Mf.bind (Mf.lift m) f fr σ=some (.exc X msg,fr,σ1):=bind_exc (ev_lift h)
theorem st_ret {m:Mo D} {d:D} (h:m fr σ=some (.val d,σ1)):Mf.bind (Mf.lift m) (fun d=>Mf.pure (SF.ret d)) fr σ=some (.val (.ret d),fr,σ1):=ev_bind (ev_lift h) rfl
theorem st_ifT {m:Mo Bool} {a b:Mf SF} {r:Option (Out SF × Fr × List AO)} (h:m fr σ=some (.val true,σ1)) (h2:a fr σ1=r):Mf.bind (Mf.lift m) (fun c=>if c then a else b) fr σ=r:=ev_bind (ev_lift h) h2
theorem st_ifF {m:Mo Bool} {a b:Mf SF} {r:Option (Out SF × Fr × List AO)} (h:m fr σ=some (.val false,σ1)) (h2:b fr σ1=r):Mf.bind (Mf.lift m) (fun c=>if c then a else b) fr σ=r:=ev_bind (ev_lift h) h2
theorem st_for {m:Mo Src} {x:Src} {f:Src→Mf SF} {r:Option (Out SF × Fr × List AO)} (h:m fr σ=some (.val x,σ1)) (h2:f x fr σ1=r):Mf.bind (Mf.lift m) f fr σ=r:=ev_bind (ev_lift h) h2
theorem ev_tgt2 {x y:PySem.Str} {a b:D} : Mf.tupA [Mf.set x,Mf.set y] (.tup [a,b]) fr σ=some (.val (),upd (upd fr x a) y b,σ):=rfl
theorem ev_turn {tgt:D→Mf Unit} {body:Mf SF} {d:D} {r:Option (Out SF × Fr × List AO)} (h:tgt d fr σ=some (.val (),fr1,σ1)) (h2:body fr1 σ1=r):turn tgt body d fr σ=r:=ev_bind h h2
theorem ev_tupX {ms:List (Mo D)} (h:Mo.seq ms fr σ=some (.exc X msg,σ1)):Mo.tup ms fr σ=some (.exc X msg,σ1):=ev_mbindX h
theorem ev_sconsX {m:Mo D} {ms:List (Mo D)} (h:m fr σ=some (.exc X msg,σ1)):Mo.seq (m :: ms) fr σ=some (.exc X msg,σ1):=ev_mbindX h
theorem ev_scons2 {m:Mo D} {ms:List (Mo D)} {d:D} (h:m fr σ=some (.val d,σ1)) (h2:Mo.seq ms fr σ1=some (.exc X msg,σ2)):Mo.seq (m :: ms) fr σ=some (.exc X msg,σ2):=ev_mbind h (ev_mbindX h2)
theorem ev_methX {P:D→List AO→Bool} {mf:Fm} {mo:Mo D} {ms:List (Mo D)} {mk:List (PySem.Str × Mo D)} {d:D} (h:mo fr σ=some (.val d,σ1)) (hP:P d σ1=true) (h1:Mo.seq ms fr σ1=some (.exc X msg,σ2)):Mo.meth P mf mo ms mk fr σ=some (.exc X msg,σ2) :=
  ev_mbind h (ev_mbind (a:=()) (σ1:=σ1) (by unfold Mo.chk; rw [if_pos hP]) (ev_mbindX (ev_mbindX h1)))
/-- a call of a method of the table's -/
theorem ev_met0 {P:D→List AO→Bool} {mf:Fm} {mo:Mo D} {d:D} {r:Option (Out D × List AO)} (h:mo fr σ=some (.val d,σ1)) (hP:P d σ1=true) (h3:mf [d] [] σ1=r):Mo.meth P mf mo [] [] fr σ=r:=ev_meth h hP rfl rfl h3
theorem ev_met1 {P:D→List AO→Bool} {mf:Fm} {mo m1:Mo D} {d d1:D} {r:Option (Out D × List AO)} (h:mo fr σ=some (.val d,σ1)) (hP:P d σ1=true) (h1:m1 fr σ1=some (.val d1,σ2)) (h3:mf [d,d1] [] σ2=r):Mo.meth P mf mo [m1] [] fr σ=r:=ev_meth h hP (ev_scons h1 rfl) rfl h3
theorem ev_met2 {P:D→List AO→Bool} {mf:Fm} {mo m1 m2:Mo D} {d d1 d2:D} {σ3:List AO} {r:Option (Out D × List AO)} (h:mo fr σ=some (.val d,σ1)) (hP:P d σ1=true) (h1:m1 fr σ1=some (.val d1,σ2)) (h2:m2 fr σ2=some (.val d2,σ3)) (h3:mf [d,d1,d2] [] σ3=r):Mo.meth P mf mo [m1,m2] [] fr σ=r:=ev_meth h hP (ev_scons h1 (ev_scons h2 rfl)) rfl h3
theorem ev_call1 {mf:Fm} {m1:Mo D} {d1:D} {r:Option (Out D × List AO)} (h1:m1 fr σ=some (.val d1,σ1)) (h3:mf [d1] [] σ1=r):Mo.calF mf [m1] [] fr σ=r:=ev_calF (ev_scons h1 rfl) rfl h3
theorem ev_call2 {mf:Fm} {m1 m2:Mo D} {d1 d2:D} {r:Option (Out D × List AO)} (h1:m1 fr σ=some (.val d1,σ1)) (h2:m2 fr σ1=some (.val d2,σ2)) (h3:mf [d1,d2] [] σ2=r):Mo.calF mf [m1,m2] [] fr σ=r:=ev_calF (ev_scons h1 (ev_scons h2 rfl)) rfl h3
theorem ev_sub {mo mi:Mo D} {a b d:D} (h:mo fr σ=some (.val a,σ1)) (h2:mi fr σ1=some (.val b,σ2)) (hs:isSub a σ2=true) (hi:fIdx σ2 a b=some d):Mo.bind mo (fun a=>Mo.bind mi fun b _ σ=>if isSub a σ then (fIdx σ a b).map fun d=>(Out.val d,σ) else none) fr σ=some (.val d,σ2):=by
  refine ev_mbind h (ev_mbind h2 ?_)
  rw [if_pos hs,hi]; rfl
theorem ev_low {m:Mo D} {x:PySem.Str} (h:m fr σ=some (.val (.str x),σ1)) (hx:x.length ≤ 5592405):Mo.meth isStr (one1 fLower) m [] [] fr σ=some (.val (.str (Txt.lower x)),σ1):=ev_met0 h rfl (ev_one1 (by rw [fLower_str,if_pos hx]))
theorem ev_lcF {scope:Scope} {m:Mo D} {tgt:D→Fr→Fr} {ok:D→Bool} {test:Mo Bool} {em:Em D} (I:Fr→Prop) (t:D→Bool) (f:D→D) {d:D} {x:Src} {zs:List D} (hm:m fr σ=some (.val d,σ1)) (hx:srcD d σ1=some x) (hP:x.P σ1) (h0:I (frIn scope fr))
    (h:∀ d ∈ x.ds,∀ fr,I fr→ok d=true∧I (tgt d fr)∧test (tgt d fr) σ1=some (.val (t d),σ1)∧(t d=true→∃ fr2,I fr2∧em (tgt d fr) σ1=some ([f d],fr2,σ1))) (e:(x.ds.filter t).map f=zs) (hz:zs.length ≤ sizeLine) :
    (match lcRun scope m tgt ok test em fr σ with
    | some (zs,σ')=>if zs.length ≤ sizeLine then some (Out.val (D.lst zs),σ') else none
    | none=>none)=some (.val (.lst zs),σ1):=by
  rw [lcRun_pure I t f hm hx hP h0 h,e]
  exact if_pos hz
theorem ev_frIn {scope:Scope} {x:PySem.Str} {d:D} (h:frIn scope fr x=fr x) (h2:fr x=some d):frIn scope fr x=some d:=h.trans h2
theorem ev_slcF {mo:Mo D} {k:Nat} {ds es:List D} (h:mo fr σ=some (.val (.ref k),σ1)) (h2:σ1[k]? = some (.lst ds)) (h3:ds.length + es.length ≤ sizeLine):Mf.slcF mo (.lst es) fr σ=some (.val (),fr,σ1.set k (.lst es)):=by
  refine ev_bind (ev_lift h) ?_
  show (Option.bind (some k) fun k=>Option.bind (some es) fun es=>(atL σ1 k).bind fun ds=>_)=_
  rw [Option.bind_some,Option.bind_some,atL_mk h2,Option.bind_some,if_pos h3]
theorem st_asgn {m:Mo D} {f:D→Mf Unit} {d:D} (h:m fr σ=some (.val d,σ1)) (h2:f d fr σ1=some (.val (),fr1,σ2)):Mf.bind (Mf.lift m) (fun d=>Mf.bind (f d) fun _=>Mf.pure SF.next) fr σ=some (.val .next,fr1,σ2):=ev_bind (ev_lift h) (ev_bind h2 rfl)
end
end Mine
end
section
open PySem PySem.W PyProof.Rows PySem.Calls
set_option maxRecDepth 100000
set_option maxHeartbeats 4000000
namespace Mine
local macro_rules | `(tactic| dsimp! only [$xs:simpLemma,*]) => `(tactic| repeat' first | with_reducible (first | assumption | exact ev_truB | exact ev_l0 | exact ev_l1 | exact ev_l2 | exact ev_l3 | exact ev_l4 | exact ev_l5 | exact ev_l6 | exact ev_l7 | exact ev_l8 | exact ev_fnR | exact ev_fnN | exact ev_pure | exact ev_mpure | exact ev_set | exact ev_snil | exact ev_knil | exact ev_anil | exact ev_onil | exact ev_part0 | exact ev_swap2 | exact ev_goA0 | exact upd_same _ _ _ | apply ev_there | apply ev_seq | apply ev_bind | apply ev_lift | apply ev_var | apply ev_op2 | apply ev_op1 | apply ev_tru | apply ev_ite | apply ev_ifT | apply ev_ifF | apply ev_scons | apply ev_kcons | apply ev_calF | apply ev_one1 | apply ev_one2 | apply ev_meth | apply ev_lst | apply ev_tup | apply ev_lstR | apply ev_acons | apply ev_ocons | apply ev_attr | apply ev_part1 | apply ev_src | apply ev_tupA | apply ev_goA | apply ev_emOne | apply ev_mbind | apply ev_opt | apply ev_when | apply ev_omap | apply ev_obool | apply ev_onot | apply ev_fn | rfl) | decide | (simp only [$xs,*]; rfl) | simp only [$xs,*])
section
section
/-- a name -/
noncomputable def okN (x:PySem.Str):Bool:=shortS x && (!(x.cps.toList.any ctlN) && !((Txt.lower x).cps.toList.any ctlN))
structure OkN (x:PySem.Str):Prop where
  short:shortS x=true
  ctl:x.cps.toList.any ctlN=false
  low:(Txt.lower x).cps.toList.any ctlN=false
theorem okN_ok {x:PySem.Str} (h:okN x=true):OkN x:=by
  unfold okN at h
  simp only [Bool.and_eq_true,Bool.not_eq_true'] at h
  exact ⟨h.1,h.2.1,h.2.2⟩
theorem conv_n {a:D} {x:PySem.Str} {σ:List AO} (h:x.cps.toList.any ctlN=false):sConv [a,.str x] [("name", .bool true)] σ=some (.val (.str x),σ):=by
  rw [sConv_str,if_pos rfl,h]; rfl
theorem conv_v {a:D} {x:PySem.Str} {σ:List AO} (h:x.cps.toList.any ctlV=false):sConv [a,.str x] [("name", .bool false)] σ=some (.val (.str x),σ):=by
  rw [sConv_str,if_neg Bool.false_ne_true,h]; rfl
theorem conv_x {a:D} {x:PySem.Str} {σ:List AO} (h:x.cps.toList.any ctlV=true):sConv [a,.str x] [("name", .bool false)] σ=some (.exc "ValueError" msgV,σ):=by
  rw [sConv_str,if_neg Bool.false_ne_true,h]; rfl
noncomputable abbrev Tb:=List (PySem.Str × PySem.Str)
noncomputable def isN (x:PySem.Str) (p:PySem.Str × PySem.Str):Bool:=Txt.lower p.1 == x
/-- the first value of a name -/
noncomputable def fst? (ps:Tb) (x:PySem.Str) (d:D):D:=((ps.find? (isN x)).map fun p=>D.str p.2).getD d
theorem low_ev {x:PySem.Str} {σ:List AO} (h:shortS x=true):fLower (.str x) σ=some (.val (.str (Txt.lower x)),σ):=by rw [fLower_str,if_pos (shortS_le h)]
theorem opNe_str (σ:List AO) {x y:PySem.Str} (hx:shortS x=true) (hy:shortS y=true):opNe (.str x) (.str y) σ=some (.val (.bool (!(x == y))),σ):=by
  unfold opNe
  rw [py_str σ hx,py_str σ hy]
  rfl
noncomputable def retN:Option D→Out SF
  | none=>.val .next
  | some d=>.val (.ret d)
/-- a loop that leaves the store and ends at the first hit -/
theorem each_ret {P:List AO→Prop} {tgt:D→Mf Unit} {body:Mf SF} (I:Fr→Prop) {σ:List AO} (hP:P σ) (c:D→Option D) :
    ∀ {ds:List D},(∀ d ∈ ds,∀ fr,I fr→∃ fr',I fr'∧turn tgt body d fr σ=some (retN (c d),fr',σ))→∀ fr,I fr→∃ fr',I fr'∧Mf.each P tgt body ds fr σ=some (retN (ds.findSome? c),fr',σ)
  | [],_,fr,hI=>⟨fr,hI,each_nil hP⟩
  | d :: ds,h,fr,hI=>by
    (refine xEA (h d (.head _) fr hI) fun fr1 h1 e1=>?_)
    cases hc:c d with
    | some e =>
      refine ⟨fr1,h1,?_⟩
      rw [hc] at e1
      rw [each_cons hP e1,List.findSome?_cons,hc]
      rfl
    | none =>
      (refine xEA (each_ret I hP c (fun d hd=>h d (.tail _ hd)) fr1 h1) fun fr2 h2 e2=>?_)
      refine ⟨fr2,h2,?_⟩
      rw [hc] at e1
      rw [each_cons hP e1,List.findSome?_cons,hc]
      exact e2
theorem fn_forRet {m:Mo Src} {x:Src} {tgt:D→Mf Unit} {body k:Mf SF} {fr:Fr} {σ:List AO} {d0:D} (I:Fr→Prop) (c:D→Option D) (hm:m fr σ=some (.val x,σ)) (hP:x.P σ) (h0:I fr) (step:∀ d ∈ x.ds,∀ fr,I fr→∃ fr',I fr'∧turn tgt body d fr σ=some (retN (c d),fr',σ)) (fin:∀ fr',I fr'→Mf.fn k fr' σ=some (.val d0,σ)) :
    Mf.fn (Mf.seq (Mf.bind (Mf.lift m) fun x=>Mf.each x.P tgt body x.ds) k) fr σ=some (.val ((x.ds.findSome? c).getD d0),σ):=by
  refine xEA (each_ret I hP c step fr h0) fun fr' hI e=>?_
  have e:=st_for (f:=fun x=>Mf.each x.P tgt body x.ds) hm e
  cases hc:x.ds.findSome? c with
  | none=>rw [hc] at e; exact fn_next e (fin fr' hI)
  | some d=>rw [hc] at e; exact fn_ret e
theorem ev_attrH {fr:Fr} {σ:List AO} {k j:Nat} {x:PySem.Str} (h:fr x=some (.ref k)) (h2:σ[k]? = some (.ins 175 [("_headers", .ref j)])):Mo.attr 175 "_headers" (Mo.var x) fr σ=some (.val (.ref j),σ) :=
  ev_attr (ev_var h) h2 (lookup_one _ _)
theorem src_ref {σ:List AO} {j:Nat} {ds:List D} (h:σ[j]? = some (.lst ds)):srcD (.ref j) σ=some ⟨ds,fun σ=>σ[j]? = some (.lst ds)⟩:=by unfold srcD; simp only [h]
noncomputable def pVal (x:PySem.Str):D→Option D
  | .tup [.str a,b]=>if Txt.lower a == x then some b else none
  | _=>none
theorem pVal_first (x:PySem.Str) (ps:Tb):(ps.map pD).findSome? (pVal x)=(ps.find? (isN x)).map fun p=>D.str p.2:=by
  induction ps with
  | nil=>rfl
  | cons p ps ih =>
    rw [List.map_cons,List.findSome?_cons,List.find?_cons]
    have e:pVal x (pD p)=if isN x p then some (D.str p.2) else none:=rfl
    rw [e]
    cases isN x p with
    | true=>rfl
    | false=>exact ih
end
section
variable {G:Amb} (h:G.K=K1 G.w.params)
include h
theorem getB:∃ m,Exs G true 5 (scopeAt (K1 G.w.params) 122) (bodyAt (K1 G.w.params) 122) m∧∀ fr σ k x d j ps,fr "self" = some (.ref k)→fr "name" = some (.str x)→fr "default" = some d→okN x=true→hdr σ k=some (j,ps)→Mf.fn m fr σ=some (.val (fst? ps (Txt.lower x) d),σ):=by
  refine ⟨_,(Exs.cons (Ex.asgn (Ev.methI (i1_76 h) (i2_76 h) (i3_76 h) (i4_76 h) (Ev.loc rfl rfl) (ms:=[_]) (mk:=[("name", _)]) ⟨(Ev.methS F.slot_str_lower F.type_str_lower (Ev.loc rfl rfl) (ms:=[]) (mk:=[]) trivial trivial Ca.lower),trivial⟩ ⟨rfl,Ev.kBool,trivial⟩ ((f_conv h).up (by omega)).ca) (As.name (Or.inl rfl)) (sw_of fun env=>⟨rfl,by kernel_rfl,by kernel_rfl⟩))
    (Exs.cons (Ex.for (Itr.ev (at_headers h (Ev.loc rfl rfl)))
      (As.tup (fs:=[_,_]) ⟨(As.name (Or.inl rfl)),(As.name (Or.inl rfl)),trivial⟩ rfl)
      (Exs.cons (Ex.ite (Cd.cmp (Ev.methS F.slot_str_lower F.type_str_lower (Ev.loc rfl rfl) (ms:=[]) (mk:=[]) trivial trivial Ca.lower) (Ev.loc rfl rfl) (Op2.eq (by omega)))
        (Exs.cons (Ex.ret (Ev.loc rfl rfl))
        Exs.nil)
        Exs.nil)
      Exs.nil))
    (Exs.cons (Ex.ret (Ev.loc rfl rfl))
    Exs.nil))),?_⟩
  intro fr σ k x d j ps f1 f2 f3 hx hh
  refine xAAA (hdr_ok hh) fun h1 h2 h3 h4=>?_
  have ox:=okN_ok hx
  have i1:isIns 175 "_convert_string_type" (.ref k) σ=true:=isIns_ok h1 (by rw [Ne,ofs_inj]; decide)
  have e1:=low_ev (σ:=σ) ox.short
  have e2:=conv_n (a:=.ref k) (σ:=σ) ox.low
  refine fn_next (st_set (by dsimp! only [isStr_str])) ?_
  refine (congrArg (fun o=>some (Out.val (Option.getD o d),σ)) (pVal_first (Txt.lower x) ps)).symm ▸ fn_forRet (x:=⟨ps.map pD,fun σ=>σ[j]? = some (.lst (ps.map pD))⟩) (fun fr=>fr "name" = some (.str (Txt.lower x))∧fr "default" = some d) (pVal (Txt.lower x)) (ev_src (ev_attrH (by dsimp! only []) h1) (src_ref h2)) h2 ⟨upd_same _ _ _,by dsimp! only []⟩ (fun a ha fr hI=>?_) fun fr' hI=>fn_ret (st_ret (ev_var hI.2))
  refine xEA (List.mem_map.mp ha) fun p hp q0z=>?_
  subst q0z
  refine xA hI fun I1 I2=>?_
  have s1:=(h4 p hp).1
  have e3:=low_ev (σ:=σ) s1
  have e4:=opEq_str σ (short_lower s1) (short_lower ox.short)
  refine ⟨upd (upd fr "k" (.str p.1)) "v" (.str p.2),⟨by dsimp! only [],by dsimp! only []⟩,ev_turn ev_tgt2 ?_⟩
  have e5:pVal (Txt.lower x) (pD p)=if Txt.lower p.1 == Txt.lower x then some (.str p.2) else none:=rfl
  rw [e5]
  cases hb:Txt.lower p.1 == Txt.lower x with
  | true =>
    rw [hb] at e4
    exact seq_ret (st_ifT (by dsimp! only [isStr_str]) (seq_ret (st_ret (by dsimp! only []))))
  | false =>
    rw [hb] at e4
    exact seq_next (st_ifF (by dsimp! only [isStr_str]) rfl) rfl
end
end
section
section
noncomputable def sGet2:Fm:=on2 dRef dStr fun k x σ=>if okN x=true then (hdr σ k).map fun r=>(.val (fst? r.2 (Txt.lower x) .none),σ) else none
noncomputable def sGet3:Fm:=on3 dRef dStr dStr fun k x y σ=>if okN x=true then (hdr σ k).map fun r=>(.val (fst? r.2 (Txt.lower x) (.str y)),σ) else none
theorem get2_at {σ:List AO} {k j:Nat} {x:PySem.Str} {ps:Tb} (hx:okN x=true) (hh:hdr σ k=some (j,ps)):sGet2 [.ref k,.str x] [] σ=some (.val (fst? ps (Txt.lower x) .none),σ):=by
  refine (on2_mk (p:=dRef) (q:=dStr) rfl rfl).trans ?_
  rw [if_pos hx,hh]; rfl
theorem get3_at {σ:List AO} {k j:Nat} {x y:PySem.Str} {ps:Tb} (hx:okN x=true) (hh:hdr σ k=some (j,ps)):sGet3 [.ref k,.str x,.str y] [] σ=some (.val (fst? ps (Txt.lower x) (.str y)),σ):=by
  refine (on3_mk (p:=dRef) (q:=dStr) (u:=dStr) rfl rfl rfl).trans ?_
  rw [if_pos hx,hh]; rfl
/-- whether a name stands -/
noncomputable def has (ps:Tb) (x:PySem.Str):Bool:=ps.any (isN x)
theorem fst_is {ps:Tb} {x:PySem.Str} : fIs (fst? ps x .none) .none=some (!has ps x):=by
  unfold fst? has
  induction ps with
  | nil=>rfl
  | cons p ps ih =>
    rw [List.find?_cons,List.any_cons]
    cases isN x p with
    | true=>rfl
    | false=>rw [Bool.false_or]; exact ih
noncomputable def sIn:Fm:=on2 dRef dStr fun k x σ=>if okN x=true then (hdr σ k).map fun r=>(.val (.bool (has r.2 (Txt.lower x))),σ) else none
theorem in_at {σ:List AO} {k j:Nat} {x:PySem.Str} {ps:Tb} (hx:okN x=true) (hh:hdr σ k=some (j,ps)):sIn [.ref k,.str x] [] σ=some (.val (.bool (has ps (Txt.lower x))),σ):=by
  refine (on2_mk (p:=dRef) (q:=dStr) rfl rfl).trans ?_
  rw [if_pos hx,hh]; rfl
/-- the table takes other rows -/
noncomputable def tbSet (σ:List AO) (j:Nat) (ps:Tb):List AO:=σ.set j (.lst (ps.map pD))
theorem hdr_set {σ:List AO} {k j:Nat} {ps qs:Tb} (hh:hdr σ k=some (j,ps)) (h3:qs.length ≤ 1000) (h4:∀ p ∈ qs,shortS p.1=true∧shortS p.2=true):hdr (tbSet σ j qs) k=some (j,qs):=by
  refine xAAA (hdr_ok hh) fun h1 h2 _ _=>?_
  have hne:j ≠ k:=fun e=>by rw [e,h1] at h2; injection h2 with h2; injection h2
  have hlt:j < σ.length:=(List.getElem?_eq_some_iff.mp h2).1
  exact hdr_of (by unfold tbSet; rw [List.getElem?_set_ne hne]; exact h1) (by unfold tbSet; rw [List.getElem?_set_self hlt]) h3 h4
/-- a row laid -/
noncomputable def layO (σ:List AO) (j:Nat) (ps:Tb) (n v:PySem.Str) (d:D):Out D × List AO:=if v.cps.toList.any ctlV then (.exc "ValueError" msgV,σ) else (.val d,tbSet σ j (ps ++ [(n,v)]))
noncomputable def sSetdef:Fm:=on3 dRef dStr dStr fun k x v σ=>if okN x=true∧shortS v=true then (hdr σ k).map fun r=>if has r.2 (Txt.lower x) then (.val (fst? r.2 (Txt.lower x) .none),σ) else layO σ r.1 r.2 x v (.str v) else none
theorem setdef_at {σ:List AO} {k j:Nat} {x v:PySem.Str} {ps:Tb} (hx:okN x=true) (hv:shortS v=true) (hh:hdr σ k=some (j,ps)):sSetdef [.ref k,.str x,.str v] [] σ=some (if has ps (Txt.lower x) then (.val (fst? ps (Txt.lower x) .none),σ) else layO σ j ps x v (.str v)):=by
  refine (on3_mk (p:=dRef) (q:=dStr) (u:=dStr) rfl rfl rfl).trans ?_
  rw [if_pos ⟨hx,hv⟩,hh]; rfl
noncomputable def fil (ps:Tb) (x:PySem.Str):Tb:=ps.filter fun p=>!isN x p
noncomputable def sDel:Fm:=on2 dRef dStr fun k x σ=>if okN x=true then (hdr σ k).map fun r=>(.val .none,tbSet σ r.1 (fil r.2 (Txt.lower x))) else none
theorem del_at {σ:List AO} {k j:Nat} {x:PySem.Str} {ps:Tb} (hx:okN x=true) (hh:hdr σ k=some (j,ps)):sDel [.ref k,.str x] [] σ=some (.val .none,tbSet σ j (fil ps (Txt.lower x))):=by
  refine (on2_mk (p:=dRef) (q:=dStr) rfl rfl).trans ?_
  rw [if_pos hx,hh]; rfl
theorem fil_le (ps:Tb) (x:PySem.Str):(fil ps x).length ≤ ps.length:=List.length_filter_le ..
theorem fil_mem {ps:Tb} {x:PySem.Str} {p:PySem.Str × PySem.Str} (h:p ∈ fil ps x):p ∈ ps:=(List.mem_filter.mp h).1
noncomputable def sSet:Fm:=on3 dRef dStr dStr fun k x v σ=>if okN x=true∧shortS v=true then (hdr σ k).map fun r=>layO (tbSet σ r.1 (fil r.2 (Txt.lower x))) r.1 (fil r.2 (Txt.lower x)) x v .none else none
theorem set_at_ {σ:List AO} {k j:Nat} {x v:PySem.Str} {ps:Tb} (hx:okN x=true) (hv:shortS v=true) (hh:hdr σ k=some (j,ps)):sSet [.ref k,.str x,.str v] [] σ=some (layO (tbSet σ j (fil ps (Txt.lower x))) j (fil ps (Txt.lower x)) x v .none):=by
  refine (on3_mk (p:=dRef) (q:=dStr) (u:=dStr) rfl rfl rfl).trans ?_
  rw [if_pos ⟨hx,hv⟩,hh]; rfl
/-- `self._headers.append((conv(name), conv(value)))` -/
noncomputable abbrev rowM (x y:PySem.Str):Mo D:=Mo.meth isRefL (one2 fAppend) (Mo.attr 175 "_headers" (Mo.var "self")) [Mo.tup [Mo.meth (isIns 175 "_convert_string_type") sConv (Mo.var "self") [Mo.var x] [("name", Mo.pure (.bool true))],Mo.meth (isIns 175 "_convert_string_type") sConv (Mo.var "self") [Mo.var y] [("name", Mo.pure (.bool false))]]] []
theorem app_at {σ:List AO} {k j:Nat} {ps:Tb} {n v:PySem.Str} (hh:hdr σ k=some (j,ps)):fAppend (.ref j) (.tup [.str n,.str v]) σ=some (.val .none,tbSet σ j (ps ++ [(n,v)])):=by
  refine xAAA (hdr_ok hh) fun _ h2 h3 _=>?_
  unfold fAppend tbSet
  simp only [h2]
  rw [if_pos (by rw [List.length_map]; have e:sizeLine=16777216:=rfl; omega),List.map_append]; rfl
theorem refL_at {σ:List AO} {k j:Nat} {ps:Tb} (hh:hdr σ k=some (j,ps)):isRefL (.ref j) σ=true:=by
  refine xAAA (hdr_ok hh) fun _ h2 _ _=>?_
  unfold isRefL; simp only [h2]
theorem ins_at {σ:List AO} {k j:Nat} {ps:Tb} {x:String} (hh:hdr σ k=some (j,ps)) (hx:(x == "_headers")=false):isIns 175 x (.ref k) σ=true:=by
  refine xAAA (hdr_ok hh) fun h1 _ _ _=>?_
  exact isIns_ok h1 (by rw [Ne,ofs_inj]; simpa using hx)
theorem row_at {x y:PySem.Str} {fr:Fr} {σ:List AO} {k j:Nat} {ps:Tb} {n v:PySem.Str} (hh:hdr σ k=some (j,ps)) (f1:fr "self" = some (.ref k)) (f2:fr x=some (.str n)) (f3:fr y=some (.str v)) (hn:okN n=true) :
    rowM x y fr σ=some (layO σ j ps n v .none):=by
  refine xAAA (hdr_ok hh) fun h1 h2 _ _=>?_
  have ox:=okN_ok hn
  have i1:isIns 175 "_convert_string_type" (.ref k) σ=true:=ins_at hh rfl
  have e0:=ev_attrH f1 h1
  have e1:=conv_n (a:=.ref k) (σ:=σ) ox.ctl
  have e2:=refL_at hh
  have e3:=app_at (n:=n) (v:=v) hh
  unfold layO
  cases hv:v.cps.toList.any ctlV with
  | true =>
    have e4:=conv_x (a:=.ref k) (σ:=σ) hv
    exact ev_methX e0 e2 (ev_sconsX (ev_tupX (ev_scons2 (by dsimp! only []) (ev_sconsX (by dsimp! only [])))))
  | false =>
    have e4:=conv_v (a:=.ref k) (σ:=σ) hv
    exact ev_met1 (σ1:=σ) (σ2:=σ) e0 e2 (by dsimp! only []) e3
end
section
variable {G:Amb} (h:G.K=K1 G.w.params)
include h
theorem q_seq:noSeq G.K 175=true:=by rw [h]; rfl
theorem f_get2:Fn G true 6 122 sGet2:=by
  refine xEA (getB h) fun m hm hs=>?_
  refine Fn.mono (Fn.at h (ok_122 _) (Bnd.plan (k:=2) (ks:=[]) (pl:=[("self", .pos 0),("name", .pos 1),("default", .con .none .none)]) (by exact ⟨trivial,trivial,(fun _ _ _ _=>.none),trivial⟩) ?_) ?_ hm) ?_
  · intro S vs kw hv hk
    refine Eq.trans (congrArg (fun K=>peek K S _) h) ?_
    (refine xEE (len2 hv) fun v0 v1 q0z=>?_; subst q0z)
    obtain rfl:=kw0 hk
    kernel_rfl
  · exact bfOf_all (by kernel_rfl)
  · intro ds kd σ r hr
    refine xEE (on2_inv dRef_eq dStr_eq hr) fun k x e=>?_
    refine xAA e fun e1 e2 hr=>?_
    subst e1
    subst e2
    refine xA (ite_inv hr) fun hx hr=>?_
    refine xEA (Option.map_eq_some_iff.mp hr) fun r hh e=>?_
    rw [← e]
    exact hs (upd (upd (upd (fun _=>none) "self" (.ref k)) "name" (.str x)) "default" .none) σ k x .none r.1 r.2 (by dsimp! only []) (by dsimp! only []) (by dsimp! only []) hx hh
theorem f_get3:Fn G true 6 122 sGet3:=by
  refine xEA (getB h) fun m hm hs=>?_
  refine Fn.mono (Fn.at h (ok_122 _) (Bnd.plan (k:=3) (ks:=[]) (pl:=[("self", .pos 0),("name", .pos 1),("default", .pos 2)]) (by exact ⟨trivial,trivial,trivial,trivial⟩) ?_) ?_ hm) ?_
  · intro S vs kw hv hk
    refine Eq.trans (congrArg (fun K=>peek K S _) h) ?_
    (refine xEEE (len3 hv) fun v0 v1 v2 q0z=>?_; subst q0z)
    obtain rfl:=kw0 hk
    kernel_rfl
  · exact bfOf_all (by kernel_rfl)
  · intro ds kd σ r hr
    refine xEEE (on3_inv dRef_eq dStr_eq dStr_eq hr) fun k x y e=>?_
    refine xAA e fun e1 e2 hr=>?_
    subst e1
    subst e2
    refine xA (ite_inv hr) fun hx hr=>?_
    refine xEA (Option.map_eq_some_iff.mp hr) fun r hh e=>?_
    rw [← e]
    exact hs (upd (upd (upd (fun _=>none) "self" (.ref k)) "name" (.str x)) "default" (.str y)) σ k x (.str y) r.1 r.2 (by dsimp! only []) (by dsimp! only []) (by dsimp! only []) hx hh
theorem f_in:Fn G true 7 109 sIn:=by
  have body:∃ m,Exs G true 6 (scopeAt (K1 G.w.params) 109) (bodyAt (K1 G.w.params) 109) m∧∀ ds kd σ r,sIn ds kd σ=some r→((bfOf 2 [] [("self", .pos 0),("name", .pos 1)] ds kd).bind fun bd=>Mf.fn m (frB bd fun _=>none) σ)=some r:=by
    refine ⟨_,(Exs.cons (Ex.ret (Ev.cmp (Ev.methI (i1_122 h) (i2_122 h) (i3_122 h) (i4_122 h) (Ev.loc rfl rfl) (ms:=[_]) (mk:=[]) ⟨(Ev.loc rfl rfl),trivial⟩ trivial ((f_get2 h).up (by omega)).ca) Ev.kNone (Op2.isNot)))
    Exs.nil),?_⟩
    intro ds kd σ r hr
    refine xEE (on2_inv dRef_eq dStr_eq hr) fun k x e=>?_
    refine xAA e fun e1 e2 hr=>?_
    subst e1
    subst e2
    refine xA (ite_inv hr) fun hx hr=>?_
    refine xEA (Option.map_eq_some_iff.mp hr) fun r hh e=>?_
    rw [← e]
    have e3:=get2_at hx hh
    have e4:=fst_is (ps:=r.2) (x:=Txt.lower x)
    have i1:isIns 175 "get" (.ref k) σ=true:=ins_at hh rfl
    show Mf.fn _ (upd (upd (fun _=>none) "self" (.ref k)) "name" (.str x)) σ=_
    refine fn_ret (st_ret (ev_op2 (σ1:=σ) (σ2:=σ) (by dsimp! only []) ev_mpure ?_))
    rw [e4]
    exact congrArg (fun b=>some (Out.val (D.bool b),σ)) (Bool.not_not _)
  obtain ⟨m,hm,hs⟩:=body
  refine Fn.mono (Fn.at h (ok_109 _) (Bnd.plan (by exact ⟨trivial,trivial,trivial⟩) ?_) ?_ hm) hs
  · intro S vs kw hv hk
    refine Eq.trans (congrArg (fun K=>peek K S _) h) ?_
    obtain ⟨v0,v1,rfl⟩:=len2 hv
    obtain rfl:=kw0 hk
    kernel_rfl
  · intro ds kd bd hb
    unfold bfOf at hb
    split at hb
    · split at hb
      · cases hb; kernel_rfl
      · cases hb
    · cases hb
end
end
section
section
theorem isC_at {σ:List AO} {k j:Nat} {ps:Tb} (hh:hdr σ k=some (j,ps)):isC 175 (.ref k) σ=true:=by
  have:=(hdr_ok hh).1
  unfold isC
  simp only [this]; rfl
theorem st_del {C:Addr} {mf:Fm} {mo mi:Mo D} {fr:Fr} {σ σ1 σ2 σ3:List AO} {a b d:D} (h:mo fr σ=some (.val a,σ1)) (h2:mi fr σ1=some (.val b,σ2)) (hC:isC C a σ2=true) (h3:mf [a,b] [] σ2=some (.val d,σ3)) :
    (Mf.bind (Mf.lift mo) fun a=>Mf.bind (Mf.lift mi) fun b fr σ=>if isC C a σ then (match mf [a,b] [] σ with
      | some (.val _,σ')=>some (Out.val SF.next,fr,σ')
      | some (.exc X msg,σ')=>some (.exc X msg,fr,σ')
      | none=>none) else none) fr σ=some (.val .next,fr,σ3):=by
  refine ev_bind (ev_lift h) (ev_bind (ev_lift h2) ?_)
  rw [if_pos hC,h3]
end
section
variable {G:Amb} (h:G.K=K1 G.w.params)
include h
theorem f_setdef:Fn G true 8 165 sSetdef:=by
  have body:∃ m,Exs G true 7 (scopeAt (K1 G.w.params) 165) (bodyAt (K1 G.w.params) 165) m∧∀ ds kd σ r,sSetdef ds kd σ=some r→((bfOf 3 [] [("self", .pos 0),("name", .pos 1),("value", .pos 2)] ds kd).bind fun bd=>Mf.fn m (frB bd fun _=>none) σ)=some r:=by
    refine ⟨_,(Exs.cons (Ex.asgn (Ev.methI (i1_122 h) (i2_122 h) (i3_122 h) (i4_122 h) (Ev.loc rfl rfl) (ms:=[_]) (mk:=[]) ⟨(Ev.loc rfl rfl),trivial⟩ trivial ((f_get2 h).up (by omega)).ca) (As.name (Or.inl rfl)) (sw_of fun env=>⟨rfl,by kernel_rfl,by kernel_rfl⟩))
    (Exs.cons (Ex.ite (Cd.cmp (Ev.loc rfl rfl) Ev.kNone (Op2.is))
      (Exs.cons (Ex.expr (Ev.methL F.slot_list_append F.type_list_append (at_headers h (Ev.loc rfl rfl)) (ms:=[_]) (mk:=[]) ⟨(Ev.tup (ms:=[_,_]) ⟨(Ev.methI (i1_76 h) (i2_76 h) (i3_76 h) (i4_76 h) (Ev.loc rfl rfl) (ms:=[_]) (mk:=[("name", _)]) ⟨(Ev.loc rfl rfl),trivial⟩ ⟨rfl,Ev.kBool,trivial⟩ ((f_conv h).up (by omega)).ca),(Ev.methI (i1_76 h) (i2_76 h) (i3_76 h) (i4_76 h) (Ev.loc rfl rfl) (ms:=[_]) (mk:=[("name", _)]) ⟨(Ev.loc rfl rfl),trivial⟩ ⟨rfl,Ev.kBool,trivial⟩ ((f_conv h).up (by omega)).ca),trivial⟩ rfl),trivial⟩ trivial Ca.append))
      (Exs.cons (Ex.ret (Ev.loc rfl rfl))
      Exs.nil))
      (Exs.cons (Ex.ret (Ev.loc rfl rfl))
      Exs.nil))
    Exs.nil)),?_⟩
    intro ds kd σ r hr
    refine xEEE (on3_inv dRef_eq dStr_eq dStr_eq hr) fun k x v e=>?_
    refine xAA e fun e1 e2 hr=>?_
    subst e1
    subst e2
    refine xA (ite_inv hr) fun hx hr=>?_
    refine xEA (Option.map_eq_some_iff.mp hr) fun r hh e=>?_
    rw [← e]
    have e3:=get2_at hx.1 hh
    have e4:=fst_is (ps:=r.2) (x:=Txt.lower x)
    have i1:isIns 175 "get" (.ref k) σ=true:=ins_at hh rfl
    show Mf.fn _ (upd (upd (upd (fun _=>none) "self" (.ref k)) "name" (.str x)) "value" (.str v)) σ=_
    refine fn_next (st_set (by dsimp! only [])) ?_
    have e5:=row_at (x := "name") (y := "value") (fr:=upd (upd (upd (upd (fun _=>none) "self" (.ref k)) "name" (.str x)) "value" (.str v)) "result" (fst? r.2 (Txt.lower x) .none)) (v:=v) hh (by dsimp! only []) (by dsimp! only []) (by dsimp! only []) hx.1
    cases hb:has r.2 (Txt.lower x) with
    | true =>
      rw [hb] at e4
      exact fn_ret (st_ifF (by dsimp! only []) (seq_ret (st_ret (by dsimp! only []))))
    | false =>
      rw [hb] at e4
      unfold layO at e5 ⊢
      cases hv:v.cps.toList.any ctlV with
      | true =>
        rw [hv] at e5
        exact fn_exc (st_ifT (by dsimp! only []) (seq_exc (st_x e5)))
      | false =>
        rw [hv] at e5
        exact fn_ret (st_ifT (by dsimp! only []) (seq_next (st_expr e5) (seq_ret (st_ret (by dsimp! only [])))))
  obtain ⟨m,hm,hs⟩:=body
  refine Fn.mono (Fn.at h (ok_165 _) (Bnd.plan (by exact ⟨trivial,trivial,trivial,trivial⟩) ?_) ?_ hm) hs
  · intro S vs kw hv hk
    refine Eq.trans (congrArg (fun K=>peek K S _) h) ?_
    obtain ⟨v0,v1,v2,rfl⟩:=len3 hv
    obtain rfl:=kw0 hk
    kernel_rfl
  · intro ds kd bd hb
    unfold bfOf at hb
    split at hb
    · split at hb
      · cases hb; kernel_rfl
      · cases hb
    · cases hb
omit h in
theorem filM {ps:Tb} {x:PySem.Str} : (((ps.map pD).filter fun d=>!(pVal x d).isSome).map fun d=>d)=(fil ps x).map pD:=by
  rw [List.map_id',List.filter_map]
  unfold fil
  refine congrArg (List.map pD) (List.filter_congr fun p _=>?_)
  show (!(if isN x p then some (D.str p.2) else none).isSome) = !isN x p
  cases isN x p <;> rfl
omit h in
theorem pVal_some (x:PySem.Str) (p:PySem.Str × PySem.Str):(pVal x (pD p)).isSome=(Txt.lower p.1 == x):=by
  show (if Txt.lower p.1 == x then some (D.str p.2) else none).isSome=_
  cases Txt.lower p.1 == x <;> rfl
theorem f_del:Fn G true 7 95 sDel:=by
  have body:∃ m,Exs G true 6 (scopeAt (K1 G.w.params) 95) (bodyAt (K1 G.w.params) 95) m∧∀ ds kd σ r,sDel ds kd σ=some r→((bfOf 2 [] [("self", .pos 0),("name", .pos 1)] ds kd).bind fun bd=>Mf.fn m (frB bd fun _=>none) σ)=some r:=by
    refine ⟨_,(Exs.cons (Ex.asgn (Ev.methI (i1_76 h) (i2_76 h) (i3_76 h) (i4_76 h) (Ev.loc rfl rfl) (ms:=[_]) (mk:=[("name", _)]) ⟨(Ev.methS F.slot_str_lower F.type_str_lower (Ev.cel rfl rfl) (ms:=[]) (mk:=[]) trivial trivial Ca.lower),trivial⟩ ⟨rfl,Ev.kBool,trivial⟩ ((f_conv h).up (by omega)).ca) (As.name (Or.inr rfl)) (sw_of fun env=>⟨rfl,by kernel_rfl,by kernel_rfl⟩))
    (Exs.cons (Ex.asgn (Ev.lcF (CompL.one (W:=[]) (at_headers h (Ev.loc rfl rfl)) (AsC.name rfl) (Ts.one (Cd.cmp (Ev.methS F.slot_str_lower F.type_str_lower (Ev.sub (Ev.loc rfl rfl) Ev.kInt Op2.idx rfl) (ms:=[]) (mk:=[]) trivial trivial Ca.lower) (Ev.cel rfl rfl) (Op2.ne (by omega)))) (Ev.loc rfl rfl) (by first | rfl | kernel_rfl))) (As.slcF (at_headers h (Ev.loc rfl rfl))) (sw_of fun env=>⟨rfl,by kernel_rfl,by kernel_rfl⟩))
    Exs.nil)),?_⟩
    intro ds kd σ r hr
    refine xEE (on2_inv dRef_eq dStr_eq hr) fun k x e=>?_
    refine xAA e fun e1 e2 hr=>?_
    subst e1
    subst e2
    refine xA (ite_inv hr) fun hx hr=>?_
    refine xEA (Option.map_eq_some_iff.mp hr) fun r hh e=>?_
    rw [← e]
    obtain ⟨j,ps⟩:=r
    have hd:=hdr_ok hh
    have ox:=okN_ok hx
    have i1:isIns 175 "_convert_string_type" (.ref k) σ=true:=ins_at hh rfl
    have e1:=low_ev (σ:=σ) ox.short
    have e2:=conv_n (a:=.ref k) (σ:=σ) ox.low
    show Mf.fn _ (upd (upd (fun _=>none) "self" (.ref k)) "name" (.str x)) σ=_
    refine fn_next (st_set (by dsimp! only [isStr_str])) ?_
    refine xAAA hd fun h1 h2 h3 h4=>?_
    have hf:=fil_le ps (Txt.lower x)
    have hz:sizeLine=16777216:=rfl
    have at1:Mo.attr 175 "_headers" (Mo.var "self") (upd (upd (upd (fun _=>none) "self" (.ref k)) "name" (.str x)) "name" (.str (Txt.lower x))) σ=some (.val (.ref j),σ):=ev_attrH (by dsimp! only []) h1
    refine fn_next (st_asgn (ev_lcF (x:=⟨ps.map pD,fun σ=>σ[j]? = some (.lst (ps.map pD))⟩) (fun fr=>fr "name" = some (.str (Txt.lower x))) (fun d=>!(pVal (Txt.lower x) d).isSome) (fun d=>d) at1 (src_ref h2) h2 ?_ (fun a ha fr hI=>?_) filM (by rw [List.length_map]; omega)) (ev_slcF at1 h2 (by rw [List.length_map,List.length_map]; omega))) fn_end
    · exact ev_frIn (by unfold frIn; rw [if_pos (by kernel_rfl)]) (by dsimp! only [])
    · refine xEA (List.mem_map.mp ha) fun p hp q0z=>?_
      subst q0z
      have s1:=(h4 p hp).1
      have e3:=low_ev (σ:=σ) s1
      have e4:=opNe_str σ (short_lower s1) (short_lower ox.short)
      have e5:=fIdx_0 σ (.str p.1) (.str p.2)
      rw [pVal_some]
      have hI':upd fr "kv" (pD p) "name" = some (.str (Txt.lower x)):=by dsimp! only []
      refine ⟨rfl,hI',?_,fun _=>⟨_,hI',?_⟩⟩
      · exact ev_tru (ev_op2 (ev_low (ev_sub (ev_var (upd_same _ _ _)) ev_mpure rfl e5) (shortS_le s1)) (ev_var hI') e4) rfl
      · exact ev_emOne (ev_var (upd_same _ _ _))
  obtain ⟨m,hm,hs⟩:=body
  refine Fn.mono (Fn.at h (ok_95 _) (Bnd.plan (by exact ⟨trivial,trivial,trivial⟩) ?_) ?_ hm) hs
  · intro S vs kw hv hk
    refine Eq.trans (congrArg (fun K=>peek K S _) h) ?_
    obtain ⟨v0,v1,rfl⟩:=len2 hv
    obtain rfl:=kw0 hk
    kernel_rfl
  · intro ds kd bd hb
    unfold bfOf at hb
    split at hb
    · split at hb
      · cases hb; kernel_rfl
      · cases hb
    · cases hb
theorem f_set:Fn G true 9 90 sSet:=by
  have body:∃ m,Exs G true 8 (scopeAt (K1 G.w.params) 90) (bodyAt (K1 G.w.params) 90) m∧∀ ds kd σ r,sSet ds kd σ=some r→((bfOf 3 [] [("self", .pos 0),("name", .pos 1),("val", .pos 2)] ds kd).bind fun bd=>Mf.fn m (frB bd fun _=>none) σ)=some r:=by
    refine ⟨_,(Exs.cons (Ex.del (Ev.loc rfl rfl) (Ev.loc rfl rfl) (q_seq h) (i2_95 h) (i3_95 h) ((f_del h).up (by omega)).ca)
    (Exs.cons (Ex.expr (Ev.methL F.slot_list_append F.type_list_append (at_headers h (Ev.loc rfl rfl)) (ms:=[_]) (mk:=[]) ⟨(Ev.tup (ms:=[_,_]) ⟨(Ev.methI (i1_76 h) (i2_76 h) (i3_76 h) (i4_76 h) (Ev.loc rfl rfl) (ms:=[_]) (mk:=[("name", _)]) ⟨(Ev.loc rfl rfl),trivial⟩ ⟨rfl,Ev.kBool,trivial⟩ ((f_conv h).up (by omega)).ca),(Ev.methI (i1_76 h) (i2_76 h) (i3_76 h) (i4_76 h) (Ev.loc rfl rfl) (ms:=[_]) (mk:=[("name", _)]) ⟨(Ev.loc rfl rfl),trivial⟩ ⟨rfl,Ev.kBool,trivial⟩ ((f_conv h).up (by omega)).ca),trivial⟩ rfl),trivial⟩ trivial Ca.append))
    Exs.nil)),?_⟩
    intro ds kd σ r hr
    refine xEEE (on3_inv dRef_eq dStr_eq dStr_eq hr) fun k x v e=>?_
    refine xAA e fun e1 e2 hr=>?_
    subst e1
    subst e2
    refine xA (ite_inv hr) fun hx hr=>?_
    refine xEA (Option.map_eq_some_iff.mp hr) fun r hh e=>?_
    rw [← e]
    obtain ⟨j,ps⟩:=r
    have hd:=hdr_ok hh
    have h4:=hd.2.2.2
    have hd:=hd.2.2.1
    have e3:=del_at hx.1 hh
    have c1:isC 175 (.ref k) σ=true:=isC_at hh
    have hf:=fil_le ps (Txt.lower x)
    have hh2:=hdr_set hh (qs:=fil ps (Txt.lower x)) (by omega) fun p hp=>h4 p (fil_mem hp)
    show Mf.fn _ (upd (upd (upd (fun _=>none) "self" (.ref k)) "name" (.str x)) "val" (.str v)) σ=_
    refine fn_next (st_del (by dsimp! only []) (by dsimp! only []) c1 e3) ?_
    have e5:=row_at (x := "name") (y := "val") (fr:=upd (upd (upd (fun _=>none) "self" (.ref k)) "name" (.str x)) "val" (.str v)) (v:=v) hh2 (by dsimp! only []) (by dsimp! only []) (by dsimp! only []) hx.1
    unfold layO at e5 ⊢
    cases hv:v.cps.toList.any ctlV with
    | true =>
      rw [hv] at e5
      exact fn_exc (st_x e5)
    | false =>
      rw [hv] at e5
      exact fn_next (st_expr e5) fn_end
  obtain ⟨m,hm,hs⟩:=body
  refine Fn.mono (Fn.at h (ok_90 _) (Bnd.plan (by exact ⟨trivial,trivial,trivial,trivial⟩) ?_) ?_ hm) hs
  · intro S vs kw hv hk
    refine Eq.trans (congrArg (fun K=>peek K S _) h) ?_
    obtain ⟨v0,v1,v2,rfl⟩:=len3 hv
    obtain rfl:=kw0 hk
    kernel_rfl
  · intro ds kd bd hb
    unfold bfOf at hb
    split at hb
    · split at hb
      · cases hb; kernel_rfl
      · cases hb
    · cases hb
end
end
section
section
open PySem.Str in
theorem join_cons2 (s x:PySem.Str) (xs:List PySem.Str) (h:xs ≠ []):Txt.join s (x :: xs)=x ++ s ++ Txt.join s xs:=by
  cases xs with
  | nil=>exact absurd rfl h
  | cons y r =>
    show Builtin.Str.glued s _=_ ++ _ ++ Builtin.Str.glued s _
    rw [StrLaws.glued_eq_join,StrLaws.glued_eq_join]; rfl
theorem join_nil (x:PySem.Str) (xs:List PySem.Str):Txt.join "" (x :: xs)=x ++ Txt.join "" xs:=by
  cases xs with
  | nil=>show x=x ++ Str.empty; rw [Str.append_empty]
  | cons y r =>
    rw [join_cons2 _ _ _ (by simp)]
    show x ++ Str.empty ++ _=_
    rw [Str.append_empty]
/-- the table's whole text -/
theorem join_lines (s:PySem.Str):∀ xs:List PySem.Str,Txt.join s (xs ++ [PySem.Str.ofString "", PySem.Str.ofString ""])=Txt.join "" (xs.map (· ++ s)) ++ s
  | []=>by
    rw [List.nil_append,join_cons2 _ _ _ (by simp)]
    show Str.empty ++ s ++ Str.empty=Str.empty ++ s
    rw [Str.append_empty]
  | x :: r=>by
    rw [List.cons_append,join_cons2 _ _ _ (by simp),join_lines s r,List.map_cons,join_nil,Str.append_assoc,Str.append_assoc,Str.append_assoc]
theorem fold_len (n b:Nat):∀ (xs:List PySem.Str) (a:Nat),(∀ x ∈ xs,x.length ≤ b)→xs.foldl (fun a x=>a + x.length + n) a ≤ a + xs.length * (b + n)
  | [],a,_=>by simp
  | x :: r,a,h=>by
    rw [List.foldl_cons,List.length_cons,Nat.succ_mul]
    have:=fold_len n b r (a + x.length + n) fun y hy=>h y (.tail _ hy)
    have:=h x (.head _)
    omega
theorem joinOk_of {s:PySem.Str} {xs:List PySem.Str} (b:Nat) (h:∀ x ∈ xs,x.length ≤ b) (h2:xs.length * (b + s.length) ≤ sizeLine):JoinOk s xs=true:=by
  unfold JoinOk Builtin.Str.tooLong
  rw [Bool.not_eq_true',decide_eq_false_iff_not,List.foldl_toArray]
  have:=fold_len s.length b xs 0 h
  omega
theorem strsOf_map (xs:List PySem.Str):strsOf (xs.map .str)=some xs:=by
  induction xs with
  | nil=>rfl
  | cons x r ih =>
    show (strsOf (r.map .str)).map (x :: ·)=_
    rw [ih]; rfl
theorem join_at {s:PySem.Str} {σ:List AO} {xs:List PySem.Str} (b:Nat) (h:∀ x ∈ xs,x.length ≤ b) (h2:xs.length * (b + s.length) ≤ sizeLine):fJoin (.str s) (.lst (xs.map .str)) σ=some (.val (.str (Txt.join s xs)),σ):=by
  unfold fJoin
  simp only [lstOf_lst,Option.bind_some,strsOf_map]
  rw [if_pos (joinOk_of b h h2)]
noncomputable def rowS (p:PySem.Str × PySem.Str):PySem.Str:=p.1 ++ ⟨#[58,32]⟩ ++ p.2
noncomputable def tblS (ps:Tb):PySem.Str:=Txt.join "\r\n" (ps.map rowS ++ [PySem.Str.ofString "", PySem.Str.ofString ""])
noncomputable def sLen:Fm:=on1 dRef fun k σ=>(hdr σ k).map fun r=>(.val (.int r.2.length),σ)
noncomputable def sStr:Fm:=on1 dRef fun k σ=>(hdr σ k).map fun r=>(.val (.str (tblS r.2)),σ)
theorem len_at {σ:List AO} {k j:Nat} {ps:Tb} (hh:hdr σ k=some (j,ps)):fLenI 175 sLen (.ref k) σ=some (.val (.int ps.length),σ):=by
  have e:sLen [.ref k] [] σ=some (.val (.int ps.length),σ):=(on1_mk (p:=dRef) rfl).trans (by rw [hh]; rfl)
  have h3:=(hdr_ok hh).2.2.1
  unfold fLenI
  have hz:sizeLine=16777216:=rfl
  rw [if_pos (isC_at hh),e,Option.bind_some]
  exact (congrArg (Option.bind · _) (rfl:outInt (.val (.int (ps.length:Int)))=some (ps.length:Int))).trans ((Option.bind_some ..).trans (if_pos ⟨Int.natCast_nonneg _,sizeLine63 (by omega)⟩))
theorem str_at {σ:List AO} {k j:Nat} {ps:Tb} (hh:hdr σ k=some (j,ps)):fStrI 175 sStr (.ref k) σ=some (.val (.str (tblS ps)),σ):=by
  have e:sStr [.ref k] [] σ=some (.val (.str (tblS ps)),σ):=(on1_mk (p:=dRef) rfl).trans (by rw [hh]; rfl)
  unfold fStrI
  rw [if_pos (isC_at hh),e]; rfl
theorem row_len {p:PySem.Str × PySem.Str} (h:shortS p.1=true∧shortS p.2=true):(rowS p).length ≤ 2002:=by
  have h1:=short_le h.1
  have h2:=short_le h.2
  unfold rowS
  rw [Str.length_append,Str.length_append]
  show p.1.length + 2 + p.2.length ≤ 2002
  omega
theorem fmt_at {σ:List AO} {p:PySem.Str × PySem.Str} (h:shortS p.1=true∧shortS p.2=true):fFmt2 ⟨#[37,115,58,32,37,115]⟩ (fun a b=>a ++ ⟨#[58,32]⟩ ++ b) (.str "%s: %s") (pD p) σ=some (.val (.str (rowS p)),σ):=by
  have h1:=short_le h.1
  have h2:=short_le h.2
  have h3:=row_len h
  have hz:sizeLine=16777216:=rfl
  unfold fFmt2
  simp only [dStr,pD,dTwo,Option.bind_some]
  rw [if_pos ⟨by decide +kernel,by omega,by omega,by show (rowS p).length ≤ _; omega⟩]; rfl
end
section
variable {G:Amb} (h:G.K=K1 G.w.params)
include h
theorem f_len:Fn G true 7 83 sLen:=by
  have body:∃ m,Exs G true 6 (scopeAt (K1 G.w.params) 83) (bodyAt (K1 G.w.params) 83) m∧∀ ds kd σ r,sLen ds kd σ=some r→((bfOf 1 [] [("self", .pos 0)] ds kd).bind fun bd=>Mf.fn m (frB bd fun _=>none) σ)=some r:=by
    refine ⟨_,(Exs.cons (Ex.ret (Ev.call (g_len h rfl) (ms:=[_]) (mk:=[]) ⟨(at_headers h (Ev.loc rfl rfl)),trivial⟩ trivial Kep.blt Ca.len))
    Exs.nil),?_⟩
    intro ds kd σ r hr
    refine xE (on1_inv dRef_eq hr) fun k e=>?_
    refine xAA e fun e1 e2 hr=>?_
    subst e1
    subst e2
    refine xEA (Option.map_eq_some_iff.mp hr) fun r hh e=>?_
    rw [← e]
    refine xAAA (hdr_ok hh) fun h1 h2 h3 h4=>?_
    show Mf.fn _ (upd (fun _=>none) "self" (.ref k)) σ=_
    refine fn_ret (st_ret (ev_call1 (σ1:=σ) (d1:=.ref r.1) (ev_attrH (by dsimp! only []) h1) ?_))
    show (lstOf (.ref r.1) σ).map _=_
    unfold lstOf
    simp only [h2]
    show some (Out.val (D.int (r.2.map pD).length),σ)=_
    rw [List.length_map]
  obtain ⟨m,hm,hs⟩:=body
  refine Fn.mono (Fn.at h (ok_83 _) (Bnd.plan (by exact ⟨trivial,trivial⟩) ?_) ?_ hm) hs
  · intro S vs kw hv hk
    refine Eq.trans (congrArg (fun K=>peek K S _) h) ?_
    obtain ⟨v0,rfl⟩:=len1 hv
    obtain rfl:=kw0 hk
    kernel_rfl
  · intro ds kd bd hb
    unfold bfOf at hb
    split at hb
    · split at hb
      · cases hb; kernel_rfl
      · cases hb
    · cases hb
theorem f_str:Fn G true 7 151 sStr:=by
  have body:∃ m,Exs G true 6 (scopeAt (K1 G.w.params) 151) (bodyAt (K1 G.w.params) 151) m∧∀ ds kd σ r,sStr ds kd σ=some r→((bfOf 1 [] [("self", .pos 0)] ds kd).bind fun bd=>Mf.fn m (frB bd fun _=>none) σ)=some r:=by
    conv in (bodyAt _ _)=>whnf
    generalize hE1:Expr.Constant (Const.str "\r\n") 0 ⟨76,15,76,21⟩=E1
    have kE1:∀ {Z},Ev G true 6 Z E1 (Mo.pure (.str "\r\n")):=fun {Z}=>hE1 ▸ Ev.kStr (n:=6) (by decide +kernel)
    refine ⟨_,(Exs.cons (Ex.ret (Ev.methS F.slot_str_join F.type_str_join kE1 (ms:=[_]) (mk:=[]) ⟨(Ev.bin (Ev.lcF (CompL.one (W:=[]) (at_headers h (Ev.loc rfl rfl)) (AsC.name rfl) Ts.nil (Ev.bin (Ev.kStr (by decide +kernel)) (Ev.loc rfl rfl) (Op2.fmt fmtA)) (by first | rfl | kernel_rfl))) (Ev.lst (ms:=[_,_]) ⟨(Ev.kStr (by decide +kernel)),(Ev.kStr (by decide +kernel)),trivial⟩ rfl) Op2.addL),trivial⟩ trivial Ca.join (hbase:=fun _=>by rw [← hE1]; rfl)))
    Exs.nil),?_⟩
    intro ds kd σ r hr
    refine xE (on1_inv dRef_eq hr) fun k e=>?_
    refine xAA e fun e1 e2 hr=>?_
    subst e1
    subst e2
    refine xEA (Option.map_eq_some_iff.mp hr) fun r hh e=>?_
    rw [← e]
    refine xAAA (hdr_ok hh) fun h1 h2 h3 h4=>?_
    show Mf.fn _ (upd (fun _=>none) "self" (.ref k)) σ=_
    have hz:sizeLine=16777216:=rfl
    have at1:Mo.attr 175 "_headers" (Mo.var "self") (upd (fun _=>none) "self" (.ref k)) σ=some (.val (.ref r.1),σ):=ev_attrH (by dsimp! only []) h1
    have e9:((r.2.map pD).filter fun _=>true).map (fun d=>match dTwo d with
      | some p=>D.str (rowS p)
      | none=>.none)=(r.2.map rowS).map .str:=by
      rw [filter_true,List.map_map,List.map_map]; rfl
    refine fn_ret (st_ret (ev_met1 (σ1:=σ) (σ2:=σ) ev_mpure rfl (ev_op2 (σ1:=σ) (σ2:=σ) (ev_lcF (x:=⟨r.2.map pD,fun σ=>σ[r.1]? = some (.lst (r.2.map pD))⟩) (fun _=>True) (fun _=>true) _ at1 (src_ref h2) h2 trivial (fun a ha fr hI=>?_) e9 (by rw [List.length_map,List.length_map]; omega)) (ev_lst (ev_scons ev_mpure (ev_scons ev_mpure rfl)) ev_l2) ?_) (ev_one2 (join_at (xs:=r.2.map rowS ++ [PySem.Str.ofString "", PySem.Str.ofString ""]) 2002 ?_ ?_))))
    · refine xEA (List.mem_map.mp ha) fun p hp q0z=>?_
      subst q0z
      refine ⟨rfl,trivial,rfl,fun _=>⟨upd fr "kv" (pD p),trivial,ev_emOne (ev_op2 ev_mpure (ev_var (upd_same _ _ _)) (fmt_at (h4 p hp)))⟩⟩
    · show (if ((r.2.map rowS).map D.str).length + [D.str "", D.str ""].length ≤ sizeLine then some (Out.val (D.lst ((r.2.map rowS).map D.str ++ [D.str "", D.str ""])),σ) else none)=_
      rw [if_pos (by rw [List.length_map,List.length_map]; show _ + 2 ≤ _; omega),List.map_append]; rfl
    · intro x hx
      rcases List.mem_append.mp hx with q | q
      · refine xEA (List.mem_map.mp q) fun p hp e=>?_
        rw [← e]; exact row_len (h4 p hp)
      · have:x = "" := by simpa using q
        rw [this]; exact Nat.zero_le _
    · rw [List.length_append,List.length_map]
      have:(PySem.Str.ofString "\r\n").length=2:=by decide +kernel
      rw [this]
      show (r.2.length + 2) * _ ≤ _
      omega
  obtain ⟨m,hm,hs⟩:=body
  refine Fn.mono (Fn.at h (ok_151 _) (Bnd.plan (by exact ⟨trivial,trivial⟩) ?_) ?_ hm) hs
  · intro S vs kw hv hk
    refine Eq.trans (congrArg (fun K=>peek K S _) h) ?_
    obtain ⟨v0,rfl⟩:=len1 hv
    obtain rfl:=kw0 hk
    kernel_rfl
  · intro ds kd bd hb
    unfold bfOf at hb
    split at hb
    · split at hb
      · cases hb; kernel_rfl
      · cases hb
    · cases hb
end
end
section
section
theorem Cd.dead {G:Amb} {hn:Bool} {n:Nat} {Z:Scope} {e:Expr} : Cd G hn n Z e (fun _ _=>none):=fun _ _ _ _ _ _ _ _ hm=>by exact nnS hm
noncomputable def es1 (t:PySem.Str):PySem.Str:=Txt.replace t "\\" "\\\\"
noncomputable def esc (t:PySem.Str):PySem.Str:=Txt.replace (es1 t) "\"" "\\\""
/-- a text -/
noncomputable def okT (t:PySem.Str):Bool:=shortS t && (decide ((es1 t).length ≤ 1000) && decide ((esc t).length ≤ 1000))
theorem okT_ok {t:PySem.Str} (h:okT t=true):shortS t=true∧(es1 t).length ≤ 1000∧(esc t).length ≤ 1000:=by
  unfold okT at h
  simp only [Bool.and_eq_true,decide_eq_true_eq] at h
  exact h
noncomputable def par (t:PySem.Str):PySem.Str:=if t.length=0 then "p-q" else "p-q" ++ ⟨#[61,34]⟩ ++ esc t ++ ⟨#[34]⟩
noncomputable def txt4 (t:PySem.Str):PySem.Str:=Txt.join "; " ["v", par t, "r"]
noncomputable def sFpar:Fm:=on2 dStr dStr fun p t σ=>if p = "p-q" ∧ okT t=true then some (.val (.str (par t)),σ) else none
theorem fpar_at {t:PySem.Str} {σ:List AO} (h:okT t=true):sFpar [.str "p-q", .str t] [] σ=some (.val (.str (par t)),σ):=(on2_mk (p:=dStr) (q:=dStr) rfl rfl).trans (if_pos ⟨rfl,h⟩)
theorem ev_repl {y z d:PySem.Str} {m:Mo D} {fr:Fr} {σ σ1:List AO} {x:PySem.Str} (h:m fr σ=some (.val (.str x),σ1)) (h1:x.length ≤ 1000) (hd:Txt.replace x y z=d) (h2:d.length ≤ 1000):Mo.repl y z m fr σ=some (.val (.str d),σ1):=by
  have hz:sizeLine=16777216:=rfl
  subst hd
  refine ev_mbind h (ev_opt ?_)
  unfold fRepl
  simp only [dStr,Option.bind_some]
  rw [if_pos ⟨by omega,by omega⟩]
theorem ev_joined {ms:List (Mo D)} {fr:Fr} {σ σ1:List AO} {ds:List D} {xs:List PySem.Str} {t:PySem.Str} (h:Mo.seq ms fr σ=some (.val ds,σ1)) (h2:strsOf ds=some xs) (h3:catS Str.empty xs=t) (h4:t.length ≤ sizeLine):Mo.joined ms fr σ=some (.val (.str t),σ1):=by
  subst h3
  unfold Mo.joined
  rw [h]
  dsimp only
  rw [h2,Option.bind_some,if_pos h4]
theorem cat4 (u:PySem.Str):catS Str.empty [PySem.Str.ofString "p-q", PySem.Str.ofString "=\"", u,PySem.Str.ofString "\""]=PySem.Str.ofString "p-q" ++ ⟨#[61,34]⟩ ++ u ++ ⟨#[34]⟩:=by
  have q1:PySem.Str.ofString "=\"" = ⟨#[61,34]⟩:=by decide +kernel
  have q2:PySem.Str.ofString "\"" = ⟨#[34]⟩:=by decide +kernel
  rw [q1,q2]
  unfold catS
  rw [List.foldl_cons,Str.empty_append]
  rfl
theorem par_len (u:PySem.Str) (h:u.length ≤ 1000):(PySem.Str.ofString "p-q" ++ ⟨#[61,34]⟩ ++ u ++ ⟨#[34]⟩).length ≤ sizeLine:=by
  have q3:(PySem.Str.ofString "p-q").length=3:=by decide +kernel
  have hz:sizeLine=16777216:=rfl
  rw [Str.length_append,Str.length_append,Str.length_append,q3]
  show 3 + 2 + _ + 1 ≤ _; omega
theorem len_str {x:PySem.Str} {σ:List AO} : one1 fLen [.str x] [] σ=some (.val (.int x.length),σ):=rfl
end
section
variable {G:Amb} (h:G.K=K1 G.w.params) (hlo:1 ≤ G.lo)
include h hlo
theorem f_fpar:Fn G true 5 54 sFpar:=by
  have body:∃ m,Exs G true 4 (scopeAt (K1 G.w.params) 54) (bodyAt (K1 G.w.params) 54) m∧∀ ds kd σ r,sFpar ds kd σ=some r→((bfOf 2 [] [("param", .pos 0),("value", .pos 1),("quote", .con (.int 1 378) (.int 1))] ds kd).bind fun bd=>Mf.fn m (frB bd fun _=>none) σ)=some r:=by
    conv in (bodyAt _ _)=>whnf
    refine ⟨_,(Exs.cons (Ex.ite (Cd.and (ms:=[_,_]) ⟨(Cd.cmp (Ev.loc rfl rfl) Ev.kNone (Op2.isNot)),(Cd.cmp (Ev.call (g_len h rfl) (ms:=[_]) (mk:=[]) ⟨(Ev.loc rfl rfl),trivial⟩ trivial Kep.blt Ca.len) Ev.kInt (Op2.gt)),trivial⟩)
      (Exs.cons (Ex.ite (Cd.or (ms:=[_,_]) ⟨(Cd.val (Ev.loc rfl rfl)),Cd.dead,trivial⟩)
        (Exs.cons (Ex.asgn (Ev.replC hlo (Ev.replC hlo (Ev.loc rfl rfl))) (As.name (Or.inl rfl)) (sw_of fun env=>⟨rfl,by kernel_rfl,by kernel_rfl⟩))
        (Exs.cons (Ex.ret (Ev.joined (ms:=[_,_,_,_]) ⟨(Ev.fvS (Ev.loc rfl rfl)),(Ev.kStr (by decide +kernel)),(Ev.fvS (Ev.loc rfl rfl)),(Ev.kStr (by decide +kernel)),trivial⟩))
        Exs.nil)) Exs.dead)
      Exs.nil)
      (Exs.cons (Ex.ret (Ev.loc rfl rfl))
      Exs.nil))
    Exs.nil),?_⟩
    intro ds kd σ r hr
    refine xEE (on2_inv dStr_eq dStr_eq hr) fun p t e=>?_
    refine xAA e fun e1 e2 hr=>?_
    subst e1
    subst e2
    refine xA (ite_inv hr) fun ht hr=>?_
    rw [← hr]
    refine xA ht fun hp ht2=>?_
    subst hp
    have ot:=okT_ok ht2
    have s1:=short_le ot.1
    show Mf.fn _ (upd (upd (upd (fun _=>none) "param" (.str "p-q")) "value" (.str t)) "quote" (.int 1)) σ=_
    unfold par
    by_cases h0:t.length=0
    · rw [if_pos h0]
      have e3:decide ((0:Int) < (t.length:Int))=false:=by rw [decide_eq_false_iff_not]; omega
      have e4:fGt (.int (t.length:Int)) (.int 0)=some (.bool false):=by rw [fGt_ii,e3]
      exact fn_ret (st_ifF (ev_acons (b:=true) (ev_tru (ev_op2 (ev_var (by dsimp! only [])) ev_mpure rfl) rfl) (ev_acons (b:=false) (ev_tru (ev_op2 (ev_call1 (ev_var (by dsimp! only [])) len_str) ev_mpure (ev_omap e4)) rfl) rfl)) (seq_ret (st_ret (ev_var (by dsimp! only [])))))
    · rw [if_neg h0]
      have e3:decide ((0:Int) < (t.length:Int))=true:=by rw [decide_eq_true_eq]; omega
      have e4:fGt (.int (t.length:Int)) (.int 0)=some (.bool true):=by rw [fGt_ii,e3]
      have hz:sizeLine=16777216:=rfl
      refine fn_ret (fr1:=upd (upd (upd (upd (fun _=>none) "param" (.str "p-q")) "value" (.str t)) "quote" (.int 1)) "value" (.str (esc t))) (st_ifT (ev_acons (b:=true) (ev_tru (ev_op2 (ev_var (by dsimp! only [])) ev_mpure rfl) rfl) (ev_acons (b:=true) (ev_tru (ev_op2 (ev_call1 (ev_var (by dsimp! only [])) len_str) ev_mpure (ev_omap e4)) rfl) rfl)) (seq_ret (st_ifT (ev_ocons (b:=true) (ev_tru (ev_var (by dsimp! only [])) rfl) rfl) ?_)))
      refine seq_next (st_set (ev_repl (d:=esc t) (ev_repl (d:=es1 t) (ev_var (by dsimp! only [])) s1 rfl ot.2.1) ot.2.1 rfl ot.2.2)) (seq_ret (st_ret ?_))
      have h2:=ot.2.2
      generalize esc t=u at h2 ⊢
      exact ev_joined (ev_scons (ev_mbind (ev_var (by dsimp! only [])) rfl) (ev_scons ev_mpure (ev_scons (ev_mbind (ev_var (upd_same _ _ _)) rfl) (ev_scons ev_mpure rfl)))) rfl (cat4 u) (par_len u h2)
  refine xEA body fun m hm hs=>?_
  refine Fn.mono (Fn.at h (ok_54 _) (Bnd.plan (by exact ⟨trivial,trivial,(fun _ _ _ _=>.int 1 378),trivial⟩) ?_) ?_ hm) hs
  · intro S vs kw hv hk
    refine Eq.trans (congrArg (fun K=>peek K S _) h) ?_
    (refine xEE (len2 hv) fun v0 v1 q0z=>?_; subst q0z)
    obtain rfl:=kw0 hk
    kernel_rfl
  · exact bfOf_all (by kernel_rfl)
end
end
section
section
theorem hdr_app {σ τ:List AO} {k j:Nat} {ps:Tb} (hh:hdr σ k=some (j,ps)):hdr (σ ++ τ) k=some (j,ps):=by
  refine xAAA (hdr_ok hh) fun h1 h2 h3 h4=>?_
  exact hdr_of (get_old h1) (get_old h2) h3 h4
theorem app_last {σ:List AO} {ds:List D} {d:D} (h:ds.length ≤ 1000):fAppend (.ref σ.length) d (σ ++ [.lst ds])=some (.val .none,σ ++ [.lst (ds ++ [d])]):=by
  have hz:sizeLine=16777216:=rfl
  unfold fAppend
  simp only [get_last]
  rw [if_pos (by omega),set_last]
theorem refL_last {σ:List AO} {ds:List D} : isRefL (.ref σ.length) (σ ++ [.lst ds])=true:=by unfold isRefL; simp only [get_last]
theorem joinR {s:PySem.Str} {σ:List AO} {xs:List PySem.Str} (b:Nat) (h:∀ x ∈ xs,x.length ≤ b) (h2:xs.length * (b + s.length) ≤ sizeLine):fJoin (.str s) (.ref σ.length) (σ ++ [.lst (xs.map .str)])=some (.val (.str (Txt.join s xs)),σ ++ [.lst (xs.map .str)]):=by
  have e:lstOf (.ref σ.length) (σ ++ [.lst (xs.map .str)])=some (xs.map .str):=by unfold lstOf; simp only [get_last]
  unfold fJoin
  simp only [e,Option.bind_some,strsOf_map]
  rw [if_pos (joinOk_of b h h2)]
theorem tb_take {σ:List AO} {x:AO} {k j:Nat} {ps qs:Tb} (hh:hdr σ k=some (j,ps)):(tbSet (σ ++ [x]) j qs).take σ.length=tbSet σ j qs:=by
  have hlt:j < σ.length:=(List.getElem?_eq_some_iff.mp (hdr_ok hh).2.1).1
  unfold tbSet
  rw [List.set_append_left _ _ hlt,List.take_left' (List.length_set)]
theorem tb_refs {σ:List AO} {j:Nat} {qs:Tb} : ∀ (i:Nat) (o:AO),(tbSet σ j qs)[i]? = some o→σ[i]? = some o∨o.refs (· < σ.length):=fun i o h=>by
  unfold tbSet at h
  by_cases e:j=i
  · subst e
    refine .inr ?_
    have hlt:j < (σ.set j (.lst (qs.map pD))).length:=(List.getElem?_eq_some_iff.mp h).1
    rw [List.length_set] at hlt
    rw [List.getElem?_set_self hlt] at h
    rw [← s1E h]
    refine refsL_of fun d hd=>?_
    refine xEA (List.mem_map.mp hd) fun p _ e=>?_
    rw [← e]
    exact ⟨trivial,trivial,trivial⟩
  · rw [List.getElem?_set_ne e] at h; exact .inl h
/-- what lays the last of add_header's rows -/
noncomputable abbrev lastM:Mo D:=Mo.meth isRefL (one2 fAppend) (Mo.attr 175 "_headers" (Mo.var "self")) [Mo.tup [Mo.meth (isIns 175 "_convert_string_type") sConv (Mo.var "self") [Mo.var "_name"] [("name", Mo.pure (.bool true))],Mo.meth isStr (one2 fJoin) (Mo.pure (.str "; ")) [Mo.var "parts"] []]] []
theorem last_at {fr:Fr} {σ:List AO} {k j:Nat} {ps:Tb} {n:PySem.Str} {xs:List PySem.Str} (hh:hdr σ k=some (j,ps)) (f1:fr "self" = some (.ref k)) (f2:fr "_name" = some (.str n)) (f3:fr "parts" = some (.ref σ.length)) (hn:okN n=true) (hx:∀ x ∈ xs,x.length ≤ 2000) (hl:xs.length ≤ 3) :
    lastM fr (σ ++ [.lst (xs.map .str)])=some (.val .none,tbSet (σ ++ [.lst (xs.map .str)]) j (ps ++ [(n,Txt.join "; " xs)])):=by
  have hh2:=hdr_app (τ:=[.lst (xs.map .str)]) hh
  refine xAAA (hdr_ok hh2) fun h1 h2 _ _=>?_
  have ox:=okN_ok hn
  have hz:sizeLine=16777216:=rfl
  have i1:isIns 175 "_convert_string_type" (.ref k) (σ ++ [.lst (xs.map .str)])=true:=ins_at hh2 rfl
  have e0:=ev_attrH f1 h1
  have e1:=conv_n (a:=.ref k) (σ:=σ ++ [.lst (xs.map .str)]) ox.ctl
  have e3:=joinR (s := "; ") (σ:=σ) (xs:=xs) 2000 hx (by
    have:(PySem.Str.ofString "; ").length=2:=by decide +kernel
    rw [this]; omega)
  exact ev_met1 (σ1:=σ ++ [.lst (xs.map .str)]) (σ2:=σ ++ [.lst (xs.map .str)]) e0 (refL_at hh2) (ev_tup (ev_scons (by dsimp! only []) (ev_scons (ev_met1 ev_mpure rfl (ev_var f3) (ev_one2 e3)) rfl)) ev_l2) (ev_one2 (app_at hh2))
theorem each_next {P:List AO→Prop} {tgt:D→Mf Unit} {body:Mf SF} {d:D} {ds:List D} {fr fr':Fr} {σ σ':List AO} {r:Option (Out SF × Fr × List AO)} (hP:P σ) (h:turn tgt body d fr σ=some (.val .next,fr',σ')) (h2:Mf.each P tgt body ds fr' σ'=r):Mf.each P tgt body (d :: ds) fr σ=r:=(each_cons hP h).trans h2
theorem each_exc {P:List AO→Prop} {tgt:D→Mf Unit} {body:Mf SF} {d:D} {ds:List D} {fr fr':Fr} {σ σ':List AO} {X:String} {msg:PySem.Str} (hP:P σ) (h:turn tgt body d fr σ=some (.exc X msg,fr',σ')):Mf.each P tgt body (d :: ds) fr σ=some (.exc X msg,fr',σ'):=each_cons hP h
theorem items_two {m:Mo D} {fr:Fr} {σ:List AO} {a b:D} (h:m fr σ=some (.val (.dct [("p_q", a),("r", b)]),σ)):Mo.items m fr σ=some (.val ⟨[.tup [.str "p_q", a],.tup [.str "r", b]],fun _=>True⟩,σ):=ev_mbind h (ev_opt (if_pos (by
  have q0:(PySem.Str.ofString "p_q").length ≤ sizeLine:=by decide +kernel
  have q2:(PySem.Str.ofString "r").length ≤ sizeLine:=by decide +kernel
  simp only [List.all_cons,List.all_nil,q0,q2,decide_true,Bool.and_self])))
theorem items_nil {m:Mo D} {fr:Fr} {σ:List AO} (h:m fr σ=some (.val (.dct []),σ)):Mo.items m fr σ=some (.val ⟨[],fun _=>True⟩,σ):=ev_mbind h (ev_opt rfl)
end
section
variable {G:Amb} (h:G.K=K1 G.w.params) (hlo:1 ≤ G.lo)
include h hlo
theorem addB:∃ m,Exs G true 5 (scopeAt (K1 G.w.params) 172) (bodyAt (K1 G.w.params) 172) m∧(∀ fr σ k n v j ps,fr "self" = some (.ref k)→fr "_name" = some (.str n)→fr "_value" = some (.str v)→fr "_params" = some (.dct [])→okN n=true→shortS v=true→hdr σ k=some (j,ps) →
      Mf.fn m fr σ=some (if v.cps.toList.any ctlV then (.exc "ValueError" msgV,σ ++ [.lst []]) else (.val .none,tbSet (σ ++ [.lst [.str v]]) j (ps ++ [(n,v)])))) ∧
    ∀ fr σ k n t j ps,fr "self" = some (.ref k)→fr "_name" = some (.str n)→fr "_value" = some (.str "v")→fr "_params" = some (.dct [("p_q", .str t),("r", .none)])→okN n=true→okT t=true→(par t).length ≤ 2000→hdr σ k=some (j,ps) →
      Mf.fn m fr σ=some (if t.cps.toList.any ctlV then (.exc "ValueError" msgV,σ ++ [.lst [.str "v"]]) else (.val .none,tbSet (σ ++ [.lst [.str "v", .str (par t),.str "r"]]) j (ps ++ [(n,txt4 t)]))):=by
    conv in (bodyAt _ _)=>whnf
    generalize hE1:Expr.Constant (Const.str "; ") 0 ⟨101,75,101,79⟩=E1
    have kE1:∀ {Z},Ev G true 5 Z E1 (Mo.pure (.str "; ")):=fun {Z}=>hE1 ▸ Ev.kStr (n:=5) (by decide +kernel)
    refine ⟨_,(Exs.cons (Ex.asgn (Ev.lstR (ms:=[]) trivial rfl) (As.name (Or.inl rfl)) (sw_of fun env=>⟨rfl,by kernel_rfl,by kernel_rfl⟩))
    (Exs.cons (Ex.ite (Cd.cmp (Ev.loc rfl rfl) Ev.kNone (Op2.isNot))
      (Exs.cons (Ex.asgn (Ev.methI (i1_76 h) (i2_76 h) (i3_76 h) (i4_76 h) (Ev.loc rfl rfl) (ms:=[_]) (mk:=[("name", _)]) ⟨(Ev.loc rfl rfl),trivial⟩ ⟨rfl,Ev.kBool,trivial⟩ ((f_conv h).up (by omega)).ca) (As.name (Or.inl rfl)) (sw_of fun env=>⟨rfl,by kernel_rfl,by kernel_rfl⟩))
      (Exs.cons (Ex.expr (Ev.methL F.slot_list_append F.type_list_append (Ev.loc rfl rfl) (ms:=[_]) (mk:=[]) ⟨(Ev.loc rfl rfl),trivial⟩ trivial Ca.append))
      Exs.nil))
      Exs.nil)
    (Exs.cons (Ex.for (Itr.items (Ev.loc rfl rfl))
      (As.tup (fs:=[_,_]) ⟨(As.name (Or.inl rfl)),(As.name (Or.inl rfl)),trivial⟩ rfl)
      (Exs.cons (Ex.asgn (Ev.methI (i1_76 h) (i2_76 h) (i3_76 h) (i4_76 h) (Ev.loc rfl rfl) (ms:=[_]) (mk:=[("name", _)]) ⟨(Ev.loc rfl rfl),trivial⟩ ⟨rfl,Ev.kBool,trivial⟩ ((f_conv h).up (by omega)).ca) (As.name (Or.inl rfl)) (sw_of fun env=>⟨rfl,by kernel_rfl,by kernel_rfl⟩))
      (Exs.cons (Ex.ite (Cd.cmp (Ev.loc rfl rfl) Ev.kNone (Op2.is))
        (Exs.cons (Ex.expr (Ev.methL F.slot_list_append F.type_list_append (Ev.loc rfl rfl) (ms:=[_]) (mk:=[]) ⟨(Ev.replC hlo (Ev.loc rfl rfl)),trivial⟩ trivial Ca.append))
        Exs.nil)
        (Exs.cons (Ex.asgn (Ev.methI (i1_76 h) (i2_76 h) (i3_76 h) (i4_76 h) (Ev.loc rfl rfl) (ms:=[_]) (mk:=[("name", _)]) ⟨(Ev.loc rfl rfl),trivial⟩ ⟨rfl,Ev.kBool,trivial⟩ ((f_conv h).up (by omega)).ca) (As.name (Or.inl rfl)) (sw_of fun env=>⟨rfl,by kernel_rfl,by kernel_rfl⟩))
        (Exs.cons (Ex.expr (Ev.methL F.slot_list_append F.type_list_append (Ev.loc rfl rfl) (ms:=[_]) (mk:=[]) ⟨(Ev.call (g_formatparam h rfl) (ms:=[_,_]) (mk:=[]) ⟨(Ev.replC hlo (Ev.loc rfl rfl)),(Ev.loc rfl rfl),trivial⟩ trivial (i4_54 h) ((f_fpar h hlo).up (by omega)).ca),trivial⟩ trivial Ca.append))
        Exs.nil)))
      Exs.nil)))
    (Exs.cons (Ex.expr (Ev.methL F.slot_list_append F.type_list_append (at_headers h (Ev.loc rfl rfl)) (ms:=[_]) (mk:=[]) ⟨(Ev.tup (ms:=[_,_]) ⟨(Ev.methI (i1_76 h) (i2_76 h) (i3_76 h) (i4_76 h) (Ev.loc rfl rfl) (ms:=[_]) (mk:=[("name", _)]) ⟨(Ev.loc rfl rfl),trivial⟩ ⟨rfl,Ev.kBool,trivial⟩ ((f_conv h).up (by omega)).ca),(Ev.methS F.slot_str_join F.type_str_join kE1 (ms:=[_]) (mk:=[]) ⟨(Ev.loc rfl rfl),trivial⟩ trivial Ca.join (hbase:=fun _=>by rw [← hE1]; rfl)),trivial⟩ rfl),trivial⟩ trivial Ca.append))
    Exs.nil)))),?_,?_⟩
    · intro fr σ k n v j ps f1 f2 f3 f4 hn hv hh
      have i1:isIns 175 "_convert_string_type" (.ref k) (σ ++ [.lst []])=true:=ins_at (hdr_app hh) rfl
      have r1:isRefL (.ref σ.length) (σ ++ [.lst []])=true:=refL_last
      have a1:fAppend (.ref σ.length) (.str v) (σ ++ [.lst []])=some (.val .none,σ ++ [.lst [.str v]]):=app_last (ds:=[]) (Nat.zero_le _)
      refine fn_next (st_set (ev_lstR rfl ev_l0)) ?_
      cases hc:v.cps.toList.any ctlV with
      | true =>
        have e4:=conv_x (a:=.ref k) (σ:=σ ++ [.lst []]) hc
        exact fn_exc (st_ifT (by dsimp! only [fIs_str]) (seq_exc (st_x (by dsimp! only []))))
      | false =>
        have e4:=conv_v (a:=.ref k) (σ:=σ ++ [.lst []]) hc
        refine fn_next (st_ifT (by dsimp! only [fIs_str]) (seq_next (st_set (by dsimp! only [])) (seq_next (st_expr (by dsimp! only [])) rfl))) ?_
        refine fn_next (st_for (items_nil (ev_var (by dsimp! only []))) (each_nil trivial)) ?_
        exact fn_next (st_expr (last_at (xs:=[v]) hh (by dsimp! only []) (by dsimp! only []) (by dsimp! only []) hn (fun x hx=>by rw [List.mem_singleton.mp hx]; have:=short_le hv; omega) (by show 1 ≤ 3; decide))) fn_end
    · intro fr σ k n t j ps f1 f2 f3 f4 hn ht hp hh
      have c1:=conv_v (x := "v") (a:=.ref k) (σ:=σ ++ [.lst []]) (by decide +kernel)
      have i0:∀ x:AO,isIns 175 "_convert_string_type" (.ref k) (σ ++ [x])=true:=fun x=>ins_at (hdr_app hh) rfl
      have r1:∀ xs,isRefL (.ref σ.length) (σ ++ [.lst xs])=true:=fun xs=>refL_last
      have i1:=i0 (.lst [])
      have r2:=r1 []
      have a1:fAppend (.ref σ.length) (.str "v") (σ ++ [.lst []])=some (.val .none,σ ++ [.lst [.str "v"]]):=app_last (ds:=[]) (Nat.zero_le _)
      refine fn_next (st_set (ev_lstR rfl ev_l0)) ?_
      refine fn_next (st_ifT (by dsimp! only [fIs_str]) (seq_next (st_set (by dsimp! only [])) (seq_next (st_expr (by dsimp! only [])) rfl))) ?_
      have i2:=i0 (.lst [.str "v"])
      have r3:=r1 [.str "v"]
      have c2:=conv_n (x := "p_q") (a:=.ref k) (σ:=σ ++ [.lst [.str "v"]]) (by decide +kernel)
      have q0:(PySem.Str.ofString "p_q").length ≤ 1000:=by decide +kernel
      have q1:(PySem.Str.ofString "p-q").length ≤ 1000:=by decide +kernel
      have q2:(PySem.Str.ofString "r").length ≤ 1000:=by decide +kernel
      have w1:Txt.replace "p_q" "_" "-" = PySem.Str.ofString "p-q" := by decide +kernel
      have w2:Txt.replace "r" "_" "-" = PySem.Str.ofString "r" := by decide +kernel
      cases hc:t.cps.toList.any ctlV with
      | true =>
        have e4:=conv_x (a:=.ref k) (σ:=σ ++ [.lst [.str "v"]]) hc
        refine fn_exc (fr1:=(upd (upd (upd (upd (upd fr "parts" (.ref σ.length)) "_value" (.str "v")) "k" (.str "p_q")) "v" (.str t)) "k" (.str "p_q"))) (st_for (items_two (ev_var (by dsimp! only []))) ?_)
        refine each_exc trivial (ev_turn ev_tgt2 (seq_next (σ1:=σ ++ [.lst [.str "v"]]) (st_set (d:=.str "p_q") ?_) (seq_exc (st_ifF (σ1:=σ ++ [.lst [.str "v"]]) ?_ (seq_exc (st_x ?_))))))
        · exact ev_meth (ev_var (by dsimp! only [])) i2 (ev_scons (ev_var (by dsimp! only [])) rfl) (ev_kcons rfl rfl) c2
        · dsimp! only [fIs_str]
        · exact ev_meth (ev_var (by dsimp! only [])) i2 (ev_scons (ev_var (by dsimp! only [])) rfl) (ev_kcons rfl rfl) e4
      | false =>
        have e4:=conv_v (a:=.ref k) (σ:=σ ++ [.lst [.str "v"]]) hc
        have i3:=i0 (.lst [.str "v", .str (par t)])
        have r4:=r1 [.str "v", .str (par t)]
        have a2:fAppend (.ref σ.length) (.str (par t)) (σ ++ [.lst [.str "v"]])=some (.val .none,σ ++ [.lst [.str "v", .str (par t)]]):=app_last (ds:=[.str "v"]) (by show 1 ≤ 1000; decide)
        have a3:fAppend (.ref σ.length) (.str "r") (σ ++ [.lst [.str "v", .str (par t)]])=some (.val .none,σ ++ [.lst [.str "v", .str (par t),.str "r"]]):=app_last (ds:=[.str "v", .str (par t)]) (by show 2 ≤ 1000; decide)
        have c3:=conv_n (x := "r") (a:=.ref k) (σ:=σ ++ [.lst [.str "v", .str (par t)]]) (by decide +kernel)
        have p1:=fpar_at (σ:=σ ++ [.lst [.str "v"]]) ht
        refine fn_next (fr1:=(upd (upd (upd (upd (upd (upd (upd (upd (upd fr "parts" (.ref σ.length)) "_value" (.str "v")) "k" (.str "p_q")) "v" (.str t)) "k" (.str "p_q")) "v" (.str t)) "k" (.str "r")) "v" .none) "k" (.str "r"))) (σ1:=σ ++ [.lst [.str "v", .str (par t),.str "r"]]) (st_for (items_two (ev_var (by dsimp! only []))) ?_) ?_
        · refine each_next trivial (ev_turn ev_tgt2 (seq_next (st_set (d:=.str "p_q") (σ1:=σ ++ [.lst [.str "v"]]) ?_) (seq_next (fr1:=(upd (upd (upd (upd (upd (upd fr "parts" (.ref σ.length)) "_value" (.str "v")) "k" (.str "p_q")) "v" (.str t)) "k" (.str "p_q")) "v" (.str t))) (σ1:=σ ++ [.lst [.str "v", .str (par t)]]) (st_ifF (σ1:=σ ++ [.lst [.str "v"]]) ?_ (seq_next (σ1:=σ ++ [.lst [.str "v"]]) (st_set (d:=.str t) ?_) (seq_next (st_expr (d:=.none) ?_) rfl))) rfl))) ?_
          · exact ev_meth (ev_var (by dsimp! only [])) i2 (ev_scons (ev_var (by dsimp! only [])) rfl) (ev_kcons rfl rfl) c2
          · dsimp! only [fIs_str]
          · exact ev_meth (ev_var (by dsimp! only [])) i2 (ev_scons (ev_var (by dsimp! only [])) rfl) (ev_kcons rfl rfl) e4
          · exact ev_met1 (ev_var (by dsimp! only [])) r3 (ev_call2 (ev_repl (ev_var (by dsimp! only [])) q0 w1 q1) (ev_var (by dsimp! only [])) p1) (ev_one2 a2)
          · refine each_next trivial (ev_turn ev_tgt2 (seq_next (σ1:=σ ++ [.lst [.str "v", .str (par t)]]) (st_set (d:=.str "r") ?_) (seq_next (σ1:=σ ++ [.lst [.str "v", .str (par t),.str "r"]]) (st_ifT (σ1:=σ ++ [.lst [.str "v", .str (par t)]]) ?_ (seq_next (σ1:=σ ++ [.lst [.str "v", .str (par t),.str "r"]]) (st_expr (d:=.none) ?_) rfl)) rfl))) (each_nil trivial)
            · exact ev_meth (ev_var (by dsimp! only [])) i3 (ev_scons (ev_var (by dsimp! only [])) rfl) (ev_kcons rfl rfl) c3
            · dsimp! only [fIs_nn]
            · exact ev_met1 (ev_var (by dsimp! only [])) r4 (ev_repl (ev_var (by dsimp! only [])) q2 w2 q2) (ev_one2 a3)
        · exact fn_next (st_expr (last_at (xs:=["v", par t, "r"]) hh (by dsimp! only []) (by dsimp! only []) (by dsimp! only []) hn (fun x hx=>by
            rcases List.mem_cons.mp hx with e | hx
            · rw [e]; exact Nat.le_trans (show (PySem.Str.ofString "v").length ≤ 1000 by decide +kernel) (by decide)
            rcases List.mem_cons.mp hx with e | hx
            · rw [e]; exact hp
            · rw [List.mem_singleton.mp hx]; omega) (by show 3 ≤ 3; decide))) fn_end
end
end
section
section
noncomputable def sAdd2:Fm:=on3 dRef dStr dStr fun k x v σ=>if okN x=true∧shortS v=true then (hdr σ k).map fun r=>layO σ r.1 r.2 x v .none else none
theorem add_at {σ:List AO} {k j:Nat} {x v:PySem.Str} {ps:Tb} (hx:okN x=true) (hv:shortS v=true) (hh:hdr σ k=some (j,ps)):sAdd2 [.ref k,.str x,.str v] [] σ=some (layO σ j ps x v .none):=by
  refine (on3_mk (p:=dRef) (q:=dStr) (u:=dStr) rfl rfl rfl).trans ?_
  rw [if_pos ⟨hx,hv⟩,hh]; rfl
/-- a row with parameters laid -/
noncomputable def lay4 (σ:List AO) (j:Nat) (ps:Tb) (n t:PySem.Str):Out D × List AO:=if t.cps.toList.any ctlV then (.exc "ValueError" msgV,σ) else (.val .none,tbSet σ j (ps ++ [(n,txt4 t)]))
theorem kw2 {x y:PySem.Str} {l:List (PySem.Str × Value)} (h:l.map (·.1)=[x,y]):∃ v w,l=[(x,v),(y,w)]:=by
  refine xEE (len2 (l:=l) (by have:=congrArg List.length h; simpa using this)) fun p q e=>?_
  subst e
  cases h
  exact ⟨p.2,q.2,rfl⟩
noncomputable def kws (t:PySem.Str):List (PySem.Str × D):=[("p_q", .str t),("r", .none)]
noncomputable def sAdd4:Fm:=fun ds kd σ=>(pick fun t:PySem.Str=>kd=kws t).bind fun t=>on3 dRef dStr dStr (fun k x v σ=>if okN x=true∧okT t=true∧(par t).length ≤ 2000∧v = "v" then (hdr σ k).map fun r=>lay4 σ r.1 r.2 x t else none) ds [] σ
theorem kw4 (t:PySem.Str):(pick fun u:PySem.Str=>kws t=kws u)=some t:=pick_mk rfl fun u h=>by
  unfold kws at h
  injection h with h _
  injection h with _ h
  injection h with h
  exact h.symm
theorem add4_at {σ:List AO} {k j:Nat} {x t:PySem.Str} {ps:Tb} (hx:okN x=true) (ht:okT t=true) (hp:(par t).length ≤ 2000) (hh:hdr σ k=some (j,ps)):sAdd4 [.ref k,.str x,.str "v"] [("p_q", .str t),("r", .none)] σ=some (lay4 σ j ps x t):=by
  show (pick fun u:PySem.Str=>kws t=kws u).bind _=_
  rw [kw4,Option.bind_some]
  refine (on3_mk (p:=dRef) (q:=dStr) (u:=dStr) rfl rfl rfl).trans ?_
  rw [if_pos ⟨hx,ht,hp,rfl⟩,hh]; rfl
theorem take_app {σ τ:List AO} : (σ ++ τ).take σ.length=σ:=List.take_left
theorem old_refs {σ:List AO} : ∀ (i:Nat) (o:AO),σ[i]? = some o→σ[i]? = some o∨o.refs (· < σ.length):=fun _ _ h=>.inl h
end
section
variable {G:Amb} (h:G.K=K1 G.w.params) (hlo:1 ≤ G.lo)
include h hlo
theorem f_add:Fn G true 6 172 sAdd2:=by
  refine xEAA (addB h hlo) fun m hm hs _=>?_
  refine Fn.drop (Fn.at h (ok_172 _) (Bnd.planKw (k:=3) (ks:=[]) (pl:=[("self", .pos 0),("_name", .pos 1),("_value", .pos 2)]) (nm := "_params") (by exact ⟨trivial,trivial,trivial,trivial⟩) .nil ?_) ?_ hm) ?_
  · intro S vs kw hv hk
    refine Eq.trans (congrArg (fun K=>pkA K S _) h) ?_
    refine xEEE (len3 hv) fun v0 v1 v2 q=>?_
    subst q
    obtain rfl:=kw0 hk
    kernel_rfl
  · intro ds kd bd hb
    unfold bfKw at hb
    refine xA (ite_inv hb) fun _ hb=>?_
    refine xA (ite_inv hb) fun _ hb=>?_
    rw [← s1E hb]
    kernel_rfl
  · intro ds kd σ r hr
    refine xEEE (on3_inv dRef_eq dStr_eq dStr_eq hr) fun k x v e=>?_
    refine xAA e fun e1 e2 hr=>?_
    subst e1
    subst e2
    refine xA (ite_inv hr) fun hx hr=>?_
    refine xEA (Option.map_eq_some_iff.mp hr) fun r hh e=>?_
    have e5:=hs (upd (upd (upd (upd (fun _=>none) "self" (.ref k)) "_name" (.str x)) "_value" (.str v)) "_params" (.dct [])) σ k x v r.1 r.2 (by dsimp! only []) (by dsimp! only []) (by dsimp! only []) (by dsimp! only []) hx.1 hx.2 hh
    rw [← e]
    unfold layO
    cases hc:v.cps.toList.any ctlV with
    | true =>
      rw [hc] at e5
      exact ⟨_,e5,take_app.symm,old_refs,fun d hd=>nEV hd⟩
    | false =>
      rw [hc] at e5
      exact ⟨_,e5,(tb_take hh).symm,tb_refs,fun d hd=>by rw [← valE hd]; trivial⟩
theorem f_add4:Fn G true 6 172 sAdd4:=by
  refine xEAA (addB h hlo) fun m hm _ hs=>?_
  refine Fn.drop (Fn.at h (ok_172 _) (Bnd.planKw (k:=3) (ks:=["p_q", "r"]) (pl:=[("self", .pos 0),("_name", .pos 1),("_value", .pos 2)]) (nm := "_params") (by exact ⟨trivial,trivial,trivial,trivial⟩) (by decide +kernel) ?_) ?_ hm) ?_
  · intro S vs kw hv hk
    refine Eq.trans (congrArg (fun K=>pkA K S _) h) ?_
    refine xEEE (len3 hv) fun v0 v1 v2 q=>?_
    subst q
    refine xEE (kw2 hk) fun w0 w1 q=>?_
    subst q
    kernel_rfl
  · intro ds kd bd hb
    unfold bfKw at hb
    refine xA (ite_inv hb) fun _ hb=>?_
    refine xA (ite_inv hb) fun _ hb=>?_
    rw [← s1E hb]
    kernel_rfl
  · intro ds kd σ r hr
    refine xEA (Option.bind_eq_some_iff.mp hr) fun t ht hr2=>?_
    have ht:=pick_ok (P:=fun t:PySem.Str=>kd=kws t) ht
    subst ht
    refine xEEE (on3_inv dRef_eq dStr_eq dStr_eq hr2) fun k x v e=>?_
    refine xAA e fun e1 e2 hr3=>?_
    subst e1
    refine xA (ite_inv hr3) fun hx hr4=>?_
    have hv:=hx.2.2.2
    subst hv
    refine xEA (Option.map_eq_some_iff.mp hr4) fun r hh e=>?_
    have e5:=hs (upd (upd (upd (upd (fun _=>none) "self" (.ref k)) "_name" (.str x)) "_value" (.str "v")) "_params" (.dct [("p_q", .str t),("r", .none)])) σ k x t r.1 r.2 (by dsimp! only []) (by dsimp! only []) (by dsimp! only []) (by dsimp! only []) hx.1 hx.2.1 hx.2.2.1 hh
    rw [← e]
    unfold lay4
    cases hc:t.cps.toList.any ctlV with
    | true =>
      rw [hc] at e5
      exact ⟨_,e5,take_app.symm,old_refs,fun d hd=>nEV hd⟩
    | false =>
      rw [hc] at e5
      exact ⟨_,e5,(tb_take hh).symm,tb_refs,fun d hd=>by rw [← valE hd]; trivial⟩
end
end
section
section
noncomputable def rowOk (p:PySem.Str × PySem.Str):Bool:=okN p.1 && (shortS p.2 && !(p.2.cps.toList.any ctlV))
theorem rowOk_ok {p:PySem.Str × PySem.Str} (h:rowOk p=true):okN p.1=true∧shortS p.2=true∧p.2.cps.toList.any ctlV=false:=by
  unfold rowOk at h
  simp only [Bool.and_eq_true,Bool.not_eq_true'] at h
  exact h
theorem ex_ifT {m:Mo Bool} {a b:Mf SF} {fr:Fr} {σ σ1 σ2:List AO} {Q:Fr→Prop} {o:Out SF} (h:m fr σ=some (.val true,σ1)) (h2:∃ fr',Q fr'∧a fr σ1=some (o,fr',σ2)):∃ fr',Q fr'∧Mf.bind (Mf.lift m) (fun c=>if c then a else b) fr σ=some (o,fr',σ2):=h2.imp fun _ e=>⟨e.1,st_ifT h e.2⟩
theorem ex_seq1 {m:Mf SF} {fr:Fr} {σ σ2:List AO} {Q:Fr→Prop} (h2:∃ fr',Q fr'∧m fr σ=some (.val .next,fr',σ2)):∃ fr',Q fr'∧Mf.seq m (Mf.pure .next) fr σ=some (.val .next,fr',σ2):=h2.imp fun _ e=>⟨e.1,seq_next e.2 rfl⟩
/-- a loop whose turns leave the store -/
theorem ex_for {m:Mo Src} {x:Src} {tgt:D→Mf Unit} {body:Mf SF} {fr:Fr} {σ σ1:List AO} (I:Fr→Prop) (hm:m fr σ=some (.val x,σ1)) (hP:x.P σ1) (h0:I fr) (step:∀ d ∈ x.ds,∀ fr,I fr→∃ fr',I fr'∧turn tgt body d fr σ1=some (.val .next,fr',σ1)) :
    ∃ fr',I fr'∧Mf.bind (Mf.lift m) (fun x=>Mf.each x.P tgt body x.ds) fr σ=some (.val .next,fr',σ1):=by
  refine xEA (each_ret I hP (fun _=>none) step fr h0) fun fr' hI e=>?_
  rw [List.findSome?_eq_none_iff.mpr fun _ _=>rfl] at e
  exact ⟨fr',hI,st_for hm e⟩
theorem ev_setA {mo:Mo D} {fr:Fr} {σ:List AO} {k:Nat} {d:D} (h:mo fr σ=some (.val (.ref k),σ)) (h2:σ[k]? = some (.ins 175 [])):Mf.setA 175 "_headers" mo d fr σ=some (.val (),fr,σ.set k (.ins 175 [("_headers", d)])):=by
  refine ev_bind (ev_lift h) ?_
  dsimp only
  rw [h2]
  exact if_pos ⟨rfl,rfl,by decide⟩
noncomputable def sInit:Fm:=on2 dRef dRef fun k j σ=>(pick fun ps:Tb=>σ[k]? = some (.ins 175 [])∧σ[j]? = some (.lst (ps.map pD))∧ps.all rowOk=true).map fun _=>(.val .none,σ.set k (.ins 175 [("_headers", .ref j)]))
noncomputable abbrev sCls:Fm:=mfCls 175 sInit
theorem cls_at {σ:List AO} {j:Nat} {ps:Tb} (h:σ[j]? = some (.lst (ps.map pD))) (hp:ps.all rowOk=true):sCls [.ref j] [] σ=some (.val (.ref σ.length),σ ++ [.ins 175 [("_headers", .ref j)]]):=by
  have e:sInit [.ref σ.length,.ref j] [] (σ ++ [.ins 175 []])=some (.val .none,σ ++ [.ins 175 [("_headers", .ref j)]]):=by
    refine (on2_mk (p:=dRef) (q:=dRef) rfl rfl).trans ?_
    rw [pick_mk (a:=ps) ⟨get_last,get_old h,hp⟩ fun b hb=>?_,Option.map_some,set_last]
    have:=s1E (hb.2.1.symm.trans (get_old h))
    injection this with this
    exact pDs_inj this
  unfold sCls mfCls
  rw [e]
end
section
variable {G:Amb} (h:G.K=K1 G.w.params)
include h
theorem f_init:Fn G true 6 69 sInit:=by
  have body:∃ m,Exs G true 5 (scopeAt (K1 G.w.params) 69) (bodyAt (K1 G.w.params) 69) m∧∀ ds kd σ r,sInit ds kd σ=some r→((bfOf 2 [] [("self", .pos 0),("headers", .pos 1)] ds kd).bind fun bd=>Mf.fn m (frB bd fun _=>none) σ)=some r:=by
    refine ⟨_,(Exs.cons (Ex.asgn (Ev.ite (Cd.cmp (Ev.loc rfl rfl) Ev.kNone (Op2.isNot)) (Ev.loc rfl rfl) (Ev.dead)) (As.name (Or.inl rfl)) (sw_of fun env=>⟨rfl,by kernel_rfl,by kernel_rfl⟩))
    (Exs.cons (Ex.ite (Cd.cmp (Ev.call (g_type h rfl) (ms:=[_]) (mk:=[]) ⟨(Ev.loc rfl rfl),trivial⟩ trivial Kep.typ Ca.type) (g_list h rfl) (Op2.isNot))
      (Exs.cons (Ex.raise F.excCall_TypeError F.excRaise_TypeError rfl (b_TypeError h) rfl (by decide +kernel) rfl (Ev.kStr (by decide +kernel)) rfl)
      Exs.nil)
      Exs.nil)
    (Exs.cons (Ex.asgn (Ev.loc rfl rfl) (st_headers h (Ev.loc rfl rfl)) (sw_of fun env=>⟨rfl,by kernel_rfl,by kernel_rfl⟩))
    (Exs.cons (Ex.ite (Cd.val Ev.kBool)
      (Exs.cons (Ex.for (Itr.ev (Ev.loc rfl rfl))
        (As.tup (fs:=[_,_]) ⟨(As.name (Or.inl rfl)),(As.name (Or.inl rfl)),trivial⟩ rfl)
        (Exs.cons (Ex.expr (Ev.methI (i1_76 h) (i2_76 h) (i3_76 h) (i4_76 h) (Ev.loc rfl rfl) (ms:=[_]) (mk:=[("name", _)]) ⟨(Ev.loc rfl rfl),trivial⟩ ⟨rfl,Ev.kBool,trivial⟩ ((f_conv h).up (by omega)).ca))
        (Exs.cons (Ex.expr (Ev.methI (i1_76 h) (i2_76 h) (i3_76 h) (i4_76 h) (Ev.loc rfl rfl) (ms:=[_]) (mk:=[("name", _)]) ⟨(Ev.loc rfl rfl),trivial⟩ ⟨rfl,Ev.kBool,trivial⟩ ((f_conv h).up (by omega)).ca))
        Exs.nil)))
      Exs.nil)
      Exs.nil)
    Exs.nil)))),?_⟩
    intro ds kd σ r hr
    refine xEE (on2_inv dRef_eq dRef_eq hr) fun k j e=>?_
    refine xAA e fun e1 e2 hr=>?_
    subst e1
    subst e2
    refine xEA (Option.map_eq_some_iff.mp hr) fun ps hps e=>?_
    rw [← e]
    refine xAAA (show _∧_∧_∧True from (pick_ok (P:=fun ps:Tb=>σ[k]? = some (.ins 175 [])∧σ[j]? = some (.lst (ps.map pD))∧ps.all rowOk=true) hps).imp_right fun q=>q.imp_right fun q=>⟨q,trivial⟩) fun h1 h2 h3 _=>?_
    have hne:k ≠ j:=fun e=>by rw [e,h2] at h1; exact nAny AO.ctorIdx (s1E h1) rfl
    have hlt:k < σ.length:=(List.getElem?_eq_some_iff.mp h1).1
    have h5:(σ.set k (.ins 175 [("_headers", .ref j)]))[j]? = some (.lst (ps.map pD)):=by rw [List.getElem?_set_ne hne]; exact h2
    have h6:(σ.set k (.ins 175 [("_headers", .ref j)]))[k]? = some (.ins 175 [("_headers", .ref j)]):=List.getElem?_set_self hlt
    have h7:=List.all_eq_true.mp h3
    have e3:lstOf (.ref j) σ=some (ps.map pD):=by unfold lstOf; simp only [h2]
    have e4:fType (.ref j) σ=some (.val (.glob (.type "list")),σ):=by rw [fType_ref,e3]; rfl
    show Mf.fn _ (upd (upd (fun _=>none) "self" (.ref k)) "headers" (.ref j)) σ=_
    refine fn_next (st_set (d:=.ref j) (σ1:=σ) (ev_ite (t:=true) (ev_tru (b:=true) (ev_op2 (ev_var (by dsimp! only [])) ev_mpure rfl) rfl) (ev_var (by dsimp! only [])))) ?_
    refine fn_next (st_ifF (σ1:=σ) (ev_tru (b:=false) (ev_op2 (ev_call1 (ev_var (by dsimp! only [])) (ev_one1 e4)) ev_mpure rfl) rfl) rfl) ?_
    refine fn_next (st_asgn (ev_var (by dsimp! only [])) (ev_setA (ev_var (by dsimp! only [])) h1)) ?_
    refine fn_by (fun _=>True) (.val .next) (σ.set k (.ins 175 [("_headers", .ref j)])) ?_ fun fr' _ e=>fn_next e fn_end
    refine ex_ifT rfl (ex_seq1 ?_)
    refine (ex_for (fun fr=>fr "self" = some (.ref k)) (ev_src (ev_var (by dsimp! only [])) (src_ref h5)) h5 (by dsimp! only []) fun a ha fr hI=>?_).imp fun _ e=>⟨trivial,e.2⟩
    refine xEA (List.mem_map.mp ha) fun p hp q0z=>?_
    subst q0z
    refine xAA (rowOk_ok (h7 p hp)) fun p1 p2 p3=>?_
    have i1:isIns 175 "_convert_string_type" (.ref k) (σ.set k (.ins 175 [("_headers", .ref j)]))=true:=isIns_ok h6 (by rw [Ne,ofs_inj]; decide)
    have c1:=conv_n (a:=.ref k) (σ:=σ.set k (.ins 175 [("_headers", .ref j)])) (okN_ok p1).ctl
    have c2:=conv_v (a:=.ref k) (σ:=σ.set k (.ins 175 [("_headers", .ref j)])) p3
    refine ⟨upd (upd fr "k" (.str p.1)) "v" (.str p.2),by dsimp! only [],ev_turn ev_tgt2 (seq_next (st_expr (by dsimp! only [])) (seq_next (st_expr (by dsimp! only [])) rfl))⟩
  obtain ⟨m,hm,hs⟩:=body
  refine Fn.mono (Fn.at h (ok_69 _) (Bnd.plan (by exact ⟨trivial,trivial,trivial⟩) ?_) ?_ hm) hs
  · intro S vs kw hv hk
    refine Eq.trans (congrArg (fun K=>peek K S _) h) ?_
    obtain ⟨v0,v1,rfl⟩:=len2 hv
    obtain rfl:=kw0 hk
    kernel_rfl
  · intro ds kd bd hb
    unfold bfOf at hb
    split at hb
    · split at hb
      · cases hb; kernel_rfl
      · cases hb
    · cases hb
theorem f_cls:Fn G true 7 175 sCls:=Fn.cls (by rw [h]; rfl) (by rw [h]; rfl) (by rw [h]; rfl) (f_init h)
end
end
section
theorem lt6 {P:Nat→Prop} (h0:P 0) (h1:P 1) (h2:P 2) (h3:P 3) (h4:P 4) (h5:P 5) (j:Nat) (h:j < 6):P j:=by
  match j,h with
  | 0,_=>exact h0
  | 1,_=>exact h1
  | 2,_=>exact h2
  | 3,_=>exact h3
  | 4,_=>exact h4
  | 5,_=>exact h5
theorem lt8 {P:Nat→Prop} (h0:P 0) (h1:P 1) (h2:P 2) (h3:P 3) (h4:P 4) (h5:P 5) (h6:P 6) (h7:P 7) (j:Nat) (h:j < 8):P j:=by
  by_cases e:j < 6
  · exact lt6 h0 h1 h2 h3 h4 h5 j e
  · by_cases q:j=6
    · rw [q]; exact h6
    · have:j=7:=by omega
      rw [this]; exact h7
section
/-- one call of the script -/
structure Deed where
  kind:Nat
  name:PySem.Str
  text:PySem.Str
noncomputable def dD (d:Deed):D:=.tup [.int d.kind,.str d.name,.str d.text]
noncomputable def deedOk (d:Deed):Bool:=decide (d.kind < 8) && (okN d.name && (okT d.text && (decide ((par d.text).length ≤ 2000) && shortS (txt4 d.text))))
structure DeedOk (d:Deed):Prop where
  kind:d.kind < 8
  name:okN d.name=true
  text:okT d.text=true
  par:(par d.text).length ≤ 2000
  txt4:shortS (txt4 d.text)=true
theorem deedOk_ok {d:Deed} (h:deedOk d=true):DeedOk d:=by
  unfold deedOk at h
  simp only [Bool.and_eq_true,decide_eq_true_eq] at h
  exact ⟨h.1,h.2.1,h.2.2.1,h.2.2.2.1,h.2.2.2.2⟩
noncomputable def badT (t:PySem.Str):Bool:=t.cps.toList.any ctlV
noncomputable def msgD:D:=.str msgV
noncomputable def doneD:D:=.str "done"
noncomputable def vals (ps:Tb) (x:PySem.Str):List D:=(ps.filter (isN x)).map fun p=>.str p.2
/-- what a call answers and leaves -/
noncomputable def stepR (ps:Tb) (d:Deed):D × Tb:=match d.kind with
  | 0=>if badT d.text then (msgD,fil ps (Txt.lower d.name)) else (doneD,fil ps (Txt.lower d.name) ++ [(d.name,d.text)])
  | 1=>(doneD,fil ps (Txt.lower d.name))
  | 2=>if has ps (Txt.lower d.name) then (fst? ps (Txt.lower d.name) .none,ps) else if badT d.text then (msgD,ps) else (.str d.text,ps ++ [(d.name,d.text)])
  | 3=>if badT d.text then (msgD,ps) else (doneD,ps ++ [(d.name,d.text)])
  | 4=>if badT d.text then (msgD,ps) else (doneD,ps ++ [(d.name,txt4 d.text)])
  | 5=>(fst? ps (Txt.lower d.name) (.str "none"),ps)
  | 6=>(.lst (vals ps (Txt.lower d.name)),ps)
  | _=>(.bool (has ps (Txt.lower d.name)),ps)
noncomputable def runR:Tb→List Deed→List D × Tb
  | ps,[]=>([],ps)
  | ps,d :: ds=>((stepR ps d).1 :: (runR (stepR ps d).2 ds).1,(runR (stepR ps d).2 ds).2)
/-- the run's store -/
noncomputable def ST (ps:Tb) (told:List D):List AO:=[.lst (ps.map pD),.ins 175 [("_headers", .ref 0)],.lst told]
structure TbOk (ps:Tb) (n:Nat):Prop where
  len:ps.length ≤ n
  row:∀ p ∈ ps,shortS p.1=true∧shortS p.2=true
theorem st_hdr {ps:Tb} {told:List D} {n:Nat} (h:TbOk ps n) (hn:n ≤ 1000):hdr (ST ps told) 1=some (0,ps):=hdr_of rfl rfl (Nat.le_trans h.len hn) h.row
theorem tbOk_fil {ps:Tb} {n:Nat} {x:PySem.Str} (h:TbOk ps n):TbOk (fil ps x) n:=⟨Nat.le_trans (fil_le ps x) h.len,fun p hp=>h.row p (fil_mem hp)⟩
theorem tbOk_up {ps:Tb} {n:Nat} (h:TbOk ps n):TbOk ps (n + 1):=⟨Nat.le_succ_of_le h.len,h.row⟩
theorem tbOk_app {ps:Tb} {n:Nat} {a b:PySem.Str} (h:TbOk ps n) (ha:shortS a=true) (hb:shortS b=true):TbOk (ps ++ [(a,b)]) (n + 1):=by
  refine ⟨by rw [List.length_append]; exact Nat.succ_le_succ h.len,fun p hp=>?_⟩
  rcases List.mem_append.mp hp with q | q
  · exact h.row p q
  · rw [List.mem_singleton.mp q]; exact ⟨ha,hb⟩
theorem step_ok {ps:Tb} {n:Nat} {d:Deed} (h:TbOk ps n) (hd:DeedOk d):TbOk (stepR ps d).2 (n + 1):=by
  have h0:=tbOk_up h
  have h1:=tbOk_app (tbOk_fil (x:=Txt.lower d.name) h) (okN_ok hd.name).short (okT_ok hd.text).1
  have h2:=tbOk_app h (okN_ok hd.name).short (okT_ok hd.text).1
  have h3:=tbOk_app h (okN_ok hd.name).short hd.txt4
  have h4:=tbOk_up (tbOk_fil (x:=Txt.lower d.name) h)
  unfold stepR
  split
  · split <;> assumption
  · assumption
  · split
    · assumption
    · split <;> assumption
  · split <;> assumption
  · split <;> assumption
  · assumption
  · assumption
  · assumption
theorem opEq_int {a b:Int} {σ:List AO} : opEq (.int a) (.int b) σ=some (.val (.bool (decide (a=b))),σ):=rfl
theorem kindE {fr:Fr} {σ:List AO} {c i:Int} (h:fr "kind" = some (.int c)):Mo.tru (Mo.op2 opEq (Mo.var "kind") (Mo.pure (.int i))) fr σ=some (.val (decide (c=i)),σ):=ev_tru (ev_op2 (ev_var h) ev_mpure opEq_int) rfl
theorem st_item {C:Addr} {mf:Fm} {mv mo mi:Mo D} {fr:Fr} {σ σ':List AO} {a b d v:D} (h:mv fr σ=some (.val d,σ)) (h1:mo fr σ=some (.val a,σ)) (h2:mi fr σ=some (.val b,σ)) (hC:isC C a σ=true) (h3:mf [a,b,d] [] σ=some (.val v,σ')):Mf.bind (Mf.lift mv) (fun d=>Mf.bind (Mf.setI C mf mo mi d) fun _=>Mf.pure SF.next) fr σ=some (.val .next,fr,σ'):=by
  refine st_asgn h (ev_bind (ev_lift h1) (ev_bind (ev_lift h2) ?_))
  rw [if_pos hC,h3]
theorem st_itemX {C:Addr} {mf:Fm} {mv mo mi:Mo D} {fr:Fr} {σ σ':List AO} {a b d:D} {X:String} {msg:PySem.Str} (h:mv fr σ=some (.val d,σ)) (h1:mo fr σ=some (.val a,σ)) (h2:mi fr σ=some (.val b,σ)) (hC:isC C a σ=true) (h3:mf [a,b,d] [] σ=some (.exc X msg,σ')):Mf.bind (Mf.lift mv) (fun d=>Mf.bind (Mf.setI C mf mo mi d) fun _=>Mf.pure SF.next) fr σ=some (.exc X msg,fr,σ'):=by
  refine ev_bind (ev_lift h) (ev_bindX (ev_bind (ev_lift h1) (ev_bind (ev_lift h2) ?_)))
  rw [if_pos hC,h3]
theorem st_iadd {x:PySem.Str} {mv:Mo D} {fr:Fr} {σ:List AO} {k:Nat} {ds es:List D} (h1:fr x=some (.ref k)) (h2:mv fr σ=some (.val (.lst es),σ)) (h3:σ[k]? = some (.lst ds)) (h4:ds.length + es.length ≤ sizeLine):Mf.iadd x mv fr σ=some (.val .next,upd fr x (.ref k),σ.set k (.lst (ds ++ es))):=by
  refine ev_bind (ev_lift (ev_var h1)) (ev_bind (ev_lift h2) (ev_bind (a:=.ref k) (σ1:=σ.set k (.lst (ds ++ es))) (ev_lift ?_) rfl))
  show (Option.bind (some k) fun k=>Option.bind (some es) fun es=>(atL σ k).bind fun ds=>_)=_
  rw [Option.bind_some,Option.bind_some,atL_mk h3,Option.bind_some,if_pos h4]
theorem st_try {body:Mf SF} {hs:List Hdl} {fr fr1:Fr} {σ σ1:List AO} {f:SF} (h:body fr σ=some (.val f,fr1,σ1)):Mf.try body hs fr σ=some (.val f,fr1,σ1):=by unfold Mf.try; rw [h]
theorem st_catch {body m:Mf SF} {n:PySem.Str} {fr fr1 fr2:Fr} {σ σ1 σ2:List AO} {msg:PySem.Str} (h:body fr σ=some (.exc "ValueError" msg,fr1,σ1)) (h2:m (upd fr1 n (.exc "ValueError" msg)) σ1=some (.val .next,fr2,σ2)):Mf.try body [⟨"ValueError", n,m⟩] fr σ=some (.val .next,dele fr2 n,σ2):=by
  unfold Mf.try
  rw [h]
  dsimp only
  unfold Mf.catch
  have e:subE "ValueError" "ValueError" = some true:=by decide +kernel
  simp only [e,h2]
structure RunFr (fr:Fr):Prop where
  table:fr "table" = some (.ref 1)
  told:fr "told" = some (.ref 2)
noncomputable abbrev iaddM:Mf SF:=Mf.iadd "told" (Mo.ite (Mo.tru (Mo.op2 opIn (Mo.var "kind") (Mo.tup [Mo.pure (.int 0),Mo.pure (.int 1),Mo.pure (.int 3),Mo.pure (.int 4)]))) (Mo.lst [Mo.pure (.str "done")]) (Mo.lst []))
noncomputable abbrev hdlM:Mf SF:=Mf.seq (Mf.bind (Mf.lift (Mo.meth isRefL (one2 fAppend) (Mo.var "told") [Mo.calF (one1 fStr) [Mo.var "error"] []] [])) fun _=>Mf.pure .next) (Mf.pure .next)
theorem app_told {ps:Tb} {told:List D} {d:D} (h:told.length ≤ 1000):fAppend (.ref 2) d (ST ps told)=some (.val .none,ST ps (told ++ [d])):=by
  have hz:sizeLine=16777216:=rfl
  show (if told.length + 1 ≤ sizeLine then some (Out.val D.none,(ST ps told).set 2 (.lst (told ++ [d]))) else none)=_
  rw [if_pos (by omega)]; rfl
theorem dele_diff {a b:String} {fr:Fr} {d:D} (h:(a == b)=false):dele (upd fr (PySem.Str.ofString b) d) (PySem.Str.ofString b) (PySem.Str.ofString a)=fr (PySem.Str.ofString a):=by
  unfold dele
  rw [if_neg (by rw [ofs_inj]; simpa using h)]
  exact upd_diff h
/-- a turn's end: by its chain's outcome -/
theorem end_done {m:Mf SF} {fr:Fr} {ps ps':Tb} {told:List D} {c:Int} (F:RunFr fr) (hl:told.length ≤ 1000) (hc:fr "kind" = some (.int c)) (ho:∀ σ,opIn (.int c) (.tup [.int 0,.int 1,.int 3,.int 4]) σ=some (.val (.bool true),σ)) (h:m fr (ST ps told)=some (.val .next,fr,ST ps' told)) :
    ∃ fr',RunFr fr'∧Mf.seq (Mf.try (Mf.seq m (Mf.seq iaddM (Mf.pure .next))) [⟨"ValueError", "error", hdlM⟩]) (Mf.pure .next) fr (ST ps told)=some (.val .next,fr',ST ps' (told ++ [doneD])):=by
  have hz:sizeLine=16777216:=rfl
  refine ⟨upd fr "told" (.ref 2),⟨(upd_diff (by decide)).trans F.table,upd_same _ _ _⟩,seq_next (st_try (seq_next h (seq_next (st_iadd (es:=[doneD]) F.told (ev_ite (t:=true) (ev_tru (ev_op2 (ev_var hc) (ev_tup (ev_scons ev_mpure (ev_scons ev_mpure (ev_scons ev_mpure (ev_scons ev_mpure rfl)))) ev_l4) (ho _)) rfl) (ev_lst (ev_scons ev_mpure rfl) ev_l1)) rfl ?_) rfl))) rfl⟩
  show told.length + 1 ≤ sizeLine
  omega
theorem end_told {m:Mf SF} {fr:Fr} {ps ps':Tb} {told:List D} {o:D} {c:Int} (F:RunFr fr) (hl:told.length ≤ 1000) (hc:fr "kind" = some (.int c)) (ho:∀ σ,opIn (.int c) (.tup [.int 0,.int 1,.int 3,.int 4]) σ=some (.val (.bool false),σ)) (h:m fr (ST ps told)=some (.val .next,fr,ST ps' (told ++ [o]))) :
    ∃ fr',RunFr fr'∧Mf.seq (Mf.try (Mf.seq m (Mf.seq iaddM (Mf.pure .next))) [⟨"ValueError", "error", hdlM⟩]) (Mf.pure .next) fr (ST ps told)=some (.val .next,fr',ST ps' (told ++ [o])):=by
  have hz:sizeLine=16777216:=rfl
  have e:ST ps' (told ++ [o])=(ST ps' (told ++ [o])).set 2 (.lst ((told ++ [o]) ++ [])):=by rw [List.append_nil]; rfl
  refine ⟨upd fr "told" (.ref 2),⟨(upd_diff (by decide)).trans F.table,upd_same _ _ _⟩,seq_next (st_try (seq_next h (seq_next ((st_iadd (es:=[]) F.told (ev_ite (t:=false) (ev_tru (ev_op2 (ev_var hc) (ev_tup (ev_scons ev_mpure (ev_scons ev_mpure (ev_scons ev_mpure (ev_scons ev_mpure rfl)))) ev_l4) (ho _)) rfl) (ev_lst rfl ev_l0)) rfl ?_).trans (by rw [← e])) rfl))) rfl⟩
  show (told ++ [o]).length + 0 ≤ sizeLine
  rw [List.length_append]; show told.length + 1 + 0 ≤ _; omega
theorem end_exc {m:Mf SF} {fr:Fr} {ps ps':Tb} {told:List D} (F:RunFr fr) (hl:told.length ≤ 1000) (h:m fr (ST ps told)=some (.exc "ValueError" msgV,fr,ST ps' told)) :
    ∃ fr',RunFr fr'∧Mf.seq (Mf.try (Mf.seq m (Mf.seq iaddM (Mf.pure .next))) [⟨"ValueError", "error", hdlM⟩]) (Mf.pure .next) fr (ST ps told)=some (.val .next,fr',ST ps' (told ++ [msgD])):=by
  have e:∀ σ,fStr (.exc "ValueError" msgV) σ=some (.val msgD,σ):=fun σ=>by
    unfold fStr
    exact if_pos ⟨.inl rfl,by decide +kernel⟩
  refine ⟨dele (upd fr "error" (.exc "ValueError" msgV)) "error", ⟨(dele_diff (by decide)).trans F.table,(dele_diff (by decide)).trans F.told⟩,seq_next (st_catch (seq_exc h) (seq_next (st_expr (ev_met1 (ev_var ((upd_diff (by decide)).trans F.told)) rfl (ev_call1 (ev_var (upd_same _ _ _)) (ev_one1 (e _))) (ev_one2 (app_told hl)))) rfl)) rfl⟩
end
end
section
section
noncomputable def forB (b:List Stmt) (i:Nat):List Stmt:=match b[i]? with
  | some (.For _ _ b _ _)=>b
  | _=>[]
theorem st_ifFs {m:Mo Bool} {a b:Mf SF} {fr fr1:Fr} {σ σ1 σ2:List AO} (h:m fr σ=some (.val false,σ1)) (h2:b fr σ1=some (.val .next,fr1,σ2)):Mf.bind (Mf.lift m) (fun c=>if c then a else Mf.seq b (Mf.pure .next)) fr σ=some (.val .next,fr1,σ2):=st_ifF h (seq_next h2 rfl)
theorem st_ifFx {m:Mo Bool} {a b:Mf SF} {fr fr1:Fr} {σ σ1 σ2:List AO} {X:String} {msg:PySem.Str} (h:m fr σ=some (.val false,σ1)) (h2:b fr σ1=some (.exc X msg,fr1,σ2)):Mf.bind (Mf.lift m) (fun c=>if c then a else Mf.seq b (Mf.pure .next)) fr σ=some (.exc X msg,fr1,σ2):=st_ifF h (seq_exc h2)
theorem st_ifTs {m:Mo Bool} {a b:Mf SF} {fr fr1:Fr} {σ σ1 σ2:List AO} (h:m fr σ=some (.val true,σ1)) (h2:a fr σ1=some (.val .next,fr1,σ2)):Mf.bind (Mf.lift m) (fun c=>if c then Mf.seq a (Mf.pure .next) else b) fr σ=some (.val .next,fr1,σ2):=st_ifT h (seq_next h2 rfl)
theorem st_ifTx {m:Mo Bool} {a b:Mf SF} {fr fr1:Fr} {σ σ1 σ2:List AO} {X:String} {msg:PySem.Str} (h:m fr σ=some (.val true,σ1)) (h2:a fr σ1=some (.exc X msg,fr1,σ2)):Mf.bind (Mf.lift m) (fun c=>if c then Mf.seq a (Mf.pure .next) else b) fr σ=some (.exc X msg,fr1,σ2):=st_ifT h (seq_exc h2)
theorem laid {σ:List AO} {j:Nat} {ps:Tb} {n v:PySem.Str} {d:D} (h:badT v=false):layO σ j ps n v d=(.val d,tbSet σ j (ps ++ [(n,v)])):=if_neg (by unfold badT at h; rw [h]; exact Bool.false_ne_true)
theorem laidX {σ:List AO} {j:Nat} {ps:Tb} {n v:PySem.Str} {d:D} (h:badT v=true):layO σ j ps n v d=(.exc "ValueError" msgV,σ):=if_pos h
theorem laid4 {σ:List AO} {j:Nat} {ps:Tb} {n v:PySem.Str} (h:badT v=false):lay4 σ j ps n v=(.val .none,tbSet σ j (ps ++ [(n,txt4 v)])):=if_neg (by unfold badT at h; rw [h]; exact Bool.false_ne_true)
theorem laid4X {σ:List AO} {j:Nat} {ps:Tb} {n v:PySem.Str} (h:badT v=true):lay4 σ j ps n v=(.exc "ValueError" msgV,σ):=if_pos h
theorem getall_at {σ:List AO} {k j:Nat} {x:PySem.Str} {ps:Tb} (hx:okN x=true) (hh:hdr σ k=some (j,ps)):sGetall [.ref k,.str x] [] σ=some (.val (.lst (vals ps (Txt.lower x))),σ):=by
  refine (on2_mk (p:=dRef) (q:=dStr) rfl rfl).trans ?_
  rw [if_pos ⟨(okN_ok hx).short,(okN_ok hx).low⟩,hh]; rfl
end
section
variable {G:Amb} (h:G.K=K1 G.w.params) (hlo:1 ≤ G.lo)
include h hlo
theorem runTurn:∃ m,Exs G true 10 (scopeAt (K1 G.w.params) 184) (forB (bodyAt (K1 G.w.params) 184) 1) m∧∀ fr ps told (d:Deed),RunFr fr→TbOk ps 900→told.length ≤ 900→DeedOk d→fr "kind" = some (.int d.kind)→fr "name" = some (.str d.name)→fr "text" = some (.str d.text) →
      ∃ fr',RunFr fr'∧m fr (ST ps told)=some (.val .next,fr',ST (stepR ps d).2 (told ++ [(stepR ps d).1])):=by
  refine ⟨_,(Exs.cons (Ex.try (ds:=[⟨"ValueError", "error", _⟩]) (Exs.cons (Ex.ite (Cd.cmp (Ev.loc rfl rfl) Ev.kInt (Op2.eq (by omega)))
          (Exs.cons (Ex.asgn (Ev.loc rfl rfl) (As.item (Ev.loc rfl rfl) (Ev.loc rfl rfl) (q_seq h) (i2_90 h) (i3_90 h) ((f_set h).up (by omega)).ca) (sw_of fun env=>⟨rfl,by kernel_rfl,by kernel_rfl⟩))
          Exs.nil)
          (Exs.cons (Ex.ite (Cd.cmp (Ev.loc rfl rfl) Ev.kInt (Op2.eq (by omega)))
            (Exs.cons (Ex.del (Ev.loc rfl rfl) (Ev.loc rfl rfl) (q_seq h) (i2_95 h) (i3_95 h) ((f_del h).up (by omega)).ca)
            Exs.nil)
            (Exs.cons (Ex.ite (Cd.cmp (Ev.loc rfl rfl) Ev.kInt (Op2.eq (by omega)))
              (Exs.cons (Ex.expr (Ev.methL F.slot_list_append F.type_list_append (Ev.loc rfl rfl) (ms:=[_]) (mk:=[]) ⟨(Ev.methI (i1_165 h) (i2_165 h) (i3_165 h) (i4_165 h) (Ev.loc rfl rfl) (ms:=[_,_]) (mk:=[]) ⟨(Ev.loc rfl rfl),(Ev.loc rfl rfl),trivial⟩ trivial ((f_setdef h).up (by omega)).ca),trivial⟩ trivial Ca.append))
              Exs.nil)
              (Exs.cons (Ex.ite (Cd.cmp (Ev.loc rfl rfl) Ev.kInt (Op2.eq (by omega)))
                (Exs.cons (Ex.expr (Ev.methI (i1_172 h) (i2_172 h) (i3_172 h) (i4_172 h) (Ev.loc rfl rfl) (ms:=[_,_]) (mk:=[]) ⟨(Ev.loc rfl rfl),(Ev.loc rfl rfl),trivial⟩ trivial ((f_add h hlo).up (by omega)).ca))
                Exs.nil)
                (Exs.cons (Ex.ite (Cd.cmp (Ev.loc rfl rfl) Ev.kInt (Op2.eq (by omega)))
                  (Exs.cons (Ex.expr (Ev.methI (i1_172 h) (i2_172 h) (i3_172 h) (i4_172 h) (Ev.loc rfl rfl) (ms:=[_,_]) (mk:=[("p_q", _),("r", _)]) ⟨(Ev.loc rfl rfl),(Ev.kStr (by decide +kernel)),trivial⟩ ⟨rfl,(Ev.loc rfl rfl),rfl,Ev.kNone,trivial⟩ ((f_add4 h hlo).up (by omega)).ca))
                  Exs.nil)
                  (Exs.cons (Ex.ite (Cd.cmp (Ev.loc rfl rfl) Ev.kInt (Op2.eq (by omega)))
                    (Exs.cons (Ex.expr (Ev.methL F.slot_list_append F.type_list_append (Ev.loc rfl rfl) (ms:=[_]) (mk:=[]) ⟨(Ev.methI (i1_122 h) (i2_122 h) (i3_122 h) (i4_122 h) (Ev.loc rfl rfl) (ms:=[_,_]) (mk:=[]) ⟨(Ev.loc rfl rfl),(Ev.kStr (by decide +kernel)),trivial⟩ trivial ((f_get3 h).up (by omega)).ca),trivial⟩ trivial Ca.append))
                    Exs.nil)
                    (Exs.cons (Ex.ite (Cd.cmp (Ev.loc rfl rfl) Ev.kInt (Op2.eq (by omega)))
                      (Exs.cons (Ex.expr (Ev.methL F.slot_list_append F.type_list_append (Ev.loc rfl rfl) (ms:=[_]) (mk:=[]) ⟨(Ev.methI (i1_114 h) (i2_114 h) (i3_114 h) (i4_114 h) (Ev.loc rfl rfl) (ms:=[_]) (mk:=[]) ⟨(Ev.loc rfl rfl),trivial⟩ trivial ((f_getall h).up (by omega)).ca),trivial⟩ trivial Ca.append))
                      Exs.nil)
                      (Exs.cons (Ex.expr (Ev.methL F.slot_list_append F.type_list_append (Ev.loc rfl rfl) (ms:=[_]) (mk:=[]) ⟨(Ev.cmp (Ev.loc rfl rfl) (Ev.loc rfl rfl) (Op2.inC (i2_109 h) (i3_109 h) ((f_in h).up (by omega)).ca)),trivial⟩ trivial Ca.append))
                      Exs.nil))
                    Exs.nil))
                  Exs.nil))
                Exs.nil))
              Exs.nil))
            Exs.nil))
          Exs.nil))
        (Exs.cons (Ex.iadd rfl (Ev.ite (Cd.cmp (Ev.loc rfl rfl) (Ev.tup (ms:=[_,_,_,_]) ⟨Ev.kInt,Ev.kInt,Ev.kInt,Ev.kInt,trivial⟩ rfl) (Op2.in (by omega))) (Ev.lst (ms:=[_]) ⟨(Ev.kStr (by decide +kernel)),trivial⟩ rfl) (Ev.lst (ms:=[]) trivial rfl)))
        Exs.nil))
        ⟨⟨_,_,_,_,_,rfl,⟨rfl,b_ValueError h,rfl,by decide +kernel,rfl,rfl,(Exs.cons (Ex.expr (Ev.methL F.slot_list_append F.type_list_append (Ev.loc rfl rfl) (ms:=[_]) (mk:=[]) ⟨(Ev.call (g_str h rfl) (ms:=[_]) (mk:=[]) ⟨(Ev.loc rfl rfl),trivial⟩ trivial Kep.typ (Ca.str (by omega))),trivial⟩ trivial Ca.append))
        Exs.nil)⟩⟩,trivial⟩)
      Exs.nil),?_⟩
  intro fr ps told d F hp hl hd f1 f2 f3
  have hl':told.length ≤ 1000:=by omega
  have hh:=st_hdr (told:=told) hp (by omega)
  obtain ⟨kd,nm,tx⟩:=d
  have hk:=hd.kind
  have hn:=hd.name
  have ht:=hd.text
  have hs:=(okT_ok ht).1
  have hp4:=hd.par
  have hk:kd < 8:=hk
  have f1:fr "kind" = some (.int kd):=f1
  clear hd
  revert f1
  apply lt8 (j:=kd) (h:=hk)
  · intro f1
    have g1:fr "kind" = some (.int 0):=f1
    have e3:=set_at_ (k:=1) hn hs hh
    cases hb:badT tx with
    | true =>
      have es:stepR ps ⟨0,nm,tx⟩=(msgD,fil ps (Txt.lower nm)):=if_pos hb
      rw [laidX hb] at e3
      rw [es]
      exact end_exc F hl' (st_ifTx (kindE g1) (st_itemX (ev_var f3) (ev_var F.table) (ev_var f2) rfl e3))
    | false =>
      have es:stepR ps ⟨0,nm,tx⟩=(doneD,fil ps (Txt.lower nm) ++ [(nm,tx)]):=if_neg (by rw [hb]; exact Bool.false_ne_true)
      rw [laid hb] at e3
      rw [es]
      exact end_done F hl' g1 (fun _=>by kernel_rfl) (st_ifTs (kindE g1) (st_item (ev_var f3) (ev_var F.table) (ev_var f2) rfl e3))
  · intro f1
    have g1:fr "kind" = some (.int 1):=f1
    exact end_done F hl' g1 (fun _=>by kernel_rfl) (st_ifFs (kindE g1) (st_ifTs (kindE g1) (st_del (ev_var F.table) (ev_var f2) rfl (del_at hn hh))))
  · intro f1
    have g1:fr "kind" = some (.int 2):=f1
    have e3:=setdef_at (k:=1) hn hs hh
    have i1:isIns 175 "setdefault" (.ref 1) (ST ps told)=true:=ins_at hh rfl
    cases ha:has ps (Txt.lower nm) with
    | true =>
      have es:stepR ps ⟨2,nm,tx⟩=(fst? ps (Txt.lower nm) .none,ps):=if_pos ha
      rw [if_pos ha] at e3
      rw [es]
      exact end_told F hl' g1 (fun _=>by kernel_rfl) (st_ifFs (kindE g1) (st_ifFs (kindE g1) (st_ifTs (kindE g1) (st_expr (ev_met1 (ev_var F.told) rfl (ev_met2 (ev_var F.table) i1 (ev_var f2) (ev_var f3) e3) (ev_one2 (app_told hl')))))))
    | false =>
      have hf : ¬ has ps (Txt.lower nm)=true:=by rw [ha]; exact Bool.false_ne_true
      rw [if_neg hf] at e3
      cases hb:badT tx with
      | true =>
        have es:stepR ps ⟨2,nm,tx⟩=(msgD,ps):=(if_neg hf).trans (if_pos hb)
        rw [laidX hb] at e3
        rw [es]
        exact end_exc F hl' (st_ifFx (kindE g1) (st_ifFx (kindE g1) (st_ifTx (kindE g1) (st_x (ev_methX (ev_var F.told) rfl (ev_sconsX (ev_met2 (ev_var F.table) i1 (ev_var f2) (ev_var f3) e3)))))))
      | false =>
        have es:stepR ps ⟨2,nm,tx⟩=(.str tx,ps ++ [(nm,tx)]):=(if_neg hf).trans (if_neg (by rw [hb]; exact Bool.false_ne_true))
        rw [laid hb] at e3
        rw [es]
        exact end_told F hl' g1 (fun _=>by kernel_rfl) (st_ifFs (kindE g1) (st_ifFs (kindE g1) (st_ifTs (kindE g1) (st_expr (ev_met1 (ev_var F.told) rfl (ev_met2 (ev_var F.table) i1 (ev_var f2) (ev_var f3) e3) (ev_one2 (app_told (ps:=ps ++ [(nm,tx)]) hl')))))))
  · intro f1
    have g1:fr "kind" = some (.int 3):=f1
    have e3:=add_at (k:=1) hn hs hh
    have i1:isIns 175 "add_header" (.ref 1) (ST ps told)=true:=ins_at hh rfl
    cases hb:badT tx with
    | true =>
      have es:stepR ps ⟨3,nm,tx⟩=(msgD,ps):=if_pos hb
      rw [laidX hb] at e3
      rw [es]
      exact end_exc F hl' (st_ifFx (kindE g1) (st_ifFx (kindE g1) (st_ifFx (kindE g1) (st_ifTx (kindE g1) (st_x (ev_met2 (ev_var F.table) i1 (ev_var f2) (ev_var f3) e3))))))
    | false =>
      have es:stepR ps ⟨3,nm,tx⟩=(doneD,ps ++ [(nm,tx)]):=if_neg (by rw [hb]; exact Bool.false_ne_true)
      rw [laid hb] at e3
      rw [es]
      exact end_done F hl' g1 (fun _=>by kernel_rfl) (st_ifFs (kindE g1) (st_ifFs (kindE g1) (st_ifFs (kindE g1) (st_ifTs (kindE g1) (st_expr (ev_met2 (ev_var F.table) i1 (ev_var f2) (ev_var f3) e3))))))
  · intro f1
    have g1:fr "kind" = some (.int 4):=f1
    have e3:=add4_at (k:=1) hn ht hp4 hh
    have i1:isIns 175 "add_header" (.ref 1) (ST ps told)=true:=ins_at hh rfl
    cases hb:badT tx with
    | true =>
      have es:stepR ps ⟨4,nm,tx⟩=(msgD,ps):=if_pos hb
      rw [laid4X hb] at e3
      rw [es]
      exact end_exc F hl' (st_ifFx (kindE g1) (st_ifFx (kindE g1) (st_ifFx (kindE g1) (st_ifFx (kindE g1) (st_ifTx (kindE g1) (st_x (ev_meth (ev_var F.table) i1 (ev_scons (ev_var f2) (ev_scons ev_mpure rfl)) (ev_kcons (ev_var f3) (ev_kcons ev_mpure rfl)) e3)))))))
    | false =>
      have es:stepR ps ⟨4,nm,tx⟩=(doneD,ps ++ [(nm,txt4 tx)]):=if_neg (by rw [hb]; exact Bool.false_ne_true)
      rw [laid4 hb] at e3
      rw [es]
      exact end_done F hl' g1 (fun _=>by kernel_rfl) (st_ifFs (kindE g1) (st_ifFs (kindE g1) (st_ifFs (kindE g1) (st_ifFs (kindE g1) (st_ifTs (kindE g1) (st_expr (ev_meth (ev_var F.table) i1 (ev_scons (ev_var f2) (ev_scons ev_mpure rfl)) (ev_kcons (ev_var f3) (ev_kcons ev_mpure rfl)) e3)))))))
  · intro f1
    have g1:fr "kind" = some (.int 5):=f1
    have e3:=get3_at (k:=1) (y := "none") hn hh
    have i1:isIns 175 "get" (.ref 1) (ST ps told)=true:=ins_at hh rfl
    exact end_told F hl' g1 (fun _=>by kernel_rfl) (st_ifFs (kindE g1) (st_ifFs (kindE g1) (st_ifFs (kindE g1) (st_ifFs (kindE g1) (st_ifFs (kindE g1) (st_ifTs (kindE g1) (st_expr (ev_met1 (ev_var F.told) rfl (ev_met2 (ev_var F.table) i1 (ev_var f2) ev_mpure e3) (ev_one2 (app_told hl'))))))))))
  · intro f1
    have g1:fr "kind" = some (.int 6):=f1
    have e3:=getall_at (k:=1) hn hh
    have i1:isIns 175 "get_all" (.ref 1) (ST ps told)=true:=ins_at hh rfl
    exact end_told F hl' g1 (fun _=>by kernel_rfl) (st_ifFs (kindE g1) (st_ifFs (kindE g1) (st_ifFs (kindE g1) (st_ifFs (kindE g1) (st_ifFs (kindE g1) (st_ifFs (kindE g1) (st_ifTs (kindE g1) (st_expr (ev_met1 (ev_var F.told) rfl (ev_met1 (ev_var F.table) i1 (ev_var f2) e3) (ev_one2 (app_told hl')))))))))))
  · intro f1
    have g1:fr "kind" = some (.int 7):=f1
    have e3:=in_at (k:=1) hn hh
    have e4:opInC 175 sIn (.str nm) (.ref 1) (ST ps told)=some (.val (.bool (has ps (Txt.lower nm))),ST ps told):=by
      unfold opInC
      rw [if_pos (isC_at hh),e3]; rfl
    exact end_told F hl' g1 (fun _=>by kernel_rfl) (st_ifFs (kindE g1) (st_ifFs (kindE g1) (st_ifFs (kindE g1) (st_ifFs (kindE g1) (st_ifFs (kindE g1) (st_ifFs (kindE g1) (st_ifFs (kindE g1) (st_expr (ev_met1 (ev_var F.told) rfl (ev_op2 (ev_var f2) (ev_var F.table) e4) (ev_one2 (app_told hl')))))))))))
end
end
section
section
/-! data that == reads -/
noncomputable def Asc (x:PySem.Str):Prop:=∀ c ∈ x.cps.toList,c < 128
theorem asc_append {x y:PySem.Str} (h:Asc x) (k:Asc y):Asc (x ++ y):=fun c hc=>by
  rw [Str.cps_append,Array.toList_append] at hc
  exact (List.mem_append.mp hc).elim (h c) (k c)
theorem asc_join {s:PySem.Str} (hs:Asc s):∀ {xs:List PySem.Str},(∀ x ∈ xs,Asc x)→Asc (Txt.join s xs)
  | [],_=>fun c hc=>by cases hc
  | [x],h=>h x (.head _)
  | x :: y :: r,h=>by
    rw [join_cons2 _ _ _ (by simp)]
    exact asc_append (asc_append (h x (.head _)) hs) (asc_join hs fun z hz=>h z (.tail _ hz))
/-- what == reads of a value -/
structure Rd (m:Nat) (d:D) (x:PyData):Prop where
  py:∀ look,pyD look d=some x
  can:PyData.canLay0 x=true
  dep:PyData.depth x ≤ m
theorem Rd.asc {x:PySem.Str} (h:Asc x):Rd 0 (.str x) (.str x):=⟨fun _=>rfl,by
  show PyData.strOk x=true
  unfold PyData.strOk
  rw [Array.all_eq_true']
  intro c hc
  have:=h c (by simpa using hc)
  simp; omega,by simp [PyData.depth]⟩
theorem Rd.str {x:PySem.Str} (h:shortS x=true):Rd 0 (.str x) (.str x):=.asc (short_asc h)
theorem Rd.int (i:Int):Rd 0 (.int i) (.int i):=⟨fun _=>rfl,rfl,by simp [PyData.depth]⟩
theorem Rd.bool (b:Bool):Rd 0 (.bool b) (.bool b):=⟨fun _=>rfl,rfl,by simp [PyData.depth]⟩
theorem Rd.up {m:Nat} {d:D} {x:PyData} (h:Rd m d x):Rd (m + 1) d x:=⟨h.py,h.can,Nat.le_succ_of_le h.dep⟩
/-- as of a list's items -/
structure Rds (m:Nat) (ds:List D) (xs:List PyData):Prop where
  py:∀ look,pyDs look ds=some xs
  can:PyData.canLayAll0 xs=true
  dep:PyData.depthAll xs ≤ m
theorem Rds.nil {m:Nat} : Rds m [] []:=⟨fun _=>rfl,rfl,by simp [PyData.depthAll]⟩
theorem Rds.cons {m:Nat} {d:D} {ds:List D} {x:PyData} {xs:List PyData} (h:Rd m d x) (k:Rds m ds xs):Rds m (d :: ds) (x :: xs):=⟨fun look=>by
  show (pyD look d).bind (fun x=>(pyDs look ds).map fun xs=>x :: xs)=_
  rw [h.py,k.py]; rfl,by
  unfold PyData.canLayAll0
  rw [h.can,k.can]; rfl,by
  unfold PyData.depthAll
  have:=h.dep
  have:=k.dep
  omega⟩
theorem Rds.lst {m:Nat} {ds:List D} {xs:List PyData} (h:Rds m ds xs):Rd (m + 1) (.lst ds) (.list xs):=⟨fun look=>by
  show (pyDs look ds).map PyData.list=_
  rw [h.py]; rfl,h.can,by simp only [PyData.depth]; have:=h.dep; omega⟩
theorem Rds.tup {m:Nat} {ds:List D} {xs:List PyData} (h:Rds m ds xs):Rd (m + 1) (.tup ds) (.tuple xs):=⟨fun look=>by
  show (pyDs look ds).map PyData.tuple=_
  rw [h.py]; rfl,h.can,by simp only [PyData.depth]; have:=h.dep; omega⟩
theorem Rds.map {α:Type} {m:Nat} {f:α→D} {g:α→PyData} : ∀ {l:List α},(∀ a ∈ l,Rd m (f a) (g a))→Rds m (l.map f) (l.map g)
  | [],_=>.nil
  | a :: l,h=>.cons (h a (.head _)) (Rds.map fun b hb=>h b (.tail _ hb))
theorem Rds.of {m:Nat} : ∀ {ds:List D},(∀ d ∈ ds,∃ x,Rd m d x)→∃ xs,Rds m ds xs
  | [],_=>⟨[],.nil⟩
  | d :: ds,h=>by
    refine xE (h d (.head _)) fun x hx=>?_
    refine xE (Rds.of (ds:=ds) fun e he=>h e (.tail _ he)) fun xs hxs=>?_
    exact ⟨x :: xs,.cons hx hxs⟩
theorem Rd.at {m:Nat} {d:D} {x:PyData} (h:Rd m d x) (hm:m ≤ 64) (σ:List AO):Mine.py σ d=some x:=by
  unfold Mine.py
  rw [h.py,Option.bind_some,if_pos]
  unfold SeqAt.shaped
  rw [h.can,Bool.true_and,decide_eq_true_eq]
  exact Nat.le_trans h.dep hm
mutual
theorem eqv_refl:∀ {x:PyData},PyData.canLay0 x=true→PyData.eqv x x=true
  | .none,_=>rfl
  | .bool _,_=>by simp [PyData.eqv]
  | .int _,_=>by simp [PyData.eqv]
  | .str _,_=>by simp [PyData.eqv]
  | .list _,h=>eqvAll_refl h
  | .tuple _,h=>eqvAll_refl h
  | .dict _,h=>nFT h
theorem eqvAll_refl:∀ {xs:List PyData},PyData.canLayAll0 xs=true→PyData.eqvAll xs xs=true
  | [],_=>rfl
  | x :: xs,h=>by
    have h:=Bool.and_eq_true_iff.mp h
    show (PyData.eqv x x && PyData.eqvAll xs xs)=true
    rw [eqv_refl h.1,eqvAll_refl h.2]; rfl
end
theorem eq_self {m:Nat} {d:D} {x:PyData} {σ:List AO} (h:Rd m d x) (hm:m ≤ 64):opEq d d σ=some (.val (.bool true),σ):=by
  unfold opEq
  rw [h.at hm,Option.bind_some,Option.map_some,eqv_refl h.can]
theorem ne_self {m:Nat} {d:D} {x:PyData} {σ:List AO} (h:Rd m d x) (hm:m ≤ 64):opNe d d σ=some (.val (.bool false),σ):=by
  unfold opNe
  rw [h.at hm,Option.bind_some,Option.map_some,eqv_refl h.can]; rfl
end
end
section
section
theorem keys_at {σ:List AO} {k j:Nat} {ps:Tb} (hh:hdr σ k=some (j,ps)):sKeys [.ref k] [] σ=some (.val (.lst (ps.map fun p=>.str p.1)),σ):=(on1_mk (p:=dRef) rfl).trans (by rw [hh]; rfl)
theorem values_at {σ:List AO} {k j:Nat} {ps:Tb} (hh:hdr σ k=some (j,ps)):sValues [.ref k] [] σ=some (.val (.lst (ps.map fun p=>.str p.2)),σ):=(on1_mk (p:=dRef) rfl).trans (by rw [hh]; rfl)
theorem items_at {σ:List AO} {k j:Nat} {ps:Tb} (hh:hdr σ k=some (j,ps)):sItems [.ref k] [] σ=some (.val (.ref σ.length),σ ++ [.lst (ps.map pD)]):=(on1_mk (p:=dRef) rfl).trans (by rw [hh]; rfl)
/-- a loop, its invariant by the turn's number; the store is the last of them -/
theorem ex_forJ {m:Mo Src} {x:Src} {tgt:D→Mf Unit} {body:Mf SF} {fr:Fr} {σ σ1 σ2:List AO} (J:Nat→Fr→List AO→Prop) (Q:Fr→Prop) (hm:m fr σ=some (.val x,σ1)) (hP:∀ i fr σ,J i fr σ→x.P σ) (h0:J 0 fr σ1)
    (step:∀ i d fr σ,x.ds[i]? = some d→J i fr σ→∃ fr' σ',turn tgt body d fr σ=some (.val .next,fr',σ')∧J (i + 1) fr' σ') (fin:∀ fr' σ',J x.ds.length fr' σ'→Q fr'∧σ'=σ2):∃ fr',Q fr'∧Mf.bind (Mf.lift m) (fun x=>Mf.each x.P tgt body x.ds) fr σ=some (.val .next,fr',σ2):=by
  refine xEEA (each_run (tgt:=tgt) (body:=body) J hP step h0) fun fr' σ' e hJ=>?_
  refine xA (fin _ _ hJ) fun h1 h2=>?_
  subst h2
  exact ⟨fr',h1,st_for hm e⟩
theorem runR_snoc (ps:Tb) (ds:List Deed) (d:Deed):runR ps (ds ++ [d])=((runR ps ds).1 ++ [(stepR (runR ps ds).2 d).1],(stepR (runR ps ds).2 d).2):=by
  induction ds generalizing ps with
  | nil=>rfl
  | cons e ds ih =>
    show ((stepR ps e).1 :: (runR (stepR ps e).2 (ds ++ [d])).1,(runR (stepR ps e).2 (ds ++ [d])).2)=_
    rw [ih]; rfl
theorem runR_len (ps:Tb) (ds:List Deed):(runR ps ds).1.length=ds.length:=by
  induction ds generalizing ps with
  | nil=>rfl
  | cons e ds ih=>exact congrArg (· + 1) (ih _)
theorem runR_ok {ps:Tb} {n:Nat} (h:TbOk ps n):∀ {ds:List Deed},(∀ d ∈ ds,DeedOk d)→TbOk (runR ps ds).2 (n + ds.length)
  | [],_=>h
  | d :: ds,hd=>by
    have:=runR_ok (step_ok h (hd d (.head _))) (ds:=ds) fun e he=>hd e (.tail _ he)
    rw [List.length_cons]
    rw [show n + (ds.length + 1)=n + 1 + ds.length by omega]
    exact this
theorem tblS_asc {ps:Tb} (h:∀ p ∈ ps,shortS p.1=true∧shortS p.2=true):Asc (tblS ps):=by
  refine asc_join (fun c hc=>?_) fun x hx=>?_
  · have:∀ c ∈ (PySem.Str.ofString "\r\n").cps.toList,c < 128:=by decide +kernel
    exact this c hc
  · rcases List.mem_append.mp hx with q | q
    · refine xEA (List.mem_map.mp q) fun p hp e=>?_
      rw [← e]
      have h2:∀ c ∈ (⟨#[58,32]⟩:PySem.Str).cps.toList,c < 128:=by decide +kernel
      exact asc_append (asc_append (short_asc (h p hp).1) h2) (short_asc (h p hp).2)
    · have:x=PySem.Str.ofString "" := by simpa using q
      rw [this]
      exact fun c hc=>by cases hc
/-- a table's row, as the law puts its lines together -/
theorem lines {ps:Tb} : Txt.join (PySem.Str.ofString "") ((ps.map rowS).map (· ++ PySem.Str.ofString "\r\n")) ++ PySem.Str.ofString "\r\n" = tblS ps:=(join_lines _ _).symm
end
end
section
section
theorem fe_next {m k:Mf SF} {fr fr1:Fr} {σ σ1:List AO} {o:Out D} (e:m fr σ=some (.val .next,fr1,σ1)) (h:∃ τ,Mf.fn k fr1 σ1=some (o,τ)):∃ τ,Mf.fn (Mf.seq m k) fr σ=some (o,τ):=h.imp fun _ h=>fn_next e h
theorem fe_by {m k:Mf SF} {fr:Fr} {σ σ1:List AO} {o:Out D} (Q:Fr→Prop) (e:∃ fr',Q fr'∧m fr σ=some (.val .next,fr',σ1)) (h:∀ fr',Q fr'→∃ τ,Mf.fn k fr' σ1=some (o,τ)):∃ τ,Mf.fn (Mf.seq m k) fr σ=some (o,τ):=e.elim fun fr' e=>fe_next e.2 (h fr' e.1)
theorem fe_ret {m k:Mf SF} {fr fr1:Fr} {σ σ1:List AO} {d:D} (e:m fr σ=some (.val (.ret d),fr1,σ1)):∃ τ,Mf.fn (Mf.seq m k) fr σ=some (.val d,τ):=⟨_,fn_ret e⟩
theorem take_snoc {α:Type} {l:List α} {i:Nat} {a:α} (h:l[i]? = some a):l.take (i + 1)=l.take i ++ [a]:=by rw [List.take_add_one,h]; rfl
theorem ev_frz {m:Mo D} {fr:Fr} {σ σ1:List AO} {k:Nat} {ds:List D} (h:m fr σ=some (.val (.ref k),σ1)) (h2:σ1[k]? = some (.lst ds)):Mo.frz m fr σ=some (.val (.lst ds),σ1.set k .dead):=by
  refine ev_mbind h ?_
  show (Option.bind (some k) fun k=>(atL σ1 k).map fun ds=>_)=_
  rw [Option.bind_some,atL_mk h2]; rfl
theorem ev_tgt3 {x y z:PySem.Str} {a b c:D} {fr:Fr} {σ:List AO} : Mf.tupA [Mf.set x,Mf.set y,Mf.set z] (.tup [a,b,c]) fr σ=some (.val (),upd (upd (upd fr x a) y b) z c,σ):=rfl
theorem st_swap2 {x y:PySem.Str} {m:Mo D} {fr:Fr} {σ σ1:List AO} {a b:D} (h:m fr σ=some (.val (.tup [a,b]),σ1)):Mf.bind (Mf.lift m) (fun d=>Mf.bind (Mf.swap2 x y d) fun _=>Mf.pure SF.next) fr σ=some (.val .next,upd (upd fr y b) x a,σ1):=st_asgn h ev_swap2
theorem src_lst {σ:List AO} {ds:List D} : srcD (.lst ds) σ=some ⟨ds,fun _=>True⟩:=rfl
theorem tbl_len {ps:Tb} (h:TbOk ps 900):(tblS ps).length ≤ sizeLine:=by
  have hz:sizeLine=16777216:=rfl
  refine joinOk_length (joinOk_of 2002 (fun x hx=>?_) ?_)
  · rcases List.mem_append.mp hx with q | q
    · refine xEA (List.mem_map.mp q) fun p hp e=>?_
      rw [← e]; exact row_len (h.row p hp)
    · have:x=PySem.Str.ofString "" := by simpa using q
      rw [this]; exact Nat.zero_le _
  · rw [List.length_append,List.length_map]
    have:(PySem.Str.ofString "\r\n").length=2:=by decide +kernel
    rw [this]
    have:=h.len
    show (ps.length + 2) * _ ≤ _
    omega
/-- a line -/
theorem line_at {fr:Fr} {σ:List AO} {p:PySem.Str × PySem.Str} (h:shortS p.1=true∧shortS p.2=true) (f1:fr "one" = some (.str p.1)) (f2:fr "worth" = some (.str p.2)) :
    Mo.op2 (fun a b σ=>(fAdd a b).map fun d=>(Out.val d,σ)) (Mo.op2 (fun a b σ=>(fAdd a b).map fun d=>(Out.val d,σ)) (Mo.op2 (fun a b σ=>(fAdd a b).map fun d=>(Out.val d,σ)) (Mo.var "one") (Mo.pure (.str ": "))) (Mo.var "worth")) (Mo.pure (.str "\r\n")) fr σ=some (.val (.str (rowS p ++ PySem.Str.ofString "\r\n")),σ):=by
  have h1:=short_le h.1
  have h2:=short_le h.2
  have h3:=row_len h
  have hz:sizeLine=16777216:=rfl
  have q1:PySem.Str.ofString ": " = ⟨#[58,32]⟩:=by decide +kernel
  have q2:(PySem.Str.ofString "\r\n").length=2:=by decide +kernel
  have l1:(p.1 ++ (⟨#[58,32]⟩:PySem.Str)).length=p.1.length + 2:=Str.length_append _ _
  rw [q1]
  exact ev_op2 (ev_op2 (ev_op2 (ev_var f1) ev_mpure (ev_omap (if_pos (by show _ + 2 ≤ _; omega)))) (ev_var f2) (ev_omap (if_pos (by rw [l1]; omega)))) ev_mpure (ev_omap (if_pos (by rw [q2]; show (rowS p).length + 2 ≤ _; omega)))
noncomputable def fstD:D→D
  | .tup [a,_]=>a
  | _=>.none
noncomputable def sndD:D→D
  | .tup [_,b]=>b
  | _=>.none
noncomputable def rowD (d:D):D:=match dTwo d with
  | some p=>.str (rowS p ++ PySem.Str.ofString "\r\n")
  | none=>.none
theorem row_eq (ps:Tb):((ps.map pD).filter fun _=>true).map rowD=((ps.map rowS).map (· ++ PySem.Str.ofString "\r\n")).map .str:=by
  rw [filter_true,List.map_map,List.map_map,List.map_map]; rfl
theorem pair_step {x y:PySem.Str} {σ:List AO} {em:Em D} {g:D→D} {qs:Tb} (hem:∀ p ∈ qs,∀ fr,em (upd (upd fr x (.str p.1)) y (.str p.2)) σ=some ([g (pD p)],upd (upd fr x (.str p.1)) y (.str p.2),σ)):∀ a ∈ qs.map pD,∀ fr,True→isPair a=true∧True∧Mo.pure true (setPair x y a fr) σ=some (.val true,σ)∧(true=true→∃ fr2,True∧em (setPair x y a fr) σ=some ([g a],fr2,σ)):=fun a ha fr _=>by
  refine xEA (List.mem_map.mp ha) fun p hp e=>?_
  subst e
  exact ⟨rfl,trivial,rfl,fun _=>⟨_,trivial,hem p hp fr⟩⟩
theorem fst_eq (ps:Tb):((ps.map pD).filter fun _=>true).map fstD=ps.map fun p=>.str p.1:=by
  rw [filter_true,List.map_map]; rfl
theorem snd_eq (ps:Tb):((ps.map pD).filter fun _=>true).map sndD=ps.map fun p=>.str p.2:=by
  rw [filter_true,List.map_map]; rfl
end
section
variable {G:Amb} (h:G.K=K1 G.w.params) (hlo:1 ≤ G.lo)
include h hlo
theorem runB:∃ m,Exs G true 10 (scopeAt (K1 G.w.params) 184) (bodyAt (K1 G.w.params) 184) m∧∀ fr (ps:Tb) (deeds:List Deed),fr "pairs" = some (.lst (ps.map pD))→fr "deeds" = some (.lst (deeds.map dD))→ps.length ≤ 20→ps.all rowOk=true→deeds.length ≤ 20→(∀ d ∈ deeds,DeedOk d) →
      ∃ τ,Mf.fn m fr []=some (.val (.tup [.lst (runR ps deeds).1,.lst ((runR ps deeds).2.map pD)]),τ):=by
  refine xEA (runTurn h hlo) fun mT hT hTurn=>?_
  conv in (bodyAt _ _)=>whnf
  generalize hE1:Expr.Constant (Const.str "") 0 ⟨129,21,129,23⟩=E1
  have kE1:∀ {Z},Ev G true 10 Z E1 (Mo.pure (.str "")):=fun {Z}=>hE1 ▸ Ev.kStr (n:=10) (by decide +kernel)
  refine ⟨_,(Exs.cons (Ex.swap2 (t1:=(.Constant .none 0 ⟨0,0,0,0⟩)) (t2:=(.Constant .none 0 ⟨0,0,0,0⟩)) (Ev.tup (ms:=[_,_]) ⟨(Ev.call (g_Headers h rfl) (ms:=[_]) (mk:=[]) ⟨(Ev.call (g_list h rfl) (ms:=[_]) (mk:=[]) ⟨(Ev.loc rfl rfl),trivial⟩ trivial Kep.typ (Ca.one Op1.listR)),trivial⟩ trivial (kep_headers h) ((f_cls h).up (by omega)).ca),(Ev.lstR (ms:=[]) trivial rfl),trivial⟩ rfl) (Or.inl rfl) (Or.inl rfl) (sw_of fun env=>⟨by kernel_rfl,by kernel_rfl⟩))
    (Exs.cons (Ex.for (Itr.ev (Ev.loc rfl rfl))
      (As.tup (fs:=[_,_,_]) ⟨(As.name (Or.inl rfl)),(As.name (Or.inl rfl)),(As.name (Or.inl rfl)),trivial⟩ rfl)
      hT)
    (Exs.cons (Ex.asgn (Ev.methI (i1_139 h) (i2_139 h) (i3_139 h) (i4_139 h) (Ev.loc rfl rfl) (ms:=[]) (mk:=[]) trivial trivial ((f_items h).up (by omega)).ca) (As.name (Or.inl rfl)) (sw_of fun env=>⟨rfl,by kernel_rfl,by kernel_rfl⟩))
    (Exs.cons (Ex.ite (Cd.cmp (Ev.lst (ms:=[_,_,_]) ⟨(Ev.call (g_len h rfl) (ms:=[_]) (mk:=[]) ⟨(Ev.loc rfl rfl),trivial⟩ trivial Kep.blt (Ca.lenI (i2_83 h) (i3_83 h) ((f_len h).up (by omega)).ca)),(Ev.methI (i1_127 h) (i2_127 h) (i3_127 h) (i4_127 h) (Ev.loc rfl rfl) (ms:=[]) (mk:=[]) trivial trivial ((f_keys h).up (by omega)).ca),(Ev.methI (i1_132 h) (i2_132 h) (i3_132 h) (i4_132 h) (Ev.loc rfl rfl) (ms:=[]) (mk:=[]) trivial trivial ((f_values h).up (by omega)).ca),trivial⟩ rfl) (Ev.lst (ms:=[_,_,_]) ⟨(Ev.call (g_len h rfl) (ms:=[_]) (mk:=[]) ⟨(Ev.loc rfl rfl),trivial⟩ trivial Kep.blt Ca.len),(Ev.lcF (CompL.one (W:=[]) (Ev.loc rfl rfl) (AsC.pair rfl rfl) Ts.nil (Ev.loc rfl rfl) (by first | rfl | kernel_rfl))),(Ev.lcF (CompL.one (W:=[]) (Ev.loc rfl rfl) (AsC.pair rfl rfl) Ts.nil (Ev.loc rfl rfl) (by first | rfl | kernel_rfl))),trivial⟩ rfl) (Op2.ne (by omega)))
      (Exs.cons (Ex.expr (Ev.methL F.slot_list_append F.type_list_append (Ev.loc rfl rfl) (ms:=[_]) (mk:=[]) ⟨(Ev.kStr (by decide +kernel)),trivial⟩ trivial Ca.append))
      Exs.nil)
      Exs.nil)
    (Exs.cons (Ex.ite (Cd.cmp (Ev.call (g_str h rfl) (ms:=[_]) (mk:=[]) ⟨(Ev.loc rfl rfl),trivial⟩ trivial Kep.typ (Ca.strI (i2_151 h) (i3_151 h) ((f_str h).up (by omega)).ca)) (Ev.bin (Ev.methS F.slot_str_join F.type_str_join kE1 (ms:=[_]) (mk:=[]) ⟨(Ev.lcF (CompL.one (W:=[]) (Ev.loc rfl rfl) (AsC.pair rfl rfl) Ts.nil (Ev.bin (Ev.bin (Ev.bin (Ev.loc rfl rfl) (Ev.kStr (by decide +kernel)) Op2.add) (Ev.loc rfl rfl) Op2.add) (Ev.kStr (by decide +kernel)) Op2.add) (by first | rfl | kernel_rfl))),trivial⟩ trivial Ca.join (hbase:=fun _=>by rw [← hE1]; rfl)) (Ev.kStr (by decide +kernel)) Op2.add) (Op2.ne (by omega)))
      (Exs.cons (Ex.expr (Ev.methL F.slot_list_append F.type_list_append (Ev.loc rfl rfl) (ms:=[_]) (mk:=[]) ⟨(Ev.kStr (by decide +kernel)),trivial⟩ trivial Ca.append))
      Exs.nil)
      Exs.nil)
    (Exs.cons (Ex.expr (Ev.methL F.slot_list_append F.type_list_append (Ev.methI (i1_139 h) (i2_139 h) (i3_139 h) (i4_139 h) (Ev.loc rfl rfl) (ms:=[]) (mk:=[]) trivial trivial ((f_items h).up (by omega)).ca) (ms:=[_]) (mk:=[]) ⟨(Ev.tup (ms:=[_,_]) ⟨(Ev.kStr (by decide +kernel)),(Ev.kStr (by decide +kernel)),trivial⟩ rfl),trivial⟩ trivial Ca.append))
    (Exs.cons (Ex.ret (Ev.tup (ms:=[_,_]) ⟨(Ev.frz (Ev.loc rfl rfl)),(Ev.frz (Ev.methI (i1_139 h) (i2_139 h) (i3_139 h) (i4_139 h) (Ev.loc rfl rfl) (ms:=[]) (mk:=[]) trivial trivial ((f_items h).up (by omega)).ca)),trivial⟩ rfl))
    Exs.nil))))))),?_⟩
  intro fr ps deeds f1 f2 hp hr hd hk
  have hz:sizeLine=16777216:=rfl
  have hall:=List.all_eq_true.mp hr
  have tb0:TbOk ps 20:=⟨hp,fun p hm=>⟨(okN_ok (rowOk_ok (hall p hm)).1).short,(rowOk_ok (hall p hm)).2.1⟩⟩
  have tbi:∀ i,TbOk (runR ps (deeds.take i)).2 900:=fun i=>by
    have:=runR_ok tb0 (ds:=deeds.take i) fun d hm=>hk d (List.mem_of_mem_take hm)
    exact ⟨Nat.le_trans this.len (by rw [List.length_take]; omega),this.row⟩
  have l1:one1 (fun d σ=>(lstOf d σ).map fun ds=>(Out.val (D.ref σ.length),σ ++ [AO.lst ds])) [.lst (ps.map pD)] [] []=some (.val (.ref 0),[.lst (ps.map pD)]):=rfl
  have l2:=cls_at (σ:=[.lst (ps.map pD)]) (j:=0) rfl hr
  have l3:Mo.lstR [] fr ([.lst (ps.map pD)] ++ [.ins 175 [("_headers", .ref 0)]])=some (.val (.ref 2),ST ps []):=ev_lstR (σ1:=[.lst (ps.map pD)] ++ [.ins 175 [("_headers", .ref 0)]]) (ds:=[]) rfl ev_l0
  refine fe_next (fr1:=upd (upd fr "told" (.ref 2)) "table" (.ref 1)) (σ1:=ST ps []) (st_swap2 (ev_tup (ev_scons (ev_call1 (ev_call1 (ev_var f1) l1) l2) (ev_scons l3 rfl)) ev_l2)) ?_
  refine fe_by RunFr (σ1:=ST (runR ps deeds).2 (runR ps deeds).1) (ex_forJ (x:=⟨deeds.map dD,fun _=>True⟩) (fun i fr σ=>RunFr fr∧σ=ST (runR ps (deeds.take i)).2 (runR ps (deeds.take i)).1) RunFr (ev_src (ev_var (by dsimp! only [])) src_lst) (fun _ _ _ _=>trivial) ⟨⟨upd_same _ _ _,by dsimp! only []⟩,rfl⟩ (fun i d fr σ hd' hJ=>?_) fun fr' σ' hJ=>⟨hJ.1,?_⟩) fun fr' F=>?_
  · refine xA hJ fun F e=>?_
    subst e
    rw [List.getElem?_map] at hd'
    refine xEA (Option.map_eq_some_iff.mp hd') fun de hde e=>?_
    subst e
    have hlt:i < deeds.length:=(List.getElem?_eq_some_iff.mp hde).1
    have hl:(runR ps (deeds.take i)).1.length ≤ 900:=by rw [runR_len,List.length_take]; omega
    refine xEA (hTurn (upd (upd (upd fr "kind" (.int de.kind)) "name" (.str de.name)) "text" (.str de.text)) _ _ de ⟨by have:=F.table; dsimp! only [],by have:=F.told; dsimp! only []⟩ (tbi i) hl (hk de (List.mem_of_getElem? hde)) (by dsimp! only []) (by dsimp! only []) (by dsimp! only [])) fun fr2 F2 e2=>?_
    refine ⟨fr2,_,ev_turn ev_tgt3 e2,F2,?_⟩
    rw [take_snoc hde,runR_snoc]
  · rw [hJ.2]
    show ST (runR ps (deeds.take (deeds.map dD).length)).2 _=_
    rw [List.length_map,List.take_length]
  · have tb:TbOk (runR ps deeds).2 900:=by have:=tbi deeds.length; rwa [List.take_length] at this
    generalize (runR ps deeds).2=qs at tb ⊢
    generalize (runR ps deeds).1=told
    have hq:=tb.len
    have hh:=st_hdr (told:=told) tb (by omega)
    have S1:hdr (ST qs told ++ [.lst (qs.map pD)]) 1=some (0,qs):=hdr_app hh
    have i1:isIns 175 "items" (.ref 1) (ST qs told)=true:=ins_at hh rfl
    have it:=items_at hh
    rw [show (ST qs told).length=3 from rfl] at it
    have it1:=items_at S1
    rw [show (ST qs told ++ [AO.lst (qs.map pD)]).length=4 from rfl] at it1
    refine fe_next (st_set (d:=.ref 3) (σ1:=ST qs told ++ [.lst (qs.map pD)]) (ev_met0 (ev_var F.table) i1 it)) ?_
    have F2:RunFr (upd fr' "last" (.ref 3)):=⟨(upd_diff (by decide)).trans F.table,(upd_diff (by decide)).trans F.told⟩
    have fL:upd fr' "last" (.ref 3) "last" = some (.ref 3):=upd_same _ _ _
    generalize upd fr' "last" (.ref 3)=f at F2 fL ⊢
    have i2:isIns 175 "keys" (.ref 1) (ST qs told ++ [.lst (qs.map pD)])=true:=ins_at S1 rfl
    have i3:isIns 175 "values" (.ref 1) (ST qs told ++ [.lst (qs.map pD)])=true:=ins_at S1 rfl
    have i4:isIns 175 "items" (.ref 1) (ST qs told ++ [.lst (qs.map pD)])=true:=ins_at S1 rfl
    have sr:srcD (.ref 3) (ST qs told ++ [.lst (qs.map pD)])=some ⟨qs.map pD,fun σ=>σ[3]? = some (.lst (qs.map pD))⟩:=src_ref rfl
    have n3:fLen (.ref 3) (ST qs told ++ [.lst (qs.map pD)])=some (.val (.int qs.length),ST qs told ++ [.lst (qs.map pD)]):=by
      show some (Out.val (D.int ((qs.map pD).length:Nat)),_)=_
      rw [List.length_map]
    have r1:Rds 0 (qs.map fun p=>.str p.1) (qs.map fun p=>.str p.1):=Rds.map fun p hm=>.str (tb.row p hm).1
    have r2:Rds 0 (qs.map fun p=>.str p.2) (qs.map fun p=>.str p.2):=Rds.map fun p hm=>.str (tb.row p hm).2
    have r3:=(Rds.cons (Rd.int (qs.length:Int)).up (.cons r1.lst (.cons r2.lst .nil))).lst
    have z1:(qs.map fun p=>D.str p.1).length ≤ sizeLine:=by rw [List.length_map]; omega
    have z2:(qs.map fun p=>D.str p.2).length ≤ sizeLine:=by rw [List.length_map]; omega
    refine fe_next (st_ifF (ev_tru (ev_op2 (ev_lst (ev_scons (ev_call1 (ev_var F2.table) (ev_one1 (len_at S1))) (ev_scons (ev_met0 (ev_var F2.table) i2 (keys_at S1)) (ev_scons (ev_met0 (ev_var F2.table) i3 (values_at S1)) rfl))) ev_l3)
      (ev_lst (ev_scons (ev_call1 (ev_var fL) (ev_one1 n3)) (ev_scons (ev_lcF (x:=⟨qs.map pD,fun σ=>σ[3]? = some (.lst (qs.map pD))⟩) (fun _=>True) (fun _=>true) fstD (ev_var fL) sr rfl trivial (pair_step fun p hm fr=>ev_emOne (d:=.str p.1) (ev_var (by dsimp! only []))) (fst_eq qs) z1) (ev_scons (ev_lcF (x:=⟨qs.map pD,fun σ=>σ[3]? = some (.lst (qs.map pD))⟩) (fun _=>True) (fun _=>true) sndD (ev_var fL) sr rfl trivial (pair_step fun p hm fr=>ev_emOne (d:=.str p.2) (ev_var (by dsimp! only []))) (snd_eq qs) z2) rfl))) ev_l3) (ne_self r3 (by decide))) rfl) rfl) ?_
    have j1:=join_at (s:=PySem.Str.ofString "") (σ:=ST qs told ++ [.lst (qs.map pD)]) (xs:=(qs.map rowS).map (· ++ PySem.Str.ofString "\r\n")) 2004 (fun x hx=>by
      refine xEA (List.mem_map.mp hx) fun y hy e=>?_
      refine xEA (List.mem_map.mp hy) fun p hm e2=>?_
      subst e2
      subst e
      rw [Str.length_append,show (PySem.Str.ofString "\r\n").length=2 by decide +kernel]
      have:=row_len (tb.row p hm)
      omega) (by rw [List.length_map,List.length_map,show (PySem.Str.ofString "").length=0 by decide +kernel]; omega)
    have j2:fAdd (.str (Txt.join (PySem.Str.ofString "") ((qs.map rowS).map (· ++ PySem.Str.ofString "\r\n")))) (.str "\r\n")=some (.str (tblS qs)):=by
      refine (if_pos ?_).trans (by rw [lines])
      rw [← Str.length_append,lines]; exact tbl_len tb
    have z3:(((qs.map rowS).map (· ++ PySem.Str.ofString "\r\n")).map D.str).length ≤ sizeLine:=by rw [List.length_map,List.length_map,List.length_map]; omega
    refine fe_next (st_ifF (ev_tru (ev_op2 (ev_call1 (ev_var F2.table) (ev_one1 (str_at S1))) (ev_op2 (ev_met1 ev_mpure rfl (ev_lcF (x:=⟨qs.map pD,fun σ=>σ[3]? = some (.lst (qs.map pD))⟩) (fun _=>True) (fun _=>true) rowD (ev_var fL) sr rfl trivial (pair_step fun p hm fr=>ev_emOne (line_at (tb.row p hm) (by dsimp! only []) (by dsimp! only []))) (row_eq qs) z3) (ev_one2 j1)) ev_mpure (ev_omap j2)) (ne_self (.asc (tblS_asc tb.row)) (by decide))) rfl) rfl) ?_
    have a1:=app_last (σ:=ST qs told ++ [AO.lst (qs.map pD)]) (ds:=qs.map pD) (d:=.tup [.str "z", .str "late"]) (by rw [List.length_map]; omega)
    rw [show (ST qs told ++ [AO.lst (qs.map pD)]).length=4 from rfl] at a1
    refine fe_next (st_expr (ev_met1 (ev_met0 (ev_var F2.table) i4 it1) rfl (ev_tup (ev_scons ev_mpure (ev_scons ev_mpure rfl)) ev_l2) (ev_one2 a1))) ?_
    have S2:hdr (((ST qs told ++ [AO.lst (qs.map pD)]) ++ [AO.lst (qs.map pD ++ [.tup [.str "z", .str "late"]])]).set 2 .dead) 1=some (0,qs):=hdr_of rfl rfl (by omega) tb.row
    have i5:isIns 175 "items" (.ref 1) (((ST qs told ++ [AO.lst (qs.map pD)]) ++ [AO.lst (qs.map pD ++ [.tup [.str "z", .str "late"]])]).set 2 .dead)=true:=ins_at S2 rfl
    exact fe_ret (st_ret (ev_tup (ev_scons (ev_frz (ev_var F2.told) rfl) (ev_scons (ev_frz (ev_met0 (ev_var F2.table) i5 (items_at S2)) get_last) rfl)) ev_l2))
end
end
section
section
theorem dD_inj {a b:Deed} (h:dD a=dD b):a=b:=by
  obtain ⟨k,n,t⟩:=a
  obtain ⟨k',n',t'⟩:=b
  injection h with h
  injection h with h1 h
  injection h with h2 h
  injection h with h3 _
  injection h1 with h1
  injection h2 with h2
  injection h3 with h3
  have h1:k=k':=Int.ofNat.inj h1
  subst h1 h2 h3
  rfl
theorem dDs_inj {ps qs:List Deed} (h:ps.map dD=qs.map dD):ps=qs:=List.map_inj_right (fun _ _=>dD_inj) |>.mp h
theorem fst_refs {p:Nat→Prop} {ps:Tb} {x:PySem.Str} {d:D} (h:d.refs p):(fst? ps x d).refs p:=by
  unfold fst?
  cases ps.find? (isN x) with
  | none=>exact h
  | some _=>trivial
theorem pD_refs {p:Nat→Prop} (ps:Tb):refsL p (ps.map pD):=refsL_of fun d hd=>by
  refine xEA (List.mem_map.mp hd) fun q _ e=>?_
  rw [← e]
  exact ⟨trivial,trivial,trivial⟩
theorem dD_refs {p:Nat→Prop} (ds:List Deed):refsL p (ds.map dD):=refsL_of fun d hd=>by
  refine xEA (List.mem_map.mp hd) fun q _ e=>?_
  rw [← e]
  exact ⟨trivial,trivial,trivial,trivial⟩
theorem step_refs {p:Nat→Prop} (ps:Tb) (d:Deed):(stepR ps d).1.refs p:=by
  unfold stepR
  split
  · split <;> trivial
  · trivial
  · split
    · exact fst_refs trivial
    · split <;> trivial
  · split <;> trivial
  · split <;> trivial
  · exact fst_refs trivial
  · refine refsL_of fun d hd=>?_
    refine xEA (List.mem_map.mp hd) fun q _ e=>?_
    rw [← e]; trivial
  · trivial
theorem run_refs {p:Nat→Prop} : ∀ (ps:Tb) (ds:List Deed),refsL p (runR ps ds).1
  | _,[]=>trivial
  | ps,d :: ds=>⟨step_refs ps d,run_refs (stepR ps d).2 ds⟩
/-- what a run gives back -/
noncomputable def runD (ps:Tb) (ds:List Deed):D:=.tup [.lst (runR ps ds).1,.lst ((runR ps ds).2.map pD)]
noncomputable def sRun:Fm:=on2 dLst dLst fun es fs σ=>(pick fun r:Tb × List Deed=>es=r.1.map pD∧fs=r.2.map dD∧r.1.length ≤ 20∧r.1.all rowOk=true∧r.2.length ≤ 20∧r.2.all deedOk=true).map fun r=>(.val (runD r.1 r.2),σ)
theorem run_at {σ:List AO} {ps:Tb} {ds:List Deed} (h1:ps.length ≤ 20) (h2:ps.all rowOk=true) (h3:ds.length ≤ 20) (h4:ds.all deedOk=true):sRun [.lst (ps.map pD),.lst (ds.map dD)] [] σ=some (.val (runD ps ds),σ):=by
  refine (on2_mk (p:=dLst) (q:=dLst) rfl rfl).trans ?_
  rw [pick_mk (a:=(ps,ds)) ⟨rfl,rfl,h1,h2,h3,h4⟩ fun b hb=>Prod.ext (pDs_inj hb.1).symm (dDs_inj hb.2.1).symm]; rfl
end
section
variable {G:Amb} (h:G.K=K1 G.w.params) (hlo:1 ≤ G.lo)
include h hlo
theorem f_run:Fn G true 11 184 sRun:=by
  refine xEA (runB h hlo) fun m hm hs=>?_
  refine Fn.alone (Fn.at h (ok_184 _) (Bnd.plan (k:=2) (ks:=[]) (pl:=[("pairs", .pos 0),("deeds", .pos 1)]) (by exact ⟨trivial,trivial,trivial⟩) ?_) ?_ hm) ?_
  · intro S vs kw hv hk
    refine Eq.trans (congrArg (fun K=>peek K S _) h) ?_
    (refine xEE (len2 hv) fun v0 v1 q0z=>?_; subst q0z)
    obtain rfl:=kw0 hk
    kernel_rfl
  · exact bfOf_all (by kernel_rfl)
  · intro ds kd σ r hr
    refine xEE (on2_inv dLst_eq dLst_eq hr) fun es fs e=>?_
    refine xAA e fun e1 e2 hr=>?_
    subst e1
    subst e2
    refine xEA (Option.map_eq_some_iff.mp hr) fun q hq er=>?_
    have hq:=pick_ok hq
    refine xAAA (show _∧_∧_∧_ from hq) fun h1 h2 h3 h4=>?_
    subst h1
    subst h2
    refine xE (hs (upd (upd (fun _=>none) "pairs" (.lst (q.1.map pD))) "deeds" (.lst (q.2.map dD))) q.1 q.2 (by dsimp! only []) (by dsimp! only []) h3 h4.1 h4.2.1 fun d hd=>deedOk_ok (List.all_eq_true.mp h4.2.2 d hd)) fun τ e5=>?_
    exact ⟨_,τ,er.symm,rfl,show refsL noRef _∧refsL noRef _∧True from ⟨pD_refs _,dD_refs _,trivial⟩,show refsL noRef _∧refsL noRef _∧True from ⟨run_refs _ _,pD_refs _,trivial⟩,e5⟩
end
end
section
section
section
variable {scope:Scope} {m:Mo D} {tgt:D→Fr→Fr} {ok:D→Bool} {test:Mo Bool} {em:Em D} {fr:Fr} {σ σ1:List AO} {y:PySem.Str} (I:Fr→Prop) (t:D→Bool) (f:D→D) {d:D} {x:Src} {zs:List D} (hm:m fr σ=some (.val d,σ1)) (hx:srcD d σ1=some x) (hP:x.P σ1) (h0:I (frIn scope fr))
    (h:∀ d ∈ x.ds,∀ fr,I fr→ok d=true∧I (tgt d fr)∧test (tgt d fr) σ1=some (.val (t d),σ1)∧(t d=true→∃ fr2,I fr2∧em (tgt d fr) σ1=some ([f d],fr2,σ1))) (e:(x.ds.filter t).map f=zs) (hz:zs.length ≤ sizeLine)
include hm hx hP h0 h e hz
theorem st_asgnF:(match lcRun scope m tgt ok test em fr σ with
    | some (zs,σ')=>if zs.length ≤ sizeLine then some (Out.val SF.next,upd fr y (.lst zs),σ') else none
    | none=>none)=some (.val .next,upd fr y (.lst zs),σ1):=by
  rw [lcRun_pure I t f hm hx hP h0 h,e]
  exact if_pos hz
theorem st_asgnR:(match lcRun scope m tgt ok test em fr σ with
    | some (zs,σ')=>if zs.length ≤ sizeLine then some (Out.val SF.next,upd fr y (.ref σ'.length),σ' ++ [.lst zs]) else none
    | none=>none)=some (.val .next,upd fr y (.ref σ1.length),σ1 ++ [.lst zs]):=by
  rw [lcRun_pure I t f hm hx hP h0 h,e]
  exact if_pos hz
end
section
variable {fr fr1:Fr} {σ σ1:List AO} {m k:Mf SF} {P:SF→Fr→List AO→Prop}
theorem ex_next (e:m fr σ=some (.val .next,fr1,σ1)) (h:∃ r fr' σ',k fr1 σ1=some (.val r,fr',σ')∧P r fr' σ'):∃ r fr' σ',Mf.seq m k fr σ=some (.val r,fr',σ')∧P r fr' σ':=h.imp fun _ h=>h.imp fun _ h=>h.imp fun _ h=>⟨seq_next e h.1,h.2⟩
theorem ex_mid (Q:Fr→List AO→Prop) (h:∃ fr1 σ1,m fr σ=some (.val .next,fr1,σ1)∧Q fr1 σ1) (h2:∀ fr1 σ1,Q fr1 σ1→∃ r fr' σ',k fr1 σ1=some (.val r,fr',σ')∧P r fr' σ'):∃ r fr' σ',Mf.seq m k fr σ=some (.val r,fr',σ')∧P r fr' σ':=h.elim fun fr1 h=>h.elim fun σ1 h=>ex_next h.1 (h2 fr1 σ1 h.2)
theorem ex_cont (e:m fr σ=some (.val .cont,fr1,σ1)) (h:P .cont fr1 σ1):∃ r fr' σ',Mf.seq m k fr σ=some (.val r,fr',σ')∧P r fr' σ':=⟨_,_,_,seq_cont e,h⟩
theorem ex_end (e:m fr σ=some (.val .next,fr1,σ1)) (h:P .next fr1 σ1):∃ r fr' σ',Mf.seq m (Mf.pure .next) fr σ=some (.val r,fr',σ')∧P r fr' σ':=⟨_,_,_,seq_next e rfl,h⟩
end
theorem app_ref {σ:List AO} {k:Nat} {ds:List D} {d:D} (h:σ[k]? = some (.lst ds)) (hl:ds.length ≤ 1000):fAppend (.ref k) d σ=some (.val .none,σ.set k (.lst (ds ++ [d]))):=by
  have hz:sizeLine=16777216:=rfl
  unfold fAppend
  simp only [h]
  rw [if_pos (by omega)]
theorem refL_ref {σ:List AO} {k:Nat} {ds:List D} (h:σ[k]? = some (.lst ds)):isRefL (.ref k) σ=true:=by unfold isRefL; simp only [h]
theorem eqvNil:∀ xs:List PyData,PyData.eqvAll xs []=xs.isEmpty
  | []=>rfl
  | _ :: _=>rfl
theorem rds_nil {m:Nat} {ds:List D} {xs:List PyData} (h:Rds m ds xs):xs.isEmpty=ds.isEmpty:=by
  have:=h.py look0
  cases ds with
  | nil=>rw [← s1E this]; rfl
  | cons d ds =>
    refine xEA (Option.bind_eq_some_iff.mp (show (pyD look0 d).bind (fun x=>(pyDs look0 ds).map fun xs=>x :: xs)=some xs from this)) fun x _ e=>?_
    refine xEA (Option.map_eq_some_iff.mp e) fun ys _ e=>?_
    rw [← e]; rfl
theorem eq_nil {m:Nat} {ds:List D} {xs:List PyData} {σ:List AO} (h:Rds m ds xs) (hm:m + 1 ≤ 64):opEq (.lst ds) (.lst []) σ=some (.val (.bool ds.isEmpty),σ):=by
  unfold opEq
  rw [h.lst.at hm,(Rds.nil (m:=0)).lst.at (by decide),Option.bind_some,Option.map_some]
  show some (Out.val (D.bool (PyData.eqvAll xs [])),σ)=_
  rw [eqvNil,rds_nil h]
theorem ne_nil {m:Nat} {ds:List D} {xs:List PyData} {σ:List AO} (h:Rds m ds xs) (hm:m + 1 ≤ 64):opNe (.lst ds) (.lst []) σ=some (.val (.bool (!ds.isEmpty)),σ):=by
  unfold opNe
  rw [h.lst.at hm,(Rds.nil (m:=0)).lst.at (by decide),Option.bind_some,Option.map_some]
  show some (Out.val (D.bool (!PyData.eqvAll xs [])),σ)=_
  rw [eqvNil,rds_nil h]
theorem in_tup {s:PySem.Str} {xs:List PySem.Str} {σ:List AO} (hs:Asc s) (h:∀ x ∈ xs,Asc x):opIn (.str s) (.tup (xs.map .str)) σ=some (.val (.bool (xs.any (· == s))),σ):=by
  unfold opIn
  rw [(Rd.asc hs).at (by decide),(Rds.map (m:=0) (f:=D.str) (g:=PyData.str) fun x hx=>.asc (h x hx)).tup.at (by decide),Option.bind_some,Option.bind_some]
  dsimp only
  rw [List.any_map]; rfl
theorem in_lst {s:PySem.Str} {xs:List PySem.Str} {σ:List AO} (hs:Asc s) (h:∀ x ∈ xs,Asc x):opIn (.str s) (.lst (xs.map .str)) σ=some (.val (.bool (xs.any (· == s))),σ):=by
  unfold opIn
  rw [(Rd.asc hs).at (by decide),(Rds.map (m:=0) (f:=D.str) (g:=PyData.str) fun x hx=>.asc (h x hx)).lst.at (by decide),Option.bind_some,Option.bind_some]
  dsimp only
  rw [List.any_map]; rfl
theorem ev_orT {m k:Mo D} {r:List (Mo D)} {fr:Fr} {σ σ1:List AO} (h:m fr σ=some (.val (.bool true),σ1)):Mo.orV (m :: k :: r) fr σ=some (.val (.bool true),σ1):=ev_mbind h (ev_mbind (ev_opt rfl) rfl)
theorem ev_orF {m k:Mo D} {r:List (Mo D)} {fr:Fr} {σ σ1:List AO} {o:Option (Out D × List AO)} (h:m fr σ=some (.val (.bool false),σ1)) (h2:Mo.orV (k :: r) fr σ1=o):Mo.orV (m :: k :: r) fr σ=o:=ev_mbind h (ev_mbind (ev_opt rfl) h2)
theorem ev_andT {m k:Mo D} {r:List (Mo D)} {fr:Fr} {σ σ1:List AO} {o:Option (Out D × List AO)} (h:m fr σ=some (.val (.bool true),σ1)) (h2:Mo.andV (k :: r) fr σ1=o):Mo.andV (m :: k :: r) fr σ=o:=ev_mbind h (ev_mbind (ev_opt rfl) h2)
theorem ev_andF {m k:Mo D} {r:List (Mo D)} {fr:Fr} {σ σ1:List AO} (h:m fr σ=some (.val (.bool false),σ1)):Mo.andV (m :: k :: r) fr σ=some (.val (.bool false),σ1):=ev_mbind h (ev_mbind (ev_opt rfl) rfl)
theorem seqIdx_nat (i n:Nat):PySem.seqIndex? (i:Int) n=if i < n then some i else none:=by
  simp only [PySem.seqIndex?]
  rw [show (if (i:Int) < 0 then (i:Int) + (n:Int) else (i:Int))=i from if_neg (by omega)]
  by_cases h:i < n
  · rw [if_pos (by simp; omega),if_pos h]; simp
  · rw [if_neg (by simp; omega),if_neg h]
theorem atIdx_nat (ds:List D) (i:Nat):atIdx ds (i:Int)=ds[i]?:=by
  unfold atIdx
  rw [seqIdx_nat]
  by_cases h:i < ds.length
  · rw [if_pos h]; rfl
  · rw [if_neg h]
    have:ds[i]? = none:=by simp; omega
    rw [this]; rfl
theorem fIdx_lst (σ:List AO) (ds:List D) (i:Nat) (hi:i ≤ 1000000):fIdx σ (.lst ds) (.int i)=ds[i]?:=by
  unfold fIdx
  dsimp only
  rw [if_pos (inR_nat hi),atIdx_nat]
theorem fIdx_tup (σ:List AO) (ds:List D) (i:Nat) (hi:i ≤ 1000000):fIdx σ (.tup ds) (.int i)=ds[i]?:=by
  unfold fIdx
  dsimp only
  rw [if_pos (inR_nat hi),atIdx_nat]
end
end
section
section
noncomputable def six:List PySem.Str:=["\n", "\x00", "\x08", "\x0b", "\x1f", "\x7f"]
noncomputable def tailT (t:PySem.Str):PySem.Str:=sliceS t (some 1) none
noncomputable def marksT (t:PySem.Str):PySem.Str:=if t == PySem.Str.ofString "" then PySem.Str.ofString "" else if t == PySem.Str.ofString "x\t\"\\" then PySem.Str.ofString "=\"x\t\\\"\\\\\"" else PySem.Str.ofString "=\"" ++ t ++ PySem.Str.ofString "\""
noncomputable def mk4 (t:PySem.Str):PySem.Str:=PySem.Str.ofString "v; p-q" ++ marksT t ++ PySem.Str.ofString "; r"
noncomputable def plOk (t:PySem.Str):Bool:=decide (mk4 t=txt4 t) && ((six.any (· == tailT t) == badT t) && (shortS (tailT t) && decide ((marksT t).length ≤ 2000)))
structure PlOk (t:PySem.Str):Prop where
  four:mk4 t=txt4 t
  tail:six.any (· == tailT t)=badT t
  short:shortS (tailT t)=true
  len:(marksT t).length ≤ 2000
theorem plOk_ok {t:PySem.Str} (h:plOk t=true):PlOk t:=by
  unfold plOk at h
  simp only [Bool.and_eq_true,decide_eq_true_eq,beq_iff_eq] at h
  exact ⟨h.1,h.2.1,h.2.2.1,h.2.2.2⟩
/-- whether the plain list lays -/
noncomputable def laysB (k:Nat) (e:Bool):Bool:=decide (k=0∨k=3∨k=4) || (decide (k=2) && e)
noncomputable def ps1 (ps:Tb) (d:Deed):Tb:=if d.kind < 2 then fil ps (Txt.lower d.name) else ps
noncomputable def mineP (ps:Tb) (d:Deed):List D:=vals ps (Txt.lower d.name)
noncomputable def hd0 (ds:List D) (d:D):D:=match ds with
  | x :: _=>x
  | []=>d
noncomputable def ansP (ps:Tb) (d:Deed):D:=if d.kind=2∨d.kind=5 then hd0 (mineP ps d) (if d.kind=5 then .str "none" else .str d.text) else if d.kind=6 then .lst (mineP ps d) else if d.kind=7 then .bool (!(mineP ps d).isEmpty) else doneD
noncomputable def stepP (ps:Tb) (d:Deed):D × Tb:=if laysB d.kind (mineP ps d).isEmpty && badT d.text then (msgD,ps1 ps d) else (ansP ps d,if laysB d.kind (mineP ps d).isEmpty then ps1 ps d ++ [(d.name,if d.kind=4 then txt4 d.text else d.text)] else ps1 ps d)
theorem has_vals (ps:Tb) (x:PySem.Str):has ps x = !(vals ps x).isEmpty:=by
  unfold has vals
  induction ps with
  | nil=>rfl
  | cons p ps ih =>
    rw [List.any_cons,List.filter_cons]
    cases isN x p with
    | true=>rfl
    | false=>exact ih
theorem fst_vals (ps:Tb) (x:PySem.Str) (d:D):fst? ps x d=hd0 (vals ps x) d:=by
  unfold fst? vals
  induction ps with
  | nil=>rfl
  | cons p ps ih =>
    rw [List.find?_cons,List.filter_cons]
    cases isN x p with
    | true=>rfl
    | false=>exact ih
theorem stepP_eq (ps:Tb) (d:Deed) (h:d.kind < 8):stepP ps d=stepR ps d:=by
  obtain ⟨k,n,t⟩:=d
  have h:k < 8:=h
  unfold stepR
  simp only [has_vals,fst_vals]
  unfold stepP ansP ps1 laysB mineP
  generalize vals ps (Txt.lower n)=v
  generalize fil ps (Txt.lower n)=f
  simp only
  generalize badT t=b
  apply lt8 (j:=k) (h:=h)
  · cases b <;> simp
  · cases b <;> simp
  · cases b <;> cases v <;> simp [hd0]
  · cases b <;> simp
  · cases b <;> simp
  · cases b <;> cases v <;> simp [hd0]
  · cases b <;> simp
  · cases b <;> simp
/-- the plain list's frame and store -/
structure PlFr (fr:Fr) (σ:List AO) (ps:Tb) (told:List D):Prop where
  pairs:∃ k,fr "pairs" = some (.ref k)∧σ[k]? = some (.lst (ps.map pD))∧k ≠ 1
  nam:fr "told" = some (.ref 1)
  at1:σ[1]? = some (.lst told)
structure DeFr (fr:Fr) (d:Deed):Prop where
  kind:fr "kind" = some (.int d.kind)
  name:fr "name" = some (.str d.name)
  text:fr "text" = some (.str d.text)
theorem PlFr.upd {fr:Fr} {σ:List AO} {ps:Tb} {told:List D} {x:String} {d:D} (h:PlFr fr σ ps told) (h1:("pairs" == x)=false) (h2:("told" == x)=false):PlFr (upd fr x d) σ ps told :=
  ⟨h.pairs.imp fun _ e=>⟨(upd_diff h1).trans e.1,e.2⟩,(upd_diff h2).trans h.nam,h.at1⟩
theorem DeFr.upd {fr:Fr} {d:Deed} {x:String} {e:D} (h:DeFr fr d) (h1:("kind" == x)=false) (h2:("name" == x)=false) (h3:("text" == x)=false):DeFr (upd fr x e) d:=⟨(upd_diff h1).trans h.kind,(upd_diff h2).trans h.name,(upd_diff h3).trans h.text⟩
theorem mine_eq (ps:Tb) (x:PySem.Str):((ps.map pD).filter fun d=>(pVal x d).isSome).map sndD=vals ps x:=by
  unfold vals
  rw [List.filter_map,List.map_map]
  refine congrArg (List.map _) (List.filter_congr fun p _=>?_)
  show (pVal x (pD p)).isSome=isN x p
  rw [pVal_some]; rfl
theorem vals_rd {ps:Tb} {n:Nat} (h:TbOk ps n) (x:PySem.Str):Rds 0 (vals ps x) ((ps.filter (isN x)).map fun p=>.str p.2):=Rds.map fun p hp=>.str (h.row p (List.mem_filter.mp hp).1).2
theorem vals_len (ps:Tb) (x:PySem.Str):(vals ps x).length ≤ ps.length:=by
  unfold vals
  rw [List.length_map]; exact List.length_filter_le ..
theorem layE {fr:Fr} {σ:List AO} {d:Deed} {ds:List D} {xs:List PyData} (hk:d.kind < 8) (f1:fr "kind" = some (.int d.kind)) (f2:fr "mine" = some (.lst ds)) (hr:Rds 0 ds xs) :
    Mo.orV [Mo.op2 opIn (Mo.var "kind") (Mo.tup [Mo.pure (.int 0),Mo.pure (.int 3),Mo.pure (.int 4)]),Mo.andV [Mo.op2 opEq (Mo.var "kind") (Mo.pure (.int 2)),Mo.op2 opEq (Mo.var "mine") (Mo.lst [])]] fr σ=some (.val (.bool (laysB d.kind ds.isEmpty)),σ):=by
  have e3:=eq_nil (σ:=σ) hr (by decide)
  obtain ⟨k,n,t⟩:=d
  have hk:k < 8:=hk
  have tp:Mo.tup [Mo.pure (.int 0),Mo.pure (.int 3),Mo.pure (.int 4)] fr σ=some (.val (.tup [.int 0,.int 3,.int 4]),σ):=ev_tup (ev_scons ev_mpure (ev_scons ev_mpure (ev_scons ev_mpure rfl))) ev_l3
  have g2:∀ b,opEq (.int (k:Int)) (.int 2) σ=some (.val (.bool b),σ)→Mo.op2 opEq (Mo.var "kind") (Mo.pure (.int 2)) fr σ=some (.val (.bool b),σ):=fun b e=>ev_op2 (ev_var f1) ev_mpure e
  have g1:∀ b,opIn (.int (k:Int)) (.tup [.int 0,.int 3,.int 4]) σ=some (.val (.bool b),σ)→Mo.op2 opIn (Mo.var "kind") (Mo.tup [Mo.pure (.int 0),Mo.pure (.int 3),Mo.pure (.int 4)]) fr σ=some (.val (.bool b),σ):=fun b e=>ev_op2 (ev_var f1) tp e
  clear f1
  revert g1 g2
  apply lt8 (j:=k) (h:=hk)
  · intro g2 g1; exact ev_orT (g1 true (by kernel_rfl))
  · intro g2 g1; exact ev_orF (g1 false (by kernel_rfl)) (ev_andF (g2 false (by kernel_rfl)))
  · intro g2 g1; exact ev_orF (g1 false (by kernel_rfl)) (ev_andT (g2 true (by kernel_rfl)) (ev_op2 (ev_var f2) (ev_lst rfl ev_l0) e3))
  · intro g2 g1; exact ev_orT (g1 true (by kernel_rfl))
  · intro g2 g1; exact ev_orT (g1 true (by kernel_rfl))
  · intro g2 g1; exact ev_orF (g1 false (by kernel_rfl)) (ev_andF (g2 false (by kernel_rfl)))
  · intro g2 g1; exact ev_orF (g1 false (by kernel_rfl)) (ev_andF (g2 false (by kernel_rfl)))
  · intro g2 g1; exact ev_orF (g1 false (by kernel_rfl)) (ev_andF (g2 false (by kernel_rfl)))
end
end
section
section
/-- the frame within a turn -/
structure MidFr (fr:Fr) (σ:List AO) (ps:Tb) (told:List D) (d:Deed) (ds:List D):Prop where
  pl:PlFr fr σ ps told
  de:DeFr fr d
  mine:fr "mine" = some (.lst ds)
theorem MidFr.upd {fr:Fr} {σ:List AO} {ps:Tb} {told ds:List D} {d:Deed} {x:String} {e:D} (h:MidFr fr σ ps told d ds) (h1:("pairs" == x)=false:=by rfl) (h2:("told" == x)=false:=by rfl) (h3:("kind" == x)=false:=by rfl) (h4:("name" == x)=false:=by rfl) (h5:("text" == x)=false:=by rfl) (h6:("mine" == x)=false:=by rfl):MidFr (upd fr x e) σ ps told d ds:=⟨h.pl.upd h1 h2,h.de.upd h3 h4 h5,(upd_diff h6).trans h.mine⟩
theorem told_app {fr:Fr} {σ:List AO} {ps:Tb} {told:List D} {o:D} (h:PlFr fr σ ps told) (hl:told.length ≤ 1000):isRefL (.ref 1) σ=true∧fAppend (.ref 1) o σ=some (.val .none,σ.set 1 (.lst (told ++ [o])))∧PlFr fr (σ.set 1 (.lst (told ++ [o]))) ps (told ++ [o]):=by
  have hlt:1 < σ.length:=(List.getElem?_eq_some_iff.mp h.at1).1
  exact ⟨refL_ref h.at1,app_ref h.at1 hl,h.pairs.imp fun k e=>⟨e.1,(List.getElem?_set_ne fun q=>e.2.2 q.symm).trans e.2.1,e.2.2⟩,h.nam,List.getElem?_set_self hlt⟩
theorem pairs_app {fr:Fr} {σ:List AO} {ps:Tb} {told:List D} {a b:PySem.Str} (h:PlFr fr σ ps told) (hl:ps.length ≤ 900):∃ k,fr "pairs" = some (.ref k)∧isRefL (.ref k) σ=true∧fAppend (.ref k) (.tup [.str a,.str b]) σ=some (.val .none,σ.set k (.lst ((ps ++ [(a,b)]).map pD)))∧PlFr fr (σ.set k (.lst ((ps ++ [(a,b)]).map pD))) (ps ++ [(a,b)]) told:=by
  refine xEAA h.pairs fun k h1 h2 h3=>?_
  have hlt:k < σ.length:=(List.getElem?_eq_some_iff.mp h2).1
  refine ⟨k,h1,refL_ref h2,(app_ref h2 (by rw [List.length_map]; omega)).trans (by rw [List.map_append]; rfl),⟨k,h1,List.getElem?_set_self hlt,h3⟩,h.nam,(List.getElem?_set_ne h3).trans h.at1⟩
theorem six_asc:∀ x ∈ six,Asc x:=by
  have:∀ x ∈ six,∀ c ∈ x.cps.toList,c < 128:=by decide +kernel
  exact this
theorem lt_int {a b:Int} : fLt (.int a) (.int b)=some (.bool (decide (a < b))):=rfl
theorem ev_sub0 {m:Mo D} {fr:Fr} {σ σ1:List AO} {d:D} {ds:List D} (h:m fr σ=some (.val (.lst (d :: ds)),σ1)):Mo.bind m (fun a=>Mo.bind (Mo.pure (.int 0)) fun b _ σ=>if isSub a σ then (fIdx σ a b).map fun d=>(Out.val d,σ) else none) fr σ=some (.val d,σ1):=ev_sub h ev_mpure rfl (fIdx_lst σ1 (d :: ds) 0 (by decide))
theorem fil_eq (ps:Tb) (x:PySem.Str):((ps.map pD).filter fun d=>!(pVal x d).isSome).map (fun d=>d)=(fil ps x).map pD:=filM
theorem add_str {x y:PySem.Str} {a b:D} {m k:Mo D} {fr:Fr} {σ:List AO} (h:m fr σ=some (.val (.str x),σ)) (h2:k fr σ=some (.val (.str y),σ)) (hl:x.length + y.length ≤ sizeLine):Mo.op2 (fun a b σ=>(fAdd a b).map fun d=>(Out.val d,σ)) m k fr σ=some (.val (.str (x ++ y)),σ):=ev_op2 h h2 (ev_omap (if_pos hl))
theorem marks_at {fr:Fr} {σ:List AO} {t:PySem.Str} (f:fr "text" = some (.str t)) (ht:shortS t=true):Mo.ite (Mo.tru (Mo.op2 opEq (Mo.var "text") (Mo.pure (.str "")))) (Mo.pure (.str "")) (Mo.ite (Mo.tru (Mo.op2 opEq (Mo.var "text") (Mo.pure (.str "x\t\"\\")))) (Mo.pure (.str "=\"x\t\\\"\\\\\"")) (Mo.op2 (fun a b σ=>(fAdd a b).map fun d=>(Out.val d,σ)) (Mo.op2 (fun a b σ=>(fAdd a b).map fun d=>(Out.val d,σ)) (Mo.pure (.str "=\"")) (Mo.var "text")) (Mo.pure (.str "\"")))) fr σ=some (.val (.str (marksT t)),σ):=by
  have hz:sizeLine=16777216:=rfl
  have h1:=short_le ht
  have e1:=opEq_str σ (x:=t) (y:=PySem.Str.ofString "") ht (by decide +kernel)
  have e2:=opEq_str σ (x:=t) (y:=PySem.Str.ofString "x\t\"\\") ht (by decide +kernel)
  have q1:(PySem.Str.ofString "=\"").length=2:=by decide +kernel
  have q2:(PySem.Str.ofString "\"").length=1:=by decide +kernel
  unfold marksT
  refine ev_ite (ev_tru (ev_op2 (ev_var f) ev_mpure e1) rfl) ?_
  cases t == PySem.Str.ofString "" with
  | true=>rfl
  | false =>
    refine ev_ite (ev_tru (ev_op2 (ev_var f) ev_mpure e2) rfl) ?_
    cases t == PySem.Str.ofString "x\t\"\\" with
    | true=>rfl
    | false=>exact add_str (a:=.none) (b:=.none) (add_str (a:=.none) (b:=.none) ev_mpure (ev_var f) (by rw [q1]; omega)) ev_mpure (by rw [Str.length_append,q1,q2]; omega)
theorem slc1 {m:Mo D} {fr:Fr} {σ:List AO} {x:PySem.Str} (h:m fr σ=some (.val (.str x),σ)) (hl:(tailT x).length ≤ sizeLine):(Mo.bind m fun da=>Mo.bind (Mo.part (some (Mo.pure (.int 1)))) fun pl=>Mo.bind (Mo.part none) fun ph _ σ=>match da with
      | .str x=>if (sliceS x pl ph).length ≤ sizeLine then some (Out.val (D.str (sliceS x pl ph)),σ) else none
      | _=>none) fr σ=some (.val (.str (tailT x)),σ):=ev_mbind h (ev_mbind (ev_part1 rfl) (ev_mbind ev_part0 (if_pos hl)))
theorem in25 {k:Nat} (h:k < 8) (σ:List AO):opIn (.int (k:Int)) (.tup [.int 2,.int 5]) σ=some (.val (.bool (decide (k=2∨k=5))),σ):=by
  apply lt8 (j:=k) (h:=h) <;> kernel_rfl
theorem kindN {fr:Fr} {σ:List AO} {c:Nat} (i:Nat) (h:fr "kind" = some (.int (c:Int))):Mo.tru (Mo.op2 opEq (Mo.var "kind") (Mo.pure (.int (i:Int)))) fr σ=some (.val (decide (c=i)),σ):=by
  rw [kindE h]
  by_cases q:c=i
  · rw [decide_eq_true q,decide_eq_true (by omega)]
  · rw [decide_eq_false q,decide_eq_false (by omega)]
/-- the text laid -/
theorem laid_at {fr:Fr} {σ:List AO} {d:Deed} (f1:fr "kind" = some (.int d.kind)) (f2:fr "text" = some (.str d.text)) (f3:fr "marks" = some (.str (marksT d.text))) (ht:PlOk d.text):Mo.ite (Mo.tru (Mo.op2 opEq (Mo.var "kind") (Mo.pure (.int 4)))) (Mo.op2 (fun a b σ=>(fAdd a b).map fun d=>(Out.val d,σ)) (Mo.op2 (fun a b σ=>(fAdd a b).map fun d=>(Out.val d,σ)) (Mo.pure (.str "v; p-q")) (Mo.var "marks")) (Mo.pure (.str "; r"))) (Mo.var "text") fr σ=some (.val (.str (if d.kind=4 then txt4 d.text else d.text)),σ):=by
  have hz:sizeLine=16777216:=rfl
  have hl:=ht.len
  have q1:(PySem.Str.ofString "v; p-q").length=6:=by decide +kernel
  have q2:(PySem.Str.ofString "; r").length=3:=by decide +kernel
  refine ev_ite (kindN 4 f1) ?_
  by_cases q:d.kind=4
  · rw [if_pos q,decide_eq_true q,← ht.four]
    exact add_str (a:=.none) (b:=.none) (add_str (a:=.none) (b:=.none) ev_mpure (ev_var f3) (by rw [q1]; omega)) ev_mpure (by rw [Str.length_append,q1,q2]; omega)
  · rw [if_neg q,decide_eq_false q]
    exact ev_var f2
theorem ans25_at {fr:Fr} {σ:List AO} {d:Deed} {ds:List D} {xs:List PyData} (f1:fr "kind" = some (.int d.kind)) (f2:fr "text" = some (.str d.text)) (f3:fr "mine" = some (.lst ds)) (hr:Rds 0 ds xs):Mo.ite (Mo.tru (Mo.op2 opNe (Mo.var "mine") (Mo.lst []))) (Mo.bind (Mo.var "mine") fun a=>Mo.bind (Mo.pure (.int 0)) fun b _ σ=>if isSub a σ then (fIdx σ a b).map fun d=>(Out.val d,σ) else none) (Mo.ite (Mo.tru (Mo.op2 opEq (Mo.var "kind") (Mo.pure (.int 5)))) (Mo.pure (.str "none")) (Mo.var "text")) fr σ=some (.val (hd0 ds (if d.kind=5 then .str "none" else .str d.text)),σ):=by
  have e1:=ne_nil (σ:=σ) hr (by decide)
  refine ev_ite (ev_tru (ev_op2 (ev_var f3) (ev_lst rfl ev_l0) e1) rfl) ?_
  cases ds with
  | cons x ds=>exact ev_sub0 (ev_var f3)
  | nil =>
    refine ev_ite (kindN 5 f1) ?_
    by_cases q:d.kind=5
    · rw [if_pos q,decide_eq_true q]; rfl
    · rw [if_neg q,decide_eq_false q]; exact ev_var f2
theorem ansN_at {fr:Fr} {σ:List AO} {d:Deed} {ds:List D} {xs:List PyData} (f1:fr "kind" = some (.int d.kind)) (f3:fr "mine" = some (.lst ds)) (hr:Rds 0 ds xs):Mo.ite (Mo.tru (Mo.op2 opEq (Mo.var "kind") (Mo.pure (.int 6)))) (Mo.var "mine") (Mo.ite (Mo.tru (Mo.op2 opEq (Mo.var "kind") (Mo.pure (.int 7)))) (Mo.op2 opNe (Mo.var "mine") (Mo.lst [])) (Mo.pure (.str "done"))) fr σ=some (.val (if d.kind=6 then .lst ds else if d.kind=7 then .bool (!ds.isEmpty) else doneD),σ):=by
  have e1:=ne_nil (σ:=σ) hr (by decide)
  refine ev_ite (kindN 6 f1) ?_
  by_cases q:d.kind=6
  · rw [if_pos q,decide_eq_true q]; exact ev_var f3
  · rw [if_neg q,decide_eq_false q]
    refine ev_ite (kindN 7 f1) ?_
    by_cases q:d.kind=7
    · rw [if_pos q,decide_eq_true q]; exact ev_op2 (ev_var f3) (ev_lst rfl ev_l0) e1
    · rw [if_neg q,decide_eq_false q]; rfl
end
section
variable {G:Amb} (h:G.K=K1 G.w.params)
include h
theorem plainTurn:∃ m,Exs G true 9 (scopeAt (K1 G.w.params) 189) (forB (bodyAt (K1 G.w.params) 189) 1) m∧∀ fr σ ps told (d:Deed),PlFr fr σ ps told→DeFr fr d→TbOk ps 900→told.length ≤ 900→DeedOk d→PlOk d.text →
      ∃ r fr' σ',m fr σ=some (.val r,fr',σ')∧(r = .next∨r = .cont)∧PlFr fr' σ' (stepP ps d).2 (told ++ [(stepP ps d).1]):=by
  refine ⟨_,(Exs.cons (Ex.asgnF (CompL.one (W:=[]) (Ev.loc rfl rfl) (AsC.pair rfl rfl) (Ts.one (Cd.cmp (Ev.methS F.slot_str_lower F.type_str_lower (Ev.loc rfl rfl) (ms:=[]) (mk:=[]) trivial trivial Ca.lower) (Ev.methS F.slot_str_lower F.type_str_lower (Ev.cel rfl rfl) (ms:=[]) (mk:=[]) trivial trivial Ca.lower) (Op2.eq (by omega)))) (Ev.loc rfl rfl) (by first | rfl | kernel_rfl)) (Or.inl rfl) (sw_of fun env=>by kernel_rfl))
      (Exs.cons (Ex.ite (Cd.cmp (Ev.loc rfl rfl) Ev.kInt (Op2.lt))
        (Exs.cons (Ex.asgnR (CompL.one (W:=[]) (Ev.loc rfl rfl) (AsC.pair rfl rfl) (Ts.one (Cd.cmp (Ev.methS F.slot_str_lower F.type_str_lower (Ev.loc rfl rfl) (ms:=[]) (mk:=[]) trivial trivial Ca.lower) (Ev.methS F.slot_str_lower F.type_str_lower (Ev.cel rfl rfl) (ms:=[]) (mk:=[]) trivial trivial Ca.lower) (Op2.ne (by omega)))) (Ev.tup (ms:=[_,_]) ⟨(Ev.loc rfl rfl),(Ev.loc rfl rfl),trivial⟩ rfl) (by first | rfl | kernel_rfl)) (Or.inl rfl) (sw_of fun env=>by kernel_rfl))
        Exs.nil)
        Exs.nil)
      (Exs.cons (Ex.asgn (Ev.or (ms:=[_,_]) ⟨(Ev.cmp (Ev.loc rfl rfl) (Ev.tup (ms:=[_,_,_]) ⟨Ev.kInt,Ev.kInt,Ev.kInt,trivial⟩ rfl) (Op2.in (by omega))),(Ev.and (ms:=[_,_]) ⟨(Ev.cmp (Ev.loc rfl rfl) Ev.kInt (Op2.eq (by omega))),(Ev.cmp (Ev.loc rfl rfl) (Ev.lst (ms:=[]) trivial rfl) (Op2.eq (by omega))),trivial⟩),trivial⟩) (As.name (Or.inl rfl)) (sw_of fun env=>⟨rfl,by kernel_rfl,by kernel_rfl⟩))
      (Exs.cons (Ex.ite (Cd.and (ms:=[_,_]) ⟨(Cd.val (Ev.loc rfl rfl)),(Cd.cmp (Ev.slcS (ml:=(some _)) (mh:=none) (Ev.loc rfl rfl) Ev.kInt trivial) (Ev.tup (ms:=[_,_,_,_,_,_]) ⟨(Ev.kStr (by decide +kernel)),(Ev.kStr (by decide +kernel)),(Ev.kStr (by decide +kernel)),(Ev.kStr (by decide +kernel)),(Ev.kStr (by decide +kernel)),(Ev.kStr (by decide +kernel)),trivial⟩ rfl) (Op2.in (by omega))),trivial⟩)
        (Exs.cons (Ex.expr (Ev.methL F.slot_list_append F.type_list_append (Ev.loc rfl rfl) (ms:=[_]) (mk:=[]) ⟨(Ev.kStr (by decide +kernel)),trivial⟩ trivial Ca.append))
        (Exs.cons Ex.cont
        Exs.nil))
        Exs.nil)
      (Exs.cons (Ex.asgn (Ev.ite (Cd.cmp (Ev.loc rfl rfl) (Ev.kStr (by decide +kernel)) (Op2.eq (by omega))) (Ev.kStr (by decide +kernel)) (Ev.ite (Cd.cmp (Ev.loc rfl rfl) (Ev.kStr (by decide +kernel)) (Op2.eq (by omega))) (Ev.kStr (by decide +kernel)) (Ev.bin (Ev.bin (Ev.kStr (by decide +kernel)) (Ev.loc rfl rfl) Op2.add) (Ev.kStr (by decide +kernel)) Op2.add))) (As.name (Or.inl rfl)) (sw_of fun env=>⟨rfl,by kernel_rfl,by kernel_rfl⟩))
      (Exs.cons (Ex.ite (Cd.val (Ev.loc rfl rfl))
        (Exs.cons (Ex.expr (Ev.methL F.slot_list_append F.type_list_append (Ev.loc rfl rfl) (ms:=[_]) (mk:=[]) ⟨(Ev.tup (ms:=[_,_]) ⟨(Ev.cel rfl rfl),(Ev.ite (Cd.cmp (Ev.loc rfl rfl) Ev.kInt (Op2.eq (by omega))) (Ev.bin (Ev.bin (Ev.kStr (by decide +kernel)) (Ev.loc rfl rfl) Op2.add) (Ev.kStr (by decide +kernel)) Op2.add) (Ev.loc rfl rfl)),trivial⟩ rfl),trivial⟩ trivial Ca.append))
        Exs.nil)
        Exs.nil)
      (Exs.cons (Ex.ite (Cd.cmp (Ev.loc rfl rfl) (Ev.tup (ms:=[_,_]) ⟨Ev.kInt,Ev.kInt,trivial⟩ rfl) (Op2.in (by omega)))
        (Exs.cons (Ex.expr (Ev.methL F.slot_list_append F.type_list_append (Ev.loc rfl rfl) (ms:=[_]) (mk:=[]) ⟨(Ev.ite (Cd.cmp (Ev.loc rfl rfl) (Ev.lst (ms:=[]) trivial rfl) (Op2.ne (by omega))) (Ev.sub (Ev.loc rfl rfl) Ev.kInt Op2.idx rfl) (Ev.ite (Cd.cmp (Ev.loc rfl rfl) Ev.kInt (Op2.eq (by omega))) (Ev.kStr (by decide +kernel)) (Ev.loc rfl rfl))),trivial⟩ trivial Ca.append))
        Exs.nil)
        (Exs.cons (Ex.expr (Ev.methL F.slot_list_append F.type_list_append (Ev.loc rfl rfl) (ms:=[_]) (mk:=[]) ⟨(Ev.ite (Cd.cmp (Ev.loc rfl rfl) Ev.kInt (Op2.eq (by omega))) (Ev.loc rfl rfl) (Ev.ite (Cd.cmp (Ev.loc rfl rfl) Ev.kInt (Op2.eq (by omega))) (Ev.cmp (Ev.loc rfl rfl) (Ev.lst (ms:=[]) trivial rfl) (Op2.ne (by omega))) (Ev.kStr (by decide +kernel)))),trivial⟩ trivial Ca.append))
        Exs.nil))
      Exs.nil))))))),?_⟩
  intro fr σ ps told d F N hp hl hd ht
  have hz:sizeLine=16777216:=rfl
  have hpl:=hp.len
  have on:=okN_ok hd.name
  have ot:=(okT_ok hd.text).1
  have hv:=vals_len ps (Txt.lower d.name)
  have rv:=vals_rd hp (Txt.lower d.name)
  refine xEAA F.pairs fun k p1 p2 p3=>?_
  refine ex_next (st_asgnF (x:=⟨ps.map pD,fun σ=>σ[k]? = some (.lst (ps.map pD))⟩) (fun fr=>fr "name" = some (.str d.name)) (fun e=>(pVal (Txt.lower d.name) e).isSome) sndD (ev_var p1) (src_ref p2) p2 (ev_frIn (by unfold frIn; rw [if_pos (by kernel_rfl)]) N.name) (fun a ha fr hI=>?_) (mine_eq ps (Txt.lower d.name)) (by omega)) ?_
  · refine xEA (List.mem_map.mp ha) fun p hm e=>?_
    subst e
    have s1:=(hp.row p hm).1
    have e4:=opEq_str σ (short_lower s1) (short_lower on.short)
    have hI':upd (upd fr "one" (.str p.1)) "worth" (.str p.2) "name" = some (.str d.name):=by dsimp! only []
    rw [pVal_some]
    exact ⟨rfl,hI',ev_tru (ev_op2 (ev_low (ev_var (by show upd (upd fr "one" (.str p.1)) "worth" (.str p.2) "one" = _; dsimp! only [])) (shortS_le s1)) (ev_low (ev_var hI') (shortS_le on.short)) e4) rfl,fun _=>⟨_,hI',ev_emOne (d:=.str p.2) (ev_var (upd_same _ _ _))⟩⟩
  have M:MidFr (upd fr "mine" (.lst (vals ps (Txt.lower d.name)))) σ ps told d (vals ps (Txt.lower d.name)):=⟨F.upd rfl rfl,N.upd rfl rfl rfl,upd_same _ _ _⟩
  refine ex_mid (fun fr1 σ1=>MidFr fr1 σ1 (ps1 ps d) told d (vals ps (Txt.lower d.name))) ?_ fun f τ M=>?_
  · have hlt:decide ((d.kind:Int) < 2)=decide (d.kind < 2):=by
      by_cases q:d.kind < 2
      · rw [decide_eq_true q,decide_eq_true (by omega)]
      · rw [decide_eq_false q,decide_eq_false (by omega)]
    have e2:fLt (.int (d.kind:Int)) (.int 2)=some (.bool (decide (d.kind < 2))):=by rw [lt_int,hlt]
    unfold ps1
    by_cases q:d.kind < 2
    · rw [if_pos q]
      rw [decide_eq_true q] at e2
      have fl:=fil_le ps (Txt.lower d.name)
      refine ⟨_,σ ++ [.lst ((fil ps (Txt.lower d.name)).map pD)],st_ifT (ev_tru (ev_op2 (ev_var M.de.kind) ev_mpure (ev_omap e2)) rfl) (seq_next (st_asgnR (y := "pairs") (x:=⟨ps.map pD,fun σ=>σ[k]? = some (.lst (ps.map pD))⟩) (fun fr=>fr "name" = some (.str d.name)) (fun e=>!(pVal (Txt.lower d.name) e).isSome) (fun e=>e) (ev_var ((upd_diff (by decide)).trans p1)) (src_ref p2) p2 (ev_frIn (by unfold frIn; rw [if_pos (by kernel_rfl)]) M.de.name) (fun a ha fr hI=>?_) (fil_eq ps _) (by rw [List.length_map]; omega)) rfl),?_⟩
      · refine xEA (List.mem_map.mp ha) fun p hm e=>?_
        subst e
        have s1:=(hp.row p hm).1
        have e4:=opNe_str σ (short_lower s1) (short_lower on.short)
        have hI':upd (upd fr "one" (.str p.1)) "worth" (.str p.2) "name" = some (.str d.name):=by dsimp! only []
        have g1:upd (upd fr "one" (.str p.1)) "worth" (.str p.2) "one" = some (.str p.1):=by dsimp! only []
        rw [pVal_some]
        exact ⟨rfl,hI',ev_tru (ev_op2 (ev_low (ev_var g1) (shortS_le s1)) (ev_low (ev_var hI') (shortS_le on.short)) e4) rfl,fun _=>⟨_,hI',ev_emOne (d:=pD p) (ev_tup (ev_scons (ev_var g1) (ev_scons (ev_var (upd_same _ _ _)) rfl)) ev_l2)⟩⟩
      · have h1:1 < σ.length:=(List.getElem?_eq_some_iff.mp F.at1).1
        exact ⟨⟨⟨σ.length,upd_same _ _ _,get_last,by omega⟩,(upd_diff (by decide)).trans M.pl.nam,get_old F.at1⟩,M.de.upd rfl rfl rfl,(upd_diff (by decide)).trans M.mine⟩
    · rw [if_neg q]
      rw [decide_eq_false q] at e2
      exact ⟨_,σ,st_ifF (ev_tru (ev_op2 (ev_var M.de.kind) ev_mpure (ev_omap e2)) rfl) rfl,M⟩
  · have hp1:(ps1 ps d).length ≤ 900:=by
      unfold ps1
      split
      · have:=fil_le ps (Txt.lower d.name); omega
      · exact hpl
    have hk:=hd.kind
    refine ex_next (st_set (layE hk M.de.kind M.mine rv)) ?_
    have M2:=M.upd (x := "lays") (e:=.bool (laysB d.kind (vals ps (Txt.lower d.name)).isEmpty))
    have fL:upd f "lays" (.bool (laysB d.kind (vals ps (Txt.lower d.name)).isEmpty)) "lays" = some (.bool (laysB d.kind (vals ps (Txt.lower d.name)).isEmpty)):=upd_same _ _ _
    generalize upd f "lays" (.bool (laysB d.kind (vals ps (Txt.lower d.name)).isEmpty))=f2 at M2 fL ⊢
    have es0:stepP ps d=if laysB d.kind (vals ps (Txt.lower d.name)).isEmpty && badT d.text then (msgD,ps1 ps d) else (ansP ps d,if laysB d.kind (vals ps (Txt.lower d.name)).isEmpty then ps1 ps d ++ [(d.name,if d.kind=4 then txt4 d.text else d.text)] else ps1 ps d):=rfl
    generalize laysB d.kind (vals ps (Txt.lower d.name)).isEmpty=L at fL es0
    have inE:=in_tup (σ:=τ) (s:=tailT d.text) (xs:=six) (short_asc ht.short) six_asc
    rw [ht.tail] at inE
    have tl:=short_le ht.short
    have cE:∀ b,L=true→badT d.text=b→Mo.ands [Mo.tru (Mo.var "lays"),Mo.tru (Mo.op2 opIn (Mo.bind (Mo.var "text") fun da=>Mo.bind (Mo.part (some (Mo.pure (.int 1)))) fun pl=>Mo.bind (Mo.part none) fun ph _ σ=>match da with
      | .str x=>if (sliceS x pl ph).length ≤ sizeLine then some (Out.val (D.str (sliceS x pl ph)),σ) else none
      | _=>none) (Mo.tup [Mo.pure (.str "\n"),Mo.pure (.str "\x00"),Mo.pure (.str "\x08"),Mo.pure (.str "\x0b"),Mo.pure (.str "\x1f"),Mo.pure (.str "\x7f")]))] f2 τ=some (.val b,τ):=fun b hL hb=>by
      rw [hL] at fL
      rw [hb] at inE
      refine ev_acons (b:=true) (ev_tru (ev_var fL) rfl) (ev_acons (b:=b) (ev_tru (ev_op2 (slc1 (ev_var M2.de.text) (by omega)) (ev_tup (ev_scons ev_mpure (ev_scons ev_mpure (ev_scons ev_mpure (ev_scons ev_mpure (ev_scons ev_mpure (ev_scons ev_mpure rfl)))))) ev_l6) inE) rfl) ?_)
      cases b <;> rfl
    cases hb:L && badT d.text with
    | true =>
      have hb2:=Bool.and_eq_true_iff.mp hb
      rw [hb,if_pos rfl] at es0
      rw [es0]
      refine xAA (told_app (o:=msgD) M2.pl (by omega)) fun a1 a2 a3=>?_
      exact ex_cont (st_ifT (cE true hb2.1 hb2.2) (seq_next (st_expr (ev_met1 (ev_var M2.pl.nam) a1 ev_mpure (ev_one2 a2))) (seq_cont rfl))) ⟨.inr rfl,a3⟩
    | false =>
      rw [hb,if_neg Bool.false_ne_true] at es0
      rw [es0]
      refine ex_next (fr1:=f2) (σ1:=τ) ?_ ?_
      · cases hL:L with
        | true=>exact st_ifF (cE false hL (by rw [hL] at hb; exact hb)) rfl
        | false =>
          rw [hL] at fL
          exact st_ifF (ev_acons (b:=false) (ev_tru (ev_var fL) rfl) rfl) rfl
      refine ex_next (st_set (marks_at M2.de.text ot)) ?_
      have M3:=M2.upd (x := "marks") (e:=.str (marksT d.text))
      have fM:upd f2 "marks" (.str (marksT d.text)) "marks" = some (.str (marksT d.text)):=upd_same _ _ _
      have fL3:upd f2 "marks" (.str (marksT d.text)) "lays" = some (.bool L):=(upd_diff (by decide)).trans fL
      generalize upd f2 "marks" (.str (marksT d.text))=f3 at M3 fM fL3 ⊢
      refine ex_mid (fun f σ=>MidFr f σ (if L then ps1 ps d ++ [(d.name,if d.kind=4 then txt4 d.text else d.text)] else ps1 ps d) told d (vals ps (Txt.lower d.name))) ?_ fun f4 τ4 M4=>?_
      · cases hL:L with
        | true =>
          rw [hL] at fL3
          refine xEAAA (pairs_app (a:=d.name) (b:=if d.kind=4 then txt4 d.text else d.text) M3.pl hp1) fun j j1 j2 j3 j4=>?_
          exact ⟨f3,_,st_ifT (ev_tru (ev_var fL3) rfl) (seq_next (st_expr (ev_met1 (ev_var j1) j2 (ev_tup (ev_scons (ev_var M3.de.name) (ev_scons (laid_at M3.de.kind M3.de.text fM ht) rfl)) ev_l2) (ev_one2 j3))) rfl),j4,M3.de,M3.mine⟩
        | false =>
          rw [hL] at fL3
          exact ⟨f3,τ,st_ifF (ev_tru (ev_var fL3) rfl) rfl,M3⟩
      · refine xAA (told_app (o:=ansP ps d) M4.pl (by omega)) fun a1 a2 a3=>?_
        have i25:=in25 hk τ4
        have tp:Mo.tup [Mo.pure (.int 2),Mo.pure (.int 5)] f4 τ4=some (.val (.tup [.int 2,.int 5]),τ4):=ev_tup (ev_scons ev_mpure (ev_scons ev_mpure rfl)) ev_l2
        refine ex_end (fr1:=f4) ?_ ⟨.inl rfl,a3⟩
        by_cases q:d.kind=2∨d.kind=5
        · rw [decide_eq_true q] at i25
          have e5:=ans25_at (σ:=τ4) M4.de.kind M4.de.text M4.mine rv
          have e6:ansP ps d=hd0 (vals ps (Txt.lower d.name)) (if d.kind=5 then .str "none" else .str d.text):=if_pos q
          rw [← e6] at e5
          exact st_ifT (ev_tru (ev_op2 (ev_var M4.de.kind) tp i25) rfl) (seq_next (st_expr (ev_met1 (ev_var M4.pl.nam) a1 e5 (ev_one2 a2))) rfl)
        · rw [decide_eq_false q] at i25
          have e5:=ansN_at (σ:=τ4) M4.de.kind M4.mine rv
          have e6:ansP ps d=if d.kind=6 then .lst (vals ps (Txt.lower d.name)) else if d.kind=7 then .bool (!(vals ps (Txt.lower d.name)).isEmpty) else doneD:=if_neg q
          rw [← e6] at e5
          exact st_ifF (ev_tru (ev_op2 (ev_var M4.de.kind) tp i25) rfl) (seq_next (st_expr (ev_met1 (ev_var M4.pl.nam) a1 e5 (ev_one2 a2))) rfl)
end
end
section
section
/-- a loop whose turns all go on, by their end or by continue -/
theorem each_runC {P:List AO→Prop} {tgt:D→Mf Unit} {body:Mf SF} (J:Nat→Fr→List AO→Prop) {ds:List D} (hP:∀ i fr σ,J i fr σ→P σ)
    (step:∀ i d fr σ,ds[i]? = some d→J i fr σ→∃ r fr' σ',turn tgt body d fr σ=some (.val r,fr',σ')∧(r = .next∨r = .cont)∧J (i + 1) fr' σ') {fr:Fr} {σ:List AO} (h0:J 0 fr σ) :
    ∃ fr' σ',Mf.each P tgt body ds fr σ=some (.val .next,fr',σ')∧J ds.length fr' σ':=by
  have key:∀ (es:List D) (i:Nat) fr σ,(∀ k,es[k]? = ds[i + k]?)→J i fr σ→∃ fr' σ',Mf.each P tgt body es fr σ=some (.val .next,fr',σ')∧J (i + es.length) fr' σ':=by
    intro es
    induction es with
    | nil=>intro i fr σ _ hJ; exact ⟨fr,σ,each_nil (hP _ _ _ hJ),hJ⟩
    | cons d es ih =>
      intro i fr σ he hJ
      refine xEEE (step i d fr σ (by have:=he 0; simpa using this.symm) hJ) fun r fr1 σ1 e=>?_
      refine xAA e fun e1 er h1=>?_
      (refine xEEA (ih (i + 1) fr1 σ1 (fun k=>by have:=he (k + 1); rw [show i + 1 + k=i + (k + 1) by omega]; simpa using this) h1) fun fr2 σ2 e2 h2=>?_)
      refine ⟨fr2,σ2,?_,by rw [List.length_cons,show i + (es.length + 1)=i + 1 + es.length by omega]; exact h2⟩
      rw [each_cons (hP _ _ _ hJ) e1]
      rcases er with q | q <;> subst q <;> exact e2
  (refine xEEA (key ds 0 fr σ (fun k=>by rw [Nat.zero_add]) h0) fun fr' σ' e hJ=>?_)
  exact ⟨fr',σ',e,by rw [Nat.zero_add] at hJ; exact hJ⟩
theorem fe_forC {m:Mo Src} {x:Src} {tgt:D→Mf Unit} {body k:Mf SF} {fr:Fr} {σ σ1:List AO} {o:Out D} (J:Nat→Fr→List AO→Prop) (hm:m fr σ=some (.val x,σ1)) (hP:∀ i fr σ,J i fr σ→x.P σ) (h0:J 0 fr σ1)
    (step:∀ i d fr σ,x.ds[i]? = some d→J i fr σ→∃ r fr' σ',turn tgt body d fr σ=some (.val r,fr',σ')∧(r = .next∨r = .cont)∧J (i + 1) fr' σ') (h:∀ fr' σ',J x.ds.length fr' σ'→∃ τ,Mf.fn k fr' σ'=some (o,τ)) :
    ∃ τ,Mf.fn (Mf.seq (Mf.bind (Mf.lift m) fun x=>Mf.each x.P tgt body x.ds) k) fr σ=some (o,τ):=by
  refine xEEA (each_runC (tgt:=tgt) (body:=body) J hP step h0) fun fr' σ' e hJ=>?_
  exact fe_next (st_for hm e) (h fr' σ' hJ)
noncomputable def dpOk (d:Deed):Bool:=deedOk d && plOk d.text
noncomputable def sPlain:Fm:=on1 dLst fun fs σ=>(pick fun ds:List Deed=>fs=ds.map dD∧ds.length ≤ 20∧ds.all dpOk=true).map fun ds=>(.val (runD [] ds),σ)
theorem plain_at {σ:List AO} {ds:List Deed} (h3:ds.length ≤ 20) (h4:ds.all dpOk=true):sPlain [.lst (ds.map dD)] [] σ=some (.val (runD [] ds),σ):=by
  refine (on1_mk (p:=dLst) rfl).trans ?_
  rw [pick_mk (a:=ds) ⟨rfl,h3,h4⟩ fun b hb=>(dDs_inj hb.1).symm]; rfl
end
section
variable {G:Amb} (h:G.K=K1 G.w.params)
include h
theorem plainB:∃ m,Exs G true 9 (scopeAt (K1 G.w.params) 189) (bodyAt (K1 G.w.params) 189) m∧∀ fr (deeds:List Deed),fr "deeds" = some (.lst (deeds.map dD))→deeds.length ≤ 20→(∀ d ∈ deeds,dpOk d=true) →
      ∃ τ,Mf.fn m fr []=some (.val (runD [] deeds),τ):=by
  refine xEA (plainTurn h) fun mT hT hTurn=>?_
  refine ⟨_,(Exs.cons (Ex.swap2 (t1:=(.Constant .none 0 ⟨0,0,0,0⟩)) (t2:=(.Constant .none 0 ⟨0,0,0,0⟩)) (Ev.tup (ms:=[_,_]) ⟨(Ev.lstR (ms:=[]) trivial rfl),(Ev.lstR (ms:=[]) trivial rfl),trivial⟩ rfl) (Or.inl rfl) (Or.inl rfl) (sw_of fun env=>⟨by kernel_rfl,by kernel_rfl⟩))
    (Exs.cons (Ex.for (Itr.ev (Ev.loc rfl rfl))
      (As.tup (fs:=[_,_,_]) ⟨(As.name (Or.inl rfl)),(As.name (Or.inr rfl)),(As.name (Or.inl rfl)),trivial⟩ rfl)
      hT)
    (Exs.cons (Ex.ret (Ev.tup (ms:=[_,_]) ⟨(Ev.frz (Ev.loc rfl rfl)),(Ev.frz (Ev.loc rfl rfl)),trivial⟩ rfl))
    Exs.nil))),?_⟩
  intro fr deeds f2 hd hk
  have ok:∀ d ∈ deeds,DeedOk d∧PlOk d.text:=fun d hm=>by
    have:=Bool.and_eq_true_iff.mp (hk d hm)
    exact ⟨deedOk_ok this.1,plOk_ok this.2⟩
  have tb0:TbOk [] 0:=⟨Nat.le_refl _,fun p hm=>by cases hm⟩
  have tbi:∀ i,TbOk (runR [] (deeds.take i)).2 900:=fun i=>by
    have:=runR_ok tb0 (ds:=deeds.take i) fun d hm=>(ok d (List.mem_of_mem_take hm)).1
    exact ⟨Nat.le_trans this.len (by rw [List.length_take]; omega),this.row⟩
  have l3:Mo.lstR [] fr ([] ++ [.lst []])=some (.val (.ref 1),[.lst [],.lst []]):=ev_lstR (σ1:=[] ++ [.lst []]) (ds:=[]) rfl ev_l0
  have l2:Mo.lstR [] fr []=some (.val (.ref 0),[] ++ [.lst []]):=ev_lstR (σ1:=[]) (ds:=[]) rfl ev_l0
  refine fe_next (fr1:=upd (upd fr "told" (.ref 1)) "pairs" (.ref 0)) (σ1:=[.lst [],.lst []]) (st_swap2 (ev_tup (ev_scons l2 (ev_scons l3 rfl)) ev_l2)) ?_
  refine fe_forC (x:=⟨deeds.map dD,fun _=>True⟩) (fun i fr σ=>PlFr fr σ (runR [] (deeds.take i)).2 (runR [] (deeds.take i)).1) (ev_src (ev_var (by dsimp! only [])) src_lst) (fun _ _ _ _=>trivial) ⟨⟨0,upd_same _ _ _,rfl,by decide⟩,by dsimp! only [],rfl⟩ (fun i d fr σ hd' F=>?_) fun fr' σ' F=>?_
  · rw [List.getElem?_map] at hd'
    refine xEA (Option.map_eq_some_iff.mp hd') fun de hde e=>?_
    subst e
    have hm:=List.mem_of_getElem? hde
    have hl:(runR [] (deeds.take i)).1.length ≤ 900:=by rw [runR_len,List.length_take]; omega
    refine xEEE (hTurn (upd (upd (upd fr "kind" (.int de.kind)) "name" (.str de.name)) "text" (.str de.text)) σ _ _ de (((F.upd rfl rfl).upd rfl rfl).upd rfl rfl) ⟨by dsimp! only [],by dsimp! only [],by dsimp! only []⟩ (tbi i) hl (ok de hm).1 (ok de hm).2) fun r fr2 σ2 e=>?_
    refine xAA e fun e1 e2 e3=>?_
    refine ⟨r,fr2,σ2,ev_turn ev_tgt3 e1,e2,?_⟩
    rw [take_snoc hde,runR_snoc,← stepP_eq _ _ (ok de hm).1.kind]
    exact e3
  · have F:PlFr fr' σ' (runR [] deeds).2 (runR [] deeds).1:=by
      have e:deeds.take (deeds.map dD).length=deeds:=by rw [List.length_map,List.take_length]
      have:=F
      rwa [e] at this
    refine xEAA F.pairs fun k p1 p2 p3=>?_
    exact fe_ret (st_ret (ev_tup (ev_scons (ev_frz (ev_var F.nam) F.at1) (ev_scons (ev_frz (ev_var p1) ((List.getElem?_set_ne fun q=>p3 q.symm).trans p2)) rfl)) ev_l2))
theorem f_plain:Fn G true 10 189 sPlain:=by
  refine xEA (plainB h) fun m hm hs=>?_
  refine Fn.alone (Fn.at h (ok_189 _) (Bnd.plan (k:=1) (ks:=[]) (pl:=[("deeds", .pos 0)]) (by exact ⟨trivial,trivial⟩) ?_) ?_ hm) ?_
  · intro S vs kw hv hk
    refine Eq.trans (congrArg (fun K=>peek K S _) h) ?_
    (refine xE (len1 hv) fun v0 q0z=>?_; subst q0z)
    obtain rfl:=kw0 hk
    kernel_rfl
  · exact bfOf_all (by kernel_rfl)
  · intro ds kd σ r hr
    refine xE (on1_inv dLst_eq hr) fun fs e=>?_
    refine xAA e fun e1 e2 hr=>?_
    subst e1
    subst e2
    refine xEA (Option.map_eq_some_iff.mp hr) fun q hq er=>?_
    have hq:=pick_ok hq
    refine xAA (show _∧_∧_ from hq) fun h2 h3 h4=>?_
    subst h2
    refine xE (hs (upd (fun _=>none) "deeds" (.lst (q.map dD))) q (by dsimp! only []) h3 fun d hd=>List.all_eq_true.mp h4 d hd) fun τ e5=>?_
    exact ⟨_,τ,er.symm,rfl,show refsL noRef _∧True from ⟨dD_refs _,trivial⟩,show refsL noRef _∧refsL noRef _∧True from ⟨run_refs _ _,pD_refs _,trivial⟩,e5⟩
end
end
section
section
noncomputable def nmL:List PySem.Str:=["a", "b", "ab", "A", "B", "aB", "Ab", "AB", "z", "Z"]
noncomputable def numS (i:Nat):PySem.Str:=PySem.Str.ofString (toString (i:Int))
noncomputable def ctlS:PySem.Str := "\n\x00\x08\x0b\x1f\x7f"
noncomputable def txL (i:Nat):List PySem.Str:=[numS i, "", "x" ++ ⟨#[ctlS.cps.toList.getD (i % 6) 0]⟩, "x\t\"\\"]
/-- the call of a turn, by its number -/
noncomputable def deedN (i x:Nat):Deed:=⟨x % 8,nmL.getD (x / 8 % 8) "", (txL i).getD (x / 64 % 4) ""⟩
noncomputable def drawnN (i x:Nat):Tb:=if i < 5∧x / 256 % 12 < 10 then [(nmL.getD (x / 256 % 12) "", if x / 256 % 2=0 then "t" ++ numS i else "")] else []
noncomputable def SE (ds:List Deed) (dr:Tb):List AO:=[.lst (ds.map dD),.lst (dr.map pD)]
structure EnFr (fr:Fr):Prop where
  names:fr "names" = some (.lst (nmL.map .str))
  deeds:fr "deeds" = some (.ref 0)
  drawn:fr "drawn" = some (.ref 1)
theorem app_d {ds:List Deed} {dr:Tb} {d:Deed} (h:ds.length ≤ 900):fAppend (.ref 0) (dD d) (SE ds dr)=some (.val .none,SE (ds ++ [d]) dr):=by
  have:=app_ref (σ:=SE ds dr) (k:=0) (ds:=ds.map dD) (d:=dD d) rfl (by rw [List.length_map]; omega)
  rw [this]
  unfold SE
  rw [List.map_append]; rfl
theorem app_r {ds:List Deed} {dr:Tb} {p:PySem.Str × PySem.Str} (h:dr.length ≤ 900):fAppend (.ref 1) (pD p) (SE ds dr)=some (.val .none,SE ds (dr ++ [p])):=by
  have:=app_ref (σ:=SE ds dr) (k:=1) (ds:=dr.map pD) (d:=pD p) rfl (by rw [List.length_map]; omega)
  rw [this]
  unfold SE
  rw [List.map_append]; rfl
theorem int_fdiv (a b:Nat):(a:Int).fdiv b=((a / b:Nat):Int):=by
  rw [Int.fdiv_eq_ediv_of_nonneg _ (Int.natCast_nonneg b)]; exact (Int.natCast_ediv a b).symm
theorem int_fmod (a b:Nat):(a:Int).fmod b=((a % b:Nat):Int):=by
  rw [Int.fmod_eq_emod_of_nonneg _ (Int.natCast_nonneg b)]; exact (Int.natCast_emod a b).symm
theorem div_at {m k:Mo D} {fr:Fr} {σ:List AO} {a:Nat} (b:Nat) (hb:b ≠ 0∧b < 1073741824) (h:m fr σ=some (.val (.int a),σ)) (h2:k fr σ=some (.val (.int b),σ)):Mo.op2 (fun a b σ=>(fDiv a b).map fun d=>(Out.val d,σ)) m k fr σ=some (.val (.int (a / b:Nat)),σ):=ev_op2 h h2 (ev_omap ((if_pos ⟨by omega,by omega⟩).trans (by rw [int_fdiv])))
theorem mod_at {m k:Mo D} {fr:Fr} {σ:List AO} {a:Nat} (b:Nat) (hb:b ≠ 0) (h:m fr σ=some (.val (.int a),σ)) (h2:k fr σ=some (.val (.int b),σ)):Mo.op2 (fun a b σ=>(fMod a b).map fun d=>(Out.val d,σ)) m k fr σ=some (.val (.int (a % b:Nat)),σ):=ev_op2 h h2 (ev_omap ((if_pos (by omega)).trans (by rw [int_fmod])))
theorem idx_at {mo mi:Mo D} {fr:Fr} {σ:List AO} {ds:List D} {i:Nat} {d:D} (h:mo fr σ=some (.val (.lst ds),σ)) (h2:mi fr σ=some (.val (.int i),σ)) (hi:i ≤ 1000000) (hd:ds[i]? = some d):Mo.bind mo (fun a=>Mo.bind mi fun b _ σ=>if isSub a σ then (fIdx σ a b).map fun d=>(Out.val d,σ) else none) fr σ=some (.val d,σ):=ev_sub h h2 rfl ((fIdx_lst _ _ _ hi).trans hd)
theorem idx_tup {mo mi:Mo D} {fr:Fr} {σ:List AO} {ds:List D} {i:Nat} {d:D} (h:mo fr σ=some (.val (.tup ds),σ)) (h2:mi fr σ=some (.val (.int i),σ)) (hi:i ≤ 1000000) (hd:ds[i]? = some d):Mo.bind mo (fun a=>Mo.bind mi fun b _ σ=>if isSub a σ then (fIdx σ a b).map fun d=>(Out.val d,σ) else none) fr σ=some (.val d,σ):=ev_sub h h2 rfl ((fIdx_tup _ _ _ hi).trans hd)
theorem log_le:∀ i:Nat,i < 12→Nat.log2 i ≤ 4:=by decide +kernel
theorem numS_len:∀ i:Nat,i < 5→(numS i).length ≤ 2:=by decide +kernel
theorem ctl_at {σ:List AO} (j:Nat) (hj:j < 6):fIdx σ (.str "\n\x00\x08\x0b\x1f\x7f") (.int (j:Nat))=some (.str ⟨#[ctlS.cps.toList.getD j 0]⟩) :=
  lt6 (P:=fun j=>fIdx σ (.str "\n\x00\x08\x0b\x1f\x7f") (.int (j:Nat))=some (.str ⟨#[ctlS.cps.toList.getD j 0]⟩)) (by kernel_rfl) (by kernel_rfl) (by kernel_rfl) (by kernel_rfl) (by kernel_rfl) (by kernel_rfl) j hj
theorem dec5 (i:Nat):decide ((i:Int) < 5)=decide (i < 5):=by
  by_cases q:i < 5
  · rw [decide_eq_true q,decide_eq_true (by omega)]
  · rw [decide_eq_false q,decide_eq_false (by omega)]
theorem dec10 (y:Nat):decide ((y:Int) < 10)=decide (y < 10):=by
  by_cases q:y < 10
  · rw [decide_eq_true q,decide_eq_true (by omega)]
  · rw [decide_eq_false q,decide_eq_false (by omega)]
theorem getS {l:List PySem.Str} {i:Nat} (h:i < l.length):(l.map D.str)[i]? = some (.str (l.getD i "")):=by
  rw [List.getElem?_map,List.getElem?_eq_getElem h,List.getD_eq_getElem?_getD,List.getElem?_eq_getElem h]; rfl
end
section
variable {G:Amb} (h:G.K=K1 G.w.params) (hlo:1 ≤ G.lo)
include h hlo
theorem enumTurn:∃ m,Exs G true 12 (scopeAt (K1 G.w.params) 194) (forB (bodyAt (K1 G.w.params) 194) 4) m∧∀ fr (i x:Nat) ds dr,EnFr fr→fr "turn" = some (.int i)→fr "x" = some (.int x)→i < 12→ds.length ≤ 100→dr.length ≤ 100 →
      m fr (SE ds dr)=some (.val .next,fr,SE (ds ++ [deedN i x]) (dr ++ drawnN i x)):=by
  refine ⟨_,(Exs.cons (Ex.expr (Ev.methL F.slot_list_append F.type_list_append (Ev.loc rfl rfl) (ms:=[_]) (mk:=[]) ⟨(Ev.tup (ms:=[_,_,_]) ⟨(Ev.bin (Ev.loc rfl rfl) Ev.kInt Op2.mod),(Ev.sub (Ev.loc rfl rfl) (Ev.bin (Ev.bin (Ev.loc rfl rfl) Ev.kInt Op2.fdiv) Ev.kInt Op2.mod) Op2.idx rfl),(Ev.sub (Ev.lst (ms:=[_,_,_,_]) ⟨(Ev.call (g_str h rfl) (ms:=[_]) (mk:=[]) ⟨(Ev.loc rfl rfl),trivial⟩ trivial Kep.typ (Ca.str (by omega))),(Ev.kStr (by decide +kernel)),(Ev.bin (Ev.kStr (by decide +kernel)) (Ev.sub (Ev.kStr (by decide +kernel)) (Ev.bin (Ev.loc rfl rfl) Ev.kInt Op2.mod) Op2.idx rfl) Op2.add),(Ev.kStr (by decide +kernel)),trivial⟩ rfl) (Ev.bin (Ev.bin (Ev.loc rfl rfl) Ev.kInt Op2.fdiv) Ev.kInt Op2.mod) Op2.idx rfl),trivial⟩ rfl),trivial⟩ trivial Ca.append))
      (Exs.cons (Ex.ite (Cd.and (ms:=[_,_]) ⟨(Cd.cmp (Ev.loc rfl rfl) Ev.kInt (Op2.lt)),(Cd.cmp (Ev.bin (Ev.bin (Ev.loc rfl rfl) Ev.kInt Op2.fdiv) Ev.kInt Op2.mod) Ev.kInt (Op2.lt)),trivial⟩)
        (Exs.cons (Ex.expr (Ev.methL F.slot_list_append F.type_list_append (Ev.loc rfl rfl) (ms:=[_]) (mk:=[]) ⟨(Ev.tup (ms:=[_,_]) ⟨(Ev.sub (Ev.loc rfl rfl) (Ev.bin (Ev.bin (Ev.loc rfl rfl) Ev.kInt Op2.fdiv) Ev.kInt Op2.mod) Op2.idx rfl),(Ev.ite (Cd.val (Ev.bin (Ev.bin (Ev.loc rfl rfl) Ev.kInt Op2.fdiv) Ev.kInt Op2.mod)) (Ev.kStr (by decide +kernel)) (Ev.bin (Ev.kStr (by decide +kernel)) (Ev.call (g_str h rfl) (ms:=[_]) (mk:=[]) ⟨(Ev.loc rfl rfl),trivial⟩ trivial Kep.typ (Ca.str (by omega))) Op2.add)),trivial⟩ rfl),trivial⟩ trivial Ca.append))
        Exs.nil)
        Exs.nil)
      Exs.nil)),?_⟩
  intro fr i x ds dr F f1 f2 hi hd hr
  have hz:sizeLine=16777216:=rfl
  have xm:∀ b:Nat,b ≠ 0∧b < 1073741824→∀ c:Nat,c ≠ 0→Mo.op2 (fun a b σ=>(fMod a b).map fun d=>(Out.val d,σ)) (Mo.op2 (fun a b σ=>(fDiv a b).map fun d=>(Out.val d,σ)) (Mo.var "x") (Mo.pure (.int b))) (Mo.pure (.int c)) fr (SE ds dr)=some (.val (.int (x / b % c:Nat)),SE ds dr):=fun b hb c hc=>mod_at c hc (div_at b hb (ev_var f2) ev_mpure) ev_mpure
  have sN:∀ σ,fStr (.int (i:Int)) σ=some (.val (.str (numS i)),σ):=fun σ=>by
    unfold fStr
    exact if_pos (by
      have:((i:Int)).natAbs=i:=Int.natAbs_natCast i
      rw [this]
      have:=log_le i hi
      omega)
  have cI:fIdx (SE ds dr) (.str "\n\x00\x08\x0b\x1f\x7f") (.int (i % 6:Nat))=some (.str ⟨#[ctlS.cps.toList.getD (i % 6) 0]⟩):=by
    exact ctl_at _ (Nat.mod_lt _ (by decide))
  refine seq_next (fr1:=fr) (σ1:=SE (ds ++ [deedN i x]) dr) (st_expr (ev_met1 (d1:=dD (deedN i x)) (ev_var F.deeds) rfl ?_ (ev_one2 (app_d (by omega))))) ?_
  · refine ev_tup (ev_scons (mod_at 8 (by decide) (ev_var f2) ev_mpure) (ev_scons (idx_at (ev_var F.names) (xm 8 (by decide) 8 (by decide)) ?_ (getS ?_)) (ev_scons (idx_at (ds:=(txL i).map .str) (ev_lst ?_ ev_l4) (xm 64 (by decide) 4 (by decide)) ?_ (getS ?_)) rfl))) ev_l3
    · have:=Nat.mod_lt (x / 8) (show 0 < 8 by decide); omega
    · have:=Nat.mod_lt (x / 8) (show 0 < 8 by decide)
      show _ < 10
      omega
    · refine ev_scons (ev_call1 (ev_var f1) (ev_one1 (sN _))) (ev_scons ev_mpure (ev_scons ?_ (ev_scons ev_mpure rfl)))
      refine add_str (a:=.none) (b:=.none) ev_mpure (ev_sub ev_mpure (mod_at 6 (by decide) (ev_var f1) ev_mpure) rfl cI) ?_
      show (PySem.Str.ofString "x").length + 1 ≤ _
      have:(PySem.Str.ofString "x").length=1:=by decide +kernel
      omega
    · have:=Nat.mod_lt (x / 64) (show 0 < 4 by decide); omega
    · exact Nat.mod_lt _ (by decide)
  · have l1:=dec5 i
    have l2:=dec10 (x / 256 % 12)
    have e1:fLt (.int (i:Int)) (.int 5)=some (.bool (decide (i < 5))):=by rw [lt_int,l1]
    have e2:fLt (.int ((x / 256 % 12:Nat):Int)) (.int 10)=some (.bool (decide (x / 256 % 12 < 10))):=by rw [lt_int,l2]
    have xm:∀ b:Nat,b ≠ 0∧b < 1073741824→∀ c:Nat,c ≠ 0→Mo.op2 (fun a b σ=>(fMod a b).map fun d=>(Out.val d,σ)) (Mo.op2 (fun a b σ=>(fDiv a b).map fun d=>(Out.val d,σ)) (Mo.var "x") (Mo.pure (.int b))) (Mo.pure (.int c)) fr (SE (ds ++ [deedN i x]) dr)=some (.val (.int (x / b % c:Nat)),SE (ds ++ [deedN i x]) dr):=fun b hb c hc=>mod_at c hc (div_at b hb (ev_var f2) ev_mpure) ev_mpure
    unfold drawnN
    by_cases q1:i < 5
    · rw [decide_eq_true q1] at e1
      by_cases q2:x / 256 % 12 < 10
      · rw [decide_eq_true q2] at e2
        rw [if_pos ⟨q1,q2⟩]
        refine seq_next (st_ifT (ev_acons (b:=true) (ev_tru (ev_op2 (ev_var f1) ev_mpure (ev_omap e1)) rfl) (ev_acons (b:=true) (ev_tru (ev_op2 (xm 256 (by decide) 12 (by decide)) ev_mpure (ev_omap e2)) rfl) rfl)) (seq_next (st_expr (ev_met1 (ev_var F.drawn) rfl (ev_tup (ev_scons (idx_at (ev_var F.names) (xm 256 (by decide) 12 (by decide)) (by omega) (getS (by show _ < 10; exact q2))) (ev_scons (d:=.str (if x / 256 % 2=0 then "t" ++ numS i else "")) ?_ rfl)) ev_l2) (ev_one2 (app_r (p:=(_,_)) (by omega))))) rfl)) rfl
        by_cases q3:x / 256 % 2=0
        · rw [if_pos q3]
          refine ev_ite (t:=false) (ev_tru (xm 256 (by decide) 2 (by decide)) (by rw [q3]; rfl)) (add_str (a:=.none) (b:=.none) ev_mpure (ev_call1 (ev_var f1) (ev_one1 (sN _))) ?_)
          have:(PySem.Str.ofString "t").length=1:=by decide +kernel
          have:=numS_len i q1
          omega
        · rw [if_neg q3]
          refine ev_ite (t:=true) (ev_tru (xm 256 (by decide) 2 (by decide)) ?_) rfl
          rw [truD_int,decide_eq_true]
          omega
      · rw [decide_eq_false q2] at e2
        rw [if_neg fun q=>q2 q.2,List.append_nil]
        exact seq_next (st_ifF (ev_acons (b:=true) (ev_tru (ev_op2 (ev_var f1) ev_mpure (ev_omap e1)) rfl) (ev_acons (b:=false) (ev_tru (ev_op2 (xm 256 (by decide) 12 (by decide)) ev_mpure (ev_omap e2)) rfl) rfl)) rfl) rfl
    · rw [decide_eq_false q1] at e1
      rw [if_neg fun q=>q1 q.1,List.append_nil]
      exact seq_next (st_ifF (ev_acons (b:=false) (ev_tru (ev_op2 (ev_var f1) ev_mpure (ev_omap e1)) rfl) rfl) rfl) rfl
end
end
section
section
/-- a text, a bool or a list of texts -/
inductive Flat:D→Prop
  | str {x:PySem.Str} (h:shortS x=true):Flat (.str x)
  | bool (b:Bool):Flat (.bool b)
  | lst {ys:List PySem.Str} (h:∀ y ∈ ys,shortS y=true) (hl:ys.length ≤ 900):Flat (.lst (ys.map .str))
noncomputable def isOld (o:PySem.Str):D→Bool
  | .str x=>x == o
  | _=>false
theorem eqOld {f:D} {o:PySem.Str} {σ:List AO} (h:Flat f) (ho:shortS o=true):opEq f (.str o) σ=some (.val (.bool (isOld o f)),σ):=by
  cases h with
  | str hx=>exact opEq_str σ hx ho
  | bool b =>
    unfold opEq
    rw [(Rd.bool b).at (by decide),(Rd.str ho).at (by decide)]; rfl
  | lst h hl =>
    unfold opEq
    rw [(Rds.map (m:=0) (f:=D.str) (g:=PyData.str) fun x hx=>.str (h x hx)).lst.at (by decide),(Rd.str ho).at (by decide)]; rfl
noncomputable def oldS (x:PySem.Str):PySem.Str:=PySem.Str.ofString "old " ++ x
noncomputable def itemsD:D→List D
  | .lst ds=>ds
  | _=>[]
/-- what the law expects to be told -/
noncomputable def tellK (vs:List D) (kind:Nat) (e f:D) (o:PySem.Str):D:=if vs.isEmpty then e else if isOld o f then hd0 vs .none else if kind=6 then .lst ((if (itemsD f).any (isOld o) then vs else []) ++ (itemsD f).filter fun d=>!(isOld o d)) else f
structure ToFr (fr:Fr) (ds:List Deed) (dr:Tb) (eT fT:List D) (eP fP it:D):Prop where
  items:fr "items" = some it
  deeds:fr "deeds" = some (.lst (ds.map dD))
  drawn:fr "drawn" = some (.lst (dr.map pD))
  empty:fr "empty" = some (.tup [.lst eT,eP])
  full:fr "full" = some (.tup [.lst fT,fP])
  told:fr "told" = some (.ref 2)
theorem ToFr.upd {fr:Fr} {ds:List Deed} {dr:Tb} {eT fT:List D} {eP fP it:D} {x:String} {e:D} (h:ToFr fr ds dr eT fT eP fP it) (h1:("deeds" == x)=false:=by rfl) (h2:("drawn" == x)=false:=by rfl) (h3:("empty" == x)=false:=by rfl) (h4:("full" == x)=false:=by rfl) (h5:("told" == x)=false:=by rfl) (h6:("items" == x)=false:=by rfl):ToFr (upd fr x e) ds dr eT fT eP fP it:=⟨(upd_diff h6).trans h.items,(upd_diff h1).trans h.deeds,(upd_diff h2).trans h.drawn,(upd_diff h3).trans h.empty,(upd_diff h4).trans h.full,(upd_diff h5).trans h.told⟩
noncomputable def SD (told:List D):List AO:=[.dead,.dead,.lst told]
theorem app_t {told:List D} {d:D} (h:told.length ≤ 900):fAppend (.ref 2) d (SD told)=some (.val .none,SD (told ++ [d])):=app_ref (σ:=SD told) (k:=2) rfl (by omega)
theorem old_len {x:PySem.Str} (h:shortS x=true) (hx:x.length ≤ 100):shortS (oldS x)=true:=by
  have h2:∀ c ∈ (PySem.Str.ofString "old ").cps.toList,c < 128:=by decide +kernel
  have q1:(PySem.Str.ofString "old ").length=4:=by decide +kernel
  exact short_of (by unfold oldS; rw [Str.length_append,q1]; omega) (asc_append h2 (short_asc h))
theorem old_at {fr:Fr} {σ:List AO} {x:PySem.Str} (f:fr "name" = some (.str x)) (hx:x.length ≤ 100):Mo.op2 (fun a b σ=>(fAdd a b).map fun d=>(Out.val d,σ)) (Mo.pure (.str "old ")) (Mo.var "name") fr σ=some (.val (.str (oldS x)),σ):=by
  have hz:sizeLine=16777216:=rfl
  have q1:(PySem.Str.ofString "old ").length=4:=by decide +kernel
  exact add_str (a:=.none) (b:=.none) ev_mpure (ev_var f) (by rw [q1]; omega)
theorem low_len {x:PySem.Str} (h:shortS x=true):(Txt.lower x).length=x.length:=by
  rw [lower_short h]
  show (x.cps.map lo1).size=x.cps.size
  rw [Array.size_map]
theorem ex_seqn {m k:Mf SF} {fr fr1:Fr} {σ σ1 σ2:List AO} {Q:Fr→Prop} (e:m fr σ=some (.val .next,fr1,σ1)) (h:∃ fr',Q fr'∧k fr1 σ1=some (.val .next,fr',σ2)):∃ fr',Q fr'∧Mf.seq m k fr σ=some (.val .next,fr',σ2):=h.imp fun _ h=>⟨h.1,seq_next e h.2⟩
theorem any_old (o:PySem.Str) (ys:List PySem.Str):(ys.map D.str).any (isOld o)=ys.any (· == o):=by
  rw [List.any_map]; rfl
theorem old_eq (o:PySem.Str) (ys:List PySem.Str):((ys.map D.str).filter fun d=>!(isOld o d)).map (fun d=>d)=(ys.filter fun y=>!(y == o)).map D.str:=by
  rw [List.map_id',List.filter_map]; rfl
theorem fil_old (o:PySem.Str) (ys:List PySem.Str):(ys.map D.str).filter (fun d=>!(isOld o d))=(ys.filter fun y=>!(y == o)).map D.str:=by
  rw [List.filter_map]; rfl
theorem addL_at {σ:List AO} {as bs:List D} (h:as.length + bs.length ≤ sizeLine):fAddL (.lst as) (.lst bs) σ=some (.val (.lst (as ++ bs)),σ):=by
  unfold fAddL
  simp only [lstOf_lst,Option.bind_some]
  rw [if_pos h]
end
section
variable {G:Amb} (h:G.K=K1 G.w.params) (hlo:1 ≤ G.lo)
include h hlo
theorem toldTurn:∃ m,Exs G true 12 (scopeAt (K1 G.w.params) 194) (forB (bodyAt (K1 G.w.params) 194) 8) m∧∀ fr ds dr eT fT eP fP it told (k:Nat) (d:Deed) (e f:D),ToFr fr ds dr eT fT eP fP it→fr "k" = some (.int k)→k ≤ 100→told.length ≤ 900→TbOk dr 900→ds[k]? = some d→okN d.name=true→d.name.length ≤ 90→eT[k]? = some e→fT[k]? = some f→Flat f→(d.kind=6→∃ ys,f = .lst ys) →
      ∃ fr',ToFr fr' ds dr eT fT eP fP it∧m fr (SD told)=some (.val .next,fr',SD (told ++ [tellK (vals dr (Txt.lower d.name)) d.kind e f (oldS (Txt.lower d.name))])):=by
  refine ⟨_,(Exs.cons (Ex.asgn (Ev.methS F.slot_str_lower F.type_str_lower (Ev.sub (Ev.sub (Ev.loc rfl rfl) (Ev.loc rfl rfl) Op2.idx rfl) Ev.kInt Op2.idx rfl) (ms:=[]) (mk:=[]) trivial trivial Ca.lower) (As.name (Or.inr rfl)) (sw_of fun env=>⟨rfl,by kernel_rfl,by kernel_rfl⟩))
      (Exs.cons (Ex.swap2 (t1:=(.Constant .none 0 ⟨0,0,0,0⟩)) (t2:=(.Constant .none 0 ⟨0,0,0,0⟩)) (Ev.tup (ms:=[_,_]) ⟨(Ev.lcF (CompL.one (W:=[]) (Ev.loc rfl rfl) (AsC.pair rfl rfl) (Ts.one (Cd.cmp (Ev.methS F.slot_str_lower F.type_str_lower (Ev.loc rfl rfl) (ms:=[]) (mk:=[]) trivial trivial Ca.lower) (Ev.cel rfl rfl) (Op2.eq (by omega)))) (Ev.loc rfl rfl) (by first | rfl | kernel_rfl))),(Ev.sub (Ev.sub (Ev.cel rfl rfl) Ev.kInt Op2.idx rfl) (Ev.loc rfl rfl) Op2.idx rfl),trivial⟩ rfl) (Or.inl rfl) (Or.inl rfl) (sw_of fun env=>⟨by kernel_rfl,by kernel_rfl⟩))
      (Exs.cons (Ex.ite (Cd.cmp (Ev.loc rfl rfl) (Ev.lst (ms:=[]) trivial rfl) (Op2.eq (by omega)))
        (Exs.cons (Ex.expr (Ev.methL F.slot_list_append F.type_list_append (Ev.loc rfl rfl) (ms:=[_]) (mk:=[]) ⟨(Ev.sub (Ev.sub (Ev.loc rfl rfl) Ev.kInt Op2.idx rfl) (Ev.loc rfl rfl) Op2.idx rfl),trivial⟩ trivial Ca.append))
        Exs.nil)
        (Exs.cons (Ex.ite (Cd.cmp (Ev.loc rfl rfl) (Ev.bin (Ev.kStr (by decide +kernel)) (Ev.cel rfl rfl) Op2.add) (Op2.eq (by omega)))
          (Exs.cons (Ex.expr (Ev.methL F.slot_list_append F.type_list_append (Ev.loc rfl rfl) (ms:=[_]) (mk:=[]) ⟨(Ev.sub (Ev.loc rfl rfl) Ev.kInt Op2.idx rfl),trivial⟩ trivial Ca.append))
          Exs.nil)
          (Exs.cons (Ex.ite (Cd.cmp (Ev.sub (Ev.sub (Ev.loc rfl rfl) (Ev.loc rfl rfl) Op2.idx rfl) Ev.kInt Op2.idx rfl) Ev.kInt (Op2.eq (by omega)))
            (Exs.cons (Ex.expr (Ev.methL F.slot_list_append F.type_list_append (Ev.loc rfl rfl) (ms:=[_]) (mk:=[]) ⟨(Ev.bin (Ev.ite (Cd.cmp (Ev.bin (Ev.kStr (by decide +kernel)) (Ev.cel rfl rfl) Op2.add) (Ev.loc rfl rfl) (Op2.in (by omega))) (Ev.loc rfl rfl) (Ev.lst (ms:=[]) trivial rfl)) (Ev.lcF (CompL.one (W:=[]) (Ev.loc rfl rfl) (AsC.name rfl) (Ts.one (Cd.cmp (Ev.loc rfl rfl) (Ev.bin (Ev.kStr (by decide +kernel)) (Ev.cel rfl rfl) Op2.add) (Op2.ne (by omega)))) (Ev.loc rfl rfl) (by first | rfl | kernel_rfl))) Op2.addL),trivial⟩ trivial Ca.append))
            Exs.nil)
            (Exs.cons (Ex.expr (Ev.methL F.slot_list_append F.type_list_append (Ev.loc rfl rfl) (ms:=[_]) (mk:=[]) ⟨(Ev.loc rfl rfl),trivial⟩ trivial Ca.append))
            Exs.nil))
          Exs.nil))
        Exs.nil))
      Exs.nil))),?_⟩
  intro fr ds dr eT fT eP fP it told k d e f F fk hk hl hr hd hn hnl he hf fl h6
  have hz:sizeLine=16777216:=rfl
  have on:=okN_ok hn
  have sl:=short_lower on.short
  have ll:(Txt.lower d.name).length ≤ 100:=by rw [low_len on.short]; omega
  have hv:=vals_len dr (Txt.lower d.name)
  have rv:=vals_rd hr (Txt.lower d.name)
  have hrl:=hr.len
  have dk:(ds.map dD)[k]? = some (dD d):=by rw [List.getElem?_map,hd]; rfl
  refine ex_seqn (st_set (ev_low (idx_tup (i:=1) (idx_at (ev_var F.deeds) (ev_var fk) (by omega) dk) ev_mpure (by decide) rfl) (shortS_le on.short))) ?_
  have F1:=F.upd (x := "name") (e:=.str (Txt.lower d.name))
  have n1:upd fr "name" (.str (Txt.lower d.name)) "name" = some (.str (Txt.lower d.name)):=upd_same _ _ _
  have k1:upd fr "name" (.str (Txt.lower d.name)) "k" = some (.int k):=(upd_diff (by decide)).trans fk
  generalize upd fr "name" (.str (Txt.lower d.name))=f1 at F1 n1 k1 ⊢
  refine ex_seqn (st_swap2 (ev_tup (ev_scons (ev_lcF (x:=⟨dr.map pD,fun _=>True⟩) (fun fr=>fr "name" = some (.str (Txt.lower d.name))) (fun e=>(pVal (Txt.lower d.name) e).isSome) sndD (ev_var F1.drawn) src_lst trivial (ev_frIn (by unfold frIn; rw [if_pos (by kernel_rfl)]) n1) (fun a ha fr hI=>?_) (mine_eq dr _) (by omega)) (ev_scons (idx_at (idx_tup (i:=0) (ev_var F1.full) ev_mpure (by decide) rfl) (ev_var k1) (by omega) hf) rfl)) ev_l2)) ?_
  · refine xEA (List.mem_map.mp ha) fun p hm e=>?_
    subst e
    have s1:=(hr.row p hm).1
    have e4:=opEq_str (SD told) (short_lower s1) sl
    have hI':upd (upd fr "other" (.str p.1)) "text" (.str p.2) "name" = some (.str (Txt.lower d.name)):=by dsimp! only []
    have g1:upd (upd fr "other" (.str p.1)) "text" (.str p.2) "other" = some (.str p.1):=by dsimp! only []
    rw [pVal_some]
    exact ⟨rfl,hI',ev_tru (ev_op2 (ev_low (ev_var g1) (shortS_le s1)) (ev_var hI') e4) rfl,fun _=>⟨_,hI',ev_emOne (d:=.str p.2) (ev_var (upd_same _ _ _))⟩⟩
  have F2:=(F1.upd (x := "one") (e:=f)).upd (x := "mine") (e:=.lst (vals dr (Txt.lower d.name)))
  have m2:upd (upd f1 "one" f) "mine" (.lst (vals dr (Txt.lower d.name))) "mine" = some (.lst (vals dr (Txt.lower d.name))):=upd_same _ _ _
  have o2:upd (upd f1 "one" f) "mine" (.lst (vals dr (Txt.lower d.name))) "one" = some f:=by dsimp! only []
  have n2:upd (upd f1 "one" f) "mine" (.lst (vals dr (Txt.lower d.name))) "name" = some (.str (Txt.lower d.name)):=by dsimp! only []
  have k2:upd (upd f1 "one" f) "mine" (.lst (vals dr (Txt.lower d.name))) "k" = some (.int k):=by dsimp! only []
  generalize upd (upd f1 "one" f) "mine" (.lst (vals dr (Txt.lower d.name)))=f2 at F2 m2 o2 n2 k2 ⊢
  have ol:=old_len sl ll
  have e1:=eq_nil (σ:=SD told) rv (by decide)
  cases hE:(vals dr (Txt.lower d.name)).isEmpty with
  | true =>
    rw [hE] at e1
    have et:tellK (vals dr (Txt.lower d.name)) d.kind e f (oldS (Txt.lower d.name))=e:=if_pos hE
    rw [et]
    exact ⟨f2,F2,seq_next (st_ifT (ev_tru (ev_op2 (ev_var m2) (ev_lst rfl ev_l0) e1) rfl) (seq_next (st_expr (ev_met1 (ev_var F2.told) rfl (idx_at (idx_tup (i:=0) (ev_var F2.empty) ev_mpure (by decide) rfl) (ev_var k2) (by omega) he) (ev_one2 (app_t hl)))) rfl)) rfl⟩
  | false =>
    rw [hE] at e1
    have et:tellK (vals dr (Txt.lower d.name)) d.kind e f (oldS (Txt.lower d.name))=_:=if_neg (by rw [hE]; exact Bool.false_ne_true)
    rw [et]
    have e2:=eqOld (σ:=SD told) fl ol
    cases hO:isOld (oldS (Txt.lower d.name)) f with
    | true =>
      rw [hO] at e2
      rw [if_pos rfl]
      generalize vals dr (Txt.lower d.name)=vs at hE e1 m2 ⊢
      cases vs with
      | nil=>cases hE
      | cons x r =>
        exact ⟨f2,F2,seq_next (st_ifF (ev_tru (ev_op2 (ev_var m2) (ev_lst rfl ev_l0) e1) rfl) (seq_next (st_ifT (ev_tru (ev_op2 (ev_var o2) (old_at n2 ll) e2) rfl) (seq_next (st_expr (ev_met1 (ev_var F2.told) rfl (ev_sub0 (ev_var m2)) (ev_one2 (app_t hl)))) rfl)) rfl)) rfl⟩
    | false =>
      rw [hO] at e2
      rw [if_neg Bool.false_ne_true]
      have e3:∀ b,decide ((d.kind:Int)=6)=b→Mo.tru (Mo.op2 opEq (Mo.bind (Mo.bind (Mo.var "deeds") fun a=>Mo.bind (Mo.var "k") fun b _ σ=>if isSub a σ then (fIdx σ a b).map fun d=>(Out.val d,σ) else none) fun a=>Mo.bind (Mo.pure (.int 0)) fun b _ σ=>if isSub a σ then (fIdx σ a b).map fun d=>(Out.val d,σ) else none) (Mo.pure (.int 6))) f2 (SD told)=some (.val b,SD told):=fun b hb=>by
        refine ev_tru (ev_op2 (idx_tup (i:=0) (idx_at (ev_var F2.deeds) (ev_var k2) (by omega) dk) ev_mpure (by decide) rfl) ev_mpure opEq_int) ?_
        rw [hb]; rfl
      by_cases q6:d.kind=6
      · rw [if_pos q6]
        cases fl with
        | str hx=>exact absurd (h6 q6) fun ⟨_,e⟩=>by cases e
        | bool b=>exact absurd (h6 q6) fun ⟨_,e⟩=>by cases e
        | @lst ys hy hyl =>
          have iL:=in_lst (σ:=SD told) (s:=oldS (Txt.lower d.name)) (xs:=ys) (short_asc ol) fun y hm=>short_asc (hy y hm)
          have z2:(((ys.filter fun y=>!(y == oldS (Txt.lower d.name))).map D.str)).length ≤ ys.length:=by rw [List.length_map]; exact List.length_filter_le ..
          have c2:Mo.ite (Mo.tru (Mo.op2 opIn (Mo.op2 (fun a b σ=>(fAdd a b).map fun d=>(Out.val d,σ)) (Mo.pure (.str "old ")) (Mo.var "name")) (Mo.var "one"))) (Mo.var "mine") (Mo.lst []) f2 (SD told)=some (.val (.lst (if (ys.map D.str).any (isOld (oldS (Txt.lower d.name))) then vals dr (Txt.lower d.name) else [])),SD told):=by
            rw [any_old]
            refine ev_ite (ev_tru (ev_op2 (old_at n2 ll) (ev_var o2) iL) rfl) ?_
            cases ys.any (· == oldS (Txt.lower d.name)) with
            | true=>exact ev_var m2
            | false=>exact ev_lst rfl ev_l0
          refine ⟨f2,F2,seq_next (st_ifF (ev_tru (ev_op2 (ev_var m2) (ev_lst rfl ev_l0) e1) rfl) (seq_next (st_ifF (ev_tru (ev_op2 (ev_var o2) (old_at n2 ll) e2) rfl) (seq_next (st_ifT (e3 true (by rw [decide_eq_true_eq]; omega)) (seq_next (st_expr (ev_met1 (d1:=.lst ((if (ys.map D.str).any (isOld (oldS (Txt.lower d.name))) then vals dr (Txt.lower d.name) else []) ++ (ys.map D.str).filter fun d'=>!(isOld (oldS (Txt.lower d.name)) d'))) (ev_var F2.told) rfl (ev_op2 c2 (ev_lcF (x:=⟨ys.map D.str,fun _=>True⟩) (fun fr=>fr "name" = some (.str (Txt.lower d.name))) (fun d'=>!(isOld (oldS (Txt.lower d.name)) d')) (fun d'=>d') (ev_var o2) src_lst trivial (ev_frIn (by unfold frIn; rw [if_pos (by kernel_rfl)]) n2) (fun a ha fr hI=>?_) (old_eq _ ys) (by omega)) ?_) (ev_one2 (app_t hl)))) rfl)) rfl)) rfl)) rfl⟩
          · refine xEA (List.mem_map.mp ha) fun y hm e=>?_
            subst e
            have e4:=opNe_str (SD told) (hy y hm) ol
            have hI':upd fr "text" (.str y) "name" = some (.str (Txt.lower d.name)):=by dsimp! only []
            exact ⟨rfl,hI',ev_tru (ev_op2 (ev_var (upd_same _ _ _)) (old_at hI' ll) e4) rfl,fun _=>⟨_,hI',ev_emOne (d:=.str y) (ev_var (upd_same _ _ _))⟩⟩
          · rw [fil_old]
            refine addL_at ?_
            split
            · omega
            · show 0 + _ ≤ _; omega
      · rw [if_neg q6]
        exact ⟨f2,F2,seq_next (st_ifF (ev_tru (ev_op2 (ev_var m2) (ev_lst rfl ev_l0) e1) rfl) (seq_next (st_ifF (ev_tru (ev_op2 (ev_var o2) (old_at n2 ll) e2) rfl) (seq_next (st_ifF (e3 false (by rw [decide_eq_false_iff_not]; omega)) (seq_next (st_expr (ev_met1 (ev_var F2.told) rfl (ev_var o2) (ev_one2 (app_t hl)))) rfl)) rfl)) rfl)) rfl⟩
end
end
section
section
theorem Rds.atRef {m:Nat} {ds:List D} {xs:List PyData} (h:Rds m ds xs) (hm:m + 1 ≤ 64) {σ:List AO} {k:Nat} (hk:σ[k]? = some (.lst ds)):Mine.py σ (.ref k)=some (.list xs):=by
  unfold Mine.py
  have e:pyD (look2 σ) (.ref k)=some (.list xs):=by
    show look2 σ k=_
    unfold look2
    rw [hk]
    show (pyDs (look1 σ) ds).map _=_
    rw [h.py]; rfl
  have q:=h.lst
  rw [e,Option.bind_some,if_pos]
  unfold SeqAt.shaped
  rw [q.can,Bool.true_and,decide_eq_true_eq]
  exact Nat.le_trans q.dep hm
noncomputable def pP (p:PySem.Str × PySem.Str):PyData:=.tuple [.str p.1,.str p.2]
theorem rd_pair {p:PySem.Str × PySem.Str} (h:shortS p.1=true∧shortS p.2=true):Rd 1 (pD p) (pP p):=(Rds.cons (Rd.str h.1) (.cons (Rd.str h.2) .nil)).tup
theorem eqv_pP (a b:PySem.Str × PySem.Str):PyData.eqv (pP a) (pP b)=(a == b):=by
  show ((a.1 == b.1) && ((a.2 == b.2) && true))=_
  rw [Bool.and_true]; rfl
theorem fwd_erase (a:PySem.Str × PySem.Str):∀ {qs:Tb},a ∈ qs→fwd (qs.map pP) (pP a) < qs.length∧(qs.map pD).eraseIdx (fwd (qs.map pP) (pP a))=(qs.erase a).map pD
  | [],h=>by cases h
  | q :: qs,h=>by
    unfold fwd
    rw [List.map_cons,List.findIdx_cons,eqv_pP,List.erase_cons]
    cases hq:q == a with
    | true=>exact ⟨Nat.zero_lt_succ _,rfl⟩
    | false =>
      have hm:a ∈ qs:=by
        rcases List.mem_cons.mp h with e | e
        · rw [← e] at hq; simp at hq
        · exact e
      have ih:=fwd_erase a hm
      unfold fwd at ih
      refine ⟨Nat.succ_lt_succ ih.1,?_⟩
      show pD q :: _=pD q :: _
      rw [ih.2]
noncomputable def SR (told:List D) (rest:Tb):List AO:=[.dead,.dead,.lst told,.lst (rest.map pD)]
theorem rmv_at {told:List D} {rest:Tb} {a:PySem.Str × PySem.Str} (h:TbOk rest 900) (ha:a ∈ rest):fRemove (.ref 3) (pD a) (SR told rest)=some (.val .none,SR told (rest.erase a)):=by
  have r1:Rds 1 (rest.map pD) (rest.map pP):=Rds.map fun p hp=>rd_pair (h.row p hp)
  have e1:pyL (SR told rest) (.ref 3)=some (rest.map pP):=by
    unfold pyL
    rw [r1.atRef (by decide) rfl]
  have e2:=(rd_pair (h.row a ha)).at (by decide) (SR told rest)
  have e3:=fwd_erase a ha
  unfold fRemove
  show (Option.bind (some 3) fun k=>(atL (SR told rest) k).bind fun ds=>_)=_
  rw [Option.bind_some,atL_mk (show (SR told rest)[3]? = some (.lst (rest.map pD)) from rfl),Option.bind_some,e1,Option.bind_some,e2,Option.bind_some,if_pos (by rw [List.length_map]; exact e3.1),e3.2]
  rfl
noncomputable def aloneT (eP:Tb) (c:PySem.Str):Tb:=eP.filter (isN c)
noncomputable def besideT (fP:Tb) (c:PySem.Str):Tb:=fP.filter fun p=>isN c p && !(p.2 == oldS c)
noncomputable def restStep (eP fP dr rest:Tb) (c:PySem.Str):Tb:=if (besideT fP c).length < (aloneT eP c).length∧dr.any (isN c)=true then (match aloneT eP c with
  | a :: _=>rest.erase a
  | []=>rest) else rest
structure ReFr (fr:Fr) (ds:List Deed) (it:D) (dr:Tb) (eT fT:List D) (eP fP:Tb):Prop where
  deeds:fr "deeds" = some (.lst (ds.map dD))
  items:fr "items" = some it
  told:fr "told" = some (.ref 2)
  drawn:fr "drawn" = some (.lst (dr.map pD))
  empty:fr "empty" = some (.tup [.lst eT,.lst (eP.map pD)])
  full:fr "full" = some (.tup [.lst fT,.lst (fP.map pD)])
  rest:fr "rest" = some (.ref 3)
theorem ReFr.upd {fr:Fr} {ds:List Deed} {it:D} {dr:Tb} {eT fT:List D} {eP fP:Tb} {x:String} {e:D} (h:ReFr fr ds it dr eT fT eP fP) (h2:("drawn" == x)=false:=by rfl) (h3:("empty" == x)=false:=by rfl) (h4:("full" == x)=false:=by rfl) (h5:("rest" == x)=false:=by rfl) (h6:("deeds" == x)=false:=by rfl) (h7:("items" == x)=false:=by rfl) (h8:("told" == x)=false:=by rfl):ReFr (upd fr x e) ds it dr eT fT eP fP:=⟨(upd_diff h6).trans h.deeds,(upd_diff h7).trans h.items,(upd_diff h8).trans h.told,(upd_diff h2).trans h.drawn,(upd_diff h3).trans h.empty,(upd_diff h4).trans h.full,(upd_diff h5).trans h.rest⟩
noncomputable def isOldP (c:PySem.Str) (d:D):Bool:=(pVal c d).isSome && !(isOld (oldS c) (sndD d))
theorem alone_eq (eP:Tb) (c:PySem.Str):((eP.map pD).filter fun d=>(pVal c d).isSome).map (fun d=>d)=(aloneT eP c).map pD:=by
  rw [List.map_id',List.filter_map]
  refine congrArg (List.map pD) (List.filter_congr fun p _=>?_)
  show (pVal c (pD p)).isSome=isN c p
  rw [pVal_some]; rfl
theorem beside_eq (fP:Tb) (c:PySem.Str):((fP.map pD).filter (isOldP c)).map (fun d=>d)=(besideT fP c).map pD:=by
  rw [List.map_id',List.filter_map]
  refine congrArg (List.map pD) (List.filter_congr fun p _=>?_)
  show ((pVal c (pD p)).isSome && !(p.2 == oldS c))=_
  rw [pVal_some]; rfl
theorem lows_eq (dr:Tb):((dr.map pD).filter fun _=>true).map (fun d=>match fstD d with
  | .str x=>D.str (Txt.lower x)
  | d=>d)=(dr.map fun p=>Txt.lower p.1).map .str:=by
  rw [filter_true,List.map_map,List.map_map]; rfl
theorem any_low (dr:Tb) (c:PySem.Str):(dr.map fun p=>Txt.lower p.1).any (· == c)=dr.any (isN c):=by
  rw [List.any_map]; rfl
end
section
variable {G:Amb} (h:G.K=K1 G.w.params) (hlo:1 ≤ G.lo)
include h hlo
theorem restTurn:∃ m,Exs G true 12 (scopeAt (K1 G.w.params) 194) (forB (bodyAt (K1 G.w.params) 194) 10) m∧∀ fr ds it dr eT fT eP fP told rest (c:PySem.Str),ReFr fr ds it dr eT fT eP fP→fr "name" = some (.str c)→shortS c=true→c.length ≤ 100→TbOk dr 900→TbOk eP 900→TbOk fP 900→TbOk rest 900→(∀ a r,aloneT eP c=a :: r→a ∈ rest) →
      ∃ fr',ReFr fr' ds it dr eT fT eP fP∧m fr (SR told rest)=some (.val .next,fr',SR told (restStep eP fP dr rest c)):=by
  refine ⟨_,(Exs.cons (Ex.asgnF (CompL.one (W:=[]) (Ev.sub (Ev.loc rfl rfl) Ev.kInt Op2.idx rfl) (AsC.name rfl) (Ts.one (Cd.cmp (Ev.methS F.slot_str_lower F.type_str_lower (Ev.sub (Ev.loc rfl rfl) Ev.kInt Op2.idx rfl) (ms:=[]) (mk:=[]) trivial trivial Ca.lower) (Ev.cel rfl rfl) (Op2.eq (by omega)))) (Ev.loc rfl rfl) (by first | rfl | kernel_rfl)) (Or.inl rfl) (sw_of fun env=>by kernel_rfl))
      (Exs.cons (Ex.asgnF (CompL.one (W:=[]) (Ev.sub (Ev.cel rfl rfl) Ev.kInt Op2.idx rfl) (AsC.name rfl) (Ts.one (Cd.and (ms:=[_,_]) ⟨(Cd.cmp (Ev.methS F.slot_str_lower F.type_str_lower (Ev.sub (Ev.loc rfl rfl) Ev.kInt Op2.idx rfl) (ms:=[]) (mk:=[]) trivial trivial Ca.lower) (Ev.cel rfl rfl) (Op2.eq (by omega))),(Cd.cmp (Ev.sub (Ev.loc rfl rfl) Ev.kInt Op2.idx rfl) (Ev.bin (Ev.kStr (by decide +kernel)) (Ev.cel rfl rfl) Op2.add) (Op2.ne (by omega))),trivial⟩)) (Ev.loc rfl rfl) (by first | rfl | kernel_rfl)) (Or.inl rfl) (sw_of fun env=>by kernel_rfl))
      (Exs.cons (Ex.ite (Cd.and (ms:=[_,_]) ⟨(Cd.cmp (Ev.call (g_len h rfl) (ms:=[_]) (mk:=[]) ⟨(Ev.loc rfl rfl),trivial⟩ trivial Kep.blt Ca.len) (Ev.call (g_len h rfl) (ms:=[_]) (mk:=[]) ⟨(Ev.loc rfl rfl),trivial⟩ trivial Kep.blt Ca.len) (Op2.gt)),(Cd.cmp (Ev.cel rfl rfl) (Ev.lcF (CompL.one (W:=[]) (Ev.loc rfl rfl) (AsC.pair rfl rfl) Ts.nil (Ev.methS F.slot_str_lower F.type_str_lower (Ev.loc rfl rfl) (ms:=[]) (mk:=[]) trivial trivial Ca.lower) (by first | rfl | kernel_rfl))) (Op2.in (by omega))),trivial⟩)
        (Exs.cons (Ex.expr (Ev.methL F.slot_list_remove F.type_list_remove (Ev.loc rfl rfl) (ms:=[_]) (mk:=[]) ⟨(Ev.sub (Ev.loc rfl rfl) Ev.kInt Op2.idx rfl),trivial⟩ trivial (Ca.remove (by omega))))
        Exs.nil)
        Exs.nil)
      Exs.nil))),?_⟩
  intro fr ds it dr eT fT eP fP told rest c F fc sc lc hd he hf hr hin
  have hz:sizeLine=16777216:=rfl
  have hel:=he.len
  have hfl:=hf.len
  have hdl:=hd.len
  have la:(aloneT eP c).length ≤ eP.length:=List.length_filter_le ..
  have lb:(besideT fP c).length ≤ fP.length:=List.length_filter_le ..
  have ol:=old_len sc lc
  refine ex_seqn (st_asgnF (y := "alone") (x:=⟨eP.map pD,fun _=>True⟩) (fun fr=>fr "name" = some (.str c)) (fun e=>(pVal c e).isSome) (fun d=>d) (idx_tup (i:=1) (ev_var F.empty) ev_mpure (by decide) rfl) src_lst trivial (ev_frIn (by unfold frIn; rw [if_pos (by kernel_rfl)]) fc) (fun a ha fr hI=>?_) (alone_eq eP c) (by rw [List.length_map]; omega)) ?_
  · refine xEA (List.mem_map.mp ha) fun p hm e=>?_
    subst e
    have s1:=(he.row p hm).1
    have e4:=opEq_str (SR told rest) (short_lower s1) sc
    have hI':upd fr "pair" (pD p) "name" = some (.str c):=by dsimp! only []
    rw [pVal_some]
    exact ⟨rfl,hI',ev_tru (ev_op2 (ev_low (idx_tup (i:=0) (ev_var (upd_same _ _ _)) ev_mpure (by decide) rfl) (shortS_le s1)) (ev_var hI') e4) rfl,fun _=>⟨_,hI',ev_emOne (ev_var (upd_same _ _ _))⟩⟩
  have F1:=F.upd (x := "alone") (e:=.lst ((aloneT eP c).map pD))
  have a1:upd fr "alone" (.lst ((aloneT eP c).map pD)) "alone" = some (.lst ((aloneT eP c).map pD)):=upd_same _ _ _
  have c1:upd fr "alone" (.lst ((aloneT eP c).map pD)) "name" = some (.str c):=(upd_diff (by decide)).trans fc
  generalize upd fr "alone" (.lst ((aloneT eP c).map pD))=f1 at F1 a1 c1 ⊢
  refine ex_seqn (st_asgnF (y := "beside") (x:=⟨fP.map pD,fun _=>True⟩) (fun fr=>fr "name" = some (.str c)) (isOldP c) (fun d=>d) (idx_tup (i:=1) (ev_var F1.full) ev_mpure (by decide) rfl) src_lst trivial (ev_frIn (by unfold frIn; rw [if_pos (by kernel_rfl)]) c1) (fun a ha fr hI=>?_) (beside_eq fP c) (by rw [List.length_map]; omega)) ?_
  · refine xEA (List.mem_map.mp ha) fun p hm e=>?_
    subst e
    have s1:=(hf.row p hm).1
    have e4:=opEq_str (SR told rest) (short_lower s1) sc
    have e5:=opNe_str (SR told rest) (hf.row p hm).2 ol
    have hI':upd fr "pair" (pD p) "name" = some (.str c):=by dsimp! only []
    have et:isOldP c (pD p)=((Txt.lower p.1 == c) && !(p.2 == oldS c)):=by
      unfold isOldP
      rw [pVal_some]; rfl
    rw [et]
    refine ⟨rfl,hI',?_,fun _=>⟨_,hI',ev_emOne (ev_var (upd_same _ _ _))⟩⟩
    refine ev_acons (ev_tru (ev_op2 (ev_low (idx_tup (i:=0) (ev_var (upd_same _ _ _)) ev_mpure (by decide) rfl) (shortS_le s1)) (ev_var hI') e4) rfl) ?_
    cases Txt.lower p.1 == c with
    | false=>rfl
    | true =>
      refine ev_acons (ev_tru (ev_op2 (idx_tup (i:=1) (ev_var (upd_same _ _ _)) ev_mpure (by decide) rfl) (old_at hI' lc) e5) rfl) ?_
      cases p.2 == oldS c <;> rfl
  have F2:=F1.upd (x := "beside") (e:=.lst ((besideT fP c).map pD))
  have a2:upd f1 "beside" (.lst ((besideT fP c).map pD)) "alone" = some (.lst ((aloneT eP c).map pD)):=(upd_diff (by decide)).trans a1
  have b2:upd f1 "beside" (.lst ((besideT fP c).map pD)) "beside" = some (.lst ((besideT fP c).map pD)):=upd_same _ _ _
  have c2:upd f1 "beside" (.lst ((besideT fP c).map pD)) "name" = some (.str c):=(upd_diff (by decide)).trans c1
  generalize upd f1 "beside" (.lst ((besideT fP c).map pD))=f2 at F2 a2 b2 c2 ⊢
  have n1:fLen (.lst ((aloneT eP c).map pD)) (SR told rest)=some (.val (.int (aloneT eP c).length),SR told rest):=by
    show some (Out.val (D.int (((aloneT eP c).map pD).length:Nat)),_)=_
    rw [List.length_map]
  have n2:fLen (.lst ((besideT fP c).map pD)) (SR told rest)=some (.val (.int (besideT fP c).length),SR told rest):=by
    show some (Out.val (D.int (((besideT fP c).map pD).length:Nat)),_)=_
    rw [List.length_map]
  have iL:=in_lst (σ:=SR told rest) (s:=c) (xs:=dr.map fun p=>Txt.lower p.1) (short_asc sc) fun y hm=>by
    refine xEA (List.mem_map.mp hm) fun p hp e=>?_
    rw [← e]; exact short_asc (short_lower (hd.row p hp).1)
  rw [any_low] at iL
  unfold restStep
  have g0:decide (((besideT fP c).length:Int) < ((aloneT eP c).length:Int))=decide ((besideT fP c).length < (aloneT eP c).length):=by
    by_cases q:(besideT fP c).length < (aloneT eP c).length
    · rw [decide_eq_true q,decide_eq_true (by omega)]
    · rw [decide_eq_false q,decide_eq_false (by omega)]
  have g1:fGt (.int ((aloneT eP c).length:Int)) (.int ((besideT fP c).length:Int))=some (.bool (decide ((besideT fP c).length < (aloneT eP c).length))):=by rw [fGt_ii,g0]
  by_cases q:(besideT fP c).length < (aloneT eP c).length
  · rw [decide_eq_true q] at g1
    cases hb:dr.any (isN c) with
    | true =>
      rw [hb] at iL
      rw [if_pos ⟨q,rfl⟩]
      have hne:aloneT eP c ≠ []:=fun e=>by rw [e] at q; exact absurd q (Nat.not_lt_zero _)
      cases hal:aloneT eP c with
      | nil=>exact absurd hal hne
      | cons a r =>
        have ham:=hin a r hal
        rw [hal] at a2
        exact ⟨f2,F2,seq_next (st_ifT (ev_acons (b:=true) (ev_tru (ev_op2 (ev_call1 (ev_var (a2.trans (by rw [← hal]))) (ev_one1 n1)) (ev_call1 (ev_var b2) (ev_one1 n2)) (ev_omap g1)) rfl) (ev_acons (b:=true) (ev_tru (ev_op2 (ev_var c2) (ev_lcF (x:=⟨dr.map pD,fun _=>True⟩) (fun _=>True) (fun _=>true) _ (ev_var F2.drawn) src_lst trivial trivial (pair_step fun p hm fr=>ev_emOne (d:=.str (Txt.lower p.1)) (ev_low (ev_var (by dsimp! only [])) (shortS_le (hd.row p hm).1))) (lows_eq dr) (by rw [List.length_map,List.length_map]; omega)) iL) rfl) rfl)) (seq_next (st_expr (ev_met1 (ev_var F2.rest) rfl (ev_sub0 (ds:=r.map pD) (ev_var a2)) (ev_one2 (rmv_at hr ham)))) rfl)) rfl⟩
    | false =>
      rw [hb] at iL
      rw [if_neg fun w=>Bool.false_ne_true w.2]
      exact ⟨f2,F2,seq_next (st_ifF (ev_acons (b:=true) (ev_tru (ev_op2 (ev_call1 (ev_var a2) (ev_one1 n1)) (ev_call1 (ev_var b2) (ev_one1 n2)) (ev_omap g1)) rfl) (ev_acons (b:=false) (ev_tru (ev_op2 (ev_var c2) (ev_lcF (x:=⟨dr.map pD,fun _=>True⟩) (fun _=>True) (fun _=>true) _ (ev_var F2.drawn) src_lst trivial trivial (pair_step fun p hm fr=>ev_emOne (d:=.str (Txt.lower p.1)) (ev_low (ev_var (by dsimp! only [])) (shortS_le (hd.row p hm).1))) (lows_eq dr) (by rw [List.length_map,List.length_map]; omega)) iL) rfl) rfl)) rfl) rfl⟩
  · rw [decide_eq_false q] at g1
    rw [if_neg fun w=>q w.1]
    exact ⟨f2,F2,seq_next (st_ifF (ev_acons (b:=false) (ev_tru (ev_op2 (ev_call1 (ev_var a2) (ev_one1 n1)) (ev_call1 (ev_var b2) (ev_one1 n2)) (ev_omap g1)) rfl) rfl) rfl) rfl⟩
end
end
section
section
/-! the plain law: what a run leaves, by entries each with a mark: laid by setdefault while nothing of its name was taken away -/
noncomputable abbrev Ent:=(PySem.Str × PySem.Str) × Bool
noncomputable def clsE (e:Ent):PySem.Str:=Txt.lower e.1.1
noncomputable def low (d:Deed):PySem.Str:=Txt.lower d.name
noncomputable def killS (K:List PySem.Str) (d:Deed):List PySem.Str:=if d.kind < 2 then low d :: K else K
noncomputable def filA (A:List Ent) (x:PySem.Str):List Ent:=A.filter fun e=>!isN x e.1
noncomputable def tagS (K:List PySem.Str) (A:List Ent) (d:Deed):List Ent:=match d.kind with
  | 0=>if badT d.text then filA A (low d) else filA A (low d) ++ [((d.name,d.text),false)]
  | 1=>filA A (low d)
  | 2=>if A.any (fun e=>isN (low d) e.1) then A else if badT d.text then A else A ++ [((d.name,d.text),!(K.contains (low d)))]
  | 3=>if badT d.text then A else A ++ [((d.name,d.text),false)]
  | 4=>if badT d.text then A else A ++ [((d.name,txt4 d.text),false)]
  | _=>A
noncomputable def sel (π:PySem.Str→Bool) (A:List Ent):Tb:=(A.filter fun e=>!(e.2 && π (clsE e))).map (·.1)
noncomputable def keep (K:List PySem.Str) (T:Tb):Tb:=T.filter fun p=>!(K.contains (Txt.lower p.1))
theorem isN_iff {x:PySem.Str} {p:PySem.Str × PySem.Str} : isN x p=true ↔ Txt.lower p.1=x:=by unfold isN; exact beq_iff_eq
theorem isN_cls {x:PySem.Str} {e:Ent} : isN x e.1=(clsE e == x):=rfl
structure Inv (K:List PySem.Str) (A:List Ent):Prop where
  free:∀ e ∈ A,e.2=true→K.contains (clsE e)=false
  first:∀ c e r,A.filter (fun e=>isN c e.1)=e :: r→∀ e' ∈ r,e'.2=false
theorem sel_app (π:PySem.Str→Bool) (A B:List Ent):sel π (A ++ B)=sel π A ++ sel π B:=by
  unfold sel
  rw [List.filter_append,List.map_append]
theorem fil_sel (π:PySem.Str→Bool) (A:List Ent) (x:PySem.Str):fil (sel π A) x=sel π (filA A x):=by
  unfold fil sel filA
  rw [List.filter_map,List.filter_filter,List.filter_filter]
  refine congrArg (List.map _) (List.filter_congr fun e _=>?_)
  exact Bool.and_comm _ _
theorem fil_app (S T:Tb) (x:PySem.Str):fil (S ++ T) x=fil S x ++ fil T x:=List.filter_append ..
theorem fil_keep (K:List PySem.Str) (T:Tb) (x:PySem.Str):fil (keep K T) x=keep (x :: K) T:=by
  unfold fil keep
  rw [List.filter_filter]
  refine List.filter_congr fun p _=>?_
  rw [List.contains_cons]
  unfold isN
  cases Txt.lower p.1 == x <;> cases K.contains (Txt.lower p.1) <;> rfl
theorem has_app (S T:Tb) (x:PySem.Str):has (S ++ T) x=(has S x || has T x):=List.any_append
theorem has_keep (K:List PySem.Str) (T:Tb) (x:PySem.Str):has (keep K T) x=(!(K.contains x) && has T x):=by
  unfold has keep
  induction T with
  | nil=>cases K.contains x <;> rfl
  | cons p T ih =>
    rw [List.filter_cons,List.any_cons]
    by_cases h:Txt.lower p.1=x
    · rw [h]
      have hp:isN x p=true:=isN_iff.mpr h
      cases hk:K.contains x with
      | true =>
        rw [hk] at ih
        exact ih
      | false =>
        show (isN x p || _)=_
        rw [hp]; rfl
    · have hp:isN x p=false:=by rw [Bool.eq_false_iff]; exact fun q=>h (isN_iff.mp q)
      rw [hp,Bool.false_or]
      cases K.contains (Txt.lower p.1) with
      | true=>exact ih
      | false =>
        show (isN x p || _)=_
        rw [hp,Bool.false_or]; exact ih
theorem has_sel (π:PySem.Str→Bool) (A:List Ent) (x:PySem.Str):has (sel π A) x=A.any fun e=>isN x e.1 && !(e.2 && π x):=by
  unfold has sel
  rw [List.any_map]
  induction A with
  | nil=>rfl
  | cons e A ih =>
    rw [List.filter_cons,List.any_cons]
    by_cases h:clsE e=x
    · have hp:isN x e.1=true:=isN_iff.mpr h
      rw [h,hp,Bool.true_and]
      cases hb : !(e.2 && π x) with
      | true=>show (isN x e.1 || _)=_; rw [hp]; rfl
      | false=>rw [Bool.false_or]; exact ih
    · have hp:isN x e.1=false:=by rw [Bool.eq_false_iff]; exact fun q=>h (isN_iff.mp q)
      rw [hp,Bool.false_and,Bool.false_or]
      cases !(e.2 && π (clsE e)) with
      | true=>show (isN x e.1 || _)=_; rw [hp,Bool.false_or]; exact ih
      | false=>exact ih
theorem filA_cls (A:List Ent) (x c:PySem.Str):(filA A x).filter (fun e=>isN c e.1)=if c=x then [] else A.filter fun e=>isN c e.1:=by
  unfold filA
  rw [List.filter_filter]
  by_cases h:c=x
  · rw [if_pos h,h]
    refine List.filter_eq_nil_iff.mpr fun e _=>?_
    cases isN x e.1 <;> decide
  · rw [if_neg h]
    refine List.filter_congr fun e _=>?_
    cases hc:isN c e.1 with
    | false=>rfl
    | true =>
      have:isN x e.1=false:=by rw [Bool.eq_false_iff]; exact fun q=>h ((isN_iff.mp hc).symm.trans (isN_iff.mp q))
      rw [this]; rfl
theorem Inv.fil {K:List PySem.Str} {A:List Ent} (h:Inv K A) (x:PySem.Str):Inv (x :: K) (filA A x):=by
  refine ⟨fun e he hc=>?_,fun c e r hf=>?_⟩
  · have:=List.mem_filter.mp he
    rw [List.contains_cons,h.free e this.1 hc,Bool.or_false]
    have:=this.2
    rw [isN_cls] at this
    cases q:clsE e == x with
    | false=>rfl
    | true=>rw [q] at this; cases this
  · rw [filA_cls] at hf
    by_cases q:c=x
    · rw [if_pos q] at hf; cases hf
    · rw [if_neg q] at hf; exact h.first c e r hf
theorem Inv.app {K:List PySem.Str} {A:List Ent} (h:Inv K A) (p:PySem.Str × PySem.Str) (b:Bool) (h1:b=true→K.contains (Txt.lower p.1)=false) (h2:b=true→A.any (fun e=>isN (Txt.lower p.1) e.1)=false):Inv K (A ++ [(p,b)]):=by
  refine ⟨fun e he hc=>?_,fun c e r hf e' he'=>?_⟩
  · rcases List.mem_append.mp he with q | q
    · exact h.free e q hc
    · rw [List.mem_singleton.mp q] at hc ⊢; exact h1 hc
  · rw [List.filter_append] at hf
    cases hA:A.filter (fun e=>isN c e.1) with
    | nil =>
      rw [hA,List.nil_append] at hf
      rw [List.filter_cons] at hf
      split at hf
      · cases hf; cases he'
      · cases hf
    | cons e0 r0 =>
      rw [hA] at hf
      injection hf with e1 e2
      rw [← e2] at he'
      rcases List.mem_append.mp he' with q | q
      · exact h.first c e0 r0 hA e' q
      · have q2:=List.mem_filter.mp q
        have q3:=List.mem_singleton.mp q2.1
        rw [q3]
        cases b with
        | false=>rfl
        | true =>
          have hx:Txt.lower p.1=c:=by have:=q2.2; rw [q3] at this; exact isN_iff.mp this
          have h3:=h2 rfl
          rw [hx] at h3
          have:e0 ∈ A.filter (fun e=>isN c e.1):=by rw [hA]; exact .head _
          have h4:=List.any_eq_false.mp h3 e0 (List.mem_filter.mp this).1
          exact absurd (List.mem_filter.mp this).2 h4
/-- one call: what it leaves -/
theorem step_sel {K:List PySem.Str} {A:List Ent} {T:Tb} {d:Deed} (h:Inv K A):(stepR (keep K T ++ sel (has T) A) d).2=keep (killS K d) T ++ sel (has T) (tagS K A d)∧Inv (killS K d) (tagS K A d):=by
  obtain ⟨k,n,t⟩:=d
  have f0:fil (keep K T ++ sel (has T) A) (Txt.lower n)=keep (Txt.lower n :: K) T ++ sel (has T) (filA A (Txt.lower n)):=by rw [fil_app,fil_keep,fil_sel]
  have i0:=h.fil (Txt.lower n)
  unfold stepR tagS killS
  simp only [low]
  generalize badT t=b
  match k with
  | 0 =>
    cases b with
    | true=>exact ⟨f0,i0⟩
    | false =>
      refine ⟨?_,i0.app (n,t) false (fun q=>nFT q) fun q=>nFT q⟩
      show fil _ _ ++ [(n,t)]=keep (Txt.lower n :: K) T ++ sel (has T) (filA A (Txt.lower n) ++ [((n,t),false)])
      rw [f0,sel_app,List.append_assoc]; rfl
  | 1=>exact ⟨f0,i0⟩
  | 2 =>
    have hs:has (keep K T ++ sel (has T) A) (Txt.lower n)=((!(K.contains (Txt.lower n)) && has T (Txt.lower n)) || A.any fun e=>isN (Txt.lower n) e.1 && !(e.2 && has T (Txt.lower n))):=by rw [has_app,has_keep,has_sel]
    simp only [hs]
    show (if _ then _ else if b=true then _ else _:D × Tb).2=keep K T ++ sel (has T) (if A.any (fun e=>isN (Txt.lower n) e.1) then A else if b=true then A else A ++ [((n,t),!(K.contains (Txt.lower n)))])∧Inv K (if A.any (fun e=>isN (Txt.lower n) e.1) then A else if b=true then A else A ++ [((n,t),!(K.contains (Txt.lower n)))])
    cases ha:A.any (fun e=>isN (Txt.lower n) e.1) with
    | true =>
      have:((!(K.contains (Txt.lower n)) && has T (Txt.lower n)) || A.any fun e=>isN (Txt.lower n) e.1 && !(e.2 && has T (Txt.lower n)))=true:=by
        cases hp:has T (Txt.lower n) with
        | false =>
          rw [Bool.and_false,Bool.false_or]
          refine List.any_eq_true.mpr ?_
          refine (List.any_eq_true.mp ha).imp fun e he=>⟨he.1,?_⟩
          rw [he.2,Bool.and_false]; rfl
        | true =>
          cases hk:K.contains (Txt.lower n) with
          | false=>rfl
          | true =>
            rw [Bool.not_true,Bool.false_and,Bool.false_or]
            refine List.any_eq_true.mpr ?_
            refine (List.any_eq_true.mp ha).imp fun e he=>⟨he.1,?_⟩
            have:e.2=false:=by
              cases q:e.2 with
              | false=>rfl
              | true =>
                have:=h.free e he.1 q
                rw [show clsE e=Txt.lower n from isN_iff.mp he.2,hk] at this
                cases this
            rw [he.2,this]; rfl
      rw [this]
      exact ⟨rfl,h⟩
    | false =>
      have hA:(A.any fun e=>isN (Txt.lower n) e.1 && !(e.2 && has T (Txt.lower n)))=false:=by
        refine List.any_eq_false.mpr fun e he q=>?_
        exact List.any_eq_false.mp ha e he (Bool.and_eq_true_iff.mp q).1
      rw [hA,Bool.or_false]
      cases b with
      | true =>
        refine ⟨?_,h⟩
        cases !(K.contains (Txt.lower n)) && has T (Txt.lower n) <;> rfl
      | false =>
        refine ⟨?_,h.app (n,t) _ (fun q=>by simpa using q) fun _=>ha⟩
        have es:sel (has T) [((n,t),!(K.contains (Txt.lower n)))]=if !(K.contains (Txt.lower n)) && has T (Txt.lower n) then [] else [(n,t)]:=by
          unfold sel
          rw [List.filter_cons]
          show List.map _ (if (!(!(K.contains (Txt.lower n)) && has T (Txt.lower n)))=true then _ else _)=_
          cases !(K.contains (Txt.lower n)) && has T (Txt.lower n) <;> rfl
        show _=keep K T ++ sel (has T) (A ++ [((n,t),!(K.contains (Txt.lower n)))])
        rw [sel_app,es]
        cases !(K.contains (Txt.lower n)) && has T (Txt.lower n) with
        | true=>show keep K T ++ sel (has T) A=_; rw [if_pos rfl,List.append_nil]
        | false=>show (keep K T ++ sel (has T) A) ++ [(n,t)]=_; rw [if_neg Bool.false_ne_true,List.append_assoc]
  | 3 =>
    cases b with
    | true=>exact ⟨rfl,h⟩
    | false =>
      refine ⟨?_,h.app (n,t) false (fun q=>nFT q) fun q=>nFT q⟩
      show _ ++ [(n,t)]=keep K T ++ sel (has T) (A ++ [((n,t),false)])
      rw [sel_app,List.append_assoc]; rfl
  | 4 =>
    cases b with
    | true=>exact ⟨rfl,h⟩
    | false =>
      refine ⟨?_,h.app (n,txt4 t) false (fun q=>nFT q) fun q=>nFT q⟩
      show _ ++ [(n,txt4 t)]=keep K T ++ sel (has T) (A ++ [((n,txt4 t),false)])
      rw [sel_app,List.append_assoc]; rfl
  | 5=>exact ⟨rfl,h⟩
  | 6=>exact ⟨rfl,h⟩
  | k + 7 =>
    have e : ¬ (k + 7 < 2):=by omega
    rw [if_neg e]
    exact ⟨rfl,h⟩
end
end
section
section
noncomputable def CL:List PySem.Str:=["a", "b", "ab"]
noncomputable def full0:Tb:=[("A", "old a"),("b", "old b"),("aB", "old ab")]
noncomputable def ansOf (d:Deed) (vs:List D):D:=if laysB d.kind vs.isEmpty && badT d.text then msgD else if d.kind=2∨d.kind=5 then hd0 vs (if d.kind=5 then .str "none" else .str d.text) else if d.kind=6 then .lst vs else if d.kind=7 then .bool (!vs.isEmpty) else doneD
theorem step_ans {ps:Tb} {d:Deed} (h:d.kind < 8):(stepR ps d).1=ansOf d (vals ps (low d)):=by
  rw [← stepP_eq ps d h]
  unfold stepP ansOf
  show (if laysB d.kind (vals ps (low d)).isEmpty && badT d.text then _ else _:D × Tb).1=_
  cases laysB d.kind (vals ps (low d)).isEmpty && badT d.text <;> rfl
theorem vals_app (S T:Tb) (x:PySem.Str):vals (S ++ T) x=vals S x ++ vals T x:=by
  unfold vals
  rw [List.filter_append,List.map_append]
theorem vals_keep (K:List PySem.Str) (T:Tb) (x:PySem.Str):vals (keep K T) x=if K.contains x then [] else vals T x:=by
  unfold vals keep
  rw [List.filter_filter]
  have e:T.filter (fun p=>isN x p && !(K.contains (Txt.lower p.1)))=if K.contains x then [] else T.filter (isN x):=by
    cases hk:K.contains x with
    | true =>
      refine List.filter_eq_nil_iff.mpr fun p _ q=>?_
      have q:=Bool.and_eq_true_iff.mp q
      rw [isN_iff.mp q.1,hk] at q
      cases q.2
    | false =>
      refine List.filter_congr fun p _=>?_
      cases hp:isN x p with
      | false=>rfl
      | true=>rw [isN_iff.mp hp,hk]; rfl
  rw [e]
  cases K.contains x <;> rfl
noncomputable def valsA (A:List Ent) (x:PySem.Str) (b:Bool):List D:=(A.filter fun e=>isN x e.1 && !(e.2 && b)).map fun e=>.str e.1.2
theorem vals_sel (π:PySem.Str→Bool) (A:List Ent) (x:PySem.Str):vals (sel π A) x=valsA A x (π x):=by
  unfold vals sel valsA
  rw [List.filter_map,List.map_map,List.filter_filter]
  refine congrArg (List.map _) (List.filter_congr fun e _=>?_)
  show (isN x e.1 && !(e.2 && π (clsE e)))=_
  cases h:isN x e.1 with
  | false=>rfl
  | true=>rw [show clsE e=x from isN_iff.mp h]
/-- none of the texts laid is one of the full table's -/
noncomputable def NoOld (A:List Ent):Prop:=∀ e ∈ A,∀ c ∈ CL,(e.1.2 == oldS c)=false
structure DeedN (d:Deed):Prop where
  kind:d.kind < 8
  cls:low d ∈ CL
  text:∀ c ∈ CL,(d.text == oldS c)=false
  four:∀ c ∈ CL,(txt4 d.text == oldS c)=false
theorem noOld_tag {K:List PySem.Str} {A:List Ent} {d:Deed} (h:NoOld A) (hd:DeedN d):NoOld (tagS K A d):=by
  have hf:NoOld (filA A (low d)):=fun e he=>h e (List.mem_filter.mp he).1
  have ha:∀ {B:List Ent} (b:Bool),NoOld B→NoOld (B ++ [((d.name,d.text),b)]):=fun b hB e he=>by
    rcases List.mem_append.mp he with q | q
    · exact hB e q
    · rw [List.mem_singleton.mp q]; exact hd.text
  have h4:NoOld (A ++ [((d.name,txt4 d.text),false)]):=fun e he=>by
    rcases List.mem_append.mp he with q | q
    · exact h e q
    · rw [List.mem_singleton.mp q]; exact hd.four
  unfold tagS
  split
  · split
    · exact hf
    · exact ha _ hf
  · exact hf
  · split
    · exact h
    · split
      · exact h
      · exact ha _ h
  · split
    · exact h
    · exact ha _ h
  · split
    · exact h
    · exact h4
  · exact h
theorem noOld_vals {A:List Ent} (h:NoOld A) {x:PySem.Str} (hx:x ∈ CL) (y:PySem.Str) (b:Bool):∀ v ∈ valsA A y b,isOld (oldS x) v=false:=fun v hv=>by
  refine xEA (List.mem_map.mp hv) fun e he q=>?_
  rw [← q]
  exact h e (List.mem_filter.mp he).1 x hx
theorem words:∀ c ∈ CL,isOld (oldS c) msgD=false∧isOld (oldS c) doneD=false∧isOld (oldS c) (.str "none")=false:=by
  have:∀ c ∈ CL,(msgV == oldS c)=false∧(PySem.Str.ofString "done" == oldS c)=false∧(PySem.Str.ofString "none" == oldS c)=false:=by decide +kernel
  exact this
theorem ans_noOld {d:Deed} (hd:DeedN d) {vs:List D} (h:∀ v ∈ vs,isOld (oldS (low d)) v=false):isOld (oldS (low d)) (ansOf d vs)=false:=by
  have w:=words _ hd.cls
  unfold ansOf
  split
  · exact w.1
  · split
    · cases vs with
      | cons v r=>exact h v (.head _)
      | nil =>
        show isOld _ (if d.kind=5 then _ else _)=false
        split
        · exact w.2.2
        · exact hd.text _ hd.cls
    · split
      · rfl
      · split
        · rfl
        · exact w.2.1
theorem fil_noOld {o:PySem.Str} {vs:List D} (h:∀ v ∈ vs,isOld o v=false):vs.any (isOld o)=false∧vs.filter (fun d=>!(isOld o d))=vs:=by
  refine ⟨List.any_eq_false.mpr fun v hv=>by rw [h v hv]; exact Bool.false_ne_true,List.filter_eq_self.mpr fun v hv=>by rw [h v hv]; rfl⟩
/-- one answer -/
theorem tell_step {d:Deed} {k:Bool} {vd W W0:List D} (hd:DeedN d) (hW:∀ v ∈ W,isOld (oldS (low d)) v=false) :
    tellK vd d.kind (ansOf d W0) (ansOf d ((if k then [] else [.str (oldS (low d))]) ++ W)) (oldS (low d))=ansOf d (if vd.isEmpty then W0 else (if k then [] else vd) ++ W):=by
  have w:=words _ hd.cls
  unfold tellK
  cases vd with
  | nil=>rfl
  | cons m ms =>
    generalize hF:ansOf d ((if k then [] else [.str (oldS (low d))]) ++ W)=F
    show (if isOld (oldS (low d)) F then hd0 (m :: ms) .none else if d.kind=6 then .lst ((if (itemsD F).any (isOld (oldS (low d))) then m :: ms else []) ++ (itemsD F).filter fun d'=>!(isOld (oldS (low d)) d')) else F)=ansOf d ((if k then [] else m :: ms) ++ W)
    cases k with
    | true =>
      have hF:ansOf d W=F:=hF
      show _=ansOf d W
      rw [← hF,if_neg (by rw [ans_noOld hd hW]; exact Bool.false_ne_true)]
      by_cases h6:d.kind=6
      · rw [if_pos h6]
        have:ansOf d W = .lst W:=by
          unfold ansOf laysB
          rw [h6]; rfl
        rw [this]
        have q:=fil_noOld hW
        show D.lst ((if W.any (isOld (oldS (low d))) then m :: ms else []) ++ W.filter fun d'=>!(isOld (oldS (low d)) d'))=_
        rw [q.1,q.2]; rfl
      · rw [if_neg h6]
    | false =>
      have hF:ansOf d (.str (oldS (low d)) :: W)=F:=hF
      show _=ansOf d (m :: (ms ++ W))
      have hk:=hd.kind
      have io:isOld (oldS (low d)) (.str (oldS (low d)))=true:=by show (oldS (low d) == oldS (low d))=true; exact beq_self_eq_true _
      have q:=fil_noOld hW
      have e6:d.kind=6→ansOf d (.str (oldS (low d)) :: W) = .lst (.str (oldS (low d)) :: W)∧ansOf d (m :: (ms ++ W)) = .lst (m :: (ms ++ W)):=fun h6=>by
        unfold ansOf laysB
        rw [h6]; exact ⟨rfl,rfl⟩
      by_cases h6:d.kind=6
      · rw [← hF,(e6 h6).1,(e6 h6).2]
        show (if d.kind=6 then D.lst ((if (D.str (oldS (low d)) :: W).any (isOld (oldS (low d))) then m :: ms else []) ++ (D.str (oldS (low d)) :: W).filter fun d'=>!(isOld (oldS (low d)) d')) else _)=_
        rw [if_pos h6,List.any_cons,io,List.filter_cons,io]
        show D.lst ((m :: ms) ++ W.filter fun d'=>!(isOld (oldS (low d)) d'))=_
        rw [q.2]; rfl
      · rw [if_neg h6,← hF]
        clear hF
        generalize low d=x at w io ⊢
        obtain ⟨kd,n,t⟩:=d
        have hk:kd < 8:=hk
        have h6:kd ≠ 6:=h6
        unfold ansOf laysB
        simp only [List.isEmpty_cons,Bool.and_false,Bool.or_false]
        clear q e6
        revert h6
        apply lt8 (j:=kd) (h:=hk)
        · intro h6
          cases badT t
          · exact if_neg (by show ¬ isOld _ doneD=true; rw [w.2.1]; exact Bool.false_ne_true)
          · exact if_neg (by show ¬ isOld _ msgD=true; rw [w.1]; exact Bool.false_ne_true)
        · intro h6; exact if_neg (by show ¬ isOld _ doneD=true; rw [w.2.1]; exact Bool.false_ne_true)
        · intro h6; exact if_pos io
        · intro h6
          cases badT t
          · exact if_neg (by show ¬ isOld _ doneD=true; rw [w.2.1]; exact Bool.false_ne_true)
          · exact if_neg (by show ¬ isOld _ msgD=true; rw [w.1]; exact Bool.false_ne_true)
        · intro h6
          cases badT t
          · exact if_neg (by show ¬ isOld _ doneD=true; rw [w.2.1]; exact Bool.false_ne_true)
          · exact if_neg (by show ¬ isOld _ msgD=true; rw [w.1]; exact Bool.false_ne_true)
        · intro h6; exact if_pos io
        · intro h6; exact absurd rfl h6
        · intro h6; exact if_neg (by show ¬ isOld _ (D.bool true)=true; exact Bool.false_ne_true)
end
end
section
section
noncomputable def tagR:List PySem.Str→List Ent→List Deed→List PySem.Str × List Ent
  | K,A,[]=>(K,A)
  | K,A,d :: ds=>tagR (killS K d) (tagS K A d) ds
structure Inv2 (K:List PySem.Str) (A:List Ent):Prop extends Inv K A where
  old:NoOld A
  clA:∀ e ∈ A,clsE e ∈ CL
  clK:∀ x ∈ K,x ∈ CL
theorem cls_tag {K:List PySem.Str} {A:List Ent} {d:Deed} (h:∀ e ∈ A,clsE e ∈ CL) (hd:low d ∈ CL):∀ e ∈ tagS K A d,clsE e ∈ CL:=by
  have hf:∀ e ∈ filA A (low d),clsE e ∈ CL:=fun e he=>h e (List.mem_filter.mp he).1
  have ha:∀ {B:List Ent} (t:PySem.Str) (b:Bool),(∀ e ∈ B,clsE e ∈ CL)→∀ e ∈ B ++ [((d.name,t),b)],clsE e ∈ CL:=fun t b hB e he=>by
    rcases List.mem_append.mp he with q | q
    · exact hB e q
    · rw [List.mem_singleton.mp q]; exact hd
  unfold tagS
  split
  · split
    · exact hf
    · exact ha _ _ hf
  · exact hf
  · split
    · exact h
    · split
      · exact h
      · exact ha _ _ h
  · split
    · exact h
    · exact ha _ _ h
  · split
    · exact h
    · exact ha _ _ h
  · exact h
theorem Inv2.step {K:List PySem.Str} {A:List Ent} {d:Deed} (h:Inv2 K A) (hd:DeedN d):Inv2 (killS K d) (tagS K A d):=by
  refine ⟨(step_sel (T:=[]) h.toInv).2,noOld_tag h.old hd,cls_tag h.clA hd.cls,fun x hx=>?_⟩
  unfold killS at hx
  split at hx
  · rcases List.mem_cons.mp hx with q | q
    · rw [q]; exact hd.cls
    · exact h.clK x q
  · exact h.clK x hx
theorem run_all {T:Tb} : ∀ {ds:List Deed} {K:List PySem.Str} {A:List Ent},Inv2 K A→(∀ d ∈ ds,DeedN d)→(runR (keep K T ++ sel (has T) A) ds).2=keep (tagR K A ds).1 T ++ sel (has T) (tagR K A ds).2
  | [],_,_,_,_=>rfl
  | d :: ds,K,A,h,hd=>by
    show (runR (stepR (keep K T ++ sel (has T) A) d).2 ds).2=_
    rw [(step_sel h.toInv).1]
    exact run_all (h.step (hd d (.head _))) fun e he=>hd e (.tail _ he)
theorem inv_all:∀ {ds:List Deed} {K:List PySem.Str} {A:List Ent},Inv2 K A→(∀ d ∈ ds,DeedN d)→Inv2 (tagR K A ds).1 (tagR K A ds).2
  | [],_,_,h,_=>h
  | d :: ds,_,_,h,hd=>inv_all (ds:=ds) (h.step (hd d (.head _))) fun e he=>hd e (.tail _ he)
noncomputable def toldL (dr:Tb):List Deed→List D→List D→List D
  | d :: ds,e :: eT,f :: fT=>tellK (vals dr (low d)) d.kind e f (oldS (low d)) :: toldL dr ds eT fT
  | _,_,_=>[]
theorem full_vals:∀ x ∈ CL,vals full0 x=[.str (oldS x)]∧has full0 x=true:=fun x hx=>by
  rcases List.mem_cons.mp hx with q | hx
  · subst q; exact ⟨by kernel_rfl,by decide +kernel⟩
  rcases List.mem_cons.mp hx with q | hx
  · subst q; exact ⟨by kernel_rfl,by decide +kernel⟩
  rw [List.mem_singleton.mp hx]
  exact ⟨by kernel_rfl,by decide +kernel⟩
theorem run_told {dr:Tb} : ∀ {ds:List Deed} {K:List PySem.Str} {A:List Ent},Inv2 K A→(∀ d ∈ ds,DeedN d)→(runR (keep K dr ++ sel (has dr) A) ds).1=toldL dr ds (runR (keep K [] ++ sel (has []) A) ds).1 (runR (keep K full0 ++ sel (has full0) A) ds).1
  | [],_,_,_,_=>rfl
  | d :: ds,K,A,h,hd=>by
    have hd0:=hd d (.head _)
    have fv:=full_vals _ hd0.cls
    show (stepR (keep K dr ++ sel (has dr) A) d).1 :: (runR (stepR (keep K dr ++ sel (has dr) A) d).2 ds).1=tellK (vals dr (low d)) d.kind (stepR (keep K [] ++ sel (has []) A) d).1 (stepR (keep K full0 ++ sel (has full0) A) d).1 (oldS (low d)) :: toldL dr ds (runR (stepR (keep K [] ++ sel (has []) A) d).2 ds).1 (runR (stepR (keep K full0 ++ sel (has full0) A) d).2 ds).1
    rw [(step_sel h.toInv).1,(step_sel h.toInv).1,(step_sel h.toInv).1,run_told (h.step hd0) fun e he=>hd e (.tail _ he)]
    refine congrArg (· :: _) ?_
    rw [step_ans hd0.kind,step_ans hd0.kind,step_ans hd0.kind]
    simp only [vals_app,vals_keep,vals_sel]
    rw [fv.1,fv.2]
    have e0:((if K.contains (low d) then [] else vals [] (low d)) ++ valsA A (low d) (has [] (low d)):List D)=valsA A (low d) false:=by
      show (if K.contains (low d) then [] else []) ++ valsA A (low d) false=_
      cases K.contains (low d) <;> rfl
    rw [e0,tell_step hd0 (noOld_vals h.old hd0.cls _ _),has_vals]
    cases hv:vals dr (low d) with
    | nil =>
      show ansOf d ((if K.contains (low d) then [] else []) ++ valsA A (low d) false)=ansOf d (valsA A (low d) false)
      cases K.contains (low d) <;> rfl
    | cons m ms=>rfl
theorem toldL_at (dr:Tb):∀ {ds:List Deed} {eT fT:List D} {k:Nat} {d:Deed} {e f:D},ds[k]? = some d→eT[k]? = some e→fT[k]? = some f→(toldL dr ds eT fT)[k]? = some (tellK (vals dr (low d)) d.kind e f (oldS (low d)))
  | d :: ds,e :: eT,f :: fT,0,_,_,_,h1,h2,h3=>by
    rw [s1E h1,s1E h2,s1E h3]; rfl
  | d :: ds,e :: eT,f :: fT,k + 1,_,_,_,h1,h2,h3=>toldL_at dr (ds:=ds) h1 h2 h3
  | [],_,_,_,_,_,_,h1,_,_=>by simp at h1
  | _ :: _,[],_,_,_,_,_,_,h2,_=>by simp at h2
  | _ :: _,_ :: _,[],_,_,_,_,_,_,h3=>by simp at h3
theorem toldL_len (dr:Tb):∀ {ds:List Deed} {eT fT:List D},eT.length=ds.length→fT.length=ds.length→(toldL dr ds eT fT).length=ds.length
  | [],_,_,_,_=>rfl
  | d :: ds,e :: eT,f :: fT,h1,h2=>congrArg (· + 1) (toldL_len dr (Nat.succ.inj h1) (Nat.succ.inj h2))
  | _ :: _,[],_,h,_=>by cases h
  | _ :: _,_ :: _,[],_,h=>by cases h
end
end
section
section
noncomputable def rP (π:PySem.Str→Bool) (P:List PySem.Str) (e:Ent):Bool:=!(e.2 && (P.contains (clsE e) && π (clsE e)))
noncomputable def restP (π:PySem.Str→Bool) (A:List Ent) (P:List PySem.Str):Tb:=(A.filter (rP π P)).map (·.1)
theorem erase_first {c:PySem.Str} {e0:Ent} {r:List Ent} (h0:e0.2=true) (hr:∀ e' ∈ r,e'.2=false):∀ {L:List Ent},L.filter (fun e=>isN c e.1)=e0 :: r→(L.map (·.1)).erase e0.1=(L.filter fun e=>!(e.2 && isN c e.1)).map (·.1)
  | [],h=>by cases h
  | e :: L,h=>by
    have hc:isN c e0.1=true:=by
      have:e0 ∈ (e :: L).filter (fun e=>isN c e.1):=by rw [h]; exact .head _
      exact (List.mem_filter.mp this).2
    rw [List.filter_cons] at h
    rw [List.map_cons,List.filter_cons]
    cases hx:isN c e.1 with
    | true =>
      rw [hx,if_pos rfl] at h
      injection h with h1 h2
      subst h1
      rw [List.erase_cons_head,h0]
      show L.map (·.1)=(L.filter fun e=>!(e.2 && isN c e.1)).map (·.1)
      refine congrArg (List.map _) (List.filter_eq_self.mpr fun e' he'=>?_).symm
      cases hx':isN c e'.1 with
      | false=>rw [Bool.and_false]; rfl
      | true =>
        have:e' ∈ r:=by rw [← h2]; exact List.mem_filter.mpr ⟨he',hx'⟩
        rw [hr e' this]; rfl
    | false =>
      rw [hx,if_neg Bool.false_ne_true] at h
      have hne:(e.1 == e0.1)=false:=by
        rw [beq_eq_false_iff_ne]
        intro q
        rw [q,hc] at hx; cases hx
      rw [List.erase_cons_tail (by rw [hne]; exact Bool.false_ne_true),erase_first h0 hr h]
      show _=(if (!(e.2 && false))=true then _ else _:List Ent).map _
      rw [Bool.and_false]; rfl
theorem contains_ne {P:List PySem.Str} {c x:PySem.Str} (h:x ≠ c):(c :: P).contains x=P.contains x:=by
  rw [List.contains_cons,beq_eq_false_iff_ne.mpr h,Bool.false_or]
theorem full_old:∀ c ∈ CL,∀ p ∈ full0,(p.2 == oldS c)=isN c p:=by decide +kernel
theorem keep_mem {K:List PySem.Str} {T:Tb} {p:PySem.Str × PySem.Str} (h:p ∈ keep K T):p ∈ T:=(List.mem_filter.mp h).1
theorem beside_of {K:List PySem.Str} {A:List Ent} (h:Inv2 K A) {c:PySem.Str} (hc:c ∈ CL):besideT (keep K full0 ++ sel (has full0) A) c=((A.filter fun e=>isN c e.1).filter fun e=>!e.2).map (·.1):=by
  unfold besideT
  rw [List.filter_append]
  have e1:(keep K full0).filter (fun p=>isN c p && !(p.2 == oldS c))=[]:=List.filter_eq_nil_iff.mpr fun p hp q=>by
    rw [full_old c hc p (keep_mem hp)] at q
    cases hx:isN c p <;> rw [hx] at q <;> cases q
  rw [e1,List.nil_append]
  unfold sel
  rw [List.filter_map,List.filter_filter,List.filter_filter]
  refine congrArg (List.map _) (List.filter_congr fun e he=>?_)
  show ((isN c e.1 && !(e.1.2 == oldS c)) && !(e.2 && has full0 (clsE e)))=_
  rw [h.old e he c hc]
  cases hx:isN c e.1 with
  | false=>cases e.2 <;> rfl
  | true =>
    rw [show clsE e=c from isN_iff.mp hx,(full_vals c hc).2]
    cases e.2 <;> rfl
theorem alone_of (A:List Ent) (c:PySem.Str):aloneT (A.map (·.1)) c=(A.filter fun e=>isN c e.1).map (·.1):=by
  unfold aloneT
  rw [List.filter_map]; rfl
theorem rest_step {K:List PySem.Str} {A:List Ent} {dr:Tb} {P:List PySem.Str} (h:Inv2 K A) {c:PySem.Str} (hc:c ∈ CL) (hP:P.contains c=false) :
    restStep (A.map (·.1)) (keep K full0 ++ sel (has full0) A) dr (restP (has dr) A P) c=restP (has dr) A (c :: P)∧∀ a r,aloneT (A.map (·.1)) c=a :: r→a ∈ restP (has dr) A P:=by
  unfold restStep
  rw [beside_of h hc,alone_of]
  have same:(∀ e ∈ A,isN c e.1=true→e.2=true→has dr c=false)→restP (has dr) A P=restP (has dr) A (c :: P):=fun hs=>by
    refine congrArg (List.map _) (List.filter_congr fun e he=>?_)
    unfold rP
    by_cases hx:clsE e=c
    · cases hf:e.2 with
      | false=>rfl
      | true =>
        rw [hx,hs e he (isN_iff.mpr hx) hf]
        cases P.contains c <;> cases (c :: P).contains c <;> rfl
    · rw [contains_ne hx]
  have inP:∀ e ∈ A,isN c e.1=true→e.1 ∈ restP (has dr) A P:=fun e he hx=>by
    refine List.mem_map.mpr ⟨e,List.mem_filter.mpr ⟨he,?_⟩,rfl⟩
    unfold rP
    rw [show clsE e=c from isN_iff.mp hx,hP,Bool.false_and,Bool.and_false]; rfl
  cases hL:A.filter (fun e=>isN c e.1) with
  | nil =>
    refine ⟨?_,fun a r q=>by cases q⟩
    rw [if_neg fun q=>absurd q.1 (Nat.not_lt_zero _)]
    refine same fun e he hx=>?_
    have:e ∈ A.filter (fun e=>isN c e.1):=List.mem_filter.mpr ⟨he,hx⟩
    rw [hL] at this; cases this
  | cons e0 r =>
    have hr:=h.first c e0 r hL
    have hm0:e0 ∈ A.filter (fun e=>isN c e.1):=by rw [hL]; exact .head _
    refine ⟨?_,fun a r' q=>?_⟩
    rotate_left
    · injection q with q1 _
      rw [← q1]
      exact inP e0 (List.mem_filter.mp hm0).1 (List.mem_filter.mp hm0).2
    have rall:r.filter (fun e=>!e.2)=r:=List.filter_eq_self.mpr fun e he=>by rw [hr e he]; rfl
    cases h0:e0.2 with
    | false =>
      have eb:(e0 :: r).filter (fun e=>!e.2)=e0 :: r:=by
        rw [List.filter_cons,h0,rall]; rfl
      rw [eb,if_neg fun q=>absurd q.1 (Nat.lt_irrefl _)]
      refine same fun e he hx hf=>?_
      have:e ∈ A.filter (fun e=>isN c e.1):=List.mem_filter.mpr ⟨he,hx⟩
      rw [hL] at this
      rcases List.mem_cons.mp this with q | q
      · rw [q,h0] at hf; cases hf
      · rw [hr e q] at hf; cases hf
    | true =>
      have eb:(e0 :: r).filter (fun e=>!e.2)=r:=by
        rw [List.filter_cons,h0,rall]; rfl
      rw [eb]
      cases hd:has dr c with
      | false =>
        rw [if_neg fun q=>by rw [show dr.any (isN c)=false from hd] at q; exact Bool.false_ne_true q.2]
        exact same fun _ _ _ _=>hd
      | true =>
        rw [if_pos ⟨by rw [List.length_map,List.length_map]; exact Nat.lt_succ_self _,hd⟩]
        show (restP (has dr) A P).erase e0.1=_
        have hF:(A.filter (rP (has dr) P)).filter (fun e=>isN c e.1)=e0 :: r:=by
          rw [List.filter_filter,← hL]
          refine List.filter_congr fun e he=>?_
          cases hx:isN c e.1 with
          | false=>rfl
          | true =>
            unfold rP
            rw [show clsE e=c from isN_iff.mp hx,hP,Bool.false_and,Bool.and_false]; rfl
        unfold restP
        rw [erase_first h0 hr hF,List.filter_filter]
        refine congrArg (List.map _) (List.filter_congr fun e he=>?_)
        unfold rP
        by_cases hx:clsE e=c
        · rw [show isN c e.1=true from isN_iff.mpr hx,hx,hP,hd,List.contains_cons,beq_self_eq_true]
          cases e.2 <;> rfl
        · have hx':isN c e.1=false:=by rw [Bool.eq_false_iff]; exact fun q=>hx (isN_iff.mp q)
          rw [hx',contains_ne hx,Bool.and_false]
          cases e.2 && (P.contains (clsE e) && has dr (clsE e)) <;> rfl
theorem rest_all {K:List PySem.Str} {A:List Ent} {π:PySem.Str→Bool} (h:Inv2 K A):restP π A ["ab", "b", "a"]=sel π A:=by
  refine congrArg (List.map _) (List.filter_congr fun e he=>?_)
  unfold rP
  have:∀ x ∈ CL,(["ab", "b", "a"]:List PySem.Str).contains x=true:=by decide +kernel
  rw [this _ (h.clA e he),Bool.true_and]
theorem rest_none (π:PySem.Str→Bool) (A:List Ent):restP π A []=A.map (·.1):=by
  unfold restP
  refine congrArg (List.map _) (List.filter_eq_self.mpr fun e _=>?_)
  unfold rP
  show (!(e.2 && (false && _)))=true
  rw [Bool.false_and,Bool.and_false]; rfl
noncomputable def zz:List PySem.Str:=["z", "Z"]
noncomputable def itemsAll (dr fP:Tb):Tb:=dr.filter fun p=>zz.any (· == p.1) || (fP.map (·.2)).any (· == oldS (Txt.lower p.1))
noncomputable def DrOk (dr:Tb):Prop:=∀ p ∈ dr,(zz.any (· == p.1)=true∧Txt.lower p.1 = "z")∨(zz.any (· == p.1)=false∧Txt.lower p.1 ∈ CL)
theorem items_of {K:List PySem.Str} {A:List Ent} {dr:Tb} (h:Inv2 K A) (hd:DrOk dr):itemsAll dr (keep K full0 ++ sel (has full0) A)=keep K dr:=by
  unfold itemsAll
  refine List.filter_congr fun p hp=>?_
  rcases hd p hp with ⟨h1,h2⟩ | ⟨h1,h2⟩
  · rw [h1,h2,Bool.true_or]
    have:K.contains "z" = false:=by
      rw [Bool.eq_false_iff]
      intro q
      have:=h.clK _ (List.contains_iff_mem.mp q)
      exact absurd this (by decide +kernel)
    rw [this]; rfl
  · rw [h1,Bool.false_or,List.any_map,List.any_append]
    have e1:(sel (has full0) A).any ((· == oldS (Txt.lower p.1)) ∘ (·.2))=false:=List.any_eq_false.mpr fun q hq=>by
      refine xEA (List.mem_map.mp hq) fun e he w=>?_
      rw [← w]
      show ¬ (e.1.2 == oldS _)=true
      rw [h.old e (List.mem_filter.mp he).1 _ h2]; exact Bool.false_ne_true
    rw [e1,Bool.or_false]
    have e2:(keep K full0).any ((· == oldS (Txt.lower p.1)) ∘ (·.2))=has (keep K full0) (Txt.lower p.1):=by
      unfold has
      have:∀ l:Tb,(∀ q ∈ l,q ∈ full0)→l.any ((· == oldS (Txt.lower p.1)) ∘ (·.2))=l.any (isN (Txt.lower p.1)):=by
        intro l hl
        induction l with
        | nil=>rfl
        | cons q l ih =>
          rw [List.any_cons,List.any_cons,ih fun w hw=>hl w (.tail _ hw)]
          show ((q.2 == oldS _) || _)=_
          rw [full_old _ h2 q (hl q (.head _))]
      exact this _ fun q hq=>keep_mem hq
    rw [e2,has_keep,(full_vals _ h2).2,Bool.and_true]
theorem keep_nil (T:Tb):keep [] T=T:=List.filter_eq_self.mpr fun _ _=>rfl
theorem inv_nil:Inv2 [] []:=⟨⟨fun e he=>(by cases he),fun c e r h=>(by cases h)⟩,fun e he=>(by cases he),fun e he=>(by cases he),fun x hx=>(by cases hx)⟩
/-- the plain law -/
structure Plain (dr:Tb) (ds:List Deed):Prop where
  told:(runR dr ds).1=toldL dr ds (runR [] ds).1 (runR full0 ds).1
  left:(runR dr ds).2=itemsAll dr (runR full0 ds).2 ++ CL.foldl (restStep (runR [] ds).2 (runR full0 ds).2 dr) (runR [] ds).2
  in_:∀ i c,CL[i]? = some c→∀ a r,aloneT (runR [] ds).2 c=a :: r→a ∈ (CL.take i).foldl (restStep (runR [] ds).2 (runR full0 ds).2 dr) (runR [] ds).2
theorem plain {dr:Tb} {ds:List Deed} (hd:∀ d ∈ ds,DeedN d) (hr:DrOk dr):Plain dr ds:=by
  have st:∀ T:Tb,keep [] T ++ sel (has T) []=T:=fun T=>by rw [keep_nil]; exact List.append_nil T
  have a1:=run_told (dr:=dr) inv_nil hd
  rw [st,st,st] at a1
  have a2:∀ T:Tb,(runR T ds).2=keep (tagR [] [] ds).1 T ++ sel (has T) (tagR [] [] ds).2:=fun T=>by
    have:=run_all (T:=T) inv_nil hd
    rwa [st] at this
  have hi:=inv_all inv_nil hd
  generalize (tagR [] [] ds).1=K at a2 hi
  generalize (tagR [] [] ds).2=A at a2 hi
  have e0:(runR [] ds).2=A.map (·.1):=by
    rw [a2]
    show sel (fun _=>false) A=_
    unfold sel
    refine congrArg (List.map _) (List.filter_eq_self.mpr fun e _=>?_)
    rw [Bool.and_false]; rfl
  have eF:=a2 full0
  have s1:=rest_step (dr:=dr) (P:=[]) hi (c := "a") (by decide +kernel) rfl
  have s2:=rest_step (dr:=dr) (P:=["a"]) hi (c := "b") (by decide +kernel) (by decide +kernel)
  have s3:=rest_step (dr:=dr) (P:=["b", "a"]) hi (c := "ab") (by decide +kernel) (by decide +kernel)
  rw [rest_none] at s1
  refine ⟨a1,?_,fun i c hc a r ha=>?_⟩
  · rw [a2 dr,e0,eF,items_of hi hr]
    show _=_ ++ restStep _ _ dr (restStep _ _ dr (restStep _ _ dr (A.map (·.1)) "a") "b") "ab"
    rw [s1.1,s2.1,s3.1,rest_all hi]
  · rw [e0,eF] at *
    match i,hc with
    | 0,hc =>
      have hc:=s1E hc
      subst hc
      exact s1.2 a r ha
    | 1,hc =>
      have hc:=s1E hc
      subst hc
      show a ∈ restStep _ _ dr (A.map (·.1)) "a"
      rw [s1.1]
      exact s2.2 a r ha
    | 2,hc =>
      have hc:=s1E hc
      subst hc
      show a ∈ restStep _ _ dr (restStep _ _ dr (A.map (·.1)) "a") "b"
      rw [s1.1,s2.1]
      exact s3.2 a r ha
    | i + 3,hc=>simp [CL] at hc
end
end
section
section
noncomputable def baseL:List Int:=[2,1827,842,2078,3012,424,186,565,271,38,786,29]
noncomputable def dsN (v:Nat→Nat) (i:Nat):List Deed:=(List.range i).map fun k=>deedN k (v k)
noncomputable def drN (v:Nat→Nat) (i:Nat):Tb:=(List.range i).flatMap fun k=>drawnN k (v k)
theorem dsN_succ (v:Nat→Nat) (i:Nat):dsN v (i + 1)=dsN v i ++ [deedN i (v i)]:=by
  unfold dsN
  rw [List.range_succ,List.map_append]; rfl
theorem drN_succ (v:Nat→Nat) (i:Nat):drN v (i + 1)=drN v i ++ drawnN i (v i):=by
  unfold drN
  rw [List.range_succ,List.flatMap_append]
  show _ ++ (drawnN i (v i) ++ [])=_
  rw [List.append_nil]
theorem dsN_len (v:Nat→Nat) (i:Nat):(dsN v i).length=i:=by
  unfold dsN
  rw [List.length_map,List.length_range]
theorem drawnN_len (i x:Nat):(drawnN i x).length ≤ 1:=by
  unfold drawnN
  split
  · exact Nat.le_refl _
  · exact Nat.zero_le _
theorem drN_len (v:Nat→Nat):∀ i,(drN v i).length ≤ i
  | 0=>Nat.le_refl _
  | i + 1=>by
    rw [drN_succ,List.length_append]
    have:=drN_len v i
    have:=drawnN_len i (v i)
    omega
noncomputable def textOk (t:PySem.Str):Bool:=okT t && (decide ((par t).length ≤ 2000) && (shortS (txt4 t) && (plOk t && CL.all fun c=>!(t == oldS c) && !(txt4 t == oldS c))))
theorem texts_ok:∀ k,k < 12→∀ c,c < 4→textOk ((txL k).getD c "")=true:=by decide +kernel
theorem names_ok:∀ b,b < 8→okN (nmL.getD b "")=true∧Txt.lower (nmL.getD b "") ∈ CL∧(nmL.getD b "").length ≤ 90:=by decide +kernel
theorem names10:∀ b,b < 10→okN (nmL.getD b "")=true∧((zz.any (· == nmL.getD b "")=true∧Txt.lower (nmL.getD b "") = "z")∨(zz.any (· == nmL.getD b "")=false∧Txt.lower (nmL.getD b "") ∈ CL)):=by decide +kernel
theorem drawn_ok:∀ k,k < 5→∀ b:Bool,rowOk ("a", if b then "t" ++ numS k else "")=true:=by decide +kernel
theorem deedN_ok {k x:Nat} (hk:k < 12):dpOk (deedN k x)=true∧DeedN (deedN k x)∧(deedN k x).name.length ≤ 90:=by
  have h1:x % 8 < 8:=Nat.mod_lt _ (by decide)
  have h2:=names_ok (x / 8 % 8) (Nat.mod_lt _ (by decide))
  have h3:=texts_ok k hk (x / 64 % 4) (Nat.mod_lt _ (by decide))
  unfold textOk at h3
  simp only [Bool.and_eq_true,decide_eq_true_eq,List.all_eq_true,Bool.not_eq_true'] at h3
  refine ⟨?_,⟨h1,h2.2.1,fun c hc=>(h3.2.2.2.2 c hc).1,fun c hc=>(h3.2.2.2.2 c hc).2⟩,h2.2.2⟩
  unfold dpOk deedOk
  show ((decide (x % 8 < 8) && (okN (nmL.getD (x / 8 % 8) "") && (okT ((txL k).getD (x / 64 % 4) "") && (decide ((par ((txL k).getD (x / 64 % 4) "")).length ≤ 2000) && shortS (txt4 ((txL k).getD (x / 64 % 4) "")))))) && plOk ((txL k).getD (x / 64 % 4) ""))=true
  rw [decide_eq_true h1,h2.1,h3.1,decide_eq_true h3.2.1,h3.2.2.1,h3.2.2.2.1]; rfl
theorem dsN_ok {v:Nat→Nat} {i:Nat} (hi:i ≤ 12):∀ d ∈ dsN v i,dpOk d=true∧DeedN d∧d.name.length ≤ 90:=fun d hd=>by
  refine xEA (List.mem_map.mp hd) fun k hk e=>?_
  rw [← e]
  exact deedN_ok (Nat.lt_of_lt_of_le (List.mem_range.mp hk) hi)
theorem drawnN_ok {k x:Nat} : ∀ p ∈ drawnN k x,rowOk p=true∧((zz.any (· == p.1)=true∧Txt.lower p.1 = "z")∨(zz.any (· == p.1)=false∧Txt.lower p.1 ∈ CL)):=fun p hp=>by
  unfold drawnN at hp
  split at hp
  · rename_i hx
    rw [List.mem_singleton.mp hp]
    have h1:=names10 (x / 256 % 12) hx.2
    refine ⟨?_,h1.2⟩
    have h2:=drawn_ok k hx.1 (decide (x / 256 % 2=0))
    unfold rowOk at h2 ⊢
    have h2:=Bool.and_eq_true_iff.mp h2
    show (okN (nmL.getD (x / 256 % 12) "") && (shortS (if x / 256 % 2=0 then "t" ++ numS k else "") && !((if x / 256 % 2=0 then "t" ++ numS k else "" : PySem.Str).cps.toList.any ctlV)))=true
    rw [h1.1,Bool.true_and]
    by_cases q:x / 256 % 2=0
    · have:=h2.2
      rw [decide_eq_true q] at this
      rw [if_pos q]; exact this
    · have:=h2.2
      rw [decide_eq_false q] at this
      rw [if_neg q]; exact this
  · cases hp
theorem drN_ok {v:Nat→Nat} {i:Nat} : ∀ p ∈ drN v i,rowOk p=true∧((zz.any (· == p.1)=true∧Txt.lower p.1 = "z")∨(zz.any (· == p.1)=false∧Txt.lower p.1 ∈ CL)):=fun p hp=>by
  refine xEA (List.mem_flatMap.mp hp) fun k _ h=>?_
  exact drawnN_ok p h
theorem full0_ok:full0.all rowOk=true:=by decide +kernel
end
end
section
section
theorem sliceD_mem (ds:List D) (lo hi st:Option Int):∀ d ∈ sliceD ds lo hi st,d ∈ ds:=by
  intro d hd
  unfold sliceD at hd
  (refine xEA (List.mem_filterMap.mp hd) fun i _ e=>?_)
  exact List.mem_of_getElem? e
theorem intsOf_map (l:List Int):intsOf (l.map .int)=some l:=by
  induction l with
  | nil=>rfl
  | cons a l ih =>
    show (intsOf (l.map .int)).map (a :: ·)=_
    rw [ih]; rfl
theorem all_ints {ds:List D} (h:∀ d ∈ ds,∃ i,d = .int i):∃ l:List Int,ds=l.map .int:=by
  induction ds with
  | nil=>exact ⟨[],rfl⟩
  | cons d ds ih =>
    (refine xE (h d (.head _)) fun i q0z=>?_; subst q0z)
    (refine xE (ih fun d hd=>h d (.tail _ hd)) fun l q0z=>?_; subst q0z)
    exact ⟨i :: l,rfl⟩
theorem fSum_map (σ:List AO) (l:List Int):fSum (.lst (l.map .int)) σ=some (.val (.int l.sum),σ):=by
  unfold fSum lstOf
  simp only [Option.bind_some,intsOf_map,Option.map_some]
theorem srcD_rng (σ:List AO) (a:Nat) (n:Nat) (ha:a ≤ 1000) (hn:n ≤ 1000):srcD (.rng a n) σ=some ⟨(List.range (n - a)).map fun (i:Nat)=>.int (((a + i:Nat)):Int),fun _=>True⟩:=by
  unfold srcD
  dsimp only
  rw [inR_nat (by omega),inR_nat (by omega),if_pos (show (true && true)=true from rfl)]
  unfold intsD
  rw [show ((n:Int) - (a:Int)).toNat=n - a by omega]
  simp
theorem fMod_lit (a b:Int) (hb:b ≠ 0):fMod (.int a) (.int b)=some (.int (a.fmod b)):=by
  unfold fMod
  dsimp only
  rw [if_pos hb]
theorem slc_at {mo mk mt:Mo D} {fr:Fr} {σ:List AO} {ds:List D} {k t:Int} (h:mo fr σ=some (.val (.lst ds),σ)) (hk:mk fr σ=some (.val (.int k),σ)) (ht:mt fr σ=some (.val (.int t),σ)) (h0:t ≠ 0):(match Mo.slice mo (some mk) none (some mt) fr σ with
      | some (.val zs,σ')=>some (Out.val (D.lst zs),σ')
      | _=>none)=some (.val (.lst (sliceD ds (some k) none (some t))),σ):=by
  have e:Mo.slice mo (some mk) none (some mt) fr σ=some (.val (sliceD ds (some k) none (some t)),σ):=ev_mbind h (ev_mbind (ev_part1 hk) (ev_mbind ev_part0 (ev_mbind (ev_part1 ht) ((if_pos fun q=>h0 (s1E q)).trans rfl))))
  rw [e]
theorem slcAll_at {mo:Mo D} {fr:Fr} {σ:List AO} {ds:List D} (h:mo fr σ=some (.val (.lst ds),σ)):(match Mo.slice mo none none none fr σ with
      | some (.val zs,σ')=>some (Out.val (D.ref σ'.length),σ' ++ [AO.lst zs])
      | _=>none)=some (.val (.ref σ.length),σ ++ [.lst ds]):=by
  have e:Mo.slice mo none none none fr σ=some (.val (sliceD ds none none none),σ):=ev_mbind h (ev_mbind ev_part0 (ev_mbind ev_part0 (ev_mbind ev_part0 ((if_pos fun q=>nnS q).trans rfl))))
  rw [e,sliceD_all]
theorem slc60_at {mo:Mo D} {fr:Fr} {σ:List AO} {ds:List D} (h:mo fr σ=some (.val (.lst ds),σ)):(match Mo.slice mo none (some (Mo.pure (.int 60))) none fr σ with
      | some (.val zs,σ')=>some (Out.val (D.lst zs),σ')
      | _=>none)=some (.val (.lst (sliceD ds none (some 60) none)),σ):=by
  have e:Mo.slice mo none (some (Mo.pure (.int 60))) none fr σ=some (.val (sliceD ds none (some 60) none),σ):=ev_mbind h (ev_mbind ev_part0 (ev_mbind (ev_part1 rfl) (ev_mbind ev_part0 ((if_pos fun q=>nnS q).trans rfl))))
  rw [e]
theorem fe_frz {x:PySem.Str} {m:Mf SF} {fr:Fr} {σ:List AO} {k:Nat} {ds:List D} {o:Out D} (h:fr x=some (.ref k)) (h2:σ[k]? = some (.lst ds)) (h3:∃ τ,Mf.fn m (upd fr x (.lst ds)) (σ.set k .dead)=some (o,τ)):∃ τ,Mf.fn (Mf.frz x m) fr σ=some (o,τ):=by
  have e2:Mf.frz x m fr σ=m (upd fr x (.lst ds)) (σ.set k .dead):=by
    unfold Mf.frz
    rw [h]
    show (Option.bind (some k) fun k=>(atL σ k).bind fun ds=>m (upd fr x (.lst ds)) (σ.set k .dead))=_
    rw [Option.bind_some,atL_mk h2,Option.bind_some]
  refine h3.imp fun τ e=>?_
  rw [← e]
  unfold Mf.fn
  rw [e2]
theorem Flat.rd {f:D} (h:Flat f):∃ x,Rd 1 f x:=by
  cases h with
  | str h=>exact ⟨_,(Rd.str h).up⟩
  | bool b=>exact ⟨_,(Rd.bool b).up⟩
  | lst h hl=>exact ⟨_,(Rds.map (m:=0) (f:=D.str) (g:=PyData.str) fun x hx=>.str (h x hx)).lst⟩
theorem run_rd {told:List D} {qs:Tb} {n:Nat} (h1:∀ f ∈ told,Flat f) (h2:TbOk qs n):∃ x,Rd 3 (.tup [.lst told,.lst (qs.map pD)]) x:=by
  refine xE (Rds.of (m:=1) fun f hf=>(h1 f hf).rd) fun xs hx=>?_
  have r2:Rds 1 (qs.map pD) (qs.map pP):=Rds.map fun p hp=>rd_pair (h2.row p hp)
  exact ⟨_,(Rds.cons hx.lst (.cons r2.lst .nil)).tup⟩
theorem fst_flat {ps:Tb} {n:Nat} {x:PySem.Str} {d:D} (h:TbOk ps n) (hd:has ps x=false→Flat d):Flat (fst? ps x d):=by
  unfold fst?
  cases hf:ps.find? (isN x) with
  | none =>
    refine hd ?_
    rw [List.find?_eq_none] at hf
    exact List.any_eq_false.mpr hf
  | some p=>exact .str (h.row p (List.mem_of_find?_eq_some hf)).2
theorem step_flat {ps:Tb} {d:Deed} (h:TbOk ps 900) (hd:DeedOk d):Flat (stepR ps d).1:=by
  have fm:Flat msgD:=.str (by decide +kernel)
  have fd:Flat doneD:=.str (by decide +kernel)
  have ft:Flat (.str d.text):=.str (okT_ok hd.text).1
  unfold stepR
  split
  · split
    · exact fm
    · exact fd
  · exact fd
  · split
    · rename_i hh
      exact fst_flat h fun q=>by rw [q] at hh; cases hh
    · split
      · exact fm
      · exact ft
  · split
    · exact fm
    · exact fd
  · split
    · exact fm
    · exact fd
  · exact fst_flat h fun _=>.str (by decide +kernel)
  · have e:vals ps (Txt.lower d.name)=((ps.filter (isN (Txt.lower d.name))).map (·.2)).map .str:=by
      unfold vals
      rw [List.map_map]; rfl
    rw [e]
    refine .lst (fun y hy=>?_) ?_
    · refine xEA (List.mem_map.mp hy) fun p hp q=>?_
      rw [← q]
      exact (h.row p (List.mem_filter.mp hp).1).2
    · rw [List.length_map]
      exact Nat.le_trans (List.length_filter_le ..) h.len
  · exact .bool _
theorem run_at_k:∀ {ds:List Deed} {ps:Tb} {k:Nat} {d:Deed},ds[k]? = some d→(runR ps ds).1[k]? = some (stepR (runR ps (ds.take k)).2 d).1
  | e :: ds,ps,0,d,h=>by rw [s1E h]; rfl
  | e :: ds,ps,k + 1,d,h=>run_at_k (ds:=ds) h
  | [],_,_,_,h=>by simp at h
theorem run_flat {ds:List Deed} {ps:Tb} (h:TbOk ps 20) (hl:ds.length ≤ 20) (hd:∀ d ∈ ds,DeedOk d):∀ f ∈ (runR ps ds).1,Flat f:=fun f hf=>by
  refine xE (List.mem_iff_getElem?.mp hf) fun k hk=>?_
  have hlt:k < ds.length:=by rw [← runR_len ps ds]; exact (List.getElem?_eq_some_iff.mp hk).1
  have e:=run_at_k (ps:=ps) (List.getElem?_eq_getElem hlt)
  rw [e] at hk
  rw [← s1E hk]
  have tb:=runR_ok h (ds:=ds.take k) fun d hm=>hd d (List.mem_of_mem_take hm)
  exact step_flat ⟨Nat.le_trans tb.len (by rw [List.length_take]; omega),tb.row⟩ (hd _ (List.getElem_mem hlt))
theorem six_lst {ps:Tb} {d:Deed} (h:d.kind=6):∃ ys,(stepR ps d).1 = .lst ys:=by
  obtain ⟨k,n,t⟩:=d
  have h:k=6:=h
  subst h
  exact ⟨_,rfl⟩
theorem restStep_sub (eP fP dr rest:Tb) (c:PySem.Str):(restStep eP fP dr rest c).Sublist rest:=by
  unfold restStep
  split
  · split
    · exact List.erase_sublist
    · exact .refl _
  · exact .refl _
theorem rests_sub (eP fP dr:Tb):∀ (cs:List PySem.Str) (rest:Tb),(cs.foldl (restStep eP fP dr) rest).Sublist rest
  | [],_=>.refl _
  | c :: cs,rest=>(rests_sub eP fP dr cs (restStep eP fP dr rest c)).trans (restStep_sub eP fP dr rest c)
theorem TbOk.sub {ps qs:Tb} {n:Nat} (h:TbOk ps n) (hs:qs.Sublist ps):TbOk qs n:=⟨Nat.le_trans hs.length_le h.len,fun p hp=>h.row p (hs.subset hp)⟩
noncomputable def itT (fP:Tb) (d:D):Bool:=match dTwo d with
  | some p=>zz.any (· == p.1) || (fP.map (·.2)).any (· == oldS (Txt.lower p.1))
  | none=>false
theorem it_eq (dr fP:Tb):((dr.map pD).filter (itT fP)).map (fun d=>d)=(itemsAll dr fP).map pD:=by
  rw [List.map_id',List.filter_map]; rfl
theorem snds_eq (ps:Tb):((ps.map pD).filter fun _=>true).map sndD=(ps.map (·.2)).map .str:=by
  rw [filter_true,List.map_map,List.map_map]; rfl
end
end
section
section
noncomputable def stAt (b:List Stmt) (i:Nat):Stmt:=match b[i]? with
  | some x=>x
  | none=>.Pass ⟨0,0,0,0⟩
theorem law_is (P:Params):bodyAt (K1 P) 194=[stAt (bodyAt (K1 P) 194) 0,stAt (bodyAt (K1 P) 194) 1,stAt (bodyAt (K1 P) 194) 2,stAt (bodyAt (K1 P) 194) 3,stAt (bodyAt (K1 P) 194) 4,stAt (bodyAt (K1 P) 194) 5,stAt (bodyAt (K1 P) 194) 6,stAt (bodyAt (K1 P) 194) 7,stAt (bodyAt (K1 P) 194) 8,stAt (bodyAt (K1 P) 194) 9,stAt (bodyAt (K1 P) 194) 10,stAt (bodyAt (K1 P) 194) 11]:=by kernel_rfl
end
end
section
section
/-- what the script's calls and the drawn table are known to be -/
structure Lw (ds:List Deed) (dr:Tb):Prop where
  dl:ds.length=12
  dok:∀ d ∈ ds,dpOk d=true∧DeedN d∧d.name.length ≤ 90
  rl:dr.length ≤ 12
  rok:∀ p ∈ dr,rowOk p=true∧((zz.any (· == p.1)=true∧Txt.lower p.1 = "z")∨(zz.any (· == p.1)=false∧Txt.lower p.1 ∈ CL))
theorem Lw.of (v:Nat→Nat):Lw (dsN v 12) (drN v 12):=⟨dsN_len v 12,dsN_ok (Nat.le_refl _),drN_len v 12,drN_ok⟩
theorem tb_of {ps:Tb} {n:Nat} (hl:ps.length ≤ n) (h:∀ p ∈ ps,rowOk p=true):TbOk ps n:=⟨hl,fun p hp=>by
  have:=rowOk_ok (h p hp)
  exact ⟨(okN_ok this.1).short,this.2.1⟩⟩
section
variable {ds:List Deed} {dr:Tb} (w:Lw ds dr)
include w
theorem Lw.dp:ds.all dpOk=true:=List.all_eq_true.mpr fun d hd=>(w.dok d hd).1
theorem Lw.de:ds.all deedOk=true:=List.all_eq_true.mpr fun d hd=>(Bool.and_eq_true_iff.mp (w.dok d hd).1).1
theorem Lw.ok:∀ d ∈ ds,DeedOk d:=fun d hd=>deedOk_ok (Bool.and_eq_true_iff.mp (w.dok d hd).1).1
theorem Lw.row:dr.all rowOk=true:=List.all_eq_true.mpr fun p hp=>(w.rok p hp).1
theorem Lw.tb:TbOk dr 12:=tb_of w.rl fun p hp=>(w.rok p hp).1
theorem Lw.plain:Plain dr ds:=Mine.plain (fun d hd=>(w.dok d hd).2.1) fun p hp=>(w.rok p hp).2
theorem Lw.run {ps:Tb} (hl:ps.length ≤ 12) (h:ps.all rowOk=true):TbOk (runR ps ds).2 24:=by
  have:=runR_ok (tb_of hl fun p hp=>List.all_eq_true.mp h p hp) w.ok
  rwa [w.dl] at this
theorem Lw.flat {ps:Tb} (hl:ps.length ≤ 12) (h:ps.all rowOk=true):∀ f ∈ (runR ps ds).1,Flat f:=run_flat (tb_of (n:=20) (by omega) fun p hp=>List.all_eq_true.mp h p hp) (by rw [w.dl]; omega) w.ok
theorem Lw.rd {ps:Tb} (hl:ps.length ≤ 12) (h:ps.all rowOk=true):∃ x,Rd 3 (runD ps ds) x:=run_rd (w.flat hl h) (w.run hl h)
end
end
section
variable {G:Amb} (h:G.K=K1 G.w.params) (hlo:1 ≤ G.lo)
include h hlo
theorem law5:∃ m,Ex G true 12 (scopeAt (K1 G.w.params) 194) (stAt (bodyAt (K1 G.w.params) 194) 5) m∧∀ fr (σ:List AO) ds dr,Lw ds dr→fr "deeds" = some (.lst (ds.map dD))→m fr σ=some (.val .next,upd (upd fr "empty" (runD [] ds)) "full" (runD full0 ds),σ):=by
  refine ⟨_,(Ex.asgn (Ev.tup (ms:=[_,_]) ⟨(Ev.call (g_law_run h rfl) (ms:=[_,_]) (mk:=[]) ⟨(Ev.lst (ms:=[]) trivial rfl),(Ev.loc rfl rfl),trivial⟩ trivial (i4_184 h) ((f_run h hlo).up (by omega)).ca),(Ev.call (g_law_run h rfl) (ms:=[_,_]) (mk:=[]) ⟨(Ev.lst (ms:=[_,_,_]) ⟨(Ev.tup (ms:=[_,_]) ⟨(Ev.kStr (by decide +kernel)),(Ev.kStr (by decide +kernel)),trivial⟩ rfl),(Ev.tup (ms:=[_,_]) ⟨(Ev.kStr (by decide +kernel)),(Ev.kStr (by decide +kernel)),trivial⟩ rfl),(Ev.tup (ms:=[_,_]) ⟨(Ev.kStr (by decide +kernel)),(Ev.kStr (by decide +kernel)),trivial⟩ rfl),trivial⟩ rfl),(Ev.loc rfl rfl),trivial⟩ trivial (i4_184 h) ((f_run h hlo).up (by omega)).ca),trivial⟩ rfl) (As.tup (fs:=[_,_]) ⟨(As.name (Or.inl rfl)),(As.name (Or.inr rfl)),trivial⟩ rfl) (sw_of fun env=>⟨rfl,by kernel_rfl,by kernel_rfl⟩)),?_⟩
  intro fr σ ds dr w fd
  have r1:=run_at (σ:=σ) (ps:=[]) (ds:=ds) (by decide) rfl (by rw [w.dl]; omega) w.de
  have r2:=run_at (σ:=σ) (ps:=full0) (ds:=ds) (by decide) full0_ok (by rw [w.dl]; omega) w.de
  exact st_asgn (ev_tup (ev_scons (ev_call2 (ev_lst (ds:=[]) rfl ev_l0) (ev_var fd) r1) (ev_scons (ev_call2 (ev_lst (ds:=full0.map pD) (ev_scons (ev_tup (ev_scons ev_mpure (ev_scons ev_mpure rfl)) ev_l2) (ev_scons (ev_tup (ev_scons ev_mpure (ev_scons ev_mpure rfl)) ev_l2) (ev_scons (ev_tup (ev_scons ev_mpure (ev_scons ev_mpure rfl)) ev_l2) rfl))) ev_l3) (ev_var fd) r2) rfl)) ev_l2) ev_tgt2
theorem law6:∃ m,Ex G true 12 (scopeAt (K1 G.w.params) 194) (stAt (bodyAt (K1 G.w.params) 194) 6) m∧∀ fr (σ:List AO) ds dr,Lw ds dr→fr "deeds" = some (.lst (ds.map dD))→fr "empty" = some (runD [] ds)→m fr σ=some (.val .next,fr,σ):=by
  refine ⟨_,(Ex.ite (Cd.cmp (Ev.loc rfl rfl) (Ev.call (g_law_plain h rfl) (ms:=[_]) (mk:=[]) ⟨(Ev.loc rfl rfl),trivial⟩ trivial (i4_189 h) ((f_plain h).up (by omega)).ca) (Op2.ne (by omega)))
      (Exs.cons (Ex.ret Ev.kBool)
      Exs.nil)
      Exs.nil),?_⟩
  intro fr σ ds dr w fd fe
  refine xE (w.rd (ps:=[]) (by decide) rfl) fun x rd=>?_
  exact st_ifF (ev_tru (ev_op2 (ev_var fe) (ev_call1 (ev_var fd) (plain_at (by rw [w.dl]; omega) w.dp)) (ne_self rd (by decide))) rfl) rfl
end
end
section
section
variable {G:Amb} (h0:G.K=K1 G.w.params)
include h0
theorem law0:∃ m,Ex G true 12 (scopeAt (K1 G.w.params) 194) (stAt (bodyAt (K1 G.w.params) 194) 0) m∧∀ fr (σ:List AO) ds,fr "script" = some (.lst ds)→m fr σ=some (.val .next,upd fr "own" (.lst (sliceD ds none (some 60) none)),σ):=by
  have h:=h0
  refine ⟨_,(Ex.asgn (Ev.slcF (ml:=none) (mh:=(some _)) (ms:=none) (Ev.loc rfl rfl) trivial Ev.kInt trivial) (As.name (Or.inr rfl)) (sw_of fun env=>⟨rfl,by kernel_rfl,by kernel_rfl⟩)),?_⟩
  intro fr σ ds fs
  exact st_asgn (slc60_at (ev_var fs)) ev_set
end
end
section
section
/-- the second statement: a list of ints -/
theorem base_is (P:Params):∃ p0 pL pa a0 a1 a2 a3 a4 a5 a6 a7 a8 a9 a10 a11,stAt (bodyAt (K1 P) 194) 1 = .Assign [.Name "base" p0] (.List [.Constant (.int 2) 0 a0,.Constant (.int 1827) 0 a1,.Constant (.int 842) 0 a2,.Constant (.int 2078) 0 a3,.Constant (.int 3012) 0 a4,.Constant (.int 424) 0 a5,.Constant (.int 186) 0 a6,.Constant (.int 565) 0 a7,.Constant (.int 271) 0 a8,.Constant (.int 38) 0 a9,.Constant (.int 786) 0 a10,.Constant (.int 29) 0 a11] pL) pa:=⟨_,_,_,_,_,_,_,_,_,_,_,_,_,_,_,rfl⟩
theorem base_sw {p0 pL pa a0:Pos} {es:List Expr} (P:Params) (env:Env) (he:env.scope=scopeAt (K1 P) 194):(assignEach [Expr.Name "base" p0] env).map (·.2)=[assign (Expr.Name "base" p0) env]∧swapsWithSole [Expr.Name "base" p0] (.List (.Constant (.int 2) 0 a0 :: es) pL) pa.line env=pure false∧swappedStores [Expr.Name "base" p0] (.List (.Constant (.int 2) 0 a0 :: es) pL) env=pure none :=
  sw_of (P:=fun env=>(assignEach [Expr.Name "base" p0] env).map (·.2)=[assign (Expr.Name "base" p0) env]∧swapsWithSole [Expr.Name "base" p0] (.List (.Constant (.int 2) 0 a0 :: es) pL) pa.line env=pure false∧swappedStores [Expr.Name "base" p0] (.List (.Constant (.int 2) 0 a0 :: es) pL) env=pure none) (fun env=>⟨rfl,by kernel_rfl,by kernel_rfl⟩) env he
theorem evl_0 {G:Amb} {hn:Bool} {n:Nat} {Z:Scope} : EvL G hn n Z [] []:=trivial
theorem evl_i {G:Amb} {hn:Bool} {n:Nat} {Z:Scope} {i:Int} {k:Nat} {p:Pos} {es:List Expr} {ms:List (Mo D)} (h:EvL G hn n Z es ms):EvL G hn n Z (.Constant (.int i) k p :: es) (Mo.pure (.int i) :: ms):=⟨Ev.kInt,h⟩
theorem seq_ints (zs:List Int) {fr:Fr} {σ:List AO} : Mo.seq (zs.map fun i=>Mo.pure (.int i)) fr σ=some (.val (zs.map .int),σ):=by
  induction zs with
  | nil=>rfl
  | cons z zs ih=>exact ev_scons ev_mpure ih
/-- a list of ints goes to a name (said of any list: the elaborator looks no further than the sign for 'there is') -/
theorem list_goes {G:Amb} {n:Nat} {Z:Scope} {x:PySem.Str} {zs:List Int} {i:Int} {kd:Nat} {p0 p1 pL pa:Pos} {es:List Expr} (nk:NameK Z x)
    (sw:∀ env:Env,env.scope=Z→(assignEach [Expr.Name x p0] env).map (·.2)=[assign (Expr.Name x p0) env]∧swapsWithSole [Expr.Name x p0] (.List (.Constant (.int i) kd p1 :: es) pL) pa.line env=pure false∧swappedStores [Expr.Name x p0] (.List (.Constant (.int i) kd p1 :: es) pL) env=pure none)
    (hl:EvL G true n Z (.Constant (.int i) kd p1 :: es) (zs.map fun i=>Mo.pure (.int i))) (hs:(Expr.Constant (.int i) kd p1 :: es).all notStar=true) (hz:zs.length ≤ sizeLine) :
    ∃ m,Ex G true n Z (.Assign [.Name x p0] (.List (.Constant (.int i) kd p1 :: es) pL) pa) m∧(∀ env,env.scope=Z→Mints (exec (.Assign [.Name x p0] (.List (.Constant (.int i) kd p1 :: es) pL) pa) env))∧∀ fr (σ:List AO),m fr σ=some (.val .next,upd fr x (.lst (zs.map .int)),σ) :=
  ⟨_,Ex.asgn (Ev.lst hl hs) (As.name nk) sw,mints_list sw,fun fr σ=>st_asgn (ev_lst (seq_ints zs) (by rw [List.length_map]; exact hz)) ev_set⟩
variable {G:Amb} (h0:G.K=K1 G.w.params)
include h0
theorem law1:∃ m,Ex G true 12 (scopeAt (K1 G.w.params) 194) (stAt (bodyAt (K1 G.w.params) 194) 1) m∧(∀ env,env.scope=scopeAt (K1 G.w.params) 194→Mints (exec (stAt (bodyAt (K1 G.w.params) 194) 1) env))∧∀ fr (σ:List AO),m fr σ=some (.val .next,upd fr "base" (.lst (baseL.map .int)),σ):=by
  obtain ⟨p0,pL,pa,a0,a1,a2,a3,a4,a5,a6,a7,a8,a9,a10,a11,e⟩:=base_is G.w.params
  rw [e]
  clear e
  have nk:NameK (scopeAt (K1 G.w.params) 194) "base" := Or.inr (by kernel_rfl)
  have sw:=base_sw (p0:=p0) (pL:=pL) (pa:=pa) (a0:=a0) (es:=[.Constant (.int 1827) 0 a1,.Constant (.int 842) 0 a2,.Constant (.int 2078) 0 a3,.Constant (.int 3012) 0 a4,.Constant (.int 424) 0 a5,.Constant (.int 186) 0 a6,.Constant (.int 565) 0 a7,.Constant (.int 271) 0 a8,.Constant (.int 38) 0 a9,.Constant (.int 786) 0 a10,.Constant (.int 29) 0 a11]) G.w.params
  generalize scopeAt (K1 G.w.params) 194=Z at nk sw ⊢
  exact list_goes (zs:=baseL) nk sw (evl_i (evl_i (evl_i (evl_i (evl_i (evl_i (evl_i (evl_i (evl_i (evl_i (evl_i (evl_i evl_0)))))))))))) rfl (by decide)
end
end
section
section
variable {G:Amb} (h:G.K=K1 G.w.params) (hlo:1 ≤ G.lo)
include h hlo
theorem law2:∃ m,Ex G true 12 (scopeAt (K1 G.w.params) 194) (stAt (bodyAt (K1 G.w.params) 194) 2) m∧∀ fr (own:List Int),fr "own" = some (.lst (own.map .int))→own.length ≤ 63→fr "base" = some (.lst (baseL.map .int))→∃ v:Nat→Nat,m fr []=some (.val .next,upd fr "nums" (.lst ((List.range 12).map fun k=>D.int (v k))),[]):=by
  refine ⟨_,(Ex.asgnF (CompL.one (W:=[]) (Ev.call (g_range h rfl) (ms:=[_]) (mk:=[]) ⟨Ev.kInt,trivial⟩ trivial Kep.typ Ca.range) (AsC.name rfl) Ts.nil (Ev.bin (Ev.bin (Ev.sub (Ev.cel rfl rfl) (Ev.loc rfl rfl) Op2.idx rfl) (Ev.call (g_sum h rfl) (ms:=[_]) (mk:=[]) ⟨(Ev.slcF (ml:=(some _)) (mh:=none) (ms:=(some _)) (Ev.cel rfl rfl) (Ev.loc rfl rfl) trivial Ev.kInt),trivial⟩ trivial Kep.blt Ca.sum) Op2.add) (Ev.bin Ev.kInt Ev.kInt Op2.pow) Op2.mod) (by first | rfl | kernel_rfl)) (Or.inl rfl) (sw_of fun env=>by kernel_rfl)),?_⟩
  intro fr own fo hol fb
  have hz:sizeLine=16777216:=rfl
  -- the numbers
  have hsl:∀ k:Nat,∃ l:List Int,sliceD (own.map D.int) (some (k:Int)) none (some 12)=l.map .int:=fun k=>all_ints fun d hd=>by
    have:=sliceD_mem _ _ _ _ d hd
    refine xEA (List.mem_map.mp this) fun i _ e=>?_
    exact ⟨i,e.symm⟩
  refine xE (show ∃ L:Nat→List Int,∀ k:Nat,sliceD (own.map D.int) (some (k:Int)) none (some 12)=(L k).map .int from ⟨fun k=>(hsl k).choose,fun k=>(hsl k).choose_spec⟩) fun L hL=>?_
  clear hsl
  refine xE (show ∃ v:Nat→Nat,∀ k,(baseL.getD k 0 + (L k).sum).fmod 1000000=(v k:Int) from ⟨fun k=>((baseL.getD k 0 + (L k).sum).fmod 1000000).toNat,fun k=>(Int.toNat_of_nonneg (Int.fmod_nonneg_of_pos _ (by decide))).symm⟩) fun v hv=>?_
  have nE:(((List.range (12 - 0)).map fun (i:Nat)=>D.int (((0 + i:Nat)):Int)).filter fun _=>true).map (fun d=>match d with
      | .int k=>.int (v k.toNat)
      | _=>.none)=(List.range 12).map fun k=>D.int (v k):=by
    rw [filter_true,List.map_map]
    refine List.map_congr_left fun k _=>?_
    show D.int (v (((0 + k:Nat):Int)).toNat)=_
    rw [Nat.zero_add,Int.toNat_natCast]
  refine ⟨v,st_asgnF (y := "nums") (x:=⟨(List.range (12 - 0)).map fun (i:Nat)=>D.int (((0 + i:Nat)):Int),fun _=>True⟩) (fun fr=>fr "own" = some (.lst (own.map .int))∧fr "base" = some (.lst (baseL.map .int))) (fun _=>true) _ (ev_call1 ev_mpure fRng_1) (srcD_rng [] 0 12 (by decide) (by decide)) trivial ⟨ev_frIn (by unfold frIn; rw [if_pos (by kernel_rfl)]) fo,ev_frIn (by unfold frIn; rw [if_pos (by kernel_rfl)]) fb⟩ (fun a ha f hI=>?_) nE (by rw [List.length_map,List.length_range]; omega)⟩
  · refine xEA (List.mem_map.mp ha) fun k hk e=>?_
    subst e
    rw [List.mem_range] at hk
    rw [Nat.zero_add]
    have k1:upd f "k" (.int (k:Int)) "k" = some (.int (k:Int)):=upd_same _ _ _
    have o1:upd f "k" (.int (k:Int)) "own" = some (.lst (own.map .int)):=(upd_diff (by decide)).trans hI.1
    have b1:upd f "k" (.int (k:Int)) "base" = some (.lst (baseL.map .int)):=(upd_diff (by decide)).trans hI.2
    have bk:(baseL.map D.int)[k]? = some (.int (baseL.getD k 0)):=by
      have:k < baseL.length:=hk
      rw [List.getElem?_map,List.getElem?_eq_getElem this,List.getD_eq_getElem?_getD,List.getElem?_eq_getElem this]; rfl
    have s1:=fSum_map [] (L k)
    rw [← hL k] at s1
    have p1:fPow (.int 10) (.int 6)=some (.int 1000000):=by kernel_rfl
    refine ⟨rfl,⟨o1,b1⟩,rfl,fun _=>⟨_,⟨o1,b1⟩,ev_emOne (d:=.int (v k)) ?_⟩⟩
    rw [← hv k]
    exact ev_op2 (ev_op2 (idx_at (ev_var b1) (ev_var k1) (by omega) bk) (ev_call1 (slc_at (ev_var o1) (ev_var k1) ev_mpure (by decide)) (ev_one1 s1)) (ev_omap fAdd_ii)) (ev_op2 ev_mpure ev_mpure (ev_omap p1)) (ev_omap (fMod_lit _ _ (by decide)))
end
end
section
theorem evl_s {G:Amb} {hn:Bool} {n:Nat} {Z:Scope} {x:PySem.Str} {k:Nat} {p:Pos} {es:List Expr} {ms:List (Mo D)} (hx:x.length ≤ sizeLine) (h:EvL G hn n Z es ms):EvL G hn n Z (.Constant (.str x) k p :: es) (Mo.pure (.str x) :: ms):=⟨Ev.kStr hx,h⟩
theorem seq_strs (zs:List PySem.Str) {fr:Fr} {σ:List AO} : Mo.seq (zs.map fun x=>Mo.pure (.str x)) fr σ=some (.val (zs.map .str),σ):=by
  induction zs with
  | nil=>rfl
  | cons z zs ih=>exact ev_scons ev_mpure ih
/-- the fourth statement: its tree -/
theorem names_is (P:Params):∃ p1 p2 p3 pt es pe q1 q2 pv pa,stAt (bodyAt (K1 P) 194) 3 = .Assign [.Tuple [.Name "names" p1,.Name "deeds" p2,.Name "drawn" p3] 0 pt] (.Tuple [.List es pe,.List [] q1,.List [] q2] 0 pv) pa ∧
    (∀ G n Z,EvL G true n Z es (nmL.map fun x=>Mo.pure (.str x)))∧es.all notStar=true ∧
    ∀ env:Env,env.scope=scopeAt (K1 P) 194→swapsWithSole [Expr.Tuple [.Name "names" p1,.Name "deeds" p2,.Name "drawn" p3] 0 pt] (.Tuple [.List es pe,.List [] q1,.List [] q2] 0 pv) pa.line env=Pure.pure false∧swappedStores [Expr.Tuple [.Name "names" p1,.Name "deeds" p2,.Name "drawn" p3] 0 pt] (.Tuple [.List es pe,.List [] q1,.List [] q2] 0 pv) env=Pure.pure (some [PySem.Str.ofString "names", PySem.Str.ofString "deeds", PySem.Str.ofString "drawn"]) :=
  ⟨_,_,_,_,_,_,_,_,_,_,rfl,fun G n Z=>evl_s (by decide +kernel) (evl_s (by decide +kernel) (evl_s (by decide +kernel) (evl_s (by decide +kernel) (evl_s (by decide +kernel) (evl_s (by decide +kernel) (evl_s (by decide +kernel) (evl_s (by decide +kernel) (evl_s (by decide +kernel) (evl_s (by decide +kernel) trivial))))))))),rfl,sw_of fun env=>⟨by kernel_rfl,by kernel_rfl⟩⟩
/-- (said of any list: the elaborator looks no further than the sign for 'there is') -/
theorem names_goes {G:Amb} {n:Nat} {Z:Scope} {p1 p2 p3 pt pe q1 q2 pv pa:Pos} {es:List Expr} {zs:List PySem.Str} (k1:NameK Z "names") (k2:NameK Z "deeds") (k3:NameK Z "drawn")
    (sw:∀ env:Env,env.scope=Z→swapsWithSole [Expr.Tuple [.Name "names" p1,.Name "deeds" p2,.Name "drawn" p3] 0 pt] (.Tuple [.List es pe,.List [] q1,.List [] q2] 0 pv) pa.line env=Pure.pure false∧swappedStores [Expr.Tuple [.Name "names" p1,.Name "deeds" p2,.Name "drawn" p3] 0 pt] (.Tuple [.List es pe,.List [] q1,.List [] q2] 0 pv) env=Pure.pure (some [PySem.Str.ofString "names", PySem.Str.ofString "deeds", PySem.Str.ofString "drawn"]))
    (hl:EvL G true n Z es (zs.map fun x=>Mo.pure (.str x))) (hs:es.all notStar=true) (hz:zs.length ≤ sizeLine) :
    ∃ m,Ex G true n Z (.Assign [.Tuple [.Name "names" p1,.Name "deeds" p2,.Name "drawn" p3] 0 pt] (.Tuple [.List es pe,.List [] q1,.List [] q2] 0 pv) pa) m∧∀ f1,m f1 []=some (.val .next,upd (upd (upd f1 "drawn" (.ref 1)) "deeds" (.ref 0)) "names" (.lst (zs.map .str)),SE [] []):=by
  refine ⟨_,Ex.swap3 (Ev.tup (ms:=[_,_,_]) ⟨Ev.lst hl hs,Ev.lstR (ms:=[]) trivial rfl,Ev.lstR (ms:=[]) trivial rfl,trivial⟩ rfl) k1 k2 k3 sw,?_⟩
  intro f1
  have l3:Mo.lstR [] f1 ([] ++ [.lst []])=some (.val (.ref 1),SE [] []):=ev_lstR (σ1:=[] ++ [.lst []]) (ds:=[]) rfl ev_l0
  have l2:Mo.lstR [] f1 []=some (.val (.ref 0),[] ++ [.lst []]):=ev_lstR (σ1:=[]) (ds:=[]) rfl ev_l0
  exact (st_asgn (ev_tup (ev_scons (ev_lst (seq_strs zs) (by rw [List.length_map]; exact hz)) (ev_scons l2 (ev_scons l3 rfl))) ev_l3) ev_swap3)
section
variable {G:Amb} (h:G.K=K1 G.w.params) (hlo:1 ≤ G.lo)
include h hlo
theorem law3:∃ m,Ex G true 12 (scopeAt (K1 G.w.params) 194) (stAt (bodyAt (K1 G.w.params) 194) 3) m∧∀ f1,m f1 []=some (.val .next,upd (upd (upd f1 "drawn" (.ref 1)) "deeds" (.ref 0)) "names" (.lst (nmL.map .str)),SE [] []):=by
  obtain ⟨p1,p2,p3,pt,es,pe,q1,q2,pv,pa,e,hl,hs,sw⟩:=names_is G.w.params
  rw [e]
  have k1:NameK (scopeAt (K1 G.w.params) 194) "names" := Or.inl (by kernel_rfl)
  have k2:NameK (scopeAt (K1 G.w.params) 194) "deeds" := Or.inl (by kernel_rfl)
  have k3:NameK (scopeAt (K1 G.w.params) 194) "drawn" := Or.inl (by kernel_rfl)
  exact names_goes (zs:=nmL) k1 k2 k3 sw (hl _ _ _) hs (by decide)
end
end
section
section
variable {G:Amb} (h:G.K=K1 G.w.params) (hlo:1 ≤ G.lo)
include h hlo
theorem law4:∃ m,Ex G true 12 (scopeAt (K1 G.w.params) 194) (stAt (bodyAt (K1 G.w.params) 194) 4) m∧∀ f2 (v:Nat→Nat),f2 "nums" = some (.lst ((List.range 12).map fun k=>D.int (v k)))→EnFr f2→∃ f3,EnFr f3∧m f2 (SE [] [])=some (.val .next,f3,SE (dsN v 12) (drN v 12)):=by
  refine xEA (enumTurn h hlo) fun mE hE tE=>?_
  refine ⟨_,(Ex.for (Itr.enum (g_enumerate h rfl) (Ev.loc rfl rfl))
      (As.tup (fs:=[_,_]) ⟨(As.name (Or.inl rfl)),(As.name (Or.inl rfl)),trivial⟩ rfl)
      hE),?_⟩
  intro f2 v n2 E2
  refine (ex_forJ (x:=⟨numd ((List.range 12).map fun k=>D.int (v k)),fun _=>True⟩) (fun i fr σ=>EnFr fr∧σ=SE (dsN v i) (drN v i)) EnFr (ev_mbind (a:=([D.lst ((List.range 12).map fun k=>D.int (v k))],[])) (ev_mbind (ev_scons (ev_var n2) rfl) (ev_mbind rfl rfl)) rfl) (fun _ _ _ _=>trivial) ⟨E2,rfl⟩ (fun i d f σ hd hJ=>?_) fun f σ hJ=>⟨hJ.1,?_⟩)
  · refine xA hJ fun E e=>?_
    subst e
    refine xEA (numd_at hd) fun y hy e=>?_
    subst e
    rw [List.getElem?_map] at hy
    refine xEA (Option.map_eq_some_iff.mp hy) fun j hj e=>?_
    subst e
    have hi:i < 12:=by
      have:=(List.getElem?_eq_some_iff.mp hj).1
      rwa [List.length_range] at this
    have hji:j=i:=by
      rw [List.getElem?_range hi] at hj
      exact (s1E hj).symm
    subst hji
    have:=drN_len v j
    have e1:=tE (upd (upd f "turn" (.int (j:Int))) "x" (.int (v j:Int))) j (v j) (dsN v j) (drN v j) ⟨by have:=E.names; dsimp! only [],by have:=E.deeds; dsimp! only [],by have:=E.drawn; dsimp! only []⟩ (by dsimp! only []) (by dsimp! only []) hi (by rw [dsN_len]; omega) (by omega)
    refine ⟨_,_,ev_turn ev_tgt2 e1,⟨by have:=E.names; dsimp! only [],by have:=E.deeds; dsimp! only [],by have:=E.drawn; dsimp! only []⟩,?_⟩
    rw [dsN_succ,drN_succ]
  · rw [hJ.2]
    have:(numd ((List.range 12).map fun k=>D.int (v k))).length=12:=by rw [numd_len,List.length_map,List.length_range]
    show SE (dsN v (numd _).length) (drN v (numd _).length)=_
    rw [this]
end
end
section
section
variable {G:Amb} (h:G.K=K1 G.w.params) (hlo:1 ≤ G.lo)
include h hlo
theorem law7:∃ m,Ex G true 12 (scopeAt (K1 G.w.params) 194) (stAt (bodyAt (K1 G.w.params) 194) 7) m∧∀ fr ds dr fT (fP:Tb),Lw ds dr→TbOk fP 24→fr "drawn" = some (.lst (dr.map pD))→fr "full" = some (.tup [fT,.lst (fP.map pD)])→m fr [.dead,.dead]=some (.val .next,upd (upd fr "items" (.lst ((itemsAll dr fP).map pD))) "told" (.ref 2),SD []):=by
  refine ⟨_,(Ex.swap2 (t1:=(.Constant .none 0 ⟨0,0,0,0⟩)) (t2:=(.Constant .none 0 ⟨0,0,0,0⟩)) (Ev.tup (ms:=[_,_]) ⟨(Ev.lstR (ms:=[]) trivial rfl),(Ev.lcF (CompL.one (W:=[]) (Ev.loc rfl rfl) (AsC.name rfl) (Ts.one (Cd.or (ms:=[_,_]) ⟨(Cd.cmp (Ev.sub (Ev.loc rfl rfl) Ev.kInt Op2.idx rfl) (Ev.tup (ms:=[_,_]) ⟨(Ev.kStr (by decide +kernel)),(Ev.kStr (by decide +kernel)),trivial⟩ rfl) (Op2.in (by omega))),(Cd.cmp (Ev.bin (Ev.kStr (by decide +kernel)) (Ev.methS F.slot_str_lower F.type_str_lower (Ev.sub (Ev.loc rfl rfl) Ev.kInt Op2.idx rfl) (ms:=[]) (mk:=[]) trivial trivial Ca.lower) Op2.add) (Ev.lcF (CompL.one (W:=[]) (Ev.sub (Ev.cel rfl rfl) Ev.kInt Op2.idx rfl) (AsC.pair rfl rfl) Ts.nil (Ev.loc rfl rfl) (by first | rfl | kernel_rfl))) (Op2.in (by omega))),trivial⟩)) (Ev.loc rfl rfl) (by first | rfl | kernel_rfl))),trivial⟩ rfl) (Or.inl rfl) (Or.inl rfl) (sw_of fun env=>⟨by kernel_rfl,by kernel_rfl⟩)),?_⟩
  intro fr ds dr fT fP w hf fd ff
  have hz:sizeLine=16777216:=rfl
  have hfl:=hf.len
  have hdl:=w.rl
  have il:(itemsAll dr fP).length ≤ dr.length:=List.length_filter_le ..
  refine st_swap2 (ev_tup (ev_scons (ev_lstR (σ1:=[.dead,.dead]) (ds:=[]) rfl ev_l0) (ev_scons (ev_lcF (x:=⟨dr.map pD,fun _=>True⟩) (fun fr=>fr "full" = some (.tup [fT,.lst (fP.map pD)])) (itT fP) (fun d=>d) (ev_var fd) src_lst trivial (ev_frIn (by unfold frIn; rw [if_pos (by kernel_rfl)]) ff) (fun a ha fr hI=>?_) (it_eq dr fP) (by rw [List.length_map]; omega)) rfl)) ev_l2)
  refine xEA (List.mem_map.mp ha) fun p hm e=>?_
  subst e
  have s1:=(w.tb.row p hm).1
  have on:=okN_ok (rowOk_ok (w.rok p hm).1).1
  have hI':upd fr "pair" (pD p) "full" = some (.tup [fT,.lst (fP.map pD)]):=(upd_diff (by decide)).trans hI
  have p1:upd fr "pair" (pD p) "pair" = some (pD p):=upd_same _ _ _
  have az:∀ x ∈ zz,Asc x:=by
    have:∀ x ∈ zz,∀ c ∈ x.cps.toList,c < 128:=by decide +kernel
    exact this
  have i1:=in_tup (σ:=SD []) (s:=p.1) (xs:=zz) (short_asc s1) az
  have et:itT fP (pD p)=(zz.any (· == p.1) || (fP.map (·.2)).any (· == oldS (Txt.lower p.1))):=rfl
  rw [et]
  have hL:(Txt.lower p.1).length ≤ 100:=by
    have hC:∀ c ∈ CL,c.length ≤ 100:=by decide +kernel
    have hZ:(PySem.Str.ofString "z").length ≤ 100:=by decide +kernel
    rcases (w.rok p hm).2 with q | q
    · rw [q.2]; exact hZ
    · exact hC _ q.2
  have ol:=old_len (short_lower s1) hL
  have i2:=in_lst (σ:=SD []) (s:=oldS (Txt.lower p.1)) (xs:=fP.map (·.2)) (short_asc ol) fun y hy=>by
    refine xEA (List.mem_map.mp hy) fun q hq e=>?_
    rw [← e]; exact short_asc (hf.row q hq).2
  refine ⟨rfl,hI',?_,fun _=>⟨_,hI',ev_emOne (ev_var p1)⟩⟩
  refine ev_ocons (ev_tru (ev_op2 (idx_tup (i:=0) (ev_var p1) ev_mpure (by decide) rfl) (ev_tup (ev_scons ev_mpure (ev_scons ev_mpure rfl)) ev_l2) i1) rfl) ?_
  cases zz.any (· == p.1) with
  | true=>rfl
  | false =>
    refine (ev_ocons (ev_tru (ev_op2 (add_str (a:=.none) (b:=.none) ev_mpure (ev_low (idx_tup (i:=0) (ev_var p1) ev_mpure (by decide) rfl) (shortS_le s1)) ?_) (ev_lcF (x:=⟨fP.map pD,fun _=>True⟩) (fun _=>True) (fun _=>true) sndD (idx_tup (i:=1) (ev_var hI') ev_mpure (by decide) rfl) src_lst trivial trivial (pair_step fun q hq fr=>ev_emOne (d:=.str q.2) (ev_var (by dsimp! only []))) (snds_eq fP) (by rw [List.length_map,List.length_map]; omega)) i2) rfl) rfl).trans ?_
    · have q1:(PySem.Str.ofString "old ").length=4:=by decide +kernel
      have:("old " : PySem.Str).length=4:=q1
      omega
    · cases (fP.map (·.2)).any (· == oldS (Txt.lower p.1)) <;> rfl
end
end
section
section
variable {G:Amb} (h:G.K=K1 G.w.params) (hlo:1 ≤ G.lo)
include h hlo
theorem law8:∃ m,Ex G true 12 (scopeAt (K1 G.w.params) 194) (stAt (bodyAt (K1 G.w.params) 194) 8) m∧∀ fr ds dr eP fP it,Lw ds dr→ToFr fr ds dr (runR [] ds).1 (runR full0 ds).1 eP fP it→∃ fr',ToFr fr' ds dr (runR [] ds).1 (runR full0 ds).1 eP fP it∧m fr (SD [])=some (.val .next,fr',SD (toldL dr ds (runR [] ds).1 (runR full0 ds).1)):=by
  refine xEA (toldTurn h hlo) fun mT hT tT=>?_
  refine ⟨_,(Ex.for (Itr.ev (Ev.call (g_range h rfl) (ms:=[_]) (mk:=[]) ⟨Ev.kInt,trivial⟩ trivial Kep.typ Ca.range))
      (As.name (Or.inl rfl))
      hT),?_⟩
  intro fr ds dr eP fP it w F
  have le:(runR [] ds).1.length=ds.length:=runR_len [] ds
  have lf:(runR full0 ds).1.length=ds.length:=runR_len full0 ds
  have hl:=w.dl
  have flat:=w.flat (ps:=full0) (by decide) full0_ok
  have six:∀ (k:Nat) (d:Deed) (f:D),ds[k]? = some d→(runR full0 ds).1[k]? = some f→d.kind=6→∃ ys,f = .lst ys:=fun k d f hd hf h6=>by
    rw [run_at_k hd] at hf
    rw [← s1E hf]
    exact six_lst h6
  have tl:(toldL dr ds (runR [] ds).1 (runR full0 ds).1).length=ds.length:=toldL_len dr le lf
  generalize (runR [] ds).1=eT at F le tl ⊢
  generalize (runR full0 ds).1=fT at F lf flat six tl ⊢
  refine ex_forJ (x:=⟨(List.range (12 - 0)).map fun (i:Nat)=>D.int (((0 + i:Nat)):Int),fun _=>True⟩) (fun k fr σ=>ToFr fr ds dr eT fT eP fP it∧σ=SD ((toldL dr ds eT fT).take k)) (fun fr=>ToFr fr ds dr eT fT eP fP it) (ev_src (ev_call1 ev_mpure fRng_1) (srcD_rng _ 0 12 (by decide) (by decide))) (fun _ _ _ _=>trivial) ⟨F,rfl⟩ (fun k d f σ hd hJ=>?_) fun f σ hJ=>⟨hJ.1,?_⟩
  · refine xA hJ fun F e=>?_
    subst e
    rw [List.getElem?_map] at hd
    refine xEA (Option.map_eq_some_iff.mp hd) fun j hj e=>?_
    subst e
    have hk:k < 12:=by
      have:=(List.getElem?_eq_some_iff.mp hj).1
      rwa [List.length_range] at this
    have hjk:j=k:=by
      rw [List.getElem?_range (by omega)] at hj
      exact (s1E hj).symm
    subst hjk
    rw [Nat.zero_add]
    have d1:ds[j]? = some ds[j]:=List.getElem?_eq_getElem (by omega)
    have d2:eT[j]? = some eT[j]:=List.getElem?_eq_getElem (by omega)
    have d3:fT[j]? = some fT[j]:=List.getElem?_eq_getElem (by omega)
    have dm:ds[j] ∈ ds:=List.getElem_mem _
    have on:=(deedOk_ok (Bool.and_eq_true_iff.mp (w.dok _ dm).1).1).name
    refine xEA (tT (upd f "k" (.int (j:Int))) ds dr eT fT eP fP it ((toldL dr ds eT fT).take j) j _ _ _ F.upd (upd_same _ _ _) (by omega) (by rw [List.length_take]; omega) ⟨Nat.le_trans w.rl (by decide),w.tb.row⟩ d1 on (w.dok _ dm).2.2 d2 d3 (flat _ (List.getElem_mem _)) (six j _ _ d1 d3)) fun fr' F' e=>?_
    refine ⟨_,_,ev_turn ev_set e,F',?_⟩
    have:=toldL_at dr d1 d2 d3
    rw [List.take_add_one,this]; rfl
  · rw [hJ.2]
    show SD ((toldL dr ds eT fT).take (List.map _ _).length)=_
    rw [List.length_map,List.length_range,List.take_of_length_le (by omega)]
theorem law9:∃ m,Ex G true 12 (scopeAt (K1 G.w.params) 194) (stAt (bodyAt (K1 G.w.params) 194) 9) m∧∀ fr eT (eP:Tb) told,fr "empty" = some (.tup [eT,.lst (eP.map pD)])→m fr (SD told)=some (.val .next,upd fr "rest" (.ref 3),SR told eP):=by
  refine ⟨_,(Ex.asgn (Ev.slcR (ml:=none) (mh:=none) (ms:=none) (Ev.sub (Ev.loc rfl rfl) Ev.kInt Op2.idx rfl) trivial trivial trivial) (As.name (Or.inl rfl)) (sw_of fun env=>⟨rfl,by kernel_rfl,by kernel_rfl⟩)),?_⟩
  intro fr eT eP told fe
  exact st_asgn (slcAll_at (idx_tup (i:=1) (ev_var fe) ev_mpure (by decide) rfl)) ev_set
end
end
section
section
variable {G:Amb} (h:G.K=K1 G.w.params) (hlo:1 ≤ G.lo)
include h hlo
theorem law10:∃ m,Ex G true 12 (scopeAt (K1 G.w.params) 194) (stAt (bodyAt (K1 G.w.params) 194) 10) m∧∀ fr ds dr it told,Lw ds dr→ReFr fr ds it dr (runR [] ds).1 (runR full0 ds).1 (runR [] ds).2 (runR full0 ds).2→∃ fr',ReFr fr' ds it dr (runR [] ds).1 (runR full0 ds).1 (runR [] ds).2 (runR full0 ds).2∧m fr (SR told (runR [] ds).2)=some (.val .next,fr',SR told (CL.foldl (restStep (runR [] ds).2 (runR full0 ds).2 dr) (runR [] ds).2)):=by
  refine xEA (restTurn h hlo) fun mR hR tR=>?_
  refine ⟨_,(Ex.for (Itr.ev (Ev.tup (ms:=[_,_,_]) ⟨(Ev.kStr (by decide +kernel)),(Ev.kStr (by decide +kernel)),(Ev.kStr (by decide +kernel)),trivial⟩ rfl))
      (As.name (Or.inr rfl))
      hR),?_⟩
  intro fr ds dr it told w F
  have hp:=w.plain.in_
  have tE:=w.run (ps:=[]) (by decide) rfl
  have tF:=w.run (ps:=full0) (by decide) full0_ok
  generalize (runR [] ds).1=eT at F ⊢
  generalize (runR full0 ds).1=fT at F ⊢
  generalize (runR [] ds).2=eP at F hp tE ⊢
  generalize (runR full0 ds).2=fP at F hp tF ⊢
  have up:∀ {T:Tb},TbOk T 24→TbOk T 900:=fun t=>⟨Nat.le_trans t.len (by decide),t.row⟩
  have hC:∀ c ∈ CL,shortS c=true∧c.length ≤ 100:=by decide +kernel
  refine ex_forJ (x:=⟨CL.map .str,fun _=>True⟩) (fun i fr σ=>ReFr fr ds it dr eT fT eP fP∧σ=SR told ((CL.take i).foldl (restStep eP fP dr) eP)) (fun fr=>ReFr fr ds it dr eT fT eP fP) (ev_src (ev_tup (ev_scons ev_mpure (ev_scons ev_mpure (ev_scons ev_mpure rfl))) ev_l3) rfl) (fun _ _ _ _=>trivial) ⟨F,rfl⟩ (fun i d f σ hd hJ=>?_) fun f σ hJ=>⟨hJ.1,?_⟩
  · refine xA hJ fun F e=>?_
    subst e
    rw [List.getElem?_map] at hd
    refine xEA (Option.map_eq_some_iff.mp hd) fun c hc e=>?_
    subst e
    have cm:=hC c (List.mem_of_getElem? hc)
    refine xEA (tR (upd f "name" (.str c)) ds it dr eT fT eP fP told ((CL.take i).foldl (restStep eP fP dr) eP) c F.upd (upd_same _ _ _) cm.1 cm.2 ⟨Nat.le_trans w.rl (by decide),w.tb.row⟩ (up tE) (up tF) ((up tE).sub (rests_sub ..)) (hp i c hc)) fun fr' F' e=>?_
    refine ⟨_,_,ev_turn ev_set e,F',?_⟩
    rw [List.take_add_one,hc,List.foldl_append]; rfl
  · rw [hJ.2]
    show SR told ((CL.take (CL.map _).length).foldl _ _)=_
    rw [List.length_map,List.take_length]
theorem law11:∃ m,Exs G true 12 (scopeAt (K1 G.w.params) 194) [stAt (bodyAt (K1 G.w.params) 194) 11] m∧∀ fr (σ:List AO) ds dr,Lw ds dr→fr "drawn" = some (.lst (dr.map pD))→fr "deeds" = some (.lst (ds.map dD))→fr "told" = some (.lst (toldL dr ds (runR [] ds).1 (runR full0 ds).1))→fr "items" = some (.lst ((itemsAll dr (runR full0 ds).2).map pD))→fr "rest" = some (.lst ((CL.foldl (restStep (runR [] ds).2 (runR full0 ds).2 dr) (runR [] ds).2).map pD)) →
      ∃ τ,Mf.fn m fr σ=some (.val (.bool true),τ):=by
  refine ⟨_,Exs.cons ((Ex.ret (Ev.cmp (Ev.call (g_law_run h rfl) (ms:=[_,_]) (mk:=[]) ⟨(Ev.loc rfl rfl),(Ev.loc rfl rfl),trivial⟩ trivial (i4_184 h) ((f_run h hlo).up (by omega)).ca) (Ev.tup (ms:=[_,_]) ⟨(Ev.loc rfl rfl),(Ev.bin (Ev.loc rfl rfl) (Ev.loc rfl rfl) Op2.addL),trivial⟩ rfl) (Op2.eq (by omega))))) Exs.nil,?_⟩
  intro fr σ ds dr w fd fe ft fi fs
  have hz:sizeLine=16777216:=rfl
  refine xE (w.rd (ps:=dr) w.rl w.row) fun x rd=>?_
  have hdl:=w.rl
  have r1:=run_at (σ:=σ) (ps:=dr) (ds:=ds) (by omega) w.row (by rw [w.dl]; omega) w.de
  have e:runD dr ds = .tup [.lst (toldL dr ds (runR [] ds).1 (runR full0 ds).1),.lst ((itemsAll dr (runR full0 ds).2).map pD ++ (CL.foldl (restStep (runR [] ds).2 (runR full0 ds).2 dr) (runR [] ds).2).map pD)]:=by
    unfold runD
    rw [w.plain.told,w.plain.left,List.map_append]
  have il:(itemsAll dr (runR full0 ds).2).length ≤ dr.length:=List.length_filter_le ..
  have rl:=((w.run (ps:=[]) (by decide) rfl).sub (rests_sub (runR [] ds).2 (runR full0 ds).2 dr CL (runR [] ds).2)).len
  have q:=eq_self (σ:=σ) rd (by decide)
  refine ⟨σ,fn_ret (σ1:=σ) (st_ret (ev_op2 (ev_call2 (ev_var fd) (ev_var fe) r1) (ev_tup (ev_scons (ev_var ft) (ev_scons (ev_op2 (ev_var fi) (ev_var fs) (addL_at (by rw [List.length_map,List.length_map]; omega))) rfl)) ev_l2) ?_))⟩
  rw [← e]
  exact q
end
end
section
/-- (said of any statements: the elaborator looks no further than the sign for 'there is') -/
theorem seqX {G:Amb} {hn:Bool} {n:Nat} {Z:Scope} {s2 s3 s4 s5 s6 s7 s8 s9 s10 s11:Stmt} {P2 P3 P4 P5 P6 P7 P8 P9 P10 P11 P:Mf SF→Prop} (x2:∃ m,Ex G hn n Z s2 m∧P2 m) (x3:∃ m,Ex G hn n Z s3 m∧P3 m) (x4:∃ m,Ex G hn n Z s4 m∧P4 m) (x5:∃ m,Ex G hn n Z s5 m∧P5 m) (x6:∃ m,Ex G hn n Z s6 m∧P6 m) (x7:∃ m,Ex G hn n Z s7 m∧P7 m) (x8:∃ m,Ex G hn n Z s8 m∧P8 m) (x9:∃ m,Ex G hn n Z s9 m∧P9 m) (x10:∃ m,Ex G hn n Z s10 m∧P10 m) (x11:∃ m,Exs G hn n Z [s11] m∧P11 m) (hp:∀ m2 m3 m4 m5 m6 m7 m8 m9 m10 m11,P2 m2→P3 m3→P4 m4→P5 m5→P6 m6→P7 m7→P8 m8→P9 m9→P10 m10→P11 m11→P (Mf.seq m2 (Mf.seq m3 (Mf.seq m4 (Mf.frz "deeds" (Mf.frz "drawn" (Mf.seq m5 (Mf.seq m6 (Mf.seq m7 (Mf.seq m8 (Mf.seq m9 (Mf.seq m10 (Mf.frz "told" (Mf.frz "rest" m11)))))))))))))) :
    ∃ m,Exs G hn n Z [s2,s3,s4,s5,s6,s7,s8,s9,s10,s11] m∧P m :=
  xEA x2 fun m2 x2 e2=>xEA x3 fun m3 x3 e3=>xEA x4 fun m4 x4 e4=>xEA x5 fun m5 x5 e5=>xEA x6 fun m6 x6 e6=>xEA x7 fun m7 x7 e7=>xEA x8 fun m8 x8 e8=>xEA x9 fun m9 x9 e9=>xEA x10 fun m10 x10 e10=>xEA x11 fun m11 x11 e11=>⟨_,Exs.cons x2 (Exs.cons x3 (Exs.cons x4 (Exs.frz "deeds" (Exs.frz "drawn" (Exs.cons x5 (Exs.cons x6 (Exs.cons x7 (Exs.cons x8 (Exs.cons x9 (Exs.cons x10 (Exs.frz "told" (Exs.frz "rest" x11)))))))))))),hp m2 m3 m4 m5 m6 m7 m8 m9 m10 m11 e2 e3 e4 e5 e6 e7 e8 e9 e10 e11⟩
section
variable {G:Amb} (h:G.K=K1 G.w.params) (hlo:1 ≤ G.lo)
include h hlo
theorem lawG:∃ m,Exs G true 12 (scopeAt (K1 G.w.params) 194) [stAt (bodyAt (K1 G.w.params) 194) 2,stAt (bodyAt (K1 G.w.params) 194) 3,stAt (bodyAt (K1 G.w.params) 194) 4,stAt (bodyAt (K1 G.w.params) 194) 5,stAt (bodyAt (K1 G.w.params) 194) 6,stAt (bodyAt (K1 G.w.params) 194) 7,stAt (bodyAt (K1 G.w.params) 194) 8,stAt (bodyAt (K1 G.w.params) 194) 9,stAt (bodyAt (K1 G.w.params) 194) 10,stAt (bodyAt (K1 G.w.params) 194) 11] m ∧
    ∀ fr (own:List Int),fr "own" = some (.lst (own.map .int))→own.length ≤ 63→fr "base" = some (.lst (baseL.map .int))→∃ τ,Mf.fn m fr []=some (.val (.bool true),τ):=by
  refine seqX (law2 h hlo) (law3 h hlo) (law4 h hlo) (law5 h hlo) (law6 h hlo) (law7 h hlo) (law8 h hlo) (law9 h hlo) (law10 h hlo) (law11 h hlo) fun m2 m3 m4 m5 m6 m7 m8 m9 m10 m11 e2 e3 e4 e5 e6 e7 e8 e9 e10 e11=>?_
  intro fr own fo hol fb
  refine xE (e2 fr own fo hol fb) fun v q2=>?_
  refine fe_next q2 (fe_next (e3 _) ?_)
  have n2:upd (upd (upd (upd fr "nums" (.lst ((List.range 12).map fun k=>D.int (v k)))) "drawn" (.ref 1)) "deeds" (.ref 0)) "names" (.lst (nmL.map .str)) "nums" = some (.lst ((List.range 12).map fun k=>D.int (v k))):=by dsimp! only []
  have E2:EnFr (upd (upd (upd (upd fr "nums" (.lst ((List.range 12).map fun k=>D.int (v k)))) "drawn" (.ref 1)) "deeds" (.ref 0)) "names" (.lst (nmL.map .str))):=⟨upd_same _ _ _,by dsimp! only [],by dsimp! only []⟩
  refine fe_by EnFr (e4 _ v n2 E2) fun f3 E3=>?_
  clear n2 E2 q2
  have w:=Lw.of v
  generalize dsN v 12=ds at w ⊢
  generalize drN v 12=dr at w ⊢
  refine fe_frz (σ:=SE ds dr) E3.deeds rfl (fe_frz (k:=1) (ds:=dr.map pD) ((upd_diff (by decide)).trans E3.drawn) rfl ?_)
  show ∃ τ,Mf.fn _ _ [.dead,.dead]=_
  have f4:upd (upd f3 "deeds" (.lst (ds.map dD))) "drawn" (.lst (dr.map pD)) "drawn" = some (.lst (dr.map pD)):=upd_same _ _ _
  have g4:upd (upd f3 "deeds" (.lst (ds.map dD))) "drawn" (.lst (dr.map pD)) "deeds" = some (.lst (ds.map dD)):=by dsimp! only []
  generalize upd (upd f3 "deeds" (.lst (ds.map dD))) "drawn" (.lst (dr.map pD))=fr4 at f4 g4 ⊢
  refine fe_next (e5 fr4 _ ds dr w g4) ?_
  have f5:upd (upd fr4 "empty" (runD [] ds)) "full" (runD full0 ds) "drawn" = some (.lst (dr.map pD)):=by dsimp! only []
  have g5:upd (upd fr4 "empty" (runD [] ds)) "full" (runD full0 ds) "deeds" = some (.lst (ds.map dD)):=by dsimp! only []
  have a5:upd (upd fr4 "empty" (runD [] ds)) "full" (runD full0 ds) "empty" = some (runD [] ds):=by dsimp! only []
  have b5:upd (upd fr4 "empty" (runD [] ds)) "full" (runD full0 ds) "full" = some (runD full0 ds):=upd_same _ _ _
  generalize upd (upd fr4 "empty" (runD [] ds)) "full" (runD full0 ds)=fr5 at f5 g5 a5 b5 ⊢
  refine fe_next (e6 fr5 _ ds dr w g5 a5) (fe_next (e7 fr5 ds dr _ (runR full0 ds).2 w (w.run (by decide) full0_ok) f5 b5) ?_)
  have T7:ToFr (upd (upd fr5 "items" (.lst ((itemsAll dr (runR full0 ds).2).map pD))) "told" (.ref 2)) ds dr (runR [] ds).1 (runR full0 ds).1 (.lst ((runR [] ds).2.map pD)) (.lst ((runR full0 ds).2.map pD)) (.lst ((itemsAll dr (runR full0 ds).2).map pD)):=⟨by dsimp! only [],by dsimp! only [],by dsimp! only [],by dsimp! only []; exact a5,by dsimp! only []; exact b5,upd_same _ _ _⟩
  refine fe_by (fun f=>ToFr f ds dr (runR [] ds).1 (runR full0 ds).1 (.lst ((runR [] ds).2.map pD)) (.lst ((runR full0 ds).2.map pD)) (.lst ((itemsAll dr (runR full0 ds).2).map pD))) (e8 _ ds dr _ _ _ w T7) fun f8 T8=>?_
  clear T7
  refine fe_next (e9 f8 _ (runR [] ds).2 _ T8.empty) ?_
  have R9:ReFr (upd f8 "rest" (.ref 3)) ds (.lst ((itemsAll dr (runR full0 ds).2).map pD)) dr (runR [] ds).1 (runR full0 ds).1 (runR [] ds).2 (runR full0 ds).2:=⟨(upd_diff (by decide)).trans T8.deeds,(upd_diff (by decide)).trans T8.items,(upd_diff (by decide)).trans T8.told,(upd_diff (by decide)).trans T8.drawn,(upd_diff (by decide)).trans T8.empty,(upd_diff (by decide)).trans T8.full,upd_same _ _ _⟩
  refine fe_by (fun f=>ReFr f ds (.lst ((itemsAll dr (runR full0 ds).2).map pD)) dr (runR [] ds).1 (runR full0 ds).1 (runR [] ds).2 (runR full0 ds).2) (e10 _ ds dr _ _ w R9) fun f10 R10=>?_
  refine fe_frz (k:=2) R10.told rfl (fe_frz (k:=3) ((upd_diff (by decide)).trans R10.rest) rfl ?_)
  exact e11 _ _ ds dr w (((upd_diff (by decide)).trans (upd_diff (by decide))).trans R10.drawn) (((upd_diff (by decide)).trans (upd_diff (by decide))).trans R10.deeds) ((upd_diff (by decide)).trans (upd_same _ _ _)) (((upd_diff (by decide)).trans (upd_diff (by decide))).trans R10.items) (upd_same _ _ _)
end
end
section
theorem sixty_len (ds:List D) (h:ds.length ≤ 63):(sliceD ds none (some 60) none).length ≤ 63:=by
  have e:sliceBounds none (some 60) none ds.length=(((0:Nat):Int),((clipAt ds.length 60:Nat):Int),1):=sliceBounds_plain none (some 60) ds.length
  unfold sliceD
  rw [e]
  simp only [sliceRange_one,pickL,List.length_take,List.length_drop]
  omega
/-- (said of any statements: the elaborator looks no further than the sign for 'there is') -/
theorem join_all {G:Amb} {hn:Bool} {n:Nat} {Z:Scope} {s0 s1:Stmt} {rest:List Stmt} {P0 P1 Pg P:Mf SF→Prop} (hlo:G.lo=0) (x0:∃ m,Ex G hn n Z s0 m∧P0 m) (x1:∃ m,Ex G hn n Z s1 m∧(∀ env,env.scope=Z→Mints (exec s1 env))∧P1 m) (xg:∃ m,Exs G.up hn n Z rest m∧Pg m) (hp:∀ m0 m1 mg,P0 m0→P1 m1→Pg mg→P (Mf.seq m0 (Mf.seq m1 mg))) :
    ∃ m,Exs G hn n Z (s0 :: s1 :: rest) m∧P m :=
  xEA x0 fun m0 x0 e0=>xEA x1 fun m1 x1 z=>xA z fun mi e1=>xEA xg fun mg xg eg=>⟨_,Exs.cons x0 (Exs.switch hlo x1 mi xg),hp m0 m1 mg e0 e1 eg⟩
section
variable {G:Amb} (h0:G.K=K1 G.w.params) (hlo0:G.lo=0)
include h0 hlo0
theorem lawAll:∃ m,Exs G true 12 (scopeAt (K1 G.w.params) 194) (bodyAt (K1 G.w.params) 194) m∧∀ ns:List Int,ns.length ≤ 63→∃ τ,Mf.fn m (upd (fun _=>none) "script" (.lst (ns.map .int))) []=some (.val (.bool true),τ):=by
  have L:=lawG (G:=G.up) h0 (Nat.le_refl 1)
  rw [show G.up.w.params=G.w.params from rfl] at L
  rw [law_is]
  refine join_all hlo0 (law0 h0) (law1 h0) L fun m0 m1 mg e0 e1 eg=>?_
  clear L
  intro ns hns
  refine xE (all_ints (ds:=sliceD (ns.map .int) none (some 60) none) fun d hd=>xEA (List.mem_map.mp (sliceD_mem _ _ _ _ d hd)) fun i _ e=>⟨i,e.symm⟩) fun own ho=>?_
  have hl:=sixty_len (ns.map .int) (by rw [List.length_map]; exact hns)
  rw [ho,List.length_map] at hl
  have q0:=e0 (upd (fun _=>none) "script" (.lst (ns.map .int))) [] (ns.map .int) (upd_same _ _ _)
  rw [ho] at q0
  exact fe_next q0 (fe_next (e1 _ _) (eg _ own ((upd_diff (by decide)).trans (upd_same _ _ _)) hl (upd_same _ _ _)))
end
end
end Mine
end
section
open PySem PySem.W PyProof.Rows PySem.Calls
set_option maxRecDepth 100000
set_option maxHeartbeats 8000000
namespace Mine
theorem join1 {w:World} {s₁:Shared} {p:Program} {loose:List PySem.Str} {mean:ExcName→Option Value} {mg mb:PySem.Str→Option Value} (T:Top p loose mean mg mb s₁.heap) (KX:(pre.heap_1 w.params).In s₁.heap) {prog:Program}
    {fa:Addr} (hfa:mg "law" = some (.ref fa)) {l:Addr} {vs:List Value} {ns:List Int} (hL:s₁.heap.IsList l vs.toArray) (hI:IntsAre vs ns) (hlen:ns.length ≤ 63) {R:Result→Shared→Prop}
    (hR:∀ h' (tk:Tk 0),(∀ b o,s₁.heap.get? b=some o→h'.get? b=some o)→R (.ok (.ret (.bool true))) (ShT s₁ h' tk)):codeAny (model prog w) callerA (.call (.ref fa) ⟨[.ref l],[]⟩) R s₁:=by
  let G:Amb:={ prog:=prog,w:=w,K:=K1 w.params,base:=s₁.heap,mg:=mg,mb:=mb,lo:=0 }
  have hok:G.Ok:=⟨KX,T.g,T.b,T.nolimit,T.builtins⟩
  have h:G.K=K1 G.w.params:=rfl
  have h194:mg "law" = some (.ref 194):=mg_of (K:=K1 w.params) KX T.g rfl
  rw [h194] at hfa
  cases hfa
  (refine xEA (lawAll (G:=G) h rfl) fun m hm hs=>?_)
  (refine xE (hs ns hlen) fun σ' e=>?_)
  exact Fn.topAt (G:=G) h hok (ok_194 _) (fun S v=>by kernel_rfl) (by kernel_rfl) hm rfl rfl (by decide +kernel) (by decide +kernel) (list_rv hL hI hlen) e rfl (Nat.zero_le _) fun a c S' tk H r=>by
    cases r
    exact hR S'.h tk H.stays
/-- the program's twin for the looks at the top: the program itself (the line's own, in codes, is far larger, and the looks are as quick without) -/
noncomputable def whole.tw9572675723669041075:Program:=PySem.Challenge.pw_ta0143_01
theorem whole.te9572675723669041075:PySem.Challenge.pw_ta0143_01=whole.tw9572675723669041075:=rfl
set_option Elab.async true in
theorem whole:PySem.Challenge.rw_ta0143_01.Holds:=by
  w_on
  o_law
  o_head (kHook pre.heap_1 [2,3,35,36,40,41,45,46,47,48,50,51,53,54,62,63,65,66,68,69,70,72,73,75,76,77,79,80,82,83,84,86,87,89,90,91,94,95,96,98,99,101,102,103,105,106,108,109,110,113,114,115,116,118,119,121,122,123,126,127,128,131,132,133,135,136,138,139,140,142,143,145,146,147,150,151,152,154,155,157,158,159,161,162,164,165,166,168,169,171,172,173,174,175,176,177,180,183,184,185,188,189,190,193,194] (fun _=>by kernel_rfl))
  case hw=>w_witness2
  intro w s₀ s₁ mg mb G Y fa o pm cd doc dV kV ho hd hcd hD hmg hg args vals as hpre hlay hrd hwl hlo
  have KX:=kIn_of Y
  have T:=G.T
  clear Y G ho hd hcd hD
  wrow_args hpre hlay hrd hwl hlo
  refine enter_call ?_
  refine join1 T KX hmg (by assumption) (by assumption) (by omega) fun h' tk hk=>?_
  exact ⟨.inl ⟨.bool true,.bool true,[],rfl,fun _=>rfl,.bool true,(by first | kernel_rfl | with_unfolding_all rfl | decide),fun _=>⟨List.nodup_nil,fun a ha=>(by cases ha)⟩⟩,OldK.of_keep hk,rfl,fun y hy=>(by rw [hg] at hy; simp at hy)⟩
end Mine
end
open PySem PySem.W PyProof.Rows
set_option maxRecDepth 100000 in
set_option maxHeartbeats 8000000 in
theorem PySem.Challenge.cw_ta0143_01_holds : PySem.Challenge.rw_ta0143_01.Holds := by
  exact Mine.whole
