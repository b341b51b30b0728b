import PyProof.Rows.All
import Wide.All
import OpenK.AllK
import Wide.FinOn
import Lean
import PySem.Challenge.RW_kq0074_01
set_option Elab.async false
set_option maxRecDepth 100000
set_option linter.unusedVariables false
set_option tactic.hygienic false
noncomputable section
open PySem PySem.W PyProof.Rows PySem.Spec PySem.Calls
set_option Elab.async false
set_option maxRecDepth 100000
namespace Mine
noncomputable abbrev Fz:=Addr → Option Obj
noncomputable def Fz.le (F G:Fz):Prop:=∀ a o,F a = some o → G a = some o
theorem Fz.le.refl (F:Fz):F.le F:=fun ℓ ℓ e => e
theorem Fz.le.trans {F G H:Fz} (x:F.le G) (y:G.le H):F.le H:=fun a o e => y a o (x a o e)
inductive V where
  | none
  | bool (b:Bool)
  | int (i:Int)
  | str (s:List Nat)
  | bytes (b:List UInt8)
  | list (l:List V)
  | tuple (l:List V)
  | ty (n:String)
  | bi (id:String)
  | ref (a:Addr)
  | range (a c:Int) (n:Nat)
mutual
inductive Rep (F:Fz):Value → V → Prop
  | none:Rep F .none .none
  | bool (b:Bool):Rep F (.bool b) (.bool b)
  | int (i:Int) (t:Tok):Rep F (.int i t) (.int i)
  | str (s:Str) (t:Tok):Rep F (.str s t) (.str s.cps.toList)
  | bytes (b:Array UInt8) (t:Tok):Rep F (.bytes b t) (.bytes b.toList)
  | list {a:Addr} {o:Obj} {xs:Array Value} {ep:Nat} {l:List V}:F a = some o → o.cls = .type "list" → o.data = .seq xs ep → Reps F xs.toList l → Rep F (.ref a) (.list l)
  | tuple {a:Addr} {o:Obj} {xs:Array Value} {ep:Nat} {l:List V}:F a = some o → o.cls = .type "tuple" → o.data = .seq xs ep → Reps F xs.toList l → Rep F (.ref a) (.tuple l)
  | ty (n:String):Rep F (.type n) (.ty n)
  | bi (id:String):Rep F (.builtin id) (.bi id)
  | ref (a:Addr):Rep F (.ref a) (.ref a)
  | range {r:Addr} {a b c:Int} {t u v:Tok} {n:Nat}:F r = some { cls:=.type "range",dict:=none,data:=.fields #[.int a t,.int b u,.int c v],slots:=#[] } →
      Builtin.Range.small a b c = true → Builtin.Range.rangeSize a b c = n → Rep F (.ref r) (.range a c n)
inductive Reps (F:Fz):List Value → List V → Prop
  | nil:Reps F [] []
  | cons {v:Value} {u:V} {vs:List Value} {us:List V}:Rep F v u → Reps F vs us → Reps F (v :: vs) (u :: us)
end
inductive RepS (F:Fz) (c:String) (v:Value) (l:List V):Prop
  | mk (a:Addr) (o:Obj) (xs:Array Value) (ep:Nat) (ev:v = .ref a) (e:F a = some o) (hc:o.cls = .type c) (hd:o.data = .seq xs ep) (hr:Reps F xs.toList l)
inductive RepR (F:Fz) (v:Value) (a c:Int) (n:Nat):Prop
  | mk (r:Addr) (b:Int) (t u w:Tok) (ev:v = .ref r) (e:F r = some { cls:=.type "range",dict:=none,data:=.fields #[.int a t,.int b u,.int c w],slots:=#[] })
      (h1:Builtin.Range.small a b c = true) (h2:Builtin.Range.rangeSize a b c = n)
noncomputable def RepI (F:Fz) (v:Value) (u:V):Prop :=
  V.casesOn (motive_1:=fun ℓ => Prop) u (v = .none) (fun b => v = .bool b) (fun i => ∃ t,v = .int i t) (fun x => ∃ s t,v = .str s t ∧ x = s.cps.toList) (fun b => ∃ a t,v = .bytes a t ∧ b = a.toList)
    (fun l => RepS F "list" v l) (fun l => RepS F "tuple" v l) (fun n => v = .type n) (fun n => v = .builtin n) (fun a => v = .ref a) (fun a c n => RepR F v a c n)
theorem Rep.inv {F:Fz} {v:Value} {u:V} (r:Rep F v u):RepI F v u:=by
  cases r with
  | none => rfl
  | bool b => rfl
  | int i t => exact ⟨t,rfl⟩
  | str s t => exact ⟨s,t,rfl,rfl⟩
  | bytes b t => exact ⟨b,t,rfl,rfl⟩
  | list e c d r => exact ⟨_,_,_,_,rfl,e,c,d,r⟩
  | tuple e c d r => exact ⟨_,_,_,_,rfl,e,c,d,r⟩
  | ty n => rfl
  | bi n => rfl
  | ref a => rfl
  | range e h1 h2 => exact ⟨_,_,_,_,_,rfl,e,h1,h2⟩
theorem Rep.mono {F G:Fz} (h:F.le G) {v:Value} {u:V} (r:Rep F v u):Rep G v u :=
  Rep.rec (motive_1:=fun v u ℓ => Rep G v u) (motive_2:=fun vs us ℓ => Reps G vs us) .none .bool .int .str .bytes (fun e c d ℓ r => .list (h _ _ e) c d r) (fun e c d ℓ r => .tuple (h _ _ e) c d r) .ty .bi .ref
    (fun e h1 h2 => .range (h _ _ e) h1 h2) .nil (fun ℓ ℓ a b => .cons a b) r
theorem Reps.mono {F G:Fz} (h:F.le G) {vs:List Value} {us:List V} (r:Reps F vs us):Reps G vs us :=
  Reps.rec (motive_1:=fun ℓ ℓ ℓ => True) (motive_2:=fun vs us ℓ => Reps G vs us) trivial (fun ℓ => trivial) (fun ℓ ℓ => trivial) (fun ℓ ℓ => trivial) (fun ℓ ℓ => trivial) (fun ℓ ℓ ℓ ℓ ℓ => trivial) (fun ℓ ℓ ℓ ℓ ℓ => trivial) (fun ℓ => trivial) (fun ℓ => trivial) (fun ℓ => trivial)
    (fun ℓ ℓ ℓ => trivial) .nil (fun a ℓ ℓ b => .cons (a.mono h) b) r
inductive RepsC (F:Fz) (vs:List Value) (u:V) (us:List V):Prop
  | mk (v:Value) (w:List Value) (e:vs = v :: w) (a:Rep F v u) (b:Reps F w us)
noncomputable def RepsI (F:Fz) (vs:List Value) (us:List V):Prop:=List.casesOn us (vs = []) fun u us => RepsC F vs u us
theorem Reps.inv {F:Fz} {vs:List Value} {us:List V} (r:Reps F vs us):RepsI F vs us:=by
  cases r with
  | nil => rfl
  | cons a b => exact ⟨_,_,rfl,a,b⟩
theorem Reps.length {F:Fz} {vs:List Value} {us:List V} (h:Reps F vs us):vs.length = us.length:=by
  induction us generalizing vs with
  | nil => obtain rfl:=h.inv; rfl
  | cons u us ih => obtain ⟨v,w,rfl,a,b⟩:=h.inv; exact congrArg (· + 1) (ih b)
theorem Reps.get {F:Fz} {vs:List Value} {us:List V} (h:Reps F vs us) (i:Nat) (u:V) (e:us[i]? = some u):∃ v,vs[i]? = some v ∧ Rep F v u:=by
  induction us generalizing vs i with
  | nil => cases e
  | cons x us ih =>
    obtain ⟨v,w,rfl,a,b⟩:=h.inv
    cases i with
    | zero => cases e; exact ⟨v,rfl,a⟩
    | succ i => exact ih b i e
theorem Reps.append {F:Fz} {vs:List Value} {us:List V} {ws:List Value} {xs:List V} (h:Reps F vs us) (k:Reps F ws xs):Reps F (vs ++ ws) (us ++ xs):=by
  induction us generalizing vs with
  | nil => obtain rfl:=h.inv; exact k
  | cons u us ih => obtain ⟨v,w,rfl,a,b⟩:=h.inv; exact .cons a (ih b)
theorem Reps.take {F:Fz} {vs:List Value} {us:List V} (n:Nat) (h:Reps F vs us):Reps F (vs.take n) (us.take n):=by
  induction us generalizing vs n with
  | nil => obtain rfl:=h.inv; rw [List.take_nil,List.take_nil]; exact .nil
  | cons u us ih =>
    obtain ⟨v,w,rfl,a,b⟩:=h.inv
    cases n with
    | zero => exact .nil
    | succ n => exact .cons a (ih n b)
theorem Reps.drop {F:Fz} {vs:List Value} {us:List V} (n:Nat) (h:Reps F vs us):Reps F (vs.drop n) (us.drop n):=by
  induction us generalizing vs n with
  | nil => obtain rfl:=h.inv; rw [List.drop_nil,List.drop_nil]; exact .nil
  | cons u us ih =>
    obtain ⟨v,w,rfl,a,b⟩:=h.inv
    cases n with
    | zero => exact h
    | succ n => exact ih n b
noncomputable abbrev nm (x:String):Str:=Str.ofString x
theorem nm_inj {x y:String} (h:nm x = nm y):x = y:=by
  have h':=congrArg Str.cps h
  rw [show (nm x).cps = (x.toList.map Char.toNat).toArray from congrArg Str.cps (Str.ofString_eq_toList x),show (nm y).cps = (y.toList.map Char.toNat).toArray from congrArg Str.cps (Str.ofString_eq_toList y)] at h'
  have h2:x.toList.map Char.toNat = y.toList.map Char.toNat:=by simpa using congrArg Array.toList h'
  have h3:x.toList = y.toList:=by
    refine List.map_inj_right (f:=Char.toNat) ?_ |>.mp h2
    intro a b hab
    exact Char.toNat_inj.mp hab
  exact String.toList_inj.mp h3
inductive Slot where
  | val (v:V)
  | own (l:List V)
  | app (y:String)
noncomputable abbrev Sto:=List (String × Slot)
noncomputable def get:Sto → String → Option Slot
  | [],_ => none
  | (y,w) :: r,x => if y = x then some w else get r x
noncomputable def put:Sto → String → Slot → Sto
  | [],x,v => [(x,v)]
  | (y,w) :: r,x,v => if y = x then (y,v) :: r else (y,w) :: put r x v
theorem get_put (σ:Sto) (x y:String) (v:Slot):get (put σ x v) y = if x = y then some v else get σ y:=by
  induction σ with
  | nil => simp [put,get]
  | cons p r ih =>
    obtain ⟨z,w⟩:=p
    unfold put
    by_cases h:z = x
    · subst h
      simp only [if_true]
      unfold get
      by_cases q:z = y <;> simp [q]
    · simp only [h,if_false]
      unfold get
      by_cases q:z = y
      · subst q
        have:¬ x = z:=fun e => h e.symm
        simp [this]
      · simp [q,ih]
structure Wd where
  prog:Program
  w:World
  base:Heap
  P:Addr
  os:OsState
  qn:Int → Int → Str
noncomputable abbrev Wd.M (W:Wd):Model:=model W.prog W.w
noncomputable def frs (fr:List Env):List Addr:=fr.filterMap (·.frame)
inductive TabC (W:Wd) (F:Fz) (pos:Pos) (c:Value):Prop
  | mk (a:Addr) (o:Obj) (vs:Array Value) (t:Tok) (e:c = .ref a) (f:F a = some o) (k:o.cls = .type "code") (d:o.data = .fields vs) (q:vs[1]? = some (.str (W.qn pos.line pos.col) t))
inductive Tab (W:Wd) (F:Fz) (h:Heap):Prop
  | mk (ps:Array Value) (e:h.get? W.P = some (tabObj ps)) (ok:TriplesOk ps.toList) (all:∀ pos c,codeAmong pos ps.toList = some c → TabC W F pos c)
structure WInv (W:Wd) (s:Shared):Prop where
  stays:W.base.StaysIn s.heap
  gens:AllBare s.gens
  os:s.os = W.os
noncomputable def OkObj (o:Obj):Prop:=o.cls ≠ .none ∧ (∀ es n,o.data ≠ .dict es n) ∧ (∀ v,o.data ≠ .cell v)
structure Fx where
  A:Around
  fr:List Env
  env:Env
  B:Fz
  F₀:Fz
  w:Bool
structure FxOk (W:Wd) (fx:Fx):Prop where
  frames:fx.A.frames = some fx.fr
  handled:fx.A.handled = none
  kind:fx.env.scope.kind = .function
  glob:fx.env.globals = mainGlobals
  blt:fx.env.builtins = builtinsNs
  baseB:∀ b o,W.base.get? b = some o → fx.B b = some o
  BP:fx.B W.P = none
  BL:fx.w = true → fx.B fx.env.locals = none
  frs:∀ e ∈ fx.fr,e.scope.kind ≠ .module ∧ ∃ L,e.frame = some L ∧ W.base.get? L = none ∧ (L = fx.env.locals ∨ ∃ o es n,fx.B L = some o ∧ o.data = .dict es n)
  cellE:fx.w = true → ∀ x,fx.env.kindOf x = some .cell → ∃ c,fx.env.cells.lookup x = some c ∧ fx.B c = none
  top:fx.w = true → ∃ outer,fx.fr = fx.env :: outer ∧ fx.env.frame = some fx.env.locals
  cellI:fx.w = true → ∀ x y c,fx.env.kindOf x = some .cell → fx.env.cells.lookup x = some c → fx.env.cells.lookup y = some c → x = y
inductive HoldsL (env:Env) (h:Heap) (x:String) (v:Value):Prop
  | mk (k:env.kindOf (nm x) = some .local) (m:Str → Option Value) (hm:h.Ns env.locals m) (e:m (nm x) = some v)
inductive HoldsC (env:Env) (h:Heap) (x:String) (v:Value):Prop
  | mk (k:env.kindOf (nm x) = some .cell ∨ env.kindOf (nm x) = some .free) (c:Addr) (hc:env.cells.lookup (nm x) = some c) (hv:h.IsCell c (some v))
noncomputable def Holds (env:Env) (h:Heap) (x:String) (v:Value):Prop:=HoldsL env h x v ∨ HoldsC env h x v
noncomputable def boundApp (a:Addr):Obj:={ cls:=.type "builtin_function_or_method",data:=.fields #[.builtin "list.append",.ref a] }
inductive ListOf (F:Fz) (h:Heap) (a:Addr) (l:List V):Prop
  | mk (o:Obj) (xs:Array Value) (ep:Nat) (e:h.get? a = some o) (c:o.cls = .type "list") (d:o.data = .seq xs ep) (r:Reps F xs.toList l) (n:o.dict = none)
structure OwnAt (fx:Fx) (F:Fz) (h:Heap) (a:Addr) (l:List V):Prop where
  ex:ListOf F h a l
  nF:F a = none
  nB:fx.B a = none
inductive SlotOwn (fx:Fx) (F:Fz) (h:Heap) (v:Value) (l:List V):Prop
  | mk (a:Addr) (e:v = .ref a) (o:OwnAt fx F h a l)
inductive SlotApp (env:Env) (F:Fz) (h:Heap) (σ:Sto) (v:Value) (y:String):Prop
  | mk (b:Addr) (a:Addr) (e:v = .ref b) (f:F b = some (boundApp a)) (k:∀ w l,Holds env h y w → get σ y = some (.own l) → w = .ref a)
noncomputable def SlotAt (fx:Fx) (F:Fz) (h:Heap) (σ:Sto) (v:Value):Slot → Prop
  | .val u => Rep F v u
  | .own l => SlotOwn fx F h v l
  | .app y => SlotApp fx.env F h σ v y
inductive VarAt (fx:Fx) (F:Fz) (h:Heap) (σ:Sto) (x:String) (sl:Slot):Prop
  | mk (v:Value) (hv:Holds fx.env h x v) (s:SlotAt fx F h σ v sl)
structure Inv (W:Wd) (fx:Fx) (F:Fz) (σ:Sto) (s:Shared):Prop where
  ok:FxOk W fx
  win:WInv W s
  tab:Tab W F s.heap
  fin:∀ a o,F a = some o → s.heap.get? a = some o
  fok:∀ a o,F a = some o → OkObj o
  f0:fx.F₀.le F
  fnew:∀ a o,F a = some o → fx.F₀ a = some o ∨ fx.B a = none
  keep:∀ b o,fx.B b = some o → (b ∉ frs fx.fr → s.heap.get? b = some o) ∧ ∃ sl,s.heap.get? b = some { o with slots:=sl }
  ns:∃ m,s.heap.Ns fx.env.locals m
  cells:∀ x c,fx.env.kindOf x = some .cell → fx.env.cells.lookup x = some c → ∃ v,s.heap.IsCell c v
  vars:∀ x sl,get σ x = some sl → VarAt fx F s.heap σ x sl
  apart:∀ x y a b l k,x ≠ y → get σ x = some (.own l) → get σ y = some (.own k) → Holds fx.env s.heap x (.ref a) → Holds fx.env s.heap y (.ref b) → a ≠ b
theorem ns_fun {h:Heap} {a:Addr} {m m':Str → Option Value} (x:h.Ns a m) (y:h.Ns a m'):m = m':=by
  obtain ⟨o,es,ep,ho,hd,_,hm⟩:=x
  obtain ⟨o',es',ep',ho',hd',_,hm'⟩:=y
  rw [ho] at ho'; cases ho'
  rw [hd] at hd'; cases hd'
  funext z
  rw [← hm z,← hm' z]
theorem holds_fun {env:Env} {h:Heap} {x:String} {v w:Value} (a:Holds env h x v) (b:Holds env h x w):v = w:=by
  rcases a with ⟨k,m,hm,e⟩ | ⟨k,c,hc,o,ho,hd⟩
  · rcases b with ⟨k',m',hm',e'⟩ | ⟨k',_⟩
    · have:=ns_fun hm hm'; subst this
      rw [e] at e'; exact Option.some.inj e'
    · rw [k] at k'; rcases k' with q | q <;> cases q
  · rcases b with ⟨k',_⟩ | ⟨k',c',hc',o',ho',hd'⟩
    · rw [k'] at k; rcases k with q | q <;> cases q
    · rw [hc] at hc'; cases hc'
      rw [ho] at ho'; cases ho'
      rw [hd] at hd'; cases hd'
      rfl
noncomputable def KeepX (W:Wd) (fr:List Env) (h h':Heap):Prop :=
  ∀ b o,b ≠ W.P → h.get? b = some o → (b ∉ frs fr → h'.get? b = some o) ∧ ∃ sl,h'.get? b = some { o with slots:=sl }
theorem KeepX.refl (W:Wd) (fr:List Env) (h:Heap):KeepX W fr h h:=fun ℓ o ℓ e => ⟨fun ℓ => e,o.slots,e⟩
theorem KeepX.trans {W:Wd} {fr:List Env} {h₁ h₂ h₃:Heap} (x:KeepX W fr h₁ h₂) (y:KeepX W fr h₂ h₃):KeepX W fr h₁ h₃:=fun b o hp e => by
  refine ⟨fun hn => (y b o hp ((x b o hp e).1 hn)).1 hn,?_⟩
  obtain ⟨sl,e₁⟩:=(x b o hp e).2
  obtain ⟨sl',e₂⟩:=(y b _ hp e₁).2
  exact ⟨sl',e₂⟩
theorem KeepX.of_keeps {W:Wd} {fr:List Env} {h h':Heap} (k:∀ b o,h.get? b = some o → h'.get? b = some o):KeepX W fr h h':=fun b o ℓ e => ⟨fun ℓ => k b o e,o.slots,k b o e⟩
theorem KeepX.ns {W:Wd} {fr:List Env} {h h':Heap} (x:KeepX W fr h h') {a:Addr} {m:Str → Option Value} (hp:a ≠ W.P) (n:h.Ns a m):h'.Ns a m:=by
  obtain ⟨o,es,ep,ho,r⟩:=n
  obtain ⟨sl,e⟩:=(x a o hp ho).2
  exact ⟨_,es,ep,e,r⟩
theorem KeepX.cell {W:Wd} {fr:List Env} {h h':Heap} (x:KeepX W fr h h') {a:Addr} {v:Option Value} (hp:a ≠ W.P) (n:h.IsCell a v):h'.IsCell a v:=by
  obtain ⟨o,ho,r⟩:=n
  obtain ⟨sl,e⟩:=(x a o hp ho).2
  exact ⟨_,e,r⟩
section
variable {W:Wd} {fx:Fx} {F G:Fz} {σ:Sto} {s s':Shared}
theorem Inv.P_ne_L (I:Inv W fx F σ s):fx.env.locals ≠ W.P:=by
  intro e
  obtain ⟨m,o,es,ep,ho,hd,_⟩:=I.ns
  obtain ⟨ps,hP,_⟩:=I.tab
  rw [e,hP] at ho; cases ho
  cases hd
theorem Inv.P_ne_cell (I:Inv W fx F σ s) {c:Addr} {v:Option Value} (h:s.heap.IsCell c v):c ≠ W.P:=by
  intro e
  obtain ⟨o,ho,hd⟩:=h
  obtain ⟨ps,hP,_⟩:=I.tab
  rw [e,hP] at ho; cases ho
  cases hd
theorem Inv.P_ne_list (I:Inv W fx F σ s) {c:Addr} {o:Obj} {xs:Array Value} {n:Nat} (ho:s.heap.get? c = some o) (hd:o.data = .seq xs n):c ≠ W.P:=by
  intro e
  obtain ⟨ps,hP,_⟩:=I.tab
  rw [e,hP] at ho; cases ho
  cases hd
theorem Inv.FP (I:Inv W fx F σ s):F W.P = none:=by
  cases q:F W.P with
  | none => rfl
  | some o =>
    obtain ⟨ps,hP,_⟩:=I.tab
    have e:=I.fin _ _ q
    rw [hP] at e; cases e
    exact absurd rfl (I.fok _ _ q).1
theorem Inv.holds_to (I:Inv W fx F σ s) (k:KeepX W fx.fr s.heap s'.heap) {x:String} {v:Value} (h:Holds fx.env s.heap x v):Holds fx.env s'.heap x v:=by
  rcases h with ⟨kx,m,hm,e⟩ | ⟨kx,c,hc,hv⟩
  · exact .inl ⟨kx,m,k.ns I.P_ne_L hm,e⟩
  · exact .inr ⟨kx,c,hc,k.cell (I.P_ne_cell hv) hv⟩
theorem Inv.frs_dict (I:Inv W fx F σ s) {b:Addr} (hb:b ∈ frs fx.fr):W.base.get? b = none ∧ ∃ o es n,s.heap.get? b = some o ∧ o.data = .dict es n:=by
  obtain ⟨e,he,hf⟩:=List.mem_filterMap.mp hb
  obtain ⟨_,L,hL,hn,h⟩:=I.ok.frs e he
  rw [hf] at hL; cases hL
  refine ⟨hn,?_⟩
  rcases h with rfl | ⟨o,es,n,ho,hd⟩
  · obtain ⟨m,o,es,ep,ho,hd,_⟩:=I.ns
    exact ⟨o,es,ep,ho,hd⟩
  · obtain ⟨sl,e⟩:=(I.keep b o ho).2
    exact ⟨_,es,n,e,hd⟩
theorem Inv.funFrames (I:Inv W fx F σ s):s.heap.FunFrames W.base fx.fr:=by
  have h:∀ l:List Env,(∀ e ∈ l,e ∈ fx.fr) → s.heap.FunFrames W.base l:=by
    intro l
    induction l with
    | nil => intro _; trivial
    | cons e r ih =>
      intro hm
      obtain ⟨hk,L,hf,hn,_⟩:=I.ok.frs e (hm e (.head _))
      have hL:L ∈ frs fx.fr:=List.mem_filterMap.mpr ⟨e,hm e (.head _),hf⟩
      obtain ⟨_,o,es,n,ho,hd⟩:=I.frs_dict hL
      exact ⟨hk,⟨L,o,hf,hn,ho,fun vs q => by rw [hd] at q; cases q⟩,ih fun e' h' => hm e' (.tail _ h')⟩
  exact h _ fun ℓ h => h
theorem Inv.frozen_nfrs (I:Inv W fx F σ s) {a:Addr} {o:Obj} (e:F a = some o):a ∉ frs fx.fr:=by
  intro hb
  obtain ⟨_,o',es,n,ho,hd⟩:=I.frs_dict hb
  rw [I.fin _ _ e] at ho; cases ho
  exact (I.fok _ _ e).2.1 _ _ hd
theorem Inv.own_nfrs (I:Inv W fx F σ s) {a:Addr} {o:Obj} {xs:Array Value} {n:Nat} (ho:s.heap.get? a = some o) (hd:o.data = .seq xs n):a ∉ frs fx.fr:=by
  intro hb
  obtain ⟨_,o',es,n,ho',hd'⟩:=I.frs_dict hb
  rw [ho] at ho'; cases ho'
  rw [hd] at hd'; cases hd'
theorem OwnAt.to {fx:Fx} {F G:Fz} {h h':Heap} {a:Addr} {l:List V} (x:OwnAt fx F h a l) (hFG:F.le G) (hk:∀ o,h.get? a = some o → h'.get? a = some o) (hG:G a = none):OwnAt fx G h' a l:=by
  obtain ⟨⟨o,xs,ep,ho,hc,hd,hr,hn⟩,_,hB⟩:=x
  exact ⟨⟨o,xs,ep,hk o ho,hc,hd,hr.mono hFG,hn⟩,hG,hB⟩
theorem Inv.step (I:Inv W fx F σ s) (hFG:F.le G) (k:KeepX W fx.fr s.heap s'.heap) (win:WInv W s') (tab:Tab W G s'.heap)
    (gin:∀ a o,G a = some o → s'.heap.get? a = some o) (gok:∀ a o,G a = some o → OkObj o)
    (gnew:∀ a o,G a = some o → F a = some o ∨ s.heap.get? a = none):Inv W fx G σ s' where
  ok:=I.ok
  win:=win
  tab:=tab
  fin:=gin
  fok:=gok
  f0:=I.f0.trans hFG
  fnew:=fun a o e => (gnew a o e).elim (fun q => I.fnew a o q) fun q => by
    right
    cases z:fx.B a with
    | none => rfl
    | some o' => obtain ⟨sl,e'⟩:=(I.keep a o' z).2; rw [q] at e'; cases e'
  keep:=fun b o e => by
    have hp:b ≠ W.P:=fun q => by rw [q,I.ok.BP] at e; cases e
    refine ⟨fun hn => (k b o hp ((I.keep b o e).1 hn)).1 hn,?_⟩
    obtain ⟨sl,e₁⟩:=(I.keep b o e).2
    obtain ⟨sl',e₂⟩:=(k b _ hp e₁).2
    exact ⟨sl',e₂⟩
  ns:=let ⟨m,hm⟩:=I.ns; ⟨m,k.ns I.P_ne_L hm⟩
  cells:=fun x c hx hc => let ⟨v,hv⟩:=I.cells x c hx hc; ⟨v,k.cell (I.P_ne_cell hv) hv⟩
  vars:=fun x sl e => by
    obtain ⟨v,hv,hs⟩:=I.vars x sl e
    refine ⟨v,I.holds_to k hv,?_⟩
    cases sl with
    | val u => exact Rep.mono hFG hs
    | own l =>
      obtain ⟨a,rfl,ha⟩:=hs
      refine ⟨a,rfl,ha.to hFG (fun o ho => ?_) ?_⟩
      · obtain ⟨⟨o',xs,ep,ho',hc,hd,hr⟩,_,_⟩:=ha
        rw [ho'] at ho; cases ho
        exact (k a _ (I.P_ne_list ho' hd) ho').1 (I.own_nfrs ho' hd)
      · cases z:G a with
        | none => rfl
        | some o =>
          rcases gnew a o z with q | q
          · rw [ha.nF] at q; cases q
          · obtain ⟨⟨o',xs,ep,ho',_⟩,_,_⟩:=ha
            rw [ho'] at q; cases q
    | app y =>
      obtain ⟨b,a,e1,e2,e4⟩:=hs
      refine ⟨b,a,e1,hFG _ _ e2,fun w l hw hy => ?_⟩
      obtain ⟨w',hw',_⟩:=I.vars y _ hy
      have:w = w':=holds_fun hw (I.holds_to k hw')
      subst this
      exact e4 w l hw' hy
  apart:=fun x y a b l k' hne hx hy ha hb => by
    obtain ⟨va,hva,_⟩:=I.vars x _ hx
    obtain ⟨vb,hvb,_⟩:=I.vars y _ hy
    have e1:=holds_fun ha (I.holds_to k hva)
    have e2:=holds_fun hb (I.holds_to k hvb)
    subst e1; subst e2
    exact I.apart x y a b l k' hne hx hy hva hvb
structure Ext (s s':Shared):Prop where
  ex:∃ h tk,s' = { s with heap:=h,toks:=tk }
  keep:∀ b o,s.heap.get? b = some o → s'.heap.get? b = some o
theorem Ext.refl (s:Shared):Ext s s:=⟨⟨s.heap,s.toks,rfl⟩,fun ℓ ℓ e => e⟩
theorem Ext.trans {s₁ s₂ s₃:Shared} (x:Ext s₁ s₂) (y:Ext s₂ s₃):Ext s₁ s₃:=by
  obtain ⟨⟨h,tk,rfl⟩,k⟩:=x
  obtain ⟨⟨h',tk',rfl⟩,k'⟩:=y
  exact ⟨⟨h',tk',rfl⟩,fun b o e => k' b o (k b o e)⟩
theorem Ext.tok (s:Shared) (tk:Nat):Ext s { s with toks:=tk }:=⟨⟨s.heap,tk,rfl⟩,fun ℓ ℓ e => e⟩
theorem Ext.mk' {s:Shared} {h:Heap} {tk:Nat} (k:∀ b o,s.heap.get? b = some o → h.get? b = some o):Ext s { s with heap:=h,toks:=tk }:=⟨⟨h,tk,rfl⟩,k⟩
theorem Tab.keeps {F G:Fz} {h h':Heap} (x:Tab W F h) (hFG:F.le G) (hP:∀ o,h.get? W.P = some o → h'.get? W.P = some o):Tab W G h':=by
  obtain ⟨ps,e,ht,hc⟩:=x
  refine ⟨ps,hP _ e,ht,fun pos c q => ?_⟩
  obtain ⟨a,o,vs,t,h1,h2,h3,h4,h5⟩:=hc pos c q
  exact ⟨a,o,vs,t,h1,hFG _ _ h2,h3,h4,h5⟩
theorem WInv.ext (x:WInv W s) (e:Ext s s'):WInv W s':=by
  obtain ⟨⟨h,tk,rfl⟩,k⟩:=e
  exact ⟨fun b o q => k b o (x.stays b o q),x.gens,x.os⟩
theorem Inv.ext (I:Inv W fx F σ s) (e:Ext s s'):Inv W fx F σ s' :=
  I.step (Fz.le.refl F) (KeepX.of_keeps e.keep) (I.win.ext e) (I.tab.keeps (Fz.le.refl F) fun o q => e.keep _ o q) (fun a o q => e.keep _ _ (I.fin a o q)) I.fok (fun ℓ ℓ q => .inl q)
noncomputable def Fz.add (F:Fz) (a:Addr) (o:Obj):Fz:=fun b => if b = a then some o else F b
theorem Fz.le_add {F:Fz} {a:Addr} {o:Obj} (h:F a = none):F.le (F.add a o):=fun b ob e => by
  unfold Fz.add
  by_cases q:b = a
  · subst q; rw [h] at e; cases e
  · simp [q,e]
theorem Fz.add_self {F:Fz} {a:Addr} {o:Obj}:F.add a o a = some o:=by simp [Fz.add]
theorem Inv.fresh_F (I:Inv W fx F σ s) {a:Addr} (h:s.heap.get? a = none):F a = none:=by
  cases q:F a with
  | none => rfl
  | some o => rw [I.fin _ _ q] at h; cases h
theorem Inv.fresh_B (I:Inv W fx F σ s) {a:Addr} (h:s.heap.get? a = none):fx.B a = none:=by
  cases q:fx.B a with
  | none => rfl
  | some o => obtain ⟨sl,e⟩:=(I.keep a o q).2; rw [h] at e; cases e
theorem Inv.extAdd (I:Inv W fx F σ s) (e:Ext s s') {a:Addr} {o:Obj} (hn:s.heap.get? a = none) (ha:s'.heap.get? a = some o) (hok:OkObj o) :
    F.le (F.add a o) ∧ Inv W fx (F.add a o) σ s':=by
  have hF:=I.fresh_F hn
  refine ⟨Fz.le_add hF,I.step (Fz.le_add hF) (KeepX.of_keeps e.keep) (I.win.ext e) (I.tab.keeps (Fz.le_add hF) fun o q => e.keep _ o q) (fun b ob q => ?_) (fun b ob q => ?_) (fun b ob q => ?_)⟩
  all_goals unfold Fz.add at q
  · by_cases z:b = a
    · subst z; simp at q; subst q; exact ha
    · simp [z] at q; exact e.keep _ _ (I.fin _ _ q)
  · by_cases z:b = a
    · subst z; simp at q; subst q; exact hok
    · simp [z] at q; exact I.fok _ _ q
  · by_cases z:b = a
    · subst z; exact .inr hn
    · simp [z] at q; exact .inl q
end
end Mine
end
noncomputable section
open PySem PySem.W PyProof.Rows PySem.Spec PySem.Calls
set_option Elab.async false
set_option maxRecDepth 100000
namespace Mine
section
variable {W:Wd} {fx:Fx} {F G:Fz} {σ:Sto} {s s':Shared} {A:Around} {E:Value → Shared → Prop}
theorem Inv.L_notF (I:Inv W fx F σ s):F fx.env.locals = none:=by
  cases q:F fx.env.locals with
  | none => rfl
  | some o =>
    obtain ⟨m,o',es,ep,ho,hd,_⟩:=I.ns
    have:=I.fin _ _ q
    rw [ho] at this; cases this
    exact absurd hd ((I.fok _ _ q).2.1 _ _)
theorem Inv.cell_notF (I:Inv W fx F σ s) {c:Addr} {v:Option Value} (h:s.heap.IsCell c v):F c = none:=by
  cases q:F c with
  | none => rfl
  | some o =>
    obtain ⟨o',ho,hd⟩:=h
    have:=I.fin _ _ q
    rw [ho] at this; cases this
    exact absurd hd ((I.fok _ _ q).2.2 _)
theorem Inv.cell_ne_L (I:Inv W fx F σ s) {c:Addr} {v:Option Value} (h:s.heap.IsCell c v):c ≠ fx.env.locals:=by
  rintro rfl
  obtain ⟨m,o',es,ep,ho,hd,_⟩:=I.ns
  obtain ⟨o,ho',hd'⟩:=h
  rw [ho] at ho'; cases ho'
  rw [hd] at hd'; cases hd'
structure Fresh (fx:Fx) (h:Heap) (σ:Sto) (x:String) (v:Value) (sl:Slot):Prop where
  apart:∀ l,sl = .own l → ∀ y k b,y ≠ x → get σ y = some (.own k) → Holds fx.env h y (.ref b) → v ≠ .ref b
  noapp:(∃ l,sl = .own l) → ∀ y,get σ y ≠ some (.app x)
theorem fresh_val {fx:Fx} {h:Heap} {σ:Sto} {x:String} {v:Value} {u:V}:Fresh fx h σ x v (.val u):=⟨fun ℓ e => (nomatch e),fun ⟨_,e⟩ => (nomatch e)⟩
theorem fresh_app {fx:Fx} {h:Heap} {σ:Sto} {x z:String} {v:Value}:Fresh fx h σ x v (.app z):=⟨fun ℓ e => (nomatch e),fun ⟨_,e⟩ => (nomatch e)⟩
theorem Inv.stored (I:Inv W fx F σ s) {a:Addr} {h':Heap} {tk:Nat} {x:String} {v:Value} {sl:Slot}
    (hs:Heap.SameBut a s.heap h') (haF:F a = none) (haB:fx.B a = none) (haP:a ≠ W.P) (hal:∀ o xs n,s.heap.get? a = some o → o.data ≠ .seq xs n)
    (hns:∃ m,h'.Ns fx.env.locals m) (hcells:∀ x c,fx.env.kindOf x = some .cell → fx.env.cells.lookup x = some c → ∃ v,h'.IsCell c v)
    (hx:Holds fx.env h' x v) (hoth:∀ y w,y ≠ x → (Holds fx.env h' y w ↔ Holds fx.env s.heap y w))
    (hsl:SlotAt fx F s.heap σ v sl) (hfr:Fresh fx s.heap σ x v sl) (hnx:sl ≠ .app x):Inv W fx F (put σ x sl) { s with heap:=h',toks:=tk } where
  ok:=I.ok
  win:=⟨fun b o e => (hs.2 b (fun q => by rw [q] at e; rw [I.ok.baseB _ _ e] at haB; cases haB)).trans (I.win.stays b o e),I.win.gens,I.win.os⟩
  tab:=I.tab.keeps (Fz.le.refl F) fun o e => (hs.2 _ (Ne.symm haP)).trans e
  fin:=fun b o e => (hs.2 b (fun q => by rw [q,haF] at e; cases e)).trans (I.fin b o e)
  fok:=I.fok
  f0:=I.f0
  fnew:=I.fnew
  keep:=fun b o e => by
    have hb:b ≠ a:=fun q => by rw [q,haB] at e; cases e
    refine ⟨fun hn => (hs.2 b hb).trans ((I.keep b o e).1 hn),?_⟩
    obtain ⟨sl,e'⟩:=(I.keep b o e).2
    exact ⟨sl,(hs.2 b hb).trans e'⟩
  ns:=hns
  cells:=hcells
  vars:=fun y sl' e => by
    rw [get_put] at e
    have own_to:∀ a' l,OwnAt fx F s.heap a' l → OwnAt fx F h' a' l:=fun a' l ho => by
      obtain ⟨⟨o,xs,ep,h1,h2,h3,h4,h7⟩,h5,h6⟩:=ho
      exact ⟨⟨o,xs,ep,(hs.2 a' (fun q => hal o xs ep (q ▸ h1) h3)).trans h1,h2,h3,h4,h7⟩,h5,h6⟩
    by_cases hxy:x = y
    · subst hxy
      simp only [if_true,Option.some.injEq] at e
      subst e
      refine ⟨v,hx,?_⟩
      cases sl with
      | val u => exact hsl
      | own l => obtain ⟨a',e,ho⟩:=hsl; exact ⟨a',e,own_to a' l ho⟩
      | app z =>
        obtain ⟨b,a',e1,e2,e4⟩:=hsl
        refine ⟨b,a',e1,e2,fun w l hw hy => ?_⟩
        have hzx:z ≠ x:=fun q => hnx (by rw [q])
        rw [get_put,if_neg (Ne.symm hzx)] at hy
        exact e4 w l ((hoth z w hzx).mp hw) hy
    · rw [if_neg hxy] at e
      obtain ⟨w,hw,hsw⟩:=I.vars y sl' e
      refine ⟨w,(hoth y w (Ne.symm hxy)).mpr hw,?_⟩
      cases sl' with
      | val u => exact hsw
      | own l => obtain ⟨a',e,ho⟩:=hsw; exact ⟨a',e,own_to a' l ho⟩
      | app z =>
        obtain ⟨b,a',e1,e2,e4⟩:=hsw
        refine ⟨b,a',e1,e2,fun w' l hw' hy => ?_⟩
        rw [get_put] at hy
        by_cases hxz:x = z
        · subst hxz
          simp only [if_true,Option.some.injEq] at hy
          exact absurd e (hfr.noapp ⟨l,hy⟩ y)
        · rw [if_neg hxz] at hy
          exact e4 w' l ((hoth z w' (Ne.symm hxz)).mp hw') hy
  apart:=fun y z p q l k hyz hy hz hp hq => by
    rw [get_put] at hy hz
    by_cases hxy:x = y
    · subst hxy
      simp only [if_true,Option.some.injEq] at hy
      rw [if_neg hyz] at hz
      have:=holds_fun hx hp
      subst this
      have hq':=(hoth z _ (Ne.symm hyz)).mp hq
      exact fun e => hfr.apart l hy z k q (Ne.symm hyz) hz hq' (by rw [e])
    · rw [if_neg hxy] at hy
      by_cases hxz:x = z
      · subst hxz
        simp only [if_true,Option.some.injEq] at hz
        have:=holds_fun hx hq
        subst this
        have hp':=(hoth y _ (Ne.symm hxy)).mp hp
        exact fun e => hfr.apart k hz y l p (Ne.symm hxy) hy hp' (by rw [e])
      · rw [if_neg hxz] at hz
        exact I.apart y z p q l k hyz hy hz ((hoth y _ (Ne.symm hxy)).mp hp) ((hoth z _ (Ne.symm hxz)).mp hq)
noncomputable def storable (sc:Scope) (x:String):Bool:=sc.names.lookup (nm x) == some .local || sc.names.lookup (nm x) == some .cell
theorem Inv.store2 (I:Inv W fx F σ s) {x:String} {v:Value} {sl:Slot} {Q:Unit → Shared → Prop}
    (hw:fx.w = true) (hk:storable fx.env.scope x = true) (hsl:SlotAt fx F s.heap σ v sl) (hfr:Fresh fx s.heap σ x v sl) (hnx:sl ≠ .app x)
    (hQ:∀ s',Inv W fx F (put σ x sl) s' → (∃ z,(z = fx.env.locals ∨ ∃ v,s.heap.IsCell z v) ∧ Heap.SameBut z s.heap s'.heap) → Q () s'):wpAny W.M A (storeName fx.env (nm x) v) Q E s:=by
  have hfun:=I.ok.kind
  simp only [storable,Bool.or_eq_true,beq_iff_eq] at hk
  rcases hk with hk | hk
  · obtain ⟨m,hm⟩:=I.ns
    refine wpAny_storeName_local (m:=m) hk hm (fun h' hn' hs' => hQ _ ?_ ⟨_,.inl rfl,hs'⟩) (by rw [hfun]; rfl)
    have hL:∀ o xs n,s.heap.get? fx.env.locals = some o → o.data ≠ .seq xs n:=fun o xs n e q => by
      obtain ⟨o',es,ep,ho,hd,_⟩:=hm
      rw [e] at ho; cases ho
      rw [q] at hd; cases hd
    refine I.stored hs' I.L_notF (I.ok.BL hw) I.P_ne_L hL ⟨_,hn'⟩ (fun y c hy hc => ?_) (.inl ⟨hk,_,hn',by simp⟩) (fun y w hyx => ?_) hsl hfr hnx
    · obtain ⟨v,hv⟩:=I.cells y c hy hc
      exact ⟨v,hv.sameBut hs' (I.cell_ne_L hv)⟩
    · constructor
      · rintro (⟨ky,m',hm',e⟩ | ⟨ky,c,hc,hv⟩)
        · have:=ns_fun hm' hn'
          subst this
          simp only [show ¬ nm y = nm x from fun q => hyx (nm_inj q),if_false] at e
          exact .inl ⟨ky,m,hm,e⟩
        · refine .inr ⟨ky,c,hc,?_⟩
          obtain ⟨o,ho,hd⟩:=hv
          have:c ≠ fx.env.locals:=by
            rintro rfl
            obtain ⟨o',es,ep,ho',hd',_⟩:=hn'
            rw [ho] at ho'; cases ho'
            rw [hd] at hd'; cases hd'
          exact ⟨o,(hs'.2 c this).symm.trans ho,hd⟩
      · rintro (⟨ky,m',hm',e⟩ | ⟨ky,c,hc,hv⟩)
        · have:=ns_fun hm' hm
          subst this
          exact .inl ⟨ky,_,hn',by simp only [show ¬ nm y = nm x from fun q => hyx (nm_inj q),if_false]; exact e⟩
        · exact .inr ⟨ky,c,hc,hv.sameBut hs' (I.cell_ne_L hv)⟩
  · obtain ⟨c,hc,hcB⟩:=I.ok.cellE hw _ hk
    obtain ⟨v₀,hv₀⟩:=I.cells _ c hk hc
    refine wpAny_storeName_cell hfun hk hc hv₀ fun h' hc' hs' => hQ _ ?_ ⟨_,.inr ⟨_,hv₀⟩,hs'⟩
    have hcL:∀ o xs n,s.heap.get? c = some o → o.data ≠ .seq xs n:=fun o xs n e q => by
      obtain ⟨o',ho,hd⟩:=hv₀
      rw [e] at ho; cases ho
      rw [q] at hd; cases hd
    have hne:∀ y c',fx.env.cells.lookup (nm y) = some c' → y ≠ x → c' ≠ c:=fun y c' hy hyx e => by
      subst e
      exact hyx (nm_inj (I.ok.cellI hw _ _ _ hk hc hy)).symm
    refine I.stored (tk:=s.toks) hs' (I.cell_notF hv₀) hcB (I.P_ne_cell hv₀) hcL ?_ (fun y c' hy hc'' => ?_) (.inr ⟨.inl hk,c,hc,hc'⟩) (fun y w hyx => ?_) hsl hfr hnx
    · obtain ⟨m,hm⟩:=I.ns
      exact ⟨m,hm.sameBut hs' (Ne.symm (I.cell_ne_L hv₀))⟩
    · by_cases q:c' = c
      · subst q; exact ⟨_,hc'⟩
      · obtain ⟨v,hv⟩:=I.cells y c' hy hc''
        exact ⟨v,hv.sameBut hs' q⟩
    · constructor
      · rintro (⟨ky,m',hm',e⟩ | ⟨ky,c',hc'',hv⟩)
        · obtain ⟨m,hm⟩:=I.ns
          have hm2:=hm.sameBut hs' (Ne.symm (I.cell_ne_L hv₀))
          have:=ns_fun hm' hm2
          subst this
          exact .inl ⟨ky,_,hm,e⟩
        · refine .inr ⟨ky,c',hc'',?_⟩
          obtain ⟨o,ho,hd⟩:=hv
          exact ⟨o,(hs'.2 c' (hne y c' hc'' hyx)).symm.trans ho,hd⟩
      · rintro (⟨ky,m',hm',e⟩ | ⟨ky,c',hc'',hv⟩)
        · exact .inl ⟨ky,m',hm'.sameBut hs' (Ne.symm (I.cell_ne_L hv₀)),e⟩
        · exact .inr ⟨ky,c',hc'',hv.sameBut hs' (hne y c' hc'' hyx)⟩
theorem Inv.store (I:Inv W fx F σ s) {x:String} {v:Value} {sl:Slot} {Q:Unit → Shared → Prop}
    (hw:fx.w = true) (hk:storable fx.env.scope x = true) (hsl:SlotAt fx F s.heap σ v sl) (hfr:Fresh fx s.heap σ x v sl) (hnx:sl ≠ .app x)
    (hQ:∀ s',Inv W fx F (put σ x sl) s' → Q () s'):wpAny W.M A (storeName fx.env (nm x) v) Q E s :=
  I.store2 hw hk hsl hfr hnx fun s' I' ℓ => hQ s' I'
theorem Inv.freeze (I:Inv W fx F σ s) {x:String} {l:List V} {a:Addr} (hx:get σ x = some (.own l)) (hh:Holds fx.env s.heap x (.ref a)) :
    ∃ G,F.le G ∧ Inv W fx G (put σ x (.val (.list l))) s ∧ Rep G (.ref a) (.list l):=by
  obtain ⟨v,hv,a',e,⟨⟨o,xs,ep,ho,hc,hd,hr,_⟩,hF,hB⟩⟩:=I.vars x _ hx
  have:=holds_fun hv hh
  subst this
  cases e
  have hle:F.le (F.add a o):=Fz.le_add hF
  have hrep:Rep (F.add a o) (.ref a) (.list l):=.list Fz.add_self hc hd (hr.mono hle)
  refine ⟨F.add a o,hle,?_,hrep⟩
  exact {
    ok:=I.ok
    win:=I.win
    tab:=I.tab.keeps hle fun ℓ e => e
    fin:=fun b ob q => by
      unfold Fz.add at q
      by_cases z:b = a
      · subst z; simp at q; subst q; exact ho
      · simp [z] at q; exact I.fin _ _ q
    fok:=fun b ob q => by
      unfold Fz.add at q
      by_cases z:b = a
      · subst z; simp at q; subst q
        exact ⟨(by rw [hc]; exact fun e => (nomatch e)),fun es n e => (by rw [hd] at e; cases e),fun v e => (by rw [hd] at e; cases e)⟩
      · simp [z] at q; exact I.fok _ _ q
    f0:=I.f0.trans hle
    fnew:=fun b ob q => by
      unfold Fz.add at q
      by_cases z:b = a
      · subst z; exact .inr hB
      · simp [z] at q; exact I.fnew _ _ q
    keep:=I.keep
    ns:=I.ns
    cells:=I.cells
    vars:=fun y sl e => by
      rw [get_put] at e
      by_cases hxy:x = y
      · subst hxy
        simp only [if_true,Option.some.injEq] at e
        subst e
        exact ⟨_,hh,hrep⟩
      · rw [if_neg hxy] at e
        obtain ⟨w,hw,hsw⟩:=I.vars y sl e
        refine ⟨w,hw,?_⟩
        cases sl with
        | val u => exact Rep.mono hle hsw
        | own k =>
          obtain ⟨b,rfl,hb⟩:=hsw
          refine ⟨b,rfl,hb.to hle (fun ℓ e => e) ?_⟩
          have:a ≠ b:=I.apart x y a b l k hxy hx e hh hw
          unfold Fz.add
          simp [Ne.symm this,hb.nF]
        | app z =>
          obtain ⟨b,a',e1,e2,e4⟩:=hsw
          refine ⟨b,a',e1,hle _ _ e2,fun w' k hw' hy => ?_⟩
          rw [get_put] at hy
          by_cases hxz:x = z
          · subst hxz; simp at hy
          · rw [if_neg hxz] at hy
            exact e4 w' k hw' hy
    apart:=fun y z p q k k' hyz hy hz hp hq => by
      rw [get_put] at hy hz
      by_cases hxy:x = y
      · subst hxy; simp at hy
      · rw [if_neg hxy] at hy
        by_cases hxz:x = z
        · subst hxz; simp at hz
        · rw [if_neg hxz] at hz
          exact I.apart y z p q k k' hyz hy hz hp hq }
theorem Inv.setOwn (I:Inv W fx F σ s) {x:String} {l k:List V} {a:Addr} {h':Heap} {tk:Nat} (hx:get σ x = some (.own l)) (hh:Holds fx.env s.heap x (.ref a))
    (hs:Heap.SameBut a s.heap h') (hnew:ListOf F h' a k) :
    Inv W fx F (put σ x (.own k)) { s with heap:=h',toks:=tk }:=by
  obtain ⟨v,hv,a',e,⟨⟨o,xs,ep,ho,hc,hd,hr⟩,hF,hB⟩⟩:=I.vars x _ hx
  have:=holds_fun hv hh
  subst this
  cases e
  have haL:a ≠ fx.env.locals:=by
    rintro rfl
    obtain ⟨m,o',es,ep',ho',hd',_⟩:=I.ns
    rw [ho] at ho'; cases ho'
    rw [hd] at hd'; cases hd'
  have haC:∀ c v,s.heap.IsCell c v → c ≠ a:=by
    rintro c v ⟨o',ho',hd'⟩ rfl
    rw [ho] at ho'; cases ho'
    rw [hd] at hd'; cases hd'
  have haC':∀ c v,h'.IsCell c v → c ≠ a:=by
    rintro c v ⟨o',ho',hd'⟩ rfl
    obtain ⟨o2,xs2,ep2,ho2,_,hd2,_⟩:=hnew
    rw [ho2] at ho'; cases ho'
    rw [hd2] at hd'; cases hd'
  have hol:∀ y w,Holds fx.env h' y w ↔ Holds fx.env s.heap y w:=fun y w => by
    constructor
    · rintro (⟨ky,m,hm,e⟩ | ⟨ky,c,hc,o',ho',hd'⟩)
      · obtain ⟨m',hm'⟩:=I.ns
        have:=ns_fun hm (hm'.sameBut hs (Ne.symm haL))
        subst this
        exact .inl ⟨ky,_,hm',e⟩
      · exact .inr ⟨ky,c,hc,o',(hs.2 c (haC' c _ ⟨o',ho',hd'⟩)).symm.trans ho',hd'⟩
    · rintro (⟨ky,m,hm,e⟩ | ⟨ky,c,hc,hv⟩)
      · exact .inl ⟨ky,m,hm.sameBut hs (Ne.symm haL),e⟩
      · exact .inr ⟨ky,c,hc,hv.sameBut hs (haC c _ hv)⟩
  have haP:a ≠ W.P:=I.P_ne_list ho hd
  exact {
    ok:=I.ok
    win:=⟨fun b o e => (hs.2 b (fun q => by rw [q] at e; rw [I.ok.baseB _ _ e] at hB; cases hB)).trans (I.win.stays b o e),I.win.gens,I.win.os⟩
    tab:=I.tab.keeps (Fz.le.refl F) fun o e => (hs.2 _ (Ne.symm haP)).trans e
    fin:=fun b o e => (hs.2 b (fun q => by rw [q,hF] at e; cases e)).trans (I.fin b o e)
    fok:=I.fok
    f0:=I.f0
    fnew:=I.fnew
    keep:=fun b o e => by
      have hb:b ≠ a:=fun q => by rw [q,hB] at e; cases e
      refine ⟨fun hn => (hs.2 b hb).trans ((I.keep b o e).1 hn),?_⟩
      obtain ⟨sl,e'⟩:=(I.keep b o e).2
      exact ⟨sl,(hs.2 b hb).trans e'⟩
    ns:=let ⟨m,hm⟩:=I.ns; ⟨m,hm.sameBut hs (Ne.symm haL)⟩
    cells:=fun y c hy hc => let ⟨v,hv⟩:=I.cells y c hy hc; ⟨v,hv.sameBut hs (haC c _ hv)⟩
    vars:=fun y sl e => by
      rw [get_put] at e
      by_cases hxy:x = y
      · subst hxy
        simp only [if_true,Option.some.injEq] at e
        subst e
        exact ⟨_,(hol x _).mpr hh,a,rfl,hnew,hF,hB⟩
      · rw [if_neg hxy] at e
        obtain ⟨w,hw,hsw⟩:=I.vars y sl e
        refine ⟨w,(hol y w).mpr hw,?_⟩
        cases sl with
        | val u => exact hsw
        | own k' =>
          obtain ⟨b,rfl,⟨⟨o1,x1,n1,q1,q2,q3,q4,q5⟩,hb2,hb3⟩⟩:=hsw
          have:a ≠ b:=I.apart x y a b l k' hxy hx e hh hw
          exact ⟨b,rfl,⟨⟨o1,x1,n1,(hs.2 b (Ne.symm this)).trans q1,q2,q3,q4,q5⟩,hb2,hb3⟩⟩
        | app z =>
          obtain ⟨b,a',e1,e2,e4⟩:=hsw
          refine ⟨b,a',e1,e2,fun w' k' hw' hy => ?_⟩
          rw [get_put] at hy
          have hw2:=(hol z w').mp hw'
          by_cases hxz:x = z
          · subst hxz
            exact e4 w' l hw2 hx
          · rw [if_neg hxz] at hy
            exact e4 w' k' hw2 hy
    apart:=fun y z p q k1 k2 hyz hy hz hp hq => by
      rw [get_put] at hy hz
      have hp':=(hol y _).mp hp
      have hq':=(hol z _).mp hq
      by_cases hxy:x = y
      · subst hxy
        rw [if_neg hyz] at hz
        exact I.apart x z p q l k2 hyz hx hz hp' hq'
      · rw [if_neg hxy] at hy
        by_cases hxz:x = z
        · subst hxz
          exact I.apart y x p q k1 l hyz hy hx hp' hq'
        · rw [if_neg hxz] at hz
          exact I.apart y z p q k1 k2 hyz hy hz hp' hq' }
end
end Mine
end
noncomputable section
open PySem PySem.W PyProof.Rows PySem.Spec PySem.Calls
set_option Elab.async false
set_option maxRecDepth 100000
namespace Mine
noncomputable def Room (A:Around) (n:Nat):Prop:=A.depth + n + 1 < recursionLimit ∧ A.units + 8 * n + 40 < cLine
theorem rm0 {d n L:Nat} (h:d + (n + 1) + 1 < L):d < L:=Nat.lt_of_le_of_lt (Nat.le_trans (Nat.le_add_right _ _) (Nat.le_add_right _ _)) h
theorem rm1 {d n L:Nat} (h:d + (n + 1) + 1 < L):d + 1 + n + 1 < L:=by omega
theorem rm2 {u n L:Nat} (h:u + 8 * (n + 1) + 40 < L):u + 3 + 8 * n + 40 < L:=by omega
theorem note_first {M:Model} {A:Around} {E:Value → Shared → Prop} {s:Shared} {base:Heap} {env:Env} {outer:List Env} {L e:Addr} {oe:Obj} {vs:Array Value} {a0:Value} {Q:Unit → Shared → Prop}
    (hfr:A.frames = some (env :: outer)) (hl:s.heap.FunFrames base (env :: outer)) (hf:env.frame = some L)
    (he:s.heap.get? e = some oe) (hkb:base.StaysIn s.heap) (hen:base.get? e = none) (hd:oe.data = .fields vs) (h1:vs[1]? = some .none) (h0:vs[0]? = some a0)
    (h:∀ h',Heap.LeftW base (env :: outer) e oe.cls a0 s.heap h' → Q () { s with heap:=h' }):wpAny M A (noteFrame (.ref e) env) (fun ℓ s₂ => wpAny M A (setFlight (.ref e) none) Q E s₂) E s:=by
  unfold noteFrame
  simp only [hf]
  refine wpAny_bind (wpAny_field he hd h1 ?_)
  rw [if_neg (by decide)]
  exact wpAny_newEntryW hfr hl hf he hkb hen hd (Array.getElem?_eq_some_iff.mp h1).1 h0 h
inductive NewExc (B:Heap) (fr:List Env) (a:Addr) (c:Value) (h:Heap):Prop
  | mk (oe:Obj) (vs:Array Value) (a0:Value) (e:h.get? a = some oe) (k:oe.cls = c) (d:oe.data = .fields vs) (e1:vs[1]? = some .none) (e0:vs[0]? = some a0) (st:B.StaysIn h) (n:B.get? a = none) (f:h.FunFrames B fr)
noncomputable def InAir (B:Heap) (fr:List Env) (a:Addr) (c:Value) (h:Heap):Prop :=
  (∃ a0,Heap.FlyingW B fr a c a0 h) ∨ NewExc B fr a c h ∨ (∃ a0 env outer L,fr = env :: outer ∧ env.frame = some L ∧ Heap.HeldW B fr a c a0 L h)
inductive RaisedEx (W:Wd) (fx:Fx) (c e:Value) (h:Heap):Prop
  | mk (a:Addr) (Bx:Heap) (F:Fz) (er:e = .ref a) (st:W.base.StaysIn Bx) (k:∀ b o,fx.B b = some o → b ∉ frs fx.fr → Bx.get? b = some o) (air:InAir Bx fx.fr a c h) (f0:fx.F₀.le F) (fb:∀ a o,F a = some o → Bx.get? a = some o)
      (fok:∀ a o,F a = some o → OkObj o) (fn:∀ a o,F a = some o → fx.F₀ a = some o ∨ fx.B a = none) (t:Tab W F Bx)
structure Raised (W:Wd) (fx:Fx) (c e:Value) (s':Shared):Prop where
  ok:FxOk W fx
  ex:RaisedEx W fx c e s'.heap
  slots:∀ b o,fx.B b = some o → ∃ sl,s'.heap.get? b = some { o with slots:=sl }
  gens:AllBare s'.gens
  os:s'.os = W.os
  ns:∃ m,s'.heap.Ns fx.env.locals m
  cells:∀ x c,fx.env.kindOf x = some .cell → fx.env.cells.lookup x = some c → ∃ v,s'.heap.IsCell c v
structure Wp (W:Wd) (A:Around) {α:Type} (t:Sem α) (Q:α → Shared → Prop) (E:Value → Shared → Prop) (s:Shared):Prop where
  out:wpAny W.M A t Q E s
section
variable {W:Wd} {A:Around} {α β:Type} {E E':Value → Shared → Prop} {s:Shared}
theorem Wp.mono {t:Sem α} {Q Q':α → Shared → Prop} (h:Wp W A t Q E s) (hQ:∀ a s,Q a s → Q' a s) (hE:∀ e s,E e s → E' e s):Wp W A t Q' E' s:=⟨wpAny_mono h.out hQ hE⟩
theorem Wp.imp {t:Sem α} {Q Q':α → Shared → Prop} (h:Wp W A t Q E s) (hQ:∀ a s,Q a s → Q' a s):Wp W A t Q' E s:=⟨wpAny_mono h.out hQ fun ℓ ℓ x => x⟩
theorem Wp.bind {m:Sem α} {f:α → Sem β} {Q:β → Shared → Prop} (h:Wp W A m (fun a s' => Wp W A (f a) Q E s') E s):Wp W A (m >>= f) Q E s:=⟨wpAny_bind (wpAny_mono h.out (fun ℓ ℓ x => x.out) fun ℓ ℓ x => x)⟩
theorem Wp.pure {a:α} {Q:α → Shared → Prop} (h:Q a s):Wp W A (Pure.pure a) Q E s:=⟨wpAny_pure h⟩
end
noncomputable abbrev TE:=(V → Sto → Prop) → (Value → Prop) → Sto → Prop
noncomputable abbrev TO:=(List V → Sto → Prop) → (Value → Prop) → Sto → Prop
noncomputable abbrev TB:=(Bool → Sto → Prop) → (Value → Prop) → Sto → Prop
structure Post where
  next:Sto → Prop
  ret:V → Prop
  brk:Sto → Prop
  cont:Sto → Prop
  exc:Value → Prop
noncomputable abbrev TS:=Post → Sto → Prop
inductive PE (W:Wd) (fx:Fx) (F:Fz) (Q:V → Sto → Prop) (v:Value) (s':Shared):Prop
  | mk (G:Fz) (σ':Sto) (u:V) (le:F.le G) (I:Inv W fx G σ' s') (r:Rep G v u) (q:Q u σ')
inductive PO (W:Wd) (fx:Fx) (F:Fz) (Q:List V → Sto → Prop) (v:Value) (s':Shared):Prop
  | mk (G:Fz) (σ':Sto) (l:List V) (a:Addr) (le:F.le G) (I:Inv W fx G σ' s') (e:v = .ref a) (o:OwnAt fx G s'.heap a l) (ne:∀ y k b,get σ' y = some (.own k) → Holds fx.env s'.heap y (.ref b) → a ≠ b) (q:Q l σ')
inductive PB (W:Wd) (fx:Fx) (F:Fz) (Q:Bool → Sto → Prop) (b:Bool) (s':Shared):Prop
  | mk (G:Fz) (σ':Sto) (le:F.le G) (I:Inv W fx G σ' s') (q:Q b σ')
inductive PU (W:Wd) (fx:Fx) (F:Fz) (Q:Sto → Prop) (s':Shared):Prop
  | mk (G:Fz) (σ':Sto) (le:F.le G) (I:Inv W fx G σ' s') (q:Q σ')
inductive PS (W:Wd) (fx:Fx) (F:Fz) (P:Post) (f:Flow) (s':Shared):Prop
  | mk (G:Fz) (σ':Sto) (le:F.le G) (I:Inv W fx G σ' s') (q:match f with | .next => P.next σ' | .brk => P.brk σ' | .cont => P.cont σ' | .ret v => ∃ u,Rep G v u ∧ P.ret u)
noncomputable def SE (W:Wd) (sc:Scope) (n:Nat) (e:PySem.Expr) (t:TE):Prop :=
  ∀ (fx:Fx) (F:Fz) (σ:Sto) (s:Shared) (Q:V → Sto → Prop) (X:Value → Prop) (E:Value → Shared → Prop),
    fx.env.scope = sc → Room fx.A n → Inv W fx F σ s → t Q X σ → (∀ c e s',X c → Raised W fx c e s' → E e s') → Wp W fx.A (eval e fx.env) (PE W fx F Q) E s
noncomputable def SO (W:Wd) (sc:Scope) (n:Nat) (e:PySem.Expr) (t:TO):Prop :=
  ∀ (fx:Fx) (F:Fz) (σ:Sto) (s:Shared) (Q:List V → Sto → Prop) (X:Value → Prop) (E:Value → Shared → Prop),
    fx.env.scope = sc → Room fx.A n → Inv W fx F σ s → t Q X σ → (∀ c e s',X c → Raised W fx c e s' → E e s') → Wp W fx.A (eval e fx.env) (PO W fx F Q) E s
noncomputable def ST (W:Wd) (sc:Scope) (n:Nat) (e:PySem.Expr) (t:TB):Prop :=
  ∀ (fx:Fx) (F:Fz) (σ:Sto) (s:Shared) (Q:Bool → Sto → Prop) (X:Value → Prop) (E:Value → Shared → Prop),
    fx.env.scope = sc → Room fx.A n → Inv W fx F σ s → t Q X σ → (∀ c e s',X c → Raised W fx c e s' → E e s') → Wp W fx.A (isTrue e fx.env (eval e fx.env)) (PB W fx F Q) E s
noncomputable def SS (W:Wd) (sc:Scope) (n:Nat) (st:Stmt) (t:TS):Prop :=
  ∀ (fx:Fx) (F:Fz) (σ:Sto) (s:Shared) (P:Post) (E:Value → Shared → Prop),
    fx.env.scope = sc → fx.w = true → Room fx.A n → Inv W fx F σ s → t P σ → (∀ c e s',P.exc c → Raised W fx c e s' → E e s') → Wp W fx.A (exec st fx.env) (PS W fx F P) E s
noncomputable def SL (W:Wd) (sc:Scope) (n:Nat) (sts:List Stmt) (t:TS):Prop :=
  ∀ (fx:Fx) (F:Fz) (σ:Sto) (s:Shared) (P:Post) (E:Value → Shared → Prop),
    fx.env.scope = sc → fx.w = true → Room fx.A n → Inv W fx F σ s → t P σ → (∀ c e s',P.exc c → Raised W fx c e s' → E e s') → Wp W fx.A (execs sts fx.env) (PS W fx F P) E s
section
variable {W:Wd} {sc:Scope} {n:Nat} {pos:Pos} {k:Nat}
theorem se_int (i:Int):SE W sc n (.Constant (.int i) k pos) (fun Q ℓ σ => Q (.int i) σ):=fun ℓ F σ s ℓ ℓ ℓ ℓ ℓ I h ℓ =>
  ⟨wpAny_Constant_int ⟨F,σ,_,.refl F,I.ext (.tok s _),.int _ _,h⟩⟩
theorem se_str (x:Str):SE W sc n (.Constant (.str x) k pos) (fun Q ℓ σ => Q (.str x.cps.toList) σ):=fun ℓ F σ s ℓ ℓ ℓ ℓ ℓ I h ℓ =>
  ⟨wpAny_Constant_str ⟨F,σ,_,.refl F,I.ext (.tok s _),.str _ _,h⟩⟩
theorem se_bytes (x:List UInt8):SE W sc n (.Constant (.bytes x) k pos) (fun Q ℓ σ => Q (.bytes x) σ):=fun ℓ F σ s ℓ ℓ ℓ ℓ ℓ I h ℓ =>
  ⟨fun ℓ ℓ ℓ => ⟨F,σ,_,.refl F,I.ext (.tok s _),(by simpa using Rep.bytes x.toArray s.toks),h⟩⟩
theorem se_none:SE W sc n (.Constant .none k pos) (fun Q ℓ σ => Q .none σ):=fun ℓ F σ ℓ ℓ ℓ ℓ ℓ ℓ I h ℓ =>
  ⟨wpAny_Constant_none ⟨F,σ,_,.refl F,I,.none,h⟩⟩
theorem se_bool (b:Bool):SE W sc n (.Constant (.bool b) k pos) (fun Q ℓ σ => Q (.bool b) σ):=fun ℓ F σ ℓ ℓ ℓ ℓ ℓ ℓ I h ℓ =>
  ⟨wpAny_Constant_bool ⟨F,σ,_,.refl F,I,.bool b,h⟩⟩
theorem load_of {fx:Fx} {F:Fz} {σ:Sto} {s:Shared} {x:String} {v:Value} {Q:Value → Shared → Prop} {E:Value → Shared → Prop} (I:Inv W fx F σ s) (h:Holds fx.env s.heap x v)
    (hn:(nm x == ("__classdict__":Str)) = false) (hQ:Q v s):Wp W fx.A (loadName fx.env (nm x)) Q E s:=by
  rcases h with ⟨k,m,hm,e⟩ | ⟨k | k,c,hc,hv⟩
  · exact ⟨wpAny_loadName_local I.ok.kind k hm e hQ⟩
  · exact ⟨wpAny_loadName_cell I.ok.kind k hc hv hQ⟩
  · exact ⟨wpAny_loadName_free I.ok.kind k hc hv hQ hn⟩
noncomputable def tName (x:String):TE:=fun Q ℓ σ => match get σ x with
  | some (.val u) => Q u σ
  | some (.own l) => Q (.list l) (put σ x (.val (.list l)))
  | _ => False
theorem name_sound {fx:Fx} {F:Fz} {σ:Sto} {s:Shared} {x:String} {Q:V → Sto → Prop} {X:Value → Prop} {E:Value → Shared → Prop} (I:Inv W fx F σ s)
    (hn:(nm x == ("__classdict__":Str)) = false) (h:tName x Q X σ):Wp W fx.A (loadName fx.env (nm x)) (PE W fx F Q) E s:=by
  unfold tName at h
  cases e:get σ x with
  | none => rw [e] at h; cases h
  | some sl =>
    rw [e] at h
    obtain ⟨v,hv,hs⟩:=I.vars x sl e
    cases sl with
    | val u => exact load_of I hv hn ⟨F,σ,u,.refl F,I,hs,h⟩
    | own l =>
      obtain ⟨a,rfl,ha⟩:=hs
      obtain ⟨G,hG,I',hr⟩:=I.freeze e hv
      exact load_of I hv hn ⟨G,_,_,hG,I',hr,h⟩
    | app y => cases h
theorem se_name (x:String) (hd:(nm x == ("__debug__":Str)) = false:=by decide) (hn:(nm x == ("__classdict__":Str)) = false:=by decide) :
    SE W sc n (.Name (Str.ofString x) pos) (tName x):=fun ℓ ℓ ℓ ℓ ℓ X ℓ ℓ ℓ I h ℓ => ⟨wpAny_Name (name_sound (X:=X) I hn h).out hd⟩
noncomputable def GlobV (W:Wd) (x:Str) (v:Value):Prop:=∃ mg,W.base.Ns mainGlobals mg ∧ mg x = some v
noncomputable def BltV (W:Wd) (x:Str) (v:Value):Prop:=∃ mg mb,W.base.Ns mainGlobals mg ∧ mg x = none ∧ W.base.Ns builtinsNs mb ∧ mb x = some v
theorem glob_sound {fx:Fx} {F:Fz} {σ:Sto} {s:Shared} {x:Str} {v:Value} {Q:Value → Shared → Prop} {E:Value → Shared → Prop} (I:Inv W fx F σ s) (g:GlobV W x v)
    (hk:fx.env.kindOf x = some .globalImplicit) (hd:(x == ("__debug__":Str)) = false) (h:Q v s):Wp W fx.A (eval (.Name x pos) fx.env) Q E s:=by
  obtain ⟨mg,hg,e⟩:=g
  refine ⟨Name_function_global I.ok.kind hk (loadGlobal_global (mg:=mg) ?_ e h) hd⟩
  rw [I.ok.glob]
  exact hg.keeps I.win.stays
theorem blt_sound {fx:Fx} {F:Fz} {σ:Sto} {s:Shared} {x:Str} {v:Value} {Q:Value → Shared → Prop} {E:Value → Shared → Prop} (I:Inv W fx F σ s) (g:BltV W x v)
    (hk:fx.env.kindOf x = some .globalImplicit) (hd:(x == ("__debug__":Str)) = false) (h:Q v s):Wp W fx.A (eval (.Name x pos) fx.env) Q E s:=by
  obtain ⟨mg,mb,hg,e,hb,e'⟩:=g
  refine ⟨Name_function_global I.ok.kind hk (loadGlobal_builtin (mg:=mg) (mb:=mb) ?_ e ?_ e' h) hd⟩
  · rw [I.ok.glob]; exact hg.keeps I.win.stays
  · rw [I.ok.blt]; exact hb.keeps I.win.stays
theorem se_glob {x:Str} {v:Value} {u:V} (g:GlobV W x v) (hr:∀ F,Rep F v u) (hk:sc.names.lookup x = some .globalImplicit) (hd:(x == ("__debug__":Str)) = false:=by decide) :
    SE W sc n (.Name x pos) (fun Q ℓ σ => Q u σ):=fun ℓ F σ ℓ ℓ ℓ ℓ hsc ℓ I h ℓ => glob_sound I g (by subst hsc; exact hk) hd ⟨F,σ,u,.refl F,I,hr F,h⟩
theorem se_blt {x:Str} {v:Value} {u:V} (g:BltV W x v) (hr:∀ F,Rep F v u) (hk:sc.names.lookup x = some .globalImplicit) (hd:(x == ("__debug__":Str)) = false:=by decide) :
    SE W sc n (.Name x pos) (fun Q ℓ σ => Q u σ):=fun ℓ F σ ℓ ℓ ℓ ℓ hsc ℓ I h ℓ => blt_sound I g (by subst hsc; exact hk) hd ⟨F,σ,u,.refl F,I,hr F,h⟩
noncomputable def small (a:Int):Prop:=a.natAbs < 2 ^ 64
noncomputable def fits (n:Nat):Prop:=n ≤ 10000
noncomputable def intP (op:Operator) (a b:Int) (K:Int → Prop):Prop:=match op with
  | .Add => K (a + b)
  | .Sub => K (a - b)
  | .Mult => small a ∧ K (a * b)
  | .FloorDiv => (b ≠ 0 ∧ small b) ∧ K (a.fdiv b)
  | .Mod => b ≠ 0 ∧ K (a.fmod b)
  | .Pow => (small a ∧ 0 ≤ b ∧ b ≤ 64) ∧ K (a ^ b.toNat)
  | .LShift => (small a ∧ 0 ≤ b ∧ b ≤ 64) ∧ K (a * 2 ^ b.toNat)
  | .RShift => 0 ≤ b ∧ K (a.fdiv (2 ^ b.toNat))
  | .BitAnd => K (Builtin.bitAnd a b)
  | .BitOr => K (Builtin.bitOr a b)
  | _ => False
noncomputable def binP (op:Operator) (a b:V) (K:V → Prop):Prop:=match a with
  | .int a => (match b with
    | .int b => intP op a b fun r => K (.int r)
    | _ => False)
  | .str a => (match b with
    | .str b => (op = .Add ∧ fits (a.length + b.length)) ∧ K (.str (a ++ b))
    | _ => False)
  | _ => False
inductive PV (W:Wd) (fx:Fx) (F:Fz) (σ:Sto) (K:V → Prop) (v:Value) (s':Shared):Prop
  | mk (G:Fz) (u:V) (le:F.le G) (I:Inv W fx G σ s') (r:Rep G v u) (k:K u)
theorem bits_small {a:Int} (h:small a):Builtin.Int.intBits a ≤ 64:=by
  unfold small at h
  exact intBits_le_64 (by omega) (by omega)
theorem pylong_small {b:Int} (h:small b):b.natAbs.log2 < 9000:=by
  unfold small at h
  by_cases z:b.natAbs = 0
  · rw [z]; decide
  · exact Nat.lt_trans ((Nat.log2_lt z).mpr h) (by decide)
theorem sizeLine_ge:(10000:Nat) ≤ sizeLine:=by rw [sizeLine_eq]; omega
theorem fits_size {n:Nat} (h:fits n):n ≤ sizeLine:=Nat.le_trans h sizeLine_ge
theorem int_sound {A:Around} {s:Shared} {op:Operator} {a b:Int} {t u:Tok} {K:Int → Prop} {Q:Value → Shared → Prop} {E:Value → Shared → Prop}
    (fin:∀ (r:Int) (tk t:Nat),K r → Q (Value.int r t) { s with toks:=tk }) (h:intP op a b K):Wp W A (binaryOp op (.int a t) (.int b u)) Q E s:=by
  constructor
  cases op with
  | Add => have h:K (a + b):=h; with_reducible exact P.add_int (fin _ _ _ h)
  | Sub => have h:K (a - b):=h; with_reducible exact P.sub_int (fin _ _ _ h)
  | Mult => have h:small a ∧ K (a * b):=h; with_reducible exact P.mul_int (fin _ _ _ h.2) (.of_left (bits_small h.1))
  | FloorDiv => have h:(b ≠ 0 ∧ small b) ∧ K (a.fdiv b):=h; with_reducible exact floordiv_int h.1.1 (fin _ _ _ h.2) (.inl (PyProof.noPylong_of_log2 (pylong_small h.1.2)))
  | Mod => have h:b ≠ 0 ∧ K (a.fmod b):=h; with_reducible exact mod_int' h.1 (fin _ _ _ h.2)
  | Pow =>
    have h:(small a ∧ 0 ≤ b ∧ b ≤ 64) ∧ K (a ^ b.toNat):=h
    have hz:(Builtin.Int.intBits a:Int) * b ≤ 2 ^ 27:=by
      have h1:=bits_small h.1.1
      have h2:=h.1.2.2
      have h3:=h.1.2.1
      obtain ⟨k,rfl⟩:=Int.eq_ofNat_of_zero_le h3
      have:Builtin.Int.intBits a * k ≤ 64 * 64:=Nat.mul_le_mul h1 (by omega)
      exact_mod_cast Nat.le_trans this (by decide)
    with_reducible exact pow_int h.1.2.1 hz (fin _ _ _ h.2)
  | LShift =>
    have h:(small a ∧ 0 ≤ b ∧ b ≤ 64) ∧ K (a * 2 ^ b.toNat):=h
    have hz:(Builtin.Int.intBits a:Int) + b ≤ 2 ^ 27:=by have:=bits_small h.1.1; have:=h.1.2.2; omega
    with_reducible exact lshift_int h.1.2.1 hz (fin _ _ _ h.2)
  | RShift => have h:0 ≤ b ∧ K (a.fdiv (2 ^ b.toNat)):=h; with_reducible exact rshift_int h.1 (fin _ _ _ h.2)
  | BitAnd => have h:K (Builtin.bitAnd a b):=h; with_reducible exact and_int (fin _ _ _ h)
  | BitOr => have h:K (Builtin.bitOr a b):=h; with_reducible exact or_int (fin _ _ _ h)
  | _ => exact False.elim h
theorem bin_sound {A:Around} {fx:Fx} {F:Fz} {σ:Sto} {s:Shared} {op:Operator} {va vb:Value} {a b:V} {K:V → Prop} {E:Value → Shared → Prop} (I:Inv W fx F σ s) (ra:Rep F va a) (rb:Rep F vb b)
    (h:binP op a b K):Wp W A (binaryOp op va vb) (PV W fx F σ K) E s:=by
  cases a with
  | int a =>
    cases b with
    | int b =>
      obtain ⟨_,rfl⟩:=ra.inv; obtain ⟨_,rfl⟩:=rb.inv
      exact int_sound (K:=fun r => K (.int r)) (fun r tk t hk => ⟨F,.int r,.refl F,I.ext (.tok s _),.int _ _,hk⟩) h
    | _ => exact False.elim h
  | str x =>
    cases b with
    | str y =>
      obtain ⟨x,t,rfl,rfl⟩:=ra.inv
      obtain ⟨y,u,rfl,rfl⟩:=rb.inv
      have h:(op = .Add ∧ fits (x.cps.toList.length + y.cps.toList.length)) ∧ K (.str (x.cps.toList ++ y.cps.toList)):=h
      have h1:=h.1.2
      rw [h.1.1]
      constructor
      have hq:∀ t' tk,PV W fx F σ K (.str (x ++ y) t') { s with toks:=tk }:=fun t' tk => ⟨F,_,.refl F,I.ext (.tok s _),(by
        have:=Rep.str (F:=F) (x ++ y) t'
        rw [Str.cps_append,Array.toList_append] at this
        exact this),h.2⟩
      have hz:x.length + y.length ≤ sizeLine:=by
        simp only [Array.length_toList] at h1
        exact fits_size h1
      with_reducible exact add_str hq hz
    | _ => exact False.elim h
  | _ => exact False.elim h
theorem wp_BinOp {A:Around} {env:Env} {s:Shared} {op:Operator} {l r:PySem.Expr} {Q:Value → Shared → Prop} {E:Value → Shared → Prop}
    (h:Wp W A (eval l env) (fun a s₁ => Wp W A (eval r env) (fun b s₂ => Wp W A (binaryOp op a b) Q E s₂) E s₁) E s):Wp W A (eval (.BinOp l op r pos) env) Q E s :=
  ⟨wpAny_BinOp (wpAny_mono h.out (fun ℓ ℓ h₁ => wpAny_mono h₁.out (fun ℓ ℓ h₂ => h₂.out) fun ℓ ℓ x => x) fun ℓ ℓ x => x)⟩
end
end Mine
end
noncomputable section
open PySem PySem.W PyProof.Rows PySem.Spec PySem.Calls
set_option Elab.async false
set_option maxRecDepth 100000
namespace Mine
section
variable {W:Wd} {A:Around} {env:Env} {s:Shared} {E:Value → Shared → Prop} {pos pos':Pos}
theorem wp_execs_nil {Q:Flow → Shared → Prop} (h:Q .next s):Wp W A (execs [] env) Q E s:=⟨wpAny_execs_nil h⟩
theorem wp_execs_cons {st:Stmt} {rest:List Stmt} {Q:Flow → Shared → Prop}
    (h:Wp W A (exec st env) (fun f s' => match f with | .next => Wp W A (execs rest env) Q E s' | f => Q f s') E s):Wp W A (execs (st :: rest) env) Q E s :=
  ⟨wpAny_execs_cons (wpAny_mono h.out (fun f s' x => by cases f <;> first | exact x.out | exact x) fun ℓ ℓ x => x)⟩
theorem wp_Assign_Name {x:Str} {value:PySem.Expr} {Q:Flow → Shared → Prop}
    (h:Wp W A (eval value env) (fun v s₁ => Wp W A (storeName env x v) (fun ℓ => Q .next) E s₁) E s)
    (hs:swapsWith value (some (.Name x pos')) pos.line env = pure false):Wp W A (exec (.Assign [.Name x pos'] value pos) env) Q E s :=
  ⟨wpAny_Assign_Name (wpAny_mono h.out (fun ℓ ℓ x => x.out) fun ℓ ℓ x => x) hs⟩
theorem wp_Return {e:PySem.Expr} {Q:Flow → Shared → Prop} (h:Wp W A (eval e env) (fun v => Q (.ret v)) E s):Wp W A (exec (.Return (some e) pos) env) Q E s:=⟨wpAny_Return_some h.out⟩
theorem wp_If {test:PySem.Expr} {body orelse:List Stmt} {Q:Flow → Shared → Prop}
    (h:Wp W A (isTrue test env (eval test env)) (fun b s₂ => if b then Wp W A (execs body env) Q E s₂ else Wp W A (execs orelse env) Q E s₂) E s) :
    Wp W A (exec (.If test body orelse pos) env) Q E s :=
  ⟨wpAny_If (wpAny_mono h.out (fun b s' x => by cases b <;> exact x.out) fun ℓ ℓ x => x)⟩
theorem wp_IfExp {test body orelse:PySem.Expr} {Q:Value → Shared → Prop}
    (h:Wp W A (isTrue test env (eval test env)) (fun b s₁ => if b then Wp W A (eval body env) Q E s₁ else Wp W A (eval orelse env) Q E s₁) E s):Wp W A (eval (.IfExp test body orelse pos) env) Q E s :=
  ⟨wpAny_IfExp (wpAny_mono h.out (fun b s' x => by cases b <;> exact x.out) fun ℓ ℓ x => x)⟩
theorem wp_AugName {x:Str} {op:Operator} {value:PySem.Expr} {Q:Flow → Shared → Prop}
    (h:Wp W A (loadName env x) (fun old s₁ => Wp W A (eval value env) (fun v s₂ => Wp W A (inplaceOp op old v) (fun r s₃ => Wp W A (storeName env x r) (fun ℓ => Q .next) E s₃) E s₂) E s₁) E s) :
    Wp W A (exec (.AugAssign (.Name x pos') op value pos) env) Q E s :=
  ⟨wpAny_AugAssign_Name (wpAny_mono h.out (fun ℓ ℓ x => wpAny_mono x.out (fun ℓ ℓ x => wpAny_mono x.out (fun ℓ ℓ x => x.out) fun ℓ ℓ x => x) fun ℓ ℓ x => x) fun ℓ ℓ x => x)⟩
theorem wp_Compare1 {l r:PySem.Expr} {op:CmpOp} {Q:Value → Shared → Prop}
    (h:Wp W A (eval l env) (fun a s₁ => Wp W A (eval r env) (fun b s₂ => Wp W A (compareOp op a b) Q E s₂) E s₁) E s) (hm:behindInMarks op r = false) :
    Wp W A (eval (.Compare l [op] [r] pos) env) Q E s :=
  ⟨wpAny_Compare1 (wpAny_mono h.out (fun ℓ ℓ x => wpAny_mono x.out (fun ℓ ℓ x => x.out) fun ℓ ℓ x => x) fun ℓ ℓ x => x) hm⟩
theorem wp_isTrue_Compare1 {l r:PySem.Expr} {op:CmpOp} {whole:Sem Value} {Q:Bool → Shared → Prop}
    (h:Wp W A (eval l env) (fun a s₁ => Wp W A (eval r env) (fun b s₂ => Wp W A (compareOp op a b) (fun c s₃ => Wp W A (truthy c) Q E s₃) E s₂) E s₁) E s) (hm:behindInMarks op r = false) :
    Wp W A (isTrue (.Compare l [op] [r] pos) env whole) Q E s :=
  ⟨wpAny_isTrue_Compare1 (wpAny_mono h.out (fun ℓ ℓ x => wpAny_mono x.out (fun ℓ ℓ x => wpAny_mono x.out (fun ℓ ℓ x => x.out) fun ℓ ℓ x => x) fun ℓ ℓ x => x) fun ℓ ℓ x => x) hm⟩
theorem wp_isTrue_Compare2 {l r₁ r₂:PySem.Expr} {op₁ op₂:CmpOp} {whole:Sem Value} {Q:Bool → Shared → Prop}
    (h:Wp W A (eval l env) (fun a s₁ => Wp W A (eval r₁ env) (fun b s₂ => Wp W A (compareOp op₁ a b) (fun c s₃ => Wp W A (truthy c)
      (fun t s₄ => if t then Wp W A (eval r₂ env) (fun b' s₅ => Wp W A (compareOp op₂ b b') (fun c' s₆ => Wp W A (truthy c') Q E s₆) E s₅) E s₄ else Q false s₄) E s₃) E s₂) E s₁) E s)
    (hm:lastMarks [op₁,op₂] [r₁,r₂] = false):Wp W A (isTrue (.Compare l [op₁,op₂] [r₁,r₂] pos) env whole) Q E s :=
  ⟨isTrue_chain (rs:=[]) (ops:=[]) (wpAny_mono h.out (fun ℓ ℓ x => test_link (wpAny_mono x.out (fun ℓ ℓ x => wpAny_mono x.out (fun ℓ ℓ x => wpAny_mono x.out (fun t ℓ x => by
    cases t
    · exact x
    · exact test_last (wpAny_mono x.out (fun ℓ ℓ x => wpAny_mono x.out (fun ℓ ℓ x => x.out) fun ℓ ℓ x => x) fun ℓ ℓ x => x)) fun ℓ ℓ x => x) fun ℓ ℓ x => x) fun ℓ ℓ x => x)) fun ℓ ℓ x => x) hm⟩
theorem wp_isTrue_Not {x:PySem.Expr} {whole:Sem Value} {Q:Bool → Shared → Prop} (h:Wp W A (isTrue x env (eval x env)) (fun b s₁ => Q (!b) s₁) E s):Wp W A (isTrue (.UnaryOp .Not x pos) env whole) Q E s:=⟨wpAny_isTrue_Not h.out⟩
theorem wp_isTrue_value {e:PySem.Expr} {whole:Sem Value} {Q:Bool → Shared → Prop} (h:Wp W A whole (fun v s₁ => Wp W A (truthy v) Q E s₁) E s)
    (he:isTrue e env whole = (do let v ← whole; standAt e.pos; holding [v] (truthy v))):Wp W A (isTrue e env whole) Q E s :=
  ⟨wpAny_isTrue_value (wpAny_mono h.out (fun ℓ ℓ x => x.out) fun ℓ ℓ x => x) he⟩
theorem wp_Or2 {x y:PySem.Expr} {Q:Value → Shared → Prop}
    (h:Wp W A (eval x env) (fun v s₁ => Wp W A (truthy v) (fun t s₂ => if t then Q v s₂ else Wp W A (eval y env) Q E s₂) E s₁) E s):Wp W A (eval (.BoolOp .Or [x,y] pos) env) Q E s :=
  ⟨wpAny_Or2 (wpAny_mono h.out (fun ℓ ℓ x => wpAny_mono x.out (fun t ℓ x => by cases t <;> first | exact x.out | exact x) fun ℓ ℓ x => x) fun ℓ ℓ x => x)⟩
theorem wp_And2 {x y:PySem.Expr} {Q:Value → Shared → Prop}
    (h:Wp W A (eval x env) (fun v s₁ => Wp W A (truthy v) (fun t s₂ => if t then Wp W A (eval y env) Q E s₂ else Q v s₂) E s₁) E s):Wp W A (eval (.BoolOp .And [x,y] pos) env) Q E s :=
  ⟨wpAny_And2 (wpAny_mono h.out (fun ℓ ℓ x => wpAny_mono x.out (fun t ℓ x => by cases t <;> first | exact x.out | exact x) fun ℓ ℓ x => x) fun ℓ ℓ x => x)⟩
end
section
variable {W:Wd} {sc:Scope} {n:Nat} {pos pos':Pos} {k:Nat}
noncomputable def truthP (v:V) (K:Bool → Prop):Prop:=match v with
  | .none => K false
  | .bool b => K b
  | .int i => K (i != 0)
  | .str x => fits x.length ∧ K (!x.isEmpty)
  | .list l => fits l.length ∧ K (!l.isEmpty)
  | _ => False
theorem big_ok {m:Nat} (h:fits m):(m:Int) < 2 ^ 63:=by unfold fits at h; omega
theorem truth_sound {A:Around} {fx:Fx} {F:Fz} {σ:Sto} {s:Shared} {vv:Value} {v:V} {K:Bool → Prop} {E:Value → Shared → Prop} (I:Inv W fx F σ s) (r:Rep F vv v) (h:truthP v K) :
    Wp W A (truthy vv) (fun b s' => Inv W fx F σ s' ∧ K b) E s:=by
  cases v with
  | none => obtain rfl:=r.inv; constructor; have h:K false:=h; with_reducible exact truthy_none ⟨I,h⟩
  | bool b => obtain rfl:=r.inv; constructor; have h:K b:=h; with_reducible exact wpAny_truthy_bool ⟨I,h⟩
  | int i => obtain ⟨_,rfl⟩:=r.inv; constructor; have h:K (i != 0):=h; with_reducible exact P.truthy_int ⟨I,h⟩
  | str x =>
    obtain ⟨x,t,rfl,rfl⟩:=r.inv
    have h:fits x.cps.toList.length ∧ K (!x.cps.toList.isEmpty):=h
    obtain ⟨h1,h2⟩:=h
    rw [Array.length_toList] at h1
    have e:((x.length:Int) != 0) = !x.cps.toList.isEmpty:=by
      unfold Str.length
      cases hx:x.cps.toList with
      | nil => simp [show x.cps = #[] from by simpa using congrArg List.toArray hx]
      | cons a b =>
        have:x.cps.size = b.length + 1:=by rw [← Array.length_toList,hx]; rfl
        rw [this]; simp; omega
    have hz:(x.length:Int) < 9223372036854775808:=by have:=big_ok h1; unfold Str.length; omega
    constructor
    refine SBL.truthy hz ?_
    rw [e]
    exact ⟨I.ext (.tok s _),h2⟩
  | list l =>
    obtain ⟨a,o,xs,ep,rfl,e,hc,hd,hr⟩:=r.inv
    have h:fits l.length ∧ K (!l.isEmpty):=h
    obtain ⟨h1,h2⟩:=h
    have hl:=hr.length
    have he:(!xs.isEmpty) = !l.isEmpty:=by
      cases l with
      | nil => simp at hl; simp [hl]
      | cons a b =>
        have:xs.size = b.length + 1:=by simpa using hl
        simp [Array.isEmpty,this]
    constructor
    refine wpAny_truthy_list ⟨o,I.fin _ _ e,hc,ep,hd⟩ (by have:=big_ok h1; simp at hl; omega) ?_
    rw [he]
    exact ⟨I.ext (.tok s _),h2⟩
  | _ => exact False.elim h
noncomputable def intCmp (op:CmpOp) (a b:Int) (K:Bool → Prop):Prop:=match op with
  | .Eq => K (a == b)
  | .NotEq => K (a != b)
  | .Lt => K (decide (a < b))
  | .LtE => K (decide (a ≤ b))
  | .Gt => K (decide (a > b))
  | .GtE => K (decide (a ≥ b))
  | _ => False
noncomputable def strCmp (op:CmpOp) (x y:List Nat) (K:Bool → Prop):Prop:=match op with
  | .Eq => K (x == y)
  | .NotEq => K (x != y)
  | .Lt => K (decide (x < y))
  | .Gt => K (decide (y < x))
  | .In => ∃ c,x = [c] ∧ K (decide (c ∈ y))
  | .NotIn => ∃ c,x = [c] ∧ K (!decide (c ∈ y))
  | _ => False
noncomputable def isNone:V → Bool
  | .none => true
  | _ => false
noncomputable def vstrs:List (List Nat) → List V:=List.map V.str
noncomputable def cmpP (op:CmpOp) (a b:V) (K:Bool → Prop):Prop:=match b with
  | .none => (match op with
    | .Is => K (isNone a)
    | .IsNot => K (!isNone a)
    | _ => False)
  | .int b => (match a with
    | .int a => intCmp op a b K
    | _ => False)
  | .str y => (match a with
    | .str x => strCmp op x y K
    | _ => False)
  | .bytes y => (match a with
    | .bytes x => (match op with
      | .Eq => K (x == y)
      | .NotEq => K (x != y)
      | _ => False)
    | _ => False)
  | .ty y => (match a with
    | .ty x => (match op with
      | .Is => K (x == y)
      | _ => False)
    | _ => False)
  | .ref _ => (match a with
    | .str _ => (match op with
      | .IsNot => K true
      | _ => False)
    | _ => False)
  | .list l => (match a with
    | .str x => (match op with
      | .In => ∃ ys,l = vstrs ys ∧ K (decide (x ∈ ys))
      | .NotIn => ∃ ys,l = vstrs ys ∧ K (!decide (x ∈ ys))
      | _ => False)
    | _ => False)
  | .tuple l => (match a with
    | .str x => (match op with
      | .In => ∃ ys,l = vstrs ys ∧ K (decide (x ∈ ys))
      | _ => False)
    | _ => False)
  | _ => False
theorem strsAre_of {F:Fz} {vs:List Value} {ys:List (List Nat)} (h:Reps F vs (vstrs ys)):∃ zs:List Str,StrsAre vs zs ∧ zs.map (·.cps.toList) = ys:=by
  induction ys generalizing vs with
  | nil => obtain rfl:=h.inv; exact ⟨[],.nil,rfl⟩
  | cons y ys ih =>
    obtain ⟨v,w,rfl,a,b⟩:=h.inv
    obtain ⟨zs,h1,h2⟩:=ih b
    obtain ⟨s,t,rfl,e⟩:=a.inv
    exact ⟨s :: zs,.cons s t h1,by rw [List.map_cons,h2,e]⟩
theorem str_ext' {x y:Str}:x.cps.toList = y.cps.toList ↔ x = y:=by
  constructor
  · intro h
    cases x; cases y
    simpa using h
  · rintro rfl; rfl
theorem any_mem {zs:List Str} {x:Str}:zs.any (· == x) = decide (x.cps.toList ∈ zs.map (·.cps.toList)):=by
  rw [Bool.eq_iff_iff,List.any_eq_true,decide_eq_true_eq,List.mem_map]
  constructor
  · rintro ⟨z,hz,e⟩
    have:z = x:=by simpa using e
    exact ⟨z,hz,by rw [this]⟩
  · rintro ⟨z,hz,e⟩
    exact ⟨z,hz,by simp [str_ext'.mp e]⟩
theorem cmp_int {A:Around} {s:Shared} {op:CmpOp} {a b:Int} {t u:Tok} {K:Bool → Prop} {Q:Value → Shared → Prop} {E:Value → Shared → Prop}
    (fin:∀ b,K b → Q (.bool b) s) (h:intCmp op a b K):Wp W A (compareOp op (.int a t) (.int b u)) Q E s:=by
  constructor
  cases op with
  | Eq => have h:K (a == b):=h; with_reducible exact P.eq_int (fin _ h)
  | NotEq => have h:K (a != b):=h; with_reducible exact P.ne_int (fin _ h)
  | Lt => have h:K (decide (a < b)):=h; with_reducible exact P.lt_int (fin _ h)
  | LtE => have h:K (decide (a ≤ b)):=h; with_reducible exact P.le_int (fin _ h)
  | Gt => have h:K (decide (a > b)):=h; with_reducible exact P.gt_int (fin _ h)
  | GtE => have h:K (decide (a ≥ b)):=h; with_reducible exact P.ge_int (fin _ h)
  | _ => exact False.elim h
theorem cmp_str {A:Around} {s:Shared} {op:CmpOp} {x y:Str} {t u:Tok} {K:Bool → Prop} {Q:Value → Shared → Prop} {E:Value → Shared → Prop}
    (fin:∀ b,K b → Q (.bool b) s) (h:strCmp op x.cps.toList y.cps.toList K):Wp W A (compareOp op (.str x t) (.str y u)) Q E s:=by
  constructor
  cases op with
  | Eq => have h:K (x.cps.toList == y.cps.toList):=h; with_reducible exact P.eq_str (fin _ h)
  | NotEq => have h:K (x.cps.toList != y.cps.toList):=h; with_reducible exact P.ne_str (fin _ h)
  | Lt => have h:K (decide (x.cps.toList < y.cps.toList)):=h; with_reducible exact P.lt_str (fin _ h)
  | Gt => have h:K (decide (y.cps.toList < x.cps.toList)):=h; with_reducible exact P.gt_str (fin _ h)
  | In =>
    have h:∃ c,x.cps.toList = [c] ∧ K (decide (c ∈ y.cps.toList)):=h
    obtain ⟨c,hc,h2⟩:=h
    obtain rfl:x = ⟨#[c]⟩:=str_ext'.mp hc
    have e:=StrLaws.found_one y c
    rw [← e] at h2
    with_reducible exact P.in_str (fin _ h2)
  | NotIn =>
    have h:∃ c,x.cps.toList = [c] ∧ K (!decide (c ∈ y.cps.toList)):=h
    obtain ⟨c,hc,h2⟩:=h
    obtain rfl:x = ⟨#[c]⟩:=str_ext'.mp hc
    have e:=StrLaws.found_one y c
    rw [← e] at h2
    with_reducible exact P.notIn_str (fin _ h2)
  | _ => exact False.elim h
theorem isNone_of {F:Fz} {v:Value} {a:V} (r:Rep F v a):(v == .none) = isNone a:=by cases r <;> rfl
theorem cmp_sound {A:Around} {fx:Fx} {F:Fz} {σ:Sto} {s:Shared} {op:CmpOp} {va vb:Value} {a b:V} {K:Bool → Prop} {E:Value → Shared → Prop} (I:Inv W fx F σ s) (ra:Rep F va a) (rb:Rep F vb b)
    (h:cmpP op a b K):Wp W A (compareOp op va vb) (fun v s' => ∃ b,v = .bool b ∧ Inv W fx F σ s' ∧ K b) E s:=by
  have fin:∀ b,K b → ∃ b',Value.bool b = .bool b' ∧ Inv W fx F σ s ∧ K b':=fun b hb => ⟨b,rfl,I,hb⟩
  cases b with
  | none =>
    obtain rfl:=rb.inv
    have e:=isNone_of ra
    cases op with
    | Is =>
      have h:K (isNone a):=h
      rw [← e] at h
      constructor; with_reducible exact is_none (fin _ h)
    | IsNot =>
      have h:K (!isNone a):=h
      rw [← e] at h
      constructor; with_reducible exact isNot_none (fin _ h)
    | _ => exact False.elim h
  | int b =>
    cases a with
    | int a => obtain ⟨_,rfl⟩:=ra.inv; obtain ⟨_,rfl⟩:=rb.inv; exact cmp_int fin h
    | _ => exact False.elim h
  | str y =>
    cases a with
    | str x =>
      obtain ⟨x,t,rfl,rfl⟩:=ra.inv
      obtain ⟨y,u,rfl,rfl⟩:=rb.inv
      exact cmp_str fin h
    | _ => exact False.elim h
  | bytes y =>
    cases a with
    | bytes x =>
      obtain ⟨x,t,rfl,rfl⟩:=ra.inv
      obtain ⟨y,u,rfl,rfl⟩:=rb.inv
      constructor
      cases op with
      | Eq => have h:K (x.toList == y.toList):=h; with_reducible exact eq_bytes (fin _ h)
      | NotEq => have h:K (x.toList != y.toList):=h; with_reducible exact ne_bytes (fin _ h)
      | _ => exact False.elim h
    | _ => exact False.elim h
  | ty y =>
    cases a with
    | ty x =>
      cases op with
      | Is =>
        obtain rfl:=ra.inv; obtain rfl:=rb.inv
        have h:K (x == y):=h
        have e:(Value.type x == Value.type y) = (x == y):=by
          rw [Bool.eq_iff_iff]; simp
        rw [← e] at h
        constructor; with_reducible exact wpAny_is_plain rfl (fin _ h)
      | _ => exact False.elim h
    | _ => exact False.elim h
  | ref y =>
    cases a with
    | str x =>
      cases op with
      | IsNot =>
        obtain ⟨_,_,rfl,rfl⟩:=ra.inv; obtain rfl:=rb.inv
        have h:K true:=h
        constructor
        refine wpAny_isNot_other rfl (by simp) (fin _ h)
      | _ => exact False.elim h
    | _ => exact False.elim h
  | list l =>
    cases a with
    | str x =>
      obtain ⟨x,t,rfl,rfl⟩:=ra.inv
      obtain ⟨a,o,xs,ep,rfl,e,hc,hd,hr⟩:=rb.inv
      have hl:s.heap.IsList a xs.toList.toArray:=⟨o,I.fin _ _ e,hc,ep,by simpa using hd⟩
      cases op with
      | In =>
        have h:∃ ys,l = vstrs ys ∧ K (decide (x.cps.toList ∈ ys)):=h
        obtain ⟨ys,rfl,h2⟩:=h
        obtain ⟨zs,h1,rfl⟩:=strsAre_of hr
        rw [← any_mem] at h2
        constructor; with_reducible exact in_list_strs hl h1 (fin _ h2)
      | NotIn =>
        have h:∃ ys,l = vstrs ys ∧ K (!decide (x.cps.toList ∈ ys)):=h
        obtain ⟨ys,rfl,h2⟩:=h
        obtain ⟨zs,h1,rfl⟩:=strsAre_of hr
        rw [← any_mem] at h2
        constructor; with_reducible exact notin_list_strs hl h1 (fin _ h2)
      | _ => exact False.elim h
    | _ => exact False.elim h
  | tuple l =>
    cases a with
    | str x =>
      obtain ⟨x,t,rfl,rfl⟩:=ra.inv
      obtain ⟨a,o,xs,ep,rfl,e,hc,hd,hr⟩:=rb.inv
      cases op with
      | In =>
        have h:∃ ys,l = vstrs ys ∧ K (decide (x.cps.toList ∈ ys)):=h
        obtain ⟨ys,rfl,h2⟩:=h
        obtain ⟨zs,h1,rfl⟩:=strsAre_of hr
        rw [← any_mem] at h2
        have ht:IsTup s.heap a xs:=⟨o,I.fin _ _ e,hc,ep,hd⟩
        constructor; with_reducible exact in_tuple_strs ht h1 (fin _ h2)
      | _ => exact False.elim h
    | _ => exact False.elim h
  | _ => exact False.elim h
noncomputable def tCmp (op:CmpOp) (l r:TE):TB:=fun Q X σ => l (fun a σ₁ => r (fun b σ₂ => cmpP op a b fun u => Q u σ₂) X σ₁) X σ
theorem st_cmp {op:CmpOp} {l r:PySem.Expr} {tl tr:TE} (hl:SE W sc n l tl) (hr:SE W sc n r tr) (hm:behindInMarks op r = false:=by with_unfolding_all rfl) :
    ST W sc n (.Compare l [op] [r] pos) (tCmp op tl tr) :=
  fun fx F σ s Q X E hsc hrm I h hE => by
    refine wp_isTrue_Compare1 ((hl fx F σ s _ X E hsc hrm I h hE).imp fun va s₁ h₁ => ?_) hm
    obtain ⟨F₁,σ₁,a,h01,I₁,ra,h₁⟩:=h₁
    refine (hr fx F₁ σ₁ s₁ _ X E hsc hrm I₁ h₁ hE).imp fun vb s₂ h₂ => ?_
    obtain ⟨F₂,σ₂,b,h12,I₂,rb,h₂⟩:=h₂
    refine (cmp_sound I₂ (ra.mono h12) rb h₂).imp fun v s₃ h₃ => ?_
    obtain ⟨b,rfl,I₃,h₃⟩:=h₃
    exact ⟨wpAny_truthy_bool ⟨F₂,σ₂,h01.trans h12,I₃,h₃⟩⟩
theorem se_cmp {op:CmpOp} {l r:PySem.Expr} {tl tr:TE} (hl:SE W sc n l tl) (hr:SE W sc n r tr) (hm:behindInMarks op r = false:=by with_unfolding_all rfl) :
    SE W sc n (.Compare l [op] [r] pos) (fun Q => tCmp op tl tr fun b => Q (.bool b)) :=
  fun fx F σ s Q X E hsc hrm I h hE => by
    refine wp_Compare1 ((hl fx F σ s _ X E hsc hrm I h hE).imp fun va s₁ h₁ => ?_) hm
    obtain ⟨F₁,σ₁,a,h01,I₁,ra,h₁⟩:=h₁
    refine (hr fx F₁ σ₁ s₁ _ X E hsc hrm I₁ h₁ hE).imp fun vb s₂ h₂ => ?_
    obtain ⟨F₂,σ₂,b,h12,I₂,rb,h₂⟩:=h₂
    refine (cmp_sound I₂ (ra.mono h12) rb h₂).imp fun v s₃ h₃ => ?_
    obtain ⟨b,rfl,I₃,h₃⟩:=h₃
    exact ⟨F₂,σ₂,_,h01.trans h12,I₃,.bool b,h₃⟩
noncomputable def tCmp2 (op₁ op₂:CmpOp) (l r₁ r₂:TE):TB:=fun Q X σ => l (fun a σ₁ => r₁ (fun b σ₂ => cmpP op₁ a b fun u => if u then r₂ (fun c σ₃ => cmpP op₂ b c fun u => Q u σ₃) X σ₂ else Q false σ₂) X σ₁) X σ
theorem st_cmp2 {op₁ op₂:CmpOp} {l r₁ r₂:PySem.Expr} {tl t₁ t₂:TE} (hl:SE W sc n l tl) (h₁:SE W sc n r₁ t₁) (h₂:SE W sc n r₂ t₂) (hm:lastMarks [op₁,op₂] [r₁,r₂] = false:=by with_unfolding_all rfl) :
    ST W sc n (.Compare l [op₁,op₂] [r₁,r₂] pos) (tCmp2 op₁ op₂ tl t₁ t₂) :=
  fun fx F σ s Q X E hsc hrm I h hE => by
    refine wp_isTrue_Compare2 ((hl fx F σ s _ X E hsc hrm I h hE).imp fun va s₁ k₁ => ?_) hm
    obtain ⟨F₁,σ₁,a,h01,I₁,ra,k₁⟩:=k₁
    refine (h₁ fx F₁ σ₁ s₁ _ X E hsc hrm I₁ k₁ hE).imp fun vb s₂ k₂ => ?_
    obtain ⟨F₂,σ₂,b,h12,I₂,rb,k₂⟩:=k₂
    refine (cmp_sound I₂ (ra.mono h12) rb k₂).imp fun v s₃ k₃ => ?_
    obtain ⟨u,rfl,I₃,k₃⟩:=k₃
    refine ⟨wpAny_truthy_bool ?_⟩
    cases u with
    | false => exact ⟨F₂,σ₂,h01.trans h12,I₃,k₃⟩
    | true =>
      simp only [if_true] at k₃ ⊢
      refine (h₂ fx F₂ σ₂ s₃ _ X E hsc hrm I₃ k₃ hE).imp fun vc s₄ k₄ => ?_
      obtain ⟨F₃,σ₃,c,h23,I₄,rc,k₄⟩:=k₄
      refine (cmp_sound I₄ (rb.mono h23) rc k₄).imp fun v s₅ k₅ => ?_
      obtain ⟨u,rfl,I₅,k₅⟩:=k₅
      exact ⟨wpAny_truthy_bool ⟨F₃,σ₃,(h01.trans h12).trans h23,I₅,k₅⟩⟩
theorem st_not {x:PySem.Expr} {t:TB} (h:ST W sc n x t):ST W sc n (.UnaryOp .Not x pos) (fun Q => t fun b => Q (!b)) :=
  fun fx F σ s Q X E hsc hrm I k hE => wp_isTrue_Not ((h fx F σ s _ X E hsc hrm I k hE).imp fun _ _ ⟨a,b,c,d,e⟩ => ⟨a,b,c,d,e⟩)
noncomputable def tTruth (t:TE):TB:=fun Q X σ => t (fun v σ₁ => truthP v fun b => Q b σ₁) X σ
theorem st_val {e:PySem.Expr} {t:TE} (h:SE W sc n e t) (he:∀ env whole,isTrue e env whole = (do let v ← whole; standAt e.pos; holding [v] (truthy v)):=by intro _ _; rfl):ST W sc n e (tTruth t) :=
  fun fx F σ s Q X E hsc hrm I k hE => by
    refine wp_isTrue_value ((h fx F σ s _ X E hsc hrm I k hE).imp fun v s₁ k₁ => ?_) (he _ _)
    obtain ⟨F₁,σ₁,a,h01,I₁,ra,k₁⟩:=k₁
    exact (truth_sound I₁ ra k₁).imp fun b s₂ k₂ => ⟨F₁,σ₁,h01,k₂.1,k₂.2⟩
noncomputable def tTruthName (x:String):TB:=fun Q X σ => match get σ x with
  | some (.own l) => fits l.length ∧ Q (!l.isEmpty) σ
  | _ => tTruth (tName x) Q X σ
theorem st_name (x:String) (hd:(nm x == ("__debug__":Str)) = false:=by decide) (hn:(nm x == ("__classdict__":Str)) = false:=by decide):ST W sc n (.Name (Str.ofString x) pos) (tTruthName x) :=
  fun fx F σ s Q X E hsc hrm I k hE => by
    cases e:get σ x with
    | none => exact st_val (se_name x hd hn) (by intro _ _; rfl) fx F σ s Q X E hsc hrm I (by unfold tTruthName at k; rw [e] at k; exact k) hE
    | some sl =>
      cases sl with
      | own l =>
        have k:fits l.length ∧ Q (!l.isEmpty) σ:=by unfold tTruthName at k; rw [e] at k; exact k
        refine wp_isTrue_value ?_ (by rfl)
        obtain ⟨v,hv,a,rfl,⟨⟨o,xs,ep,ho,hc,hd',hr,_⟩,_,_⟩⟩:=I.vars x _ e
        refine ⟨wpAny_Name (load_of I hv hn ?_).out hd⟩
        have hl:=hr.length
        have he:(!xs.isEmpty) = !l.isEmpty:=by
          cases l with
          | nil => simp at hl; simp [hl]
          | cons a b =>
            have:xs.size = b.length + 1:=by simpa using hl
            simp [Array.isEmpty,this]
        constructor
        refine wpAny_truthy_list ⟨o,ho,hc,ep,hd'⟩ (by have:=big_ok k.1; simp at hl; omega) ?_
        rw [he]
        exact ⟨F,σ,.refl F,I.ext (.tok s _),k.2⟩
      | _ => exact st_val (se_name x hd hn) (by intro _ _; rfl) fx F σ s Q X E hsc hrm I (by unfold tTruthName at k; rw [e] at k; exact k) hE
noncomputable def SA (W:Wd) (sc:Scope) (n:Nat) (op:BoolOp) (es:List PySem.Expr) (t:TB):Prop :=
  ∀ (fx:Fx) (F:Fz) (σ:Sto) (s:Shared) (Q:Bool → Sto → Prop) (X:Value → Prop) (E:Value → Shared → Prop),
    fx.env.scope = sc → Room fx.A n → Inv W fx F σ s → t Q X σ → (∀ c e s',X c → Raised W fx c e s' → E e s') → Wp W fx.A (allTrue op es fx.env) (PB W fx F Q) E s
theorem sa_and_nil:SA W sc n .And [] (fun Q ℓ σ => Q true σ):=fun ℓ F σ ℓ ℓ ℓ ℓ ℓ ℓ I k ℓ => ⟨wpAny_allTrue_And_nil ⟨F,σ,.refl F,I,k⟩⟩
theorem sa_or_nil:SA W sc n .Or [] (fun Q ℓ σ => Q false σ):=fun ℓ F σ ℓ ℓ ℓ ℓ ℓ ℓ I k ℓ => ⟨wpAny_allTrue_Or_nil ⟨F,σ,.refl F,I,k⟩⟩
theorem sa_and {x:PySem.Expr} {r:List PySem.Expr} {tx tr:TB} (hx:ST W sc n x tx) (hr:SA W sc n .And r tr) :
    SA W sc n .And (x :: r) (fun Q X σ => tx (fun b σ₁ => if b then tr Q X σ₁ else Q false σ₁) X σ) :=
  fun fx F σ s Q X E hsc hrm I k hE => by
    refine ⟨wpAny_allTrue_And_cons (wpAny_mono (hx fx F σ s _ X E hsc hrm I k hE).out (fun b s₁ k₁ => ?_) fun ℓ ℓ x => x)⟩
    obtain ⟨F₁,σ₁,h01,I₁,k₁⟩:=k₁
    cases b with
    | false => exact ⟨F₁,σ₁,h01,I₁,k₁⟩
    | true =>
      simp only [if_true] at k₁ ⊢
      refine wpAny_mono (hr fx F₁ σ₁ s₁ Q X E hsc hrm I₁ k₁ hE).out (fun b s₂ k₂ => ?_) fun ℓ ℓ x => x
      obtain ⟨F₂,σ₂,h12,I₂,k₂⟩:=k₂
      exact ⟨F₂,σ₂,h01.trans h12,I₂,k₂⟩
theorem sa_or {x:PySem.Expr} {r:List PySem.Expr} {tx tr:TB} (hx:ST W sc n x tx) (hr:SA W sc n .Or r tr) :
    SA W sc n .Or (x :: r) (fun Q X σ => tx (fun b σ₁ => if b then Q true σ₁ else tr Q X σ₁) X σ) :=
  fun fx F σ s Q X E hsc hrm I k hE => by
    refine ⟨wpAny_allTrue_Or_cons (wpAny_mono (hx fx F σ s _ X E hsc hrm I k hE).out (fun b s₁ k₁ => ?_) fun ℓ ℓ x => x)⟩
    obtain ⟨F₁,σ₁,h01,I₁,k₁⟩:=k₁
    cases b with
    | true => exact ⟨F₁,σ₁,h01,I₁,k₁⟩
    | false =>
      simp only [Bool.false_eq_true,if_false] at k₁ ⊢
      refine wpAny_mono (hr fx F₁ σ₁ s₁ Q X E hsc hrm I₁ k₁ hE).out (fun b s₂ k₂ => ?_) fun ℓ ℓ x => x
      obtain ⟨F₂,σ₂,h12,I₂,k₂⟩:=k₂
      exact ⟨F₂,σ₂,h01.trans h12,I₂,k₂⟩
theorem st_bool {op:BoolOp} {es:List PySem.Expr} {t:TB} (h:SA W sc n op es t):ST W sc n (.BoolOp op es pos) t :=
  fun fx F σ s Q X E hsc hrm I k hE => ⟨wpAny_isTrue_BoolOp (h fx F σ s Q X E hsc hrm I k hE).out⟩
theorem se_or2 {x y:PySem.Expr} {tx ty:TE} (hx:SE W sc n x tx) (hy:SE W sc n y ty) :
    SE W sc n (.BoolOp .Or [x,y] pos) (fun Q X σ => tx (fun v σ₁ => truthP v fun b => if b then Q v σ₁ else ty Q X σ₁) X σ) :=
  fun fx F σ s Q X E hsc hrm I k hE => by
    refine wp_Or2 ((hx fx F σ s _ X E hsc hrm I k hE).imp fun v s₁ k₁ => ?_)
    obtain ⟨F₁,σ₁,a,h01,I₁,ra,k₁⟩:=k₁
    refine (truth_sound I₁ ra k₁).imp fun b s₂ k₂ => ?_
    obtain ⟨I₂,k₂⟩:=k₂
    cases b with
    | true => exact ⟨F₁,σ₁,a,h01,I₂,ra,k₂⟩
    | false =>
      simp only [Bool.false_eq_true,if_false] at k₂ ⊢
      refine (hy fx F₁ σ₁ s₂ Q X E hsc hrm I₂ k₂ hE).imp fun v s₃ k₃ => ?_
      obtain ⟨F₂,σ₂,c,h12,I₃,rc,k₃⟩:=k₃
      exact ⟨F₂,σ₂,c,h01.trans h12,I₃,rc,k₃⟩
theorem se_and2 {x y:PySem.Expr} {tx ty:TE} (hx:SE W sc n x tx) (hy:SE W sc n y ty) :
    SE W sc n (.BoolOp .And [x,y] pos) (fun Q X σ => tx (fun v σ₁ => truthP v fun b => if b then ty Q X σ₁ else Q v σ₁) X σ) :=
  fun fx F σ s Q X E hsc hrm I k hE => by
    refine wp_And2 ((hx fx F σ s _ X E hsc hrm I k hE).imp fun v s₁ k₁ => ?_)
    obtain ⟨F₁,σ₁,a,h01,I₁,ra,k₁⟩:=k₁
    refine (truth_sound I₁ ra k₁).imp fun b s₂ k₂ => ?_
    obtain ⟨I₂,k₂⟩:=k₂
    cases b with
    | false => exact ⟨F₁,σ₁,a,h01,I₂,ra,k₂⟩
    | true =>
      simp only [if_true] at k₂ ⊢
      refine (hy fx F₁ σ₁ s₂ Q X E hsc hrm I₂ k₂ hE).imp fun v s₃ k₃ => ?_
      obtain ⟨F₂,σ₂,c,h12,I₃,rc,k₃⟩:=k₃
      exact ⟨F₂,σ₂,c,h01.trans h12,I₃,rc,k₃⟩
theorem se_if {c x y:PySem.Expr} {tc:TB} {tx ty:TE} (hc:ST W sc n c tc) (hx:SE W sc n x tx) (hy:SE W sc n y ty) :
    SE W sc n (.IfExp c x y pos) (fun Q X σ => tc (fun b σ₁ => if b then tx Q X σ₁ else ty Q X σ₁) X σ) :=
  fun fx F σ s Q X E hsc hrm I k hE => by
    refine wp_IfExp ((hc fx F σ s _ X E hsc hrm I k hE).imp fun b s₁ k₁ => ?_)
    obtain ⟨F₁,σ₁,h01,I₁,k₁⟩:=k₁
    cases b with
    | true =>
      simp only [if_true] at k₁ ⊢
      refine (hx fx F₁ σ₁ s₁ Q X E hsc hrm I₁ k₁ hE).imp fun v s₂ k₂ => ?_
      obtain ⟨F₂,σ₂,c,h12,I₂,rc,k₂⟩:=k₂
      exact ⟨F₂,σ₂,c,h01.trans h12,I₂,rc,k₂⟩
    | false =>
      simp only [Bool.false_eq_true,if_false] at k₁ ⊢
      refine (hy fx F₁ σ₁ s₁ Q X E hsc hrm I₁ k₁ hE).imp fun v s₂ k₂ => ?_
      obtain ⟨F₂,σ₂,c,h12,I₂,rc,k₂⟩:=k₂
      exact ⟨F₂,σ₂,c,h01.trans h12,I₂,rc,k₂⟩
end
end Mine
end
noncomputable section
open PySem PySem.W PyProof.Rows PySem.Spec PySem.Calls
set_option Elab.async false
set_option maxRecDepth 100000
namespace Mine
noncomputable def Fx.prot (fx:Fx) (a:Addr) (o:Obj):Fx:={ fx with B:=fx.B.add a o }
section
variable {W:Wd} {fx:Fx} {F G:Fz} {σ:Sto} {s s':Shared} {a:Addr} {o:Obj}
theorem Fz.add_ne {F:Fz} {a b:Addr} {o:Obj} (h:b ≠ a):F.add a o b = F b:=by simp [Fz.add,h]
structure CanProt (W:Wd) (fx:Fx) (F:Fz) (s:Shared) (a:Addr) (o:Obj):Prop where
  ho:s.heap.get? a = some o
  hP:a ≠ W.P
  hF:F a = none
  hB:fx.B a = none
  nd:∀ es n,o.data ≠ .dict es n
  nc:∀ v,o.data ≠ .cell v
theorem Inv.protect (I:Inv W fx F σ s) (C:CanProt W fx F s a o) (hown:∀ y l,get σ y = some (.own l) → ¬ Holds fx.env s.heap y (.ref a)):Inv W (fx.prot a o) F σ s:=by
  obtain ⟨ho,hP,hF,hB,nd,nc⟩:=C
  have haL:fx.env.locals ≠ a:=by
    rintro rfl
    obtain ⟨m,o',es,ep,h1,h2,_⟩:=I.ns
    rw [ho] at h1; cases h1
    exact nd _ _ h2
  refine { I with ok:={ I.ok with baseB:=?_,BP:=?_,BL:=?_,frs:=?_,cellE:=?_ },fnew:=?_,keep:=?_,vars:=?_ }
  · intro b ob e
    have:b ≠ a:=by rintro rfl; rw [I.ok.baseB _ _ e] at hB; cases hB
    show fx.B.add a o b = some ob
    rw [Fz.add_ne this]; exact I.ok.baseB b ob e
  · show fx.B.add a o W.P = none
    rw [Fz.add_ne (Ne.symm hP)]; exact I.ok.BP
  · intro hw
    show fx.B.add a o fx.env.locals = none
    rw [Fz.add_ne haL]; exact I.ok.BL hw
  · intro e he
    obtain ⟨hk,L,hf,hn,h⟩:=I.ok.frs e he
    refine ⟨hk,L,hf,hn,h.imp id ?_⟩
    rintro ⟨o',es,n,h1,h2⟩
    have:L ≠ a:=by
      rintro rfl
      rw [hB] at h1; cases h1
    exact ⟨o',es,n,(Fz.add_ne this).trans h1,h2⟩
  · intro hw x hx
    obtain ⟨c,hc,hcB⟩:=I.ok.cellE hw x hx
    have:c ≠ a:=by
      rintro rfl
      obtain ⟨v,o',h1,h2⟩:=I.cells x c hx hc
      rw [ho] at h1; cases h1
      exact nc _ h2
    exact ⟨c,hc,(Fz.add_ne this).trans hcB⟩
  · intro b ob e
    refine (I.fnew b ob e).imp id fun q => ?_
    have:b ≠ a:=by rintro rfl; rw [hF] at e; cases e
    exact (Fz.add_ne this).trans q
  · intro b ob e
    by_cases z:b = a
    · subst z
      have:ob = o:=by
        have e':fx.B.add b o b = some ob:=e
        rw [Fz.add_self] at e'
        exact (Option.some.inj e').symm
      subst this
      exact ⟨fun ℓ => ho,ob.slots,ho⟩
    · exact I.keep b ob ((Fz.add_ne z).symm.trans e)
  · intro x sl e
    obtain ⟨v,hv,hs⟩:=I.vars x sl e
    refine ⟨v,hv,?_⟩
    cases sl with
    | val u => exact hs
    | own l =>
      obtain ⟨b,rfl,⟨h1,h2,h3⟩⟩:=hs
      have:b ≠ a:=by rintro rfl; exact hown x l e hv
      exact ⟨b,rfl,h1,h2,(Fz.add_ne this).trans h3⟩
    | app y => exact hs
theorem Inv.unprot (I:Inv W (fx.prot a o) F σ s) (ok:FxOk W fx) (hB:fx.B a = none):Inv W fx F σ s:=by
  refine { I with ok:=ok,fnew:=?_,keep:=?_,vars:=?_ }
  · intro b ob e
    refine (I.fnew b ob e).imp id fun q => ?_
    by_cases z:b = a
    · subst z; exact hB
    · exact (Fz.add_ne z).symm.trans q
  · intro b ob e
    have z:b ≠ a:=by rintro rfl; rw [hB] at e; cases e
    exact I.keep b ob ((Fz.add_ne z).trans e)
  · intro x sl e
    obtain ⟨v,hv,hs⟩:=I.vars x sl e
    refine ⟨v,hv,?_⟩
    cases sl with
    | val u => exact hs
    | own l =>
      obtain ⟨b,rfl,⟨h1,h2,h3⟩⟩:=hs
      refine ⟨b,rfl,h1,h2,?_⟩
      by_cases z:b = a
      · subst z; exact hB
      · exact (Fz.add_ne z).symm.trans h3
    | app y => exact hs
theorem Inv.prot_get (I:Inv W (fx.prot a o) F σ s) (nd:∀ es n,o.data ≠ .dict es n):s.heap.get? a = some o:=by
  refine (I.keep a o Fz.add_self).1 fun hb => ?_
  obtain ⟨_,o',es,n,h1,h2⟩:=I.frs_dict hb
  obtain ⟨sl,e⟩:=(I.keep a o Fz.add_self).2
  rw [e] at h1; cases h1
  exact nd _ _ h2
theorem Inv.prot_F (I:Inv W (fx.prot a o) F σ s) (h0:fx.F₀ a = none):F a = none:=by
  cases q:F a with
  | none => rfl
  | some ob =>
    rcases I.fnew a ob q with e | e
    · rw [show (fx.prot a o).F₀ a = fx.F₀ a from rfl,h0] at e; cases e
    · rw [show (fx.prot a o).B a = some o from Fz.add_self] at e; cases e
theorem Inv.prot_own (I:Inv W (fx.prot a o) F σ s) {y:String} {l:List V} (h:get σ y = some (.own l)):¬ Holds fx.env s.heap y (.ref a):=fun hh => by
  obtain ⟨v,hv,b,rfl,hb⟩:=I.vars y _ h
  have:=holds_fun hv hh
  cases this
  have hn:=hb.nB
  rw [show (fx.prot a o).B a = some o from Fz.add_self] at hn
  cases hn
theorem Inv.f0_none (I:Inv W fx F σ s) (h:F a = none):fx.F₀ a = none:=by
  cases q:fx.F₀ a with
  | none => rfl
  | some ob => rw [I.f0 _ _ q] at h; cases h
theorem Inv.hide (I:Inv W fx F σ s) {x:String} {l:List V} (hx:get σ x = some (.own l)) (hh:Holds fx.env s.heap x (.ref a)) (ho:s.heap.get? a = some o) :
    Inv W (fx.prot a o) F (put σ x (.val (.ref a))) s ∧ CanProt W fx F s a o:=by
  obtain ⟨v,hv,b,e,⟨⟨o',xs,ep,h1,h2,h3,h4,h5⟩,hF,hB⟩⟩:=I.vars x _ hx
  have:=holds_fun hv hh
  subst this
  cases e
  rw [ho] at h1; cases h1
  have C:CanProt W fx F s a o:=⟨ho,I.P_ne_list ho h3,hF,hB,fun es n q => (by rw [h3] at q; cases q),fun v q => (by rw [h3] at q; cases q)⟩
  refine ⟨?_,C⟩
  have I':Inv W fx F (put σ x (.val (.ref a))) s:=by
    refine { I with vars:=?_,apart:=?_ }
    · intro y sl e
      rw [get_put] at e
      by_cases hxy:x = y
      · subst hxy
        simp only [if_true,Option.some.injEq] at e
        subst e
        exact ⟨_,hh,.ref a⟩
      · rw [if_neg hxy] at e
        obtain ⟨w,hw,hs⟩:=I.vars y sl e
        refine ⟨w,hw,?_⟩
        cases sl with
        | val u => exact hs
        | own k => exact hs
        | app z =>
          obtain ⟨b,a',e1,e2,e4⟩:=hs
          refine ⟨b,a',e1,e2,fun w' k hw' hy => ?_⟩
          rw [get_put] at hy
          by_cases hxz:x = z
          · subst hxz; simp at hy
          · rw [if_neg hxz] at hy; exact e4 w' k hw' hy
    · intro y z p q k k' hyz hy hz hp hq
      rw [get_put] at hy hz
      by_cases hxy:x = y
      · subst hxy; simp at hy
      · rw [if_neg hxy] at hy
        by_cases hxz:x = z
        · subst hxz; simp at hz
        · rw [if_neg hxz] at hz
          exact I.apart y z p q k k' hyz hy hz hp hq
  refine I'.protect C fun y k hy hyh => ?_
  rw [get_put] at hy
  by_cases hxy:x = y
  · subst hxy; simp at hy
  · rw [if_neg hxy] at hy
    exact I.apart x y a a l k hxy hx hy hh hyh rfl
theorem Inv.unhide (I:Inv W (fx.prot a o) G σ s) (ok:FxOk W fx) (hB:fx.B a = none) (h0:fx.F₀ a = none) {x:String} {l:List V} {xs:Array Value} {ep:Nat}
    (hx:get σ x = some (.val (.ref a))) (h2:o.cls = .type "list") (h3:o.data = .seq xs ep) (h4:Reps G xs.toList l) (h5:o.dict = none) (happ:∀ y,get σ y ≠ some (.app x)) :
    Inv W fx G (put σ x (.own l)) s ∧ Holds fx.env s.heap x (.ref a):=by
  have nd:∀ es n,o.data ≠ .dict es n:=fun es n q => by rw [h3] at q; cases q
  have ho:=I.prot_get nd
  have hG:=I.prot_F h0
  obtain ⟨v,hv,hs⟩:=I.vars x _ hx
  have hva:v = .ref a:=by cases hs; rfl
  subst hva
  have hno:∀ y l,get σ y = some (.own l) → ¬ Holds fx.env s.heap y (.ref a):=fun y l h => I.prot_own h
  have J:=I.unprot ok hB
  refine ⟨{ J with vars:=?_,apart:=?_ },hv⟩
  · intro y sl e
    rw [get_put] at e
    by_cases hxy:x = y
    · subst hxy
      simp only [if_true,Option.some.injEq] at e
      subst e
      exact ⟨_,hv,a,rfl,⟨o,xs,ep,ho,h2,h3,h4,h5⟩,hG,hB⟩
    · rw [if_neg hxy] at e
      obtain ⟨w,hw,hs'⟩:=J.vars y sl e
      refine ⟨w,hw,?_⟩
      cases sl with
      | val u => exact hs'
      | own k => exact hs'
      | app z =>
        obtain ⟨b,a',e1,e2,e4⟩:=hs'
        refine ⟨b,a',e1,e2,fun w' k hw' hy => ?_⟩
        rw [get_put] at hy
        by_cases hxz:x = z
        · subst hxz; exact absurd e (happ y)
        · rw [if_neg hxz] at hy; exact e4 w' k hw' hy
  · intro y z p q k k' hyz hy hz hp hq
    rw [get_put] at hy hz
    by_cases hxy:x = y
    · subst hxy
      rw [if_neg hyz] at hz
      have:=holds_fun hv hp
      cases this
      rintro rfl
      exact hno z _ hz hq
    · rw [if_neg hxy] at hy
      by_cases hxz:x = z
      · subst hxz
        have:=holds_fun hv hq
        cases this
        rintro rfl
        exact hno y _ hy hp
      · rw [if_neg hxz] at hz
        exact J.apart y z p q k k' hyz hy hz hp hq
theorem Inv.poke (I:Inv W fx F σ s) (hs:Heap.ExtBut a s.heap s'.heap) (hsame:s'.gens = s.gens ∧ s'.os = s.os) (C:CanProt W fx F s a o) (hown:∀ y l,get σ y = some (.own l) → ¬ Holds fx.env s.heap y (.ref a)):Inv W fx F σ s':=by
  obtain ⟨ho,hP,hF,hB,nd,nc⟩:=C
  have haL:fx.env.locals ≠ a:=by
    rintro rfl
    obtain ⟨m,o',es,ep,h1,h2,_⟩:=I.ns
    rw [ho] at h1; cases h1
    exact nd _ _ h2
  have haC:∀ c v,s.heap.IsCell c v → c ≠ a:=by
    rintro c v ⟨o',h1,h2⟩ rfl
    rw [ho] at h1; cases h1
    exact nc _ h2
  have hol:∀ y w,Holds fx.env s.heap y w → Holds fx.env s'.heap y w:=fun y w => by
    rintro (⟨ky,m,hm,e⟩ | ⟨ky,c,hc,hv⟩)
    · exact .inl ⟨ky,m,hm.extBut hs haL,e⟩
    · obtain ⟨o',h1,h2⟩:=hv
      exact .inr ⟨ky,c,hc,o',hs c o' (haC c _ ⟨o',h1,h2⟩) h1,h2⟩
  refine { I with win:=?_,tab:=?_,fin:=?_,keep:=?_,ns:=?_,cells:=?_,vars:=?_,apart:=?_ }
  · exact ⟨fun b o e => hs b o (fun q => by rw [q] at e; rw [I.ok.baseB _ _ e] at hB; cases hB) (I.win.stays b o e),hsame.1 ▸ I.win.gens,hsame.2.trans I.win.os⟩
  · exact I.tab.keeps (Fz.le.refl F) fun o e => hs _ o (Ne.symm hP) e
  · exact fun b o e => hs b o (fun q => by rw [q,hF] at e; cases e) (I.fin b o e)
  · intro b o e
    have hb:b ≠ a:=fun q => by rw [q,hB] at e; cases e
    refine ⟨fun hn => hs b o hb ((I.keep b o e).1 hn),?_⟩
    obtain ⟨sl,e'⟩:=(I.keep b o e).2
    exact ⟨sl,hs b _ hb e'⟩
  · exact let ⟨m,hm⟩:=I.ns; ⟨m,hm.extBut hs haL⟩
  · exact fun y c hy hc => let ⟨v,o',h1,h2⟩:=I.cells y c hy hc; ⟨v,o',hs c o' (haC c _ ⟨o',h1,h2⟩) h1,h2⟩
  · intro y sl e
    obtain ⟨w,hw,hsw⟩:=I.vars y sl e
    refine ⟨w,hol y w hw,?_⟩
    cases sl with
    | val u => exact hsw
    | own k' =>
      obtain ⟨b,rfl,⟨⟨o1,x1,n1,q1,q2,q3,q4,q5⟩,hb2,hb3⟩⟩:=hsw
      have:b ≠ a:=by rintro rfl; exact hown y k' e hw
      exact ⟨b,rfl,⟨⟨o1,x1,n1,hs b _ this q1,q2,q3,q4,q5⟩,hb2,hb3⟩⟩
    | app z =>
      obtain ⟨b,a',e1,e2,e4⟩:=hsw
      refine ⟨b,a',e1,e2,fun w' k' hw' hy => ?_⟩
      obtain ⟨w2,hw2,_⟩:=I.vars z _ hy
      have:=holds_fun hw' (hol z w2 hw2)
      subst this
      exact e4 w' k' hw2 hy
  · intro y z p q k1 k2 hyz hy hz hp hq
    obtain ⟨v1,hv1,_⟩:=I.vars y _ hy
    obtain ⟨v2,hv2,_⟩:=I.vars z _ hz
    have e1:=holds_fun hp (hol y _ hv1)
    have e2:=holds_fun hq (hol z _ hv2)
    subst e1; subst e2
    exact I.apart y z p q k1 k2 hyz hy hz hv1 hv2
end
end Mine
end
noncomputable section
open PySem PySem.W PyProof.Rows PySem.Spec PySem.Calls
set_option Elab.async false
set_option maxRecDepth 100000
namespace Mine
noncomputable def itemsOf:V → Option (List V)
  | .list l => some l
  | .tuple l => some l
  | .str x => some (x.map fun c => .str [c])
  | .bytes b => some (b.map fun c => .int c.toNat)
  | .range a c n => some ((List.range n).map fun (i:Nat) => .int (a + (i:Int) * c))
  | _ => none
structure Iter (W:Wd) (F:Fz) (I:Addr) (us:List V) (St:Nat → Heap → Prop):Prop where
  live:∀ i h,St i h → ∃ o vs,h.get? I = some o ∧ o.data = .fields vs
  frame:∀ i h h',St i h → (∀ a o,F a = some o → h.get? a = some o) → (∀ o,h.get? I = some o → h'.get? I = some o) → (∀ a o,F a = some o → h'.get? a = some o) → St i h'
  item:∀ (A:Around) i (s:Shared) (Q:Option Value → Shared → Prop) (E:Value → Shared → Prop) u,A.handled = none → us[i]? = some u → St i s.heap →
    (∀ v h' tk,Rep F v u → St (i + 1) h' → Heap.ExtBut I s.heap h' → Q (some v) { s with heap:=h',toks:=tk }) → Wp W A (pyNext (.ref I)) Q E s
  done:∀ (A:Around) (s:Shared) (Q:Option Value → Shared → Prop) (E:Value → Shared → Prop),A.handled = none → St us.length s.heap →
    (∀ h' tk,Heap.ExtBut I s.heap h' → Q none { s with heap:=h',toks:=tk }) → Wp W A (pyNext (.ref I)) Q E s
  self:∀ (A:Around) i (s:Shared) (Q:Value → Shared → Prop) (E:Value → Shared → Prop),A.handled = none → St i s.heap → Q (.ref I) s → Wp W A (pyIter (.ref I)) Q E s
theorem Iter.of {W:Wd} {F:Fz} {I:Addr} {us:List V} {St:Nat → Heap → Prop} {fp:List Addr} {P:Nat → Value → Prop} {n:Nat} (hn:n = us.length)
    (hw:∀ A:Around,A.handled = none → Walks W.prog W.w A I fp [I] n P St) (live:∀ i h,St i h → ∃ o vs,h.get? I = some o ∧ o.data = .fields vs)
    (hfp:∀ b ∈ fp,b = I ∨ ∃ o,F b = some o) (hP:∀ i v u,us[i]? = some u → P i v → Rep F v u):Iter W F I us St where
  live:=live
  frame:=fun i h h' st hF hI hF' => (hw {} rfl).frame i h h' st fun b hb o e => by
    rcases hfp b hb with rfl | ⟨ob,hob⟩
    · exact hI o e
    · have:=hF b ob hob
      rw [e] at this; cases this
      exact hF' b _ hob
  item:=fun A i s Q E u hh hu st hQ => ⟨(hw A hh).item i s Q E (by have:=(List.getElem?_eq_some_iff.mp hu).1; omega) st fun v h' tk hp st' k =>
    hQ v h' tk (hP i v u hu hp) st' fun b o hb e => k b o (by simpa using hb) e⟩
  done:=fun A s Q E hh st hQ => ⟨(hw A hh).done s Q E (hn ▸ st) fun h' tk k => hQ h' tk fun b o hb e => k b o (by simpa using hb) e⟩
  self:=fun A i s Q E hh st hQ => ⟨(hw A hh).self i s Q E st hQ⟩
theorem map_get {α β:Type} {l:List α} {f:α → β} {i:Nat} {u:β} (h:(l.map f)[i]? = some u):∃ a,l[i]? = some a ∧ f a = u:=by
  rw [List.getElem?_map] at h
  exact Option.map_eq_some_iff.mp h
theorem iter_sound {W:Wd} {A:Around} {fx:Fx} {F:Fz} {σ:Sto} {s:Shared} {vv:Value} {v:V} {us:List V} {E:Value → Shared → Prop} (I:Inv W fx F σ s) (r:Rep F vv v) (h:itemsOf v = some us) :
    Wp W A (pyIter vv) (fun it s' => ∃ a St,it = .ref a ∧ Ext s s' ∧ s.heap.get? a = none ∧ Iter W F a us St ∧ St 0 s'.heap) E s:=by
  have new:∀ a,a = s.heap.objs.size → s.heap.get? a = none:=fun a e => Heap.get?_none_of_le (Nat.le_of_eq e.symm)
  cases v with
  | list l =>
    obtain ⟨a,o,xs,ep,rfl,e,hc,hd,hr⟩:=r.inv
    cases h
    have hl:s.heap.IsList a xs:=⟨o,I.fin _ _ e,hc,ep,hd⟩
    constructor
    refine wpAny_pyIter_list hl ⟨_,fun i h => h.IsListIter s.heap.objs.size a i ∧ h.IsList a xs,rfl,⟨⟨_,_,rfl⟩,fun b ob e => Heap.get?_push_of_some _ e⟩,new _ rfl,?_,?_⟩
    · refine Iter.of (n:=xs.size) (by simpa using hr.length) (fun A hA => Walks.list hA _ a (Nat.ne_of_lt (Heap.lt_size (I.fin _ _ e))) xs) ?_ ?_ ?_
      · rintro i h ⟨⟨o,ho,_,hd⟩,_⟩; exact ⟨o,_,ho,hd⟩
      · intro b hb
        simp at hb
        rcases hb with rfl | rfl
        · exact .inl rfl
        · exact .inr ⟨_,e⟩
      · intro i w u hu hp
        obtain ⟨w',hw',hr'⟩:=hr.get i u hu
        rw [Array.getElem?_toList,hp] at hw'
        cases hw'; exact hr'
    · exact ⟨⟨_,Heap.get?_push_size _ rfl,rfl,rfl⟩,hl.push _⟩
  | tuple l =>
    obtain ⟨a,o,xs,ep,rfl,e,hc,hd,hr⟩:=r.inv
    cases h
    have hl:s.heap.IsTuple a xs:=⟨o,I.fin _ _ e,hc,ep,hd⟩
    constructor
    refine wpAny_pyIter_tuple hl ⟨_,fun i h => h.IsTupleIter s.heap.objs.size a i ∧ h.IsTuple a xs,rfl,⟨⟨_,_,rfl⟩,fun b ob e => Heap.get?_push_of_some _ e⟩,new _ rfl,?_,?_⟩
    · refine Iter.of (n:=xs.size) (by simpa using hr.length) (fun A hA => Walks.tuple hA _ a (Nat.ne_of_lt (Heap.lt_size (I.fin _ _ e))) xs) ?_ ?_ ?_
      · rintro i h ⟨⟨o,ho,_,hd⟩,_⟩; exact ⟨o,_,ho,hd⟩
      · intro b hb
        simp at hb
        rcases hb with rfl | rfl
        · exact .inl rfl
        · exact .inr ⟨_,e⟩
      · intro i w u hu hp
        obtain ⟨w',hw',hr'⟩:=hr.get i u hu
        rw [Array.getElem?_toList,hp] at hw'
        cases hw'; exact hr'
    · exact ⟨⟨_,Heap.get?_push_size _ rfl,rfl,rfl⟩,⟨o,Heap.get?_push_of_some _ (I.fin _ _ e),hc,ep,hd⟩⟩
  | str x =>
    obtain ⟨x,t,rfl,rfl⟩:=r.inv
    cases h
    constructor
    cases ha:x.cps.all (· < 128)
    · refine wpAny_pyIter_wide ha ⟨_,fun i h => h.IsStrIter s.heap.objs.size "str_iterator" x t i,rfl,⟨⟨_,_,rfl⟩,fun b ob e => Heap.get?_push_of_some _ e⟩,new _ rfl,?_,⟨_,Heap.get?_push_size _ rfl,rfl,rfl⟩⟩
      refine Iter.of (n:=x.cps.size) (by simp) (fun A hA => Walks.strWide hA _ x t) ?_ ?_ ?_
      · rintro i h ⟨o,ho,_,hd⟩; exact ⟨o,_,ho,hd⟩
      · intro b hb; exact .inl (by simpa using hb)
      · rintro i w u hu ⟨c,t',hc,rfl⟩
        obtain ⟨c',hc',rfl⟩:=map_get hu
        rw [Array.getElem?_toList,hc] at hc'; cases hc'
        exact .str ⟨#[c]⟩ t'
    · refine wpAny_pyIter_ascii ha ⟨_,fun i h => h.IsStrIter s.heap.objs.size "str_ascii_iterator" x t i,rfl,⟨⟨_,_,rfl⟩,fun b ob e => Heap.get?_push_of_some _ e⟩,new _ rfl,?_,⟨_,Heap.get?_push_size _ rfl,rfl,rfl⟩⟩
      refine Iter.of (n:=x.cps.size) (by simp) (fun A hA => Walks.strAscii hA _ x t) ?_ ?_ ?_
      · rintro i h ⟨o,ho,_,hd⟩; exact ⟨o,_,ho,hd⟩
      · intro b hb; exact .inl (by simpa using hb)
      · rintro i w u hu ⟨c,t',hc,rfl⟩
        obtain ⟨c',hc',rfl⟩:=map_get hu
        rw [Array.getElem?_toList,hc] at hc'; cases hc'
        exact .str ⟨#[c]⟩ t'
  | bytes x =>
    obtain ⟨x,t,rfl,rfl⟩:=r.inv
    cases h
    constructor
    refine KBw.pyIter_bytes ⟨_,fun i h => KBw.IsBytesIter h s.heap.objs.size x t i,rfl,⟨⟨_,_,rfl⟩,fun b ob e => Heap.get?_push_of_some _ e⟩,new _ rfl,?_,⟨_,Heap.get?_push_size _ rfl,rfl,rfl⟩⟩
    refine Iter.of (n:=x.size) (by simp) (fun A hA => KBw.walks hA _ x t) ?_ ?_ ?_
    · rintro i h ⟨o,ho,_,hd⟩; exact ⟨o,_,ho,hd⟩
    · intro b hb; exact .inl (by simpa using hb)
    · rintro i w u hu ⟨c,t',hc,rfl⟩
      obtain ⟨c',hc',rfl⟩:=map_get hu
      rw [Array.getElem?_toList,hc] at hc'; cases hc'
      exact .int _ t'
  | range a c m =>
    obtain ⟨r,b,t,u,w,rfl,e,h1,h2⟩:=r.inv
    cases h
    constructor
    refine wpAny_pyIter_range (I.fin _ _ e) h1 ⟨_,fun i h => IsRangeIter h s.heap.objs.size (a + (i:Nat) * c) ((m:Int) - (i:Nat)) c,rfl,⟨⟨_,_,rfl⟩,fun b ob e => Heap.get?_push_of_some _ e⟩,new _ rfl,?_,?_⟩
    · refine Iter.of (n:=m) (by simp) (fun A hA => Walks.range hA _ a c m) ?_ ?_ ?_
      · intro i h ho; exact ⟨_,_,ho,rfl⟩
      · intro b hb; exact .inl (by simpa using hb)
      · rintro i w u hu ⟨t',rfl⟩
        obtain ⟨c',hc',rfl⟩:=map_get hu
        have:i = c':=by
          have:=List.getElem?_range (n:=m) (i:=i) (by have:=(List.getElem?_eq_some_iff.mp hc').1; simpa using this)
          rw [this] at hc'; exact Option.some.inj hc'
        subst this
        exact .int _ t'
    · have:=Heap.get?_push_size s.heap (o:={ cls:=.type "range_iterator",data:=.fields #[rawInt a,rawInt (Builtin.Range.rangeSize a b c),rawInt c] }) rfl
      have e1:a + ((0:Nat):Int) * c = a:=by simp
      have e2:(m:Int) - ((0:Nat):Int) = Builtin.Range.rangeSize a b c:=by rw [h2]; simp
      show IsRangeIter _ _ (a + ((0:Nat):Int) * c) ((m:Int) - ((0:Nat):Int)) c
      rw [e1,e2]
      exact this
  | _ => cases h
end Mine
end
noncomputable section
open PySem PySem.W PyProof.Rows PySem.Spec PySem.Calls
set_option Elab.async false
set_option maxRecDepth 100000
namespace Mine
section
variable {W:Wd} {sc:Scope} {n:Nat} {pos pos':Pos} {k:Nat}
theorem sl_nil:SL W sc n [] (fun P σ => P.next σ):=fun ℓ F σ ℓ ℓ ℓ ℓ ℓ ℓ I h ℓ => wp_execs_nil ⟨F,σ,.refl F,I,h⟩
theorem sl_cons {st:Stmt} {r:List Stmt} {t tr:TS} (h:SS W sc n st t) (hr:SL W sc n r tr):SL W sc n (st :: r) (fun P => t { P with next:=tr P }) :=
  fun fx F σ s P E hsc hw hrm I k hE => by
    refine wp_execs_cons ((h fx F σ s _ E hsc hw hrm I k hE).imp fun f s₁ k₁ => ?_)
    obtain ⟨F₁,σ₁,h01,I₁,k₁⟩:=k₁
    cases f with
    | next =>
      refine (hr fx F₁ σ₁ s₁ P E hsc hw hrm I₁ k₁ hE).imp fun f s₂ k₂ => ?_
      obtain ⟨F₂,σ₂,h12,I₂,k₂⟩:=k₂
      exact ⟨F₂,σ₂,h01.trans h12,I₂,k₂⟩
    | _ => exact ⟨F₁,σ₁,h01,I₁,k₁⟩
theorem ss_break:SS W sc n (.Break pos) (fun P σ => P.brk σ):=fun ℓ F σ ℓ ℓ ℓ ℓ ℓ ℓ I h ℓ => ⟨wpAny_Break ⟨F,σ,.refl F,I,h⟩⟩
theorem ss_continue:SS W sc n (.Continue pos) (fun P σ => P.cont σ):=fun ℓ F σ ℓ ℓ ℓ ℓ ℓ ℓ I h ℓ => ⟨wpAny_Continue ⟨F,σ,.refl F,I,h⟩⟩
theorem ss_return {e:PySem.Expr} {t:TE} (h:SE W sc n e t):SS W sc n (.Return (some e) pos) (fun P => t (fun u ℓ => P.ret u) P.exc) :=
  fun fx F σ s P E hsc hw hrm I k hE => wp_Return ((h fx F σ s _ _ E hsc hrm I k hE).imp fun v s₁ k₁ =>
    let ⟨F₁,σ₁,u,h01,I₁,r,k₁⟩:=k₁; ⟨F₁,σ₁,h01,I₁,u,r,k₁⟩)
theorem ss_if {c:PySem.Expr} {x y:List Stmt} {tc:TB} {tx ty:TS} (hc:ST W sc n c tc) (hx:SL W sc n x tx) (hy:SL W sc n y ty) :
    SS W sc n (.If c x y pos) (fun P => tc (fun b σ₁ => if b then tx P σ₁ else ty P σ₁) P.exc) :=
  fun fx F σ s P E hsc hw hrm I k hE => by
    refine wp_If ((hc fx F σ s _ _ E hsc hrm I k hE).imp fun b s₁ k₁ => ?_)
    obtain ⟨F₁,σ₁,h01,I₁,k₁⟩:=k₁
    cases b with
    | true =>
      simp only [if_true] at k₁ ⊢
      refine (hx fx F₁ σ₁ s₁ P E hsc hw hrm I₁ k₁ hE).imp fun f s₂ k₂ => ?_
      obtain ⟨F₂,σ₂,h12,I₂,k₂⟩:=k₂
      exact ⟨F₂,σ₂,h01.trans h12,I₂,k₂⟩
    | false =>
      simp only [Bool.false_eq_true,if_false] at k₁ ⊢
      refine (hy fx F₁ σ₁ s₁ P E hsc hw hrm I₁ k₁ hE).imp fun f s₂ k₂ => ?_
      obtain ⟨F₂,σ₂,h12,I₂,k₂⟩:=k₂
      exact ⟨F₂,σ₂,h01.trans h12,I₂,k₂⟩
theorem ss_assert {c:PySem.Expr} {m:Option PySem.Expr} {tc:TB} (hc:ST W sc n c tc):SS W sc n (.Assert c m pos) (fun P => tc (fun b σ₁ => b = true ∧ P.next σ₁) P.exc) :=
  fun fx F σ s P E hsc hw hrm I k hE => ⟨wpAny_Assert_holds (wpAny_mono (hc fx F σ s _ _ E hsc hrm I k hE).out (fun b s₁ k₁ => by
    obtain ⟨F₁,σ₁,h01,I₁,hb,k₁⟩:=k₁
    exact ⟨hb,F₁,σ₁,h01,I₁,k₁⟩) fun ℓ ℓ x => x)⟩
theorem ss_assign {x:String} {e:PySem.Expr} {t:TE} (h:SE W sc n e t) (hk:storable sc x = true:=by decide +kernel)
    (hs:∀ env l,swapsWith e (some (.Name (nm x) pos')) l env = pure false:=by intro _ _; rfl):SS W sc n (.Assign [.Name (Str.ofString x) pos'] e pos) (fun P => t (fun u σ₁ => P.next (put σ₁ x (.val u))) P.exc) :=
  fun fx F σ s P E hsc hw hrm I k hE => by
    refine wp_Assign_Name ((h fx F σ s _ _ E hsc hrm I k hE).imp fun v s₁ k₁ => ?_) (hs _ _)
    obtain ⟨F₁,σ₁,u,h01,I₁,r,k₁⟩:=k₁
    exact ⟨I₁.store (sl:=.val u) hw (by rw [hsc]; exact hk) r fresh_val (by intro q; cases q) fun s' I' => ⟨F₁,_,h01,I',k₁⟩⟩
noncomputable def hasApp:Sto → String → Bool
  | [],_ => false
  | (_,.app y) :: r,x => y == x || hasApp r x
  | _ :: r,x => hasApp r x
theorem no_app:∀ {σ:Sto} {x:String},hasApp σ x = false → ∀ y,get σ y ≠ some (.app x)
  | [],_,_,_ => by simp [get]
  | (z,sl) :: r,x,h,y => by
    unfold get
    by_cases q:z = y
    · simp only [q,if_true]
      intro e
      cases e
      simp [hasApp] at h
    · simp only [q,if_false]
      refine no_app (x:=x) ?_ y
      cases sl <;> simp [hasApp] at h ⊢ <;> first | exact h | exact h.2
theorem ss_assign_own {x:String} {e:PySem.Expr} {t:TO} (h:SO W sc n e t) (hk:storable sc x = true:=by decide +kernel)
    (hs:∀ env l,swapsWith e (some (.Name (nm x) pos')) l env = pure false:=by intro _ _; rfl) :
    SS W sc n (.Assign [.Name (Str.ofString x) pos'] e pos) (fun P => t (fun l σ₁ => hasApp σ₁ x = false ∧ P.next (put σ₁ x (.own l))) P.exc) :=
  fun fx F σ s P E hsc hw hrm I k hE => by
    refine wp_Assign_Name ((h fx F σ s _ _ E hsc hrm I k hE).imp fun v s₁ k₁ => ?_) (hs _ _)
    obtain ⟨F₁,σ₁,l,a,h01,I₁,rfl,ho,hap,ha,k₁⟩:=k₁
    exact ⟨I₁.store (sl:=.own l) hw (by rw [hsc]; exact hk) ⟨a,rfl,ho⟩ ⟨fun l' e y k b hy hg hh q => by cases q; exact hap y k _ hg hh rfl,fun ℓ y => no_app ha y⟩ (by intro q; cases q)
      fun s' I' => ⟨F₁,_,h01,I',k₁⟩⟩
noncomputable def iopP (op:Operator) (a b:V) (K:V → Prop):Prop:=match a with
  | .int a => (match b with
    | .int b => (match op with
      | .Add => K (.int (a + b))
      | .Mult => small a ∧ K (.int (a * b))
      | .FloorDiv => (b ≠ 0 ∧ small b) ∧ K (.int (a.fdiv b))
      | _ => False)
    | _ => False)
  | .str a => (match b with
    | .str b => (op = .Add ∧ fits (a.length + b.length)) ∧ K (.str (a ++ b))
    | _ => False)
  | _ => False
theorem iop_sound {A:Around} {fx:Fx} {F:Fz} {σ:Sto} {s:Shared} {op:Operator} {va vb:Value} {a b:V} {K:V → Prop} {E:Value → Shared → Prop} (I:Inv W fx F σ s) (ra:Rep F va a) (rb:Rep F vb b)
    (h:iopP op a b K):Wp W A (inplaceOp op va vb) (PV W fx F σ K) E s:=by
  have fin:∀ (r:Int) (tk t:Nat),K (.int r) → PV W fx F σ K (.int r t) { s with toks:=tk }:=fun r tk t hk => ⟨F,.int r,.refl F,I.ext (.tok s _),.int _ _,hk⟩
  cases a with
  | int a =>
    cases b with
    | int b =>
      obtain ⟨_,rfl⟩:=ra.inv; obtain ⟨_,rfl⟩:=rb.inv
      constructor
      cases op with
      | Add => have h:K (.int (a + b)):=h; with_reducible exact P.iadd_int (fin _ _ _ h)
      | Mult => have h:small a ∧ K (.int (a * b)):=h; with_reducible exact imul_int (fin _ _ _ h.2) (.of_left (bits_small h.1))
      | FloorDiv => have h:(b ≠ 0 ∧ small b) ∧ K (.int (a.fdiv b)):=h; with_reducible exact ifloordiv_int h.1.1 (fin _ _ _ h.2) (.inl (PyProof.noPylong_of_log2 (pylong_small h.1.2)))
      | _ => exact False.elim h
    | _ => exact False.elim h
  | str x =>
    cases b with
    | str y =>
      obtain ⟨x,t,rfl,rfl⟩:=ra.inv
      obtain ⟨y,u,rfl,rfl⟩:=rb.inv
      have h:(op = .Add ∧ fits (x.cps.toList.length + y.cps.toList.length)) ∧ K (.str (x.cps.toList ++ y.cps.toList)):=h
      have h1:=h.1.2
      rw [h.1.1]
      constructor
      have hq:∀ t' tk,PV W fx F σ K (.str (x ++ y) t') { s with toks:=tk }:=fun t' tk => ⟨F,_,.refl F,I.ext (.tok s _),(by
        have:=Rep.str (F:=F) (x ++ y) t'
        rw [Str.cps_append,Array.toList_append] at this
        exact this),h.2⟩
      have hz:x.length + y.length ≤ sizeLine:=by
        simp only [Array.length_toList] at h1
        exact fits_size h1
      with_reducible exact iadd_str hq hz
    | _ => exact False.elim h
  | _ => exact False.elim h
theorem ss_aug {x:String} {op:Operator} {e:PySem.Expr} {t:TE} (h:SE W sc n e t) (hk:storable sc x = true:=by decide +kernel) (hn:(nm x == ("__classdict__":Str)) = false:=by decide) :
    SS W sc n (.AugAssign (.Name (Str.ofString x) pos') op e pos) (fun P => tName x (fun a => t (fun b σ₂ => iopP op a b fun u => P.next (put σ₂ x (.val u))) P.exc) P.exc) :=
  fun fx F σ s P E hsc hw hrm I k hE => by
    refine wp_AugName ((name_sound I hn k).imp fun va s₁ k₁ => ?_)
    obtain ⟨F₁,σ₁,a,h01,I₁,ra,k₁⟩:=k₁
    refine (h fx F₁ σ₁ s₁ _ _ E hsc hrm I₁ k₁ hE).imp fun vb s₂ k₂ => ?_
    obtain ⟨F₂,σ₂,b,h12,I₂,rb,k₂⟩:=k₂
    refine (iop_sound I₂ (ra.mono h12) rb k₂).imp fun v s₃ k₃ => ?_
    obtain ⟨F₃,u,h23,I₃,ru,k₃⟩:=k₃
    exact ⟨I₃.store (sl:=.val u) hw (by rw [hsc]; exact hk) ru fresh_val (by intro q; cases q) fun s' I' => ⟨F₃,_,(h01.trans h12).trans h23,I',k₃⟩⟩
noncomputable def whileN (tc:TB) (tb:TS) (P:Post):Nat → Sto → Prop
  | 0,_ => False
  | m + 1,σ => tc (fun b σ₁ => if b then tb { next:=whileN tc tb P m,cont:=whileN tc tb P m,brk:=P.next,ret:=P.ret,exc:=fun ℓ => False } σ₁ else P.next σ₁) (fun ℓ => False) σ
noncomputable def tWhile (tc:TB) (tb:TS):TS:=fun P σ => ∃ m,whileN tc tb P m σ
theorem ss_while {c:PySem.Expr} {b:List Stmt} {tc:TB} {tb:TS} (hc:ST W sc n c tc) (hb:SL W sc n b tb):SS W sc n (.While c b [] pos) (tWhile tc tb) :=
  fun fx F σ s P E hsc hw hrm I k hE => by
    obtain ⟨m,k⟩:=k
    refine ⟨wpAny_While ?_⟩
    refine codeAny_whileLoop (fun m s' => ∃ G σ',F.le G ∧ Inv W fx G σ' s' ∧ whileN tc tb P m σ') ?_ m ⟨F,σ,.refl F,I,k⟩
    rintro m s₁ ⟨F₁,σ₁,h01,I₁,k₁⟩
    cases m with
    | zero => exact k₁.elim
    | succ m =>
      refine wpAny_mono (hc fx F₁ σ₁ s₁ _ _ _ hsc hrm I₁ k₁ (fun c e s' x ℓ => x.elim)).out (fun b s₂ k₂ => ?_) fun ℓ ℓ x => x
      obtain ⟨F₂,σ₂,h12,I₂,k₂⟩:=k₂
      cases b with
      | false => exact wpAny_execs_nil ⟨F₂,σ₂,h01.trans h12,I₂,k₂⟩
      | true =>
        simp only [if_true] at k₂ ⊢
        refine wpAny_mono (hb fx F₂ σ₂ s₂ _ _ hsc hw hrm I₂ k₂ (fun c e s' x ℓ => x.elim)).out (fun f s₃ k₃ => ?_) fun ℓ ℓ x => x
        obtain ⟨F₃,σ₃,h23,I₃,k₃⟩:=k₃
        cases f with
        | next => exact ⟨m,Nat.lt_succ_self m,F₃,σ₃,(h01.trans h12).trans h23,I₃,k₃⟩
        | cont => exact ⟨m,Nat.lt_succ_self m,F₃,σ₃,(h01.trans h12).trans h23,I₃,k₃⟩
        | brk => exact ⟨F₃,σ₃,(h01.trans h12).trans h23,I₃,k₃⟩
        | ret v => exact ⟨F₃,σ₃,(h01.trans h12).trans h23,I₃,k₃⟩
noncomputable def forI (x:String) (tb:TS) (P:Post):List V → Sto → Prop
  | [],σ => P.next σ
  | u :: r,σ => tb { next:=forI x tb P r,cont:=forI x tb P r,brk:=P.next,ret:=P.ret,exc:=fun ℓ => False } (put σ x (.val u))
noncomputable def tFor (x:String) (ti:TE) (tb:TS):TS:=fun P => ti (fun v σ₁ => ∃ us,itemsOf v = some us ∧ forI x tb P us σ₁) P.exc
theorem ss_for {x:String} {i:PySem.Expr} {b:List Stmt} {ti:TE} {tb:TS} (hi:SE W sc n i ti) (hb:SL W sc n b tb) (hk:storable sc x = true:=by decide +kernel)
    (hs:∀ env x,foldedSetIterable i env x = pure x:=by intro _ _; rfl):SS W sc n (.For (.Name (Str.ofString x) pos') i b [] pos) (tFor x ti tb) :=
  fun fx F σ s P E hsc hw hrm I k hE => by
    refine ⟨wpAny_For (wpAny_mono (hi fx F σ s _ _ E hsc hrm I k hE).out (fun v s₁ k₁ => ?_) fun ℓ ℓ x => x) (hs _)⟩
    obtain ⟨F₁,σ₁,u,h01,I₁,ru,us,hus,k₁⟩:=k₁
    refine wpAny_mono (iter_sound I₁ ru hus).out (fun it s₂ k₂ => ?_) fun ℓ ℓ x => x
    obtain ⟨a,St,rfl,hext,hnew,hit,hst⟩:=k₂
    have I₂:=I₁.ext hext
    have hB:=I₁.fresh_B hnew
    have h0F:=I₁.f0_none (I₁.fresh_F hnew)
    have can:∀ {G:Fz} {τ:Sto} {s':Shared} {i:Nat},Inv W fx G τ s' → F₁.le G → G a = none → St i s'.heap → ∃ o,CanProt W fx G s' a o:=fun J hG hGa st => by
      obtain ⟨o,vs,ho,hd⟩:=hit.live _ _ st
      refine ⟨o,ho,?_,hGa,hB,fun es n q => (by rw [hd] at q; cases q),fun v q => (by rw [hd] at q; cases q)⟩
      intro e
      rcases hb':fx.B a with _ | _
      ·
        have:=hnew
        obtain ⟨ps,hP,_⟩:=I₁.tab
        rw [← e] at hP; rw [hP] at this; cases this
      · rw [hB] at hb'; cases hb'
    have nown:∀ {G:Fz} {τ:Sto} {s':Shared} {i:Nat},Inv W fx G τ s' → St i s'.heap → ∀ y l,get τ y = some (.own l) → ¬ Holds fx.env s'.heap y (.ref a):=fun J st y l hy hh => by
      obtain ⟨o,vs,ho,hd⟩:=hit.live _ _ st
      obtain ⟨v,hv,b,rfl,hb⟩:=J.vars y _ hy
      have:=holds_fun hv hh
      cases this
      obtain ⟨⟨o',xs,ep,h1,_,h3,_⟩,_,_⟩:=hb
      rw [ho] at h1; cases h1
      rw [hd] at h3; cases h3
    refine codeAny_forLoop (fun m s' => ∃ G τ i,F₁.le G ∧ G a = none ∧ Inv W fx G τ s' ∧ St i s'.heap ∧ i ≤ us.length ∧ m = us.length - i ∧ forI x tb P (us.drop i) τ) ?_ us.length
      ⟨F₁,σ₁,0,.refl F₁,I₁.fresh_F hnew,I₂,hst,Nat.zero_le _,rfl,by simpa using k₁⟩
    rintro m s₃ ⟨F₃,σ₃,i,h13,hFa,I₃,hst₃,hile,rfl,k₃⟩
    obtain ⟨o,C⟩:=can I₃ h13 hFa hst₃
    have hno:=nown I₃ hst₃
    cases hu:us[i]? with
    | none =>
      have hil:i = us.length:=Nat.le_antisymm hile (by simpa using hu)
      refine (hit.done fx.A s₃ _ _ I.ok.handled (hil ▸ hst₃) fun h' tk hx => ?_).out
      have I₄:Inv W fx F₃ σ₃ { s₃ with heap:=h',toks:=tk }:=I₃.poke hx ⟨rfl,rfl⟩ C hno
      rw [hil,List.drop_length] at k₃
      exact wpAny_execs_nil ⟨F₃,σ₃,h01.trans h13,I₄,k₃⟩
    | some u =>
      have hil:i < us.length:=(List.getElem?_eq_some_iff.mp hu).1
      refine (hit.item fx.A i s₃ _ _ u I.ok.handled hu hst₃ fun v h' tk hr hst' hx => ?_).out
      have I₄:Inv W fx F₃ σ₃ { s₃ with heap:=h',toks:=tk }:=I₃.poke hx ⟨rfl,rfl⟩ C hno
      obtain ⟨o',C'⟩:=can I₄ h13 hFa hst'
      have I₅:=I₄.protect C' (nown I₄ hst')
      have hdr:us.drop i = u :: us.drop (i + 1):=by
        rw [List.drop_eq_getElem_cons hil]
        have:=(List.getElem?_eq_some_iff.mp hu).2
        rw [this]
      rw [hdr] at k₃
      refine wpAny_assign_Name (I₅.store (sl:=.val u) (Q:=fun ℓ s' => wpAny W.M fx.A _ _ _ s') hw (by rw [show (fx.prot a o').env.scope = sc from hsc]; exact hk) (hr.mono h13:SlotAt _ _ _ _ _ (.val u)) fresh_val (by intro q; cases q) fun s₆ I₆ => ?_)
      refine wpAny_mono (hb (fx.prot a o') F₃ _ s₆ _ _ hsc hw hrm I₆ k₃ (fun c e s' x ℓ => x.elim)).out (fun f s₇ k₇ => ?_) fun ℓ ℓ x => x
      obtain ⟨F₇,σ₇,h37,I₇,k₇⟩:=k₇
      have J:=I₇.unprot I.ok hB
      have hget:=I₇.prot_get C'.nd
      have hst₇:St (i + 1) s₇.heap:=hit.frame (i + 1) _ _ hst' (fun b ob e => I₄.fin _ _ (h13 _ _ e)) (fun ob e => by
        have e':=C'.ho
        rw [show ({ s₃ with heap:=h',toks:=tk }:Shared).heap.get? a = h'.get? a from rfl,e] at e'
        cases e'
        exact hget)
        (fun b ob e => J.fin _ _ ((h13.trans h37) _ _ e))
      have hFa₇:=I₇.prot_F h0F
      cases f with
      | next => exact ⟨us.length - (i + 1),Nat.sub_lt_sub_left hil (Nat.lt_succ_self i),F₇,σ₇,i + 1,h13.trans h37,hFa₇,J,hst₇,hil,rfl,k₇⟩
      | cont => exact ⟨us.length - (i + 1),Nat.sub_lt_sub_left hil (Nat.lt_succ_self i),F₇,σ₇,i + 1,h13.trans h37,hFa₇,J,hst₇,hil,rfl,k₇⟩
      | brk => exact ⟨F₇,σ₇,(h01.trans h13).trans h37,J,k₇⟩
      | ret v => exact ⟨F₇,σ₇,(h01.trans h13).trans h37,J,k₇⟩
end
end Mine
end
noncomputable section
open PySem PySem.W PyProof.Rows PySem.Spec PySem.Calls
set_option Elab.async false
set_option maxRecDepth 100000
set_option linter.unusedVariables false
namespace Mine
noncomputable def at? {α:Type} (l:List α) (i:Int):Option α:=if 0 ≤ i then l[i.toNat]? else if -(l.length:Int) ≤ i then l[(i + l.length).toNat]? else none
theorem at?_lt {α:Type} {l:List α} {i:Int} {u:α} (h:at? l i = some u):-(l.length:Int) ≤ i ∧ i < l.length ∧ seqIndex? i l.length = some ((if i < 0 then i + l.length else i).toNat) ∧ l[(if i < 0 then i + l.length else i).toNat]? = some u:=by
  unfold at? at h
  by_cases h0:0 ≤ i
  · rw [if_pos h0] at h
    have h1:=(List.getElem?_eq_some_iff.mp h).1
    have hi:i < l.length:=(Int.toNat_lt h0).mp h1
    rw [if_neg (Int.not_lt.mpr h0)]
    exact ⟨Int.le_trans (Int.neg_nonpos_of_nonneg (Int.natCast_nonneg _)) h0,hi,seqIndex_of h0 hi,h⟩
  · rw [if_neg h0] at h
    have h0:=Int.not_le.mp h0
    by_cases h1:-(l.length:Int) ≤ i
    · rw [if_pos h1] at h
      rw [if_pos h0]
      exact ⟨h1,Int.lt_of_lt_of_le h0 (Int.natCast_nonneg _),seqIndex_neg h0 h1,h⟩
    · rw [if_neg h1] at h; cases h
noncomputable def idxP (o i:V) (K:V → Prop):Prop:=match i with
  | .int i => (match o with
    | .str x => fits x.length ∧ ∃ c,at? x i = some c ∧ K (.str [c])
    | .list l => fits l.length ∧ ∃ u,at? l i = some u ∧ K u
    | .tuple l => fits l.length ∧ ∃ u,at? l i = some u ∧ K u
    | .bytes b => fits b.length ∧ 0 ≤ i ∧ ∃ c,b[i.toNat]? = some c ∧ K (.int c.toNat)
    | _ => False)
  | _ => False
structure ItemAt (W:Wd) (A:Around) (o i:Value) (Q:Value → Shared → Prop) (E:Value → Shared → Prop) (s:Shared):Prop where
  on:∃ T id,typeLookup (.type T) "__getitem__" = pure (some (.builtin id)) ∧ s.TypeIs o T ∧ wpAny W.M A (getItem o i) Q E s
theorem item_list {W:Wd} {A:Around} {s:Shared} {a:Addr} {o:Obj} {xs:Array Value} {ep:Nat} {i:Int} {t:Tok} {v:Value} {Q:Value → Shared → Prop} {E:Value → Shared → Prop} (ho:s.heap.get? a = some o) (hc:o.cls = .type "list") (hd:o.data = .seq xs ep)
    (hf:fits xs.size) (h:at? xs.toList i = some v) (hQ:Q v s):ItemAt W A (.ref a) (.int i t) Q E s:=by
  have hl:s.heap.IsList a xs:=⟨o,ho,hc,ep,hd⟩
  obtain ⟨h1,h2,h3,h4⟩:=at?_lt h
  unfold fits at hf
  refine ⟨"list",_,list_getitem_lookup,hl.typeIs,?_⟩
  by_cases h0:0 ≤ i
  · rw [if_neg (Int.not_lt.mpr h0)] at h4
    refine wpAny_getItem_list hl h0 (by simp at h2; omega) (by simpa using h4) hQ
  · rw [if_pos (Int.not_le.mp h0)] at h4
    refine wpAny_getItem_list_neg hl (Int.not_le.mp h0) (by simpa using h1) (by simp at h1; omega) (by simpa using h4) hQ
theorem idx_sound {W:Wd} {A:Around} {fx:Fx} {F:Fz} {σ:Sto} {s:Shared} {vo vi:Value} {o i:V} {K:V → Prop} {E:Value → Shared → Prop} (I:Inv W fx F σ s) (ro:Rep F vo o) (ri:Rep F vi i)
    (h:idxP o i K):ItemAt W A vo vi (PV W fx F σ K) E s:=by
  cases i with
  | int i =>
    obtain ⟨ti,rfl⟩:=ri.inv
    cases o with
    | str x =>
      obtain ⟨x,t,rfl,rfl⟩:=ro.inv
      have h:fits x.cps.toList.length ∧ ∃ c,at? x.cps.toList i = some c ∧ K (.str [c]):=h
      obtain ⟨hf,c,hc,hK⟩:=h
      obtain ⟨h1,h2,h3,h4⟩:=at?_lt hc
      have hl:x.length = x.cps.toList.length:=by simp [Str.length]
      unfold fits at hf
      refine ⟨"str",_,PySem.F.slot_str_getitem.lookup,typeIs_str _ _ _,?_⟩
      refine PyProof.Rows.getItem_str (c:=c) ?_ ?_ ?_
      · simp only [Bool.or_eq_false_iff,decide_eq_false_iff_not]; omega
      · rw [hl,h3]
        simpa using h4
      · exact ⟨F,.str [c],.refl F,I.ext (.tok s _),Rep.str (F:=F) ⟨#[c]⟩ _,hK⟩
    | list l =>
      obtain ⟨_,_,_,_,rfl,e,hc,hd,hr⟩:=ro.inv
      have h:fits l.length ∧ ∃ u,at? l i = some u ∧ K u:=h
      obtain ⟨hf,u,hu,hK⟩:=h
      have hlen:=hr.length
      obtain ⟨h1,h2,h3,h4⟩:=at?_lt hu
      obtain ⟨v,hv,hrv⟩:=hr.get _ u h4
      refine item_list (I.fin _ _ e) hc hd (by unfold fits at hf ⊢; simp at hlen; omega) (v:=v) ?_ ⟨F,u,.refl F,I,hrv,hK⟩
      unfold at?
      rw [hlen]
      by_cases h0:0 ≤ i
      · rw [if_pos h0]; rw [if_neg (by omega)] at hv; exact hv
      · rw [if_neg h0,if_pos h1]; rw [if_pos (by omega)] at hv; exact hv
    | tuple l =>
      obtain ⟨a,o,xs,ep,rfl,e,hc,hd,hr⟩:=ro.inv
      have h:fits l.length ∧ ∃ u,at? l i = some u ∧ K u:=h
      obtain ⟨hf,u,hu,hK⟩:=h
      have hlen:=hr.length
      obtain ⟨h1,h2,h3,h4⟩:=at?_lt hu
      obtain ⟨v,hv,hrv⟩:=hr.get _ u h4
      have ht:IsTup s.heap a xs:=⟨o,I.fin _ _ e,hc,ep,hd⟩
      have hsz:xs.size = l.length:=by simpa using hlen
      unfold fits at hf
      refine ⟨"tuple",_,PyProof.Rows.slot_tuple_getitem.lookup,ht.typeIs,?_⟩
      refine PyProof.Rows.getItem_tuple ht (j:=(if i < 0 then i + l.length else i).toNat) (x:=v) (by omega) (by omega) (by rw [hsz]; exact h3) (by simpa using hv) ⟨F,u,.refl F,I,hrv,hK⟩
    | bytes b =>
      obtain ⟨b,t,rfl,rfl⟩:=ro.inv
      have h:fits b.toList.length ∧ 0 ≤ i ∧ ∃ c,b.toList[i.toNat]? = some c ∧ K (.int c.toNat):=h
      obtain ⟨hf,h0,c,hc,hK⟩:=h
      have h1:=(List.getElem?_eq_some_iff.mp hc).1
      unfold fits at hf
      refine ⟨"bytes",_,FB.slot_bytes_getitem.lookup,typeIs_bytes _ _ _,?_⟩
      have e:(b.toList.getD i.toNat 0) = c:=by rw [List.getD_eq_getElem?_getD,hc]; rfl
      refine Eq.mp (by rw [Array.toArray_toList]) (getItem_bytes (l:=b.toList) (t:=t) (u:=ti) (w:=W.w) (prog:=W.prog) (A:=A) (E:=E) (s:=s) (Q:=PV W fx F σ K) (by omega) h0 (by omega) ?_)
      rw [e]
      exact ⟨F,.int c.toNat,.refl F,I.ext (.tok s _),.int _ _,hK⟩
    | _ => exact False.elim h
  | _ => exact False.elim h
section
variable {W:Wd} {sc:Scope} {n:Nat} {pos pos':Pos} {k:Nat}
theorem wp_Subscript {A:Around} {env:Env} {s:Shared} {E:Value → Shared → Prop} {value sl:PySem.Expr} {Q:Value → Shared → Prop}
    (hs:∀ o i,subscripted sl false o i = operate [o,i] (getItem o i) ∨ subscripted sl false o i = operate [i,o] (getItem o i))
    (h:Wp W A (eval value env) (fun o s₁ => Wp W A (eval sl env) (fun i s₂ => ItemAt W A o i Q E s₂) E s₁) E s) :
    Wp W A (eval (.Subscript value sl pos) env) Q E s:=by
  constructor
  rw [eval_Subscript]
  refine wpAny_bind (wpAny_mono h.out (fun o s₁ h₁ => wpAny_bind (wpAny_holding (wpAny_mono h₁.out (fun i s₂ h₂ => wpAny_bind (wpAny_standAt ?_)) fun ℓ ℓ x => x)))
    fun ℓ ℓ x => x)
  obtain ⟨T,id,hl,hT,hg⟩:=h₂.on
  refine wpAny_bind ?_
  rw [getitemInPython_of_ne hT.not_modules]
  refine wpAny_bind (wpAny_specialOf hT hl ?_)
  have fin:wpAny W.M A (subscripted sl false o i) (fun r s₃ => wpAny W.M A (letTemporaryGo value o r >>= fun ℓ => pure r) Q E s₃) E s₂:=by
    rcases hs o i with e | e <;> rw [e] <;>
    exact wpAny_operating (wpAny_mono hg (fun r s₃ h₃ => wpAny_bind (wpAny_letTemporaryGo (wpAny_pure h₃))) fun ℓ ℓ x => x)
  first
    | exact wpAny_pure (wpAny_bind fin)
    | exact wpAny_bind (wpAny_pure (wpAny_bind fin))
    | exact wpAny_bind fin
noncomputable def tIdx (tv ti:TE):TE:=fun Q X σ => tv (fun o σ₁ => ti (fun i σ₂ => idxP o i fun u => Q u σ₂) X σ₁) X σ
theorem se_idx {value sl:PySem.Expr} {tv ti:TE} (hv:SE W sc n value tv) (hi:SE W sc n sl ti)
    (hs:∀ o i,subscripted sl false o i = operate [o,i] (getItem o i):=by intro _ _; rfl):SE W sc n (.Subscript value sl pos) (tIdx tv ti) :=
  fun fx F σ s Q X E hsc hrm I h hE => by
    refine wp_Subscript (fun o i => .inl (hs o i)) ((hv fx F σ s _ X E hsc hrm I h hE).imp fun vo s₁ h₁ => ?_)
    obtain ⟨F₁,σ₁,a,h01,I₁,ra,h₁⟩:=h₁
    refine (hi fx F₁ σ₁ s₁ _ X E hsc hrm I₁ h₁ hE).imp fun vi s₂ h₂ => ?_
    obtain ⟨F₂,σ₂,b,h12,I₂,rb,h₂⟩:=h₂
    obtain ⟨T,id,h1,h2,h3⟩:=(idx_sound (A:=fx.A) (E:=E) I₂ (ra.mono h12) rb h₂).on
    refine ⟨T,id,h1,h2,wpAny_mono h3 (fun v s₃ h₃ => ?_) fun ℓ ℓ x => x⟩
    obtain ⟨F₃,u,h23,I₃,ru,h₃⟩:=h₃
    exact ⟨F₃,σ₂,u,(h01.trans h12).trans h23,I₃,ru,h₃⟩
structure Lit (W:Wd) (e:PySem.Expr) (i:Int):Prop where
  out:∀ (A:Around) (env:Env) (s:Shared) (Q:Value → Shared → Prop) (E:Value → Shared → Prop),(∀ t tk,Q (.int i t) { s with toks:=tk }) → Wp W A (eval e env) Q E s
theorem lit_int (i:Int):Lit W (.Constant (.int i) k pos) i:=⟨fun ℓ ℓ ℓ ℓ ℓ h => ⟨wpAny_Constant_int (h _ _)⟩⟩
theorem wp_USub {A:Around} {env:Env} {s:Shared} {E:Value → Shared → Prop} {e:PySem.Expr} {Q:Value → Shared → Prop} (h:Wp W A (eval e env) (fun v s₁ => Wp W A (unaryOp .USub v) Q E s₁) E s):Wp W A (eval (.UnaryOp .USub e pos) env) Q E s :=
  ⟨wpAny_UnaryOp (wpAny_mono h.out (fun ℓ ℓ x => x.out) fun ℓ ℓ x => x)⟩
theorem lit_neg {e:PySem.Expr} {i:Int} (h:Lit W e i):Lit W (.UnaryOp .USub e pos) (-i):=⟨fun A env s Q E hQ => wp_USub (h.out A env s _ E fun t tk => ⟨PyProof.Rows.neg_int (hQ _ _)⟩)⟩
theorem se_neg {e:PySem.Expr} {t:TE} (h:SE W sc n e t):SE W sc n (.UnaryOp .USub e pos) (fun Q X => t (fun v σ₁ => match v with | .int i => Q (.int (-i)) σ₁ | _ => False) X) :=
  fun fx F σ s Q X E hsc hrm I k hE => by
    refine wp_USub ((h fx F σ s _ X E hsc hrm I k hE).imp fun v s₁ k₁ => ?_)
    obtain ⟨F₁,σ₁,u,h01,I₁,ru,k₁⟩:=k₁
    cases u with
    | int i => obtain ⟨_,rfl⟩:=ru.inv; exact ⟨PyProof.Rows.neg_int ⟨F₁,σ₁,_,h01,I₁.ext (.tok _ _),.int _ _,k₁⟩⟩
    | _ => exact k₁.elim
noncomputable def tLit (x:String) (i:Int):TE:=fun Q X σ => match get σ x with
  | some (.own l) => fits l.length ∧ ∃ u,at? l i = some u ∧ Q u σ
  | _ => tName x (fun v σ₁ => idxP v (.int i) fun u => Q u σ₁) X σ
theorem Reps.at? {F:Fz} {vs:List Value} {us:List V} (h:Reps F vs us) {i:Int} {u:V} (hu:at? us i = some u):∃ v,at? vs i = some v ∧ Rep F v u:=by
  have hlen:=h.length
  unfold Mine.at? at hu ⊢
  rw [hlen]
  by_cases h0:0 ≤ i
  · rw [if_pos h0] at hu ⊢; exact h.get _ _ hu
  · rw [if_neg h0] at hu ⊢
    by_cases h1:-(us.length:Int) ≤ i
    · rw [if_pos h1] at hu ⊢; exact h.get _ _ hu
    · rw [if_neg h1] at hu; cases hu
theorem OwnAt.item {A:Around} {fx:Fx} {F:Fz} {σ:Sto} {s:Shared} {a:Addr} {l:List V} {i:Int} {t:Tok} {u:V} {Q:Value → Shared → Prop} {E:Value → Shared → Prop}
    (ho:OwnAt fx F s.heap a l) (hf:fits l.length) (hu:at? l i = some u) (hQ:∀ v,Rep F v u → Q v s):ItemAt W A (.ref a) (.int i t) Q E s:=by
  obtain ⟨⟨o,xs,ep,ho',hc,hd',hr,_⟩,_,_⟩:=ho
  have hlen:=hr.length
  obtain ⟨v,hv,hrv⟩:=hr.at? hu
  exact item_list ho' hc hd' (by unfold fits at hf ⊢; simp at hlen; omega) hv (hQ v hrv)
theorem se_lit (x:String) {sl:PySem.Expr} {i:Int} (hi:Lit W sl i)
    (hs:∀ o i,subscripted sl false o i = operate [o,i] (getItem o i):=by intro _ _; rfl) (hd:(nm x == ("__debug__":Str)) = false:=by decide) (hn:(nm x == ("__classdict__":Str)) = false:=by decide) :
    SE W sc n (.Subscript (.Name (Str.ofString x) pos') sl pos) (tLit x i) :=
  fun fx F σ s Q X E hsc hrm I h hE => by
    have plain:tName x (fun v σ₁ => idxP v (.int i) fun u => Q u σ₁) X σ → Wp W fx.A (eval (.Subscript (.Name (Str.ofString x) pos') sl pos) fx.env) (PE W fx F Q) E s:=fun h =>
      se_idx (n:=n) (sc:=sc) (ti:=fun Q ℓ σ => Q (.int i) σ) (se_name x hd hn) (fun fx F σ s Q X E ℓ ℓ I h ℓ => hi.out _ _ _ _ _ fun t tk => ⟨F,σ,_,.refl F,I.ext (.tok s tk),.int i t,h⟩) hs fx F σ s Q X E hsc hrm I h hE
    cases e:get σ x with
    | none => exact plain (by unfold tLit at h; rw [e] at h; exact h)
    | some slot =>
      cases slot with
      | own l =>
        have h:fits l.length ∧ ∃ u,at? l i = some u ∧ Q u σ:=by unfold tLit at h; rw [e] at h; exact h
        obtain ⟨hf,u,hu,hQ⟩:=h
        obtain ⟨v,hv,a,rfl,ho⟩:=I.vars x _ e
        refine wp_Subscript (fun o i => .inl (hs o i)) ⟨wpAny_Name (load_of I hv hn ?_).out hd⟩
        refine hi.out _ _ _ _ _ fun t tk => ?_
        exact OwnAt.item (σ:=σ) (s:={ s with toks:=tk }) ho hf hu fun v hr => ⟨F,σ,u,.refl F,I.ext (.tok s tk),hr,hQ⟩
      | _ => exact plain (by unfold tLit at h; rw [e] at h; exact h)
theorem put_put:∀ (σ:Sto) (x:String) (v w:Slot),put (put σ x v) x w = put σ x w
  | [],x,v,w => by simp [put]
  | (y,u) :: r,x,v,w => by
    unfold put
    by_cases h:y = x
    · simp [h,put]
    · simp only [h,if_false]
      rw [put]
      simp only [h,if_false,put_put r x v w]
theorem hidden {A:Around} {fx:Fx} {F:Fz} {σ:Sto} {s:Shared} {E:Value → Shared → Prop} {x:String} {l:List V} {a:Addr} {e:PySem.Expr} {t:TE} {R:V → Sto → Prop} (he:SE W sc n e t) (hsc:fx.env.scope = sc) (hrm:Room fx.A n)
    (I:Inv W fx F σ s) (hx:get σ x = some (.own l)) (hh:Holds fx.env s.heap x (.ref a)) (h:t (fun u σ₂ => get σ₂ x = some (.val (.ref a)) ∧ hasApp σ₂ x = false ∧ R u (put σ₂ x (.own l))) (fun ℓ => False) (put σ x (.val (.ref a)))) :
    Wp W fx.A (eval e fx.env) (fun v s' => ∃ G σ' u,F.le G ∧ Inv W fx G σ' s' ∧ Rep G v u ∧ R u σ' ∧ get σ' x = some (.own l) ∧ Holds fx.env s'.heap x (.ref a)) E s:=by
  obtain ⟨v,hv,b,e1,⟨⟨o,xs,ep,h1,h2,h3,h4,h5⟩,hF,hB⟩⟩:=I.vars x _ hx
  have:=holds_fun hv hh
  subst this
  cases e1
  obtain ⟨J,C⟩:=I.hide hx hh h1
  refine (he (fx.prot a o) F _ s _ _ E hsc hrm J h (fun ℓ ℓ ℓ x ℓ => x.elim)).imp fun v s₁ k => ?_
  obtain ⟨G,σ',u,hG,J',ru,⟨hxa,hap,hR⟩⟩:=k
  obtain ⟨K,hK⟩:=J'.unhide I.ok hB (I.f0_none hF) hxa h2 h3 (h4.mono hG) h5 (no_app hap)
  exact ⟨G,_,u,hG,K,ru,hR,by rw [get_put,if_pos rfl],hK⟩
noncomputable def tOwnIdx (x:String) (ti:TE):TE:=fun Q X σ => match get σ x with
  | some (.own l) => ∀ a,ti (fun i σ₂ => get σ₂ x = some (.val (.ref a)) ∧ hasApp σ₂ x = false ∧ match i with
      | .int i => fits l.length ∧ ∃ u,at? l i = some u ∧ Q u (put σ₂ x (.own l))
      | _ => False) (fun ℓ => False) (put σ x (.val (.ref a)))
  | _ => tIdx (tName x) ti Q X σ
theorem se_own_idx (x:String) {sl:PySem.Expr} {ti:TE} (hi:SE W sc n sl ti)
    (hs:∀ o i,subscripted sl false o i = operate [o,i] (getItem o i):=by intro _ _; rfl) (hd:(nm x == ("__debug__":Str)) = false:=by decide) (hn:(nm x == ("__classdict__":Str)) = false:=by decide) :
    SE W sc n (.Subscript (.Name (Str.ofString x) pos') sl pos) (tOwnIdx x ti) :=
  fun fx F σ s Q X E hsc hrm I h hE => by
    cases e:get σ x with
    | none => exact se_idx (se_name x hd hn) hi hs fx F σ s Q X E hsc hrm I (by unfold tOwnIdx at h; rw [e] at h; exact h) hE
    | some slot =>
      cases slot with
      | own l =>
        unfold tOwnIdx at h; rw [e] at h
        obtain ⟨v,hv,a,rfl,ho⟩:=I.vars x _ e
        refine wp_Subscript (fun o i => .inl (hs o i)) ⟨wpAny_Name (load_of I hv hn ?_).out hd⟩
        refine (hidden (A:=fx.A) (R:=fun i σ₂ => match i with
          | .int i => fits l.length ∧ ∃ u,at? l i = some u ∧ Q u σ₂
          | _ => False) hi hsc hrm I e hv (h a)).imp fun vi s₂ h₂ => ?_
        obtain ⟨G,σ',u,hG,I',ru,hR,hx',hh'⟩:=h₂
        cases u with
        | int i =>
          obtain ⟨_,rfl⟩:=ru.inv
          obtain ⟨hf,u,hu,hQ⟩:=hR
          obtain ⟨v',hv',a',e',ho'⟩:=I'.vars x _ hx'
          have:=holds_fun hv' hh'
          subst this
          cases e'
          exact ho'.item (σ:=σ') hf hu fun v hr => ⟨G,σ',u,hG,I',hr,hQ⟩
        | _ => exact hR.elim
      | _ => exact se_idx (se_name x hd hn) hi hs fx F σ s Q X E hsc hrm I (by unfold tOwnIdx at h; rw [e] at h; exact h) hE
end
end Mine
end
noncomputable section
open PySem PySem.W PyProof.Rows PySem.Spec PySem.Calls
set_option Elab.async false
set_option maxRecDepth 100000
set_option linter.unusedVariables false
namespace Mine
theorem get_size (h:Heap):h.get? h.objs.size = none:=by
  cases q:h.get? h.objs.size with
  | none => rfl
  | some o => exact absurd (Heap.lt_size q) (Nat.lt_irrefl _)
noncomputable def slc {α:Type} (l:List α) (lo hi:Option Int):List α:=(l.drop (lo.elim 0 (clipAt l.length))).take (hi.elim l.length (clipAt l.length) - lo.elim 0 (clipAt l.length))
theorem strSlice_eq (lo hi:Option Int) (m:Nat):Builtin.Str.strSliceIndices lo hi 1 m = (List.range (hi.elim m (clipAt m) - lo.elim 0 (clipAt m))).map (lo.elim 0 (clipAt m) + ·):=by
  show sliceRange (sliceBounds lo hi none m).1 (sliceBounds lo hi none m).2.1 1 = _
  rw [sliceBounds_plain]
  exact sliceRange_one _ _
theorem ar0 {a b n:Nat} (h:a - b = n) (h1:a ≤ n) (h0:¬ n = 0):b = 0:=by omega
theorem slc_full {α:Type} (l:List α) (lo hi:Option Int) (h:(hi.elim l.length (clipAt l.length) - lo.elim 0 (clipAt l.length)) = l.length):slc l lo hi = l:=by
  have hc:∀ i,clipAt l.length i ≤ l.length:=fun i => by
    have:=clipAt_cast l.length i
    exact Int.ofNat_le.mp (by rw [this]; exact Int.max_le.mpr ⟨Int.natCast_nonneg _,Int.min_le_right _ _⟩)
  have h1:hi.elim l.length (clipAt l.length) ≤ l.length:=by
    cases hi
    · exact Nat.le_refl _
    · exact hc _
  unfold slc
  by_cases h0:l.length = 0
  · have:l = []:=List.length_eq_zero_iff.mp h0
    subst this; simp
  · have h2:lo.elim 0 (clipAt l.length) = 0:=ar0 h h1 h0
    rw [h,h2]; simp
set_option tactic.hygienic true in
theorem str_slice (x:Str) (lo hi:Option Int):(Txt.slice x lo hi).cps.toList = slc x.cps.toList lo hi:=by
  unfold Txt.slice
  rw [strSlice_eq]
  have hl:x.length = x.cps.toList.length:=by simp [Str.length]
  split
  · rename_i h
    rw [slc_full]
    simp at h
    rw [← hl]; exact h
  · simp only [List.toList_toArray]
    rw [pick_run]
    unfold slc
    rw [hl]
noncomputable def slcP (o:V) (lo hi:Option Int) (K:V → Prop):Prop:=match o with
  | .str x => fits x.length ∧ K (.str (slc x lo hi))
  | .list l => fits l.length ∧ K (.list (slc l lo hi))
  | _ => False
theorem Reps.slc {F:Fz} {vs:List Value} {us:List V} (h:Reps F vs us) (lo hi:Option Int):Reps F (slc vs lo hi) (slc us lo hi):=by
  unfold Mine.slc
  rw [h.length]
  exact (h.drop _).take _
section
variable {W:Wd} {fx:Fx} {F:Fz} {σ:Sto} {s:Shared} {A:Around} {E:Value → Shared → Prop}
theorem Inv.pushF (I:Inv W fx F σ s) {o:Obj} {tk:Nat} (ho:o.isFreed = false) (hok:OkObj o) :
    F.le (F.add s.heap.objs.size o) ∧ Inv W fx (F.add s.heap.objs.size o) σ { s with heap:=s.heap.push o,toks:=tk } :=
  I.extAdd (Ext.mk' fun b ob e => Heap.get?_push_of_some _ e) (get_size _) (Heap.get?_push_size _ ho) hok
theorem Inv.push (I:Inv W fx F σ s) (o:Obj) (tk:Nat):Inv W fx F σ { s with heap:=s.heap.push o,toks:=tk } :=
  I.ext (Ext.mk' fun b ob e => Heap.get?_push_of_some _ e)
theorem okSeq {c:String} {xs:Array Value} {ep:Nat}:OkObj { cls:=.type c,data:=.seq xs ep }:=⟨fun e => (nomatch e),fun ℓ ℓ e => (nomatch e),fun ℓ e => (nomatch e)⟩
theorem okFields {c:String} {xs:Array Value}:OkObj { cls:=.type c,data:=.fields xs }:=⟨fun e => (nomatch e),fun ℓ ℓ e => (nomatch e),fun ℓ e => (nomatch e)⟩
theorem Inv.newList (I:Inv W fx F σ s) {vs:List Value} {us:List V} {tk:Nat} (h:Reps F vs us) :
    ∃ G,F.le G ∧ Inv W fx G σ { s with heap:=s.heap.push { cls:=.type "list",data:=.seq vs.toArray },toks:=tk } ∧ Rep G (.ref s.heap.objs.size) (.list us):=by
  obtain ⟨h1,h2⟩:=I.pushF (o:={ cls:=.type "list",data:=.seq vs.toArray }) (tk:=tk) rfl okSeq
  exact ⟨_,h1,h2,.list Fz.add_self rfl rfl (by simpa using h.mono h1)⟩
theorem Inv.newTuple (I:Inv W fx F σ s) {vs:List Value} {us:List V} {tk:Nat} (h:Reps F vs us) :
    ∃ G,F.le G ∧ Inv W fx G σ { s with heap:=s.heap.push { cls:=.type "tuple",data:=.seq vs.toArray },toks:=tk } ∧ Rep G (.ref s.heap.objs.size) (.tuple us):=by
  obtain ⟨h1,h2⟩:=I.pushF (o:={ cls:=.type "tuple",data:=.seq vs.toArray }) (tk:=tk) rfl okSeq
  exact ⟨_,h1,h2,.tuple Fz.add_self rfl rfl (by simpa using h.mono h1)⟩
theorem isPart_partValue {v:Value} {p:Option Int} (h:IsPart v p):∃ q:Option (Int × Tok),v = partValue q ∧ q.map (·.1) = p:=by
  cases h with
  | none => exact ⟨none,rfl,rfl⟩
  | int i t => exact ⟨some (i,t),rfl,rfl⟩
theorem slc_sound {vo vl vu:Value} {o:V} {lo hi:Option Int} {K:V → Prop} (I:Inv W fx F σ s) (ro:Rep F vo o) (pl:IsPart vl lo) (pu:IsPart vu hi) (h:slcP o lo hi K) :
    ItemAt W A vo (.ref s.heap.objs.size) (PV W fx F σ K) E { s with heap:=s.heap.push { cls:=.type "slice",data:=.fields #[vl,vu,.none] } }:=by
  have J:=I.push { cls:=.type "slice",data:=.fields #[vl,vu,.none] } s.toks
  cases o with
  | str x =>
    obtain ⟨x,t,rfl,rfl⟩:=ro.inv
    have h:fits x.cps.toList.length ∧ K (.str (slc x.cps.toList lo hi)):=h
    obtain ⟨hf,hK⟩:=h
    have hsz:x.length ≤ sizeLine:=by
      simp only [Array.length_toList] at hf
      exact fits_size hf
    obtain ⟨l,rfl,rfl⟩:=isPart_partValue pl
    obtain ⟨u,rfl,rfl⟩:=isPart_partValue pu
    refine ⟨"str",_,PySem.F.slot_str_getitem.lookup,typeIs_str _ _ _,?_⟩
    refine wpAny_getItem_str_slice (l:=l) (u:=u) (st:=none) ⟨_,Heap.get?_push_size _ rfl,rfl,rfl⟩ rfl ?_
    have hfin:∀ t' tk,PV W fx F σ K (.str (Txt.slice x (l.map (·.1)) (u.map (·.1))) t') { s with heap:=s.heap.push { cls:=.type "slice",data:=.fields #[partValue l,partValue u,.none] },toks:=tk }:=fun t' tk =>
      ⟨F,_,.refl F,J.ext (.tok _ tk),(by
        have:=Rep.str (F:=F) (Txt.slice x (l.map (·.1)) (u.map (·.1))) t'
        rw [str_slice] at this
        exact this),hK⟩
    exact post_val_or_str ⟨Nat.le_trans (Txt.slice_le x _ _) hsz,fun t' k => hfin t' k⟩
  | list l =>
    obtain ⟨a,ob,xs,ep,rfl,e,hc,hd,hr⟩:=ro.inv
    have h:fits l.length ∧ K (.list (slc l lo hi)):=h
    obtain ⟨hf,hK⟩:=h
    have hlen:xs.size = l.length:=by simpa using hr.length
    have hl:Heap.IsList (s.heap.push { cls:=.type "slice",data:=.fields #[vl,vu,.none] }) a xs:=⟨ob,J.fin _ _ e,hc,ep,hd⟩
    refine ⟨"list",_,list_getitem_lookup,Heap.IsList.typeIs (s:={ s with heap:=s.heap.push { cls:=.type "slice",data:=.fields #[vl,vu,.none] } }) hl,?_⟩
    refine wpAny_getItem_list_slice hl ⟨_,Heap.get?_push_size _ rfl,rfl,rfl⟩ pl pu .none (by simp) ?_ (by rw [hlen]; exact fits_size hf)
    rw [slicePick_plain]
    obtain ⟨G,hG,I',r⟩:=J.newList (tk:=s.toks) (hr.slc lo hi)
    refine ⟨G,_,hG,?_,?_,hK⟩
    · have:Mine.slc xs.toList lo hi = (xs.toList.drop (lo.elim 0 (clipAt xs.size))).take (hi.elim xs.size (clipAt xs.size) - lo.elim 0 (clipAt xs.size)):=by simp [Mine.slc]
      rw [this] at I'
      exact I'
    · exact r
  | _ => exact False.elim h
end
noncomputable abbrev TP:=(Option Int → Sto → Prop) → (Value → Prop) → Sto → Prop
noncomputable def SP (W:Wd) (sc:Scope) (n:Nat) (e:Option PySem.Expr) (t:TP):Prop :=
  ∀ (fx:Fx) (F:Fz) (σ:Sto) (s:Shared) (Q:Option Int → Sto → Prop) (X:Value → Prop) (E:Value → Shared → Prop),
    fx.env.scope = sc → Room fx.A n → Inv W fx F σ s → t Q X σ → (∀ c e s',X c → Raised W fx c e s' → E e s') →
    Wp W fx.A (evalPart e fx.env) (fun v s' => ∃ G σ' p,F.le G ∧ Inv W fx G σ' s' ∧ IsPart v p ∧ Q p σ') E s
section
variable {W:Wd} {sc:Scope} {n:Nat} {pos pos':Pos} {k:Nat}
theorem sp_none:SP W sc n none (fun Q ℓ σ => Q none σ):=fun fx F σ s Q X E ℓ ℓ I h ℓ => ⟨by rw [evalPart_none]; exact wpAny_pure ⟨F,σ,none,.refl F,I,.none,h⟩⟩
theorem sp_some {e:PySem.Expr} {t:TE} (h:SE W sc n e t):SP W sc n (some e) (fun Q X => t (fun v σ₁ => match v with | .int i => Q (some i) σ₁ | _ => False) X) :=
  fun fx F σ s Q X E hsc hrm I k hE => by
    rw [evalPart_some]
    refine (h fx F σ s _ X E hsc hrm I k hE).imp fun v s₁ k₁ => ?_
    obtain ⟨F₁,σ₁,u,h01,I₁,ru,k₁⟩:=k₁
    cases u with
    | int i => obtain ⟨_,rfl⟩:=ru.inv; exact ⟨F₁,σ₁,some i,h01,I₁,.int _ _,k₁⟩
    | _ => exact k₁.elim
theorem wp_Slice {A:Around} {env:Env} {s:Shared} {E:Value → Shared → Prop} {lower upper:Option PySem.Expr} {Q:Value → Shared → Prop}
    (h:Wp W A (evalPart lower env) (fun l s₁ => Wp W A (evalPart upper env) (fun u s₂ =>
      Q (.ref s₂.heap.objs.size) { s₂ with heap:=s₂.heap.push { cls:=.type "slice",data:=.fields #[l,u,.none] } }) E s₁) E s) :
    Wp W A (eval (.Slice lower upper none pos) env) Q E s :=
  ⟨wpAny_Slice (wpAny_mono h.out (fun ℓ ℓ x => wpAny_mono x.out (fun ℓ ℓ x => by rw [evalPart_none]; exact wpAny_pure x) fun ℓ ℓ x => x) fun ℓ ℓ x => x)⟩
noncomputable def tSlc (tv:TE) (tl tu:TP):TE:=fun Q X => tv (fun o => tl (fun lo => tu (fun hi σ₃ => slcP o lo hi fun u => Q u σ₃) X) X) X
theorem se_slc {value:PySem.Expr} {lower upper:Option PySem.Expr} {tv:TE} {tl tu:TP} (hv:SE W sc n value tv) (hl:SP W sc n lower tl) (hu:SP W sc n upper tu) :
    SE W sc n (.Subscript value (.Slice lower upper none pos') pos) (tSlc tv tl tu) :=
  fun fx F σ s Q X E hsc hrm I h hE => by
    refine wp_Subscript (fun o i => .inr (by rfl)) ((hv fx F σ s _ X E hsc hrm I h hE).imp fun vo s₁ h₁ => ?_)
    obtain ⟨F₁,σ₁,a,h01,I₁,ra,h₁⟩:=h₁
    refine wp_Slice ((hl fx F₁ σ₁ s₁ _ X E hsc hrm I₁ h₁ hE).imp fun vl s₂ h₂ => ?_)
    obtain ⟨F₂,σ₂,lo,h12,I₂,pl,h₂⟩:=h₂
    refine (hu fx F₂ σ₂ s₂ _ X E hsc hrm I₂ h₂ hE).imp fun vu s₃ h₃ => ?_
    obtain ⟨F₃,σ₃,hi,h23,I₃,pu,h₃⟩:=h₃
    obtain ⟨T,id,q1,q2,q3⟩:=(slc_sound (A:=fx.A) (E:=E) I₃ ((ra.mono h12).mono h23) pl pu h₃).on
    refine ⟨T,id,q1,q2,wpAny_mono q3 (fun v s₄ h₄ => ?_) fun ℓ ℓ x => x⟩
    obtain ⟨F₄,u,h34,I₄,ru,h₄⟩:=h₄
    exact ⟨F₄,σ₃,u,((h01.trans h12).trans h23).trans h34,I₄,ru,h₄⟩
noncomputable abbrev TG:=(List V → Sto → Prop) → (Value → Prop) → Sto → Prop
noncomputable def SG (W:Wd) (sc:Scope) (n:Nat) (es:List PySem.Expr) (t:TG):Prop :=
  ∀ (fx:Fx) (F:Fz) (σ:Sto) (s:Shared) (Q:List V → Sto → Prop) (X:Value → Prop) (E:Value → Shared → Prop) (pos:Pos),
    fx.env.scope = sc → Room fx.A n → Inv W fx F σ s → t Q X σ → (∀ c e s',X c → Raised W fx c e s' → E e s') →
    Wp W fx.A (spliced (backTo pos (starEach es fx.env))) (fun vs s' => ∃ G σ' us,F.le G ∧ Inv W fx G σ' s' ∧ Reps G vs us ∧ Q us σ') E s
theorem Reps.one {F:Fz} {v:Value} {u:V} (h:Rep F v u):Reps F [v] [u]:=.cons h .nil
theorem sg_nil:SG W sc n [] (fun Q ℓ σ => Q [] σ):=fun fx F σ s Q X E p ℓ ℓ I h ℓ => ⟨wpAny_items_nil ⟨F,σ,[],.refl F,I,.nil,h⟩⟩
theorem sg_cons {e:PySem.Expr} {r:List PySem.Expr} {t:TE} {tr:TG} (h:SE W sc n e t) (hr:SG W sc n r tr) (he:∀ env,starEach (e :: r) env = (false,eval e env) :: starEach r env:=by intro _; rfl) :
    SG W sc n (e :: r) (fun Q X => t (fun u => tr (fun us => Q (u :: us)) X) X) :=
  fun fx F σ s Q X E p hsc hrm I k hE => by
    refine ⟨wpAny_items_cons (wpAny_mono (h fx F σ s _ X E hsc hrm I k hE).out (fun v s₁ k₁ => ?_) fun ℓ ℓ x => x) (he _)⟩
    obtain ⟨F₁,σ₁,u,h01,I₁,ru,k₁⟩:=k₁
    refine wpAny_mono (hr fx F₁ σ₁ s₁ _ X E p hsc hrm I₁ k₁ hE).out (fun vs s₂ k₂ => ?_) fun ℓ ℓ x => x
    obtain ⟨F₂,σ₂,us,h12,I₂,rus,k₂⟩:=k₂
    exact ⟨F₂,σ₂,u :: us,h01.trans h12,I₂,.cons (ru.mono h12) rus,k₂⟩
theorem se_list {es:List PySem.Expr} {t:TG} (h:SG W sc n es t):SE W sc n (.List es pos) (fun Q X => t (fun us σ₁ => fits us.length ∧ Q (.list us) σ₁) X) :=
  fun fx F σ s Q X E hsc hrm I k hE => by
    refine ⟨wpAny_List (wpAny_mono (h fx F σ s _ X E pos hsc hrm I k hE).out (fun vs s₁ k₁ => ?_) fun ℓ ℓ x => x)⟩
    obtain ⟨F₁,σ₁,us,h01,I₁,rus,hf,k₁⟩:=k₁
    obtain ⟨G,hG,I',r⟩:=I₁.newList (tk:=s₁.toks) rus
    exact ⟨by rw [rus.length]; exact fits_size hf,G,σ₁,_,h01.trans hG,I',r,k₁⟩
theorem se_tuple {es:List PySem.Expr} {t:TG} (h:SG W sc n es t):SE W sc n (.Tuple es k pos) (fun Q X => t (fun us σ₁ => fits us.length ∧ Q (.tuple us) σ₁) X) :=
  fun fx F σ s Q X E hsc hrm I k hE => by
    refine ⟨wpAny_Tuple (wpAny_mono (h fx F σ s _ X E pos hsc hrm I k hE).out (fun vs s₁ k₁ => ?_) fun ℓ ℓ x => x)⟩
    obtain ⟨F₁,σ₁,us,h01,I₁,rus,hf,k₁⟩:=k₁
    obtain ⟨G,hG,I',r⟩:=I₁.newTuple (tk:=s₁.toks) rus
    exact ⟨by rw [rus.length]; exact fits_size hf,G,σ₁,_,h01.trans hG,I',r,k₁⟩
theorem Inv.newOwn {fx:Fx} {F:Fz} {σ:Sto} {s:Shared} (I:Inv W fx F σ s) {vs:List Value} {us:List V} {tk:Nat} (h:Reps F vs us) :
    PO W fx F (fun l σ' => l = us ∧ σ' = σ) (.ref s.heap.objs.size) { s with heap:=s.heap.push { cls:=.type "list",data:=.seq vs.toArray },toks:=tk }:=by
  have hn:s.heap.get? s.heap.objs.size = none:=get_size _
  refine ⟨F,σ,us,_,.refl F,I.push _ tk,rfl,⟨⟨_,vs.toArray,_,Heap.get?_push_size _ rfl,rfl,rfl,by simpa using h,rfl⟩,I.fresh_F hn,I.fresh_B hn⟩,?_,rfl,rfl⟩
  rintro y k b hy hh rfl
  obtain ⟨v,hv,b',rfl,⟨⟨o,xs,ep,h1,h2,h3,h4⟩,_,_⟩⟩:=I.vars y _ hy
  have:=holds_fun hh ((I.holds_to (s':={ s with heap:=s.heap.push { cls:=.type "list",data:=.seq vs.toArray },toks:=tk }) (KeepX.of_keeps fun b ob e => Heap.get?_push_of_some _ e)) hv)
  cases this
  rw [hn] at h1; cases h1
theorem so_list {es:List PySem.Expr} {t:TG} (h:SG W sc n es t):SO W sc n (.List es pos) (fun Q X => t (fun us σ₁ => fits us.length ∧ Q us σ₁) X) :=
  fun fx F σ s Q X E hsc hrm I k hE => by
    refine ⟨wpAny_List (wpAny_mono (h fx F σ s _ X E pos hsc hrm I k hE).out (fun vs s₁ k₁ => ?_) fun ℓ ℓ x => x)⟩
    obtain ⟨F₁,σ₁,us,h01,I₁,rus,hf,k₁⟩:=k₁
    obtain ⟨G,σ',l,a,hG,I',e,ho,hap,rfl,rfl⟩:=I₁.newOwn (tk:=s₁.toks) rus
    exact ⟨by rw [rus.length]; exact fits_size hf,G,_,_,a,h01.trans hG,I',e,ho,hap,k₁⟩
end
end Mine
end
noncomputable section
open PySem PySem.W PyProof.Rows PySem.Spec PySem.Calls
set_option Elab.async false
set_option maxRecDepth 100000
set_option linter.unusedVariables false
namespace Mine
noncomputable def CB (W:Wd) (callee:Value) (P:List V → (V → Prop) → Prop):Prop :=
  ∀ (A:Around) (fx:Fx) (F:Fz) (σ:Sto) (s:Shared) (vs:List Value) (us:List V) (K:V → Prop) (E:Value → Shared → Prop),
    A.handled = none → Inv W fx F σ s → Reps F vs us → P us K → Wp W A (call callee vs) (PV W fx F σ K) E s
inductive Reps1 (F:Fz) (vs:List Value) (u:V):Prop
  | mk (v:Value) (e:vs = [v]) (r:Rep F v u)
inductive Reps2 (F:Fz) (vs:List Value) (u u':V):Prop
  | mk (v v':Value) (e:vs = [v,v']) (r:Rep F v u) (r':Rep F v' u')
inductive Reps3 (F:Fz) (vs:List Value) (u u' u'':V):Prop
  | mk (v v' v'':Value) (e:vs = [v,v',v'']) (r:Rep F v u) (r':Rep F v' u') (r'':Rep F v'' u'')
theorem Reps.inv1 {F:Fz} {vs:List Value} {u:V} (h:Reps F vs [u]):Reps1 F vs u:=by
  obtain ⟨v,w,rfl,a,b⟩:=h.inv
  obtain rfl:=b.inv
  exact ⟨_,rfl,a⟩
theorem Reps.inv2 {F:Fz} {vs:List Value} {u u':V} (h:Reps F vs [u,u']):Reps2 F vs u u':=by
  obtain ⟨v,w,rfl,a,b⟩:=h.inv
  obtain ⟨v',rfl,r⟩:=b.inv1
  exact ⟨_,_,rfl,a,r⟩
theorem Reps.inv3 {F:Fz} {vs:List Value} {u u' u'':V} (h:Reps F vs [u,u',u'']):Reps3 F vs u u' u'':=by
  obtain ⟨v,w,rfl,a,b⟩:=h.inv
  obtain ⟨v',v'',rfl,r,r'⟩:=b.inv2
  exact ⟨_,_,_,rfl,a,r,r'⟩
noncomputable def lenOf:V → Option Nat
  | .str x => some x.length
  | .list l => some l.length
  | .tuple l => some l.length
  | .bytes b => some b.length
  | _ => none
inductive lenP (us:List V) (K:V → Prop):Prop
  | mk (u:V) (m:Nat) (e:us = [u]) (l:lenOf u = some m) (f:fits m) (k:K (.int m))
section
variable {W:Wd}
theorem fin_int {fx:Fx} {F:Fz} {σ:Sto} {s:Shared} {K:V → Prop} (I:Inv W fx F σ s) {i:Int} (h:K (.int i)) (t tk:Nat):PV W fx F σ K (.int i t) { s with toks:=tk } :=
  ⟨F,.int i,.refl F,I.ext (.tok s tk),.int i t,h⟩
theorem fin_str {fx:Fx} {F:Fz} {σ:Sto} {s:Shared} {K:V → Prop} (I:Inv W fx F σ s) {x:Str} (h:K (.str x.cps.toList)) (t tk:Nat):PV W fx F σ K (.str x t) { s with toks:=tk } :=
  ⟨F,_,.refl F,I.ext (.tok s tk),.str x t,h⟩
theorem cb_len:CB W (.builtin "len") lenP:=by
  rintro A fx F σ s vs us K E hh I r ⟨u,m,rfl,hm,hf,hK⟩
  obtain ⟨v,rfl,rv⟩:=r.inv1
  unfold fits at hf
  constructor
  cases u with
  | str x =>
    obtain ⟨x,t,rfl,rfl⟩:=rv.inv
    cases hm
    have hl:x.length = x.cps.toList.length:=by simp [Str.length]
    refine len_str (by omega) ?_
    rw [hl]
    exact fin_int I hK _ _
  | list l =>
    obtain ⟨a,o,xs,ep,rfl,e,hc,hd,hr⟩:=rv.inv
    cases hm
    have hlen:xs.size = l.length:=by simpa using hr.length
    refine call_len_list (items:=xs) ⟨o,I.fin _ _ e,hc,ep,hd⟩ (by omega) ?_
    rw [hlen]
    exact fin_int I hK _ _
  | tuple l =>
    obtain ⟨a,o,xs,ep,rfl,e,hc,hd,hr⟩:=rv.inv
    cases hm
    have hlen:xs.size = l.length:=by simpa using hr.length
    refine PyProof.Rows.len_tuple (items:=xs) ⟨o,I.fin _ _ e,hc,ep,hd⟩ (by omega) ?_
    rw [hlen]
    exact fin_int I hK _ _
  | bytes b =>
    obtain ⟨b,t,rfl,rfl⟩:=rv.inv
    cases hm
    have hl:b.size = b.toList.length:=by simp
    refine len_bytes (by omega) ?_
    rw [hl]
    exact fin_int I hK _ _
  | _ => cases hm
noncomputable def near (a:Int):Prop:=-(2 ^ 40) ≤ a ∧ a ≤ 2 ^ 40
noncomputable def rangeP (us:List V) (K:V → Prop):Prop:=match us with
  | [.int b] => near b ∧ K (.range 0 1 b.toNat)
  | [.int a,.int b] => (near a ∧ near b) ∧ K (.range a 1 (b - a).toNat)
  | [.int a,.int b,.int c] => (c = -1 ∧ near a ∧ near b) ∧ K (.range a c (a - b).toNat)
  | _ => False
theorem rs_up (a b:Int):Builtin.Range.rangeSize a b 1 = (b - a).toNat:=by
  unfold Builtin.Range.rangeSize
  rw [if_pos (by decide)]
  split <;> (try rw [Int.ediv_one]) <;> omega
theorem rs_down (a b:Int):Builtin.Range.rangeSize a b (-1) = (a - b).toNat:=by
  unfold Builtin.Range.rangeSize
  rw [if_neg (by decide)]
  split <;> (try rw [show -(-1:Int) = 1 from rfl,Int.ediv_one]) <;> omega
theorem Inv.newRange {fx:Fx} {F:Fz} {σ:Sto} {s:Shared} {K:V → Prop} (I:Inv W fx F σ s) {a b c:Int} {t u v tk:Nat} {m:Nat} (h1:Builtin.Range.small a b c = true) (h2:Builtin.Range.rangeSize a b c = m) (h:K (.range a c m)) :
    PV W fx F σ K (.ref s.heap.objs.size) { s with heap:=s.heap.push { cls:=.type "range",data:=.fields #[.int a t,.int b u,.int c v] },toks:=tk }:=by
  obtain ⟨g1,g2⟩:=I.pushF (o:={ cls:=.type "range",data:=.fields #[.int a t,.int b u,.int c v] }) (tk:=tk) rfl okFields
  exact ⟨_,_,g1,g2,.range Fz.add_self h1 h2,h⟩
theorem rangeP.els {us:List V} {K:V → Prop} {G:Prop} (h:rangeP us K) (h1:∀ b,us = [.int b] → near b ∧ K (.range 0 1 b.toNat) → G) (h2:∀ a b,us = [.int a,.int b] → (near a ∧ near b) ∧ K (.range a 1 (b - a).toNat) → G) (h3:∀ a b c,us = [.int a,.int b,.int c] → (c = -1 ∧ near a ∧ near b) ∧ K (.range a c (a - b).toNat) → G):G:=by
  cases us with
  | nil => exact False.elim h
  | cons u r => cases u with
    | int a => cases r with
      | nil => exact h1 a rfl h
      | cons u r => cases u with
        | int b => cases r with
          | nil => exact h2 a b rfl h
          | cons u r => cases u with
            | int c => cases r with
              | nil => exact h3 a b c rfl h
              | cons => exact False.elim h
            | _ => exact False.elim h
        | _ => exact False.elim h
    | _ => exact False.elim h
theorem cb_range:CB W (.type "range") rangeP:=by
  intro A fx F σ s vs us K E hh I r h0
  refine h0.els (fun b e h => ?_) (fun a b e h => ?_) fun a b c e h => ?_
  all_goals subst e
  all_goals clear h0
  all_goals unfold near at h
  all_goals constructor
  · obtain ⟨v,rfl,rv⟩:=r.inv1
    obtain ⟨_,rfl⟩:=rv.inv
    refine call_range_1 (I.newRange (small_one (by omega) (by omega) (by omega) (by omega)) (m:=b.toNat) ?_ h.2)
    rw [rs_up]; simp
  · obtain ⟨v,v',rfl,rv,rv'⟩:=r.inv2
    obtain ⟨_,rfl⟩:=rv.inv; obtain ⟨_,rfl⟩:=rv'.inv
    exact call_range_2 (I.newRange (small_one (by omega) (by omega) (by omega) (by omega)) (rs_up a b) h.2)
  · obtain ⟨v,v',v'',rfl,rv,rv',rv''⟩:=r.inv3
    obtain ⟨_,rfl⟩:=rv.inv; obtain ⟨_,rfl⟩:=rv'.inv; obtain ⟨_,rfl⟩:=rv''.inv
    obtain ⟨⟨rfl,ha,hb⟩,hK⟩:=h
    refine call_range_3 (by decide) (I.newRange (small_down (by omega) (by omega) (by omega) (by omega)) (rs_down a b) hK) (Or.inl (PyProof.noPylong_of_log2 (by decide +kernel)))
noncomputable def listP (us:List V) (K:V → Prop):Prop:=match us with
  | [.range a c m] => fits m ∧ K (.list ((List.range m).map fun (i:Nat) => .int (a + (i:Int) * c)))
  | _ => False
theorem itemsOf_reps {F:Fz} {acc:Array Value} {m:Nat} {f:Nat → V} (h:acc.size = m) (hf:∀ i,i < m → ∃ v,acc[i]? = some v ∧ Rep F v (f i)):Reps F acc.toList ((List.range m).map f):=by
  have:∀ (l:List Value) (k:Nat) (g:Nat → V),l.length = k → (∀ i,i < k → ∃ v,l[i]? = some v ∧ Rep F v (g i)) → Reps F l ((List.range k).map g):=by
    intro l
    induction l with
    | nil => intro k g hk _; simp at hk; subst hk; exact .nil
    | cons a r ih =>
      intro k g hk hg
      obtain ⟨k,rfl⟩:∃ k',k = k' + 1:=⟨r.length,by simpa using hk.symm⟩
      rw [List.range_succ_eq_map]
      refine .cons ?_ ?_
      · obtain ⟨v,hv,hr⟩:=hg 0 (by omega)
        simp at hv; subst hv; exact hr
      · rw [List.map_map]
        refine ih k (g ∘ Nat.succ) (by simpa using hk) fun i hi => ?_
        obtain ⟨v,hv,hr⟩:=hg (i + 1) (by omega)
        exact ⟨v,by simpa using hv,hr⟩
  exact this acc.toList m f (by simpa using h) fun i hi => by
    obtain ⟨v,hv,hr⟩:=hf i hi
    exact ⟨v,by simpa using hv,hr⟩
theorem listP.els {us:List V} {K:V → Prop} (h:listP us K):∃ a c m,us = [.range a c m] ∧ fits m ∧ K (.list ((List.range m).map fun (i:Nat) => .int (a + (i:Int) * c))):=by
  cases us with
  | nil => exact False.elim h
  | cons u r => cases u with
    | range a c m => cases r with
      | nil => exact ⟨a,c,m,rfl,h⟩
      | cons => exact False.elim h
    | _ => exact False.elim h
theorem cb_list:CB W (.type "list") listP:=by
  intro A fx F σ s vs us K E hh I r h
  obtain ⟨a,c,m,rfl,h⟩:=h.els
  constructor
  · obtain ⟨v,rfl,rv⟩:=r.inv1
    obtain ⟨hf,hK⟩:=h
    obtain ⟨_,_,_,_,_,rfl,e,h1,h2⟩:=rv.inv
    refine call_list_range hh (I.fin _ _ e) h1 h2 (by unfold fits at hf; omega) fun h' tk acc' c' hk hS hacc => ?_
    obtain ⟨g1,g2⟩:=I.extAdd (s':={ s with heap:=h',toks:=tk }) (Ext.mk' hk) (get_size _) hS ⟨fun e => (nomatch e),fun ℓ ℓ e => (nomatch e),fun ℓ e => (nomatch e)⟩
    refine ⟨_,_,g1,g2,.list Fz.add_self rfl rfl ?_,hK⟩
    refine itemsOf_reps hacc.1 fun i hi => ?_
    have hi':i < acc'.size:=by rw [hacc.1]; exact hi
    obtain ⟨t,ht⟩:=hacc.2 i acc'[i] (Array.getElem?_eq_getElem hi')
    exact ⟨_,Array.getElem?_eq_getElem hi',by rw [ht]; exact .int _ _⟩
noncomputable def ordP (us:List V) (K:V → Prop):Prop:=match us with
  | [.str [c]] => K (.int c)
  | _ => False
theorem ordP.els {us:List V} {K:V → Prop} (h:ordP us K):∃ c,us = [.str [c]] ∧ K (.int c):=by
  cases us with
  | nil => exact False.elim h
  | cons u r => cases u with
    | str x => cases x with
      | nil => exact False.elim h
      | cons c x => cases x with
        | nil => cases r with
          | nil => exact ⟨c,rfl,h⟩
          | cons => exact False.elim h
        | cons => exact False.elim h
    | _ => exact False.elim h
theorem cb_ord:CB W (.builtin "ord") ordP:=by
  intro A fx F σ s vs us K E hh I r h
  obtain ⟨c,rfl,h⟩:=h.els
  constructor
  · obtain ⟨v,rfl,rv⟩:=r.inv1
    generalize hx:([c]:List Nat) = x at rv
    obtain ⟨y,t,rfl,rfl⟩:=rv.inv
    obtain rfl:y = ⟨#[c]⟩:=str_ext'.mp hx.symm
    exact P.ord_of_char (fin_int I h _ _)
noncomputable def chrP (us:List V) (K:V → Prop):Prop:=match us with
  | [.int i] => (0 ≤ i ∧ i ≤ 0x10FFFF) ∧ K (.str [i.toNat])
  | _ => False
theorem chrP.els {us:List V} {K:V → Prop} (h:chrP us K):∃ i,us = [.int i] ∧ (0 ≤ i ∧ i ≤ 0x10FFFF) ∧ K (.str [i.toNat]):=by
  cases us with
  | nil => exact False.elim h
  | cons u r => cases u with
    | int i => cases r with
      | nil => exact ⟨i,rfl,h⟩
      | cons => exact False.elim h
    | _ => exact False.elim h
theorem cb_chr:CB W (.builtin "chr") chrP:=by
  intro A fx F σ s vs us K E hh I r h
  obtain ⟨i,rfl,h⟩:=h.els
  constructor
  · obtain ⟨v,rfl,rv⟩:=r.inv1
    obtain ⟨_,rfl⟩:=rv.inv
    exact P.chr_of_int (by simp only [Bool.or_eq_false_iff,decide_eq_false_iff_not]; omega) (fin_str I h.2 _ _)
noncomputable def vints:List Int → List V:=List.map V.int
theorem intsAre_of {F:Fz} {vs:List Value} {ns:List Int} (h:Reps F vs (vints ns)):IntsAre vs ns:=by
  induction ns generalizing vs with
  | nil => obtain rfl:=h.inv; exact .nil
  | cons n ns ih =>
    obtain ⟨v,w,rfl,a,b⟩:=h.inv
    obtain ⟨t,rfl⟩:=a.inv
    exact .cons _ _ (ih b)
inductive bytesP (us:List V) (K:V → Prop):Prop
  | mk (ns:List Int) (e:us = [.list (vints ns)]) (f:fits ns.length) (b:∀ n ∈ ns,0 ≤ n ∧ n < 256) (k:K (.bytes (ns.map fun n => n.toNat.toUInt8)))
theorem cb_bytes:CB W (.type "bytes") bytesP:=by
  rintro A fx F σ s vs us K E hh I r ⟨ns,rfl,hf,hr,hK⟩
  obtain ⟨v,rfl,rv⟩:=r.inv1
  generalize hx:vints ns = x at rv
  obtain ⟨a,o,xs,ep,rfl,e,hc,hd,hrs⟩:=rv.inv
  subst hx
  have hi:=intsAre_of hrs
  have hlen:=hi.length
  constructor
  refine call_bytes_ints (vs:=xs.toList) (ns:=ns) ⟨o,I.fin _ _ e,hc,ep,by simpa using hd⟩ hi hr (by rw [hlen]; exact fits_size hf) hh fun h' t k hk => ?_
  exact ⟨F,_,.refl F,I.ext (Ext.mk' hk),.bytes _ _,by simpa [byteArr] using hK⟩
noncomputable def tyOf:V → Option String
  | .none => some "NoneType"
  | .bool _ => some "bool"
  | .int _ => some "int"
  | .str _ => some "str"
  | .bytes _ => some "bytes"
  | _ => none
inductive typeP (us:List V) (K:V → Prop):Prop
  | mk (u:V) (T:String) (e:us = [u]) (t:tyOf u = some T) (k:K (.ty T))
theorem cb_type:CB W (.type "type") typeP:=by
  rintro A fx F σ s vs us K E hh I r ⟨u,T,rfl,hT,hK⟩
  obtain ⟨v,rfl,rv⟩:=r.inv1
  have fin:∀ T,K (.ty T) → PV W fx F σ K (.type T) s:=fun T h => ⟨F,.ty T,.refl F,I,.ty T,h⟩
  constructor
  cases u with
  | none => obtain rfl:=rv.inv; cases hT; exact call_type_of (Tx:="NoneType") rfl (by decide) (fin _ hK)
  | bool b => obtain rfl:=rv.inv; cases hT; exact call_type_of (Tx:="bool") rfl (by decide) (fin _ hK)
  | int i => obtain ⟨_,rfl⟩:=rv.inv; cases hT; exact call_type_of (Tx:="int") rfl (by decide) (fin _ hK)
  | str x => obtain ⟨_,_,rfl,rfl⟩:=rv.inv; cases hT; exact call_type_of (Tx:="str") rfl (by decide) (fin _ hK)
  | bytes b => obtain ⟨_,_,rfl,rfl⟩:=rv.inv; cases hT; exact call_type_of (Tx:="bytes") rfl (by decide) (fin _ hK)
  | _ => cases hT
inductive sortP (us:List V) (K:V → Prop):Prop
  | mk (ys:List (List Nat)) (e:us = [.list (vstrs ys)]) (l:ys.length < 64) (k:∀ zs:List (List Nat),zs.Perm ys → sortedS (zs.map fun z => ⟨z.toArray⟩) = true → K (.list (vstrs zs)))
theorem strs_reps {F:Fz} {vs:List Value} {zs:List Str} (h:StrsAre vs zs):Reps F vs (vstrs (zs.map (·.cps.toList))):=by
  induction h with
  | nil => exact .nil
  | cons x t _ ih => exact .cons (.str x t) ih
theorem cb_sorted:CB W (.builtin "sorted") sortP:=by
  rintro A fx F σ s vs us K E hh I r ⟨ys,rfl,h64,hK⟩
  obtain ⟨v,rfl,rv⟩:=r.inv1
  generalize hx:vstrs ys = x at rv
  obtain ⟨a,o,xs,ep,rfl,e,hc,hd,hrs⟩:=rv.inv
  subst hx
  obtain ⟨zs,h1,h2⟩:=strsAre_of hrs
  have hlen:xs.toList.length = ys.length:=by rw [hrs.length]; simp [vstrs]
  constructor
  refine sorted_strs (vs:=xs.toList) (ss:=zs) ⟨o,I.fin _ _ e,hc,ep,by simpa using hd⟩ h1 (by rw [hlen]; exact h64) fun out ss' a1 a2 a3 => ?_
  obtain ⟨ep',hat⟩:=sortedAll_at s.heap xs.toList out
  have hn:s.heap.get? (s.heap.objs.size + 1) = none:=by
    cases q:s.heap.get? (s.heap.objs.size + 1) with
    | none => rfl
    | some o => exact absurd (Heap.lt_size q) (Nat.not_lt.mpr (Nat.le_succ _))
  obtain ⟨g1,g2⟩:=I.extAdd (s':={ s with heap:=sortedAll s.heap xs.toList out }) (Ext.mk' (tk:=s.toks) fun b ob e => sortedAll_old e) hn hat ⟨fun e => (nomatch e),fun ℓ ℓ e => (nomatch e),fun ℓ e => (nomatch e)⟩
  refine ⟨_,_,g1,g2,.list Fz.add_self rfl rfl (strs_reps a1),?_⟩
  refine hK _ ?_ ?_
  · rw [← h2]; exact a2.map _
  · rw [List.map_map]
    have:(ss'.map ((fun z => (⟨z.toArray⟩:Str)) ∘ fun x => x.cps.toList)) = ss':=by
      conv => rhs; rw [← List.map_id ss']
      exact List.map_congr_left fun x ℓ => by simp
    rw [this]; exact a3
end
end Mine
end
noncomputable section
open PySem PySem.W PyProof.Rows PySem.Spec PySem.Calls
set_option Elab.async false
set_option maxRecDepth 100000
set_option linter.unusedVariables false
namespace Mine
structure FnAt (W:Wd) (a:Addr) (fd:FuncData) (body:List Stmt):Prop where
  obj:∃ o,W.base.get? a = some o ∧ o.data = .func fd
  body:fd.body = .stmts body
  clo:fd.closure = []
  glob:fd.globals = mainGlobals
  blt:fd.builtins = builtinsNs
  code:W.base.CodeRec fd.code fd.qualname
  kind:fd.scope.kind = .function
  co:fd.scope.isCoroutine = false
  gen:fd.scope.isGenerator = false
theorem cellsFrom_keep:∀ (names:List (Str × NameKind)) (k:Nat) (acc:List (Str × Addr)) (p:Str × Addr),p ∈ acc → p ∈ cellsFrom k names acc
  | [],_,_,_,h => h
  | (x,kd) :: r,k,acc,p,h => by
    unfold cellsFrom
    split
    · exact cellsFrom_keep r _ _ p (List.mem_cons_of_mem _ h)
    · exact cellsFrom_keep r _ _ p h
theorem cellsFrom_has:∀ (names:List (Str × NameKind)) (k:Nat) (acc:List (Str × Addr)) (x:Str),(x,.cell) ∈ names → ∃ c,(x,c) ∈ cellsFrom k names acc
  | (y,kd) :: r,k,acc,x,h => by
    unfold cellsFrom
    rcases List.mem_cons.mp h with e | h
    · cases e
      simp only [beq_self_eq_true,if_true]
      exact ⟨k,cellsFrom_keep r _ _ _ List.mem_cons_self⟩
    · split
      · exact cellsFrom_has r _ _ x h
      · exact cellsFrom_has r _ _ x h
theorem lookup_of_mem {α:Type}:∀ {l:List (Str × α)} {x:Str} {c:α},(x,c) ∈ l → ∃ c',l.lookup x = some c'
  | (y,d) :: r,x,c,h => by
    rw [List.lookup_cons]
    cases hb:x == y with
    | true => exact ⟨d,rfl⟩
    | false =>
      rcases List.mem_cons.mp h with e | h
      · cases e; simp at hb
      · exact lookup_of_mem h
theorem cell_lookup {names:List (Str × NameKind)} {k:Nat} {x:Str} (h:names.lookup x = some .cell):∃ c,(cellsFrom k names []).lookup x = some c:=by
  obtain ⟨c,hc⟩:=cellsFrom_has names k [] x (mem_of_lookup h)
  exact lookup_of_mem hc
theorem bindL_out {kind:Str → Option NameKind}:∀ (l:List (Str × Value)) (m:Str → Option Value) (x:Str),x ∉ l.map (·.1) → bindL kind l m x = m x
  | [],_,_,_ => rfl
  | (y,v) :: r,m,x,h => by
    simp only [List.map_cons,List.mem_cons,not_or] at h
    unfold bindL
    rw [bindL_out r _ x h.2]
    split
    · simp [h.1]
    · rfl
theorem bindL_in {kind:Str → Option NameKind}:∀ (l:List (Str × Value)) (m:Str → Option Value) (x:Str) (v:Value),(l.map (·.1)).Nodup → (x,v) ∈ l → kind x = some .local → bindL kind l m x = some v
  | (y,w) :: r,m,x,v,hn,h,hk => by
    simp only [List.map_cons,List.nodup_cons] at hn
    unfold bindL
    rcases List.mem_cons.mp h with e | h
    · cases e
      rw [bindL_out r _ _ hn.1,if_pos hk]
      simp
    · exact bindL_in r _ x v hn.2 h hk
theorem bindC_out {kind:Str → Option NameKind}:∀ (l:List (Str × Value)) (m:Str → Option Value) (x:Str),x ∉ l.map (·.1) → bindC kind l m x = m x
  | [],_,_,_ => rfl
  | (y,v) :: r,m,x,h => by
    simp only [List.map_cons,List.mem_cons,not_or] at h
    unfold bindC
    rw [bindC_out r _ x h.2]
    split
    · rfl
    · simp [h.1]
theorem bindC_in {kind:Str → Option NameKind} (l:List (Str × Value)) (m:Str → Option Value) (x:Str) (v:Value) (hn:(l.map (·.1)).Nodup) (h:(x,v) ∈ l) (hk:kind x ≠ some .local):bindC kind l m x = some v:=by
  induction l generalizing m with
  | nil => cases h
  | cons p r ih =>
    obtain ⟨y,w⟩:=p
    obtain ⟨hn1,hn2⟩:=List.nodup_cons.mp hn
    unfold bindC
    rcases List.mem_cons.mp h with e | h
    · cases e
      rw [bindC_out r _ _ hn1,if_neg hk]
      simp
    · exact ih _ hn2 h
noncomputable def bindsOf (xs:List String) (vs:List Value):List (Str × Value):=(xs.map nm).zip vs
noncomputable def stoOf (xs:List String) (us:List V):Sto:=xs.zip (us.map Slot.val)
theorem stoOf_get {F:Fz} {xs:List String} {vs:List Value} {us:List V} {x:String} {sl:Slot} (hl:xs.length = us.length) (hr:Reps F vs us) (h:get (stoOf xs us) x = some sl):∃ u v,sl = .val u ∧ Rep F v u ∧ (nm x,v) ∈ bindsOf xs vs ∧ x ∈ xs:=by
  induction xs generalizing vs us with
  | nil => cases us <;> cases h
  | cons y ys ih =>
    cases us with
    | nil => cases hl
    | cons u us =>
      obtain ⟨v,w,rfl,a,b⟩:=hr.inv
      replace h:(if y = x then some (Slot.val u) else get (stoOf ys us) x) = some sl:=h
      by_cases q:y = x
      · rw [if_pos q] at h
        cases h
        subst q
        exact ⟨u,v,rfl,a,List.mem_cons_self,List.mem_cons_self⟩
      · rw [if_neg q] at h
        obtain ⟨u',v',e,r,hm,hx⟩:=ih (Nat.succ.inj hl) b h
        exact ⟨u',v',e,r,List.mem_cons_of_mem _ hm,List.mem_cons_of_mem _ hx⟩
theorem bindsOf_names:∀ (xs:List String) (vs:List Value),∀ p ∈ bindsOf xs vs,∃ x ∈ xs,p.1 = nm x
  | [],_,p,h => by simp [bindsOf] at h
  | x :: xs,[],p,h => by simp [bindsOf] at h
  | x :: xs,v :: vs,p,h => by
    rcases List.mem_cons.mp h with e | h
    · subst e; exact ⟨x,List.mem_cons_self,rfl⟩
    · obtain ⟨y,hy,e⟩:=bindsOf_names xs vs p h
      exact ⟨y,List.mem_cons_of_mem _ hy,e⟩
theorem bindsOf_nodup:∀ (xs:List String) (vs:List Value),xs.Nodup → ((bindsOf xs vs).map (·.1)).Nodup
  | [],_,_ => by simp [bindsOf]
  | x :: xs,[],_ => by simp [bindsOf]
  | x :: xs,v :: vs,h => by
    rw [List.nodup_cons] at h
    show (nm x :: (bindsOf xs vs).map (·.1)).Nodup
    rw [List.nodup_cons]
    refine ⟨fun hm => ?_,bindsOf_nodup xs vs h.2⟩
    obtain ⟨p,hp,e⟩:=List.mem_map.mp hm
    obtain ⟨y,hy,e'⟩:=bindsOf_names xs vs p hp
    rw [e'] at e
    exact h.1 (nm_inj e ▸ hy)
section
variable {W:Wd} {fx:Fx} {F G:Fz} {σ:Sto} {s s':Shared}
theorem Inv.base_P (I:Inv W fx F σ s):W.base.get? W.P = none:=by
  cases q:W.base.get? W.P with
  | none => rfl
  | some o => have:=I.ok.baseB _ _ q; rw [I.ok.BP] at this; cases this
noncomputable def Fx.callee (W:Wd) (fx:Fx) (env:Env) (h:Heap) (F:Fz):Fx where
  A:=fx.A.deeper env
  fr:=env :: fx.fr
  env:=env
  B:=fun b => if b = W.P then none else h.get? b
  F₀:=F
  w:=true
theorem calleeB_of {env:Env} {h:Heap} {b:Addr} {o:Obj} (hp:b ≠ W.P) (e:h.get? b = some o):(fx.callee W env h F).B b = some o:=by
  show (if b = W.P then none else h.get? b) = some o
  rw [if_neg hp]; exact e
theorem of_calleeB {env:Env} {h:Heap} {b:Addr} {o:Obj} (e:(fx.callee W env h F).B b = some o):b ≠ W.P ∧ h.get? b = some o:=by
  have e':(if b = W.P then none else h.get? b) = some o:=e
  by_cases q:b = W.P
  · rw [if_pos q] at e'; cases e'
  · rw [if_neg q] at e'; exact ⟨q,e'⟩
theorem calleeB_none {env:Env} {h:Heap} {b:Addr} (e:h.get? b = none):(fx.callee W env h F).B b = none:=by
  show (if b = W.P then none else h.get? b) = none
  split
  · rfl
  · exact e
theorem Inv.enter (I:Inv W fx F σ s) {fd:FuncData} {a:Addr} {xs:List String} {vs:List Value} {us:List V} {s₁:Shared} (hkind:fd.scope.kind = .function) (hg:fd.globals = mainGlobals) (hb:fd.builtins = builtinsNs)
    (hl:xs.length = us.length) (hr:Reps F vs us) (hnd:xs.Nodup) (hk:∀ x ∈ xs,storable fd.scope x = true)
    (x:InCallC s (callEnvC fd s.heap.objs.size a).locals (bindL (callEnvC fd s.heap.objs.size a).kindOf (bindsOf xs vs) fun ℓ => none) (callEnvC fd s.heap.objs.size a).cells
        (bindC (callEnvC fd s.heap.objs.size a).kindOf (bindsOf xs vs) fun ℓ => none) s₁) :
    Inv W (fx.callee W (callEnvC fd s.heap.objs.size a) s.heap F) F (stoOf xs us) s₁:=by
  have hL:s.heap.get? s.heap.objs.size = none:=get_size _
  have hLP:s.heap.objs.size ≠ W.P:=by
    intro e
    obtain ⟨ps,hP,_⟩:=I.tab
    rw [← e,hL] at hP; cases hP
  have hcell:∀ n c,(callEnvC fd s.heap.objs.size a).cells.lookup n = some c → s.heap.get? c = none:=fun n c hc => by
    cases q:s.heap.get? c with
    | none => rfl
    | some o => exact absurd (Heap.lt_size q) (Nat.not_lt.mpr (Nat.le_of_lt (x.above n c (mem_of_lookup hc))))
  have hk':=x.toInCall.keep
  obtain ⟨h₁,tk,e₁⟩:=x.toInCall.same
  refine { ok:=?_,win:=?_,tab:=?_,fin:=?_,fok:=I.fok,f0:=Fz.le.refl F,fnew:=fun a o e => .inl e,keep:=?_,ns:=⟨_,x.toInCall.ns⟩,cells:=?_,vars:=?_,apart:=?_ }
  · refine { frames:=?_,handled:=I.ok.handled,kind:=hkind,glob:=hg,blt:=hb,baseB:=?_,BP:=?_,BL:=fun ℓ => calleeB_none hL,frs:=?_,cellE:=?_,cellI:=?_,top:=fun ℓ => ⟨fx.fr,rfl,rfl⟩ }
    · show fx.A.frames.map _ = _
      rw [I.ok.frames]; rfl
    · exact fun b o e => calleeB_of (fun q => by rw [q,I.base_P] at e; cases e) (I.win.stays b o e)
    · show (if W.P = W.P then none else _) = none
      rw [if_pos rfl]
    · intro e he
      rcases List.mem_cons.mp he with rfl | he
      · refine ⟨by rw [show (callEnvC fd s.heap.objs.size a).scope = fd.scope from rfl,hkind]; decide,s.heap.objs.size,rfl,?_,.inl rfl⟩
        cases q:W.base.get? s.heap.objs.size with
        | none => rfl
        | some o => have:=I.win.stays _ _ q; rw [hL] at this; cases this
      · obtain ⟨h1,L,h2,h3,_⟩:=I.ok.frs e he
        obtain ⟨_,o,es,n,h4,h5⟩:=I.frs_dict (List.mem_filterMap.mpr ⟨e,he,h2⟩)
        refine ⟨h1,L,h2,h3,.inr ⟨o,es,n,calleeB_of ?_ h4,h5⟩⟩
        rintro rfl
        obtain ⟨ps,hP,_⟩:=I.tab
        rw [hP] at h4; cases h4
        cases h5
    · intro _ y hy
      obtain ⟨c,hc⟩:=cell_lookup (names:=fd.scope.names) (k:=s.heap.objs.size + 1) hy
      exact ⟨c,hc,calleeB_none (hcell _ _ hc)⟩
    · exact fun ℓ y z c ℓ h1 h2 => name_of_addr x.apart (mem_of_lookup h1) (mem_of_lookup h2)
  · refine ⟨fun b o e => hk' b o (I.win.stays b o e),?_,?_⟩
    · rw [e₁]; exact I.win.gens
    · rw [e₁]; exact I.win.os
  · exact I.tab.keeps (Fz.le.refl F) fun o e => hk' _ o e
  · exact fun b o e => hk' b o (I.fin b o e)
  · intro b o e
    obtain ⟨_,e'⟩:=of_calleeB e
    exact ⟨fun ℓ => hk' b o e',o.slots,hk' b o e'⟩
  · exact fun y c ℓ hc => ⟨_,x.cell y c hc⟩
  · intro y sl e
    obtain ⟨u,v,rfl,r,hm,hx⟩:=stoOf_get hl hr e
    refine ⟨v,?_,r⟩
    have hs:=hk y hx
    simp only [storable,Bool.or_eq_true,beq_iff_eq] at hs
    have hn:=bindsOf_nodup xs vs hnd
    rcases hs with hs | hs
    · exact .inl ⟨hs,_,x.toInCall.ns,bindL_in _ _ _ _ hn hm hs⟩
    · obtain ⟨c,hc⟩:=cell_lookup (names:=fd.scope.names) (k:=s.heap.objs.size + 1) hs
      have hne:(callEnvC fd s.heap.objs.size a).kindOf (nm y) ≠ some .local:=by
        show fd.scope.names.lookup (nm y) ≠ some .local
        rw [hs]; exact fun e => (nomatch e)
      exact .inr ⟨.inl hs,c,hc,by have:=x.cell (nm y) c hc; rwa [bindC_in _ _ _ _ hn hm hne] at this⟩
  · intro y z p q l k hyz hy
    obtain ⟨u,v,e,_⟩:=stoOf_get hl hr hy
    cases e
theorem Inv.leave (I:Inv W fx F σ s) {env:Env} {τ:Sto} (hL:s.heap.get? env.locals = none) (hf:env.frame = some env.locals) (J:Inv W (fx.callee W env s.heap F) G τ s'):Inv W fx G σ s':=by
  refine I.step J.f0 (fun b o hp e => ?_) J.win J.tab J.fin J.fok fun a o e => ?_
  · obtain ⟨h1,h2⟩:=J.keep b o (calleeB_of hp e)
    refine ⟨fun hn => h1 fun hm => ?_,h2⟩
    have:frs (env :: fx.fr) = env.locals :: frs fx.fr:=by
      show (env :: fx.fr).filterMap (·.frame) = _
      rw [List.filterMap_cons,hf]; rfl
    rw [show frs (fx.callee W env s.heap F).fr = frs (env :: fx.fr) from rfl,this] at hm
    rcases List.mem_cons.mp hm with rfl | hm
    · rw [hL] at e; cases e
    · exact hn hm
  · rcases J.fnew a o e with q | q
    · exact .inl q
    · by_cases hp:a = W.P
      · rw [hp,J.FP] at e; cases e
      · right
        have q':(if a = W.P then none else s.heap.get? a) = none:=q
        rw [if_neg hp] at q'; exact q'
theorem UpToSlots.frame {h h':Heap} (x:h.UpToSlots h') {b:Addr} {o:Obj} {es n} (e:h.get? b = some o) (hd:o.data = .dict es n):∃ sl,h'.get? b = some { o with slots:=sl } :=
  x b o e fun vs q => by rw [hd] at q; cases q
theorem Raised.leave (I:Inv W fx F σ s) {env:Env} {c e:Value} (hL:s.heap.get? env.locals = none) (hf:env.frame = some env.locals) (R:Raised W (fx.callee W env s.heap F) c e s')
    {E:Value → Shared → Prop} {Q:Unit → Shared → Prop} (hQ:∀ s'',Raised W fx c e s'' → Q () s''):wpAny W.M (fx.A.deeper env) (leaving env e) Q E s':=by
  obtain ⟨ok,⟨x,Bx,F',rfl,hst,hB,hair,hF,hFin,hFok,hFn,hT⟩,hsl,hg,hos,hns,hc⟩:=R
  have hfrs:frs (fx.callee W env s.heap F).fr = env.locals :: frs fx.fr:=by
    show (env :: fx.fr).filterMap (·.frame) = _
    rw [List.filterMap_cons,hf]; rfl
  have key:∀ h' a0,Heap.FlyingW Bx fx.fr x c a0 h' → s'.heap.UpToSlots h' → Raised W fx c (.ref x) { s' with heap:=h' }:=fun h' a0 hfl hsm => by
    have hBx:∀ b o,fx.B b = some o → b ∉ frs fx.fr → Bx.get? b = some o:=fun b o e hn => by
      have hp:b ≠ W.P:=fun q => by rw [q,I.ok.BP] at e; cases e
      have e':=(I.keep b o e).1 hn
      refine hB b o (calleeB_of hp e') ?_
      rw [hfrs]
      intro hm
      rcases List.mem_cons.mp hm with q | hm
      · rw [q,hL] at e'; cases e'
      · exact hn hm
    have dct:∀ b,(∃ o es n,s.heap.get? b = some o ∧ o.data = .dict es n) ∨ (∃ o v,s.heap.get? b = some o ∧ o.data = .cell v) → b ≠ W.P:=fun b hb q => by
      obtain ⟨ps,hP,_⟩:=I.tab
      rcases hb with ⟨o,es,n,h1,h2⟩ | ⟨o,v,h1,h2⟩ <;> (rw [q,hP] at h1; cases h1; cases h2)
    refine ⟨I.ok,⟨x,Bx,F',rfl,hst,hBx,.inl ⟨a0,hfl⟩,I.f0.trans hF,hFin,hFok,fun b o e => ?_,hT⟩,fun b o e => ?_,hg,hos,?_,fun y cc hy hcc => ?_⟩
    · rcases hFn b o e with q | q
      · exact I.fnew b o q
      · by_cases hp:b = W.P
        · obtain ⟨ps,hP,_⟩:=hT
          have e1:=hFin b o e
          rw [hp,hP] at e1; cases e1
          exact absurd rfl (hFok b _ e).1
        · have q':(if b = W.P then none else s.heap.get? b) = none:=q
          rw [if_neg hp] at q'
          exact .inr (I.fresh_B q')
    · by_cases hm:b ∈ frs fx.fr
      · obtain ⟨sl,e1⟩:=(I.keep b o e).2
        have hp:b ≠ W.P:=fun q => by rw [q,I.ok.BP] at e; cases e
        obtain ⟨sl',e2⟩:=hsl b _ (calleeB_of hp e1)
        obtain ⟨_,o',es,n,h1,h2⟩:=I.frs_dict hm
        rw [e1] at h1; cases h1
        obtain ⟨sl'',e3⟩:=UpToSlots.frame hsm e2 (es:=es) (n:=n) h2
        exact ⟨sl'',e3⟩
      · exact ⟨o.slots,hfl.1 b o (hBx b o e hm)⟩
    · obtain ⟨m,o,es,ep,h1,h2,h3⟩:=I.ns
      obtain ⟨sl',e2⟩:=hsl _ _ (calleeB_of (fx:=fx) (F:=F) (env:=env) (dct _ (.inl ⟨o,es,ep,h1,h2⟩)) h1)
      exact ⟨m,hsm.ns ⟨_,es,ep,e2,h2,h3⟩⟩
    · obtain ⟨v,o,h1,h2⟩:=I.cells y cc hy hcc
      obtain ⟨sl',e2⟩:=hsl _ _ (calleeB_of (fx:=fx) (F:=F) (env:=env) (dct _ (.inr ⟨o,v,h1,h2⟩)) h1)
      obtain ⟨sl'',e3⟩:=hsm _ _ e2 fun vs q => by rw [show ({ o with slots:=sl' }:Obj).data = o.data from rfl,h2] at q; cases q
      exact ⟨v,_,e3,h2⟩
  have hfr:(fx.A.deeper env).frames = some (env :: fx.fr):=by
    show fx.A.frames.map _ = _
    rw [I.ok.frames]; rfl
  rcases hair with ⟨a0,hfl⟩ | ⟨oe,vs,a0,g1,g2,g3,g4,g5,g6,g7,g8⟩ | ⟨a0,env',outer,L,hfe,hfL,hh⟩
  · exact wpAny_leaves_onW hfr hf hfl fun h' k1 k2 => hQ _ (key h' a0 k1 k2)
  · unfold leaving
    refine wpAny_bind (note_first hfr g8 hf g1 g6 g7 g3 g4 g5 fun h' hL => ?_)
    obtain ⟨k1,⟨_,_,k2⟩,k3,k4⟩:=hL
    rw [g2] at k3
    exact hQ _ (key h' a0 ⟨k1,g7,k2,k3⟩ k4)
  · have hfe':env :: fx.fr = env' :: outer:=hfe
    injection hfe' with e1 e2
    subst e1
    rw [hf] at hfL
    cases hfL
    unfold leaving
    refine wpAny_bind (wpAny_noteFrame_againW hf hh.2.2.2 ?_)
    refine wpAny_landsW hh fun h' hfl hsm => ?_
    obtain ⟨k1,k2,⟨_,_,k3⟩,k4⟩:=hfl
    exact hQ _ (key h' a0 ⟨k1,k2,k3,k4⟩ hsm)
theorem call_fn {a:Addr} {fd:FuncData} {body:List Stmt} {n:Nat} {t:TS} (WL:W.base.NoLimit) (FA:FnAt W a fd body) (hb:SL W fd.scope n body t)
    {vals:List Value} {kw:List (Str × Value)} {xs:List String} {vs:List Value} {us:List V} {K:V → Prop} {X:Value → Prop} {E:Value → Shared → Prop}
    (hrm:Room fx.A (n + 1)) (I:Inv W fx F σ s) (hbind:BindsTo s fd ⟨vals,kw⟩ (bindsOf xs vs)) (hl:xs.length = us.length) (hr:Reps F vs us) (hnd:xs.Nodup) (hk:∀ x ∈ xs,storable fd.scope x = true)
    (h:t { next:=fun ℓ => K .none,ret:=K,brk:=fun ℓ => K .none,cont:=fun ℓ => K .none,exc:=X } (stoOf xs us)) (hE:∀ c e s',X c → Raised W fx c e s' → E e s') :
    Wp W fx.A (call (.ref a) vals kw) (PV W fx F σ K) E s:=by
  obtain ⟨o,ho,hd⟩:=FA.obj
  obtain ⟨hr1,hr2⟩:=hrm
  constructor
  refine wpAny_call ?_
  refine codeAny_call_function (rm0 hr1) (I.win.stays _ _ ho) hd FA.co FA.gen FA.body (FA.code.keeps I.win.stays) (hbind _ _ _ _ ?_)
  rw [FA.clo]
  have hkd:∀ p ∈ bindsOf xs vs,fd.scope.names.lookup p.1 = some .local ∨ (fd.scope.names.lookup p.1 = some .cell ∧ ((cellsFrom (s.heap.objs.size + 1) fd.scope.names []).lookup p.1).isSome = true):=fun p hp => by
    obtain ⟨x,hx,e⟩:=bindsOf_names xs vs p hp
    have hs:=hk x hx
    simp only [storable,Bool.or_eq_true,beq_iff_eq] at hs
    rw [e]
    refine hs.imp id fun q => ⟨q,?_⟩
    obtain ⟨c,hc⟩:=cell_lookup (k:=s.heap.objs.size + 1) q
    rw [hc]; rfl
  refine wpAny_newFunctionEnv_cells FA.kind hkd fun env he s₁ x => ?_
  have he':env = callEnvC fd s.heap.objs.size a:=he
  subst he'
  have J:=I.enter FA.kind FA.glob FA.blt hl hr hnd hk x
  have hL:s.heap.get? (callEnvC fd s.heap.objs.size a).locals = none:=get_size _
  refine ⟨(WL.keeps I.win.stays).keeps x.toInCall.keep,codeAny_func ?_⟩
  refine wpAny_mono (hb (fx.callee W (callEnvC fd s.heap.objs.size a) s.heap F) F _ s₁ _
    (fun e s' => wpAny W.M (fx.A.deeper (callEnvC fd s.heap.objs.size a)) (leaving (callEnvC fd s.heap.objs.size a) e) (fun ℓ s'' => E e s'') (fun e' s'' => E e' s'') s')
    rfl rfl ⟨rm1 hr1,rm2 hr2⟩ J h fun c e s' hX R => ?_).out (fun f s' hf => ?_) fun ℓ ℓ h' => h'
  · exact R.leave I hL rfl fun s'' R' => hE c e s'' hX R'
  · obtain ⟨G,τ,hG,J',hf⟩:=hf
    have I':=I.leave hL rfl J'
    cases f with
    | next => exact ⟨G,.none,hG,I',.none,hf⟩
    | brk => exact ⟨G,.none,hG,I',.none,hf⟩
    | cont => exact ⟨G,.none,hG,I',.none,hf⟩
    | ret v => obtain ⟨u,r,hK⟩:=hf; exact ⟨G,u,hG,I',r,hK⟩
end
end Mine
end
noncomputable section
open PySem PySem.W PyProof.Rows PySem.Spec PySem.Calls
set_option Elab.async false
set_option maxRecDepth 100000
set_option linter.unusedVariables false
namespace Mine
section
variable {W:Wd} {sc:Scope} {n:Nat} {pos pos':Pos} {k:Nat}
theorem wp_Call_Name {A:Around} {env:Env} {s:Shared} {E:Value → Shared → Prop} {x:Str} {p:Pos} {args:List PySem.Expr} {Q:Value → Shared → Prop}
    (h:Wp W A (eval (.Name x p) env) (fun f s₁ => Wp W A (callWith pos f [] (backTo pos (starEach args env)) []) Q E s₁) E s):Wp W A (eval (.Call (.Name x p) args [] pos) env) Q E s :=
  ⟨wpAny_Call_Name_kw (keywords:=[]) (wpAny_mono h.out (fun ℓ ℓ x => x.out) fun ℓ ℓ x => x)⟩
noncomputable def plainArgs (e:PySem.Expr) (r:List PySem.Expr):Prop:=∀ env pos,starEach (e :: r) env = (false,eval e env) :: starEach r env ∧ (backTo pos (starEach r env)).any (·.1) = false
theorem se_call_b {x:Str} {id:String} {P:List V → (V → Prop) → Prop} {e:PySem.Expr} {r:List PySem.Expr} {p:Pos} {t:TG} (cb:CB W (.builtin id) P) (g:BltV W x (.builtin id)) (ha:SG W sc n (e :: r) t)
    (hk:sc.names.lookup x = some .globalImplicit:=by decide +kernel) (hd:(x == ("__debug__":Str)) = false:=by decide) (hp:plainArgs e r:=by intro _ _; exact ⟨rfl,rfl⟩) :
    SE W sc n (.Call (.Name x p) (e :: r) [] pos) (fun Q X => t (fun us σ₁ => P us fun u => Q u σ₁) X) :=
  fun fx F σ s Q X E hsc hrm I h hE => by
    refine wp_Call_Name (blt_sound I g (by subst hsc; exact hk) hd ⟨?_⟩)
    refine PyProof.Rows.callWith_builtin1 (wpAny_mono (ha fx F σ s _ X E pos hsc hrm I h hE).out (fun vs s₁ h₁ => ?_) fun ℓ ℓ x => x) (hp _ pos).1 (hp _ pos).2
    obtain ⟨F₁,σ₁,us,h01,I₁,r,h₁⟩:=h₁
    refine ((cb fx.A fx F₁ σ₁ s₁ vs us _ E I.ok.handled I₁ r h₁).imp fun v s₂ h₂ => ?_).out
    obtain ⟨F₂,u,h12,I₂,ru,h₂⟩:=h₂
    exact ⟨F₂,σ₁,u,h01.trans h12,I₂,ru,h₂⟩
theorem se_call_t {x:Str} {id:String} {P:List V → (V → Prop) → Prop} {e:PySem.Expr} {r:List PySem.Expr} {p:Pos} {t:TG} (cb:CB W (.type id) P) (g:BltV W x (.type id)) (ha:SG W sc n (e :: r) t)
    (hk:sc.names.lookup x = some .globalImplicit:=by decide +kernel) (hd:(x == ("__debug__":Str)) = false:=by decide) (hp:plainArgs e r:=by intro _ _; exact ⟨rfl,rfl⟩) :
    SE W sc n (.Call (.Name x p) (e :: r) [] pos) (fun Q X => t (fun us σ₁ => P us fun u => Q u σ₁) X) :=
  fun fx F σ s Q X E hsc hrm I h hE => by
    refine wp_Call_Name (blt_sound I g (by subst hsc; exact hk) hd ⟨?_⟩)
    refine PyProof.Rows.callWith_type1 (wpAny_mono (ha fx F σ s _ X E pos hsc hrm I h hE).out (fun vs s₁ h₁ => ?_) fun ℓ ℓ x => x) (hp _ pos).1 (hp _ pos).2
    obtain ⟨F₁,σ₁,us,h01,I₁,r,h₁⟩:=h₁
    refine ((cb fx.A fx F₁ σ₁ s₁ vs us _ E I.ok.handled I₁ r h₁).imp fun v s₂ h₂ => ?_).out
    obtain ⟨F₂,u,h12,I₂,ru,h₂⟩:=h₂
    exact ⟨F₂,σ₁,u,h01.trans h12,I₂,ru,h₂⟩
noncomputable def SF (W:Wd) (n:Nat) (a:Addr) (kw:List Str) (P:List V → (V → Prop) → (Value → Prop) → Prop):Prop :=
  ∀ (fx:Fx) (F:Fz) (σ:Sto) (s:Shared) (vs:List Value) (us:List V) (K:V → Prop) (X:Value → Prop) (E:Value → Shared → Prop),Room fx.A n → Inv W fx F σ s → Reps F vs us → kw.length ≤ vs.length → P us K X →
    (∀ c e s',X c → Raised W fx c e s' → E e s') → Wp W fx.A (call (.ref a) (vs.take (vs.length - kw.length)) (kw.zip (vs.drop (vs.length - kw.length)))) (PV W fx F σ K) E s
noncomputable def retPost (K:V → Prop) (X:Value → Prop):Post:={ next:=fun ℓ => K .none,ret:=K,brk:=fun ℓ => K .none,cont:=fun ℓ => K .none,exc:=X }
theorem sf_pos {a:Addr} {fd:FuncData} {body:List Stmt} {xs:List String} {t:TS} (WL:W.base.NoLimit) (FA:FnAt W a fd body) (hb:SL W fd.scope n body t)
    (hbind:∀ s vs,W.base.StaysIn s.heap → vs.length = xs.length → BindsTo s fd ⟨vs,[]⟩ (bindsOf xs vs)) (hnd:xs.Nodup) (hk:∀ x ∈ xs,storable fd.scope x = true) :
    SF W (n + 1) a [] (fun us K X => us.length = xs.length ∧ t (retPost K X) (stoOf xs us)) :=
  fun fx F σ s vs us K X E hrm I hr _ ⟨hl,h⟩ hE => by
    have hlv:=hr.length
    simp only [List.length_nil,Nat.sub_zero,List.take_length,List.drop_length,List.zip_nil_left]
    exact call_fn WL FA hb hrm I (hbind s vs I.win.stays (by rw [hlv,hl])) hl.symm hr hnd hk h hE
theorem se_call_f {x:Str} {a:Addr} {P:List V → (V → Prop) → (Value → Prop) → Prop} {e:PySem.Expr} {r:List PySem.Expr} {p:Pos} {t:TG} (sf:SF W n a [] P) (g:GlobV W x (.ref a)) (hfn:∃ o fd,W.base.get? a = some o ∧ o.data = .func fd) (ha:SG W sc n (e :: r) t)
    (hk:sc.names.lookup x = some .globalImplicit:=by decide +kernel) (hd:(x == ("__debug__":Str)) = false:=by decide) (hp:plainArgs e r:=by intro _ _; exact ⟨rfl,rfl⟩) :
    SE W sc n (.Call (.Name x p) (e :: r) [] pos) (fun Q X => t (fun us σ₁ => P us (fun u => Q u σ₁) X) X) :=
  fun fx F σ s Q X E hsc hrm I h hE => by
    obtain ⟨o,fd,ho,hd'⟩:=hfn
    refine wp_Call_Name (glob_sound I g (by subst hsc; exact hk) hd ⟨?_⟩)
    refine Calls.callWith_function (o:=o) (fd:=fd) ?_
    rw [(hp _ pos).1]
    refine Calls.evalArgs_plain (x:=eval e fx.env) (rest:=backTo pos (starEach r fx.env)) ?_
    have hsg:=(ha fx F σ s _ X E pos hsc hrm I h hE).out
    rw [(hp _ pos).1] at hsg
    refine wpAny_mono hsg (fun vs s₁ h₁ => ?_) fun ℓ ℓ x => x
    obtain ⟨F₁,σ₁,us,h01,I₁,r,h₁⟩:=h₁
    refine ⟨⟨I₁.win.stays _ _ ho,hd'⟩,?_⟩
    have:=sf fx F₁ σ₁ s₁ vs us _ X E hrm I₁ r (Nat.zero_le _) h₁ hE
    simp only [List.length_nil,Nat.sub_zero,List.take_length,List.drop_length,List.zip_nil_left] at this
    refine (this.imp fun v s₂ h₂ => ?_).out
    obtain ⟨F₂,u,h12,I₂,ru,h₂⟩:=h₂
    exact ⟨F₂,σ₁,u,h01.trans h12,I₂,ru,h₂⟩
noncomputable def tLen (x:String):TE:=fun Q X σ => match get σ x with
  | some (.own l) => fits l.length ∧ Q (.int l.length) σ
  | _ => tName x (fun u σ₁ => lenP [u] fun u => Q u σ₁) X σ
theorem se_len (x:String) {p p':Pos} (g:BltV W (nm "len") (.builtin "len")) (hk:sc.names.lookup (nm "len") = some .globalImplicit:=by decide +kernel)
    (hd:(nm x == ("__debug__":Str)) = false:=by decide) (hn:(nm x == ("__classdict__":Str)) = false:=by decide) :
    SE W sc n (.Call (.Name (Str.ofString "len") p) [.Name (Str.ofString x) p'] [] pos) (tLen x) :=
  fun fx F σ s Q X E hsc hrm I h hE => by
    have plain:tName x (fun u σ₁ => lenP [u] fun u => Q u σ₁) X σ → Wp W fx.A (eval (.Call (.Name (Str.ofString "len") p) [.Name (Str.ofString x) p'] [] pos) fx.env) (PE W fx F Q) E s:=fun h =>
      se_call_b cb_len g (sg_cons (se_name x hd hn) sg_nil) hk (by decide) (by intro _ _; exact ⟨rfl,rfl⟩) fx F σ s Q X E hsc hrm I h hE
    cases e:get σ x with
    | none => exact plain (by unfold tLen at h; rw [e] at h; exact h)
    | some slot =>
      cases slot with
      | own l =>
        have h:fits l.length ∧ Q (.int l.length) σ:=by unfold tLen at h; rw [e] at h; exact h
        obtain ⟨hf,hQ⟩:=h
        obtain ⟨v,hv,a,rfl,⟨⟨o,xs,ep,ho,hc,hd',hr,_⟩,_,_⟩⟩:=I.vars x _ e
        refine wp_Call_Name (blt_sound I g (by subst hsc; exact hk) (by decide) ⟨?_⟩)
        refine PyProof.Rows.callWith_builtin1 (wpAny_items_cons (wpAny_Name (load_of I hv hn ?_).out hd) rfl) rfl rfl
        have hlen:xs.size = l.length:=by simpa using hr.length
        refine wpAny_items_nil ?_
        unfold fits at hf
        refine call_len_list (items:=xs) ⟨o,ho,hc,ep,hd'⟩ (by omega) ?_
        rw [hlen]
        exact ⟨F,σ,.int l.length,.refl F,I.ext (.tok s _),.int _ _,hQ⟩
      | _ => exact plain (by unfold tLen at h; rw [e] at h; exact h)
noncomputable def tAppend (x:String) (te:TE):TS:=fun P σ => match get σ x with
  | some (.own l) => ∀ a,te (fun u σ₂ => get σ₂ x = some (.val (.ref a)) ∧ hasApp σ₂ x = false ∧ fits l.length ∧ P.next (put σ₂ x (.own (l ++ [u])))) (fun ℓ => False) (put σ x (.val (.ref a)))
  | _ => False
theorem ss_append (x:String) {e:PySem.Expr} {te:TE} {p ap:Pos} (he:SE W sc n e te) (hline:(ap.endLine == pos.line) = true:=by decide)
    (hbase:∀ env,attributeBase (.Name (nm x) p) "append" env (eval (.Name (nm x) p) env) = eval (.Name (nm x) p) env:=by intro _; rfl)
    (hfew:∀ env,((backTo pos (starEach [e] env)).all (fun x => !x.1) && (backToKw pos (keywordEach [] env)).all (fun x => x.1.isSome)
      && decide (([e]:List PySem.Expr).length + ([]:List Keyword).length + (if ([]:List Keyword).isEmpty then 0 else 1) < 30)) = true:=by intro _; rfl)
    (htrees:∀ env,backTo pos (starEach [e] env) = [(false,eval e env)]:=by intro _; rfl)
    (hi:∀ env,env.scope = sc → interactive env = false:=by intro e h; obtain ⟨_,_,_,_,_,_,_,_,_⟩:=e; dsimp only at h; subst h; with_unfolding_all rfl)
    (hd:(nm x == ("__debug__":Str)) = false:=by decide) (hn:(nm x == ("__classdict__":Str)) = false:=by decide)
    (hs:∀ env,swapsWith (.Call (.Attribute (.Name (nm x) p) "append" ap) [e] [] pos) none pos'.line env = pure false:=by intro _; rfl) :
    SS W sc n (.Expr (.Call (.Attribute (.Name (Str.ofString x) p) "append" ap) [e] [] pos) pos') (tAppend x te) :=
  fun fx F σ s P E hsc hw hrm I h hE => by
    unfold tAppend at h
    cases q:get σ x with
    | none => rw [q] at h; cases h
    | some slot =>
      rw [q] at h
      cases slot with
      | own l =>
        obtain ⟨v,hv,a,rfl,ho⟩:=I.vars x _ q
        constructor
        refine wpAny_Expr_any ?_ (hi _ hsc) (hs _)
        refine wpAny_Call_append (hbase _) (hfew _) hline (htrees _) (wpAny_Name (load_of I hv hn ?_).out hd)
        obtain ⟨⟨o,xs,ep,ho',hc,hd',hr,hdn⟩,hF,hB⟩:=ho
        refine ⟨a,xs,rfl,⟨o,ep,ho',hc,hdn,hd'⟩,?_⟩
        refine ((hidden (A:=fx.A) (R:=fun u σ₂ => fits l.length ∧ P.next (put σ₂ x (.own (l ++ [u])))) he hsc hrm I q hv ?_).imp fun y s₂ h₂ => ?_).out
        · have h':=h a
          simpa only [put_put] using h'
        · obtain ⟨G,σ',u,hG,I',ru,⟨hf,hP⟩,hx',hh'⟩:=h₂
          obtain ⟨v',hv',a',e',⟨⟨o2,xs2,ep2,ho2,hc2,hd2,hr2,hdn2⟩,_,_⟩⟩:=I'.vars x _ hx'
          have:=holds_fun hv' hh'
          subst this
          cases e'
          have hlen:xs2.size = l.length:=by simpa using hr2.length
          refine list_append_plainL ⟨o2,ep2,ho2,hc2,hdn2,hd2⟩ (fun h' hp hsb => ?_) (by rw [hlen]; exact fits_size hf)
          obtain ⟨o3,ep3,q1,q2,q3,q4⟩:=hp
          refine ⟨G,_,hG,I'.setOwn (tk:=s₂.toks) hx' hh' hsb ⟨o3,_,ep3,q1,q2,q4,?_,q3⟩,hP⟩
          rw [Array.toList_push]
          exact hr2.append (Reps.one ru)
      | _ => cases h
end
end Mine
end
noncomputable section
open PySem PySem.W PyProof.Rows PySem.Spec PySem.Calls
set_option Elab.async false
set_option maxRecDepth 100000
set_option linter.unusedVariables false
namespace Mine
noncomputable def clOf (env:Env):List (Str × NameKind) → List (Str × Addr) → Option (List (Str × Addr))
  | [],acc => some acc
  | (x,k) :: r,acc => if k == .free then (match env.cells.lookup x with
      | some c => clOf env r ((x,c) :: acc)
      | none => none) else clOf env r acc
theorem closure_loop (env:Env):∀ (names:List (Str × NameKind)) (acc cl:List (Str × Addr)),clOf env names acc = some cl →
    (forIn names acc fun (p:Str × NameKind) cs => if (p.2 == NameKind.free) = true then (do let c ← cellOf env p.1; pure (ForInStep.yield ((p.1,c) :: cs))) else pure (ForInStep.yield cs):Sem _) = pure cl
  | [],acc,cl,h => by
    rw [List.forIn_nil]
    unfold clOf at h
    cases h; rfl
  | (x,k) :: r,acc,cl,h => by
    rw [List.forIn_cons]
    unfold clOf at h
    by_cases q:(k == NameKind.free) = true
    · simp only [q,if_true] at h ⊢
      cases hc:env.cells.lookup x with
      | none => rw [hc] at h; cases h
      | some c =>
        rw [hc] at h
        have e:cellOf env x = pure c:=by unfold cellOf; rw [hc]
        rw [e]
        simp only [pure_bind]
        exact closure_loop env r _ cl h
    · simp only [Bool.not_eq_true] at q
      simp only [q,Bool.false_eq_true,if_false,pure_bind] at h ⊢
      exact closure_loop env r _ cl h
theorem closure_of {scope:Scope} {env:Env} {cl:List (Str × Addr)} (h:clOf env scope.names [] = some cl):closureFor scope env = pure cl:=by
  have:=closure_loop env scope.names [] cl h
  unfold closureFor
  simp only [bind_pure]
  exact this
theorem clOf_keep (env:Env):∀ (names:List (Str × NameKind)) (acc cl:List (Str × Addr)),clOf env names acc = some cl → ∀ p ∈ cl,p ∈ acc ∨ env.cells.lookup p.1 = some p.2
  | [],acc,cl,h,p,hp => by unfold clOf at h; cases h; exact .inl hp
  | (x,k) :: r,acc,cl,h,p,hp => by
    unfold clOf at h
    split at h
    · cases hc:env.cells.lookup x with
      | none => rw [hc] at h; cases h
      | some c =>
        rw [hc] at h
        rcases clOf_keep env r _ cl h p hp with q | q
        · rcases List.mem_cons.mp q with e | q
          · rw [e]; exact .inr hc
          · exact .inl q
        · exact .inr q
    · exact clOf_keep env r _ cl h p hp
theorem clOf_acc (env:Env):∀ (names:List (Str × NameKind)) (acc cl:List (Str × Addr)),clOf env names acc = some cl → ∀ p ∈ acc,p ∈ cl
  | [],acc,cl,h,p,hp => by unfold clOf at h; cases h; exact hp
  | (x,k) :: r,acc,cl,h,p,hp => by
    unfold clOf at h
    split at h
    · cases hc:env.cells.lookup x with
      | none => rw [hc] at h; cases h
      | some c => rw [hc] at h; exact clOf_acc env r _ cl h p (List.mem_cons_of_mem _ hp)
    · exact clOf_acc env r _ cl h p hp
theorem clOf_has (env:Env):∀ (names:List (Str × NameKind)) (acc cl:List (Str × Addr)) (x:Str),clOf env names acc = some cl → (x,NameKind.free) ∈ names → ∃ c,(x,c) ∈ cl
  | (y,k) :: r,acc,cl,x,h,hm => by
    unfold clOf at h
    rcases List.mem_cons.mp hm with e | hm
    · cases e
      simp only [beq_self_eq_true,if_true] at h
      cases hc:env.cells.lookup y with
      | none => rw [hc] at h; cases h
      | some c => rw [hc] at h; exact ⟨c,clOf_acc env r _ cl h _ List.mem_cons_self⟩
    · split at h
      · cases hc:env.cells.lookup y with
        | none => rw [hc] at h; cases h
        | some c => rw [hc] at h; exact clOf_has env r _ cl x h hm
      · exact clOf_has env r _ cl x h hm
theorem clOf_some (env:Env):∀ (names:List (Str × NameKind)) (acc:List (Str × Addr)),(∀ x,(x,NameKind.free) ∈ names → ∃ c,env.cells.lookup x = some c) → ∃ cl,clOf env names acc = some cl
  | [],acc,_ => ⟨acc,rfl⟩
  | (x,k) :: r,acc,h => by
    unfold clOf
    have hr:∀ y,(y,NameKind.free) ∈ r → ∃ c,env.cells.lookup y = some c:=fun y hy => h y (List.mem_cons_of_mem _ hy)
    by_cases q:(k == NameKind.free) = true
    · simp only [q,if_true]
      have:k = .free:=beq_iff_eq.mp q
      subst this
      obtain ⟨c,hc⟩:=h x List.mem_cons_self
      rw [hc]
      exact clOf_some env r _ hr
    · simp only [Bool.not_eq_true] at q
      simp only [q,Bool.false_eq_true,if_false]
      exact clOf_some env r acc hr
theorem clOf_lookup {env:Env} {names:List (Str × NameKind)} {cl:List (Str × Addr)} {x:Str} (h:clOf env names [] = some cl) (hx:(x,NameKind.free) ∈ names):∃ c,cl.lookup x = some c ∧ env.cells.lookup x = some c:=by
  obtain ⟨c,hc⟩:=clOf_has env names [] cl x h hx
  obtain ⟨c',hc'⟩:=lookup_of_mem hc
  rcases clOf_keep env names [] cl h _ (mem_of_lookup hc') with q | q
  · cases q
  · exact ⟨c',hc',q⟩
section
variable {W:Wd} {fx:Fx} {F G:Fz} {σ:Sto} {s s':Shared} {a:Addr}
structure Loose (W:Wd) (fx:Fx) (F:Fz) (σ:Sto) (s:Shared) (a:Addr):Prop where
  hP:a ≠ W.P
  hF:F a = none
  hB:fx.B a = none
  hL:a ≠ fx.env.locals
  hC:∀ c v,s.heap.IsCell c v → c ≠ a
  own:∀ y l,get σ y = some (.own l) → ¬ Holds fx.env s.heap y (.ref a)
theorem Loose.holds (C:Loose W fx F σ s a) (hs:Heap.ExtBut a s.heap s'.heap) {y:String} {w:Value} (h:Holds fx.env s.heap y w):Holds fx.env s'.heap y w:=by
  rcases h with ⟨ky,m,hm,e⟩ | ⟨ky,c,hc,hv⟩
  · exact .inl ⟨ky,m,hm.extBut hs (Ne.symm C.hL),e⟩
  · obtain ⟨o',h1,h2⟩:=hv
    exact .inr ⟨ky,c,hc,o',hs c o' (C.hC c _ ⟨o',h1,h2⟩) h1,h2⟩
theorem Inv.poke2 (I:Inv W fx F σ s) (C:Loose W fx F σ s a) (hs:Heap.ExtBut a s.heap s'.heap) (hsame:s'.gens = s.gens ∧ s'.os = s.os):Inv W fx F σ s':=by
  have hol:∀ y w,Holds fx.env s.heap y w → Holds fx.env s'.heap y w:=fun y w => C.holds hs
  obtain ⟨hP,hF,hB,haL,haC,hown⟩:=C
  refine { I with win:=?_,tab:=?_,fin:=?_,keep:=?_,ns:=?_,cells:=?_,vars:=?_,apart:=?_ }
  · exact ⟨fun b o e => hs b o (fun q => by rw [q] at e; rw [I.ok.baseB _ _ e] at hB; cases hB) (I.win.stays b o e),hsame.1 ▸ I.win.gens,hsame.2.trans I.win.os⟩
  · exact I.tab.keeps (Fz.le.refl F) fun o e => hs _ o (Ne.symm hP) e
  · exact fun b o e => hs b o (fun q => by rw [q,hF] at e; cases e) (I.fin b o e)
  · intro b o e
    have hb:b ≠ a:=fun q => by rw [q,hB] at e; cases e
    refine ⟨fun hn => hs b o hb ((I.keep b o e).1 hn),?_⟩
    obtain ⟨sl,e'⟩:=(I.keep b o e).2
    exact ⟨sl,hs b _ hb e'⟩
  · exact let ⟨m,hm⟩:=I.ns; ⟨m,hm.extBut hs (Ne.symm haL)⟩
  · exact fun y c hy hc => let ⟨v,o',h1,h2⟩:=I.cells y c hy hc; ⟨v,o',hs c o' (haC c _ ⟨o',h1,h2⟩) h1,h2⟩
  · intro y sl e
    obtain ⟨w,hw,hsw⟩:=I.vars y sl e
    refine ⟨w,hol y w hw,?_⟩
    cases sl with
    | val u => exact hsw
    | own k' =>
      obtain ⟨b,rfl,⟨⟨o1,x1,n1,q1,q2,q3,q4,q5⟩,hb2,hb3⟩⟩:=hsw
      have:b ≠ a:=by rintro rfl; exact hown y k' e hw
      exact ⟨b,rfl,⟨⟨o1,x1,n1,hs b _ this q1,q2,q3,q4,q5⟩,hb2,hb3⟩⟩
    | app z =>
      obtain ⟨b,a',e1,e2,e4⟩:=hsw
      refine ⟨b,a',e1,e2,fun w' k' hw' hy => ?_⟩
      obtain ⟨w2,hw2,_⟩:=I.vars z _ hy
      have:=holds_fun hw' (hol z w2 hw2)
      subst this
      exact e4 w' k' hw2 hy
  · intro y z p q k1 k2 hyz hy hz hp hq
    obtain ⟨v1,hv1,_⟩:=I.vars y _ hy
    obtain ⟨v2,hv2,_⟩:=I.vars z _ hz
    have e1:=holds_fun hp (hol y _ hv1)
    have e2:=holds_fun hq (hol z _ hv2)
    subst e1; subst e2
    exact I.apart y z p q k1 k2 hyz hy hz hv1 hv2
noncomputable def NoOwn (fx:Fx) (σ:Sto) (s:Shared) (a:Addr):Prop:=∀ y l,get σ y = some (.own l) → ¬ Holds fx.env s.heap y (.ref a)
theorem NoOwn.fresh (I:Inv W fx F σ s) (h:s.heap.get? a = none):NoOwn fx σ s a:=fun y l hy hh => by
  obtain ⟨v,hv,b,rfl,⟨⟨o,xs,ep,h1,_⟩,_,_⟩⟩:=I.vars y _ hy
  have:=holds_fun hv hh
  cases this
  rw [h] at h1; cases h1
theorem NoOwn.to (I:Inv W fx F σ s) (N:NoOwn fx σ s a) (t:∀ y w,Holds fx.env s.heap y w → Holds fx.env s'.heap y w):NoOwn fx σ s' a:=fun y l hy hh => by
  obtain ⟨v,hv,_⟩:=I.vars y _ hy
  have:=holds_fun hh (t y v hv)
  subst this
  exact N y l hy hv
theorem NoOwn.of_data (I:Inv W fx F σ s) {o:Obj} (ho:s.heap.get? a = some o) (hd:∀ xs n,o.data ≠ .seq xs n):NoOwn fx σ s a:=fun y l hy hh => by
  obtain ⟨v,hv,b,rfl,⟨⟨o',xs,ep,h1,_,h3,_⟩,_,_⟩⟩:=I.vars y _ hy
  have:=holds_fun hv hh
  cases this
  rw [ho] at h1; cases h1
  exact hd _ _ h3
theorem Loose.of (I:Inv W fx F σ s) {o:Obj} (hP:a ≠ W.P) (hF:F a = none) (hB:fx.B a = none) (hL:a ≠ fx.env.locals) (ho:s.heap.get? a = some o) (hc:∀ v,o.data ≠ .cell v) (N:NoOwn fx σ s a):Loose W fx F σ s a :=
  ⟨hP,hF,hB,hL,fun c v ⟨o',h1,h2⟩ q => by rw [q,ho] at h1; cases h1; exact hc _ h2,N⟩
theorem Inv.ne_of_fresh (I:Inv W fx F σ s) (h:s.heap.get? a = none):a ≠ W.P ∧ a ≠ fx.env.locals ∧ a ∉ frs fx.fr:=by
  refine ⟨?_,?_,?_⟩
  · rintro rfl
    obtain ⟨ps,hP,_⟩:=I.tab
    rw [h] at hP; cases hP
  · rintro rfl
    obtain ⟨m,o,es,ep,ho,_⟩:=I.ns
    rw [h] at ho; cases ho
  · intro hm
    obtain ⟨_,o,es,n,ho,_⟩:=I.frs_dict hm
    rw [h] at ho; cases ho
end
end Mine
end
noncomputable section
open PySem PySem.W PyProof.Rows PySem.Spec PySem.Calls
set_option Elab.async false
set_option maxRecDepth 100000
set_option linter.unusedVariables false
namespace Mine
noncomputable def relS (cs sc:Scope):Scope :=
  { cs with names:=cs.names.map fun (n,k) => if (k == .free && sc.kind == .function && sc.names.lookup n == some .cell) then (n,.cell) else (n,k) }
theorem relS_lookup (sc:Scope):∀ (names:List (Str × NameKind)) (x:Str),
    (names.map fun (p:Str × NameKind) => match p with | (n,k) => if (k == .free && sc.kind == .function && sc.names.lookup n == some .cell) = true then (n,NameKind.cell) else (n,k)).lookup x =
      (names.lookup x).map fun k => if (k == .free && sc.kind == .function && sc.names.lookup x == some .cell) = true then .cell else k
  | [],x => rfl
  | (n,k) :: r,x => by
    have ih:=relS_lookup sc r x
    rw [List.map_cons]
    by_cases hx:x = n
    · subst hx
      by_cases hc:(k == .free && sc.kind == .function && sc.names.lookup x == some .cell) = true
      · show List.lookup x ((if (k == .free && sc.kind == .function && sc.names.lookup x == some .cell) = true then (x,NameKind.cell) else (x,k)) :: _) = _
        rw [if_pos hc,List.lookup_cons_self,List.lookup_cons_self,Option.map_some,if_pos hc]
      · show List.lookup x ((if (k == .free && sc.kind == .function && sc.names.lookup x == some .cell) = true then (x,NameKind.cell) else (x,k)) :: _) = _
        rw [if_neg hc,List.lookup_cons_self,List.lookup_cons_self,Option.map_some,if_neg hc]
    · have hb:(x == n) = false:=by simpa using hx
      have e1:∀ (b:NameKind) (l:List (Str × NameKind)),List.lookup x ((n,b) :: l) = List.lookup x l:=fun b l => by
        rw [List.lookup_cons]
        simp only [hb]
      by_cases hc:(k == .free && sc.kind == .function && sc.names.lookup n == some .cell) = true
      · show List.lookup x ((if (k == .free && sc.kind == .function && sc.names.lookup n == some .cell) = true then (n,NameKind.cell) else (n,k)) :: _) = _
        rw [if_pos hc,e1,e1]; exact ih
      · show List.lookup x ((if (k == .free && sc.kind == .function && sc.names.lookup n == some .cell) = true then (n,NameKind.cell) else (n,k)) :: _) = _
        rw [if_neg hc,e1,e1]; exact ih
theorem relS_names (cs sc:Scope) (x:Str):(relS cs sc).names.lookup x = (cs.names.lookup x).map fun k => if (k == .free && sc.kind == .function && sc.names.lookup x == some .cell) = true then .cell else k :=
  relS_lookup sc cs.names x
noncomputable def capSto (σ:Sto):List String → Sto
  | [] => []
  | y :: r => match get σ y with
    | some (.val u) => (y,.val u) :: capSto σ r
    | _ => capSto σ r
set_option tactic.hygienic true in
theorem capSto_get (σ:Sto):∀ (caps:List String) (y:String) (sl:Slot),get (capSto σ caps) y = some sl → y ∈ caps ∧ get σ y = some sl ∧ ∃ u,sl = .val u
  | [],y,sl,h => by cases h
  | z :: r,y,sl,h => by
    unfold capSto at h
    split at h
    · rename_i u hu
      unfold get at h
      by_cases q:z = y
      · rw [if_pos q] at h
        cases h; subst q
        exact ⟨List.mem_cons_self,hu,u,rfl⟩
      · rw [if_neg q] at h
        obtain ⟨h1,h2⟩:=capSto_get σ r y sl h
        exact ⟨List.mem_cons_of_mem _ h1,h2⟩
    · obtain ⟨h1,h2⟩:=capSto_get σ r y sl h
      exact ⟨List.mem_cons_of_mem _ h1,h2⟩
noncomputable def Fx.comp (W:Wd) (fx:Fx) (env:Env) (h:Heap) (F:Fz):Fx where
  A:=fx.A
  fr:=fx.fr
  env:=env
  B:=fun b => if b = W.P then none else h.get? b
  F₀:=F
  w:=false
structure CompOk (cs sc:Scope) (x:String) (caps:List String):Prop where
  kind:cs.kind = .function
  nocell:∀ p ∈ cs.names,p.2 ≠ .cell
  x:cs.names.lookup (nm x) = some .local
  capt:∀ y ∈ caps,cs.names.lookup (nm y) = some .free ∧ sc.names.lookup (nm y) ≠ some .local
  all:∀ p ∈ cs.names,p.2 = .free → ∃ y ∈ caps,p.1 = nm y
  locals:∀ p ∈ cs.names,p.2 = .local → cs.names.lookup p.1 = some .local
section
variable {W:Wd} {fx:Fx} {F G:Fz} {σ:Sto} {s s':Shared} {cs:Scope} {x:String} {caps:List String} {cl:List (Str × Addr)} {C:Addr}
theorem Inv.capCell (I:Inv W fx F σ s) {y:String} {u:V} (hy:get σ y = some (.val u)) (hk:fx.env.scope.names.lookup (nm y) ≠ some .local):∃ c v,fx.env.cells.lookup (nm y) = some c ∧ s.heap.IsCell c (some v) ∧ Rep F v u:=by
  obtain ⟨v,hv,hr⟩:=I.vars y _ hy
  rcases hv with ⟨k,_⟩ | ⟨_,c,hc,hv⟩
  · exact absurd k hk
  · exact ⟨c,v,hc,hv,hr⟩
set_option tactic.hygienic true in
theorem Inv.comp (I:Inv W fx F σ s) (K:CompOk cs fx.env.scope x caps) (hcl:clOf fx.env cs.names [] = some cl) {m:Str → Option Value} (hm:s.heap.Ns C m) {v:Value} {u:V} (hv:m (nm x) = some v) (hr:Rep F v u) :
    Inv W (fx.comp W (compEnvC cs cl C fx.env) s.heap F) F (put (capSto σ caps) x (.val u)) s:=by
  have hlk:∀ y,(compEnvC cs cl C fx.env).kindOf y = (cs.names.lookup y).map fun k => if (k == .free && fx.env.scope.kind == .function && fx.env.scope.names.lookup y == some .cell) = true then .cell else k:=fun y => relS_names cs fx.env.scope y
  refine { ok:=?_,win:=I.win,tab:=I.tab,fin:=I.fin,fok:=I.fok,f0:=Fz.le.refl F,fnew:=fun a o e => .inl e,keep:=?_,ns:=⟨m,hm⟩,cells:=?_,vars:=?_,apart:=?_ }
  · refine { frames:=I.ok.frames,handled:=I.ok.handled,kind:=K.kind,glob:=I.ok.glob,blt:=I.ok.blt,baseB:=?_,BP:=?_,BL:=fun e => (nomatch e),frs:=?_,cellE:=fun e => (nomatch e),cellI:=fun e => (nomatch e),top:=fun e => (nomatch e) }
    · exact fun b o e => calleeB_of (fx:=fx) (F:=F) (env:=fx.env) (fun q => by rw [q,I.base_P] at e; cases e) (I.win.stays b o e)
    · show (if W.P = W.P then none else _) = none
      rw [if_pos rfl]
    · intro e he
      obtain ⟨h1,L,h2,h3,_⟩:=I.ok.frs e he
      obtain ⟨_,o,es,n,h4,h5⟩:=I.frs_dict (List.mem_filterMap.mpr ⟨e,he,h2⟩)
      refine ⟨h1,L,h2,h3,.inr ⟨o,es,n,calleeB_of (fx:=fx) (F:=F) (env:=fx.env) ?_ h4,h5⟩⟩
      rintro rfl
      obtain ⟨ps,hP,_⟩:=I.tab
      rw [hP] at h4; cases h4
      cases h5
  · intro b o e
    obtain ⟨_,e'⟩:=of_calleeB (fx:=fx) (F:=F) (env:=fx.env) e
    exact ⟨fun ℓ => e',o.slots,e'⟩
  · intro y c hy hc
    have hy':(compEnvC cs cl C fx.env).kindOf y = some .cell:=hy
    rw [hlk] at hy'
    cases hk:cs.names.lookup y with
    | none => rw [hk] at hy'; cases hy'
    | some kd =>
      rw [hk] at hy'
      have hmem:=mem_of_lookup hk
      have hne:kd ≠ .cell:=K.nocell _ hmem
      simp only [Option.map_some,Option.some.injEq] at hy'
      split at hy'
      · rename_i hq
        simp only [Bool.and_eq_true,beq_iff_eq] at hq
        obtain ⟨c',hc',hc''⟩:=clOf_lookup hcl (hq.1.1 ▸ hmem)
        rw [show (fx.comp W (compEnvC cs cl C fx.env) s.heap F).env.cells.lookup y = cl.lookup y from rfl,hc'] at hc
        cases hc
        exact I.cells y c hq.2 hc''
      · exact absurd hy' hne
  · intro y sl e
    rw [get_put] at e
    by_cases hxy:x = y
    · subst hxy
      simp only [if_true,Option.some.injEq] at e
      subst e
      refine ⟨v,.inl ⟨?_,m,hm,hv⟩,hr⟩
      show (compEnvC cs cl C fx.env).kindOf (nm x) = _
      rw [hlk,K.x]
      rfl
    · rw [if_neg hxy] at e
      obtain ⟨h1,h2,u',rfl⟩:=capSto_get σ caps y sl e
      obtain ⟨hf,hnl⟩:=K.capt y h1
      obtain ⟨c,v',hc,hcv,hr'⟩:=I.capCell h2 hnl
      refine ⟨v',.inr ⟨?_,c,?_,hcv⟩,hr'⟩
      · show (compEnvC cs cl C fx.env).kindOf (nm y) = _ ∨ _
        rw [show (fx.comp W (compEnvC cs cl C fx.env) s.heap F).env.kindOf (nm y) = (compEnvC cs cl C fx.env).kindOf (nm y) from rfl,hlk,hf]
        simp only [Option.map_some]
        split
        · exact .inl rfl
        · exact .inr rfl
      · obtain ⟨c',hc',hc''⟩:=clOf_lookup hcl (mem_of_lookup hf)
        rw [hc] at hc''; cases hc''
        exact hc'
  · intro y z p q l k hyz hy
    rw [get_put] at hy
    by_cases hxy:x = y
    · rw [if_pos hxy] at hy; cases hy
    · rw [if_neg hxy] at hy
      obtain ⟨_,_,u',e⟩:=capSto_get σ caps y _ hy
      cases e
theorem Inv.comp_closure (I:Inv W fx F σ s) (K:CompOk cs fx.env.scope x caps) (h:∀ y ∈ caps,∃ u,get σ y = some (.val u)):∃ cl,clOf fx.env cs.names [] = some cl :=
  clOf_some fx.env cs.names [] fun z hz => by
    obtain ⟨y,hy,e⟩:=K.all _ hz rfl
    obtain ⟨u,hu⟩:=h y hy
    obtain ⟨c,_,hc,_⟩:=I.capCell hu (K.capt y hy).2
    exact ⟨c,by rw [show z = nm y from e]; exact hc⟩
theorem Inv.leaveComp (I:Inv W fx F σ s) {env:Env} {τ:Sto} (J:Inv W (fx.comp W env s.heap F) G τ s'):Inv W fx G σ s' ∧ KeepX W fx.fr s.heap s'.heap ∧ (∀ a,s.heap.get? a ≠ none → F a = none → a ≠ W.P → G a = none):=by
  have hkeep:KeepX W fx.fr s.heap s'.heap:=fun b o hp e => J.keep b o (calleeB_of (fx:=fx) (F:=F) (env:=env) hp e)
  have hnew:∀ a o,G a = some o → F a = some o ∨ s.heap.get? a = none:=fun a o e => by
    rcases J.fnew a o e with q | q
    · exact .inl q
    · by_cases hp:a = W.P
      · rw [hp,J.FP] at e; cases e
      · right
        have q':(if a = W.P then none else s.heap.get? a) = none:=q
        rw [if_neg hp] at q'; exact q'
  refine ⟨I.step J.f0 hkeep J.win J.tab J.fin J.fok hnew,hkeep,fun a h1 h2 h3 => ?_⟩
  cases q:G a with
  | none => rfl
  | some o =>
    rcases hnew a o q with e | e
    · rw [h2] at e; cases e
    · exact absurd e h1
end
end Mine
end
noncomputable section
open PySem PySem.W PyProof.Rows PySem.Spec PySem.Calls
set_option Elab.async false
set_option maxRecDepth 100000
set_option linter.unusedVariables false
namespace Mine
noncomputable def SI (W:Wd) (sc:Scope) (n:Nat) (ifs:List PySem.Expr) (t:TB):Prop :=
  ∀ (fx:Fx) (F:Fz) (σ:Sto) (s:Shared) (Q:Bool → Sto → Prop) (X:Value → Prop) (E:Value → Shared → Prop),
    fx.env.scope = sc → Room fx.A n → Inv W fx F σ s → t Q X σ → (∀ c e s',X c → Raised W fx c e s' → E e s') →
    Wp W fx.A (forIn ifs true fun c r => if r = true then do let ok ← isTrue c fx.env (eval c fx.env); pure (ForInStep.yield ok) else pure (ForInStep.yield r)) (PB W fx F Q) E s
theorem si_nil {W:Wd} {sc:Scope} {n:Nat}:SI W sc n [] (fun Q ℓ σ => Q true σ):=fun fx F σ s Q X E ℓ ℓ I h ℓ => by
  rw [List.forIn_nil]
  exact .pure ⟨F,σ,.refl F,I,h⟩
theorem si_one {W:Wd} {sc:Scope} {n:Nat} {c:PySem.Expr} {t:TB} (h:ST W sc n c t):SI W sc n [c] t:=fun fx F σ s Q X E hsc hrm I k hE => by
  rw [List.forIn_cons]
  refine .bind ?_
  simp only [if_true]
  refine .bind ((h fx F σ s Q X E hsc hrm I k hE).imp fun b s₁ k₁ => ?_)
  refine .pure ?_
  dsimp only
  rw [List.forIn_nil]
  exact .pure k₁
noncomputable def compI (x:String) (tc:TB) (te:TE) (σc:Sto):List V → List V → (List V → Prop) → Prop
  | [],acc,K => K acc
  | u :: r,acc,K => tc (fun b σ₁ => σ₁ = put σc x (.val u) ∧
      if b then te (fun v σ₂ => σ₂ = put σc x (.val u) ∧ compI x tc te σc r (acc ++ [v]) K) (fun ℓ => False) σ₁ else compI x tc te σc r acc K) (fun ℓ => False) (put σc x (.val u))
structure LF (W:Wd) (fx:Fx) (I D C:Addr):Prop where
  ID:I ≠ D
  IC:I ≠ C
  DC:D ≠ C
  p:I ≠ W.P ∧ D ≠ W.P ∧ C ≠ W.P
  l:I ≠ fx.env.locals ∧ D ≠ fx.env.locals ∧ C ≠ fx.env.locals
  f:I ∉ frs fx.fr ∧ D ∉ frs fx.fr ∧ C ∉ frs fx.fr
  b:fx.B I = none ∧ fx.B D = none ∧ fx.B C = none
structure LI (W:Wd) (fx:Fx) (F₀ G:Fz) (σ:Sto) (us:List V) (I D C:Addr) (St:Nat → Heap → Prop) (i:Nat) (acc:List V) (s:Shared):Prop where
  inv:Inv W fx G σ s
  le:F₀.le G
  g:G I = none ∧ G D = none ∧ G C = none
  st:St i s.heap
  list:∃ xs,PlainL s.heap D xs ∧ Reps G xs.toList acc
  ns:∃ m,s.heap.Ns C m
  no:NoOwn fx σ s D
structure LZ (W:Wd) (fx:Fx) (F₀ G:Fz) (σ:Sto) (D C:Addr) (acc:List V) (s:Shared):Prop where
  inv:Inv W fx G σ s
  le:F₀.le G
  gD:G D = none
  gC:G C = none
  list:∃ xs,PlainL s.heap D xs ∧ Reps G xs.toList acc
  ns:∃ m,s.heap.Ns C m
  no:NoOwn fx σ s D
section
variable {W:Wd} {fx:Fx} {F₀ G G':Fz} {σ:Sto} {us acc:List V} {I D C:Addr} {St:Nat → Heap → Prop} {i:Nat} {s s':Shared}
theorem LI.looseI (L:LI W fx F₀ G σ us I D C St i acc s) (K:LF W fx I D C) (it:Iter W F₀ I us St):Loose W fx G σ s I:=by
  obtain ⟨o,vs,ho,hd⟩:=it.live _ _ L.st
  exact Loose.of L.inv K.p.1 L.g.1 K.b.1 K.l.1 ho (fun v e => by rw [hd] at e; cases e) (NoOwn.of_data L.inv ho fun xs n e => by rw [hd] at e; cases e)
theorem LI.looseC (L:LI W fx F₀ G σ us I D C St i acc s) (K:LF W fx I D C):Loose W fx G σ s C:=by
  obtain ⟨m,o,es,ep,ho,hd,_⟩:=L.ns
  exact Loose.of L.inv K.p.2.2 L.g.2.2 K.b.2.2 K.l.2.2 ho (fun v e => by rw [hd] at e; cases e) (NoOwn.of_data L.inv ho fun xs n e => by rw [hd] at e; cases e)
theorem LI.looseD (L:LI W fx F₀ G σ us I D C St i acc s) (K:LF W fx I D C):Loose W fx G σ s D:=by
  obtain ⟨xs,⟨o,n,ho,hc,hdn,hd⟩,_⟩:=L.list
  exact Loose.of L.inv K.p.2.1 L.g.2.1 K.b.2.1 K.l.2.1 ho (fun v e => by rw [hd] at e; cases e) L.no
theorem LI.next (L:LI W fx F₀ G σ us I D C St i acc s) (K:LF W fx I D C) (it:Iter W F₀ I us St) {j:Nat} {h':Heap} {tk:Nat} (hs:Heap.ExtBut I s.heap h') (hst:St j h') :
    LI W fx F₀ G σ us I D C St j acc { s with heap:=h',toks:=tk }:=by
  have C:=L.looseI K it
  obtain ⟨xs,hp,hr⟩:=L.list
  obtain ⟨m,hm⟩:=L.ns
  exact ⟨L.inv.poke2 C hs ⟨rfl,rfl⟩,L.le,L.g,hst,⟨xs,hp.extBut hs (Ne.symm K.ID),hr⟩,⟨m,hm.extBut hs (Ne.symm K.IC)⟩,L.no.to L.inv fun y w => C.holds (s':={ s with heap:=h',toks:=tk }) hs⟩
theorem LI.last (L:LI W fx F₀ G σ us I D C St i acc s) (K:LF W fx I D C) (it:Iter W F₀ I us St) {h':Heap} {tk:Nat} (hs:Heap.ExtBut I s.heap h') :
    LZ W fx F₀ G σ D C acc { s with heap:=h',toks:=tk }:=by
  have C:=L.looseI K it
  obtain ⟨xs,hp,hr⟩:=L.list
  obtain ⟨m,hm⟩:=L.ns
  exact ⟨L.inv.poke2 C hs ⟨rfl,rfl⟩,L.le,L.g.2.1,L.g.2.2,⟨xs,hp.extBut hs (Ne.symm K.ID),hr⟩,⟨m,hm.extBut hs (Ne.symm K.IC)⟩,L.no.to L.inv fun y w => C.holds (s':={ s with heap:=h',toks:=tk }) hs⟩
theorem LI.bind (L:LI W fx F₀ G σ us I D C St i acc s) (K:LF W fx I D C) (it:Iter W F₀ I us St) {m':Str → Option Value} {h':Heap} {tk:Nat} (hs:Heap.SameBut C s.heap h') (hm:h'.Ns C m') :
    LI W fx F₀ G σ us I D C St i acc { s with heap:=h',toks:=tk }:=by
  have Lc:=L.looseC K
  obtain ⟨xs,hp,hr⟩:=L.list
  have I':Inv W fx G σ { s with heap:=h',toks:=tk }:=L.inv.poke2 Lc hs.extBut ⟨rfl,rfl⟩
  refine ⟨I',L.le,L.g,?_,⟨xs,hp.extBut hs.extBut K.DC,hr⟩,⟨m',hm⟩,L.no.to L.inv fun y w => Lc.holds (s':={ s with heap:=h',toks:=tk }) hs.extBut⟩
  exact it.frame i _ _ L.st (fun b o e => L.inv.fin _ _ (L.le _ _ e)) (fun o e => hs.extBut _ o K.IC e) (fun b o e => I'.fin _ _ (L.le _ _ e))
theorem LI.leave (L:LI W fx F₀ G σ us I D C St i acc s) (K:LF W fx I D C) (it:Iter W F₀ I us St) {env:Env} {τ:Sto} (J:Inv W (fx.comp W env s.heap G) G' τ s') :
    LI W fx F₀ G' σ us I D C St i acc s':=by
  obtain ⟨I',hk,hn⟩:=L.inv.leaveComp J
  obtain ⟨xs,⟨o,n,ho,hc,hdn,hd⟩,hr⟩:=L.list
  obtain ⟨m,oc,es,ep,hoc,hdc,hrest⟩:=L.ns
  obtain ⟨oi,vs,hoi,hdi⟩:=it.live _ _ L.st
  refine ⟨I',L.le.trans J.f0,⟨hn I (by rw [hoi]; simp) L.g.1 K.p.1,hn D (by rw [ho]; simp) L.g.2.1 K.p.2.1,hn C (by rw [hoc]; simp) L.g.2.2 K.p.2.2⟩,?_,
    ⟨xs,⟨o,n,(hk D o K.p.2.1 ho).1 K.f.2.1,hc,hdn,hd⟩,hr.mono J.f0⟩,⟨m,oc,es,ep,(hk C oc K.p.2.2 hoc).1 K.f.2.2,hdc,hrest⟩,L.no.to L.inv fun y w => L.inv.holds_to hk⟩
  exact it.frame i _ _ L.st (fun b o e => L.inv.fin _ _ (L.le _ _ e)) (fun o e => (hk I o K.p.1 e).1 K.f.1) (fun b o e => I'.fin _ _ (J.f0 _ _ (L.le _ _ e)))
theorem LI.push (L:LI W fx F₀ G σ us I D C St i acc s) (K:LF W fx I D C) (it:Iter W F₀ I us St) {v:Value} {u:V} (hr:Rep G v u) (hsz:acc.length ≤ sizeLine) {A:Around} {Q:Value → Shared → Prop} {E:Value → Shared → Prop}
    (hQ:∀ s',LI W fx F₀ G σ us I D C St i (acc ++ [u]) s' → Q .none s'):wpAny W.M A (call (.builtin "list.append") [.ref D,v]) Q E s:=by
  have Ld:=L.looseD K
  obtain ⟨xs,hp,hrs⟩:=L.list
  have hlen:xs.size = acc.length:=by simpa using hrs.length
  refine list_append_plainL hp (fun h' hp' hs => hQ _ ?_) (by rw [hlen]; exact hsz)
  obtain ⟨m,hm⟩:=L.ns
  have I':Inv W fx G σ { s with heap:=h' }:=L.inv.poke2 Ld hs.extBut ⟨rfl,rfl⟩
  refine ⟨I',L.le,L.g,?_,⟨_,hp',?_⟩,⟨m,hm.extBut hs.extBut (Ne.symm K.DC)⟩,L.no.to L.inv fun y w => Ld.holds (s':={ s with heap:=h' }) hs.extBut⟩
  · exact it.frame i _ _ L.st (fun b o e => L.inv.fin _ _ (L.le _ _ e)) (fun o e => hs.extBut _ o K.ID e) (fun b o e => I'.fin _ _ (L.le _ _ e))
  · rw [Array.toList_push]
    exact hrs.append (Reps.one hr)
end
section
variable {W:Wd} {fx:Fx} {F:Fz} {σ:Sto} {s:Shared} {cs:Scope} {x:String} {caps:List String} {cl:List (Str × Addr)} {I D C:Addr} {us:List V} {St:Nat → Heap → Prop} {n:Nat} {elt iter:PySem.Expr} {ifs:List PySem.Expr} {px pos:Pos}
  {tc:TB} {te:TE}
theorem comp_loop {R:Result → Shared → Prop} {K:List V → Prop} (hte:SE W (relS cs fx.env.scope) n elt te) (htc:SI W (relS cs fx.env.scope) n ifs tc) (hrm:Room fx.A n) (KO:CompOk cs fx.env.scope x caps) (hcl:clOf fx.env cs.names [] = some cl)
    (LK:LF W fx I D C) (it:Iter W F I us St) (L:LI W fx F F σ us I D C St 0 [] s) (hf:fits us.length) (hK:compI x tc te (capSto σ caps) us [] K)
    (hR:∀ G s' l,LZ W fx F G σ D C l s' → l.length ≤ us.length → K l → R (.ok .next) s') :
    codeAny W.M fx.A (.compStart (.ListComp elt [⟨.Name (nm x) px,iter,ifs,0⟩] cs pos) 0 (.ref I) (.ref D) (compEnvC cs cl C fx.env)) R s:=by
  have hh:=L.inv.ok.handled
  have loop:∀ s,LI W fx F F σ us I D C St 0 [] s → codeAny W.M fx.A (.compLoop (.ListComp elt [⟨.Name (nm x) px,iter,ifs,0⟩] cs pos) 0 (.ref I) (.ref D) (compEnvC cs cl C fx.env)) R s:=fun s L => by
    have hlocal:(compEnvC cs cl C fx.env).kindOf (nm x) = some .local:=lookup_relabel_local KO.x
    have hp:((compEnvC cs cl C fx.env).scope.kind == .class || ((compEnvC cs cl C fx.env).scope.kind == .module && (compEnvC cs cl C fx.env).locals != (compEnvC cs cl C fx.env).globals)) = false:=by
      rw [show (compEnvC cs cl C fx.env).scope.kind = cs.kind from rfl,KO.kind]; rfl
    refine codeAny_compLoop_tests (fun k s' => ∃ G i acc,LI W fx F G σ us I D C St i acc s' ∧ i ≤ us.length ∧ acc.length ≤ i ∧ k = us.length - i ∧ compI x tc te (capSto σ caps) (us.drop i) acc K) ?_ us.length
      ⟨F,0,[],L,Nat.zero_le _,Nat.le_refl _,rfl,by simpa using hK⟩
    rintro k s' ⟨G,i,acc,L',hi,hacc,rfl,hk⟩
    cases hu:us[i]? with
    | none =>
      have hil:i = us.length:=Nat.le_antisymm hi (by simpa using hu)
      subst hil
      refine (it.done fx.A s' _ _ hh L'.st fun h' tk hs => ?_).out
      rw [List.drop_length] at hk
      exact hR G _ acc (L'.last LK it hs) hacc hk
    | some u =>
      have hil:i < us.length:=(List.getElem?_eq_some_iff.mp hu).1
      have hdr:us.drop i = u :: us.drop (i + 1):=by
        rw [List.drop_eq_getElem_cons hil]
        rw [(List.getElem?_eq_some_iff.mp hu).2]
      rw [hdr] at hk
      refine (it.item fx.A i s' _ _ u hh hu L'.st fun v h₁ tk hr hst hs => ?_).out
      have L₁:=L'.next (tk:=tk) LK it hs hst
      obtain ⟨m,hm⟩:=L₁.ns
      refine wpAny_assign_Name (wpAny_storeName_local hlocal hm (fun h₂ hm₂ hs₂ => ?_) hp)
      have L₂:=L₁.bind (tk:=tk + 1) LK it hs₂ hm₂
      have J:=L₂.inv.comp KO hcl hm₂ (v:=v) (u:=u) (by simp) (hr.mono L'.le)
      refine wpAny_mono (htc (fx.comp W (compEnvC cs cl C fx.env) h₂ G) G _ _ _ _ _ rfl hrm J hk (fun ℓ ℓ ℓ x ℓ => x.elim)).out (fun b s₃ h₃ => ?_) fun ℓ ℓ x => x
      obtain ⟨G₃,σ₃,hG₃,J₃,rfl,h₃⟩:=h₃
      cases b with
      | false =>
        simp only [Bool.false_eq_true,if_false] at h₃ ⊢
        have L₃:=L₂.leave LK it J₃
        exact ⟨us.length - (i + 1),by omega,G₃,i + 1,acc,L₃,hil,Nat.le_succ_of_le hacc,rfl,h₃⟩
      | true =>
        simp only [if_true] at h₃ ⊢
        refine wpAny_mono (hte (fx.comp W (compEnvC cs cl C fx.env) h₂ G) G₃ _ s₃ _ _ _ rfl hrm J₃ h₃ (fun ℓ ℓ ℓ x ℓ => x.elim)).out (fun y s₄ h₄ => ?_) fun ℓ ℓ x => x
        obtain ⟨G₄,σ₄,u₄,hG₄,J₄,ru,rfl,h₄⟩:=h₄
        have L₄:=L₂.leave LK it J₄
        refine L₄.push LK it ru ?_ fun s₅ L₅ => ⟨us.length - (i + 1),by omega,G₄,i + 1,acc ++ [u₄],L₅,hil,by simp; omega,rfl,h₄⟩
        have:=fits_size hf
        omega
  exact codeAny_compStart_list (loop _ L) (it.self fx.A 0 s _ _ hh L.st (loop _ L)).out
end
end Mine
end
noncomputable section
open PySem PySem.W PyProof.Rows PySem.Spec PySem.Calls
set_option Elab.async false
set_option maxRecDepth 100000
set_option linter.unusedVariables false
namespace Mine
section
variable {W:Wd} {sc:Scope} {n:Nat} {pos pos':Pos} {k:Nat}
theorem Inv.freezeP {fx:Fx} {F:Fz} {σ:Sto} {s:Shared} {a:Addr} {l:List V} (I:Inv W fx F σ s) (h:OwnAt fx F s.heap a l) (hn:NoOwn fx σ s a) :
    ∃ G,F.le G ∧ Inv W fx G σ s ∧ Rep G (.ref a) (.list l):=by
  obtain ⟨⟨o,xs,ep,ho,hc,hd,hr,_⟩,hF,hB⟩:=h
  have hle:F.le (F.add a o):=Fz.le_add hF
  refine ⟨F.add a o,hle,?_,.list Fz.add_self hc hd (hr.mono hle)⟩
  refine { I with tab:=I.tab.keeps hle fun ℓ e => e,fin:=fun b ob q => ?_,fok:=fun b ob q => ?_,f0:=I.f0.trans hle,fnew:=fun b ob q => ?_,vars:=fun y sl e => ?_ }
  all_goals try unfold Fz.add at q
  · by_cases z:b = a
    · subst z; simp at q; subst q; exact ho
    · simp [z] at q; exact I.fin _ _ q
  · by_cases z:b = a
    · subst z; simp at q; subst q
      exact ⟨(by rw [hc]; exact fun e => (nomatch e)),fun es n e => (by rw [hd] at e; cases e),fun v e => (by rw [hd] at e; cases e)⟩
    · simp [z] at q; exact I.fok _ _ q
  · by_cases z:b = a
    · subst z; exact .inr hB
    · simp [z] at q; exact I.fnew _ _ q
  · obtain ⟨w,hw,hsw⟩:=I.vars y sl e
    refine ⟨w,hw,?_⟩
    cases sl with
    | val u => exact Rep.mono hle hsw
    | own k =>
      obtain ⟨b,rfl,hb⟩:=hsw
      refine ⟨b,rfl,hb.to hle (fun ℓ e => e) ?_⟩
      have:b ≠ a:=by rintro rfl; exact hn y k e hw
      unfold Fz.add
      simp [this,hb.nF]
    | app z =>
      obtain ⟨b,a',e1,e2,e4⟩:=hsw
      exact ⟨b,a',e1,hle _ _ e2,e4⟩
theorem se_of_so {e:PySem.Expr} {t:TO} (h:SO W sc n e t):SE W sc n e (fun Q X => t (fun l σ => Q (.list l) σ) X) :=
  fun fx F σ s Q X E hsc hrm I k hE => (h fx F σ s _ X E hsc hrm I k hE).imp fun v s₁ k₁ => by
    obtain ⟨G,σ',l,a,hG,I',rfl,ho,hap,hQ⟩:=k₁
    obtain ⟨G',hG',I'',r⟩:=I'.freezeP ho fun y k hy hh => hap y k a hy hh rfl
    exact ⟨G',σ',_,hG.trans hG',I'',r,hQ⟩
noncomputable def tComp (x:String) (caps:List String) (ti:TE) (tc:TB) (te:TE):TO:=fun Q X σ => (∀ y ∈ caps,∃ u,get σ y = some (.val u)) ∧
  ti (fun v σ₁ => (∀ y ∈ caps,∃ u,get σ₁ y = some (.val u)) ∧ ∃ us,itemsOf v = some us ∧ fits us.length ∧ compI x tc te (capSto σ₁ caps) us [] (fun l => Q l σ₁)) X σ
theorem LZ.own {fx:Fx} {F G:Fz} {σ:Sto} {D C:Addr} {l:List V} {s:Shared} (L:LZ W fx F G σ D C l s) (hB:fx.B D = none):OwnAt fx G s.heap D l:=by
  obtain ⟨xs,⟨o,m,ho,hc,hdn,hd⟩,hr⟩:=L.list
  exact ⟨⟨o,xs,m,ho,hc,hd,hr,hdn⟩,L.gD,hB⟩
theorem comp_core {cs:Scope} {x:String} {caps:List String} {elt iter:PySem.Expr} {ifs:List PySem.Expr} {px:Pos} {ti te:TE} {tc:TB} (hi:SE W sc n iter ti) (htc:SI W (relS cs sc) n ifs tc) (hte:SE W (relS cs sc) n elt te)
    (KO:CompOk cs sc x caps) (hs:∀ env x,foldedSetIterable iter env x = pure x)
    {fx:Fx} {F:Fz} {σ:Sto} {s:Shared} {X:Value → Prop} {E:Value → Shared → Prop} {R:List V → Sto → Prop} {use:Option (Value → Sem Unit)} {Q:Value → Shared → Prop} (hsc:fx.env.scope = sc) (hrm:Room fx.A n) (I:Inv W fx F σ s)
    (h:tComp x caps ti tc te R X σ) (hE:∀ c e s',X c → Raised W fx c e s' → E e s')
    (hR:∀ G σ₁ D C l s',F.le G → fx.B D = none → fx.B C = none → C ≠ W.P → C ≠ fx.env.locals → D ≠ C → LZ W fx G G σ₁ D C l s' → R l σ₁ → compPost W.M fx.A E use Q (.ref D) C (.ok .next) s') :
    Wp W fx.A (comprehension (.ListComp elt [⟨.Name (nm x) px,iter,ifs,0⟩] cs pos) cs fx.env pos' (newList []) false (eval iter fx.env) use) Q E s:=by
  constructor
  refine wpAny_mono (?_:wpAny W.M fx.A _ Q E s) (fun ℓ ℓ x => x) fun ℓ ℓ x => x
  subst hsc
  obtain ⟨hc0,h⟩:=h
  obtain ⟨cl,hcl⟩:=I.comp_closure KO hc0
  · skip
    refine wpAny_comprehension_free (cl:=cl) rfl (hs _) (closure_of hcl) KO.kind KO.locals ?_
    refine wpAny_mono (hi fx F σ s _ _ E rfl hrm I h hE).out (fun v s₁ h₁ => ?_) fun ℓ ℓ x => x
    obtain ⟨F₁,σ₁,u,h01,I₁,ru,hcaps,us,hus,hf,hk⟩:=h₁
    refine wpAny_mono (iter_sound I₁ ru hus).out (fun it s₂ h₂ => ?_) fun ℓ ℓ x => x
    obtain ⟨Ia,St,rfl,hext,hnew,hit,hst⟩:=h₂
    have I₂:=I₁.ext hext
    refine wpAny_newObj_type (wpAny_newFunctionEnv KO.nocell (by intro y hy; simp at hy) (fun h₁ hns₁ hsb₁ => ?_) KO.kind)
    dsimp only at hns₁ hsb₁ ⊢
    generalize hH2:s₂.heap.push { cls:=.type "list",dict:=none,data:=.seq ([]:List Value).toArray } = H2 at hns₁ hsb₁ ⊢
    have hC:H2.objs.size = s₂.heap.objs.size + 1:=by rw [← hH2,Heap.size_push]
    have hDn:s₂.heap.get? s₂.heap.objs.size = none:=get_size _
    have hCn:s₂.heap.get? H2.objs.size = none:=by
      rw [hC]
      cases q:s₂.heap.get? (s₂.heap.objs.size + 1) with
      | none => rfl
      | some o => exact absurd (Heap.lt_size q) (Nat.not_lt.mpr (Nat.le_succ _))
    obtain ⟨oi,vs,hoi,hdi⟩:=hit.live _ _ hst
    have hilt:Ia < s₂.heap.objs.size:=Heap.lt_size hoi
    obtain ⟨i1,i2,i3⟩:=I₁.ne_of_fresh hnew
    obtain ⟨d1,d2,d3⟩:=I₂.ne_of_fresh hDn
    obtain ⟨c1,c2,c3⟩:=I₂.ne_of_fresh hCn
    have LK:LF W fx Ia s₂.heap.objs.size H2.objs.size:=⟨Nat.ne_of_lt hilt,by rw [hC]; exact Nat.ne_of_lt (Nat.lt_succ_of_lt hilt),by rw [hC]; exact Nat.ne_of_lt (Nat.lt_succ_self _),
      ⟨i1,d1,c1⟩,⟨i2,d2,c2⟩,⟨i3,d3,c3⟩,⟨I₁.fresh_B hnew,I₂.fresh_B hDn,I₂.fresh_B hCn⟩⟩
    have old:∀ b o,s₂.heap.get? b = some o → h₁.get? b = some o:=fun b o e => hsb₁.extBut b o (by rw [hC]; exact Nat.ne_of_lt (Nat.lt_succ_of_lt (Heap.lt_size e))) (Heap.get?_push_of_some _ (hH2 ▸ Heap.get?_push_of_some _ e))
    have hext':Ext s₂ { s₂ with heap:=h₁,toks:=s₂.toks + ([]:List (Str × Value)).length }:=Ext.mk' old
    have I₃:=I₂.ext hext'
    have hacc:h₁.get? s₂.heap.objs.size = some { cls:=.type "list",dict:=none,data:=.seq ([]:List Value).toArray }:=hsb₁.extBut _ _ LK.DC (Heap.get?_push_of_some _ (hH2 ▸ Heap.get?_push_size _ rfl))
    have L:LI W fx F₁ F₁ σ₁ us Ia s₂.heap.objs.size H2.objs.size St 0 [] { s₂ with heap:=h₁,toks:=s₂.toks + ([]:List (Str × Value)).length }:=by
      refine ⟨I₃,Fz.le.refl _,⟨I₁.fresh_F hnew,I₂.fresh_F hDn,I₂.fresh_F hCn⟩,?_,⟨#[],⟨_,_,hacc,rfl,rfl,rfl⟩,.nil⟩,⟨_,hns₁⟩,(NoOwn.fresh I₂ hDn).to I₂ fun y w hy => I₂.holds_to (s':={ s₂ with heap:=h₁,toks:=s₂.toks + ([]:List (Str × Value)).length }) (KeepX.of_keeps old) hy⟩
      exact hit.frame 0 _ _ hst (fun b o e => I₂.fin b o e) (fun o e => old _ o e) (fun b o e => I₃.fin b o e)
    refine comp_loop (K:=fun l => R l σ₁) hte htc hrm KO hcl LK hit L hf hk fun G s' l LZ' hl hK => ?_
    exact hR G σ₁ _ _ l s' (h01.trans LZ'.le) LK.b.2.1 LK.b.2.2 c1 c2 LK.DC { LZ' with le:=Fz.le.refl _ } hK
theorem so_comp {cs:Scope} {x:String} {caps:List String} {elt iter:PySem.Expr} {ifs:List PySem.Expr} {px:Pos} {ti te:TE} {tc:TB} (hi:SE W sc n iter ti) (htc:SI W (relS cs sc) n ifs tc) (hte:SE W (relS cs sc) n elt te)
    (KO:CompOk cs sc x caps) (hs:∀ env x,foldedSetIterable iter env x = pure x:=by intro _ _; rfl) :
    SO W sc n (.ListComp elt [⟨.Name (Str.ofString x) px,iter,ifs,0⟩] cs pos) (tComp x caps ti tc te) :=
  fun fx F σ s Q X E hsc hrm I h hE => by
    rw [eval_ListComp]
    refine comp_core (use:=none) hi htc hte KO hs hsc hrm I h hE fun G σ₁ D C l s' hG hBD hBC hCP hCL hDC L hQ => ?_
    obtain ⟨m,hm⟩:=L.ns
    refine ⟨m,hm,fun h' hsb => ?_⟩
    obtain ⟨m',o,es,ep,ho,hd,_⟩:=L.ns
    have hl:Loose W fx G σ₁ s' C:=Loose.of L.inv hCP L.gC hBC hCL ho (fun v e => by rw [hd] at e; cases e) (NoOwn.of_data L.inv ho fun xs n e => by rw [hd] at e; cases e)
    have I':Inv W fx G σ₁ { s' with heap:=h' }:=L.inv.poke2 hl hsb.extBut ⟨rfl,rfl⟩
    obtain ⟨⟨ol,xs,el,h1,h2,h5,h6,h7⟩,h3,h4⟩:=L.own hBD
    have hno:=L.no.to (s':={ s' with heap:=h' }) L.inv fun y w => hl.holds hsb.extBut
    exact ⟨G,σ₁,l,D,hG,I',rfl,⟨⟨ol,xs,el,hsb.extBut _ _ hDC h1,h2,h5,h6,h7⟩,h3,h4⟩,fun y k b hy hh e => hno y k hy (by rw [e]; exact hh),hQ⟩
theorem ss_assign_comp {cs:Scope} {x y:String} {caps:List String} {elt iter:PySem.Expr} {ifs:List PySem.Expr} {px py:Pos} {ti te:TE} {tc:TB} (hi:SE W sc n iter ti) (htc:SI W (relS cs sc) n ifs tc) (hte:SE W (relS cs sc) n elt te)
    (KO:CompOk cs sc x caps) (hk:storable sc y = true) (hs:∀ env x,foldedSetIterable iter env x = pure x:=by intro _ _; rfl)
    (hsw:∀ env,env.scope = sc → swapsWith (.ListComp elt [⟨.Name (nm x) px,iter,ifs,0⟩] cs pos) (some (.Name (nm y) py)) pos'.line env = pure true:=by intro e h; obtain ⟨_,_,_,_,_,_,_,_,_⟩:=e; dsimp only at h; subst h; with_unfolding_all rfl) :
    SS W sc n (.Assign [.Name (Str.ofString y) py] (.ListComp elt [⟨.Name (Str.ofString x) px,iter,ifs,0⟩] cs pos) pos') (fun P => tComp x caps ti tc te (fun l σ₁ => hasApp σ₁ y = false ∧ P.next (put σ₁ y (.own l))) P.exc) :=
  fun fx F σ s P E hsc hw hrm I h hE => by
    constructor
    rw [exec_Assign_Name_used _ _ _ _ (hsw _ hsc)]
    refine wpAny_bind (wpAny_standAt (wpAny_bind ?_))
    show wpAny _ fx.A (do let _ ← comprehension (.ListComp elt [⟨.Name (nm x) px,iter,ifs,0⟩] cs pos) cs fx.env _ (newList []) false (eval iter fx.env) (some (assign (.Name (nm y) py) fx.env))) _ _ s
    refine wpAny_bind (wpAny_mono (comp_core (use:=some (assign (.Name (nm y) py) fx.env)) (Q:=fun ℓ s' => PS W fx F P .next s') hi htc hte KO hs hsc hrm I h hE fun G σ₁ D C l s' hG hBD hBC hCP hCL hDC L hQ => ?_).out
      (fun ℓ s' hq => wpAny_pure (wpAny_pure hq)) fun ℓ ℓ e => e)
    obtain ⟨hap,hQ⟩:=hQ
    obtain ⟨m',o,es,ep,ho,hd,hrest⟩:=L.ns
    show wpAny _ fx.A (assign (.Name (nm y) py) fx.env (.ref D)) _ _ _
    refine wpAny_assign_Name (L.inv.store2 (sl:=.own l) hw (by rw [hsc]; exact hk) ⟨D,rfl,L.own hBD⟩ ⟨fun l' e z k b hz hg hh q => by cases q; exact L.no z k hg hh,fun ℓ z => no_app hap z⟩ (by intro q; cases q) fun s'' I'' hz => ?_)
    obtain ⟨z,hz,hsb⟩:=hz
    have hCz:C ≠ z:=by
      rcases hz with rfl | ⟨v,hv⟩
      · exact hCL
      · rintro rfl
        obtain ⟨o',h1,h2⟩:=hv
        rw [ho] at h1; cases h1
        rw [hd] at h2; cases h2
    have ho'':s''.heap.get? C = some o:=(hsb.2 C hCz).trans ho
    refine ⟨m',⟨o,es,ep,ho'',hd,hrest⟩,fun h' hsb' => ?_⟩
    have hl:Loose W fx G _ s'' C:=Loose.of I'' hCP L.gC hBC hCL ho'' (fun v e => by rw [hd] at e; cases e) (NoOwn.of_data I'' ho'' fun xs n e => by rw [hd] at e; cases e)
    exact ⟨G,_,hG,I''.poke2 (s':={ s'' with heap:=h' }) hl hsb'.extBut ⟨rfl,rfl⟩,hQ⟩
end
end Mine
end
noncomputable section
open PySem PySem.W PyProof.Rows PySem.Spec PySem.Calls
set_option Elab.async false
set_option maxRecDepth 100000
set_option linter.unusedVariables false
namespace Mine
section
variable {W:Wd} {sc:Scope} {n:Nat} {pos pos':Pos} {k:Nat}
noncomputable def putVals (σ:Sto):List String → List V → Sto
  | x :: xs,u :: us => putVals (put σ x (.val u)) xs us
  | _,_ => σ
inductive Stores (env:Env):List (Value → Sem Unit) → List String → Prop
  | nil:Stores env [] []
  | cons {f:Value → Sem Unit} {fs:List (Value → Sem Unit)} {x:String} {xs:List String}:(∀ (M:Model) (A:Around) (v:Value) (Q:Unit → Shared → Prop) (E:Value → Shared → Prop) (s:Shared),wpAny M A (storeName env (nm x) v) Q E s → wpAny M A (f v) Q E s) →
      Stores env fs xs → Stores env (f :: fs) (x :: xs)
theorem stores_bind (env:Env):∀ xs:List String,Stores env (xs.map fun x => bindName env (nm x)) xs
  | [] => .nil
  | x :: xs => .cons (fun ℓ ℓ ℓ ℓ ℓ ℓ h => bindName_ h) (stores_bind env xs)
theorem stores_assign (env:Env):∀ xs:List (String × Pos),Stores env ((assignEach (xs.map fun p => .Name (nm p.1) p.2) env).map (·.2)) (xs.map (·.1))
  | [] => .nil
  | x :: xs => .cons (fun ℓ ℓ ℓ ℓ ℓ ℓ h => assign_Name h) (stores_assign env xs)
theorem store_all {fx:Fx} {F:Fz} {A:Around} {E:Value → Shared → Prop} {Q:Unit → Shared → Prop} (hw:fx.w = true) {fs:List (Value → Sem Unit)} {xs:List String} (hs:Stores fx.env fs xs):∀ {vs:List Value} {us:List V} {σ:Sto} {s:Shared},
    Inv W fx F σ s → Reps F vs us → (∀ x ∈ xs,storable fx.env.scope x = true) → us.length = xs.length → (∀ s',Inv W fx F (putVals σ xs us) s' → Q () s') → wpAny W.M A (assignInOrder fs vs) Q E s:=by
  induction hs with
  | nil =>
    intro vs us σ s I hr _ hl hQ
    cases List.eq_nil_of_length_eq_zero hl
    obtain rfl:=hr.inv
    exact wpAny_pure (hQ _ I)
  | cons hf hfs ih =>
    intro vs us σ s I hr hk hl hQ
    cases us with
    | nil => cases hl
    | cons u us =>
      obtain ⟨v,w,rfl,a,b⟩:=hr.inv
      refine wpAny_bind (wpAny_holding (hf _ _ _ _ _ _ (I.store (sl:=.val u) hw (hk _ List.mem_cons_self) a fresh_val (by intro q; cases q) fun s' I' => ?_)))
      exact ih I' b (fun y hy => hk y (List.mem_cons_of_mem _ hy)) (Nat.succ.inj hl) hQ
noncomputable def unpackP (v:V) (m:Nat) (K:List V → Prop):Prop:=match v with
  | .tuple us => us.length = m ∧ K us
  | _ => False
theorem ss_unpack {e:PySem.Expr} {t:TE} {xs:List (String × Pos)} {tp:Pos} (h:SE W sc n e t) (hk:∀ x ∈ xs.map (·.1),storable sc x = true:=by decide +kernel)
    (hs:∀ env,swapsWithSole [.Tuple (xs.map fun p => .Name (nm p.1) p.2) k tp] e pos.line env = pure false:=by intro _; rfl)
    (hsw:∀ env,env.scope = sc → swappedStores [.Tuple (xs.map fun p => .Name (nm p.1) p.2) k tp] e env = pure none:=by intro e h; obtain ⟨_,_,_,_,_,_,_,_,_⟩:=e; dsimp only at h; subst h; with_unfolding_all rfl)
    (hst:∀ env,(assignEach (xs.map fun p => .Name (nm p.1) p.2) env).findIdx? (·.1) = none:=by intro _; rfl) (hlen:∀ env,(assignEach (xs.map fun p => .Name (nm p.1) p.2) env).length = xs.length:=by intro _; rfl) :
    SS W sc n (.Assign [.Tuple (xs.map fun p => .Name (nm p.1) p.2) k tp] e pos) (fun P => t (fun v σ₁ => unpackP v xs.length fun us => P.next (putVals σ₁ (xs.map (·.1)) us)) P.exc) :=
  fun fx F σ s P E hsc hw hrm I h' hE => by
    refine ⟨Assign_Tuple (wpAny_mono (h fx F σ s _ _ E hsc hrm I h' hE).out (fun v s₁ h₁ => ?_) fun ℓ ℓ x => x) (hs _) (hsw _ hsc)⟩
    obtain ⟨F₁,σ₁,u,h01,I₁,ru,h₁⟩:=h₁
    cases u with
    | tuple us =>
      obtain ⟨a,o,vs,ep,rfl,e1,hc,hd,hr⟩:=ru.inv
      obtain ⟨hl,hP⟩:=h₁
      have hsz:vs.size = us.length:=by simpa using hr.length
      refine wpAny_assign_Tuple (items:=vs) I₁.ok.handled ⟨o,I₁.fin _ _ e1,hc,ep,hd⟩ (by rw [hlen,hsz,hl]) (hst _) fun h' he => ?_
      have I₂:Inv W fx F₁ σ₁ { s₁ with heap:=h' }:=I₁.ext (Ext.mk' fun b ob q => he b ob (Nat.ne_of_lt (Heap.lt_size q)) q)
      refine store_all hw (stores_assign fx.env xs) I₂ hr (by rw [hsc]; exact hk) (by simpa using hl) fun s' I' => ?_
      exact ⟨F₁,_,h01,I',hP⟩
    | _ => exact h₁.elim
theorem ss_unpack_sw {e:PySem.Expr} {t:TE} {xs:List (String × Pos)} {tp:Pos} (h:SE W sc n e t) (hk:∀ x ∈ (xs.map (·.1)).reverse,storable sc x = true:=by decide +kernel)
    (hs:∀ env,swapsWithSole [.Tuple (xs.map fun p => .Name (nm p.1) p.2) k tp] e pos.line env = pure false:=by intro _; rfl)
    (hsw:∀ env,env.scope = sc → swappedStores [.Tuple (xs.map fun p => .Name (nm p.1) p.2) k tp] e env = pure (some (xs.map fun p => nm p.1)):=by intro e h; obtain ⟨_,_,_,_,_,_,_,_,_⟩:=e; dsimp only at h; subst h; with_unfolding_all rfl) :
    SS W sc n (.Assign [.Tuple (xs.map fun p => .Name (nm p.1) p.2) k tp] e pos) (fun P => t (fun v σ₁ => unpackP v xs.length fun us => P.next (putVals σ₁ (xs.map (·.1)).reverse us.reverse)) P.exc) :=
  fun fx F σ s P E hsc hw hrm I h' hE => by
    refine ⟨Assign_Tuple_swapped (wpAny_mono (h fx F σ s _ _ E hsc hrm I h' hE).out (fun v s₁ h₁ => ?_) fun ℓ ℓ x => x) (hs _) (hsw _ hsc)⟩
    obtain ⟨F₁,σ₁,u,h01,I₁,ru,h₁⟩:=h₁
    cases u with
    | tuple us =>
      obtain ⟨a,o,vs,ep,rfl,e1,hc,hd,hr⟩:=ru.inv
      obtain ⟨hl,hP⟩:=h₁
      have hsz:vs.size = us.length:=by simpa using hr.length
      have hn:(xs.map fun p => nm p.1).length = vs.size:=by rw [hsz,hl]; simp
      rw [hn]
      refine wpAny_unpackItems_tuple (items:=vs) I₁.ok.handled ⟨o,I₁.fin _ _ e1,hc,ep,hd⟩ fun h' he => ?_
      have I₂:Inv W fx F₁ σ₁ { s₁ with heap:=h' }:=I₁.ext (Ext.mk' fun b ob q => he b ob (Nat.ne_of_lt (Heap.lt_size q)) q)
      have hst:Stores fx.env ((xs.map fun p => nm p.1).reverse.map fun n => bindName fx.env n) (xs.map (·.1)).reverse:=by
        have:=stores_bind fx.env (xs.map (·.1)).reverse
        rw [← List.map_reverse,← List.map_reverse,List.map_map]
        rw [← List.map_reverse,List.map_map] at this
        exact this
      have hrr:∀ {vs:List Value} {us:List V},Reps F₁ vs us → Reps F₁ vs.reverse us.reverse:=by
        intro vs us h
        induction h using Reps.rec (motive_1:=fun ℓ ℓ ℓ => True) with
        | nil => exact .nil
        | cons a b _ ih => simp only [List.reverse_cons]; exact ih.append (Reps.one a)
        | _ => trivial
      refine store_all hw hst I₂ (hrr hr) (by rw [hsc]; exact hk) (by simpa using hl) fun s' I' => ?_
      exact ⟨F₁,_,h01,I',hP⟩
    | _ => exact h₁.elim
end
end Mine
end
noncomputable section
open PySem PySem.W PyProof.Rows PySem.Spec PySem.Calls
set_option Elab.async false
set_option maxRecDepth 100000
set_option linter.unusedVariables false
namespace Mine
structure Pend (W:Wd) (fx:Fx) (D:Addr) (o:Obj) (G:Fz) (l:List V):Prop where
  ok:FxOk W fx
  hB:fx.B D = none
  h0:fx.F₀ D = none
  cls:o.cls = .type "list"
  dct:o.dict = none
  ex:∃ xs ep,o.data = .seq xs ep ∧ Reps G xs.toList l
section
variable {W:Wd} {sc:Scope} {n:Nat} {pos pos':Pos} {k:Nat}
theorem Pend.of {fx:Fx} {G:Fz} {σ:Sto} {s:Shared} {D:Addr} {l:List V} (I:Inv W fx G σ s) (h:OwnAt fx G s.heap D l) (hn:NoOwn fx σ s D):∃ o,Pend W fx D o G l ∧ Inv W (fx.prot D o) G σ s:=by
  obtain ⟨⟨o,xs,ep,ho,hc,hd,hr,hdn⟩,hF,hB⟩:=h
  exact ⟨o,⟨I.ok,hB,I.f0_none hF,hc,hdn,xs,ep,hd,hr⟩,I.protect ⟨ho,I.P_ne_list ho hd,hF,hB,fun es n q => (by rw [hd] at q; cases q),fun v q => (by rw [hd] at q; cases q)⟩ hn⟩
theorem Pend.mono {fx:Fx} {G G':Fz} {D:Addr} {o:Obj} {l:List V} (p:Pend W fx D o G l) (h:G.le G'):Pend W fx D o G' l :=
  let ⟨xs,ep,hd,hr⟩:=p.ex; { p with ex:=⟨xs,ep,hd,hr.mono h⟩ }
theorem Pend.done {fx:Fx} {G:Fz} {σ:Sto} {s:Shared} {D:Addr} {o:Obj} {l:List V} (p:Pend W fx D o G l) (I:Inv W (fx.prot D o) G σ s):Inv W fx G σ s ∧ OwnAt fx G s.heap D l ∧ NoOwn fx σ s D:=by
  obtain ⟨xs,ep,hd,hr⟩:=p.ex
  exact ⟨I.unprot p.ok p.hB,⟨⟨o,xs,ep,I.prot_get fun es n q => (by rw [hd] at q; cases q),p.cls,hd,hr,p.dct⟩,I.prot_F p.h0,p.hB⟩,fun y l h => I.prot_own h⟩
theorem store_own {fx:Fx} {G:Fz} {σ:Sto} {s:Shared} {A:Around} {E:Value → Shared → Prop} {D:Addr} {o:Obj} {l:List V} {x:String} {Q:Unit → Shared → Prop} (p:Pend W fx D o G l) (I:Inv W (fx.prot D o) G σ s) (hw:fx.w = true)
    (hk:storable fx.env.scope x = true) (hap:hasApp σ x = false) (hQ:∀ s',Inv W fx G (put σ x (.own l)) s' → Q () s'):wpAny W.M A (storeName fx.env (nm x) (.ref D)) Q E s:=by
  obtain ⟨I',ho,hn⟩:=p.done I
  exact I'.store (sl:=.own l) hw hk ⟨D,rfl,ho⟩ ⟨fun l' e z k b hz hg hh q => by cases q; exact hn z k hg hh,fun ℓ z => no_app hap z⟩ (by intro q; cases q) hQ
theorem wp_in_cons {A:Around} {E:Value → Shared → Prop} {s:Shared} {t:Value → Sem Unit} {ts:List (Value → Sem Unit)} {x:Value} {xs:List Value} {Q:Unit → Shared → Prop}
    (h:wpAny W.M A (t x) (fun ℓ => wpAny W.M A (assignInOrder ts xs) Q E) E s):wpAny W.M A (assignInOrder (t :: ts) (x :: xs)) Q E s:=by
  show wpAny _ A (do holding xs (t x); assignInOrder ts xs) _ _ _
  exact wpAny_bind (wpAny_holding h)
theorem wp_in_nil {A:Around} {E:Value → Shared → Prop} {s:Shared} {Q:Unit → Shared → Prop} (h:Q () s):wpAny W.M A (assignInOrder [] []) Q E s:=wpAny_pure h
theorem ss_own2 {e1 e2:PySem.Expr} {t1:TO} {t2:TE} {x y:String} {px py tp:Pos} {k':Nat} {vp:Pos} (h1:SO W sc n e1 t1) (h2:SE W sc n e2 t2) (hx:storable sc x = true:=by decide +kernel) (hy:storable sc y = true:=by decide +kernel)
    (he1:∀ env,starEach [e1,e2] env = (false,eval e1 env) :: starEach [e2] env:=by intro _; rfl) (he2:∀ env,starEach [e2] env = (false,eval e2 env) :: starEach [] env:=by intro _; rfl)
    (hs:∀ env,swapsWithSole [.Tuple [.Name (nm x) px,.Name (nm y) py] k tp] (.Tuple [e1,e2] k' vp) pos.line env = pure false:=by intro _; rfl)
    (hsw:∀ env,env.scope = sc → swappedStores [.Tuple [.Name (nm x) px,.Name (nm y) py] k tp] (.Tuple [e1,e2] k' vp) env = pure (some [nm x,nm y]):=by intro e h; obtain ⟨_,_,_,_,_,_,_,_,_⟩:=e; dsimp only at h; subst h; with_unfolding_all rfl) :
    SS W sc n (.Assign [.Tuple [.Name (Str.ofString x) px,.Name (Str.ofString y) py] k tp] (.Tuple [e1,e2] k' vp) pos)
      (fun P => t1 (fun l σ₁ => t2 (fun u σ₂ => hasApp (put σ₂ y (.val u)) x = false ∧ P.next (put (put σ₂ y (.val u)) x (.own l))) (fun ℓ => False) σ₁) P.exc) :=
  fun fx F σ s P E hsc hw hrm I h hE => by
    refine ⟨Assign_Tuple_swapped (wpAny_Tuple (wpAny_items_cons (wpAny_mono (h1 fx F σ s _ _ E hsc hrm I h hE).out (fun v s₁ h₁ => ?_) fun ℓ ℓ x => x) (he1 _))) (hs _) (hsw _ hsc)⟩
    obtain ⟨F₁,σ₁,l,D,h01,I₁,rfl,ho,hn,h₁⟩:=h₁
    obtain ⟨o,p,J₁⟩:=Pend.of I₁ ho fun z k' hz hh => hn z k' D hz hh rfl
    refine wpAny_items_cons (wpAny_mono (h2 (fx.prot D o) F₁ σ₁ s₁ _ _ E hsc hrm J₁ h₁ (fun ℓ ℓ ℓ x ℓ => x.elim)).out (fun v s₂ h₂ => ?_) fun ℓ ℓ x => x) (he2 _)
    obtain ⟨F₂,σ₂,u,h12,J₂,ru,hap,hP⟩:=h₂
    refine wpAny_items_nil ⟨by rw [sizeLine_eq]; simp,?_⟩
    have J₃:=J₂.push { cls:=.type "tuple",data:=.seq [Value.ref D,v].toArray } s₂.toks
    refine wpAny_unpackItems_tuple (items:=#[Value.ref D,v]) J₃.ok.handled ⟨_,Heap.get?_push_size _ rfl,rfl,_,rfl⟩ fun h' he => ?_
    have J₄:Inv W (fx.prot D o) F₂ σ₂ { s₂ with heap:=h' }:=J₃.ext (Ext.mk' fun b ob q => he b ob (Nat.ne_of_lt (Heap.lt_size q)) q)
    show wpAny _ _ (assignInOrder [bindName fx.env (nm y),bindName fx.env (nm x)] [v,.ref D]) _ _ _
    refine wp_in_cons (bindName_ (J₄.store (sl:=.val u) (Q:=fun ℓ s' => wpAny W.M fx.A _ _ _ s') hw (by rw [show (fx.prot D o).env.scope = sc from hsc]; exact hy) ru fresh_val (by intro q; cases q) fun s₅ J₅ => ?_))
    refine wp_in_cons (bindName_ (store_own (p.mono h12) J₅ hw (by rw [hsc]; exact hx) hap fun s₆ I₆ => ?_))
    exact wp_in_nil ⟨F₂,_,h01.trans h12,I₆,hP⟩
theorem ss_own3 {e1 e2 e3:PySem.Expr} {t1 t3:TE} {t2:TO} {x y z:String} {px py pz tp:Pos} {k':Nat} {vp:Pos} (h1:SE W sc n e1 t1) (h2:SO W sc n e2 t2) (h3:SE W sc n e3 t3) (hx:storable sc x = true:=by decide +kernel) (hy:storable sc y = true:=by decide +kernel)
    (hz:storable sc z = true:=by decide +kernel) (he1:∀ env,starEach [e1,e2,e3] env = (false,eval e1 env) :: starEach [e2,e3] env:=by intro _; rfl) (he2:∀ env,starEach [e2,e3] env = (false,eval e2 env) :: starEach [e3] env:=by intro _; rfl)
    (he3:∀ env,starEach [e3] env = (false,eval e3 env) :: starEach [] env:=by intro _; rfl)
    (hs:∀ env,swapsWithSole [.Tuple [.Name (nm x) px,.Name (nm y) py,.Name (nm z) pz] k tp] (.Tuple [e1,e2,e3] k' vp) pos.line env = pure false:=by intro _; rfl)
    (hsw:∀ env,env.scope = sc → swappedStores [.Tuple [.Name (nm x) px,.Name (nm y) py,.Name (nm z) pz] k tp] (.Tuple [e1,e2,e3] k' vp) env = pure (some [nm x,nm y,nm z]):=by intro e h; obtain ⟨_,_,_,_,_,_,_,_,_⟩:=e; dsimp only at h; subst h; with_unfolding_all rfl) :
    SS W sc n (.Assign [.Tuple [.Name (Str.ofString x) px,.Name (Str.ofString y) py,.Name (Str.ofString z) pz] k tp] (.Tuple [e1,e2,e3] k' vp) pos)
      (fun P => t1 (fun u σ₁ => t2 (fun l σ₂ => t3 (fun w σ₃ => hasApp (put σ₃ z (.val w)) y = false ∧ P.next (put (put (put σ₃ z (.val w)) y (.own l)) x (.val u))) (fun ℓ => False) σ₂) P.exc σ₁) P.exc) :=
  fun fx F σ s P E hsc hw hrm I h hE => by
    refine ⟨Assign_Tuple_swapped (wpAny_Tuple (wpAny_items_cons (wpAny_mono (h1 fx F σ s _ _ E hsc hrm I h hE).out (fun v s₁ h₁ => ?_) fun ℓ ℓ x => x) (he1 _))) (hs _) (hsw _ hsc)⟩
    obtain ⟨F₁,σ₁,u,h01,I₁,ru,h₁⟩:=h₁
    refine wpAny_items_cons (wpAny_mono (h2 fx F₁ σ₁ s₁ _ _ E hsc hrm I₁ h₁ hE).out (fun v2 s₂ h₂ => ?_) fun ℓ ℓ x => x) (he2 _)
    obtain ⟨F₂,σ₂,l,D,h12,I₂,rfl,ho,hn,h₂⟩:=h₂
    obtain ⟨o,p,J₂⟩:=Pend.of I₂ ho fun z k' hz hh => hn z k' D hz hh rfl
    refine wpAny_items_cons (wpAny_mono (h3 (fx.prot D o) F₂ σ₂ s₂ _ _ E hsc hrm J₂ h₂ (fun ℓ ℓ ℓ x ℓ => x.elim)).out (fun v3 s₃ h₃ => ?_) fun ℓ ℓ x => x) (he3 _)
    obtain ⟨F₃,σ₃,w,h23,J₃,rw_,hap,hP⟩:=h₃
    refine wpAny_items_nil ⟨by rw [sizeLine_eq]; simp,?_⟩
    have J₄:=J₃.push { cls:=.type "tuple",data:=.seq [v,Value.ref D,v3].toArray } s₃.toks
    refine wpAny_unpackItems_tuple (items:=#[v,Value.ref D,v3]) J₄.ok.handled ⟨_,Heap.get?_push_size _ rfl,rfl,_,rfl⟩ fun h' he => ?_
    have J₅:Inv W (fx.prot D o) F₃ σ₃ { s₃ with heap:=h' }:=J₄.ext (Ext.mk' fun b ob q => he b ob (Nat.ne_of_lt (Heap.lt_size q)) q)
    show wpAny _ _ (assignInOrder [bindName fx.env (nm z),bindName fx.env (nm y),bindName fx.env (nm x)] [v3,.ref D,v]) _ _ _
    refine wp_in_cons (bindName_ (J₅.store (sl:=.val w) (Q:=fun ℓ s' => wpAny W.M fx.A _ _ _ s') hw (by rw [show (fx.prot D o).env.scope = sc from hsc]; exact hz) rw_ fresh_val (by intro q; cases q) fun s₆ J₆ => ?_))
    refine wp_in_cons (bindName_ (store_own (Q:=fun ℓ s' => wpAny W.M fx.A _ _ _ s') (p.mono h23) J₆ hw (by rw [hsc]; exact hy) hap fun s₇ I₇ => ?_))
    refine wp_in_cons (bindName_ (I₇.store (sl:=.val u) (Q:=fun ℓ s' => wpAny W.M fx.A _ _ _ s') hw (by rw [hsc]; exact hx) ((ru.mono h12).mono h23:SlotAt _ _ _ _ _ (.val u)) fresh_val (by intro q; cases q) fun s₈ I₈ => ?_))
    exact wp_in_nil ⟨F₃,_,(h01.trans h12).trans h23,I₈,hP⟩
end
end Mine
end
noncomputable section
open PySem PySem.W PyProof.Rows PySem.Spec PySem.Calls
set_option Elab.async false
set_option maxRecDepth 100000
set_option linter.unusedVariables false
namespace Mine
section
variable {prog:Program} {w:World} {A:Around} {E:Value → Shared → Prop} {s:Shared}
set_option tactic.hygienic true in
theorem setItem_any {l:Addr} {o:Obj} {items:Array Value} {ne:Nat} {k:Int} {t:Tok} {v x:Value} {j:Nat} {Q:Unit → Shared → Prop} (ho:s.heap.get? l = some o) (hc:o.cls = .type "list") (hdn:o.dict = none) (hd:o.data = .seq items ne)
    (hfit:Builtin.List.listFitsIndex k = true) (hj:seqIndex? k items.size = some j) (hx:items[j]? = some x)
    (hQ:∀ h',PlainL h' l (items.setIfInBounds j v) → Heap.SameBut l s.heap h' → Q () { s with heap:=h' }) :
    wpAny (model prog w) A (setItem (.ref l) (.int k t) v) Q E s:=by
  have hl:s.heap.IsList l items:=⟨o,ho,hc,ne,hd⟩
  unfold setItem
  try with_reducible refine wpAny_holding ?_
  first | refine wpAny_bind (wpAny_pure ?_) | skip
  refine wpAny_bind (wpAny_sequenceKey hl.typeIs (by decide) ?_)
  refine wpAny_bind (wpAny_callSpecial?_slot (name:=Str.ofString "__setitem__") hl.typeIs slot_list_setitem
    (wpAny_call_entry slot_list_setitem hl.typeIs entry_list_setitem ?_ (args_list_setitem _ _ _)))
  show wpAny _ _ (Builtin.List.listSubscript? (.int k t) >>= _) _ _ s
  refine wpAny_bind (wpAny_listSubscript_int hfit ?_)
  clear hfit
  obtain ⟨n',hd'⟩:=Obj.data_mapSeq hd (·.setIfInBounds j v)
  have hdict:(o.mapSeq (·.setIfInBounds j v)).dict = none:=by
    obtain ⟨c,d,dt,sl⟩:=o
    subst hd
    exact hdn
  have hfin:PlainL (s.heap.update l (Obj.mapSeq (·.setIfInBounds j v))) l (items.setIfInBounds j v) :=
    ⟨_,n',Heap.get?_update_self _ ho (Obj.isFreed_of_seq hd'),(Obj.cls_mapSeq ..).trans hc,hdict,hd'⟩
  have fin:∀ {P:Fin → Shared → Prop} {E':Value → Shared → Prop},(P (.done (.ret .none)) { s with heap:=s.heap.update l (Obj.mapSeq (·.setIfInBounds j v)) }) → wpAny (model prog w) A.in1 (setSeqItemAt l j v >>= fun ℓ => ret .none) P E' s:=fun hp =>
    wpAny_bind (wpAny_setSeqItemAt ho hd (wpAny_pure hp))
  have last:=hQ _ hfin (Heap.SameBut.update ..)
  cases k with
  | ofNat i =>
    have hi:i = j:=by
      unfold seqIndex? at hj
      simp only [Int.ofNat_eq_natCast] at hj
      split at hj
      · rename_i h; exact absurd h (by omega)
      · split at hj
        · simpa using hj
        · cases hj
    subst hi
    show wpAny _ _ ((seqItemAt l i >>= fun r => pure (r.map (i,·))) >>= _) _ _ s
    refine wpAny_bind (wpAny_bind (wpAny_seqItemAt ho hd (wpAny_pure ?_)))
    rw [hx]
    show wpAny _ _ (setSeqItemAt l i v >>= _) _ _ s
    refine wpAny_bind (wpAny_setSeqItemAt ho hd ?_)
    first
      | exact wpAny_bind (wpAny_pure (wpAny_pure ⟨.none,rfl,wpAny_pure last⟩))
      | exact wpAny_pure ⟨.none,rfl,wpAny_pure last⟩
  | negSucc i =>
    show wpAny _ _ ((Builtin.List.listItems (.ref l) >>= fun xs => pure ((seqIndex? (Int.negSucc i) xs.size).bind fun i => xs[i]?.map (i,·))) >>= _) _ _ s
    refine wpAny_bind (wpAny_bind ?_)
    show wpAny _ _ (seqItems? (.ref l) >>= _) _ _ s
    refine wpAny_bind (wpAny_seqItems ho hd (wpAny_pure (wpAny_pure ?_)))
    rw [hj]
    simp only [Option.bind_some,hx,Option.map_some]
    show wpAny _ _ (setSeqItemAt l j v >>= _) _ _ s
    refine wpAny_bind (wpAny_setSeqItemAt ho hd ?_)
    first
      | exact wpAny_bind (wpAny_pure (wpAny_pure ⟨.none,rfl,wpAny_pure last⟩))
      | exact wpAny_pure ⟨.none,rfl,wpAny_pure last⟩
theorem delItem_any {l:Addr} {o:Obj} {items:Array Value} {ne:Nat} {k:Int} {t:Tok} {j:Nat} {Q:Unit → Shared → Prop} (ho:s.heap.get? l = some o) (hc:o.cls = .type "list") (hdn:o.dict = none) (hd:o.data = .seq items ne)
    (hfit:Builtin.List.listFitsIndex k = true) (hj:seqIndex? k items.size = some j) (hsz:items.size ≤ sizeLine)
    (hQ:∀ h',PlainL h' l (items.eraseIdxIfInBounds j) → Heap.SameBut l s.heap h' → Q () { s with heap:=h' }) :
    wpAny (model prog w) A (delItem (.ref l) (.int k t)) Q E s:=by
  have hl:s.heap.IsList l items:=⟨o,ho,hc,ne,hd⟩
  refine wpAny_delItem_slot hl.typeIs (by decide) PySem.F.slot_list_delitem (wpAny_call_entry PySem.F.slot_list_delitem hl.typeIs PySem.F.entry_list_delitem ?_ (PySem.F.args_list_delitem_2 _ _))
  show wpAny _ _ (Builtin.List.listSubscript? (.int k t) >>= _) _ _ s
  refine wpAny_bind (wpAny_listSubscript_int hfit ?_)
  obtain ⟨n',hd'⟩:=Obj.data_mapSeq hd (·.eraseIdxIfInBounds j)
  have hdict:(o.mapSeq (·.eraseIdxIfInBounds j)).dict = none:=by
    obtain ⟨c,d,dt,sl⟩:=o
    subst hd
    exact hdn
  have hfin:PlainL (s.heap.update l (Obj.mapSeq (·.eraseIdxIfInBounds j))) l (items.eraseIdxIfInBounds j) :=
    ⟨_,n',Heap.get?_update_self _ ho (Obj.isFreed_of_seq hd'),(Obj.cls_mapSeq ..).trans hc,hdict,hd'⟩
  have last:=hQ _ hfin (Heap.SameBut.update ..)
  show wpAny _ _ (Builtin.List.listItems (.ref l) >>= _) _ _ s
  refine wpAny_bind ?_
  show wpAny _ _ (seqItems? (.ref l) >>= _) _ _ s
  refine wpAny_bind (wpAny_seqItems ho hd (wpAny_pure ?_))
  simp only [hj]
  show wpAny _ _ (updateSeq l (·.eraseIdxIfInBounds j) >>= _) _ _ s
  have hz:(items.eraseIdxIfInBounds j).size ≤ sizeLine + 1:=Nat.le_trans (MeetsSeq.size_erased items _) (Nat.le_succ_of_le hsz)
  refine wpAny_bind (wpAny_updateSeq ho hd (hz:=hsz) (_hz':=hz) ?_)
  first
    | exact wpAny_bind (wpAny_pure (wpAny_pure ⟨.none,rfl,last⟩))
    | exact wpAny_pure ⟨.none,rfl,last⟩
    | exact wpAny_pure ⟨.none,rfl,wpAny_pure last⟩
end
noncomputable def pIdx (k:Int) (m:Nat):Option Nat:=if 0 ≤ k then (if k < m then some k.toNat else none) else if -(m:Int) ≤ k then some (k + m).toNat else none
set_option tactic.hygienic true in
theorem pIdx_seq {k:Int} {m j:Nat} (h:pIdx k m = some j):seqIndex? k m = some j ∧ j < m ∧ -(m:Int) ≤ k ∧ k < m:=by
  unfold pIdx at h
  split at h
  · split at h
    · rename_i h1 h2
      cases h
      exact ⟨seqIndex_of h1 h2,by omega,by omega,h2⟩
    · cases h
  · split at h
    · rename_i h1 h2
      cases h
      exact ⟨seqIndex_neg (by omega) h2,by omega,h2,by omega⟩
    · cases h
theorem pIdx_fits {k:Int} {m j:Nat} (h:pIdx k m = some j) (hf:fits m):Builtin.List.listFitsIndex k = true:=by
  obtain ⟨_,_,h1,h2⟩:=pIdx_seq h
  unfold fits at hf
  unfold Builtin.List.listFitsIndex
  simp only [Bool.and_eq_true,decide_eq_true_eq]
  omega
theorem Reps.set {F:Fz}:∀ {vs:List Value} {us:List V} {v:Value} {u:V} (j:Nat),Reps F vs us → Rep F v u → Reps F (vs.set j v) (us.set j u)
  | _,_,_,_,_,.nil,_ => .nil
  | _,_,_,_,0,.cons a b,h => .cons h b
  | _,_,_,_,j + 1,.cons a b,h => .cons a (Reps.set j b h)
theorem Reps.erase {F:Fz}:∀ {vs:List Value} {us:List V} (j:Nat),Reps F vs us → Reps F (vs.eraseIdx j) (us.eraseIdx j)
  | _,_,_,.nil => .nil
  | _,_,0,.cons a b => b
  | _,_,j + 1,.cons a b => .cons a (Reps.erase j b)
section
variable {W:Wd} {sc:Scope} {n:Nat} {pos pos':Pos} {k:Nat}
theorem set_own {fx:Fx} {G:Fz} {σ:Sto} {s:Shared} {A:Around} {E:Value → Shared → Prop} {x:String} {l:List V} {a:Addr} {i:Int} {t:Tok} {j:Nat} {v:Value} {u:V} {Q:Unit → Shared → Prop} (I:Inv W fx G σ s) (hx:get σ x = some (.own l)) (hh:Holds fx.env s.heap x (.ref a))
    (hf:fits l.length) (hj:pIdx i l.length = some j) (hr:Rep G v u) (hQ:∀ s',Inv W fx G (put σ x (.own (l.set j u))) s' → Q () s'):wpAny W.M A (setItem (.ref a) (.int i t) v) Q E s:=by
  obtain ⟨v',hv',a',e',⟨⟨o,xs,ep,ho,hc,hd,hrs,hdn⟩,_,_⟩⟩:=I.vars x _ hx
  have:=holds_fun hv' hh
  subst this
  cases e'
  have hlen:xs.size = l.length:=by simpa using hrs.length
  obtain ⟨h1,h2,h3,h4⟩:=pIdx_seq hj
  have hlt:j < xs.size:=by rw [hlen]; exact h2
  refine setItem_any ho hc hdn hd (pIdx_fits hj hf) (by rw [hlen]; exact h1) (x:=xs[j]) (Array.getElem?_eq_getElem hlt) fun h' hp hs => hQ _ ?_
  obtain ⟨o2,n2,q1,q2,q3,q4⟩:=hp
  refine I.setOwn (tk:=s.toks) hx hh hs ⟨o2,_,n2,q1,q2,q4,?_,q3⟩
  rw [Array.toList_setIfInBounds]
  exact hrs.set j hr
noncomputable def tSet (x:String) (te ti:TE):TS:=fun P => te (fun u σ₁ => match get σ₁ x with
  | some (.own l) => ∀ a,ti (fun i σ₂ => get σ₂ x = some (.val (.ref a)) ∧ hasApp σ₂ x = false ∧ ∃ k,i = .int k ∧ fits l.length ∧ ∃ j,pIdx k l.length = some j ∧ P.next (put σ₂ x (.own (l.set j u)))) (fun ℓ => False) (put σ₁ x (.val (.ref a)))
  | _ => False) P.exc
theorem ss_set {x:String} {px:Pos} {sl e:PySem.Expr} {te ti:TE} (he:SE W sc n e te) (hi:SE W sc n sl ti)
    (hs:∀ env,swapsWith e (some (.Subscript (.Name (nm x) px) sl pos')) pos.line env = pure false:=by intro _; rfl)
    (hd:(nm x == ("__debug__":Str)) = false:=by decide) (hn:(nm x == ("__classdict__":Str)) = false:=by decide) :
    SS W sc n (.Assign [.Subscript (.Name (Str.ofString x) px) sl pos'] e pos) (tSet x te ti) :=
  fun fx F σ s P E hsc hw hrm I h hE => by
    refine ⟨wpAny_Assign_Subscript (wpAny_mono (he fx F σ s _ _ E hsc hrm I h hE).out (fun v s₁ h₁ => ?_) fun ℓ ℓ x => x) (hs _)⟩
    obtain ⟨F₁,σ₁,u,h01,I₁,ru,h₁⟩:=h₁
    cases q:get σ₁ x with
    | none => rw [q] at h₁; cases h₁
    | some slot =>
      rw [q] at h₁
      cases slot with
      | own l =>
        obtain ⟨v₀,hv,a,rfl,ho⟩:=I₁.vars x _ q
        refine wpAny_Name (load_of I₁ hv hn ?_).out hd
        refine ((hidden (A:=fx.A) (R:=fun i σ₂ => ∃ k,i = .int k ∧ fits l.length ∧ ∃ j,pIdx k l.length = some j ∧ P.next (put σ₂ x (.own (l.set j u)))) hi hsc hrm I₁ q hv ?_).imp fun vi s₂ h₂ => ?_).out
        · have h':=h₁ a
          simpa only [put_put] using h'
        · obtain ⟨G,σ',i,hG,I',ri,⟨k,rfl,hf,j,hj,hP⟩,hx',hh'⟩:=h₂
          obtain ⟨_,rfl⟩:=ri.inv
          exact set_own I' hx' hh' hf hj (ru.mono hG) fun s' I'' => ⟨G,_,h01.trans hG,I'',hP⟩
      | _ => cases h₁
noncomputable def tAugSet (x:String) (op:Operator) (i:Int) (te:TE):TS:=fun P σ => match get σ x with
  | some (.own l) => fits l.length ∧ ∃ j old,pIdx i l.length = some j ∧ at? l i = some old ∧ ∀ a,te (fun u σ₂ => get σ₂ x = some (.val (.ref a)) ∧ hasApp σ₂ x = false ∧ iopP op old u fun r => P.next (put σ₂ x (.own (l.set j r)))) (fun ℓ => False) (put σ x (.val (.ref a)))
  | _ => False
theorem ss_augset {x:String} {px:Pos} {sl e:PySem.Expr} {op:Operator} {i:Int} {te:TE} (hi:Lit W sl i) (he:SE W sc n e te)
    (ha:∀ ov iv new,augStore sl ov iv new = (do holding [new,ov,iv] (setItem ov iv new); release [new,ov,iv] []; pure .next):=by intro _ _ _; rfl)
    (hd:(nm x == ("__debug__":Str)) = false:=by decide) (hn:(nm x == ("__classdict__":Str)) = false:=by decide) :
    SS W sc n (.AugAssign (.Subscript (.Name (Str.ofString x) px) sl pos') op e pos) (tAugSet x op i te) :=
  fun fx F σ s P E hsc hw hrm I h hE => by
    unfold tAugSet at h
    cases q:get σ x with
    | none => rw [q] at h; cases h
    | some slot =>
      rw [q] at h
      cases slot with
      | own l =>
        obtain ⟨hf,j,old,hj,hat,h⟩:=h
        obtain ⟨v₀,hv,a,rfl,ho⟩:=I.vars x _ q
        refine ⟨wpAny_AugAssign_Subscript_any (wpAny_Name (load_of I hv hn ?_).out hd) ha⟩
        refine (hi.out _ _ _ _ _ fun t tk => ?_).out
        have I₁:=I.ext (.tok s tk)
        obtain ⟨T,id,_,_,hg⟩:=(OwnAt.item (W:=W) (A:=fx.A) (σ:=σ) (s:={ s with toks:=tk }) (t:=t) (E:=E) (Q:=fun v s' => s' = { s with toks:=tk } ∧ Rep F v old) ho hf hat fun v hr => ⟨rfl,hr⟩).on
        refine wpAny_mono hg (fun v s₂ h₂ => ?_) fun ℓ ℓ x => x
        obtain ⟨rfl,ro⟩:=h₂
        obtain ⟨⟨o,xs,ep,h1,h2,h3,h4,h5⟩,hF,hB⟩:=ho
        obtain ⟨J,C⟩:=I₁.hide q hv h1
        refine wpAny_mono (he (fx.prot a o) F _ _ _ _ E hsc hrm J (h a) (fun ℓ ℓ ℓ x ℓ => x.elim)).out (fun vi s₂ h₂ => ?_) fun ℓ ℓ x => x
        obtain ⟨G,σ',u,hG,J',ru,hx',hap,hop⟩:=h₂
        refine ((iop_sound (A:=fx.A) J' (ro.mono hG) ru hop).imp fun v' s₃ h₃ => ?_).out
        obtain ⟨G',r,hG',J'',rr,hP⟩:=h₃
        obtain ⟨K,hK⟩:=J''.unhide I.ok hB (I.f0_none hF) hx' h2 h3 (h4.mono (hG.trans hG')) h5 (no_app hap)
        exact set_own K (by rw [get_put,if_pos rfl]) hK hf hj rr fun s' I'' => ⟨G',_,hG.trans hG',I'',by rw [put_put]; exact hP⟩
      | _ => cases h
noncomputable def tDel (x:String) (ti:TE):TS:=fun P σ => match get σ x with
  | some (.own l) => ∀ a,ti (fun i σ₂ => get σ₂ x = some (.val (.ref a)) ∧ hasApp σ₂ x = false ∧ ∃ k,i = .int k ∧ fits l.length ∧ ∃ j,pIdx k l.length = some j ∧ P.next (put σ₂ x (.own (l.eraseIdx j)))) (fun ℓ => False) (put σ x (.val (.ref a)))
  | _ => False
theorem ss_del {x:String} {px:Pos} {sl:PySem.Expr} {ti:TE} (hi:SE W sc n sl ti) (hd:(nm x == ("__debug__":Str)) = false:=by decide) (hn:(nm x == ("__classdict__":Str)) = false:=by decide) :
    SS W sc n (.Delete [.Subscript (.Name (Str.ofString x) px) sl pos'] pos) (tDel x ti) :=
  fun fx F σ s P E hsc hw hrm I h hE => by
    unfold tDel at h
    cases q:get σ x with
    | none => rw [q] at h; cases h
    | some slot =>
      rw [q] at h
      cases slot with
      | own l =>
        obtain ⟨v₀,hv,a,rfl,ho⟩:=I.vars x _ q
        refine ⟨wpAny_Delete (wpAny_deleteEach_cons (delete_Subscript (wpAny_Name (load_of I hv hn ?_).out hd)))⟩
        refine ((hidden (A:=fx.A) (R:=fun i σ₂ => ∃ k,i = .int k ∧ fits l.length ∧ ∃ j,pIdx k l.length = some j ∧ P.next (put σ₂ x (.own (l.eraseIdx j)))) hi hsc hrm I q hv ?_).imp fun vi s₂ h₂ => ?_).out
        · have h':=h a
          simpa only [put_put] using h'
        · obtain ⟨G,σ',i,hG,I',ri,⟨k,rfl,hf,j,hj,hP⟩,hx',hh'⟩:=h₂
          obtain ⟨_,rfl⟩:=ri.inv
          obtain ⟨v',hv',a',e',⟨⟨o,xs,ep,ho,hc,hd',hrs,hdn⟩,_,_⟩⟩:=I'.vars x _ hx'
          have:=holds_fun hv' hh'
          subst this
          cases e'
          have hlen:xs.size = l.length:=by simpa using hrs.length
          obtain ⟨h1,h2,h3,h4⟩:=pIdx_seq hj
          refine delItem_any ho hc hdn hd' (pIdx_fits hj hf) (by rw [hlen]; exact h1) (by rw [hlen]; exact fits_size hf) fun h' hp hs => wpAny_deleteEach_nil ?_
          obtain ⟨o2,n2,q1,q2,q3,q4⟩:=hp
          refine ⟨G,_,hG,I'.setOwn (tk:=s₂.toks) hx' hh' hs ⟨o2,_,n2,q1,q2,q4,?_,q3⟩,hP⟩
          have:(xs.eraseIdxIfInBounds j).toList = xs.toList.eraseIdx j:=by
            unfold Array.eraseIdxIfInBounds
            rw [dif_pos (by rw [hlen]; exact h2)]
            simp
          rw [this]
          exact hrs.erase j
      | _ => cases h
end
end Mine
end
noncomputable section
open PySem PySem.W PyProof.Rows PySem.Spec PySem.Calls
set_option Elab.async false
set_option maxRecDepth 100000
set_option linter.unusedVariables false
namespace Mine
noncomputable def repL {α:Type} (l:List α) (n:Int):List α:=(List.replicate n.toNat l).flatten
noncomputable def binP2 (op:Operator) (a b:V) (K:V → Prop):Prop:=match a with
  | .list x => (match b with
    | .list y => (op = .Add ∧ fits (x.length + y.length)) ∧ K (.list (x ++ y))
    | .int n => (op = .Mult ∧ -10000 ≤ n ∧ n ≤ 10000 ∧ fits (x.length * n.toNat)) ∧ K (.list (repL x n))
    | _ => False)
  | .str x => (match b with
    | .int n => (op = .Mult ∧ -10000 ≤ n ∧ n ≤ 10000 ∧ fits (x.length * n.toNat)) ∧ K (.str (repL x n))
    | b => binP op (.str x) b K)
  | a => binP op a b K
theorem Reps.flat {F:Fz} {vs:List Value} {us:List V} (h:Reps F vs us):∀ n:Nat,Reps F (List.replicate n vs).flatten (List.replicate n us).flatten
  | 0 => .nil
  | n + 1 => by
    rw [List.replicate_succ,List.replicate_succ,List.flatten_cons,List.flatten_cons]
    exact h.append (Reps.flat h n)
section
variable {W:Wd}
theorem foldl_append_toList:∀ (n:Nat) (x acc:Array Nat),((List.replicate n x).foldl (· ++ ·) acc).toList = acc.toList ++ (List.replicate n x.toList).flatten
  | 0,x,acc => by simp
  | n + 1,x,acc => by
    rw [List.replicate_succ,List.foldl_cons,foldl_append_toList n x,List.replicate_succ,List.flatten_cons]
    simp
set_option tactic.hygienic true in
theorem bin2_sound {A:Around} {fx:Fx} {F:Fz} {σ:Sto} {s:Shared} {op:Operator} {va vb:Value} {a b:V} {K:V → Prop} {E:Value → Shared → Prop} (I:Inv W fx F σ s) (ra:Rep F va a) (rb:Rep F vb b)
    (h:binP2 op a b K):Wp W A (binaryOp op va vb) (PV W fx F σ K) E s:=by
  have back:binP op a b K → Wp W A (binaryOp op va vb) (PV W fx F σ K) E s:=bin_sound I ra rb
  cases a with
  | list x =>
    cases b with
    | list y =>
      obtain ⟨⟨rfl,hf⟩,hK⟩:=h
      obtain ⟨l,o,vs,ep,rfl,e,hc,hd,hr⟩:=ra.inv
      obtain ⟨l2,o2,vs2,ep2,rfl,e2,hc2,hd2,hr2⟩:=rb.inv
      obtain ⟨cls,dd,data,sl⟩:=o
      obtain ⟨cls2,dd2,data2,sl2⟩:=o2
      simp only at hc hd hc2 hd2
      subst hc hd hc2 hd2
      have ho:=I.fin _ _ e
      have ho2:=I.fin _ _ e2
      have e1:vs.size = x.length:=by simpa using hr.length
      have e3:vs2.size = y.length:=by simpa using hr2.length
      constructor
      refine concat_meets ⟨_,ho,rfl⟩ ⟨_,ho2,rfl⟩ noFill_list_add seq_list_add PySem.F.slot_list_add PySem.F.entry_list_add (PySem.F.args_list_add_2 _ _) (list_addW l l2 vs vs2 ep ep2 dd dd2 sl sl2 (by rw [e1,e3]; exact fits_size hf)) ⟨ho,ho2,?_⟩
      obtain ⟨G,hG,I',r⟩:=I.newList (tk:=s.toks) (hr.append hr2)
      have:(vs.toList ++ vs2.toList).toArray = vs ++ vs2:=by simp
      rw [this] at I'
      exact ⟨G,_,hG,I',r,hK⟩
    | int n =>
      obtain ⟨⟨rfl,h1,h2,hf⟩,hK⟩:=h
      obtain ⟨l,o,vs,ep,rfl,e,hc,hd,hr⟩:=ra.inv
      obtain ⟨u,rfl⟩:=rb.inv
      obtain ⟨cls,dd,data,sl⟩:=o
      simp only at hc hd
      subst hc hd
      have ho:=I.fin _ _ e
      have e1:vs.size = x.length:=by simpa using hr.length
      have hsz:vs.size * n.toNat ≤ 2 ^ 24:=by rw [e1]; unfold fits at hf; omega
      constructor
      refine wpAny_binaryOp_repeat_ref (T:="list") (U:="int") (by decide) ⟨_,ho,rfl⟩ (fun s' => typeIs_int s' n u) noFill_list_mul PySem.F.fills_int_mul PySem.F.slot_int_rmul repeat_list PySem.F.slot_int_index.lookup
        (call_meets PySem.F.slot_int_rmul (typeIs_int s n u) PySem.F.entry_int_rmul (PySem.F.args_int_rmul_2 _ _) (lm_int_rmul_list_any n u l vs ep dd sl)
          ⟨ho,rfl,⟨_,ho,rfl⟩,call_meets PySem.F.slot_list_mul ⟨_,ho,rfl⟩ PySem.F.entry_list_mul (PySem.F.args_list_mul_2 _ _)
            (lm_list_mul_any l vs ep dd sl n u (by simp [Builtin.List.listFitsIndex]; omega) (by omega) (by simp [Builtin.List.listTooLong,sizeLine]; omega))
            ⟨ho,?_⟩⟩)
      rw [show vs = vs.toList.toArray by simp,listMul_foldl_if]
      obtain ⟨G,hG,I',r⟩:=I.newList (tk:=s.toks) (hr.flat n.toNat)
      exact ⟨G,_,hG,I',r,hK⟩
    | _ => exact h.elim
  | str x =>
    cases b with
    | int n =>
      obtain ⟨⟨rfl,h1,h2,hf⟩,hK⟩:=h
      generalize hx:x = x' at ra
      obtain ⟨y,t,rfl,rfl⟩:=ra.inv
      subst hx
      obtain ⟨u,rfl⟩:=rb.inv
      have hl:y.length = y.cps.toList.length:=by simp [Str.length]
      unfold fits at hf
      rw [← hl] at hf
      constructor
      have hne:∀ m:Nat,(List.replicate m ([]:List Nat)).flatten = []:=fun m => by induction m with
        | zero => rfl
        | succ m ih => rw [List.replicate_succ,List.flatten_cons,ih]; rfl
      refine P.mul_str (by simp only [Bool.or_eq_false_iff,decide_eq_false_iff_not]; omega) (fun h3 ℓ h4 => ?_) (fun ℓ ℓ => by unfold Builtin.Str.tooLong sizeLine; exact decide_eq_false (by omega)) ?_
      · have:(y.length:Int) * n ≤ 10000:=by
          have e:((y.length * n.toNat:Nat):Int) = (y.length:Int) * n:=by rw [Int.natCast_mul,Int.toNat_of_nonneg (by omega)]
          rw [← e]; exact_mod_cast hf
        have h5:(y.length:Int) ≤ (2 ^ 63 - 1) / n:=(Int.le_ediv_iff_mul_le (by omega)).mpr (by omega)
        omega
      · split
        · rename_i h3
          have e0:repL y.cps.toList n = []:=by unfold repL; rw [show n.toNat = 0 by omega]; rfl
          rw [e0] at hK
          exact ⟨by decide,fin_str I (x:=Str.empty) hK _ _⟩
        · split
          · rename_i h3 h4
            have e0:repL y.cps.toList n = y.cps.toList:=by
              unfold repL
              simp only [Bool.or_eq_true,beq_iff_eq] at h4
              rcases h4 with rfl | h4
              · simp
              · have:y.cps.toList = []:=List.length_eq_zero_iff.mp (by rw [← hl]; exact h4)
                rw [this,hne]
            rw [e0] at hK
            exact fin_str I (x:=y) hK t s.toks
          · have e0:((⟨(List.replicate n.toNat y.cps).foldl (· ++ ·) #[]⟩:Str)).cps.toList = repL y.cps.toList n:=by
              show ((List.replicate n.toNat y.cps).foldl (· ++ ·) #[]).toList = _
              rw [foldl_append_toList]; rfl
            refine ⟨?_,fin_str I (x:=⟨(List.replicate n.toNat y.cps).foldl (· ++ ·) #[]⟩) (by rw [e0]; exact hK) _ _⟩
            show ((List.replicate n.toNat y.cps).foldl (· ++ ·) #[]).size ≤ sizeLine
            rw [← Array.length_toList,foldl_append_toList]
            have:([] ++ (List.replicate n.toNat y.cps.toList).flatten).length = n.toNat * y.length:=by
              rw [List.nil_append,List.length_flatten,List.map_replicate,List.sum_replicate_nat,hl]
            rw [show (#[]:Array Nat).toList = [] from rfl,this,sizeLine_eq,Nat.mul_comm]
            omega
    | _ => exact back h
  | _ => exact back h
variable {sc:Scope} {n:Nat} {pos:Pos}
noncomputable def tBin2 (op:Operator) (l r:TE):TE:=fun Q X σ => l (fun a σ₁ => r (fun b σ₂ => binP2 op a b fun u => Q u σ₂) X σ₁) X σ
theorem se_bin2 {op:Operator} {l r:PySem.Expr} {tl tr:TE} (hl:SE W sc n l tl) (hr:SE W sc n r tr):SE W sc n (.BinOp l op r pos) (tBin2 op tl tr) :=
  fun fx F σ s Q X E hsc hrm I h hE => by
    refine wp_BinOp ((hl fx F σ s _ X E hsc hrm I h hE).imp fun va s₁ h₁ => ?_)
    obtain ⟨F₁,σ₁,a,h01,I₁,ra,h₁⟩:=h₁
    refine (hr fx F₁ σ₁ s₁ _ X E hsc hrm I₁ h₁ hE).imp fun vb s₂ h₂ => ?_
    obtain ⟨F₂,σ₂,b,h12,I₂,rb,h₂⟩:=h₂
    refine (bin2_sound I₂ (ra.mono h12) rb h₂).imp fun v s₃ h₃ => ?_
    obtain ⟨F₃,u,h23,I₃,ru,h₃⟩:=h₃
    exact ⟨F₃,σ₂,u,(h01.trans h12).trans h23,I₃,ru,h₃⟩
end
end Mine
end
noncomputable section
open PySem PySem.W PyProof.Rows PySem.Spec PySem.Calls
set_option Elab.async false
set_option maxRecDepth 100000
set_option linter.unusedVariables false
namespace Mine
noncomputable def isT (T:String):V → Prop
  | .str _ => T = "str"
  | .bytes _ => T = "bytes"
  | _ => False
section
variable {W:Wd} {sc:Scope} {n:Nat} {pos:Pos} {k:Nat}
theorem isT_type {F:Fz} {s:Shared} {T:String} {v:Value} {u:V} (h:isT T u) (r:Rep F v u):s.TypeIs v T ∧ ∀ a,v = .ref a → ∃ ob,s.heap.get? a = some ob ∧ ob.dict = none:=by
  cases u with
  | str x =>
    have h:T = "str":=h
    subst h
    obtain ⟨_,_,rfl,rfl⟩:=r.inv
    exact ⟨typeIs_str _ _ _,fun a e => (nomatch e)⟩
  | bytes b =>
    have h:T = "bytes":=h
    subst h
    obtain ⟨_,_,rfl,rfl⟩:=r.inv
    exact ⟨typeIs_bytes _ _ _,fun a e => (nomatch e)⟩
  | _ => exact h.elim
theorem se_meth {o e:PySem.Expr} {r:List PySem.Expr} {name:Str} {T id:String} {P:List V → (V → Prop) → Prop} {ap:Pos} {to:TE} {ta:TG} (cb:CB W (.builtin id) P) (ho:SE W sc n o to) (ha:SG W sc n (e :: r) ta)
    (pa:PlainAttrs T) (slot:PySem.Slot T name id) (hty:typeOf (.builtin id) = pure (.type "method_descriptor"))
    (hline:(ap.endLine == pos.line) = true:=by decide)
    (hbase:∀ env,attributeBase o name env (eval o env) = eval o env:=by intro _; rfl)
    (hfew:∀ env,((backTo pos (starEach (e :: r) env)).all (fun x => !x.1) && (backToKw pos (keywordEach [] env)).all (fun x => x.1.isSome)
      && decide ((e :: r).length + ([]:List Keyword).length + (if ([]:List Keyword).isEmpty then 0 else 1) < 30)) = true:=by intro _; rfl) (hp:plainArgs e r:=by intro _ _; exact ⟨rfl,rfl⟩) :
    SE W sc n (.Call (.Attribute o name ap) (e :: r) [] pos) (fun Q X => to (fun u => fun σ₁ => isT T u ∧ ta (fun us σ₂ => P (u :: us) fun v => Q v σ₂) X σ₁) X) :=
  fun fx F σ s Q X E hsc hrm I h hE => by
    refine ⟨wpAny_Call_method_lateS (hbase _) (hfew _) hline (wpAny_mono (ho fx F σ s _ X E hsc hrm I h hE).out (fun ov s₁ h₁ => ?_) fun ℓ ℓ x => x)⟩
    obtain ⟨F₁,σ₁,u,h01,I₁,ru,hT,h₁⟩:=h₁
    obtain ⟨hT1,hT2⟩:=isT_type (s:=s₁) hT ru
    refine ⟨T,id,pa,slot,hty,hT1,hT2,?_⟩
    have hsg:=(ha fx F₁ σ₁ s₁ _ X E pos hsc hrm I₁ h₁ hE).out
    rw [(hp _ pos).1] at hsg ⊢
    refine Calls.callWith_builtin (by show (false || (backTo pos (starEach r fx.env)).any (·.1)) = false; rw [(hp _ pos).2]; rfl) (Calls.evalArgs_plain (x:=eval e fx.env) (rest:=backTo pos (starEach r fx.env)) ?_)
    refine wpAny_mono hsg (fun vs s₂ h₂ => ?_) fun ℓ ℓ x => x
    obtain ⟨F₂,σ₂,us,h12,I₂,rs,h₂⟩:=h₂
    refine ((cb fx.A fx F₂ σ₂ s₂ (ov :: vs) (u :: us) _ E I.ok.handled I₂ (.cons (ru.mono h12) rs) h₂).imp fun v s₃ h₃ => ?_).out
    obtain ⟨F₃,w,h23,I₃,rw_,h₃⟩:=h₃
    exact ⟨F₃,σ₂,w,(h01.trans h12).trans h23,I₃,rw_,h₃⟩
theorem se_meth0 {o:PySem.Expr} {name:Str} {T id:String} {P:List V → (V → Prop) → Prop} {ap:Pos} {to:TE} (cb:CB W (.builtin id) P) (ho:SE W sc n o to)
    (pa:PlainAttrs T) (slot:PySem.Slot T name id) (hty:typeOf (.builtin id) = pure (.type "method_descriptor"))
    (hline:(ap.endLine == pos.line) = true:=by decide)
    (hbase:∀ env,attributeBase o name env (eval o env) = eval o env:=by intro _; rfl) :
    SE W sc n (.Call (.Attribute o name ap) [] [] pos) (fun Q X => to (fun u => fun σ₁ => isT T u ∧ P [u] fun v => Q v σ₁) X) :=
  fun fx F σ s Q X E hsc hrm I h hE => by
    refine ⟨wpAny_Call_method_lateS (hbase _) rfl hline (wpAny_mono (ho fx F σ s _ X E hsc hrm I h hE).out (fun ov s₁ h₁ => ?_) fun ℓ ℓ x => x)⟩
    obtain ⟨F₁,σ₁,u,h01,I₁,ru,hT,h₁⟩:=h₁
    obtain ⟨hT1,hT2⟩:=isT_type (s:=s₁) hT ru
    refine ⟨T,id,pa,slot,hty,hT1,hT2,?_⟩
    refine Calls.callWith_builtin rfl (PySem.evalArgs_none ?_)
    refine ((cb fx.A fx F₁ σ₁ s₁ [ov] [u] _ E I.ok.handled I₁ (Reps.one ru) h₁).imp fun v s₃ h₃ => ?_).out
    obtain ⟨F₃,w,h23,I₃,rw_,h₃⟩:=h₃
    exact ⟨F₃,σ₁,w,h01.trans h23,I₃,rw_,h₃⟩
inductive isalnumP (us:List V) (K:V → Prop):Prop
  | mk (x:List Nat) (e:us = [.str x]) (k:K (.bool (Txt.isalnum ⟨x.toArray⟩)))
theorem cb_isalnum:CB W (.builtin "str.isalnum") isalnumP:=by
  rintro A fx F σ s vs us K E hh I r ⟨x,rfl,hK⟩
  obtain ⟨v,rfl,rv⟩:=r.inv1
  obtain ⟨x,t,rfl,rfl⟩:=rv.inv
  constructor
  exact SC.isalnum ⟨F,_,.refl F,I,.bool _,by simpa using hK⟩
inductive isasciiP (us:List V) (K:V → Prop):Prop
  | mk (x:List Nat) (e:us = [.str x]) (k:K (.bool (Txt.isascii ⟨x.toArray⟩)))
theorem cb_isascii:CB W (.builtin "str.isascii") isasciiP:=by
  rintro A fx F σ s vs us K E hh I r ⟨x,rfl,hK⟩
  obtain ⟨v,rfl,rv⟩:=r.inv1
  obtain ⟨x,t,rfl,rfl⟩:=rv.inv
  constructor
  exact SC.isascii ⟨F,_,.refl F,I,.bool _,by simpa using hK⟩
noncomputable def joinL (sep:List Nat):List (List Nat) → List Nat
  | [] => []
  | x :: r => x ++ r.flatMap (sep ++ ·)
theorem join_fold (sep:Str):∀ (r:List Str) (acc:Array Nat),(r.foldl (fun acc p => acc ++ sep.cps ++ p.cps) acc).toList = acc.toList ++ (r.map (·.cps.toList)).flatMap (sep.cps.toList ++ ·)
  | [],acc => by simp
  | p :: r,acc => by
    rw [List.foldl_cons,join_fold sep r]
    simp [List.append_assoc]
theorem join_list_eq (sep:Str) (ys:List Str):(Txt.join sep ys).cps.toList = joinL sep.cps.toList (ys.map (·.cps.toList)):=by
  unfold Txt.join Builtin.Str.glued
  cases ys with
  | nil => rfl
  | cons y r =>
    show ((r.foldl (fun acc p => acc ++ sep.cps ++ p.cps) y.cps)).toList = _
    rw [join_fold]
    simp [joinL]
inductive joinP (us:List V) (K:V → Prop):Prop
  | mk (sep:List Nat) (ys:List (List Nat)) (e:us = [.str sep,.list (vstrs ys)]) (f:fits ((ys.map (·.length)).sum + ys.length * sep.length)) (k:K (.str (joinL sep ys)))
theorem cb_join:CB W (.builtin "str.join") joinP:=by
  rintro A fx F σ s vs us K E hh I r ⟨sep,ys,rfl,hf,hK⟩
  obtain ⟨v,v',rfl,rv,rv'⟩:=r.inv2
  obtain ⟨x,t,rfl,rfl⟩:=rv.inv
  generalize hx:vstrs ys = l at rv'
  obtain ⟨a,o,xs,ep,rfl,e,hc,hd,hrs⟩:=rv'.inv
  subst hx
  obtain ⟨zs,h1,h2⟩:=strsAre_of hrs
  constructor
  refine PyProof.Rows.join_list (items:=xs) (ys:=zs) ⟨o,I.fin _ _ e,hc,ep,hd⟩ h1 ?_ fun t' k => fin_str I ?_ _ _
  · unfold fits at hf
    have e1:(ys.map (·.length)).sum = (zs.map (·.length)).sum:=by
      rw [← h2,List.map_map]
      rfl
    have e2:ys.length = zs.length:=by rw [← h2]; simp
    have e3:x.cps.toList.length = x.length:=by simp [Str.length]
    rw [e1,e2,e3] at hf
    omega
  · rw [join_list_eq,h2]; exact hK
noncomputable def findC (l:List Nat) (c lo hi:Nat):Int:=match (List.range' lo (hi - lo)).find? (fun i => l[i]? == some c) with
  | some i => i
  | none => -1
theorem occ_rest (s sub:Str) (hi:Nat):∀ (l:List Nat) (st:Array Nat × Nat),1 ≤ st.fst.size → (forIn l st (StrLaws.occBody s sub hi 1)).run.fst = st.fst
  | [],st,h => rfl
  | a :: l,st,h => by
    rw [List.forIn_cons]
    unfold StrLaws.occBody
    rw [if_neg (fun q => by have:=q.1.1.1; omega)]
    exact occ_rest s sub hi l _ h
theorem subAt_one (x:Str) (c i:Nat):Builtin.Str.subAt x ⟨#[c]⟩ i = (x.cps.toList[i]? == some c):=by
  have h:(x.cps.extract i (i + 1)).toList = (x.cps.toList.drop i).take 1:=by rw [Array.toList_extract,List.extract_eq_take_drop,Nat.add_sub_cancel_left]
  show (x.cps.extract i (i + 1) == #[c]) = _
  rw [Bool.eq_iff_iff,beq_iff_eq,beq_iff_eq,← Array.toList_inj,h]
  by_cases q:i < x.cps.toList.length
  · rw [List.drop_eq_getElem_cons q,List.getElem?_eq_getElem q,Option.some.injEq]
    exact ⟨fun e => (List.cons.inj e).1,fun e => congrArg (fun y => [y]) e⟩
  · rw [List.drop_eq_nil_of_le (Nat.le_of_not_lt q),List.getElem?_eq_none (Nat.le_of_not_lt q)]
    exact ⟨(fun e => nomatch e),(fun e => nomatch e)⟩
theorem occ_find (x:Str) (c hi:Nat):∀ (l:List Nat) (free:Nat),(∀ i ∈ l,free ≤ i) →
    (forIn l ((#[]:Array Nat),free) (StrLaws.occBody x ⟨#[c]⟩ hi 1)).run.fst.toList = (match l.find? (fun i => decide (i + 1 ≤ hi) && (x.cps.toList[i]? == some c)) with | some i => [i] | none => [])
  | [],free,_ => rfl
  | a :: l,free,hf => by
    rw [List.forIn_cons]
    unfold StrLaws.occBody
    have ha:free ≤ a:=hf a List.mem_cons_self
    by_cases hc:a + 1 ≤ hi ∧ Builtin.Str.subAt x ⟨#[c]⟩ a = true
    · rw [if_pos ⟨⟨⟨by simp,ha⟩,hc.1⟩,hc.2⟩]
      have e:=occ_rest x ⟨#[c]⟩ hi l (#[].push a,a + 1) (by simp)
      show (forIn l (#[].push a,a + 1) (StrLaws.occBody x ⟨#[c]⟩ hi 1)).run.fst.toList = _
      rw [e]
      have h2:=hc.2
      rw [subAt_one] at h2
      rw [List.find?_cons,show (decide (a + 1 ≤ hi) && (x.cps.toList[a]? == some c)) = true by rw [h2]; simpa using hc.1]
      rfl
    · rw [if_neg (fun q => hc ⟨q.1.2,q.2⟩)]
      have ih:=occ_find x c hi l free fun i h => hf i (List.mem_cons_of_mem _ h)
      show (forIn l (#[],free) (StrLaws.occBody x ⟨#[c]⟩ hi 1)).run.fst.toList = _
      rw [ih,List.find?_cons]
      have:(decide (a + 1 ≤ hi) && (x.cps.toList[a]? == some c)) = false:=by
        rw [← subAt_one]
        rw [Bool.and_eq_false_iff]
        by_cases h1:a + 1 ≤ hi
        · right
          cases q:Builtin.Str.subAt x ⟨#[c]⟩ a with
          | true => exact absurd ⟨h1,q⟩ hc
          | false => rfl
        · left; simpa using h1
      rw [this]
theorem find_congr {α:Type} {p q:α → Bool}:∀ {l:List α},(∀ a ∈ l,p a = q a) → l.find? p = l.find? q
  | [],_ => rfl
  | a :: l,h => by
    rw [List.find?_cons,List.find?_cons,h a List.mem_cons_self,find_congr fun b hb => h b (List.mem_cons_of_mem _ hb)]
theorem find_clip (l:List Nat) (c lo hi:Nat):(List.range' lo (hi + 1 - lo)).find? (fun k => decide (k + 1 ≤ hi) && (l[k]? == some c)) = (List.range' lo (hi - lo)).find? (fun k => l[k]? == some c):=by
  by_cases h:lo ≤ hi
  · rw [Nat.succ_sub h,List.range'_concat,List.find?_append]
    have e1:(List.range' lo (hi - lo)).find? (fun k => decide (k + 1 ≤ hi) && (l[k]? == some c)) = (List.range' lo (hi - lo)).find? (fun k => l[k]? == some c):=find_congr fun k hk => by
      have:=(List.mem_range'_1.mp hk).2
      rw [Nat.add_sub_of_le h] at this
      rw [decide_eq_true (show k + 1 ≤ hi from this),Bool.true_and]
    have e2:([lo + 1 * (hi - lo)]:List Nat).find? (fun k => decide (k + 1 ≤ hi) && (l[k]? == some c)) = none:=by
      rw [Nat.one_mul,Nat.add_sub_of_le h,List.find?_cons_of_neg (by rw [decide_eq_false (Nat.not_succ_le_self hi)]; exact Bool.false_ne_true)]
      rfl
    rw [e1,e2,Option.or_none]
  · have h:=Nat.lt_of_not_le h
    rw [Nat.sub_eq_zero_of_le h,Nat.sub_eq_zero_of_le (Nat.le_of_lt h)]
    rfl
inductive findP (us:List V) (K:V → Prop):Prop
  | mk (x:List Nat) (c:Nat) (i j:Int) (e:us = [.str x,.str [c],.int i,.int j]) (hi:0 ≤ i) (hj:0 ≤ j) (hl:j ≤ x.length) (k:K (.int (findC x c i.toNat j.toNat)))
theorem gives_find4 (x y:Str) (i j:Int) (t u v w:Tok):Gives (Builtin.«str.find» ⟨[.str x t,.str y u,.int i v,.int j w],[]⟩) (.int (match Builtin.Str.occurrences x y (fromIndex x.length i) (min (fromIndex x.length j) x.length) 1 with | k :: _ => (k:Int) | [] => -1)):=by
  show Gives (match Builtin.Str.occurrences x y (fromIndex x.length i) (min (fromIndex x.length j) x.length) 1 with | k :: _ => retInt k | [] => (do rule "str.find.not-found"; retInt (-1))) _
  cases Builtin.Str.occurrences x y (fromIndex x.length i) (min (fromIndex x.length j) x.length) 1 with
  | nil => exact .rule (.of_eq rfl)
  | cons k _ => exact .of_eq rfl
theorem cb_find:CB W (.builtin "str.find") findP:=by
  rintro A fx F σ s vs us K E hh I r ⟨x,c,i,j,rfl,hi,hj,hjl,hK⟩
  cases r with
  | cons r1 r =>
  obtain ⟨v2,v3,v4,rfl,r2,r3,r4⟩:=r.inv3
  generalize hx:x = x' at r1
  obtain ⟨x,t,rfl,rfl⟩:=r1.inv
  subst hx
  generalize hy:([c]:List Nat) = y' at r2
  obtain ⟨y,u,rfl,rfl⟩:=r2.inv
  obtain rfl:y = ⟨#[c]⟩:=str_ext'.mp hy.symm
  obtain ⟨tv,rfl⟩:=r3.inv; obtain ⟨tw,rfl⟩:=r4.inv
  constructor
  refine call_gives PySem.F.slot_str_find (typeIs_str _ _ _) PySem.F.entry_str_find (PySem.F.args_str_find_4 _ _ _ _) (gives_find4 x ⟨#[c]⟩ i j t u tv tw) ?_
  have hl:x.length = x.cps.toList.length:=by simp [Str.length]
  obtain ⟨a,rfl⟩:=Int.eq_ofNat_of_zero_le hi
  obtain ⟨b,rfl⟩:=Int.eq_ofNat_of_zero_le hj
  have e1:∀ a:Nat,fromIndex x.length (a:Int) = a:=fun a => by unfold fromIndex; rw [if_neg (Int.not_lt.mpr (Int.natCast_nonneg _))]; rfl
  have hb:b ≤ x.length:=by rw [hl]; exact Int.ofNat_le.mp hjl
  rw [e1,e1,Nat.min_eq_left hb,StrLaws.occ_eq,occ_find x c _ _ _ (fun k hk => (List.mem_range'_1.mp hk).1)]
  rw [find_clip]
  rw [Int.toNat_natCast,Int.toNat_natCast] at hK
  unfold findC at hK
  cases q:(List.range' a (b - a)).find? (fun k => x.cps.toList[k]? == some c) with
  | none => rw [q] at hK; exact fin_int I hK _ _
  | some k => rw [q] at hK; exact fin_int I hK _ _
end
end Mine
end
noncomputable section
open PySem PySem.W PyProof.Rows PySem.Spec PySem.Calls
set_option Elab.async false
set_option maxRecDepth 100000
set_option linter.unusedVariables false
namespace Mine
section
variable {W:Wd} {sc:Scope} {n:Nat} {pos pos':Pos} {k:Nat}
theorem se_false {e:PySem.Expr}:SE W sc n e (fun ℓ ℓ ℓ => False):=fun ℓ ℓ ℓ ℓ ℓ ℓ ℓ ℓ ℓ ℓ h ℓ => h.elim
theorem ss_false {st:Stmt}:SS W sc n st (fun ℓ ℓ => False):=fun ℓ ℓ ℓ ℓ ℓ ℓ ℓ ℓ ℓ ℓ h ℓ => h.elim
inductive isiP (us:List V) (K:V → Prop):Prop
  | str (x:List Nat) (e:us = [.str x,.ty "str"]) (k:K (.bool true))
  | byt (x:List UInt8) (e:us = [.bytes x,.ty "str"]) (k:K (.bool false))
theorem cb_isi:CB W (.builtin "isinstance") isiP:=by
  rintro A fx F σ s vs us K E hh I r (⟨x,rfl,h⟩ | ⟨x,rfl,h⟩)
  · constructor
    obtain ⟨v,v',rfl,rv,rv'⟩:=r.inv2
    obtain ⟨_,_,rfl,rfl⟩:=rv.inv; obtain rfl:=rv'.inv
    exact IsiPair.str_str ⟨F,_,.refl F,I,.bool _,h⟩
  · constructor
    obtain ⟨v,v',rfl,rv,rv'⟩:=r.inv2
    obtain ⟨b,t,rfl,rfl⟩:=rv.inv; obtain rfl:=rv'.inv
    refine call_isinstance (S:=fun ℓ R s => R (.ok (.ret (.bool false))) { s with toks:=s.toks + 1 }) (fun ℓ ℓ ℓ ℓ s hs => ?_) ⟨F,_,.refl F,I.ext (.tok s _),.bool _,h⟩
    obtain ⟨h,g,d,t,os⟩:=s
    exact isinstance_outer (isinstance_nested_false_bytes rfl rfl (by rw [isSubtype_type]; kernel_rfl) hs)
theorem se_isi_bt {x bt:String} {p p1 p2:Pos} {tp:Addr} (g:BltV W (nm "isinstance") (.builtin "isinstance")) (gt:GlobV W (nm bt) (.ref tp)) (ht:W.base.get? tp = some { cls:=.type "tuple",data:=.seq [Value.type "bytes",Value.type "bytearray"].toArray })
    (hk:sc.names.lookup (nm "isinstance") = some .globalImplicit:=by decide +kernel) (hk2:sc.names.lookup (nm bt) = some .globalImplicit:=by decide +kernel)
    (hd:(nm x == ("__debug__":Str)) = false:=by decide) (hn:(nm x == ("__classdict__":Str)) = false:=by decide) (hd2:(nm bt == ("__debug__":Str)) = false:=by decide) :
    SE W sc n (.Call (.Name (Str.ofString "isinstance") p) [.Name (Str.ofString x) p1,.Name (Str.ofString bt) p2] [] pos) (fun Q X => tName x (fun u σ₁ => (∃ b,u = .bytes b) ∧ Q (.bool true) σ₁) X) :=
  fun fx F σ s Q X E hsc hrm I h hE => by
    refine wp_Call_Name (blt_sound I g (by subst hsc; exact hk) (by decide) ⟨?_⟩)
    refine PyProof.Rows.callWith_builtin1 (wpAny_items_cons (wpAny_Name (name_sound (X:=X) I hn h).out hd |> fun q => wpAny_mono q (fun v s₁ h₁ => ?_) fun ℓ ℓ x => x) rfl) rfl rfl
    obtain ⟨F₁,σ₁,u,h01,I₁,ru,⟨b,rfl⟩,hQ⟩:=h₁
    refine wpAny_items_cons (glob_sound I₁ gt (by subst hsc; exact hk2) hd2 (wpAny_items_nil ?_)).out rfl
    obtain ⟨b,t,rfl,rfl⟩:=ru.inv
    refine call_isinstance (isinstance_tuple (x:=.bytes b t) (Tx:="bytes") (cs:=[Value.type "bytes",Value.type "bytearray"]) (vs:=[true,false]) ⟨?_,?_,trivial⟩) ⟨rfl,I₁.win.stays _ _ ht,fun tk => ⟨F₁,σ₁,_,h01,I₁.ext (.tok s₁ tk),.bool true,hQ⟩⟩
    · exact Answers.of_true rfl PySem.F.sub_bytes_bytes
    · intro dep tk _ _ _ _ s hs
      obtain ⟨h,g,d,t',os⟩:=s
      exact isinstance_nested_false_bytes rfl rfl (by rw [isSubtype_type]; kernel_rfl) (hs.2 (t' + 1))
theorem se_call_kw1 {x:Str} {a:Addr} {kwn:Str} {P:List V → (V → Prop) → (Value → Prop) → Prop} {e ke:PySem.Expr} {p kp:Pos} {t tk:TE} (sf:SF W n a [kwn] P) (g:GlobV W x (.ref a)) (hfn:∃ o fd,W.base.get? a = some o ∧ o.data = .func fd)
    (he:SE W sc n e t) (hke:SE W sc n ke tk)
    (hk:sc.names.lookup x = some .globalImplicit:=by decide +kernel) (hd:(x == ("__debug__":Str)) = false:=by decide) (hp:plainArgs e []:=by intro _ _; exact ⟨rfl,rfl⟩)
    (hkt:∀ env,keywordEach [⟨some kwn,ke,kp⟩] env = [(some kwn,eval ke env)]:=by intro _; rfl) :
    SE W sc n (.Call (.Name x p) [e] [⟨some kwn,ke,kp⟩] pos) (fun Q X => t (fun u => tk (fun w σ₂ => P [u,w] (fun v => Q v σ₂) X) X) X) :=
  fun fx F σ s Q X E hsc hrm I h hE => by
    obtain ⟨o,fd,ho,hd'⟩:=hfn
    refine ⟨wpAny_Call_Name_kw (glob_sound I g (by subst hsc; exact hk) hd ?_).out⟩
    refine callWith_function_kw (o:=o) (fd:=fd) ?_
    rw [(hp _ pos).1,hkt]
    refine evalArgs_kw (x:=eval e fx.env) (rest:=[]) rfl (Calls.spliced_cons (wpAny_mono (he fx F σ s _ X E hsc hrm I h hE).out (fun v s₁ h₁ => Calls.spliced_nil ?_) fun ℓ ℓ x => x))
    obtain ⟨F₁,σ₁,u,h01,I₁,ru,h₁⟩:=h₁
    refine wpAny_evalAll_cons (wpAny_bind (wpAny_mono (hke fx F₁ σ₁ s₁ _ X E hsc hrm I₁ h₁ hE).out (fun w s₂ h₂ => wpAny_bind (wpAny_standAt (wpAny_pure (wpAny_evalAll_nil ?_)))) fun ℓ ℓ x => x))
    obtain ⟨F₂,σ₂,uw,h12,I₂,ruw,h₂⟩:=h₂
    refine ⟨⟨I₂.win.stays _ _ ho,hd'⟩,?_⟩
    have:=sf fx F₂ σ₂ s₂ [v,w] [u,uw] _ X E hrm I₂ (.cons (ru.mono h12) (Reps.one ruw)) (by simp) h₂ hE
    refine (this.imp fun v s₃ h₃ => ?_).out
    obtain ⟨F₃,r,h23,I₃,rr,h₃⟩:=h₃
    exact ⟨F₃,σ₂,r,(h01.trans h12).trans h23,I₃,rr,h₃⟩
theorem sf_kw1 {a:Addr} {fd:FuncData} {body:List Stmt} {x y:String} {t:TS} (WL:W.base.NoLimit) (FA:FnAt W a fd body) (hb:SL W fd.scope n body t)
    (hbind:∀ s v w,W.base.StaysIn s.heap → BindsTo s fd ⟨[v],[(nm y,w)]⟩ (bindsOf [x,y] [v,w])) (hnd:[x,y].Nodup) (hk:∀ z ∈ [x,y],storable fd.scope z = true) :
    SF W (n + 1) a [nm y] (fun us K X => us.length = 2 ∧ t (retPost K X) (stoOf [x,y] us)) :=
  fun fx F σ s vs us K X E hrm I hr _ ⟨hl,h⟩ hE => by
    obtain ⟨u,w,rfl⟩:∃ u w,us = [u,w]:=by
      cases us with
      | nil => cases hl
      | cons u us => cases us with
        | nil => cases hl
        | cons w us => exact ⟨u,w,by rw [List.eq_nil_of_length_eq_zero (Nat.succ.inj (Nat.succ.inj hl))]⟩
    obtain ⟨v,v',rfl,r1,r2⟩:=hr.inv2
    exact call_fn WL FA hb hrm I (hbind s v v' I.win.stays) rfl (.cons r1 (Reps.one r2)) hnd hk h hE
theorem sf_dflt {a:Addr} {fd:FuncData} {body:List Stmt} {xs:List String} {t:TS} {ds:List Value} {dus:List V} (WL:W.base.NoLimit) (FA:FnAt W a fd body) (hb:SL W fd.scope n body t) (m:Nat) (hm:m + ds.length = xs.length)
    (hds:∀ F,Reps F ds dus) (hbind:∀ s vs,W.base.StaysIn s.heap → vs.length = m → BindsTo s fd ⟨vs,[]⟩ (bindsOf xs (vs ++ ds))) (hnd:xs.Nodup) (hk:∀ x ∈ xs,storable fd.scope x = true) :
    SF W (n + 1) a [] (fun us K X => us.length = m ∧ t (retPost K X) (stoOf xs (us ++ dus))) :=
  fun fx F σ s vs us K X E hrm I hr _ ⟨hl,h⟩ hE => by
    have hlv:=hr.length
    simp only [List.length_nil,Nat.sub_zero,List.take_length,List.drop_length,List.zip_nil_left]
    have hd:=(hds F).length
    exact call_fn WL FA hb hrm I (hbind s vs I.win.stays (by rw [hlv,hl])) (by rw [List.length_append,hl,← hd]; omega) (hr.append (hds F)) hnd hk h hE
structure ErrC (W:Wd) (x:Str) (c:Addr):Prop where
  glob:GlobV W x (.ref c)
  ex:∃ nm q N bs bm hdct sn sub ab col dd k0 k1 k2 k3 k5 B newId initId mN,ExcBaseFacts B newId initId bm ∧ W.base.get? c = some (excClassObj nm q c N bs bm hdct sn sub ab col dd k0 k1 k2 k3 k5 newId) ∧ W.base.Ns N mN ∧ mN "__init__" = none
theorem Inv.made2 {fx:Fx} {F:Fz} {σ:Sto} {s:Shared} (I:Inv W fx F σ s) {h':Heap} {e:Addr} {c a0:Value} {oe:Obj} {vs:Array Value} {tk:Nat} (keeps:∀ b o,s.heap.get? b = some o → h'.get? b = some o) (new:s.heap.get? e = none)
    (he:h'.get? e = some oe) (hc:oe.cls = c) (hd:oe.data = .fields vs) (h1:vs[1]? = some .none) (h0:vs[0]? = some a0):Raised W fx c (.ref e) { s with heap:=h',toks:=tk }:=by
  have hfr:∀ b ∈ frs fx.fr,W.base.get? b = none:=fun b hb => (I.frs_dict hb).1
  have hP:W.P ∉ frs fx.fr:=fun hb => by
    obtain ⟨_,o,es,n,ho,hd⟩:=I.frs_dict hb
    obtain ⟨ps,hP,_⟩:=I.tab
    rw [hP] at ho; cases ho
    cases hd
  have fresh:(hideAll s.heap (frs fx.fr)).get? e = none:=by
    cases q:(hideAll s.heap (frs fx.fr)).get? e with
    | none => rfl
    | some o => have:=of_hideAll _ q; rw [new] at this; cases this
  refine ⟨I.ok,⟨e,hideAll s.heap (frs fx.fr),F,rfl,fun b o q => hideAll_get _ (I.win.stays b o q) fun hb => (by rw [hfr b hb] at q; cases q),fun b o q hn => hideAll_get _ ((I.keep b o q).1 hn) hn,
    .inr (.inl ⟨oe,vs,a0,he,hc,hd,h1,h0,fun b o q => keeps b o (of_hideAll _ q),fresh,(funFrames_hide I.funFrames fun env he a ha => List.mem_filterMap.mpr ⟨env,he,ha⟩).of_keeps fun b o hb ℓ => ⟨o,keeps b o hb,rfl⟩⟩),I.f0,fun b o q => hideAll_get _ (I.fin b o q) (I.frozen_nfrs q),I.fok,I.fnew,?_⟩,fun b o q => ?_,I.win.gens,I.win.os,?_,fun x cc hx hc => ?_⟩
  · obtain ⟨ps,hPs,h1,h2⟩:=I.tab
    exact ⟨ps,hideAll_get _ hPs hP,h1,h2⟩
  · obtain ⟨sl,e'⟩:=(I.keep b o q).2
    exact ⟨sl,keeps _ _ e'⟩
  · obtain ⟨m,hn⟩:=I.ns
    exact ⟨m,hn.keeps keeps⟩
  · obtain ⟨v,hv⟩:=I.cells x cc hx hc
    exact ⟨v,hv.keeps keeps⟩
theorem Inv.made {fx:Fx} {F:Fz} {σ:Sto} {s:Shared} (I:Inv W fx F σ s) {h':Heap} {e:Addr} {c:Value} {args:List Value} (hm:Heap.MadeExcOf s.heap h' e c args):Raised W fx c (.ref e) { s with heap:=h' }:=by
  obtain ⟨t,he,_,_⟩:=hm.there
  exact I.made2 (tk:=s.toks) hm.keeps hm.new he rfl rfl rfl rfl
theorem ss_raise {x:Str} {c:Addr} {e:PySem.Expr} {t:TE} {np cp:Pos} (C:ErrC W x c) (he:SE W sc n e t) (hk:sc.names.lookup x = some .globalImplicit:=by decide +kernel) (hd:(x == ("__debug__":Str)) = false:=by decide) (hp:plainArgs e []:=by intro _ _; exact ⟨rfl,rfl⟩) :
    SS W sc n (.Raise (some (.Call (.Name x np) [e] [] cp)) none pos) (fun P => t (fun ℓ ℓ => P.exc (.ref c)) P.exc) :=
  fun fx F σ s P E hsc hw hrm I h hE => by
    obtain ⟨nm',q,N,bs,bm,hdct,sn,sub,ab,col,dd,k0,k1,k2,k3,k5,B,newId,initId,mN,hF,hc,hN,hni⟩:=C.ex
    refine ⟨wpAny_Raise_call_sub (C:=c) (nm:=nm') (q:=q) (N:=N) (bs:=bs) (bm:=bm) (hdct:=hdct) (sn:=sn) (sub:=sub) (ab:=ab) (col:=col) (dd:=dd) (k0:=k0) (k1:=k1) (k2:=k2) (k3:=k3) (k5:=k5) (newId:=newId) hF I.ok.handled (by rw [(hp _ cp).1]; rfl) hni ?_⟩
    refine (glob_sound I C.glob (by subst hsc; exact hk) hd ⟨rfl,?_⟩).out
    rw [(hp _ cp).1]
    refine Calls.evalArgs_plain (x:=eval e fx.env) (rest:=backTo cp (starEach [] fx.env)) (Calls.spliced_cons (wpAny_mono (he fx F σ s _ _ E hsc hrm I h hE).out (fun v s₁ h₁ => Calls.spliced_nil ?_) fun ℓ ℓ x => x))
    obtain ⟨F₁,σ₁,u,h01,I₁,ru,h₁⟩:=h₁
    refine ⟨rfl,by rw [sizeLine_eq]; simp,I₁.win.stays _ _ hc,hN.keeps I₁.win.stays,fun h' e' hm => hE (.ref c) _ _ h₁ ?_⟩
    have R:=I₁.made hm
    exact R
end
end Mine
end
noncomputable section
open PySem PySem.W PyProof.Rows PySem.Spec PySem.Calls
set_option Elab.async false
set_option maxRecDepth 100000
set_option linter.unusedVariables false
namespace Mine
section
variable {W:Wd} {sc:Scope} {n:Nat} {pos pos':Pos} {k:Nat}
theorem Raised.land {fx:Fx} {c e:Value} {s:Shared} {A:Around} {E:Value → Shared → Prop} {Q:Unit → Shared → Prop} (hfr:A.frames = fx.A.frames) (hw:fx.w = true) (R:Raised W fx c e s)
    (hQ:∀ x Bx a0 F s',e = .ref x → Heap.FlyingW Bx fx.fr x c a0 s'.heap → (∀ s'',Bx.StaysIn s''.heap → s'.heap.UpToSlots s''.heap → s''.gens = s'.gens → s''.os = s'.os → Inv W fx F [] s'') → Q () s') :
    wpAny W.M A (noteFrame e fx.env) (fun ℓ s₂ => wpAny W.M A (setFlight e none) Q E s₂) E s:=by
  obtain ⟨ok,⟨x,Bx,F,rfl,hst,hB,hair,hF,hFin,hFok,hFn,hT⟩,hsl,hg,hos,hns,hc⟩:=R
  obtain ⟨outer,ho,hfL⟩:=ok.top hw
  have hf':A.frames = some (fx.env :: outer):=by rw [hfr,ok.frames,ho]
  have key:∀ h' a0,Heap.FlyingW Bx fx.fr x c a0 h' → s.heap.UpToSlots h' → Q () { s with heap:=h' }:=fun h' a0 hfl hsm => by
    refine hQ x Bx a0 F { s with heap:=h' } rfl hfl fun s'' k1 k2 k3 k4 => ?_
    have up:=hsm.trans k2
    have dct:∀ b o es n,fx.B b = some o → o.data = .dict es n → ∃ sl,s''.heap.get? b = some { o with slots:=sl }:=fun b o es n e1 e2 => by
      obtain ⟨sl,e3⟩:=hsl b o e1
      obtain ⟨sl',e4⟩:=UpToSlots.frame up e3 (es:=es) (n:=n) e2
      exact ⟨sl',e4⟩
    have win:WInv W s'':=⟨fun b o q => k1 b o (hst b o q),k3.symm ▸ hg,k4.trans hos⟩
    refine ⟨ok,win,hT.keeps (Fz.le.refl F) (fun o q => k1 _ o q),fun b o q => k1 b o (hFin b o q),hFok,hF,hFn,fun b o q => ?_,?_,fun y cc hy hcc => ?_,fun y sl q => (by cases q),fun y z p q l k ℓ hy => (by cases hy)⟩
    · by_cases hm:b ∈ frs fx.fr
      · refine ⟨fun hn => absurd hm hn,?_⟩
        obtain ⟨env',he',hfe⟩:=List.mem_filterMap.mp hm
        obtain ⟨_,L,hL,_,h3⟩:=ok.frs env' he'
        rw [hfe] at hL; cases hL
        rcases h3 with h3 | ⟨o',es,n',h4,h5⟩
        · rw [h3,ok.BL hw] at q; cases q
        · rw [q] at h4; cases h4
          exact dct b o es n' q h5
      · have:=k1 b o (hB b o q hm)
        exact ⟨fun ℓ => this,o.slots,this⟩
    · obtain ⟨m,hn⟩:=hns
      exact ⟨m,up.ns hn⟩
    · obtain ⟨v,o,h1,h2⟩:=hc y cc hy hcc
      obtain ⟨sl,h3⟩:=up _ _ h1 fun vs q => by rw [h2] at q; cases q
      exact ⟨v,_,h3,h2⟩
  rcases hair with ⟨a0,hfl⟩ | ⟨oe,vs,a0,g1,g2,g3,g4,g5,g6,g7,g8⟩ | ⟨a0,env',outer',L,hfe,hfL',hh⟩
  · rw [ho] at hfl
    refine wpAny_looks_onW hf' hfL hfl fun h₁ hh₁ hs₁ => wpAny_landsW hh₁ fun h₂ hf₂ hs₂ => ?_
    rw [← ho] at hf₂
    exact key h₂ a0 hf₂ (hs₁.trans hs₂)
  · refine note_first hf' (ho ▸ g8) hfL g1 g6 g7 g3 g4 g5 fun h' hL => ?_
    obtain ⟨x1,x2,x3,x4⟩:=hL
    rw [← ho] at x2
    rw [g2] at x3
    exact key h' _ ⟨x1,g7,x2,x3⟩ x4
  · have hfe':=ho.symm.trans hfe
    injection hfe' with e1 e2
    subst e1
    rw [hfL] at hfL'
    cases hfL'
    refine wpAny_noteFrame_againW hfL hh.2.2.2 ?_
    exact wpAny_landsW hh fun h' hfl hsm => key h' a0 hfl hsm
inductive IsVE (W:Wd):Value → Prop
  | own {x:Str} {c:Addr} {nm q:Str} {N:Addr} {bs bm:List Value} {hdct:Bool} {sn:List Str} {sub:List Value} {ab:Bool} {col:Option Bool} {dd:Option Addr} {k0 k1 k2 k3 k5:Option Value} {newId:String} :
      W.base.get? c = some (excClassObj nm q c N bs bm hdct sn sub ab col dd k0 k1 k2 k3 k5 newId) → bm.contains (.type "ValueError") = true → IsVE W (.ref c)
  | ve:IsVE W (.type "ValueError")
noncomputable def Fx.now (fx:Fx) (F:Fz):Fx:={ fx with F₀:=F }
theorem Inv.now {fx:Fx} {F:Fz} {σ:Sto} {s:Shared} (I:Inv W fx F σ s):Inv W (fx.now F) F σ s:=by
  refine { I with ok:={ I.ok with },f0:=Fz.le.refl F,fnew:=fun a o e => .inl e,vars:=?_ }
  intro x sl e
  obtain ⟨v,hv,hs⟩:=I.vars x sl e
  refine ⟨v,hv,?_⟩
  cases sl with
  | val u => exact hs
  | own l => obtain ⟨a,e1,⟨h1,h2,h3⟩⟩:=hs; exact ⟨a,e1,h1,h2,h3⟩
  | app y => exact hs
theorem Inv.back {fx:Fx} {F G:Fz} {σ τ:Sto} {s s':Shared} (I:Inv W fx F σ s) (J:Inv W (fx.now F) G τ s'):Inv W fx G τ s':=by
  refine { J with ok:=I.ok,f0:=I.f0.trans J.f0,fnew:=?_,vars:=?_ }
  · exact fun a o e => (J.fnew a o e).elim (fun q => I.fnew a o q) .inr
  intro x sl e
  obtain ⟨v,hv,hs⟩:=J.vars x sl e
  refine ⟨v,hv,?_⟩
  cases sl with
  | val u => exact hs
  | own l => obtain ⟨a,e1,⟨h1,h2,h3⟩⟩:=hs; exact ⟨a,e1,h1,h2,h3⟩
  | app y => exact hs
theorem ss_try_ret {D:Value → Prop} (hD:∀ c,D c → IsVE W c) {body:List Stmt} {tb:TS} {b:Bool} {p1 p2 p3 p4:Pos} (hb:SL W sc n body tb) (g:BltV W (nm "ValueError") (.type "ValueError")) (hk:sc.names.lookup (nm "ValueError") = some .globalImplicit:=by decide +kernel) :
    SS W sc n (.Try body [.ExceptHandler (some (.Name (Str.ofString "ValueError") p1)) none [.Return (some (.Constant (.bool b) k p2)) p3] p4] [] [] pos) (fun P => tb { P with exc:=fun c => D c ∧ P.ret (.bool b) }) :=
  fun fx F σ s P E hsc hw hrm I h hE => by
    refine ⟨wpAny_Try_except ?_⟩
    refine wpAny_mono (hb (fx.now F) F σ s { P with exc:=fun c => D c ∧ P.ret (.bool b) } (fun e s₁ => ∃ c,(D c ∧ P.ret (.bool b)) ∧ Raised W (fx.now F) c e s₁) hsc hw hrm I.now h fun c e s' hc R => ⟨c,hc,R⟩).out (fun f s₁ h₁ => ?_) (fun e s₁ h₁ => ?_)
    · obtain ⟨G,τ,hG,I',hf⟩:=h₁
      cases f with
      | next => exact wpAny_execs_nil ⟨G,τ,hG,I.back I',hf⟩
      | _ => exact ⟨G,τ,hG,I.back I',hf⟩
    · obtain ⟨c,⟨hc,hret⟩,R⟩:=h₁
      refine Raised.land (fx:=fx.now F) (A:=fx.A) rfl hw R fun x Bx a0 F' s₂ hex hfl hI => ?_
      subst hex
      have I₂:Inv W (fx.now F) F' [] s₂:=hI s₂ hfl.1 (.refl _) rfl rfl
      obtain ⟨mg,mb,hg,e1,hbn,e2⟩:=g
      have tail:wpAny W.M (fx.A.mark (some (.ref x))) (setFlight (.ref x) none) (fun ℓ s₄ => wpAny W.M (fx.A.mark (some (.ref x))) (execs [.Return (some (.Constant (.bool b) k p2)) p3] fx.env) (PS W fx F P) (notedBy W.M (fx.A.mark (some (.ref x))) fx.env (cameBackBy W.M fx.A fx.env E)) s₄)
          (notedBy W.M (fx.A.mark (some (.ref x))) fx.env (cameBackBy W.M fx.A fx.env E)) s₂:=by
        refine lands_againW hfl fun h' hfl' hsm' => ?_
        have I₃:Inv W (fx.now F) F' [] { s₂ with heap:=h' }:=hI { s₂ with heap:=h' } hfl'.1 hsm' rfl rfl
        exact wpAny_execs_cons (wpAny_Return_some (wpAny_Constant_bool ⟨F',[],I₃.f0,I.back I₃,.bool b,.bool b,hret⟩))
      have load:∀ {A':Around} {Q':Value → Shared → Prop} {E':Value → Shared → Prop},Q' (.type "ValueError") s₂ → wpAny W.M A' (eval (.Name (nm "ValueError") p1) fx.env) Q' E' s₂:=fun hq => by
        refine Name_function_global I.ok.kind (by show fx.env.scope.names.lookup (nm "ValueError") = _; rw [hsc]; exact hk) (loadGlobal_builtin (mg:=mg) (mb:=mb) ?_ e1 ?_ e2 hq) (by decide)
        · rw [I.ok.glob]; exact hg.keeps I₂.win.stays
        · rw [I.ok.blt]; exact hbn.keeps I₂.win.stays
      obtain ⟨ob,hob,hoc⟩:=hfl.there
      cases hD _ hc with
      | ve => exact wpAny_handleBy_builtin (X:="ValueError") (T:="ValueError") (b:=true) PySem.F.isExc_ValueError PySem.F.notTuple_ValueError (by rw [isSubtype_type]; kernel_rfl) (load ⟨rfl,⟨ob,hob,hoc⟩,tail⟩)
      | own hcls hbm =>
        refine wpAny_handleBy_cons (codeAny_handlers_test (load ?_)) (by intro q; cases q)
        have hst:=I₂.win.stays _ _ hcls
        with_reducible apply wpAny_excMatches_sub_type hst hob hoc PySem.F.isExc_ValueError PySem.F.notTuple_ValueError
        rw [hbm]
        exact codeAny_handlers_suite tail
end
end Mine
end
noncomputable section
open PySem PySem.W PyProof.Rows PySem.Spec PySem.Calls
set_option Elab.async false
set_option maxRecDepth 100000
set_option linter.unusedVariables false
namespace Mine
theorem slot_bytes_translate:PySem.Slot "bytes" "translate" "bytes.translate" :=
  .of (owner:="bytes") (n:="translate") (by rw [typeLookup_type,builtinLookup_eq_fast]; kernel_rfl) (by decide +kernel) (by decide +kernel) (by decide +kernel)
    (by first | exact .inl (by decide +kernel) | exact .inr (by decide +kernel)) (by rw [isSubtype_type]; kernel_rfl)
theorem entry_bytes_translate:entryFor table "bytes.translate" = some Builtin.«bytes.translate»:=entryFor_of_tree (by kernel_rfl)
theorem type_bytes_translate:typeOf (.builtin "bytes.translate") = pure (.type "method_descriptor"):=by show builtinType _ = _; rw [builtinType_eq_fast]; kernel_rfl
theorem args_bytes_translate (a b:Value):argsOk "bytes.translate" ⟨[a,b],[]⟩:=by unfold argsOk; kernel_rfl
noncomputable def trB (b t:Array UInt8):Array UInt8:=(b.filter fun c => !(#[]:Array UInt8).contains c).map fun c => t.getD c.toNat c
section
variable {prog:Program} {w:World} {A:Around} {E:Value → Shared → Prop} {s:Shared}
theorem call_bytes_translate {b t:Array UInt8} {u v:Tok} {Q:Value → Shared → Prop} (hs:t.size = 256) (hz:b.size ≤ sizeLine) (h:∀ t' k,Q (.bytes (trB b t) t') { s with toks:=k }) :
    wpAny (model prog w) A (call (.builtin "bytes.translate") [.bytes b u,.bytes t v]) Q E s:=by
  refine wpAny_call_entry slot_bytes_translate (typeIs_bytes _ _ _) entry_bytes_translate ?_ (args_bytes_translate _ _)
  unfold Builtin.«bytes.translate» Builtin.Bytes.translateM
  dsimp only
  have h1:(t.size != 256) = false:=by rw [hs]; rfl
  refine wpAny_ite (KBy.ite_no (show ¬ ([Value.bytes t v].length + ([]:List (Str × Value)).length > 2) by simp) ?_)
  refine wpAny_ite (KBy.ite_no (show ¬ ((([]:List (Str × Value)).any fun x => x.fst != Str.ofString "delete") = true) by simp) ?_)
  refine wpAny_ite (KBy.ite_no (show ¬ ((Value.bytes t v == Value.none) = true) by simp) ?_)
  refine wpAny_bind (wpAny_of_eq KBd.like_eq ?_)
  refine wpAny_ite (KBy.ite_no (show ¬ ((t.size != 256) = true) by rw [h1]; simp) ?_)
  refine wpAny_bind (wpAny_pure ?_)
  show wpAny _ _ (pure #[] >>= fun d => _) _ _ s
  refine wpAny_bind (wpAny_pure ?_)
  refine wpAny_bind (wpAny_of_eq (a:=b) rfl ?_)
  show wpAny _ _ (if (trB b t == b) = true then _ else _) _ _ s
  have hsz:(trB b t).size ≤ sizeLine:=by
    unfold trB
    rw [Array.size_map]
    exact Nat.le_trans (Array.size_filter_le ..) hz
  cases hq:trB b t == b with
  | true =>
    have e:trB b t = b:=eq_of_beq hq
    simp only [if_true]
    refine wpAny_bind (wpAny_rule ?_)
    have:=h u s.toks
    rw [e] at this
    exact wpAny_bind (wpAny_of_eq (a:=.bytes b u) rfl (wpAny_pure ⟨_,rfl,this⟩))
  | false =>
    simp only [Bool.false_eq_true,if_false]
    show wpAny _ _ (mkBytes (trB b t) >>= fun r => _) _ _ s
    exact wpAny_bind (wpAny_mkBytes (wpAny_pure ⟨_,rfl,h _ _⟩) hsz)
theorem entry_maketrans:entryFor table "bytes.maketrans" = some Builtin.«bytes.maketrans»:=entryFor_of_tree (by kernel_rfl)
theorem plain_maketrans:plainId "bytes.maketrans" = true:=by decide +kernel
theorem check_maketrans (a b:Value):checkBuiltinCall "bytes.maketrans" ⟨[a,b],[]⟩ = pure ():=by kernel_rfl
noncomputable def mkT (f x:Array UInt8):Array UInt8:=(f.toList.zip x.toList).foldl (fun t (p:UInt8 × UInt8) => t.setIfInBounds p.1.toNat p.2) ((Array.range 256).map (·.toUInt8))
theorem mkT_size (f x:Array UInt8):(mkT f x).size = 256:=by
  unfold mkT
  have:∀ (l:List (UInt8 × UInt8)) (t:Array UInt8),(l.foldl (fun t (p:UInt8 × UInt8) => t.setIfInBounds p.1.toNat p.2) t).size = t.size:=by
    intro l
    induction l with
    | nil => intro t; rfl
    | cons p l ih => intro t; rw [List.foldl_cons,ih]; simp
  rw [this]; simp
theorem call_maketrans {f x:Array UInt8} {u v:Tok} {Q:Value → Shared → Prop} (hs:f.size = x.size) (h:∀ t' k,Q (.bytes (mkT f x) t') { s with toks:=k }) :
    wpAny (model prog w) A (call (.builtin "bytes.maketrans") [.bytes f u,.bytes x v]) Q E s:=by
  have hc:wpAny (model prog w) A.in1 (Builtin.«bytes.maketrans» ⟨[.bytes f u,.bytes x v],[]⟩) (fun fin s' => ∃ v,fin = .done (.ret v) ∧ Q v s') E s:=by
    unfold Builtin.«bytes.maketrans» Builtin.Bytes.maketransM
    dsimp only
    refine wpAny_bind (wpAny_of_eq (a:=()) rfl ?_)
    refine wpAny_bind (wpAny_of_eq (a:=()) rfl ?_)
    refine wpAny_bind (wpAny_of_eq KBd.like_eq ?_)
    refine wpAny_bind (wpAny_of_eq KBd.like_eq ?_)
    refine wpAny_ite (KBy.ite_no (show ¬ ((f.size != x.size) = true) by rw [hs]; simp) ?_)
    exact wpAny_bind (wpAny_mkBytes (wpAny_pure ⟨_,rfl,h _ _⟩) (by show (mkT f x).size ≤ sizeLine; rw [mkT_size]; decide))
  refine wpAny_call (codeAny_call_builtin plain_maketrans entry_maketrans ?_)
  rw [check_maketrans]
  refine wpAny_pure ?_
  refine wpAny_mono hc (fun fin s' hf => ?_) fun ℓ ℓ x => x
  obtain ⟨v,rfl,hq⟩:=hf
  exact hq
theorem getm_maketrans {pl:Sem Bool} {Q:Value × List Value → Shared → Prop} (h:∀ k,Q (.builtin "bytes.maketrans",[]) { s with toks:=k }) :
    wpAny (model prog w) A (getMethod (.type "bytes") (PySem.Str.ofString "maketrans") pl) Q E s:=by
  have X:Frag.In [] s.heap:=fun a o e => by cases e
  have hstub:opaqueClassAbove (.type "bytes") = pure none:=by unfold opaqueClassAbove; dsimp only; rw [show Manifest.isStub "bytes" = false by decide +kernel]; rfl
  have ht:typeOf (.type "bytes") = pure (.type "type"):=by first | rfl | kernel_rfl
  have L0:Looks (model prog w) s.heap (typeOf (.type "bytes")) (.type "type"):=Looks.of_pure ht
  have hg:findIn [] (.type "type") "__getattribute__" = some (some (.builtin "type.__getattribute__")):=type_tga
  unfold getMethod specialOf
  refine wpAny_bind (wpAny_bind (L0.here ((looks_findIn X hg).here ?_)))
  dsimp only
  rw [if_pos canon_tga]
  refine wpAny_bind (wpAny_mono (Q:=fun v => Q (v,[])) (E:=E) ?_ (fun ℓ ℓ z => wpAny_pure z) fun ℓ ℓ z => z)
  have LO:Looks (model prog w) s.heap (opaqueClassAbove (.type "bytes")) none:=Looks.of_pure hstub
  refine cls_open (r:=.val (.builtin "bytes.maketrans")) X LO L0 hg (looks_hook X (r:=none) (by rfl)) (by show subIn [] _ _ = _; rfl) (by kernel_rfl) ?_
  exact wpAny_pure (handed_on (by decide +kernel) (h _))
end
section
variable {W:Wd} {sc:Scope} {n:Nat} {pos:Pos}
noncomputable def trL (b t:List UInt8):List UInt8:=b.map fun c => t.getD c.toNat c
noncomputable def transP (us:List V) (K:V → Prop):Prop:=match us with
  | [.bytes b,.bytes t] => (t.length = 256 ∧ fits b.length) ∧ K (.bytes (trL b t))
  | _ => False
set_option tactic.hygienic true in
theorem cb_translate:CB W (.builtin "bytes.translate") transP:=by
  intro A fx F σ s vs us K E hh I r h
  unfold transP at h
  constructor
  split at h
  · rename_i b t
    obtain ⟨v,v',rfl,rv,rv'⟩:=r.inv2
    obtain ⟨b,u,rfl,rfl⟩:=rv.inv
    obtain ⟨t,u',rfl,rfl⟩:=rv'.inv
    obtain ⟨⟨h1,h2⟩,hK⟩:=h
    refine call_bytes_translate (by simpa using h1) (by have:=fits_size h2; simpa using this) fun t' k => ⟨F,_,.refl F,I.ext (.tok s k),.bytes _ _,?_⟩
    have:(trB b t).toList = trL b.toList t.toList:=by
      unfold trB trL
      simp [List.filter_eq_self.mpr]
    rw [this]; exact hK
  · exact h.elim
noncomputable def mkL (f x:List UInt8):List UInt8:=(mkT f.toArray x.toArray).toList
noncomputable def mktP (us:List V) (K:V → Prop):Prop:=match us with
  | [.bytes f,.bytes x] => f.length = x.length ∧ K (.bytes (mkL f x))
  | _ => False
set_option tactic.hygienic true in
theorem cb_maketrans:CB W (.builtin "bytes.maketrans") mktP:=by
  intro A fx F σ s vs us K E hh I r h
  unfold mktP at h
  constructor
  split at h
  · rename_i b t
    obtain ⟨v,v',rfl,rv,rv'⟩:=r.inv2
    obtain ⟨b,u,rfl,rfl⟩:=rv.inv
    obtain ⟨t,u',rfl,rfl⟩:=rv'.inv
    obtain ⟨h1,hK⟩:=h
    refine call_maketrans (by simpa using h1) fun t' k => ⟨F,_,.refl F,I.ext (.tok s k),.bytes _ _,?_⟩
    simpa [mkL] using hK
  · exact h.elim
theorem se_maketrans {e:PySem.Expr} {r:List PySem.Expr} {p ap:Pos} {ta:TG} (g:BltV W (nm "bytes") (.type "bytes")) (ha:SG W sc n (e :: r) ta) (hline:(ap.endLine == pos.line) = true:=by decide)
    (hk:sc.names.lookup (nm "bytes") = some .globalImplicit:=by decide +kernel)
    (hfew:∀ env,((backTo pos (starEach (e :: r) env)).all (fun x => !x.1) && (backToKw pos (keywordEach [] env)).all (fun x => x.1.isSome)
      && decide ((e :: r).length + ([]:List Keyword).length + (if ([]:List Keyword).isEmpty then 0 else 1) < 30)) = true:=by intro _; rfl) (hp:plainArgs e r:=by intro _ _; exact ⟨rfl,rfl⟩) :
    SE W sc n (.Call (.Attribute (.Name (Str.ofString "bytes") p) (Str.ofString "maketrans") ap) (e :: r) [] pos) (fun Q X => ta (fun us σ₂ => mktP us fun v => Q v σ₂) X) :=
  fun fx F σ s Q X E hsc hrm I h hE => by
    constructor
    have hbase:attributeBase (.Name (nm "bytes") p) (Str.ofString "maketrans") fx.env (eval (.Name (nm "bytes") p) fx.env) = eval (.Name (nm "bytes") p) fx.env:=rfl
    rw [arm_eval_Call,hbase]
    refine wpAny_bind (blt_sound I g (by subst hsc; exact hk) (by decide) ?_).out
    refine wpAny_bind (wpAny_standAt ?_)
    have hform:methodCallForm ((e :: r).length + ([]:List Keyword).length) (backTo pos (starEach (e :: r) fx.env)) (backToKw pos (keywordEach [] fx.env)) = true:=hfew _
    have hpos:methodCallPos true (.Name (nm "bytes") p) fx.env ap pos = pure pos:=by unfold methodCallPos; simp [hline]
    unfold methodCall
    rw [hform]
    refine wpAny_bind (wpAny_holding (getm_maketrans fun k => ?_))
    refine wpAny_bind (wpAny_of_eq hpos ?_)
    have I':=I.ext (.tok s k)
    refine PyProof.Rows.callWith_builtin1 (wpAny_mono (ha fx F σ _ _ X E pos hsc hrm I' h hE).out (fun vs s₁ h₁ => ?_) fun ℓ ℓ x => x) (hp _ pos).1 (hp _ pos).2
    obtain ⟨F₁,σ₁,us,h01,I₁,rs,h₁⟩:=h₁
    refine ((cb_maketrans fx.A fx F₁ σ₁ s₁ vs us _ E I.ok.handled I₁ rs h₁).imp fun v s₂ h₂ => ?_).out
    obtain ⟨F₂,u,h12,I₂,ru,h₂⟩:=h₂
    exact ⟨F₂,σ₁,u,h01.trans h12,I₂,ru,h₂⟩
end
end Mine
end
noncomputable section
open PySem PySem.W PyProof.Rows PySem.Spec PySem.Calls
set_option Elab.async false
set_option maxRecDepth 100000
set_option linter.unusedVariables false
namespace Mine
open Builtin Builtin._codecs
theorem enc_entry (x:Str) (t u:Tok):Builtin.«str.encode» ⟨[.str x t,.str (Str.ofString "ascii") u],[]⟩ = ((encodeNarrow "str.encode" asciiCodec none (.str x t) x >>= fun b => mkBytes b) >>= fun v => ret v):=by kernel_rfl
noncomputable abbrev EncS:=Nat × Array UInt8 × Faults
structure EncF (id:String) (v:Value) (x:Str) (f:Nat → EncS → Sem (ForInStep EncS)):Prop where
  eq:encodeNarrow id asciiCodec none v x = (forIn [:x.length] (0,#[],{}) f >>= fun r => pure r.2.1)
  fin:∀ j i out st,¬ out.size > sizeLine → x.cps[i]? = none → f j (i,out,st) = pure (.done (i,out,st))
  good:∀ j i out st c,¬ out.size > sizeLine → x.cps[i]? = some c → asciiCodec.bad c = false →
    f j (i,out,st) = pure (.yield (i + (Array.findIdx? asciiCodec.bad (x.cps.extract i)).getD (x.cps.extract i).size,Array.foldl (fun acc y => acc ++ (asciiCodec.bytesOf y).toArray) out ((x.cps.extract i).extract 0 ((Array.findIdx? asciiCodec.bad (x.cps.extract i)).getD (x.cps.extract i).size)),st))
  bad:∀ j i out st c,¬ out.size > sizeLine → x.cps[i]? = some c → asciiCodec.bad c = true →
    ∀ {M:Model} {A:Around} {Q:ForInStep EncS → Shared → Prop} {E:Value → Shared → Prop} {s:Shared},wpAny M A (raiseEncodeFault st "ascii" v i (i + (Array.findIdx? (fun y => !asciiCodec.bad y) (x.cps.extract i)).getD (x.cps.size - i)) "ordinal not in range(128)":Sem PUnit) (fun ℓ ℓ => False) E s → wpAny M A (f j (i,out,st)) Q E s
theorem encF (id:String) (v:Value) (x:Str):∃ f,EncF id v x f:=by
  have hs:((none:Option Str).getD (Str.ofString "strict")).toString = "strict":=by decide +kernel
  refine ⟨_,⟨(by unfold encodeNarrow; rw [hs]),?_,?_,?_⟩⟩
  · intro j i out st h1 h2
    refine (if_neg h1).trans ?_
    dsimp only
    rw [h2]
  · intro j i out st c h1 h2 h3
    refine (if_neg h1).trans ?_
    dsimp only
    rw [h2]
    exact if_pos (by rw [h3]; rfl)
  · intro j i out st c h1 h2 h3 M A Q E s h
    refine (congrArg (fun t => wpAny M A t Q E s) (if_neg h1)).mpr ?_
    dsimp only
    rw [h2]
    refine (congrArg (fun t => wpAny M A t Q E s) (if_neg (by rw [h3]; decide))).mpr ?_
    exact wpAny_bind (wpAny_rule (wpAny_bind (wpAny_mono h (fun ℓ ℓ z => z.elim) fun ℓ ℓ z => z)))
theorem fold_bytes:∀ (l:List Nat) (acc:Array UInt8),(l.foldl (fun acc y => acc ++ ([y.toUInt8]:List UInt8).toArray) acc) = acc ++ (l.map (·.toUInt8)).toArray
  | [],acc => by rw [List.foldl_nil,List.map_nil]; exact Array.append_empty.symm
  | y :: l,acc => by
    rw [List.foldl_cons,fold_bytes l]
    simp
theorem fold_bytesA (a:Array Nat):Array.foldl (fun acc y => acc ++ (asciiCodec.bytesOf y).toArray) (#[]:Array UInt8) a = a.map (·.toUInt8):=by
  rw [← Array.foldl_toList]
  refine (fold_bytes a.toList #[]).trans ?_
  apply Array.ext'
  rw [Array.empty_append,Array.toList_map]
theorem rng0 {β:Type} (n:Nat) (b:β) (f:Nat → β → Sem (ForInStep β)):forIn [:n] b f = forIn (List.range' 0 n) b f:=by
  rw [Std.Legacy.Range.forIn_eq_forIn_range']
  congr 2
  exact Nat.div_one _
theorem ext0 (a:Array Nat):a.extract 0 = a:=Array.extract_size
theorem enc_ok {id:String} {self:Value} {x:Str} (h:∀ c ∈ x.cps,c < 128) (hz:x.length ≤ sizeLine):encodeNarrow id asciiCodec none self x = pure (x.cps.map (·.toUInt8)):=by
  obtain ⟨f,hf⟩:=encF id self x
  have hbad:∀ c ∈ x.cps,asciiCodec.bad c = false:=fun c hc => decide_eq_false (Nat.not_le.mpr (h c hc))
  rw [hf.eq,rng0]
  have z0:¬ (#[]:Array UInt8).size > sizeLine:=Nat.not_lt_zero _
  have hidx:Array.findIdx? asciiCodec.bad x.cps = none:=Array.findIdx?_eq_none_iff.mpr hbad
  cases hn:x.length with
  | zero => rw [Array.eq_empty_of_size_eq_zero hn,List.range'_zero,List.forIn_nil,Array.map_empty]; exact pure_bind _ _
  | succ m =>
    have hl:0 < x.cps.size:=by show 0 < x.length; rw [hn]; exact Nat.succ_pos _
    rw [List.range'_succ,List.forIn_cons,hf.good _ _ _ _ _ z0 (Array.getElem?_eq_getElem hl) (hbad _ (Array.getElem_mem hl)),ext0,hidx,Option.getD_none,Nat.zero_add,ext0,fold_bytesA]
    refine (congrArg (· >>= _) (pure_bind _ _)).trans ?_
    cases m with
    | zero => exact (congrArg (· >>= _) List.forIn_nil).trans (pure_bind _ _)
    | succ m =>
      have z1:¬ (x.cps.map (·.toUInt8)).size > sizeLine:=by rw [Array.size_map]; exact Nat.not_lt.mpr hz
      dsimp only
      rw [List.range'_succ,List.forIn_cons,hf.fin _ _ _ _ z1 (Array.getElem?_eq_none (Nat.le_refl _)),pure_bind]
      exact pure_bind _ _
end Mine
end
noncomputable section
open PySem PySem.W PyProof.Rows PySem.Spec PySem.Calls
set_option Elab.async false
set_option maxRecDepth 100000
set_option linter.unusedVariables false
namespace Mine
theorem slot_md_get:PySem.Slot "method_descriptor" "__get__" "method_descriptor.__get__" :=
  .of (owner:="method_descriptor") (n:="__get__") (by rw [typeLookup_type,builtinLookup_eq_fast]; kernel_rfl) (by decide +kernel) (by decide +kernel) (by decide +kernel)
    (by first | exact .inl (by decide +kernel) | exact .inr (by decide +kernel)) (by rw [isSubtype_type]; kernel_rfl)
theorem entry_md_get:entryFor table "method_descriptor.__get__" = some Builtin.«method_descriptor.__get__»:=entryFor_of_tree (by kernel_rfl)
theorem args_md_get (a b c:Value):argsOk "method_descriptor.__get__" ⟨[a,b,c],[]⟩:=by unfold argsOk; kernel_rfl
theorem no_md_set:typeLookup (.type "method_descriptor") "__set__" = pure none:=by rw [typeLookup_type,builtinLookup_eq_fast]; kernel_rfl
theorem no_md_del:typeLookup (.type "method_descriptor") "__delete__" = pure none:=by rw [typeLookup_type,builtinLookup_eq_fast]; kernel_rfl
theorem owner_list_append:(".".intercalate ("list.append".cutAt '.').dropLast) = "list":=by decide +kernel
theorem sub_list_append_owner:isSubtype (.type "list") (.type (".".intercalate ("list.append".cutAt '.').dropLast)) = pure true:=by
  rw [owner_list_append,isSubtype_type]; kernel_rfl
theorem lk_list_append:typeLookup (.type "list") "append" = pure (some (.builtin "list.append")):=by rw [typeLookup_type,builtinLookup_eq_fast]; kernel_rfl
section
variable {prog:Program} {w:World} {A:Around} {E:Value → Shared → Prop} {h:Heap} {g:Array GenState} {d:Drawn} {t:Nat} {os:OsState} {a:Addr} {o:Obj}
theorem app_get {R:Result → Shared → Prop} (hx:h.get? a = some o) (hc:o.cls = .type "list") (hq:R (.ok (.ret (.ref h.objs.size))) ⟨h.push (boundApp a),g,d,t,os⟩) :
    codeAny (model prog w) A (.call (.builtin "method_descriptor.__get__") ⟨[.builtin "list.append",.ref a,.type "list"],[]⟩) R ⟨h,g,d,t,os⟩:=by
  have hT:(⟨h,g,d,t,os⟩:Shared).TypeIs (.ref a) "list":=⟨_,hx,hc⟩
  have hT5:(⟨h,g,d,t,os⟩:Shared).TypeIs (.builtin "list.append") "method_descriptor":=type_list_append
  refine codeAny_call_builtin slot_md_get.plain entry_md_get (slot_md_get.check _ _ _ _ _ _ _ _ hT5 (args_md_get _ _ _) ?_)
  have f8:=sub_list_append_owner
  repeat (any_goals (first | assumption | wp_step))
theorem app_entry {tk:Tok} {xs:Array Value} {n:Nat} {sl:Array (Option Value)} {Q:Fin → Shared → Prop} (hx:h.get? a = some ⟨.type "list",none,.seq xs n,sl⟩) (hq:Q (.done (.ret (.ref h.objs.size))) ⟨h.push (boundApp a),g,d,t,os⟩) :
    wpAny (model prog w) A (Builtin.«object.__getattribute__» ⟨[.ref a,.str "append" tk],[]⟩) Q E ⟨h,g,d,t,os⟩:=by
  have hT:(⟨h,g,d,t,os⟩:Shared).TypeIs (.ref a) "list":=⟨_,hx,rfl⟩
  have hT5:(⟨h,g,d,t,os⟩:Shared).TypeIs (.builtin "list.append") "method_descriptor":=type_list_append
  have f4:=lk_list_append
  have f5:=type_list_append
  have f6:=slot_md_get.lookup
  have f7:=no_md_set
  have f8:=no_md_del
  repeat (any_goals (first | assumption | with_reducible refine wpAny_loadPart_at hx ?_ | wp_step))
  refine app_get hx rfl ?_
  repeat (any_goals (first | assumption | wp_step))
theorem app_call {tk:Tok} {xs:Array Value} {n:Nat} {sl:Array (Option Value)} {R:Result → Shared → Prop} (hx:h.get? a = some ⟨.type "list",none,.seq xs n,sl⟩) (hq:R (.ok (.ret (.ref h.objs.size))) ⟨h.push (boundApp a),g,d,t,os⟩) :
    codeAny (model prog w) A (.call (.builtin "list.__getattribute__") ⟨[.ref a,.str "append" tk],[]⟩) R ⟨h,g,d,t,os⟩ :=
  codeAny_call_builtin PySem.F.slot_list_getattribute.plain PySem.F.entry_list_ga (PySem.F.slot_list_getattribute.check _ _ _ _ _ _ _ _ (show (⟨h,g,d,t,os⟩:Shared).TypeIs (.ref a) "list" from ⟨_,hx,rfl⟩) (PySem.F.args_list_getattribute_2 _ _) (app_entry hx hq))
theorem app_by {tk:Tok} {xs:Array Value} {n:Nat} {sl:Array (Option Value)} {fill expr:Bool} {Q:Value → Shared → Prop} (hx:h.get? a = some ⟨.type "list",none,.seq xs n,sl⟩) (hq:Q (.ref h.objs.size) ⟨h.push (boundApp a),g,d,t,os⟩) :
    wpAny (model prog w) A (getAttrBy (.ref a) (.str "append" tk) fill expr) Q E ⟨h,g,d,t,os⟩:=by
  have hT:(⟨h,g,d,t,os⟩:Shared).TypeIs (.ref a) "list":=⟨_,hx,rfl⟩
  have f2:=PySem.F.slot_list_getattribute.lookup
  have f3:=PySem.F.slot_list_getattribute.bind (.ref a)
  repeat (any_goals (first | assumption | wp_step))
  rw [show (expr && onTheHeap (Value.builtin "list.__getattribute__")) = false from Bool.and_false _,if_neg (by decide)]
  repeat (any_goals (first | assumption | wp_step))
  refine app_call hx ?_
  repeat (any_goals (first | assumption | wp_step))
theorem app_attr {xs:Array Value} {n:Nat} {sl:Array (Option Value)} {expr:Bool} {Q:Value → Shared → Prop} (hx:h.get? a = some ⟨.type "list",none,.seq xs n,sl⟩) (hq:Q (.ref h.objs.size) ⟨h.push (boundApp a),g,d,t + 1,os⟩) :
    wpAny (model prog w) A (getAttr (.ref a) "append" expr) Q E ⟨h,g,d,t,os⟩:=by
  unfold getAttr
  repeat (any_goals (first | assumption | with_reducible apply app_by hx | wp_step))
end
end Mine
end
noncomputable section
open PySem PySem.W PyProof.Rows PySem.Spec PySem.Calls
set_option Elab.async false
set_option maxRecDepth 100000
set_option linter.unusedVariables false
namespace Mine
theorem kind_list_append:builtinKind "list.append" = some .method:=by decide +kernel
theorem quiet_app {as:Args}:(Code.builtin "list.append" as).quiet = true:=Code.quiet_builtin _ (by decide +kernel)
noncomputable def sigApp (a:Addr) (v:Value):Option Manifest.Signature → Sem Unit
  | none => pure ()
  | some sig => Bind.checkArgs "list.append" { sig with full:=s!"{Bind.lastOf "list"}.{Bind.lastOf "list.append"}" } ⟨[.ref a,v],[]⟩
theorem sigApp_ok (a:Addr) (v:Value):sigApp a v (Manifest.signature? "list.append") = pure ():=by kernel_rfl
section
variable {prog:Program} {w:World} {A:Around} {E:Value → Shared → Prop} {h:Heap} {g:Array GenState} {d:Drawn} {t:Nat} {os:OsState} {a:Addr} {o:Obj}
theorem app_sub_module:isSubtype (.type "list") (.type "module") = pure false:=by rw [isSubtype_type]; kernel_rfl
theorem app_va:(Manifest.varargsMethods.contains "list.append" || false) = false:=by decide +kernel
theorem check_app {v:Value} {xs:Array Value} {n:Nat} {sl:Array (Option Value)} {Q:Unit → Shared → Prop} (hx:h.get? a = some ⟨.type "list",none,.seq xs n,sl⟩) (hq:Q () ⟨h,g,d,t,os⟩):wpAny (model prog w) A (checkBoundCall "list.append" ⟨[.ref a,v],[]⟩) Q E ⟨h,g,d,t,os⟩:=by
  unfold checkBoundCall
  rw [kind_list_append]
  have:=sigApp_ok a v
  generalize Manifest.signature? "list.append" = r at this ⊢
  cases r with
  | none => exact wpAny_pure hq
  | some sig =>
    exact wpAny_bind (m:=isInstance (.ref a) (.type "module")) (wpAny_bind (wpAny_bind (wpAny_loadPart_at hx (wpAny_pure (wpAny_of_eq app_sub_module (KFB.if_not app_va (wpAny_bind (m:=isType (.ref a)) (wpAny_bind (wpAny_loadPart_at hx (wpAny_pure (KFB.if_not rfl (wpAny_bind (wpAny_bind (wpAny_loadPart_at hx (wpAny_pure (wpAny_of_eq this hq))))))))))))))))
theorem callWith_app {pos:Pos} {b:Addr} {s:Shared} {args:List (Bool × Sem Value)} {Q:Value → Shared → Prop} (hplain:args.any (·.1) = false)
    (h:wpAny (model prog w) A (evalArgs (.ref b) true args []) (fun x s₁ => s₁.heap.get? b = some (boundApp a) ∧ wpAny (model prog w) A (call (.ref b) ([] ++ x.pos) x.kw) Q E s₁) E s):wpAny (model prog w) A (callWith pos (.ref b) [] args []) Q E s:=by
  unfold callWith
  refine wpAny_bind (wpAny_holding (wpAny_mono h (fun x s₁ h₁ => wpAny_bind (wpAny_standAt ?_)) fun ℓ ℓ x => x))
  rw [hplain]
  refine wpAny_bind (m:=keeperOf (.ref b)) (wpAny_bind (wpAny_load h₁.1 (wpAny_pure ?_)))
  exact wpAny_bind (wpAny_mono h₁.2 (fun r s₂ hr => wpAny_bind (wpAny_holding (wpAny_point (wpAny_pure hr)))) fun ℓ ℓ x => x)
theorem call_app {b:Addr} {s:Shared} {x:Value} {its:Array Value} {Q:Value → Shared → Prop} (ho:s.heap.get? b = some (boundApp a))
    (hl:PlainL s.heap a its) (hQ:∀ h',PlainL h' a (its.push x) → Heap.SameBut a s.heap h' → Q .none { s with heap:=h' }) (hsz:its.size ≤ sizeLine) :
    wpAny (model prog w) A (call (.ref b) [x]) Q E s:=by
  obtain ⟨⟨oc,od,odt,osl⟩,n,g1,rfl,rfl,rfl⟩:=hl
  obtain ⟨sh,sg,sd,st,sos⟩:=s
  refine wpAny_call (codeAny_of_tree (show wpAny _ A.in1 (callAny (.ref b) ⟨[x],[]⟩) _ _ _ from wpAny_bind (wpAny_load ho (wpAny_bind (check_app g1 (wpAny_bind (wpAny_pure (wpAny_pure ⟨quiet_app,codeAny_builtin entry_list_append ?_⟩))))))))
  show wpAny _ _ (updateSeq a (·.push x) >>= fun ℓ => ret .none) _ _ _
  obtain ⟨n',hd'⟩:=Obj.data_mapSeq (o:=(⟨.type "list",none,.seq its n,osl⟩:Obj)) rfl (·.push x)
  exact wpAny_bind (wpAny_updateSeq g1 rfl (wpAny_pure (hQ _ ⟨_,n',Heap.get?_update_self _ g1 (Obj.isFreed_of_seq hd'),Obj.cls_mapSeq ..,rfl,hd'⟩ (Heap.SameBut.update ..))))
end
section
variable {W:Wd} {fx:Fx} {F G:Fz} {σ:Sto} {s s':Shared} {sc:Scope} {n:Nat} {pos pos':Pos} {k:Nat}
theorem Inv.reslot (I:Inv W fx F σ s) {y:String} {sl sl₀:Slot} {v:Value} (h0:get σ y = some sl₀) (hv:Holds fx.env s.heap y v) (hno:∀ l,sl ≠ .own l) (hsl:SlotAt fx F s.heap (put σ y sl) v sl):Inv W fx F (put σ y sl) s:=by
  refine { I with vars:=?_,apart:=?_ }
  · intro z w e
    rw [get_put] at e
    by_cases q:y = z
    · subst q
      simp only [if_true,Option.some.injEq] at e
      subst e
      exact ⟨v,hv,hsl⟩
    · rw [if_neg q] at e
      obtain ⟨u,hu,hs⟩:=I.vars z w e
      refine ⟨u,hu,?_⟩
      cases w with
      | val u => exact hs
      | own l => exact hs
      | app x =>
        obtain ⟨b,a,e1,e2,e4⟩:=hs
        refine ⟨b,a,e1,e2,fun w l hw hy => ?_⟩
        rw [get_put] at hy
        by_cases q:y = x
        · subst q
          simp only [if_true,Option.some.injEq] at hy
          exact absurd hy (hno l)
        · rw [if_neg q] at hy; exact e4 w l hw hy
  · intro x z a b l k' hxz hx hz ha hb
    rw [get_put] at hx hz
    by_cases q:y = x
    · subst q; simp only [if_true,Option.some.injEq] at hx; exact absurd hx (hno l)
    · rw [if_neg q] at hx
      by_cases q':y = z
      · subst q'; simp only [if_true,Option.some.injEq] at hz; exact absurd hz (hno k')
      · rw [if_neg q'] at hz
        exact I.apart x z a b l k' hxz hx hz ha hb
theorem Inv.holds_same (I:Inv W fx F σ s) {a:Addr} {o:Obj} {xs:Array Value} {ep:Nat} {h':Heap} {y:String} {w:Value} (hs:Heap.SameBut a s.heap h') (ho:s.heap.get? a = some o) (hd:o.data = .seq xs ep) (hh:Holds fx.env s.heap y w):Holds fx.env h' y w:=by
  have haL:a ≠ fx.env.locals:=by
    rintro rfl
    obtain ⟨m,o',es,ep',ho',hd',_⟩:=I.ns
    rw [ho] at ho'; cases ho'
    rw [hd] at hd'; cases hd'
  have haC:∀ c v,s.heap.IsCell c v → c ≠ a:=by
    rintro c v ⟨o',ho',hd'⟩ rfl
    rw [ho] at ho'; cases ho'
    rw [hd] at hd'; cases hd'
  rcases hh with ⟨ky,m,hm,e⟩ | ⟨ky,c,hc,hv⟩
  · exact .inl ⟨ky,m,hm.sameBut hs (Ne.symm haL),e⟩
  · exact .inr ⟨ky,c,hc,hv.sameBut hs (haC c _ hv)⟩
noncomputable def tAdd (x:String) (te:TE):TS:=fun P σ => match get σ x with
  | some (.app y) => (match get σ y with
    | some (.own l) => ∀ a b,te (fun u σ₂ => get σ₂ y = some (.val (.ref a)) ∧ hasApp σ₂ y = false ∧ get (put σ₂ y (.own l)) x = some (.val (.ref b)) ∧ fits l.length ∧ P.next (put (put σ₂ y (.own (l ++ [u]))) x (.app y))) (fun ℓ => False) (put (put σ x (.val (.ref b))) y (.val (.ref a)))
    | _ => False)
  | _ => False
theorem ss_add (x:String) {e:PySem.Expr} {te:TE} {p:Pos} (he:SE W sc n e te) (hp:plainArgs e []:=by intro _ _; exact ⟨rfl,rfl⟩)
    (hi:∀ env,env.scope = sc → interactive env = false:=by intro e h; obtain ⟨_,_,_,_,_,_,_,_,_⟩:=e; dsimp only at h; subst h; with_unfolding_all rfl)
    (hd:(nm x == ("__debug__":Str)) = false:=by decide) (hn:(nm x == ("__classdict__":Str)) = false:=by decide)
    (hs:∀ env,swapsWith (.Call (.Name (nm x) p) [e] [] pos) none pos'.line env = pure false:=by intro _; rfl) :
    SS W sc n (.Expr (.Call (.Name (Str.ofString x) p) [e] [] pos) pos') (tAdd x te) :=
  fun fx F σ s P E hsc hw hrm I h hE => by
    unfold tAdd at h
    cases q:get σ x with
    | none => rw [q] at h; cases h
    | some slot =>
      rw [q] at h
      cases slot with
      | app y =>
        simp only at h
        cases q':get σ y with
        | none => rw [q'] at h; cases h
        | some slot =>
          rw [q'] at h
          cases slot with
          | own l =>
            have hxy:x ≠ y:=by rintro rfl; rw [q] at q'; cases q'
            obtain ⟨v,hv,b,a,rfl,hFb,hlink⟩:=I.vars x _ q
            obtain ⟨v',hv',a',rfl,ho⟩:=I.vars y _ q'
            have:=hlink _ l hv' q'
            cases this
            constructor
            refine wpAny_Expr_any ?_ (hi _ hsc) (hs _)
            refine (wp_Call_Name ⟨wpAny_Name (load_of I hv hn ⟨?_⟩).out hd⟩).out
            have I₁:Inv W fx F (put σ x (.val (.ref b))) s:=I.reslot q hv (by intro l e; cases e) (.ref b)
            have g1:get (put σ x (.val (.ref b))) y = some (.own l):=by rw [get_put,if_neg hxy]; exact q'
            have key:∀ Q':List Value → Shared → Prop,wpAny W.M fx.A (eval e fx.env) (fun v s₁ => wpAny W.M fx.A (spliced (backTo pos (starEach [] fx.env))) (fun vs s₂ => Q' (v :: vs) s₂) E s₁) E s → wpAny W.M fx.A (spliced (backTo pos (starEach [e] fx.env))) Q' E s:=fun Q' hh => wpAny_items_cons hh (hp _ pos).1
            rw [(hp _ pos).1] at key ⊢
            refine callWith_app (a:=a) (by show (false || (backTo pos (starEach [] fx.env)).any (·.1)) = false; rw [(hp _ pos).2]; rfl) (Calls.evalArgs_plain (x:=eval e fx.env) (rest:=backTo pos (starEach [] fx.env)) ?_)
            refine key _ ((hidden (A:=fx.A) (R:=fun u σ₂ => get σ₂ x = some (.val (.ref b)) ∧ fits l.length ∧ P.next (put (put σ₂ y (.own (l ++ [u]))) x (.app y))) he hsc hrm I₁ g1 hv' ?_).imp fun u s₂ h₂ => ?_).out
            · have h':=h a b
              simpa only [put_put] using h'
            · obtain ⟨G,σ',u',hG,I',ru,⟨hx',hf,hP⟩,hy',hh'⟩:=h₂
              refine wpAny_items_nil ⟨I'.fin _ _ (hG _ _ hFb),?_⟩
              obtain ⟨v2,hv2,a2,e2,⟨⟨o2,xs2,ep2,ho2,hc2,hd2,hr2,hdn2⟩,_,_⟩⟩:=I'.vars y _ hy'
              have:=holds_fun hv2 hh'
              subst this
              cases e2
              have hlen:xs2.size = l.length:=by simpa using hr2.length
              refine call_app (I'.fin _ _ (hG _ _ hFb)) ⟨o2,ep2,ho2,hc2,hdn2,hd2⟩ (fun h' hpl hsb => ?_) (by rw [hlen]; exact fits_size hf)
              obtain ⟨o3,ep3,q1,q2,q3,q4⟩:=hpl
              have J:=I'.setOwn (tk:=s₂.toks) (k:=l ++ [u']) hy' hh' hsb ⟨o3,_,ep3,q1,q2,q4,by rw [Array.toList_push]; exact hr2.append (Reps.one ru),q3⟩
              have hx2:get (put σ' y (.own (l ++ [u']))) x = some (.val (.ref b)):=by rw [get_put,if_neg (Ne.symm hxy)]; exact hx'
              obtain ⟨v3,hv3,hs3⟩:=J.vars x _ hx2
              have:v3 = .ref b:=by cases hs3; rfl
              subst this
              refine ⟨G,_,hG,J.reslot (sl:=.app y) hx2 hv3 (by intro l e; cases e) ⟨b,a,rfl,hG _ _ hFb,fun w l' hw' hy2 => ?_⟩,hP⟩
              exact holds_fun hw' (I'.holds_same hsb ho2 hd2 hh')
          | _ => cases h
      | _ => cases h
noncomputable def tBindApp (x y:String):TS:=fun P σ => match get σ y with
  | some (.own l) => x ≠ y ∧ P.next (put σ x (.app y))
  | _ => False
theorem ss_bind_app (x y:String) {p p' ap:Pos} (hk:storable sc x = true:=by decide +kernel) (hd:(nm y == ("__debug__":Str)) = false:=by decide) (hn:(nm y == ("__classdict__":Str)) = false:=by decide)
    (hbase:∀ env,attributeBase (.Name (nm y) p) "append" env (eval (.Name (nm y) p) env) = eval (.Name (nm y) p) env:=by intro _; rfl)
    (hs:∀ env l,swapsWith (.Attribute (.Name (nm y) p) "append" ap) (some (.Name (nm x) p')) l env = pure false:=by intro _ _; rfl)
    (hg:∀ o r,letTemporaryGo (.Name (nm y) p) o r = pure ():=by intro _ _; rfl) :
    SS W sc n (.Assign [.Name (Str.ofString x) p'] (.Attribute (.Name (Str.ofString y) p) "append" ap) pos) (tBindApp x y) :=
  fun fx F σ s P E hsc hw hrm I h hE => by
    unfold tBindApp at h
    cases q:get σ y with
    | none => rw [q] at h; cases h
    | some slot =>
      rw [q] at h
      cases slot with
      | own l =>
        obtain ⟨hxy,hP⟩:=h
        obtain ⟨v,hv,a,rfl,ho⟩:=I.vars y _ q
        obtain ⟨⟨o,xs,ep,ho',hc,hd',hr,hdn⟩,hF,hB⟩:=ho
        refine wp_Assign_Name ⟨?_⟩ (hs _ _)
        rw [arm_eval_Attribute,hbase]
        refine wpAny_bind (wpAny_Name (load_of I hv hn ?_).out hd)
        refine wpAny_bind (wpAny_standAt ?_)
        obtain ⟨oc,od,odt,osl⟩:=o
        simp only at hc hd' hdn
        subst hc hd' hdn
        obtain ⟨g1,g2⟩:=I.pushF (o:=boundApp a) (tk:=s.toks + 1) rfl ⟨fun e => (nomatch e),fun ℓ ℓ e => (nomatch e),fun ℓ e => (nomatch e)⟩
        refine wpAny_bind (wpAny_holding ?_)
        obtain ⟨sh,sg,sd,st,sos⟩:=s
        refine app_attr ho' ?_
        rw [hg]
        refine wpAny_bind (wpAny_pure (wpAny_pure ?_))
        constructor
        refine g2.store (sl:=.app y) hw (by rw [hsc]; exact hk) ⟨_,a,rfl,Fz.add_self,fun w l' hw' hy => ?_⟩ fresh_app (by intro e; cases e; exact hxy rfl) fun s' I' => ⟨_,_,g1,I',hP⟩
        exact holds_fun hw' (I.holds_to (KeepX.of_keeps fun b o e => Heap.get?_push_of_some _ e) hv)
      | _ => cases h
end
end Mine
end
noncomputable section
open PySem PySem.W PyProof.Rows PySem.Spec PySem.Calls
set_option Elab.async false
set_option maxRecDepth 100000
set_option linter.unusedVariables false
namespace Mine
noncomputable abbrev UEE:="UnicodeEncodeError"
theorem uee_new:ExcNewFacts UEE "UnicodeEncodeError.__new__" where
  ends:=by decide +kernel
  owner:=by decide +kernel
  entry:=entryFor_alias (id':="BaseException.__new__") (by rw [fastTable_eq_tree]; kernel_rfl) (by first | rfl | decide +kernel) (by decide +kernel) (by rw [fastTable_eq_tree]; kernel_rfl)
  sub:=by rw [isSubtype_type]; kernel_rfl
  notAttr:=by rw [isSubtype_type]; kernel_rfl
  notName:=by rw [isSubtype_type]; kernel_rfl
  made:=by kernel_rfl
theorem uee_notType:(Value.type UEE == Value.type "type") = false:=by decide +kernel
theorem uee_canMake:((Manifest.find? UEE).bind fun x => List.findSome? (fun t => (Manifest.find? t).bind fun b =>
    if b.noNew = true then some true else if (b.attrs.any fun x => x.fst == "__new__") = true then some false else none) x.mro).getD false = false:=by kernel_rfl
theorem uee_noVector (args:Args):checkTypeCall UEE args = pure ():=by kernel_rfl
theorem uee_mro:mroOf (.type UEE) = pure [.type UEE,.type "UnicodeError",.type "ValueError",.type "Exception",.type "BaseException",.type "object"]:=by rw [mroOf_type]; kernel_rfl
theorem uee_madeBy:Bind.madeBy (.type UEE) = pure (some "UnicodeEncodeError.__new__"):=by kernel_rfl
theorem uee_quiet:"UnicodeEncodeError.__new__".startsWith "lifetime." = false:=by decide +kernel
theorem uee_newOk (rest:List Value):checkBuiltinCall "UnicodeEncodeError.__new__" ⟨.type UEE :: rest,[]⟩ = pure ():=by kernel_rfl
theorem uee_init:PySem.Slot UEE "__init__" "UnicodeEncodeError.__init__":=.of (owner:=UEE) (n:="__init__") (by rw [typeLookup_type,builtinLookup_eq_fast]; kernel_rfl) (by decide +kernel) (by decide +kernel) (by decide +kernel)
    (by first | exact .inl (by decide +kernel) | exact .inr (by decide +kernel)) (by rw [isSubtype_type]; kernel_rfl)
theorem uee_initEntry:entryFor table "UnicodeEncodeError.__init__" = some Builtin.«UnicodeEncodeError.__init__»:=entryFor_of_tree (by kernel_rfl)
theorem uee_args (a b c d e f:Value):argsOk "UnicodeEncodeError.__init__" ⟨[a,b,c,d,e,f],[]⟩:=by unfold argsOk; kernel_rfl
section
variable {prog:Program} {w:World} {A:Around} {E:Value → Shared → Prop} {hp:Heap} {g:Array GenState} {d:Drawn} {t:Nat} {os:OsState}
structure MadeF (h h':Heap) (e:Addr) (c:Value):Prop where
  keeps:∀ b o,h.get? b = some o → h'.get? b = some o
  new:h.get? e = none
  there:∃ oe vs a0,h'.get? e = some oe ∧ oe.cls = c ∧ oe.data = .fields vs ∧ vs[0]? = some a0 ∧ vs[1]? = some .none ∧ vs[2]? = some .none
open Builtin.UnicodeEncodeError in
noncomputable def ueeF (v0:Value):Option Members → Array Value
  | none => #[v0,.none,.none,.none,.bool false,.none]
  | some m => #[v0,.none,.none,.none,.bool false,.none,m.encoding,m.object,rawInt m.start,rawInt m.stop,m.reason]
open Builtin.UnicodeEncodeError in
structure UAt (h₀ h:Heap) (e:Addr) (v0:Value) (m:Option Members):Prop where
  keep:∀ b o,b ≠ e → h₀.get? b = some o → h.get? b = some o
  at_:h.get? e = some { cls:=.type UEE,data:=.fields (ueeF v0 m) }
open Builtin.UnicodeEncodeError in
theorem u_members {h₀:Heap} {e:Addr} {v0:Value} {m:Option Members} {Q:Members → Shared → Prop} (x:UAt h₀ hp e v0 m) (h:Q (m.getD {}) ⟨hp,g,d,t,os⟩) :
    wpAny (model prog w) A (members (.ref e)) Q E ⟨hp,g,d,t,os⟩:=by
  unfold members
  refine wpAny_bind (wpAny_fieldsOf x.at_ rfl ?_)
  cases m with
  | none => exact wpAny_pure h
  | some m => exact wpAny_pure h
open Builtin.UnicodeEncodeError in
theorem u_set {h₀:Heap} {e:Addr} {v0:Value} {m:Option Members} {m':Members} {Q:Unit → Shared → Prop} (x:UAt h₀ hp e v0 m) (h:∀ h',UAt h₀ h' e v0 (some m') → Q () ⟨h',g,d,t,os⟩) :
    wpAny (model prog w) A (setMembers (.ref e) m') Q E ⟨hp,g,d,t,os⟩:=by
  unfold setMembers
  have e1:(ueeF v0 m).extract 0 6 ++ #[m'.encoding,m'.object,rawInt m'.start,rawInt m'.stop,m'.reason] = ueeF v0 (some m'):=by cases m <;> rfl
  refine wpAny_updateFields x.at_ rfl (h _ ⟨fun b o hb q => ?_,?_⟩) ?_
  · rw [Heap.get?_update_other _ _ (Ne.symm hb)]; exact x.keep b o hb q
  · rw [Heap.get?_update_self _ x.at_ rfl]
    show some (Obj.mapFields _ _) = _
    unfold Obj.mapFields
    simp only [e1]
  · simp only [e1]; cases m <;> exact (by decide:11 ≤ sizeLine + 3)
open Builtin.UnicodeEncodeError in
theorem u_strArg {id:String} {i:Nat} {x:Str} {t1:Tok} {Q:Unit → Shared → Prop} (h:Q () ⟨hp,g,d,t,os⟩):wpAny (model prog w) A (strArgument id i (.str x t1)) Q E ⟨hp,g,d,t,os⟩:=by
  unfold strArgument
  wp_walk
  exact h
open Builtin.UnicodeEncodeError in
theorem u_sizeArg {id:String} {i:Nat} {t1:Tok} {Q:Int → Shared → Prop} (hi:i < 2 ^ 60) (h:Q (i:Int) ⟨hp,g,d,t,os⟩):wpAny (model prog w) A (sizeArgument id (.int i t1)) Q E ⟨hp,g,d,t,os⟩:=by
  unfold sizeArgument
  refine wpAny_bind (wpAny_of_eq (a:=(i:Int)) rfl ?_)
  have:(decide ((i:Int) < -(2 ^ 63:Int)) || decide ((i:Int) ≥ 2 ^ 63)) = false:=by simp only [Bool.or_eq_false_iff,decide_eq_false_iff_not]; omega
  rw [if_neg (by rw [this]; decide)]
  exact wpAny_pure h
open Builtin.UnicodeEncodeError in
theorem init_uee {e:Addr} {v0:Value} {a1 a2 a5:Str} {i j:Nat} {t1 t2 t3 t4 t5:Tok} {Q:Fin → Shared → Prop}
    (he:hp.get? e = some { cls:=.type UEE,data:=.fields (ueeF v0 none) }) (hi:i < 2 ^ 60) (hj:j < 2 ^ 60)
    (h:∀ h' k v0' m,UAt hp h' e v0' (some m) → Q (.done (.ret .none)) ⟨h',g,d,k,os⟩) :
    wpAny (model prog w) A (Builtin.«UnicodeEncodeError.__init__» ⟨[.ref e,.str a1 t1,.str a2 t2,.int i t3,.int j t4,.str a5 t5],[]⟩) Q E ⟨hp,g,d,t,os⟩:=by
  unfold Builtin.«UnicodeEncodeError.__init__» beginInit
  dsimp only
  refine wpAny_bind ?_
  rw [if_neg (by decide)]
  refine wpAny_bind (wpAny_field he rfl rfl ?_)
  refine wpAny_bind (wpAny_newTuple ?_ (show 5 ≤ sizeLine by decide))
  have he2:(hp.push { cls:=.type "tuple",data:=.seq [Value.str a1 t1,Value.str a2 t2,Value.int (↑i) t3,Value.int (↑j) t4,Value.str a5 t5].toArray }).get? e = some { cls:=.type UEE,data:=.fields (ueeF v0 none) }:=Heap.get?_push_of_some _ he
  refine wpAny_bind (wpAny_setField he2 rfl (show 0 < 6 by decide) ?_)
  have X₀:UAt hp ((hp.push { cls:=.type "tuple",data:=.seq [Value.str a1 t1,Value.str a2 t2,Value.int (↑i) t3,Value.int (↑j) t4,Value.str a5 t5].toArray }).update e (Obj.mapFields (·.setIfInBounds 0 (.ref hp.objs.size)))) e (.ref hp.objs.size) none:=by
    refine ⟨fun b o hb q => ?_,?_⟩
    · rw [Heap.get?_update_other _ _ (Ne.symm hb)]; exact Heap.get?_push_of_some _ q
    · rw [Heap.get?_update_self _ he2 rfl]; rfl
  refine wpAny_bind (wpAny_letGo ?_)
  rw [if_pos (by decide)]
  refine wpAny_bind (u_members X₀ ?_)
  refine wpAny_bind (u_set X₀ fun h₁ X₁ => ?_)
  refine wpAny_bind (wpAny_letGo ?_)
  refine wpAny_bind (u_members X₁ ?_)
  refine wpAny_bind (u_set X₁ fun h₂ X₂ => ?_)
  refine wpAny_bind (wpAny_letGo ?_)
  refine wpAny_bind (u_members X₂ ?_)
  refine wpAny_bind (u_set X₂ fun h₃ X₃ => ?_)
  refine wpAny_bind (wpAny_letGo ?_)
  refine wpAny_ite (KBy.ite_no (show ¬ (([Value.str a1 t1,Value.str a2 t2,Value.int (↑i) t3,Value.int (↑j) t4,Value.str a5 t5].length != 5) = true) by simp) ?_)
  refine wpAny_pure ?_
  refine wpAny_bind (u_strArg ?_)
  refine wpAny_bind (u_strArg ?_)
  unfold initRange
  refine wpAny_bind ?_
  refine wpAny_bind (u_sizeArg hi ?_)
  refine wpAny_bind (u_members X₃ ?_)
  refine wpAny_bind (u_set X₃ fun h₄ X₄ => ?_)
  refine wpAny_bind (u_sizeArg hj ?_)
  refine wpAny_bind (u_members X₄ ?_)
  refine (u_set X₄ fun h₅ X₅ => ?_)
  refine wpAny_bind (u_strArg ?_)
  refine wpAny_bind (u_members X₅ ?_)
  refine wpAny_bind (u_set X₅ fun h₆ X₆ => ?_)
  exact wpAny_pure (h _ _ _ _ X₆)
theorem type_call_uee {a1 a2 a5:Str} {i j:Nat} {t1 t2 t3 t4 t5:Tok} {Q:Fin → Shared → Prop} (hi:i < 2 ^ 60) (hj:j < 2 ^ 60)
    (h:∀ h' e k,MadeF hp h' e (.type UEE) → Q (.done (.ret (.ref e))) ⟨h',g,d,k,os⟩) :
    wpAny (model prog w) A (Builtin.«type.__call__» ⟨[.type UEE,.str a1 t1,.str a2 t2,.int i t3,.int j t4,.str a5 t5],[]⟩) Q E ⟨hp,g,d,t,os⟩:=by
  have hnt:=uee_notType
  have hcan:=uee_canMake
  have hchk:=uee_noVector ⟨[.str a1 t1,.str a2 t2,.int i t3,.int j t4,.str a5 t5],[]⟩
  have hmro:=uee_mro
  have hmade:=uee_madeBy
  wp_walk
  refine codeAny_call_builtin_code (Code.quiet_builtin _ uee_quiet) (wpAny_of_eq (uee_newOk _) ?_)
  refine codeAny_exc_new uee_new ?_ (show 5 ≤ sizeLine by decide)
  show wpAny _ _ _ _ _ _
  have hget:((hp.push { cls:=.type "tuple",data:=.seq [Value.str a1 t1,Value.str a2 t2,Value.int (↑i) t3,Value.int (↑j) t4,Value.str a5 t5].toArray }).push
      { cls:=.type UEE,data:=.fields #[.ref hp.objs.size,.none,.none,.none,.bool false,.none] }).get? (hp.objs.size + 1) = some
      { cls:=.type UEE,data:=.fields #[.ref hp.objs.size,.none,.none,.none,.bool false,.none] }:=by heap_get
  refine wpAny_bind (wpAny_isInstance ⟨_,hget,rfl⟩ uee_new.sub ?_)
  wp_step
  refine wpAny_bind (wpAny_holding (wpAny_callSpecial?_slot ⟨_,hget,rfl⟩ uee_init (wpAny_call_entry uee_init ⟨_,hget,rfl⟩ uee_initEntry (init_uee hget hi hj fun h' k v0' m X => ?_) (uee_args _ _ _ _ _ _))))
  refine ⟨_,rfl,?_⟩
  dsimp only
  rw [if_neg (by decide)]
  refine wpAny_pure (h _ _ _ ⟨fun b o hb => ?_,Heap.get?_none_of_le (Nat.le_succ _),⟨_,_,v0',X.at_,rfl,rfl,rfl,rfl,rfl⟩⟩)
  exact X.keep b o (Nat.ne_of_lt (Nat.lt_succ_of_lt (Heap.lt_size hb))) (Heap.get?_push_of_some _ (Heap.get?_push_of_some _ hb))
theorem call_uee {a1 a2 a5:Str} {i j:Nat} {t1 t2 t3 t4 t5:Tok} {Q:Value → Shared → Prop} (hi:i < 2 ^ 60) (hj:j < 2 ^ 60)
    (h:∀ h' e k,MadeF hp h' e (.type UEE) → Q (.ref e) ⟨h',g,d,k,os⟩) :
    wpAny (model prog w) A (call (.type UEE) [.str a1 t1,.str a2 t2,.int i t3,.int j t4,.str a5 t5]) Q E ⟨hp,g,d,t,os⟩:=by
  refine wpAny_call (codeAny_of_tree ?_)
  show wpAny _ _ (again (.builtin "type.__call__" ⟨.type UEE :: _,[]⟩)) _ _ _
  exact wpAny_pure ⟨Code.quiet_builtin _ (by decide +kernel),codeAny_builtin entry_typeCall (type_call_uee hi hj fun h' e k hm => h h' e k hm)⟩
end
end Mine
end
noncomputable section
open PySem PySem.W PyProof.Rows PySem.Spec PySem.Calls
set_option Elab.async false
set_option maxRecDepth 100000
set_option linter.unusedVariables false
namespace Mine
open Builtin Builtin._codecs
theorem bad_ge (c:Nat):asciiCodec.bad c = decide (128 ≤ c):=by
  simp [asciiCodec]
section
variable {prog:Program} {w:World} {A:Around} {E:Value → Shared → Prop} {hp:Heap} {g:Array GenState} {d:Drawn} {t:Nat} {os:OsState}
theorem fault_raise {codec reason:String} {x:Str} {u:Tok} {i j:Nat} {α:Type} {Q:α → Shared → Prop} (hh:A.handled = none) (hi:i < 2 ^ 60) (hj:j < 2 ^ 60)
    (hc:(Str.ofString codec).length ≤ sizeLine) (hr:(Str.ofString reason).length ≤ sizeLine)
    (h:∀ h' e k,MadeF hp h' e (.type UEE) → E (.ref e) ⟨h',g,d,k,os⟩):wpAny (model prog w) A (raiseEncodeFault ({}:Faults) codec (.str x u) i j reason:Sem α) Q E ⟨hp,g,d,t,os⟩:=by
  unfold raiseEncodeFault
  refine wpAny_bind (m:=(do let a ← mkStr codec; let b ← mkInt i; let c ← mkInt j; let r ← mkStr reason; call (.type "UnicodeEncodeError") [a,.str x u,b,c,r])) ?_
  refine wpAny_bind (wpAny_mkStr ?_ hc)
  refine wpAny_bind (wpAny_mkInt ?_)
  refine wpAny_bind (wpAny_mkInt ?_)
  refine wpAny_bind (wpAny_mkStr ?_ hr)
  refine call_uee hi hj fun h' e k hm => ?_
  unfold raiseNew
  refine wpAny_bind (wpAny_handled ?_)
  rw [hh]
  first
    | exact wpAny_throw (h _ _ _ hm)
    | exact wpAny_bind (wpAny_pure (wpAny_throw (h _ _ _ hm)))
theorem wp_forcons {M:Model} {β α:Type} {f:Nat → β → Sem (ForInStep β)} {k:β → Sem α} {a:Nat} {l:List Nat} {b:β} {Q:α → Shared → Prop} {E:Value → Shared → Prop} {s:Shared}
    (h:wpAny M A (f a b) (fun r s' => match r with | .done b => wpAny M A (k b) Q E s' | .yield b => wpAny M A (forIn l b f >>= k) Q E s') E s):wpAny M A (forIn (a :: l) b f >>= k) Q E s:=by
  rw [List.forIn_cons,bind_assoc]
  refine wpAny_bind (wpAny_mono h (fun r s' h => ?_) fun ℓ ℓ h => h)
  cases r with
  | done b => exact wpAny_bind (wpAny_pure h)
  | yield b => exact h
theorem enc_bad {id:String} {u:Tok} {x:Str} {Q:Array UInt8 → Shared → Prop} (hh:A.handled = none) (hb:∃ c ∈ x.cps,128 ≤ c) (hz:x.length ≤ 10000)
    (h:∀ h' e k,MadeF hp h' e (.type UEE) → E (.ref e) ⟨h',g,d,k,os⟩):wpAny (model prog w) A (encodeNarrow id asciiCodec none (.str x u) x) Q E ⟨hp,g,d,t,os⟩:=by
  obtain ⟨f,hf⟩:=encF id (.str x u) x
  have hr:∀ (i:Nat),i ≤ x.length → wpAny (model prog w) A (raiseEncodeFault {} "ascii" (.str x u) i (i + (Array.findIdx? (fun y => !asciiCodec.bad y) (x.cps.extract i)).getD (x.cps.size - i)) "ordinal not in range(128)":Sem PUnit) (fun ℓ ℓ => False) E ⟨hp,g,d,t,os⟩:=fun i hi => by
    have h1:(Array.findIdx? (fun y => !asciiCodec.bad y) (x.cps.extract i)).getD (x.cps.size - i) ≤ x.length:=by
      cases q:Array.findIdx? (fun y => !asciiCodec.bad y) (x.cps.extract i) with
      | none => exact Nat.sub_le _ _
      | some k =>
        have:=(Array.findIdx?_eq_some_iff_findIdx_eq.mp q).1
        rw [Array.size_extract] at this
        exact Nat.le_of_lt (Nat.lt_of_lt_of_le this (Nat.le_trans (Nat.sub_le _ _) (Nat.min_le_right _ _)))
    exact fault_raise hh (by omega) (by omega) (by decide +kernel) (by decide +kernel) h
  rw [hf.eq,rng0]
  obtain ⟨c,hc,hge⟩:=hb
  have hl:0 < x.cps.size:=by
    cases q:x.cps.size with
    | zero => rw [Array.eq_empty_of_size_eq_zero q] at hc; exact absurd hc (Array.not_mem_empty _)
    | succ n => exact Nat.succ_pos _
  have h0:=Array.getElem?_eq_getElem hl
  obtain ⟨m,hm⟩:∃ m,x.length = m + 1:=⟨_,(Nat.succ_pred_eq_of_pos hl).symm⟩
  have z0:¬ (#[]:Array UInt8).size > sizeLine:=Nat.not_lt_zero _
  rw [hm,List.range'_succ]
  refine wp_forcons ?_
  cases hb0:asciiCodec.bad x.cps[0] with
  | true => exact hf.bad _ _ _ _ _ z0 h0 hb0 (hr 0 (Nat.zero_le _))
  | false =>
    rw [hf.good _ _ _ _ _ z0 h0 hb0]
    refine wpAny_pure ?_
    dsimp only
    rw [ext0,Nat.zero_add,fold_bytesA]
    cases hk:Array.findIdx? asciiCodec.bad x.cps with
    | none =>
      have:=Array.findIdx?_eq_none_iff.mp hk c hc
      rw [bad_ge] at this
      exact absurd hge (of_decide_eq_false this)
    | some k =>
      obtain ⟨h1,h2,h3⟩:=Array.findIdx?_eq_some_iff_getElem.mp hk
      have hk0:k ≠ 0:=by
        rintro rfl
        rw [h2] at hb0
        cases hb0
      have hlt:k < m + 1:=by rw [← hm]; exact h1
      obtain ⟨n,rfl⟩:∃ n,m = n + 1:=⟨m - 1,(Nat.succ_pred (fun e => hk0 (Nat.lt_one_iff.mp (by rw [e] at hlt; exact hlt)))).symm⟩
      have z1:¬ ((x.cps.extract 0 k).map (·.toUInt8)).size > sizeLine:=by
        have h4:=sizeLine_ge
        have h5:x.cps.size = x.length:=rfl
        rw [Array.size_map,Array.size_extract]
        omega
      rw [Option.getD_some,List.range'_succ,Nat.zero_add]
      refine wp_forcons ?_
      exact hf.bad _ _ _ _ _ z1 (Array.getElem?_eq_getElem h1) h2 (hr k (Nat.le_of_lt h1))
end
end Mine
end
noncomputable section
open PySem PySem.W PyProof.Rows PySem.Spec PySem.Calls
set_option Elab.async false
set_option maxRecDepth 100000
set_option linter.unusedVariables false
namespace Mine
noncomputable def NoCtx (h:Heap) (e:Addr):Prop:=∃ oe vs,h.get? e = some oe ∧ oe.data = .fields vs ∧ vs[2]? = some .none
section
variable {M:Model} {A:Around} {E:Value → Shared → Prop} {s:Shared} {base:Heap} {env:Env} {outer:List Env} {L e:Addr}
structure Noted1 (base:Heap) (l:List Env) (L e T:Addr) (vs:Array Value) (oe:Obj) (h h':Heap):Prop where
  stays:base.StaysIn h'
  frs:h'.FunFrames base l
  at_:∃ oe',h'.get? e = some oe' ∧ oe'.cls = oe.cls ∧ oe'.data = .fields (vs.setIfInBounds 1 (.ref T))
  baseT:base.get? T = none
  ne:T ≠ e
  atT:∃ oT ts,h'.get? T = some oT ∧ oT.data = .fields ts ∧ ts[3]? = some (rawInt L)
  slots:h.UpToSlots h'
theorem note_full {oe:Obj} {vs:Array Value} {Q:Unit → Shared → Prop} (hfr:A.frames = some (env :: outer)) (hl:s.heap.FunFrames base (env :: outer)) (hf:env.frame = some L)
    (he:s.heap.get? e = some oe) (hkb:base.StaysIn s.heap) (hen:base.get? e = none) (hd:oe.data = .fields vs) (h1:vs[1]? = some .none)
    (h:∀ h' T,Noted1 base (env :: outer) L e T vs oe s.heap h' → Q () { s with heap:=h' }):wpAny M A (noteFrame (.ref e) env) Q E s:=by
  have hsz:1 < vs.size:=(Array.getElem?_eq_some_iff.mp h1).1
  have hene:e ∉ (env :: outer).filterMap (·.frame):=fun hm => by
    obtain ⟨_,o,ho,hnf⟩:=hl.mem hm
    rw [he] at ho; cases ho
    exact hnf vs hd
  unfold noteFrame
  simp only [hf]
  refine wpAny_bind (wpAny_field he hd h1 ?_)
  rw [if_neg (by decide)]
  refine wpAny_bind (wpAny_frameOf_fun hfr hl hf fun h₁ hs₁ => ?_)
  refine wpAny_bind (wpAny_entryPlaceOf fun pl hpl => ?_)
  unfold EntryCells.newEntry newFields
  refine wpAny_bind (wpAny_newObj_type ?_ (hpl.sizeOk5 _ _ _ _ _))
  have he₁:h₁.get? e = some oe:=(hs₁.2.1 e hene).trans he
  have kb₁:base.StaysIn h₁:=fun b o hbo => (hs₁.2.1 b fun hm => by rw [(hl.mem hm).1] at hbo; cases hbo).trans (hkb b o hbo)
  generalize hob:({ cls:=.type "traceback",dict:=none,data:=.fields ([Value.none,.ref L,.none,rawInt L,.none] ++ (if pl.isEmpty then List.replicate 6 Value.none else pl)).toArray }:Obj) = ob
  have hobd:ob.isFreed = false:=by rw [← hob]; rfl
  have he₂:=Heap.get?_push_of_some (h:=h₁) ob he₁
  have hTe:h₁.objs.size ≠ e:=Nat.ne_of_gt (Heap.lt_size he₁)
  have hd₃:=Obj.data_mapFields hd (·.setIfInBounds 1 (Value.ref h₁.objs.size))
  have he₃:=Heap.get?_update_self (Obj.mapFields (·.setIfInBounds 1 (Value.ref h₁.objs.size))) he₂ (Obj.isFreed_of_fields hd₃)
  have hT₃:((h₁.push ob).update e (Obj.mapFields (·.setIfInBounds 1 (Value.ref h₁.objs.size)))).get? h₁.objs.size = some ob :=
    (Heap.get?_update_other (h₁.push ob) (Obj.mapFields (·.setIfInBounds 1 (Value.ref h₁.objs.size))) (Ne.symm hTe)).trans (Heap.get?_push_size h₁ hobd)
  have keep:∀ b o,b ≠ e → h₁.get? b = some o → ((h₁.push ob).update e (Obj.mapFields (·.setIfInBounds 1 (Value.ref h₁.objs.size)))).get? b = some o:=fun b o hbe hb => by
    rw [Heap.get?_update_other _ _ (Ne.symm hbe)]
    exact Heap.get?_push_of_some _ hb
  have noRecord:∀ b o,s.heap.get? b = some o → (∀ vs,o.data ≠ .fields vs) → b ≠ e:=fun b o hb hnf q => by
    rw [q,he] at hb; cases hb
    exact hnf vs hd
  refine wpAny_setField he₂ hd hsz (h _ h₁.objs.size ⟨fun b o hbo => keep b o (fun q => by rw [q,hen] at hbo; cases hbo) (kb₁ b o hbo),hl.of_keeps fun b o hb hnf => ?_,⟨_,he₃,Obj.cls_mapFields _ _,hd₃⟩,kb₁.fresh,hTe,
    ⟨ob,_,hT₃,by rw [← hob],by first | (simp; done) | (rcases hpl with rfl | ⟨_,_,_,_,_,_,_,rfl⟩ <;> simp)⟩,fun b o hb hnf => ?_⟩)
  · obtain ⟨sl,hs⟩:=hs₁.2.2 b o hb
    exact ⟨_,keep b _ (noRecord b o hb hnf) hs,rfl⟩
  · obtain ⟨sl,hs⟩:=hs₁.2.2 b o hb
    exact ⟨sl,keep b _ (noRecord b o hb hnf) hs⟩
theorem flight_full {cls a0 fl:Value} {l:List Env} {f:Option Addr} {Q:Unit → Shared → Prop} (hkb:base.StaysIn s.heap) (hl:s.heap.FunFrames base l) (ht:s.heap.TracedAtW base e cls a0 fl)
    (h:∀ h',base.StaysIn h' → h'.FunFrames base l → h'.TracedAtW base e cls a0 (f.elim .none fun a => rawInt a) → s.heap.UpToSlots h' → (NoCtx s.heap e → NoCtx h' e) → Q () { s with heap:=h' }):wpAny M A (setFlight (.ref e) f) Q E s:=by
  obtain ⟨oe,vs,T,oT,ts,he,hcls,hd,h1,hnT,hTe,hT,hdT,h3⟩:=ht
  have hsz3:3 < ts.size:=(Array.getElem?_eq_some_iff.mp h3).1
  have other:∀ b,b ≠ T → (s.heap.update T (Obj.mapFields (·.setIfInBounds 3 (f.elim Value.none fun f => rawInt f)))).get? b = s.heap.get? b:=fun b hb => Heap.get?_update_other _ _ (Ne.symm hb)
  have noRecord:∀ b o,s.heap.get? b = some o → (∀ vs,o.data ≠ .fields vs) → b ≠ T:=fun b o hb hnf q => by
    rw [q,hT] at hb; cases hb
    exact hnf ts hdT
  unfold setFlight
  refine wpAny_bind (wpAny_field he hd h1 ?_)
  rw [if_pos (show (Value.ref T != Value.none) = true from by simp)]
  refine wpAny_setField hT hdT hsz3 (h _ (fun b o hbo => (other b fun q => by rw [q,hnT] at hbo; cases hbo).trans (hkb b o hbo)) (hl.of_keeps fun b o hb hnf => ⟨o,(other b (noRecord b o hb hnf)).trans hb,rfl⟩) ?_
    (fun b o hb hnf => ⟨o.slots,(other b (noRecord b o hb hnf)).trans hb⟩) fun ⟨o2,v2,q1,q2,q3⟩ => ⟨o2,v2,(other e (Ne.symm hTe)).trans q1,q2,q3⟩)
  exact ⟨oe,vs,T,_,_,(other e (Ne.symm hTe)).trans he,hcls,hd,h1,hnT,hTe,Heap.get?_update_self _ hT (Obj.isFreed_of_fields (Obj.data_mapFields hdT _)),Obj.data_mapFields hdT _,by simp [hsz3]⟩
theorem Noted1.traced {l:List Env} {T:Addr} {vs:Array Value} {oe:Obj} {h h':Heap} {a0:Value} (x:Noted1 base l L e T vs oe h h') (h0:vs[0]? = some a0) (h1:1 < vs.size):h'.TracedAtW base e oe.cls a0 (rawInt L):=by
  obtain ⟨oe',he,hc,hd⟩:=x.at_
  obtain ⟨oT,ts,hT,hdT,h3⟩:=x.atT
  exact ⟨oe',_,T,oT,ts,he,⟨hc,by rw [Array.getElem?_setIfInBounds_ne (by decide)]; exact h0⟩,hd,by simp [h1],x.baseT,x.ne,hT,hdT,h3⟩
theorem Noted1.noCtx {l:List Env} {T:Addr} {vs:Array Value} {oe:Obj} {h h':Heap} (x:Noted1 base l L e T vs oe h h') (h2:vs[2]? = some .none):NoCtx h' e:=by
  obtain ⟨oe',he,hc,hd⟩:=x.at_
  exact ⟨oe',_,he,hd,by rw [Array.getElem?_setIfInBounds_ne (by decide)]; exact h2⟩
end
end Mine
end
noncomputable section
open PySem PySem.W PyProof.Rows PySem.Spec PySem.Calls
set_option Elab.async false
set_option maxRecDepth 100000
set_option linter.unusedVariables false
namespace Mine
theorem entry_unchain:entryFor table "proto.unchain" = some Builtin.«proto.unchain»:=entryFor_of_tree (by kernel_rfl)
section
variable {prog:Program} {w:World} {A:Around} {E:Value → Shared → Prop} {env:Env} {hp:Heap} {g:Array GenState} {d:Drawn} {t:Nat} {os:OsState} {x:Addr}
theorem unchain_none {e x:Addr} {Q:Value → Shared → Prop} (hx:NoCtx hp x) (hq:Q .none ⟨hp,g,d,t,os⟩):wpAny (model prog w) A (runValue (.builtin "proto.unchain" ⟨[.ref e,.ref x,.ref x,.bool false],[]⟩)) Q E ⟨hp,g,d,t,os⟩:=by
  obtain ⟨ox,vs,h1,h2,h3⟩:=hx
  refine wpAny_runValue (codeAny_builtin entry_unchain ?_)
  unfold Builtin.«proto.unchain»
  dsimp only
  refine wpAny_bind (wpAny_field h1 h2 h3 ?_)
  rw [if_pos (by decide)]
  exact wpAny_pure hq
theorem raise_new_in {e x:Addr} {oe:Obj} {vs:Array Value} {α:Type} {Q:α → Shared → Prop} (hh:A.handled = some (.ref x)) (hx:NoCtx hp x) (he:hp.get? e = some oe) (hd:oe.data = .fields vs) (hsz:2 < vs.size) (hne:x ≠ e)
    (h:E (.ref e) ⟨hp.update e (Obj.mapFields (·.setIfInBounds 2 (.ref x))),g,d,t,os⟩):wpAny (model prog w) A (raiseNew (.ref e):Sem α) Q E ⟨hp,g,d,t,os⟩:=by
  unfold raiseNew
  refine wpAny_bind (wpAny_handled ?_)
  rw [hh]
  dsimp only
  rw [if_pos (show (Value.ref x != Value.ref e) = true by simp [hne])]
  refine wpAny_bind (wpAny_holding (unchain_none hx ?_))
  exact wpAny_bind (show wpAny _ A (setField (.ref e) 2 (.ref x)) _ _ _ from wpAny_setField he hd hsz (wpAny_throw h))
theorem raise_inside {m:Str} {k:Nat} {np mp cpos pos:Pos} {Q:Flow → Shared → Prop} {s:Shared} (hh:A.handled = some (.ref x)) (hx:NoCtx s.heap x) (hz:m.length ≤ sizeLine)
    (hload:∀ {Q':Value → Shared → Prop},Q' (.type "ValueError") s → wpAny (model prog w) A (eval (.Name (nm "ValueError") np) env) Q' E s)
    (h:∀ h' e tk,(∀ b o,s.heap.get? b = some o → h'.get? b = some o) → s.heap.get? e = none → (∃ oe vs a0,h'.get? e = some oe ∧ oe.cls = .type "ValueError" ∧ oe.data = .fields vs ∧ vs[1]? = some .none ∧ vs[0]? = some a0) → E (.ref e) { s with heap:=h',toks:=tk }) :
    wpAny (model prog w) A (exec (.Raise (some (.Call (.Name (nm "ValueError") np) [.Constant (.str m) k mp] [] cpos)) none pos) env) Q E s:=by
  rw [arm_exec_Raise]
  show wpAny (model prog w) A (do standAt pos; raiseStmt env (some (do let v ← eval (.Call (.Name (nm "ValueError") np) [.Constant (.str m) k mp] [] cpos) env; standAt pos; pure v)) none) Q E s
  refine wpAny_bind (wpAny_standAt ?_)
  unfold raiseStmt
  refine wpAny_bind (wpAny_bind (wpAny_Call_ofName (hload ?_)))
  refine callWith_excType (by rfl) ?_
  refine Calls.evalArgs_plain (x:=eval (.Constant (.str m) k mp) env) (rest:=backTo cpos (starEach [] env)) (Calls.spliced_cons (wpAny_Constant_str (Calls.spliced_nil ?_)))
  obtain ⟨hp,g,d,t,os⟩:=s
  refine wpAny_call_exc PySem.F.excCall_ValueError (fun h' e hm => ?_) (show 1 ≤ sizeLine by decide)
  refine wpAny_bind (wpAny_standAt (wpAny_pure ?_))
  obtain ⟨tt,he,_,_⟩:=hm.there
  have hsub:=PySem.F.excRaise_ValueError.isExc
  have hmeta:=PySem.F.excRaise_ValueError.plainMeta
  repeat (first | refine wpAny_loadPart he ?_ | wp_step)
  have hxe:x ≠ e:=by
    rintro rfl
    obtain ⟨o,_,q,_⟩:=hx
    have:=hm.new
    rw [q] at this; cases this
  have hx':NoCtx h' x:=let ⟨o,vs,q1,q2,q3⟩:=hx; ⟨o,vs,hm.keeps _ _ q1,q2,q3⟩
  refine raise_new_in hh hx' he rfl (show 2 < 6 by decide) hxe (h _ e _ (fun b o hb => ?_) hm.new ⟨_,_,_,Heap.get?_update_self _ he rfl,rfl,rfl,rfl,rfl⟩)
  rw [Heap.get?_update_other _ _ (fun q => by rw [← q] at hb; have:=hm.new; rw [hb] at this; cases this)]
  exact hm.keeps _ _ hb
end
end Mine
end
noncomputable section
open PySem PySem.W PyProof.Rows PySem.Spec PySem.Calls
set_option Elab.async false
set_option maxRecDepth 100000
set_option linter.unusedVariables false
namespace Mine
noncomputable def ascL (x:List Nat):Bool:=x.all (· < 128)
noncomputable def bytesL (x:List Nat):List UInt8:=x.map (·.toUInt8)
theorem isExc_UEE:isSubtype (.type UEE) (.type "BaseException") = pure true:=by rw [isSubtype_type]; kernel_rfl
theorem notTuple_UEE:isSubtype (.type ((Manifest.find? UEE).elim "type" fun x => x.metatype)) (.type "tuple") = pure false:=by rw [show (Manifest.find? UEE).elim "type" (fun x => x.metatype) = "type" by kernel_rfl,isSubtype_type]; kernel_rfl
section
variable {prog:Program} {w:World} {A:Around} {E:Value → Shared → Prop} {s:Shared}
theorem call_encode {x:Str} {t1 t2:Tok} {Q:Value → Shared → Prop} (hh:A.handled = none) (hz:x.length ≤ 10000)
    (hok:ascL x.cps.toList = true → ∀ t k,Q (.bytes (x.cps.map (·.toUInt8)) t) { s with toks:=k })
    (hbad:ascL x.cps.toList = false → ∀ h' e k,MadeF s.heap h' e (.type UEE) → E (.ref e) { s with heap:=h',toks:=k }) :
    wpAny (model prog w) A (call (.builtin "str.encode") [.str x t1,.str (Str.ofString "ascii") t2]) Q E s:=by
  refine wpAny_call_entry PySem.F.slot_str_encode (typeIs_str _ _ _) PySem.F.entry_str_encode ?_ (PySem.F.args_str_encode_2 _ _)
  rw [enc_entry]
  cases ha:ascL x.cps.toList with
  | true =>
    have hc:∀ c ∈ x.cps,c < 128:=fun c hc => by
      unfold ascL at ha
      rw [List.all_eq_true] at ha
      simpa using ha c (by simpa using hc)
    rw [enc_ok hc (Nat.le_trans hz sizeLine_ge),pure_bind]
    exact wpAny_bind (wpAny_mkBytes (wpAny_pure ⟨_,rfl,hok ha _ _⟩) (by rw [Array.size_map]; exact Nat.le_trans hz sizeLine_ge))
  | false =>
    obtain ⟨sh,sg,sd,st,sos⟩:=s
    have hb:∃ c ∈ x.cps,128 ≤ c:=by
      unfold ascL at ha
      rw [List.all_eq_false] at ha
      obtain ⟨c,hc,h⟩:=ha
      exact ⟨c,by simpa using hc,by simpa using h⟩
    exact wpAny_bind (wpAny_bind (enc_bad hh hb hz fun h' e k hm => hbad ha h' e k hm))
end
section
variable {W:Wd} {sc:Scope} {n:Nat} {pos:Pos} {k:Nat}
theorem bytesL_eq (x:Str):(x.cps.map (·.toUInt8)).toList = bytesL x.cps.toList:=by simp [bytesL]
theorem encode_call {o:PySem.Expr} {ap p1:Pos} {k1:Nat} {to:TE} (ho:SE W sc n o to) (hline:(ap.endLine == pos.line) = true) (hbase:∀ env,attributeBase o "encode" env (eval o env) = eval o env)
    {fx:Fx} {F:Fz} {σ:Sto} {s:Shared} {E:Value → Shared → Prop} {K:V → Sto → Prop} {B:Sto → Prop} (hsc:fx.env.scope = sc) (hrm:Room fx.A n) (I:Inv W fx F σ s)
    (h:to (fun u σ₁ => ∃ x,u = .str x ∧ fits x.length ∧ (if ascL x = true then K (.bytes (bytesL x)) σ₁ else B σ₁)) (fun ℓ => False) σ)
    (hbad:∀ F₁ σ₁ s₁ h' e k,F.le F₁ → Inv W fx F₁ σ₁ s₁ → B σ₁ → MadeF s₁.heap h' e (.type UEE) → E (.ref e) { s₁ with heap:=h',toks:=k }) :
    wpAny W.M fx.A (eval (.Call (.Attribute o (Str.ofString "encode") ap) [.Constant (.str (Str.ofString "ascii")) k1 p1] [] pos) fx.env) (PE W fx F K) E s:=by
  refine wpAny_Call_method_lateS (hbase _) (by rfl) hline (wpAny_mono (ho fx F σ s _ _ E hsc hrm I h (fun ℓ ℓ ℓ x ℓ => x.elim)).out (fun ov s₁ h₁ => ?_) fun ℓ ℓ x => x)
  obtain ⟨F₁,σ₁,u,h01,I₁,ru,x,rfl,hf,h₁⟩:=h₁
  generalize hx:x = x' at ru
  obtain ⟨y,t,rfl,rfl⟩:=ru.inv
  subst hx
  refine ⟨"str","str.encode",PySem.F.plainAttrs_str,PySem.F.slot_str_encode,PySem.F.type_str_encode,typeIs_str _ _ _,fun a e => (nomatch e),?_⟩
  refine Calls.callWith_builtin (by rfl) (Calls.evalArgs_plain (x:=eval (.Constant (.str (Str.ofString "ascii")) k1 p1) fx.env) (rest:=backTo pos (starEach [] fx.env)) ?_)
  refine Calls.spliced_cons (wpAny_Constant_str (Calls.spliced_nil ?_))
  have I₂:=I₁.ext (.tok s₁ (s₁.toks + 1))
  refine call_encode I.ok.handled (show y.length ≤ 10000 by unfold fits at hf; have:y.length = y.cps.toList.length:=(by simp [Str.length]); omega) (fun ha t' k' => ?_) fun ha h' e k' hm => ?_
  · rw [if_pos ha] at h₁
    exact ⟨F₁,σ₁,_,h01,I₂.ext (.tok _ _),.bytes _ _,by rw [bytesL_eq]; exact h₁⟩
  · rw [if_neg (by rw [ha]; decide)] at h₁
    exact hbad F₁ σ₁ _ h' e k' h01 I₂ h₁ hm
theorem se_encode {o:PySem.Expr} {ap p1:Pos} {k1:Nat} {to:TE} (ho:SE W sc n o to) (hline:(ap.endLine == pos.line) = true:=by decide) (hbase:∀ env,attributeBase o "encode" env (eval o env) = eval o env:=by intro _; rfl) :
    SE W sc n (.Call (.Attribute o (Str.ofString "encode") ap) [.Constant (.str (Str.ofString "ascii")) k1 p1] [] pos) (fun Q X => to (fun u σ₁ => ∃ x,u = .str x ∧ fits x.length ∧ (if ascL x = true then Q (.bytes (bytesL x)) σ₁ else False)) (fun ℓ => False)) :=
  fun fx F σ s Q X E hsc hrm I h hE => ⟨encode_call ho hline hbase (B:=fun ℓ => False) hsc hrm I h fun ℓ ℓ ℓ ℓ ℓ ℓ ℓ ℓ hb ℓ => hb.elim⟩
noncomputable abbrev Inv.back0 (fx:Fx) (s:Shared):Heap:=hideAll s.heap (frs fx.fr)
theorem Inv.back0_old {fx:Fx} {s:Shared} {b:Addr} {o:Obj} (q:(Inv.back0 fx s).get? b = some o):s.heap.get? b = some o:=of_hideAll _ q
theorem Inv.back0_stays {fx:Fx} {F:Fz} {σ:Sto} {s:Shared} (I:Inv W fx F σ s):W.base.StaysIn (Inv.back0 fx s):=fun b o q => hideAll_get _ (I.win.stays b o q) fun hb => (by rw [(I.frs_dict hb).1] at q; cases q)
theorem Inv.back0_frames {fx:Fx} {F:Fz} {σ:Sto} {s:Shared} (I:Inv W fx F σ s):s.heap.FunFrames (Inv.back0 fx s) fx.fr:=funFrames_hide I.funFrames fun env he a ha => List.mem_filterMap.mpr ⟨env,he,ha⟩
theorem Inv.held {fx:Fx} {F:Fz} {σ:Sto} {s s':Shared} (I:Inv W fx F σ s) {e L:Addr} {c a0:Value} {outer:List Env} (hfr:fx.fr = fx.env :: outer) (hf:fx.env.frame = some L)
    (hh:Heap.HeldW (Inv.back0 fx s) fx.fr e c a0 L s'.heap) (up:s.heap.UpToSlots s'.heap) (hg:s'.gens = s.gens) (ho:s'.os = s.os):Raised W fx c (.ref e) s':=by
  have hP:W.P ∉ frs fx.fr:=fun hb => by
    obtain ⟨_,o,es,n,ho,hd⟩:=I.frs_dict hb
    obtain ⟨ps,hP,_⟩:=I.tab
    rw [hP] at ho; cases ho
    cases hd
  refine ⟨I.ok,⟨e,Inv.back0 fx s,F,rfl,I.back0_stays,fun b o q hn => hideAll_get _ ((I.keep b o q).1 hn) hn,.inr (.inr ⟨a0,fx.env,outer,L,hfr,hf,hh⟩),I.f0,fun b o q => hideAll_get _ (I.fin b o q) (I.frozen_nfrs q),I.fok,I.fnew,?_⟩,
    fun b o q => ?_,hg.symm ▸ I.win.gens,ho.trans I.win.os,?_,fun x cc hx hc => ?_⟩
  · obtain ⟨ps,hPs,h1,h2⟩:=I.tab
    exact ⟨ps,hideAll_get _ hPs hP,h1,h2⟩
  · by_cases hm:b ∈ frs fx.fr
    · obtain ⟨sl,e1⟩:=(I.keep b o q).2
      obtain ⟨_,o',es,n,h1,h2⟩:=I.frs_dict hm
      rw [e1] at h1; cases h1
      obtain ⟨sl',e2⟩:=UpToSlots.frame up e1 (es:=es) (n:=n) h2
      exact ⟨sl',e2⟩
    · exact ⟨o.slots,hh.1 b o (hideAll_get _ ((I.keep b o q).1 hm) hm)⟩
  · obtain ⟨m,hn⟩:=I.ns
    exact ⟨m,up.ns hn⟩
  · obtain ⟨v,o,h1,h2⟩:=I.cells x cc hx hc
    obtain ⟨sl,h3⟩:=up _ _ h1 fun vs q => by rw [h2] at q; cases q
    exact ⟨v,_,h3,h2⟩
theorem ss_try_enc {o:PySem.Expr} {ap p1 rp rp2 mp np cp xp hp hp2:Pos} {k1 k2:Nat} {m:Str} {to:TE} (ho:SE W sc n o to) (g1:BltV W (nm "UnicodeEncodeError") (.type UEE)) (g2:BltV W (nm "ValueError") (.type "ValueError")) (hm:m.length ≤ sizeLine:=by decide +kernel)
    (hline:(ap.endLine == cp.line) = true:=by decide) (hbase:∀ env,attributeBase o "encode" env (eval o env) = eval o env:=by intro _; rfl)
    (hk1:sc.names.lookup (nm "UnicodeEncodeError") = some .globalImplicit:=by decide +kernel) (hk2:sc.names.lookup (nm "ValueError") = some .globalImplicit:=by decide +kernel) :
    SS W sc n (.Try [.Return (some (.Call (.Attribute o (Str.ofString "encode") ap) [.Constant (.str (Str.ofString "ascii")) k1 p1] [] cp)) rp]
      [.ExceptHandler (some (.Name (Str.ofString "UnicodeEncodeError") hp)) none [.Raise (some (.Call (.Name (Str.ofString "ValueError") np) [.Constant (.str m) k2 mp] [] xp)) none rp2] hp2] [] [] pos)
      (fun P => to (fun u σ₁ => ∃ x,u = .str x ∧ fits x.length ∧ (if ascL x = true then P.ret (.bytes (bytesL x)) else P.exc (.type "ValueError"))) (fun ℓ => False)) :=
  fun fx F σ s P E hsc hw hrm I h hE => by
    refine ⟨wpAny_Try_except ?_⟩
    refine wpAny_execs_cons (wpAny_Return_some (wpAny_mono (encode_call (K:=fun u ℓ => P.ret u) (B:=fun ℓ => P.exc (.type "ValueError")) (E:=fun e s₁ => ∃ F₁ σ₁ s₀ k,F.le F₁ ∧ Inv W fx F₁ σ₁ s₀ ∧ P.exc (.type "ValueError") ∧ ∃ x h',e = .ref x ∧ s₁ = { s₀ with heap:=h',toks:=k } ∧ MadeF s₀.heap h' x (.type UEE)) ho hline hbase hsc hrm I h (fun F₁ σ₁ s₁ h' e k h01 I₁ hB hmd => ⟨F₁,σ₁,s₁,k,h01,I₁,hB,e,h',rfl,rfl,hmd⟩))
      (fun v s₁ h₁ => ?_) (fun e s₁ h₁ => ?_)))
    · obtain ⟨G,τ,u,hG,I',ru,hf⟩:=h₁
      exact ⟨G,τ,hG,I',u,ru,hf⟩
    · obtain ⟨F₁,σ₁,s₀,k,h01,I₁,hP,x,h',rfl,rfl,hmd⟩:=h₁
      obtain ⟨outer,hfr,hfL⟩:=I₁.ok.top hw
      obtain ⟨oe,vs,a0,g1',g2',g3',g4',g5',g6'⟩:=hmd.there
      have hff:fx.A.frames = some (fx.env :: outer):=by rw [I₁.ok.frames,hfr]
      have hFF:=I₁.back0_frames
      rw [hfr] at hFF
      have new:∀ {h:Heap} {b:Addr},(Inv.back0 fx s₀).StaysIn h → h.get? b = none → (Inv.back0 fx s₀).get? b = none:=fun {h b} hst hn => by
        cases q:(Inv.back0 fx s₀).get? b with
        | none => rfl
        | some o => have:=hst b o q; rw [hn] at this; cases this
      have hst':(Inv.back0 fx s₀).StaysIn h':=fun b o q => hmd.keeps b o (Inv.back0_old q)
      have hxn:(Inv.back0 fx s₀).get? x = none:=new (h:=s₀.heap) (fun b o q => Inv.back0_old q) hmd.new
      refine note_full (base:=Inv.back0 fx s₀) hff (hFF.of_keeps fun b o hb ℓ => ⟨o,hmd.keeps b o hb,rfl⟩) hfL g1' hst' hxn g3' g5' fun h₂ T N₂ => ?_
      have c2:=N₂.noCtx g6'
      have t2:=N₂.traced g4' (Array.getElem?_eq_some_iff.mp g5').1
      rw [g2'] at t2
      refine flight_full (s:={ heap:=h₂,gens:=s₀.gens,drawn:=s₀.drawn,toks:=k,os:=s₀.os }) N₂.stays N₂.frs t2 fun h₃ p1 p2 p3 p4 p5 => ?_
      have load:∀ {A':Around} {Q':Value → Shared → Prop} {E':Value → Shared → Prop} {y:Str} {v:Value} {hh:Heap} {p:Pos},BltV W y v → fx.env.scope.names.lookup y = some .globalImplicit → (y == ("__debug__":Str)) = false → (Inv.back0 fx s₀).StaysIn hh → Q' v { heap:=hh,gens:=s₀.gens,drawn:=s₀.drawn,toks:=k,os:=s₀.os } →
          wpAny W.M A' (eval (.Name y p) fx.env) Q' E' { heap:=hh,gens:=s₀.gens,drawn:=s₀.drawn,toks:=k,os:=s₀.os }:=fun {A' Q' E' y v hh p} gg hk hd hst hq => by
        obtain ⟨mg,mb,hg,e1,hbn,e2⟩:=gg
        have hs:W.base.StaysIn hh:=fun b o q => hst b o (I₁.back0_stays b o q)
        refine Name_function_global I.ok.kind hk (loadGlobal_builtin (mg:=mg) (mb:=mb) ?_ e1 ?_ e2 hq) hd
        · rw [I.ok.glob]; exact hg.keeps hs
        · rw [I.ok.blt]; exact hbn.keeps hs
      have ty3:(⟨h₃,s₀.gens,s₀.drawn,k,s₀.os⟩:Shared).TypeIs (.ref x) UEE:=let ⟨ob,q1,q2⟩:=p3.there; ⟨ob,q1,q2⟩
      refine wpAny_handleBy_builtin (X:=UEE) (T:=UEE) (b:=true) isExc_UEE notTuple_UEE (by rw [isSubtype_type]; kernel_rfl) (load g1 (by rw [hsc]; exact hk1) (by decide) p1 ⟨rfl,ty3,?_⟩)
      refine flight_full (s:=⟨h₃,s₀.gens,s₀.drawn,k,s₀.os⟩) p1 p2 p3 fun h₄ q1 q2 q3 q4 q5 => ?_
      refine wpAny_execs_cons (raise_inside (x:=x) (s:=⟨h₄,s₀.gens,s₀.drawn,k,s₀.os⟩) rfl (q5 (p5 c2)) hm (fun hq => load g2 (by rw [hsc]; exact hk2) (by decide) q1 hq) fun h₅ e tk r1 r2 r3 => ?_)
      obtain ⟨oe2,vs2,a2,r4,r5,r6,r7,r8⟩:=r3
      have hst5:(Inv.back0 fx s₀).StaysIn h₅:=fun b o q => r1 b o (q1 b o q)
      refine note_full (s:=⟨h₅,s₀.gens,s₀.drawn,tk,s₀.os⟩) (base:=Inv.back0 fx s₀) hff (q2.of_keeps fun b o hb ℓ => ⟨o,r1 b o hb,rfl⟩) hfL r4 hst5 (new q1 r2) r6 r7 fun h₆ T6 N₆ => ?_
      have t6:=N₆.traced r8 (Array.getElem?_eq_some_iff.mp r7).1
      rw [r5] at t6
      obtain ⟨oe6,w1,w2,w3⟩:=N₆.at_
      refine wpAny_bind (wpAny_field w1 w3 (x:=.ref T6) (by simp [(Array.getElem?_eq_some_iff.mp r7).1]) ?_)
      rw [if_neg (show ¬ ((Value.ref T6 == Value.none) = true) by simp),hfL]
      refine flight_full (s:=⟨h₆,s₀.gens,s₀.drawn,tk,s₀.os⟩) N₆.stays N₆.frs t6 fun h₇ z1 z2 z3 z4 z5 => ?_
      refine hE _ _ _ hP (I₁.held (s':=⟨h₇,s₀.gens,s₀.drawn,tk,s₀.os⟩) hfr hfL ⟨z1,new q1 r2,hfr ▸ z2,z3⟩ ?_ rfl rfl)
      exact (Heap.UpToSlots.of_keeps hmd.keeps).trans (N₂.slots.trans (p4.trans (q4.trans ((Heap.UpToSlots.of_keeps r1).trans (N₆.slots.trans z4)))))
end
end Mine
end
noncomputable section
open PySem PySem.W PyProof.Rows PySem.Spec PySem.Calls
set_option Elab.async false
set_option maxRecDepth 100000
set_option linter.unusedVariables false
namespace Mine
noncomputable def msg1:Str:=Str.ofString "Invalid base64-encoded string: number of data characters (%d) cannot be 1 more than a multiple of 4"
section
variable {prog:Program} {w:World} {A:Around} {E:Value → Shared → Prop} {s:Shared} {n:Int} {t u:Tok}
theorem mod_msg {Q:Value → Shared → Prop} (hn0:0 ≤ n) (hn1:n < 10 ^ 10) (h:∀ y t' k,Q (.str y t') { s with toks:=k }):wpAny (model prog w) A (binaryOp .Mod (.str msg1 t) (.int n u)) Q E s:=by
  unfold msg1
  refine' KPc.mod_int ?kpcF hn0 hn1 ?kpcm fun t' k => h _ t' k
  case kpcF => kpc_eq
  case kpcm => k_dflt kpc_run
theorem obj_notType:(Value.type "object" == Value.type "type") = false:=by decide +kernel
theorem obj_canMake:((Manifest.find? "object").bind fun x => List.findSome? (fun t => (Manifest.find? t).bind fun b =>
    if b.noNew = true then some true else if (b.attrs.any fun x => x.fst == "__new__") = true then some false else none) x.mro).getD false = false:=by kernel_rfl
theorem obj_noVector (args:Args):checkTypeCall "object" args = pure ():=by kernel_rfl
theorem obj_mro:mroOf (.type "object") = pure [.type "object"]:=by rw [mroOf_type]; kernel_rfl
theorem obj_madeBy:Bind.madeBy (.type "object") = pure (some "object.__new__"):=by kernel_rfl
theorem obj_quiet:"object.__new__".startsWith "lifetime." = false:=by decide +kernel
theorem obj_newOk (rest:List Value):checkBuiltinCall "object.__new__" ⟨.type "object" :: rest,[]⟩ = pure ():=by kernel_rfl
theorem obj_sub:isSubtype (.type "object") (.type "object") = pure true:=by rw [isSubtype_type]; kernel_rfl
theorem obj_isType:isType (.type "object") = pure true:=by first | rfl | kernel_rfl | (unfold isType; rw [isSubtype_type]; kernel_rfl)
theorem ent_object_new:entryFor table "object.__new__" = some Builtin.«object.__new__»:=entryFor_of_tree (by kernel_rfl)
theorem obj_madeHere:Bind.madeHere "object.__new__" (.type "object") = pure ():=by kernel_rfl
theorem call_object {hp:Heap} {g:Array GenState} {d:Drawn} {t:Nat} {os:OsState} {Q:Value → Shared → Prop} (h:∀ k,Q (.ref hp.objs.size) ⟨hp.push { cls:=.type "object",data:=.plain },g,d,k,os⟩) :
    wpAny (model prog w) A (call (.type "object") []) Q E ⟨hp,g,d,t,os⟩:=by
  refine wpAny_call (codeAny_of_tree ?_)
  show wpAny _ _ (again (.builtin "type.__call__" ⟨[.type "object"],[]⟩)) _ _ _
  refine wpAny_pure ⟨Code.quiet_builtin _ (by decide +kernel),codeAny_builtin entry_typeCall ?_⟩
  have hnt:=obj_notType
  have hcan:=obj_canMake
  have hchk:=obj_noVector ⟨[],[]⟩
  have hmro:=obj_mro
  have hmade:=obj_madeBy
  wp_walk
  refine codeAny_call_builtin_code (Code.quiet_builtin _ obj_quiet) (wpAny_of_eq (obj_newOk _) ?_)
  refine codeAny_builtin ent_object_new ?_
  unfold Builtin.«object.__new__»
  dsimp only
  refine wpAny_bind (wpAny_of_eq obj_isType ?_)
  refine wpAny_ite (KBy.ite_no (by decide) ?_)
  refine wpAny_ite (KBy.ite_no (by decide +kernel) ?_)
  refine wpAny_bind (wpAny_of_eq obj_madeHere ?_)
  refine wpAny_ite (KBy.ite_no (by decide) ?_)
  rw [if_neg (show ¬ (typeHasDict (.type "object") = true) by decide +kernel)]
  refine wpAny_bind (wpAny_pure ?_)
  refine wpAny_bind (wpAny_newObj_type ?_)
  rw [if_neg (by decide)]
  refine wpAny_pure ?_
  have hget:(hp.push { cls:=.type "object",data:=.plain }).get? hp.objs.size = some { cls:=.type "object",data:=.plain }:=Heap.get?_push_size _ rfl
  refine wpAny_bind (wpAny_isInstance ⟨_,hget,rfl⟩ obj_sub ?_)
  rw [if_neg (by decide)]
  refine wpAny_bind (wpAny_holding (wpAny_callSpecial?_slot ⟨_,hget,rfl⟩ PySem.F.slot_object_init (wpAny_call_entry PySem.F.slot_object_init ⟨_,hget,rfl⟩ PySem.F.entry_object_init ?_ (PySem.F.args_object_init_1 _))))
  unfold Builtin.«object.__init__»
  dsimp only
  rw [if_neg (by decide)]
  refine wpAny_pure ⟨_,rfl,?_⟩
  rw [if_neg (by decide)]
  exact wpAny_pure (h _)
end
section
variable {W:Wd} {sc:Scope} {n:Nat} {pos:Pos} {k:Nat}
theorem se_pct {e:PySem.Expr} {t:TE} {p:Pos} (he:SE W sc n e t) :
    SE W sc n (.BinOp (.Constant (.str msg1) k p) .Mod e pos) (fun Q X => t (fun u σ₁ => ∃ i,u = .int i ∧ 0 ≤ i ∧ i < 10 ^ 10 ∧ ∀ y,Q (.str y) σ₁) X) :=
  fun fx F σ s Q X E hsc hrm I h hE => by
    refine wp_BinOp ⟨wpAny_Constant_str ?_⟩
    refine (he fx F σ _ _ X E hsc hrm (I.ext (.tok s _)) h hE).imp fun v s₁ h₁ => ?_
    obtain ⟨F₁,σ₁,u,h01,I₁,ru,i,rfl,h0,h1,h₁⟩:=h₁
    obtain ⟨_,rfl⟩:=ru.inv
    exact ⟨mod_msg h0 h1 fun y t' k' => ⟨F₁,σ₁,_,h01,I₁.ext (.tok _ _),.str y t',h₁ _⟩⟩
theorem se_object {p:Pos} (g:BltV W (nm "object") (.type "object")) (hk:sc.names.lookup (nm "object") = some .globalImplicit:=by decide +kernel) :
    SE W sc n (.Call (.Name (Str.ofString "object") p) [] [] pos) (fun Q X σ => ∀ a,Q (.ref a) σ) :=
  fun fx F σ s Q X E hsc hrm I h hE => by
    refine wp_Call_Name (blt_sound I g (by subst hsc; exact hk) (by decide) ⟨?_⟩)
    refine callWith_excType rfl (PySem.evalArgs_none ?_)
    obtain ⟨hp,g,d,t,os⟩:=s
    exact call_object fun k' => ⟨F,σ,_,.refl F,I.push _ _,.ref _,h _⟩
theorem se_fstr {a b:Str} {e:PySem.Expr} {t:TE} {p1 p2 p3:Pos} {k1 k2:Nat} (he:SE W sc n e t) (ha:a.length ≤ sizeLine:=by decide +kernel) :
    SE W sc n (.JoinedStr [.Constant (.str a) k1 p1,.FormattedValue e (-1) none p2,.Constant (.str b) k2 p3] pos)
      (fun Q X => t (fun u σ₁ => ∃ x,u = .str x ∧ fits (a.cps.toList.length + x.length + b.cps.toList.length) ∧ Q (.str (a.cps.toList ++ x ++ b.cps.toList)) σ₁) X) :=
  fun fx F σ s Q X E hsc hrm I h hE => by
    have hea:(Str.empty ++ a) = a:=by rw [KPc.empty_app]
    have key:wpAny W.M fx.A (joinParts (Str.empty ++ a) (eval (.FormattedValue e (-1) none p2) fx.env :: evalEach [.Constant (.str b) k2 p3] fx.env)) (PE W fx F Q) E { s with toks:=s.toks + 1 }:=by
      rw [hea]
      refine joinParts_cons (FormattedValue_plain (wpAny_mono (he fx F σ _ _ X E hsc hrm (I.ext (.tok s _)) h hE).out (fun v s₁ h₁ => ?_) fun ℓ ℓ x => x))
      obtain ⟨F₁,σ₁,u,h01,I₁,ru,x,rfl,hf,h₁⟩:=h₁
      generalize hx:x = x' at ru
      obtain ⟨y,t,rfl,rfl⟩:=ru.inv
      subst hx
      have hl:∀ z:Str,z.cps.toList.length = z.length:=fun z => by simp [Str.length]
      unfold fits at hf
      simp only [hl] at hf
      have h10:=sizeLine_ge
      refine formatField_str (fun t' tk => ⟨by rw [strLen_append]; omega,?_⟩) (by omega)
      show wpAny _ _ (joinParts (a ++ y) [eval (.Constant (.str b) k2 p3) fx.env]) _ _ _
      refine joinParts_cons (wpAny_Constant_str ⟨by rw [strLen_append,strLen_append]; omega,joinParts_nil ?_ (by rw [strLen_append,strLen_append]; omega)⟩)
      refine ⟨F₁,σ₁,_,h01,I₁.ext (.tok _ _),.str _ _,?_⟩
      have:(a ++ y ++ b).cps.toList = a.cps.toList ++ y.cps.toList ++ b.cps.toList:=by simp [Str.cps_append]
      rw [this]; exact h₁
    exact ⟨JoinedStr_many (joinParts_cons (wpAny_Constant_str ⟨by rw [hea]; exact ha,key⟩))⟩
end
end Mine
end
noncomputable section
open PySem PySem.W PyProof.Rows PySem.Spec PySem.Calls
set_option Elab.async false
set_option maxRecDepth 100000
set_option linter.unusedVariables false
namespace Mine
noncomputable def DictMiss (W:Wd) (d:Addr) (miss:Nat → Bool):Prop:=(d == sysModules) = false ∧ ∀ h,W.base.StaysIn h → ∃ f,h.MapOf (intKind W.prog W.w) d f ∧ ∀ c:Nat,miss c = true → f c = none
theorem keyError_lookup:isSubtype (.type "KeyError") (.type "LookupError") = pure true:=by rw [isSubtype_type]; kernel_rfl
section
variable {W:Wd} {A:Around} {E:Value → Shared → Prop} {s:Shared}
theorem look_miss {d:Addr} {miss:Nat → Bool} {c:Nat} {Q:Builtin.Str.Mapped → Shared → Prop} (D:DictMiss W d miss) (hs:W.base.StaysIn s.heap) (hh:A.handled = none) (hm:miss c = true)
    (h:∀ s',Ext s s' → Q .keep s'):wpAny W.M A (Builtin.Str.tableLookup (.ref d) c) Q E s:=by
  obtain ⟨hd,D⟩:=D
  obtain ⟨f,hf,hfm⟩:=D _ hs
  unfold Builtin.Str.tableLookup
  refine wpAny_bind (wpAny_attempt (wpAny_bind (wpAny_mkInt ?_)))
  refine wpAny_getItem_missing_of (knd:=intKind W.prog W.w) (k:=(c:Int)) (by simp [intKind,Value.isInt]) hd hh hf (hfm c hm) fun h' e hn => ?_
  obtain ⟨ob,t,he,hc,hdt⟩:=hn.there
  dsimp only
  refine wpAny_bind (wpAny_isInstance (T:="KeyError") (b:=true) ⟨ob,he,hc⟩ keyError_lookup ?_)
  rw [if_pos rfl]
  exact wpAny_bind (wpAny_rule (wpAny_pure (h _ (Ext.mk' hn.keeps))))
theorem call_strtr {d:Addr} {miss:Nat → Bool} {x:Str} {c:Nat} {t:Tok} {Q:Value → Shared → Prop} (D:DictMiss W d miss) (hs:W.base.StaysIn s.heap) (hh:A.handled = none) (hx:x = ⟨#[c]⟩) (hc:c < 128) (hm:miss c = true)
    (h:∀ t' s',Ext s s' → Q (.str x t') s'):wpAny W.M A (call (.builtin "str.translate") [.str x t,.ref d]) Q E s:=by
  subst hx
  refine wpAny_call_entry PySem.F.slot_str_translate (typeIs_str _ _ _) PySem.F.entry_str_translate ?_ (PySem.F.args_str_translate_2 _ _)
  unfold Builtin.«str.translate»
  refine wpAny_bind (wpAny_of_eq (a:=(.str ⟨#[c]⟩ t,⟨#[c]⟩,.ref d)) (by rfl) ?_)
  dsimp only
  rw [if_neg (show ¬ (((⟨#[c]⟩:Str).length == 0) = true) by simp [Str.length])]
  have hall:(#[c].all fun x => decide (x < 128)) = true:=by simp [hc]
  rw [hall,← Array.forIn_toList]
  show wpAny _ _ ((forIn [c] _ _) >>= _) _ _ _
  rw [List.forIn_cons]
  refine wpAny_bind (wpAny_bind ?_)
  rw [if_neg (show ¬ (Builtin.Str.tooLong 0 = true) by decide +kernel),if_pos rfl]
  refine wpAny_bind (look_miss D hs hh hm fun s' hx => ?_)
  dsimp only
  refine wpAny_bind (wpAny_pure ?_)
  refine wpAny_pure ?_
  dsimp only
  rw [List.forIn_nil]
  refine wpAny_pure ?_
  rw [if_neg (show ¬ (Builtin.Str.tooLong (0 + 1) = true) by decide +kernel)]
  have e1:(List.foldl (fun acc (p:Str) => acc ++ p.cps) (#[]:Array Nat) [(⟨#[c]⟩:Str)].reverse) = #[c]:=by simp
  show wpAny _ _ (mkStr ⟨List.foldl (fun acc (p:Str) => acc ++ p.cps) (#[]:Array Nat) [(⟨#[c]⟩:Str)].reverse⟩ >>= fun v => ret v) _ _ _
  rw [e1]
  exact wpAny_bind (wpAny_mkStr (wpAny_pure ⟨_,rfl,h _ _ (hx.trans (.tok _ _))⟩) (show 1 ≤ sizeLine by decide))
inductive trmP (d:Addr) (miss:Nat → Bool) (us:List V) (K:V → Prop):Prop
  | mk (c:Nat) (e:us = [.str [c],.ref d]) (h:c < 128 ∧ miss c = true) (k:K (.str [c]))
theorem cb_strtr {d:Addr} {miss:Nat → Bool} (D:DictMiss W d miss):CB W (.builtin "str.translate") (trmP d miss):=by
  rintro A fx F σ s vs us K E hh I r ⟨c,rfl,⟨hc,hm⟩,hK⟩
  obtain ⟨v,v',rfl,rv,rv'⟩:=r.inv2
  generalize hx:([c]:List Nat) = x at rv
  obtain ⟨y,t,rfl,rfl⟩:=rv.inv
  obtain rfl:y = ⟨#[c]⟩:=str_ext'.mp hx.symm
  obtain rfl:=rv'.inv
  constructor
  exact call_strtr D I.win.stays hh rfl hc hm fun t' s' hx => ⟨F,_,.refl F,I.ext hx,.str _ _,hK⟩
end
end Mine
end
noncomputable section
open PySem PySem.W PyProof.Rows PySem.Spec PySem.Calls
set_option Elab.async false
set_option maxRecDepth 100000
set_option linter.unusedVariables false
namespace Mine
noncomputable def SET (W:Wd) (H:Env → Prop) (sc:Scope) (n:Nat) (e:PySem.Expr) (t:TE):Prop :=
  ∀ (fx:Fx) (F:Fz) (σ:Sto) (s:Shared) (Q:V → Sto → Prop) (X:Value → Prop) (E:Value → Shared → Prop),H fx.env → 1 ≤ s.toks →
    fx.env.scope = sc → Room fx.A n → Inv W fx F σ s → t Q X σ → (∀ c e s',X c → Raised W fx c e s' → E e s') → Wp W fx.A (eval e fx.env) (PE W fx F Q) E s
noncomputable def SST (W:Wd) (H:Env → Prop) (sc:Scope) (n:Nat) (st:Stmt) (t:TS):Prop :=
  ∀ (fx:Fx) (F:Fz) (σ:Sto) (s:Shared) (P:Post) (E:Value → Shared → Prop),H fx.env → 1 ≤ s.toks →
    fx.env.scope = sc → fx.w = true → Room fx.A n → Inv W fx F σ s → t P σ → (∀ c e s',P.exc c → Raised W fx c e s' → E e s') → Wp W fx.A (exec st fx.env) (PS W fx F P) E s
noncomputable def SLT (W:Wd) (H:Env → Prop) (sc:Scope) (n:Nat) (sts:List Stmt) (t:TS):Prop :=
  ∀ (fx:Fx) (F:Fz) (σ:Sto) (s:Shared) (P:Post) (E:Value → Shared → Prop),H fx.env → 1 ≤ s.toks →
    fx.env.scope = sc → fx.w = true → Room fx.A n → Inv W fx F σ s → t P σ → (∀ c e s',P.exc c → Raised W fx c e s' → E e s') → Wp W fx.A (execs sts fx.env) (PS W fx F P) E s
theorem Wp.toks {W:Wd} {A:Around} {α:Type} {t:Sem α} {Q:α → Shared → Prop} {E:Value → Shared → Prop} {s:Shared} (h:1 ≤ s.toks) (x:Wp W A t Q E s):Wp W A t (fun a s' => 1 ≤ s'.toks ∧ Q a s') E s :=
  ⟨wpAny_mono (wpAny_toks_of h x.out) (fun ℓ ℓ z => z) fun ℓ ℓ z => z.2⟩
section
variable {W:Wd} {H:Env → Prop} {sc:Scope} {n:Nat} {pos pos':Pos} {k:Nat}
theorem SE.t {e:PySem.Expr} {t:TE} (h:SE W sc n e t):SET W H sc n e t:=fun fx F σ s Q X E ℓ ℓ hsc hrm I k hE => h fx F σ s Q X E hsc hrm I k hE
theorem SS.t {st:Stmt} {t:TS} (h:SS W sc n st t):SST W H sc n st t:=fun fx F σ s P E ℓ ℓ hsc hw hrm I k hE => h fx F σ s P E hsc hw hrm I k hE
theorem SL.t {sts:List Stmt} {t:TS} (h:SL W sc n sts t):SLT W H sc n sts t:=fun fx F σ s P E ℓ ℓ hsc hw hrm I k hE => h fx F σ s P E hsc hw hrm I k hE
theorem slt_cons {st:Stmt} {r:List Stmt} {t tr:TS} (h:SST W H sc n st t) (hr:SLT W H sc n r tr):SLT W H sc n (st :: r) (fun P => t { P with next:=tr P }) :=
  fun fx F σ s P E hH ht hsc hw hrm I k hE => by
    refine wp_execs_cons (((h fx F σ s _ E hH ht hsc hw hrm I k hE).toks ht).imp fun f s₁ k₁ => ?_)
    obtain ⟨ht₁,F₁,σ₁,h01,I₁,k₁⟩:=k₁
    cases f with
    | next =>
      refine (hr fx F₁ σ₁ s₁ P E hH ht₁ hsc hw hrm I₁ k₁ hE).imp fun f s₂ k₂ => ?_
      obtain ⟨F₂,σ₂,h12,I₂,k₂⟩:=k₂
      exact ⟨F₂,σ₂,h01.trans h12,I₂,k₂⟩
    | _ => exact ⟨F₁,σ₁,h01,I₁,k₁⟩
theorem sst_if {c:PySem.Expr} {x y:List Stmt} {tc:TB} {tx ty:TS} (hc:ST W sc n c tc) (hx:SLT W H sc n x tx) (hy:SLT W H sc n y ty) :
    SST W H sc n (.If c x y pos) (fun P => tc (fun b σ₁ => if b then tx P σ₁ else ty P σ₁) P.exc) :=
  fun fx F σ s P E hH ht hsc hw hrm I k hE => by
    refine wp_If (((hc fx F σ s _ _ E hsc hrm I k hE).toks ht).imp fun b s₁ k₁ => ?_)
    obtain ⟨ht₁,F₁,σ₁,h01,I₁,k₁⟩:=k₁
    cases b with
    | true =>
      simp only [if_true] at k₁ ⊢
      refine (hx fx F₁ σ₁ s₁ P E hH ht₁ hsc hw hrm I₁ k₁ hE).imp fun f s₂ k₂ => ?_
      obtain ⟨F₂,σ₂,h12,I₂,k₂⟩:=k₂
      exact ⟨F₂,σ₂,h01.trans h12,I₂,k₂⟩
    | false =>
      simp only [Bool.false_eq_true,if_false] at k₁ ⊢
      refine (hy fx F₁ σ₁ s₁ P E hH ht₁ hsc hw hrm I₁ k₁ hE).imp fun f s₂ k₂ => ?_
      obtain ⟨F₂,σ₂,h12,I₂,k₂⟩:=k₂
      exact ⟨F₂,σ₂,h01.trans h12,I₂,k₂⟩
theorem sst_assign {x:String} {e:PySem.Expr} {t:TE} (h:SET W H sc n e t) (hk:storable sc x = true:=by decide +kernel)
    (hs:∀ env l,swapsWith e (some (.Name (nm x) pos')) l env = pure false:=by intro _ _; rfl):SST W H sc n (.Assign [.Name (Str.ofString x) pos'] e pos) (fun P => t (fun u σ₁ => P.next (put σ₁ x (.val u))) P.exc) :=
  fun fx F σ s P E hH ht hsc hw hrm I k hE => by
    refine wp_Assign_Name ((h fx F σ s _ _ E hH ht hsc hrm I k hE).imp fun v s₁ k₁ => ?_) (hs _ _)
    obtain ⟨F₁,σ₁,u,h01,I₁,r,k₁⟩:=k₁
    exact ⟨I₁.store (sl:=.val u) hw (by rw [hsc]; exact hk) r fresh_val (by intro q; cases q) fun s' I' => ⟨F₁,_,h01,I',k₁⟩⟩
theorem sst_while {c:PySem.Expr} {b:List Stmt} {tc:TB} {tb:TS} (hc:ST W sc n c tc) (hb:SLT W H sc n b tb):SST W H sc n (.While c b [] pos) (tWhile tc tb) :=
  fun fx F σ s P E hH ht hsc hw hrm I k hE => by
    obtain ⟨m,k⟩:=k
    refine ⟨wpAny_While ?_⟩
    refine codeAny_whileLoop (fun m s' => 1 ≤ s'.toks ∧ ∃ G σ',F.le G ∧ Inv W fx G σ' s' ∧ whileN tc tb P m σ') ?_ m ⟨ht,F,σ,.refl F,I,k⟩
    rintro m s₁ ⟨ht₁,F₁,σ₁,h01,I₁,k₁⟩
    cases m with
    | zero => exact k₁.elim
    | succ m =>
      refine wpAny_mono ((hc fx F₁ σ₁ s₁ _ _ _ hsc hrm I₁ k₁ (fun c e s' x ℓ => x.elim)).toks ht₁).out (fun b s₂ k₂ => ?_) fun ℓ ℓ x => x
      obtain ⟨ht₂,F₂,σ₂,h12,I₂,k₂⟩:=k₂
      cases b with
      | false => exact wpAny_execs_nil ⟨F₂,σ₂,h01.trans h12,I₂,k₂⟩
      | true =>
        simp only [if_true] at k₂ ⊢
        refine wpAny_mono ((hb fx F₂ σ₂ s₂ _ _ hH ht₂ hsc hw hrm I₂ k₂ (fun c e s' x ℓ => x.elim)).toks ht₂).out (fun f s₃ k₃ => ?_) fun ℓ ℓ x => x
        obtain ⟨ht₃,F₃,σ₃,h23,I₃,k₃⟩:=k₃
        cases f with
        | next => exact ⟨m,Nat.lt_succ_self m,ht₃,F₃,σ₃,(h01.trans h12).trans h23,I₃,k₃⟩
        | cont => exact ⟨m,Nat.lt_succ_self m,ht₃,F₃,σ₃,(h01.trans h12).trans h23,I₃,k₃⟩
        | brk => exact ⟨F₃,σ₃,(h01.trans h12).trans h23,I₃,k₃⟩
        | ret v => exact ⟨F₃,σ₃,(h01.trans h12).trans h23,I₃,k₃⟩
noncomputable def SFT (W:Wd) (n:Nat) (a:Addr) (P:List V → (V → Prop) → (Value → Prop) → Prop):Prop :=
  ∀ (fx:Fx) (F:Fz) (σ:Sto) (s:Shared) (vs:List Value) (us:List V) (K:V → Prop) (X:Value → Prop) (E:Value → Shared → Prop),1 ≤ s.toks → Room fx.A n → Inv W fx F σ s → Reps F vs us → P us K X →
    (∀ c e s',X c → Raised W fx c e s' → E e s') → Wp W fx.A (call (.ref a) vs) (PV W fx F σ K) E s
theorem call_fn_t {fx:Fx} {F:Fz} {σ:Sto} {s:Shared} {a:Addr} {fd:FuncData} {body:List Stmt} {t:TS} (WL:W.base.NoLimit) (FA:FnAt W a fd body) (hb:SLT W H fd.scope n body t)
    {vals:List Value} {kw:List (Str × Value)} {xs:List String} {vs:List Value} {us:List V} {K:V → Prop} {X:Value → Prop} {E:Value → Shared → Prop} (ht:1 ≤ s.toks)
    (hrm:Room fx.A (n + 1)) (I:Inv W fx F σ s) (hbind:BindsTo s fd ⟨vals,kw⟩ (bindsOf xs vs)) (hl:xs.length = us.length) (hr:Reps F vs us) (hnd:xs.Nodup) (hk:∀ x ∈ xs,storable fd.scope x = true)
    (hH:∀ m,H (callEnvC fd m a)) (h:t (retPost K X) (stoOf xs us)) (hE:∀ c e s',X c → Raised W fx c e s' → E e s') :
    Wp W fx.A (call (.ref a) vals kw) (PV W fx F σ K) E s:=by
  obtain ⟨o,ho,hd⟩:=FA.obj
  obtain ⟨hr1,hr2⟩:=hrm
  constructor
  refine wpAny_call ?_
  refine codeAny_call_function (rm0 hr1) (I.win.stays _ _ ho) hd FA.co FA.gen FA.body (FA.code.keeps I.win.stays) (hbind _ _ _ _ ?_)
  rw [FA.clo]
  have hkd:∀ p ∈ bindsOf xs vs,fd.scope.names.lookup p.1 = some .local ∨ (fd.scope.names.lookup p.1 = some .cell ∧ ((cellsFrom (s.heap.objs.size + 1) fd.scope.names []).lookup p.1).isSome = true):=fun p hp => by
    obtain ⟨x,hx,e⟩:=bindsOf_names xs vs p hp
    have hs:=hk x hx
    simp only [storable,Bool.or_eq_true,beq_iff_eq] at hs
    rw [e]
    refine hs.imp id fun q => ⟨q,?_⟩
    obtain ⟨c,hc⟩:=cell_lookup (k:=s.heap.objs.size + 1) q
    rw [hc]; rfl
  refine wpAny_with_toks ht (wpAny_newFunctionEnv_cells FA.kind hkd fun env he s₁ x ht₁ => ?_)
  have he':env = callEnvC fd s.heap.objs.size a:=he
  subst he'
  have J:=I.enter FA.kind FA.glob FA.blt hl hr hnd hk x
  have hL:s.heap.get? (callEnvC fd s.heap.objs.size a).locals = none:=get_size _
  refine ⟨(WL.keeps I.win.stays).keeps x.toInCall.keep,codeAny_func ?_⟩
  refine wpAny_mono (hb (fx.callee W (callEnvC fd s.heap.objs.size a) s.heap F) F _ s₁ _
    (fun e s' => wpAny W.M (fx.A.deeper (callEnvC fd s.heap.objs.size a)) (leaving (callEnvC fd s.heap.objs.size a) e) (fun ℓ s'' => E e s'') (fun e' s'' => E e' s'') s') (hH _) ht₁
    rfl rfl ⟨rm1 hr1,rm2 hr2⟩ J h fun c e s' hX R => ?_).out (fun f s' hf => ?_) fun ℓ ℓ h' => h'
  · exact R.leave I hL rfl fun s'' R' => hE c e s'' hX R'
  · obtain ⟨G,τ,hG,J',hf⟩:=hf
    have I':=I.leave hL rfl J'
    cases f with
    | next => exact ⟨G,.none,hG,I',.none,hf⟩
    | brk => exact ⟨G,.none,hG,I',.none,hf⟩
    | cont => exact ⟨G,.none,hG,I',.none,hf⟩
    | ret v => obtain ⟨u,r,hK⟩:=hf; exact ⟨G,u,hG,I',r,hK⟩
theorem sft_pos {a:Addr} {fd:FuncData} {body:List Stmt} {xs:List String} {t:TS} (WL:W.base.NoLimit) (FA:FnAt W a fd body) (hb:SLT W H fd.scope n body t)
    (hbind:∀ s vs,W.base.StaysIn s.heap → vs.length = xs.length → BindsTo s fd ⟨vs,[]⟩ (bindsOf xs vs)) (hnd:xs.Nodup) (hk:∀ x ∈ xs,storable fd.scope x = true) (hH:∀ m,H (callEnvC fd m a)) :
    SFT W (n + 1) a (fun us K X => us.length = xs.length ∧ t (retPost K X) (stoOf xs us)) :=
  fun fx F σ s vs us K X E ht hrm I hr ⟨hl,h⟩ hE => by
    have hlv:=hr.length
    exact call_fn_t WL FA hb ht hrm I (hbind s vs I.win.stays (by rw [hlv,hl])) hl.symm hr hnd hk hH h hE
theorem SFT.mono {a:Addr} {P P':List V → (V → Prop) → (Value → Prop) → Prop} (h:SFT W n a P) (hp:∀ us K X,P' us K X → P us K X):SFT W n a P' :=
  fun fx F σ s vs us K X E ht hr I r p hE => h fx F σ s vs us K X E ht hr I r (hp us K X p) hE
theorem set_call_f {x:Str} {a:Addr} {P:List V → (V → Prop) → (Value → Prop) → Prop} {e:PySem.Expr} {r:List PySem.Expr} {p:Pos} {t:TG} (sf:SFT W n a P) (g:GlobV W x (.ref a)) (hfn:∃ o fd,W.base.get? a = some o ∧ o.data = .func fd) (ha:SG W sc n (e :: r) t)
    (hk:sc.names.lookup x = some .globalImplicit:=by decide +kernel) (hd:(x == ("__debug__":Str)) = false:=by decide) (hp:plainArgs e r:=by intro _ _; exact ⟨rfl,rfl⟩) :
    SET W H sc n (.Call (.Name x p) (e :: r) [] pos) (fun Q X => t (fun us σ₁ => P us (fun u => Q u σ₁) X) X) :=
  fun fx F σ s Q X E hH ht hsc hrm I h hE => by
    obtain ⟨o,fd,ho,hd'⟩:=hfn
    refine wp_Call_Name (glob_sound I g (by subst hsc; exact hk) hd ⟨?_⟩)
    refine Calls.callWith_function (o:=o) (fd:=fd) ?_
    rw [(hp _ pos).1]
    refine Calls.evalArgs_plain (x:=eval e fx.env) (rest:=backTo pos (starEach r fx.env)) ?_
    have hsg:=((⟨(ha fx F σ s _ X E pos hsc hrm I h hE).out⟩:Wp W fx.A _ _ _ _).toks ht).out
    rw [(hp _ pos).1] at hsg
    refine wpAny_mono hsg (fun vs s₁ h₁ => ?_) fun ℓ ℓ x => x
    obtain ⟨ht₁,F₁,σ₁,us,h01,I₁,r,h₁⟩:=h₁
    refine ⟨⟨I₁.win.stays _ _ ho,hd'⟩,?_⟩
    refine ((sf fx F₁ σ₁ s₁ vs us _ X E ht₁ hrm I₁ r h₁ hE).imp fun v s₂ h₂ => ?_).out
    obtain ⟨F₂,u,h12,I₂,ru,h₂⟩:=h₂
    exact ⟨F₂,σ₁,u,h01.trans h12,I₂,ru,h₂⟩
end
end Mine
end
noncomputable section
open PySem PySem.W PyProof.Rows PySem.Spec PySem.Calls
set_option Elab.async false
set_option maxRecDepth 100000
set_option linter.unusedVariables false
namespace Mine
noncomputable def replL (c:Nat) (z l:List Nat):List Nat:=l.flatMap fun k => if k = c then z else [k]
theorem replL_append (c:Nat) (z a b:List Nat):replL c z (a ++ b) = replL c z a ++ replL c z b:=by simp [replL]
theorem replL_free (c:Nat) (z:List Nat):∀ l:List Nat,c ∉ l → replL c z l = l
  | [],_ => rfl
  | k :: r,h => by
    have h1:¬ k = c:=fun e => h (e ▸ List.mem_cons_self ..)
    have h2:=replL_free c z r fun m => h (List.mem_cons_of_mem _ m)
    unfold replL at h2 ⊢
    rw [List.flatMap_cons,if_neg h1,h2]; rfl
theorem replL_join (c:Nat) (z:Str):∀ parts:List Str,(∀ p ∈ parts,c ∉ p.cps.toList) → replL c z.cps.toList (Str.join ⟨#[c]⟩ parts).cps.toList = (Str.join z parts).cps.toList
  | [],_ => rfl
  | [p],h => replL_free c _ _ (h p (List.mem_singleton.mpr rfl))
  | p :: q :: r,h => by
    have ih:=replL_join c z (q :: r) fun a ha => h a (List.mem_cons_of_mem _ ha)
    show replL c z.cps.toList (p ++ ⟨#[c]⟩ ++ Str.join ⟨#[c]⟩ (q :: r)).cps.toList = (p ++ z ++ Str.join z (q :: r)).cps.toList
    simp only [Str.cps_append,Array.toList_append]
    rw [replL_append,replL_append,ih,replL_free c _ _ (h p (List.mem_cons_self ..))]
    simp [replL]
theorem replL_eq (x z:Str) (c:Nat):(Txt.replace x ⟨#[c]⟩ z).cps.toList = replL c z.cps.toList x.cps.toList:=by
  rw [StrLaws.replace_one,← replL_join c z _ (StrLaws.split_free x c),StrLaws.join_split]
section
variable {W:Wd} {H:Env → Prop} {sc:Scope} {n:Nat} {pos:Pos} {k:Nat}
theorem replace_call {o:PySem.Expr} {ap p1 p2:Pos} {k1 k2:Nat} {c:Nat} {a z:Str} {to:TE} (ho:SET W H sc n o to) (ha:a = ⟨#[c]⟩) (hz:z.length ≤ 14) (hne:(a == z) = false) (hline:(ap.endLine == pos.line) = true) (hbase:∀ env,attributeBase o "replace" env (eval o env) = eval o env) :
    SET W H sc n (.Call (.Attribute o (Str.ofString "replace") ap) [.Constant (.str a) k1 p1,.Constant (.str z) k2 p2] [] pos)
      (fun Q X => to (fun u σ₁ => ∃ x,u = .str x ∧ fits x.length ∧ Q (.str (replL c z.cps.toList x)) σ₁) X) :=
  fun fx F σ s Q X E hH ht hsc hrm I h hE => by
    refine ⟨wpAny_Call_method_lateS (hbase _) (by rfl) hline (wpAny_mono ((ho fx F σ s _ _ E hH ht hsc hrm I h hE).toks ht).out (fun ov s₁ h₁ => ?_) fun ℓ ℓ x => x)⟩
    obtain ⟨ht₁,F₁,σ₁,u,h01,I₁,ru,x,rfl,hf,h₁⟩:=h₁
    generalize hx:x = x' at ru
    obtain ⟨y,t,rfl,rfl⟩:=ru.inv
    subst hx
    refine ⟨"str","str.replace",PySem.F.plainAttrs_str,PySem.F.slot_str_replace,PySem.F.type_str_replace,typeIs_str _ _ _,fun a e => (nomatch e),?_⟩
    refine Calls.callWith_builtin (by rfl) (Calls.evalArgs_plain (x:=eval (.Constant (.str a) k1 p1) fx.env) (rest:=backTo pos (starEach [.Constant (.str z) k2 p2] fx.env)) ?_)
    refine Calls.spliced_cons (wpAny_Constant_str ?_)
    refine Calls.spliced_cons (x:=eval (.Constant (.str z) k2 p2) fx.env) (rest:=[]) ?_
    refine wpAny_Constant_str (Calls.spliced_nil ?_)
    have I₂:=I₁.ext (.tok s₁ (s₁.toks + 1 + 1))
    have hl:y.length = y.cps.toList.length:=by simp [Str.length]
    unfold fits at hf
    have ht1:s₁.toks ≠ 0:=by omega
    subst ha
    show wpAny W.M fx.A (call (.builtin "str.replace") [.str y t,.str ⟨#[c]⟩ s₁.toks,.str z (s₁.toks + 1)]) _ _ _
    refine SC.replaceW ht1 (Nat.succ_ne_zero _) (Nat.ne_of_lt (Nat.lt_succ_self _)) hne (by omega) hz fun t' k' => ?_
    refine ⟨F₁,σ₁,_,h01,I₂.ext (.tok _ k'),.str _ _,?_⟩
    rw [replL_eq]; exact h₁
end
end Mine
end
noncomputable section
open PySem PySem.W PyProof.Rows PySem.Spec PySem.Calls
set_option Elab.async false
set_option maxRecDepth 100000
set_option linter.unusedVariables false
namespace Mine
noncomputable def protoT (C:Addr) (fp wr:List Addr) (n₀:Nat) (F:Nat → Value → Prop):Protocol:=fun m s₀ v s kap =>
  (m < n₀ ∧ F (n₀ - 1 - m) v) ∧ GenSince C wr s₀ s ∧ ∀ s'':Shared,1 ≤ s''.toks → (∀ b ∈ C :: fp,∀ o,s.heap.get? b = some o → s''.heap.get? b = some o) → kap (.send .none) s''
section
variable {prog:Program} {w:World} {A:Around}
noncomputable def QuietT (prog:Program) (w:World) (cenv:Env) (x:Str) (elt:PySem.Expr) (fp wr:List Addr) (P F:Nat → Value → Prop) (href:Heap):Prop :=
  ∀ (A':Around) E' i v (s₂:Shared) m₂,A'.handled = none → P i v → 1 ≤ s₂.toks → s₂.heap.Ns cenv.locals m₂ → m₂ x = some v → (∀ b ∈ fp,b ∉ wr → ∀ o,href.get? b = some o → s₂.heap.get? b = some o) →
    wpAny (model prog w) A' (eval elt cenv) (fun y s₃ => F i y ∧ Keeps s₂ s₃) E' s₂
variable {elt iter:PySem.Expr} {x:Str} {px:Pos} {scope:Scope} {pos:Pos} {I:Addr} {fp wr:List Addr} {n₀:Nat} {P F:Nat → Value → Prop} {St₀:Nat → Heap → Prop} {cenv:Env} {href:Heap}
theorem ar1 {n i:Nat} (h:i < n):n - 1 - (n - (i + 1)) = i:=by rw [Nat.sub_sub,Nat.add_comm 1,show n - (i + 1) + 1 = n - i from Nat.succ_pred (Nat.sub_ne_zero_of_lt h),Nat.sub_sub_self (Nat.le_of_lt h)]
theorem ar2 {n i:Nat} (h:i < n):n - (i + 1) < n:=Nat.sub_lt (Nat.lt_of_le_of_lt (Nat.zero_le _) h) (Nat.succ_pos _)
theorem ar3 {n i k:Nat} (h:n - i = k + 1):n - (i + 1) = k:=by rw [← Nat.sub_sub,h]; rfl
theorem ar4 {n i m:Nat} (h:n - i = m + 1) (hi:i < n):n - 1 - (m + 1 - 1) = i:=by rw [← ar3 h,Nat.add_sub_cancel]; exact ar1 hi
theorem seg_loopT (hh:A.handled = none) (W₀:∀ A':Around,A'.handled = none → Walks prog w A' I fp wr n₀ P St₀)
    (hx:cenv.kindOf x = some .local) (hp:(cenv.scope.kind == .class || (cenv.scope.kind == .module && cenv.locals != cenv.globals)) = false)
    (hco:cenv.scope.isCoroutine = false) (hCf:cenv.locals ∉ fp) (hq:QuietT prog w cenv x elt fp wr P F href) :
    ∀ (k i:Nat) (s₀ s:Shared) (m:Str → Option Value),n₀ - i = k → i ≤ n₀ → 1 ≤ s.toks → St₀ i s.heap → s.heap.Ns cenv.locals m → GenSince cenv.locals wr s₀ s →
      (∀ b ∈ fp,b ∉ wr → ∀ o,href.get? b = some o → s.heap.get? b = some o) →
      Seg (model prog w) A (fun n s₀ r s₁ => r = .ok .next ∧ (n = 0 ∧ GenSince cenv.locals wr s₀ s₁)) (protoT cenv.locals fp wr n₀ F) (n₀ - i) s₀
        (.compLoop (.GeneratorExp elt [⟨.Name x px,iter,[],0⟩] scope pos) 0 (.ref I) .none cenv)
        ((model prog w).den (.compLoop (.GeneratorExp elt [⟨.Name x px,iter,[],0⟩] scope pos) 0 (.ref I) .none cenv)) [] s:=by
  have hh':(A.over (.compLoop (.GeneratorExp elt [⟨.Name x px,iter,[],0⟩] scope pos) 0 (.ref I) .none cenv) []).handled = none:=hh
  have hCw:cenv.locals ∉ wr:=fun h => hCf ((W₀ A hh).sub _ h)
  intro k
  induction k with
  | zero =>
    intro i s₀ s m hk hi ht hst hn hsince hkp
    have hin:i = n₀:=Nat.le_antisymm hi (Nat.sub_eq_zero_iff_le.mp hk)
    subst hin
    show Seg _ A _ _ _ s₀ _ ((compTurn (.GeneratorExp elt [⟨.Name x px,iter,[],0⟩] scope pos) 0 (.ref I) .none cenv).onRaise (leaving cenv)) [] s
    rw [compTurn_gen,Sem.onRaise_eq_wrap]
    refine seg_bind_wrap (wpAny_standAt ?_)
    refine seg_bind_wrap ((W₀ _ hh').done s _ _ hst fun h' tk hk' => ?_)
    exact seg_end (.ok .next) ⟨rfl,Nat.sub_self _,hsince.step fun b o ℓ hw e => hk' b o hw e⟩
  | succ k ih =>
    intro i s₀ s m hk hi ht hst hn hsince hkp
    have hlt:i < n₀:=Nat.lt_of_sub_ne_zero (by rw [hk]; exact Nat.succ_ne_zero _)
    show Seg _ A _ _ _ s₀ _ ((compTurn (.GeneratorExp elt [⟨.Name x px,iter,[],0⟩] scope pos) 0 (.ref I) .none cenv).onRaise (leaving cenv)) [] s
    rw [compTurn_gen,Sem.onRaise_eq_wrap]
    refine seg_bind_wrap (wpAny_standAt ?_)
    refine seg_bind_wrap (wpAny_with_toks ht ((W₀ _ hh').item i s _ _ hlt hst fun v h₁ tk₁ hPv hst₁ hk₁ ht₁ => ?_))
    have ht₁:1 ≤ tk₁:=ht₁
    refine seg_bind_wrap (wpAny_of_eq (rfl:letOwnedTupleGo (.Name x px) (.ref I) v = pure ()) ?_)
    refine seg_bind_wrap (wpAny_assign_Name (wpAny_storeName_local hx (hn.at' fun o e => hk₁ _ o hCw e) (fun h₂ hn₂ hs₂ => ?_) hp))
    have up₂:∀ b o,b ≠ cenv.locals → b ∉ wr → s.heap.get? b = some o → h₂.get? b = some o:=fun b o hbC hbw e => hs₂.extBut b o hbC (hk₁ b o hbw e)
    have hst₂:St₀ (i + 1) h₂:=(W₀ A hh).frame _ _ _ hst₁ fun b hb o e => hs₂.extBut b o (fun h => hCf (h ▸ hb)) e
    have hkp₂:∀ b ∈ fp,b ∉ wr → ∀ o,href.get? b = some o → h₂.get? b = some o:=fun b hb hbw o e => up₂ b o (fun h => hCf (h ▸ hb)) hbw (hkp b hb hbw o e)
    refine seg_bind_wrap (wpAny_of_eq (a:=true) rfl ?_)
    simp only [if_true]
    have hy:∀ v,yieldOut cenv v = yieldValue v:=fun v => by simp only [yieldOut,hco,Bool.false_eq_true,if_false]
    simp only [hy]
    rw [Sem.bind_eq_wrap',Sem.bind_eq_wrap',Sem.wrap_wrap,Sem.wrap_wrap]
    refine seg_wrap (wpAny_mono (hq _ _ i v { s with heap:=h₂,toks:=tk₁ + 1 } _ hh' hPv (Nat.le_succ_of_le ht₁) hn₂ (by simp) hkp₂) (fun y s₄ h₄ => ?_) fun ℓ ℓ e => e)
    obtain ⟨hFy,h₄,tk₄,rfl,hk₄⟩:=h₄
    have hsince₄:GenSince cenv.locals wr s₀ { s with heap:=h₄,toks:=tk₄ }:=hsince.step fun b o hbC hbw e => hk₄ b o (up₂ b o hbC hbw e)
    have e1:n₀ - i = (n₀ - (i + 1)) + 1:=(Nat.succ_pred (Nat.sub_ne_zero_of_lt hlt)).symm
    rw [e1]
    refine seg_at (seg_yield rfl rfl rfl ⟨⟨ar2 hlt,by rw [ar1 hlt]; exact hFy⟩,hsince₄,fun s'' ht'' hal => ?_⟩)
    exact seg_again rfl (ih (i + 1) s'' s'' _ (ar3 hk) hlt ht'' ((W₀ A hh).frame _ _ _ hst₂ fun b hb o e => hal b (List.mem_cons_of_mem _ hb) o (hk₄ b o e))
      ((hn₂.keeps hk₄).at' fun o e => hal _ (List.mem_cons_self ..) o e) (GenSince.refl _ _ _) fun b hb hbw o e => hal b (List.mem_cons_of_mem _ hb) o (hk₄ b o (hkp₂ b hb hbw o e)))
theorem seg_startT (hh:A.handled = none) (W₀:∀ A':Around,A'.handled = none → Walks prog w A' I fp wr n₀ P St₀)
    (hx:cenv.kindOf x = some .local) (hp:(cenv.scope.kind == .class || (cenv.scope.kind == .module && cenv.locals != cenv.globals)) = false)
    (hco:cenv.scope.isCoroutine = false) (hCf:cenv.locals ∉ fp) (hq:QuietT prog w cenv x elt fp wr P F href)
    (s₀ s:Shared) (m:Str → Option Value) (ht:1 ≤ s.toks) (hst:St₀ 0 s.heap) (hn:s.heap.Ns cenv.locals m) (hsince:GenSince cenv.locals wr s₀ s)
    (hkp:∀ b ∈ fp,b ∉ wr → ∀ o,href.get? b = some o → s.heap.get? b = some o) :
    Seg (model prog w) A (fun n s₀ r s₁ => r = .ok .next ∧ (n = 0 ∧ GenSince cenv.locals wr s₀ s₁)) (protoT cenv.locals fp wr n₀ F) n₀ s₀
      (.compStart (.GeneratorExp elt [⟨.Name x px,iter,[],0⟩] scope pos) 0 (.ref I) .none cenv)
      ((model prog w).den (.compStart (.GeneratorExp elt [⟨.Name x px,iter,[],0⟩] scope pos) 0 (.ref I) .none cenv)) [] s:=by
  have hh':(A.over (.compStart (.GeneratorExp elt [⟨.Name x px,iter,[],0⟩] scope pos) 0 (.ref I) .none cenv) []).handled = none:=hh
  have loop:=seg_loopT (iter:=iter) (px:=px) (scope:=scope) (pos:=pos) hh W₀ hx hp hco hCf hq n₀ 0 s₀ s m (Nat.sub_zero _) (Nat.zero_le _) ht hst hn hsince hkp
  rw [Nat.sub_zero] at loop
  show Seg _ A _ _ _ s₀ _ ((compStart (.GeneratorExp elt [⟨.Name x px,iter,[],0⟩] scope pos) 0 (.ref I) .none cenv).onRaise (leaving cenv)) [] s
  unfold compStart
  rw [Sem.onRaise_eq_wrap]
  show Seg _ A _ _ _ s₀ _ ((ask >>= _).wrap _ _ _ _) [] s
  refine seg_bind_wrap (wpAny_askSetting ?_)
  split
  · exact seg_again rfl loop
  · first
      | exact seg_bind_wrap (wpAny_rule (seg_bind_wrap (wpAny_standAt (seg_bind_wrap ((W₀ _ hh').self 0 s _ _ hst (seg_again rfl loop))))))
      | (refine seg_bind_wrap (wpAny_rule ?_); show Seg _ A _ _ _ s₀ _ ((standAt iter.pos >>= _).wrap _ _ _ _) [] s; exact seg_bind_wrap (wpAny_standAt (seg_bind_wrap ((W₀ _ hh').self 0 s _ _ hst (seg_again rfl loop)))))
noncomputable def GenAtT (prog:Program) (w:World) (A:Around) (a:Addr) (g:Nat) (C:Addr) (fp wr:List Addr) (n₀:Nat) (F:Nat → Value → Prop) (j:Nat) (s:Shared):Prop :=
  1 ≤ s.toks ∧ s.heap.IsGen a g ∧ s.heap.NoLimit ∧ ∃ gs,s.gens[g]? = some gs ∧ ∀ s'':Shared,1 ≤ s''.toks → (∀ b ∈ C :: fp,∀ o,s.heap.get? b = some o → s''.heap.get? b = some o) →
    gs.Goes (model prog w) A.in1 (fun n s₀ r s₁ => r = .ok .next ∧ (n = 0 ∧ GenSince C wr s₀ s₁)) (protoT C fp wr n₀ F) (n₀ - j) (.send .none) s''
theorem walksT (hh:A.handled = none) (a:Addr) (g:Nat) (C:Addr) (fp wr:List Addr) (n₀:Nat) (F:Nat → Value → Prop) (haC:a ≠ C) (haf:a ∉ fp) (hsub:∀ b ∈ wr,b ∈ fp)
    (hroom:A.depth < recursionLimit) (hcs:cStatics ∈ fp) (hcC:cStatics ≠ C) (hcw:cStatics ∉ wr) :
    WalksS prog w A a (a :: C :: fp) (C :: wr) (GenOnlyQ g) n₀ F (GenAtT prog w A a g C fp wr n₀ F) where
  sub:=fun b hb => by
    rcases List.mem_cons.mp hb with rfl | hb
    · simp
    · exact List.mem_cons_of_mem _ (List.mem_cons_of_mem _ (hsub b hb))
  grefl:=fun ℓ => .inl rfl
  gtrans:=fun ℓ ℓ ℓ x y => x.trans y
  frame:=fun j s h' tk st htk hk =>
    ⟨Nat.le_trans st.1 htk,let ⟨o,nm,qn,ho,r⟩:=st.2.1; ⟨o,nm,qn,hk a (List.mem_cons_self ..) o ho,r⟩,
     (let ⟨mc,hns,hnn⟩:=st.2.2.1; ⟨mc,hns.at' fun o e => hk cStatics (List.mem_cons_of_mem _ (List.mem_cons_of_mem _ hcs)) o e,hnn⟩),
     let ⟨gs,hgs,hgo⟩:=st.2.2.2; ⟨gs,hgs,fun s'' ht hal => hgo s'' ht fun b hb o e => hal b hb o (hk b (List.mem_cons_of_mem _ hb) o e)⟩⟩
  item:=fun j s Q E hj st hQ => by
    obtain ⟨ht,hg,hl,gs,hgs,hgo⟩:=st
    obtain ⟨m,hm⟩:∃ m,n₀ - j = m + 1:=⟨_,(Nat.succ_pred (Nat.sub_ne_zero_of_lt hj)).symm⟩
    rw [hm] at hgo
    refine wpAny_with_toks (Nat.le_refl s.toks) ?_
    refine wpAny_pyNext_genexpQ (P:=fun n s₀ s₁ => n = 0 ∧ GenSince C wr s₀ s₁) hh hl hroom hg hgs (hgo (s.setGen g .running) ht fun ℓ ℓ ℓ e => e) (fun v s₁ gs' hb hv => ?_) (fun s₁ hp h' hk => ?_)
    · obtain ⟨⟨_,hF⟩,⟨h₁,tk₁,rfl,hk₁⟩,hkap⟩:=hv
      have hidx:n₀ - 1 - (m + 1 - 1) = j:=ar4 hm hj
      rw [hidx] at hF
      have haw:a ∉ wr:=fun h => haf (hsub a h)
      intro htk
      refine hQ v _ hF ⟨Nat.le_trans ht htk,let ⟨o,nm,qn,ho,r⟩:=hg; ⟨o,nm,qn,hk₁ a o haC haw ho,r⟩,(let ⟨mc,hns,hnn⟩:=hl; ⟨mc,hns.at' fun o e => hk₁ cStatics o hcC hcw e,hnn⟩),gs',setGen_self (gs:=.running) (setGen_self hgs),fun s'' ht'' hal => ?_⟩
        ⟨fun b o hb e => hk₁ b o (fun h => hb (h ▸ List.mem_cons_self ..)) (fun h => hb (List.mem_cons_of_mem _ h)) e,GenOnlyQ.of ((GenOnly.setGen s g .running).trans (GenOnly.setGen _ g gs')) (setGen_self (gs:=.running) (setGen_self hgs)) hb,rfl,rfl,htk⟩
      have e:n₀ - (j + 1) = m:=ar3 hm
      rw [e]
      exact hkap s'' ht'' hal
    · exact absurd hp.1 (Nat.succ_ne_zero m)
  done:=fun s Q E st hQ => by
    obtain ⟨ht,hg,hl,gs,hgs,hgo⟩:=st
    rw [Nat.sub_self] at hgo
    refine wpAny_with_toks (Nat.le_refl s.toks) ?_
    refine wpAny_pyNext_genexpQ (P:=fun n s₀ s₁ => n = 0 ∧ GenSince C wr s₀ s₁) hh hl hroom hg hgs (hgo (s.setGen g .running) ht fun ℓ ℓ ℓ e => e) (fun v s₁ gs' hb hv => ?_) (fun s₁ hp h' hk => ?_)
    · obtain ⟨_,⟨h₁,tk₁,rfl,hk₁⟩,hkap⟩:=hv
      intro htk
      exact False.elim (hkap _ (Nat.le_trans ht htk) fun ℓ ℓ ℓ e => e)
    · obtain ⟨_,h₁,tk₁,rfl,hk₁⟩:=hp
      intro htk
      exact hQ _ ⟨fun b o hb e => hk b o (hk₁ b o (fun h => hb (h ▸ List.mem_cons_self ..)) (fun h => hb (List.mem_cons_of_mem _ h)) e),GenOnlyQ.of ((GenOnly.setGen s g .running).trans (GenOnly.setGen _ g .finished)) (setGen_self (gs:=.running) (setGen_self hgs)) rfl,rfl,rfl,htk⟩
  self:=fun ℓ ℓ ℓ ℓ st hQ => wpAny_pyIter_gen st.2.1 hQ
theorem GenAtT.fresh {a:Addr} {g:Nat} (hh:A.handled = none) (W₀:∀ A':Around,A'.handled = none → Walks prog w A' I fp wr n₀ P St₀)
    (hx:cenv.kindOf x = some .local) (hp:(cenv.scope.kind == .class || (cenv.scope.kind == .module && cenv.locals != cenv.globals)) = false)
    (hco:cenv.scope.isCoroutine = false) (hCf:cenv.locals ∉ fp) {s:Shared} {m:Str → Option Value} (hq:QuietT prog w cenv x elt fp wr P F s.heap) (ht:1 ≤ s.toks)
    (hg:s.heap.IsGen a g) (hgs:s.gens[g]? = some (.fresh (.compStart (.GeneratorExp elt [⟨.Name x px,iter,[],0⟩] scope pos) 0 (.ref I) .none cenv)))
    (hst:St₀ 0 s.heap) (hn:s.heap.Ns cenv.locals m) (hl:s.heap.NoLimit):GenAtT prog w A a g cenv.locals fp wr n₀ F 0 s :=
  ⟨ht,hg,hl,_,hgs,fun s'' ht'' hal => ⟨rfl,seg_startT (A:=A.in1) hh W₀ hx hp hco hCf hq s'' s'' m ht'' ((W₀ A hh).frame _ _ _ hst fun b hb o e => hal b (List.mem_cons_of_mem _ hb) o e)
    (hn.at' fun o e => hal _ (List.mem_cons_self ..) o e) (GenSince.refl _ _ _) fun b hb ℓ o e => hal b (List.mem_cons_of_mem _ hb) o e⟩⟩
end
end Mine
end
noncomputable section
open PySem PySem.W PyProof.Rows PySem.Spec PySem.Calls
set_option Elab.async false
set_option maxRecDepth 100000
set_option linter.unusedVariables false
namespace Mine
noncomputable def CodeTab (W:Wd) (c:Addr):Prop:=∀ h ps,W.base.StaysIn h → h.get? W.P = some (tabObj ps) → TriplesOk ps.toList → h.IsCode c W.P ps ∧ h.TableAt c W.P ps
set_option tactic.hygienic true in
theorem among_snoc (pos q:Pos) (c d:Value):∀ (l:List Value),TriplesOk l → codeAmong pos (l ++ [rawInt q.line,rawInt q.col,d]) = some c → codeAmong pos l = some c ∨ (codeAmong pos l = none ∧ c = d ∧ ((pos.line:Int) = q.line ∧ (pos.col:Int) = q.col)):=by
  intro l h e
  fun_induction TriplesOk l with
  | case1 =>
    simp only [List.nil_append,codeAmong,rawInt] at e
    split at e
    · rename_i hq
      simp only [Bool.and_eq_true,beq_iff_eq] at hq
      cases e
      exact .inr ⟨rfl,rfl,hq.1.symm,hq.2.symm⟩
    · cases e
  | case2 line t col u x rest ih =>
    simp only [List.cons_append,codeAmong] at e ⊢
    split at e
    · rename_i hq
      rw [if_pos hq]
      exact .inl e
    · rename_i hq
      rw [if_neg hq]
      exact ih h e
  | case3 => exact h.elim
section
variable {W:Wd} {fx:Fx} {F:Fz} {σ:Sto} {s:Shared} {A:Around} {E:Value → Shared → Prop} {c:Addr} {pos:Pos}
theorem Inv.genCode {qualname:Str} {scope:Scope} {Q:Value → Shared → Prop} (I:Inv W fx F σ s) (C:CodeTab W c) (hc:fx.env.code = .ref c) (hq:W.qn pos.line pos.col = qualname)
    (hQ:∀ G s' v,F.le G → Inv W fx G σ s' → (∀ b o,b ≠ W.P → s.heap.get? b = some o → s'.heap.get? b = some o) → s'.gens = s.gens → Q v s'):wpAny W.M A (genexprCode fx.env pos qualname scope) Q E s:=by
  obtain ⟨ps,hP,htr,hcodes⟩:=I.tab
  obtain ⟨C1,C2⟩:=C _ _ I.win.stays hP htr
  cases hnf:codeAmong pos ps.toList with
  | some v =>
    obtain ⟨o,vs,file,tf,flags,tg,inF,text,tt,op,ho,hd,h11,h2,h7,h9,h10,hop,hpd,htr',hne⟩:=id C1
    unfold genexprCode codeAt
    rw [hc,if_neg (show ¬ ((Value.ref c == Value.none) = true) from Bool.false_ne_true)]
    refine wpAny_bind (wpAny_fieldsOf ho hd ?_)
    rw [h11]
    refine wpAny_bind (wpAny_fieldsOf hop hpd ?_)
    rw [hnf]
    exact wpAny_pure (hQ F s v (.refl F) I (fun ℓ ℓ ℓ e => e) rfl)
  | none =>
    refine wpAny_genexprCodeX hc C1 C2 hnf fun c' h' tk hx hge hlt hcode hrec htab htab' => ?_
    obtain ⟨P',hP',hcode',⟨oc,vc,hoc,hcc,hdc,h11c⟩,_⟩:=htab'
    obtain ⟨c2,o2,vs2,t2,e2,g2,d2,r2⟩:=hrec
    cases e2
    rw [hoc] at g2; cases g2
    rw [hdc] at d2; cases d2
    have hn:s.heap.get? c' = none:=by
      cases q:s.heap.get? c' with
      | none => rfl
      | some o => exact absurd (Heap.lt_size q) (Nat.not_lt.mpr hge)
    have hF:=I.fresh_F hn
    have hxk:∀ b o,b ≠ W.P → s.heap.get? b = some o → h'.get? b = some o:=fun b o hb e => hx b o hb e
    have hFP:∀ b o,F b = some o → b ≠ W.P:=fun b o e q => by rw [q,I.FP] at e; cases e
    have hnew:∀ b o,F.add c' oc b = some o → (b = c' ∧ o = oc) ∨ F b = some o:=fun b o q => by
      unfold Fz.add at q
      by_cases z:b = c'
      · subst z; simp at q; exact .inl ⟨rfl,q.symm⟩
      · simp [z] at q; exact .inr q
    refine hQ (F.add c' oc) _ _ (Fz.le_add hF) (I.step (Fz.le_add hF) (fun b o hp e => ⟨fun ℓ => hxk b o hp e,o.slots,hxk b o hp e⟩) ⟨fun b o e => hxk b o (fun q => by rw [q,I.base_P] at e; cases e) (I.win.stays b o e),I.win.gens,I.win.os⟩ ?_ (fun b o q => ?_) (fun b o q => ?_) (fun b o q => ?_)) hxk rfl
    · refine ⟨_,htab.2,?_,fun pos' v q => ?_⟩
      · rw [Array.toList_append]; exact TriplesOk_snoc _ _ _ _ htr
      · rw [Array.toList_append] at q
        rcases among_snoc pos' pos _ _ _ htr q with q | ⟨_,rfl,e1,e2⟩
        · obtain ⟨a,o,vs,t,h1,h2,h3,h4,h5⟩:=hcodes pos' v q
          exact ⟨a,o,vs,t,h1,Fz.le_add hF _ _ h2,h3,h4,h5⟩
        · exact ⟨c',oc,_,t2,rfl,Fz.add_self,hcc,hdc,by rw [e1,e2,hq]; exact r2⟩
    · rcases hnew b o q with ⟨rfl,rfl⟩ | q
      · exact hoc
      · exact hxk b o (hFP b o q) (I.fin _ _ q)
    · rcases hnew b o q with ⟨rfl,rfl⟩ | q
      · exact ⟨by rw [hcc]; exact fun e => (nomatch e),fun es n e => (by rw [hdc] at e; cases e),fun v e => (by rw [hdc] at e; cases e)⟩
      · exact I.fok _ _ q
    · rcases hnew b o q with ⟨rfl,rfl⟩ | q
      · exact .inr hn
      · exact .inl q
end
end Mine
end
noncomputable section
open PySem PySem.W PyProof.Rows PySem.Spec PySem.Calls
set_option Elab.async false
set_option maxRecDepth 100000
set_option linter.unusedVariables false
namespace Mine
section
variable {prog:Program} {w:World} {A:Around} {E:Value → Shared → Prop} {s:Shared} {env:Env}
theorem repl_at {o:PySem.Expr} {ap p1 p2 pos:Pos} {k1 k2 c:Nat} {a z:Str} {Q:Value → Shared → Prop} (ha:a = ⟨#[c]⟩) (hz:z.length ≤ 14) (hne:(a == z) = false) (hline:(ap.endLine == pos.line) = true) (hbase:attributeBase o "replace" env (eval o env) = eval o env)
    (h:wpAny (model prog w) A (eval o env) (fun v s₁ => ∃ y t,v = .str y t ∧ 1 ≤ s₁.toks ∧ y.length ≤ 100000 ∧ ∀ r t' k,1 ≤ k → r.cps.toList = replL c z.cps.toList y.cps.toList → Q (.str r t') { s₁ with toks:=k }) E s) :
    wpAny (model prog w) A (eval (.Call (.Attribute o (Str.ofString "replace") ap) [.Constant (.str a) k1 p1,.Constant (.str z) k2 p2] [] pos) env) Q E s:=by
  refine wpAny_Call_method_lateS hbase (by rfl) hline (wpAny_mono h (fun ov s₁ h₁ => ?_) fun ℓ ℓ x => x)
  obtain ⟨y,t,rfl,ht₁,hl,hQ⟩:=h₁
  refine ⟨"str","str.replace",PySem.F.plainAttrs_str,PySem.F.slot_str_replace,PySem.F.type_str_replace,typeIs_str _ _ _,fun a e => (nomatch e),?_⟩
  refine Calls.callWith_builtin (by rfl) (Calls.evalArgs_plain (x:=eval (.Constant (.str a) k1 p1) env) (rest:=backTo pos (starEach [.Constant (.str z) k2 p2] env)) ?_)
  refine Calls.spliced_cons (wpAny_Constant_str ?_)
  refine Calls.spliced_cons (x:=eval (.Constant (.str z) k2 p2) env) (rest:=[]) ?_
  refine wpAny_Constant_str (Calls.spliced_nil ?_)
  have ht1:s₁.toks ≠ 0:=by omega
  subst ha
  show wpAny (model prog w) A (call (.builtin "str.replace") [.str y t,.str ⟨#[c]⟩ s₁.toks,.str z (s₁.toks + 1)]) _ _ _
  exact wpAny_with_toks (n:=1) (Nat.succ_le_succ (Nat.zero_le _)) (SC.replaceW ht1 (Nat.succ_ne_zero _) (Nat.ne_of_lt (Nat.lt_succ_self _)) hne (by omega) hz fun t' k' hk' => hQ _ _ _ hk' (replL_eq _ _ _))
theorem replL_len (c:Nat) (z:List Nat) (m:Nat) (hz:z.length ≤ m) (hm:1 ≤ m):∀ l:List Nat,(replL c z l).length ≤ m * l.length
  | [] => by simp [replL]
  | k :: r => by
    have ih:=replL_len c z m hz hm r
    have e:replL c z (k :: r) = (if k = c then z else [k]) ++ replL c z r:=rfl
    rw [e,List.length_append,List.length_cons,Nat.mul_succ]
    have:(if k = c then z else [k]).length ≤ m:=by split <;> (try simp only [List.length_cons,List.length_nil]) <;> omega
    omega
theorem quiet_repl2 {x:Str} {p ap1 ap2 q1 q2 q3 q4 pos1 pos2:Pos} {k1 k2 k3 k4 c1 c2:Nat} {a1 z1 a2 z2:Str} {cenv:Env} {fp wr:List Addr} {P:Nat → Value → Prop} {href:Heap} {ys:List (List Nat)}
    (hkind:cenv.scope.kind = .function) (hx:cenv.kindOf x = some .local) (hd:(x == ("__debug__":Str)) = false) (ha1:a1 = ⟨#[c1]⟩) (hz1:z1.length ≤ 2) (hne1:(a1 == z1) = false) (ha2:a2 = ⟨#[c2]⟩) (hz2:z2.length ≤ 14) (hne2:(a2 == z2) = false)
    (hl1:(ap1.endLine == pos1.line) = true) (hl2:(ap2.endLine == pos2.line) = true)
    (hP:∀ i v,P i v → ∃ y t,v = .str y t ∧ y.length ≤ 10000 ∧ ys[i]? = some y.cps.toList) :
    QuietT prog w cenv x (.Call (.Attribute (.Call (.Attribute (.Name x p) (Str.ofString "replace") ap1) [.Constant (.str a1) k1 q1,.Constant (.str z1) k2 q2] [] pos1) (Str.ofString "replace") ap2) [.Constant (.str a2) k3 q3,.Constant (.str z2) k4 q4] [] pos2) fp wr P
      (fun i v => ∃ y r t,ys[i]? = some y ∧ v = .str r t ∧ r.cps.toList = replL c2 z2.cps.toList (replL c1 z1.cps.toList y)) href:=by
  intro A' E' i v s₂ m₂ hh hv ht hn hm _
  obtain ⟨y,t,rfl,hl,hy⟩:=hP i v hv
  refine repl_at ha2 hz2 hne2 hl2 (by rfl) (repl_at ha1 (by omega) hne1 hl1 (by rfl) ?_)
  refine wpAny_Name (wpAny_loadName_local hkind hx hn hm ⟨y,t,rfl,ht,by omega,fun r t' k hk hr => ?_⟩) hd
  have hl2:r.length ≤ 100000:=by
    have h1:r.length = r.cps.toList.length:=by simp [Str.length]
    have h2:z1.cps.toList.length = z1.length:=by simp [Str.length]
    have h3:y.length = y.cps.toList.length:=by simp [Str.length]
    have:=replL_len c1 z1.cps.toList 2 (by omega) (by omega) y.cps.toList
    rw [h1,hr]; omega
  refine ⟨r,t',rfl,hk,hl2,fun r' t'' k' hk' hr' => ⟨⟨_,r',t'',hy,rfl,by rw [hr',hr]⟩,s₂.heap,k',rfl,fun ℓ ℓ e => e⟩⟩
end
end Mine
end
noncomputable section
open PySem PySem.W PyProof.Rows PySem.Spec PySem.Calls
set_option Elab.async false
set_option maxRecDepth 100000
set_option linter.unusedVariables false
namespace Mine
noncomputable def EnvAt (c:Addr) (q:Str) (env:Env):Prop:=env.code = .ref c ∧ env.qual = q
section
variable {W:Wd} {fx:Fx} {F G:Fz} {σ:Sto} {s s':Shared}
theorem Inv.regen (I:Inv W fx F σ s) {g:Array GenState} (hg:AllBare g):Inv W fx F σ { s with gens:=g } :=
  { I with win:=⟨I.win.stays,hg,I.win.os⟩ }
noncomputable def BltMod (W:Wd):Prop:=∃ mg bm ob,BMod W.base mainGlobals mg bm ob
variable {sc:Scope} {n:Nat} {pos:Pos} {k:Nat} {c:Addr} {q:Str}
theorem set_join_gen {sep:Str} {elt iter:PySem.Expr} {x:Str} {p px ap gpos:Pos} {gsc:Scope} {ti:TE} {f:List Nat → List Nat} (C:CodeTab W c) (WL:W.base.NoLimit) (BM:BltMod W) (hqn:W.qn gpos.line gpos.col = q ++ "<genexpr>") (hi:SE W sc n iter ti)
    (hco:gsc.isCoroutine = false) (hclos:∀ env,closureFor gsc env = pure []) (hcell:∀ y ∈ gsc.names,y.2 ≠ .cell) (h0:gsc.names.lookup (".0":Str) = some NameKind.local) (hx:gsc.names.lookup x = some .local) (hkind:gsc.kind = .function)
    (hsl:sep.length ≤ 14) (hs:∀ env v,genFold iter env v = pure v) (hline:(ap.endLine == pos.line) = true) (hbase:∀ env,attributeBase (.Constant (.str sep) k p) "join" env (eval (.Constant (.str sep) k p) env) = eval (.Constant (.str sep) k p) env)
    (helt:∀ (ys:List (List Nat)) (cenv:Env) (fp wr:List Addr) (P:Nat → Value → Prop) (href:Heap),cenv.scope = gsc → (∀ i v,P i v → ∃ y t,v = .str y t ∧ y.length ≤ 10000 ∧ ys[i]? = some y.cps.toList) →
      QuietT W.prog W.w cenv x elt fp wr P (fun i v => ∃ y r t,ys[i]? = some y ∧ v = .str r t ∧ r.cps.toList = f y) href) :
    SET W (EnvAt c q) sc n (.Call (.Attribute (.Constant (.str sep) k p) (Str.ofString "join") ap) [.GeneratorExp elt [⟨.Name x px,iter,[],0⟩] gsc gpos] [] pos)
      (fun Q X => ti (fun v σ₁ => ∃ ys:List (List Nat),v = .list (vstrs ys) ∧ (∀ y ∈ ys,y.length ≤ 10000) ∧ fits (((ys.map f).map (·.length)).sum + ys.length) ∧ Q (.str (joinL sep.cps.toList (ys.map f))) σ₁) X) :=
  fun fx F σ s Q X E hH ht hsc hrm I h hE => by
    obtain ⟨hcode,hqual⟩:=hH
    have hroom:fx.A.depth < recursionLimit:=Nat.lt_of_le_of_lt (Nat.le_trans (Nat.le_add_right _ _) (Nat.le_add_right _ _)) hrm.1
    refine ⟨?_⟩
    apply wpAny_Call_method_lateS (hbase _) rfl hline
    apply wpAny_Constant_str
    refine ⟨"str","str.join",PySem.F.plainAttrs_str,PySem.F.slot_str_join,PySem.F.type_str_join,typeIs_str _ _ _,fun a e => (nomatch e),?_⟩
    refine Calls.callWith_builtin (by rfl) (Calls.evalArgs_plain (x:=eval (.GeneratorExp elt [⟨.Name x px,iter,[],0⟩] gsc gpos) fx.env) (rest:=[]) ?_)
    refine Calls.spliced_cons ?_
    refine wpAny_GeneratorExp_make hco (hclos _) hcell h0 hkind hroom ?_ (hs _)
    have I₀:=I.ext (.tok s (s.toks + 1))
    refine wpAny_mono ((hi fx F σ _ _ X E hsc hrm I₀ h hE).toks (Nat.succ_le_succ (Nat.zero_le _))).out (fun xv s₁ h₁ => ?_) fun ℓ ℓ z => z
    obtain ⟨ht₁,F₁,σ₁,u,h01,I₁,ru,ys,rfl,hys,hf,hQ⟩:=h₁
    generalize hxs:vstrs ys = zs at ru
    obtain ⟨l,o,its,ep,rfl,e,hc,hd,hr⟩:=ru.inv
    subst hxs
    obtain ⟨ts,h1,h2⟩:=strsAre_of hr
    have hl:s₁.heap.IsList l its:=⟨o,I₁.fin _ _ e,hc,ep,hd⟩
    have hlt:l < s₁.heap.objs.size:=Heap.lt_size (I₁.fin _ _ e)
    have hlP:l ≠ W.P:=fun z => by have:=I₁.FP; rw [← z,e] at this; cases this
    generalize hio:({ cls:=.type "list_iterator",data:=.fields #[.ref l,.int 0 0] }:Obj) = io
    have hiof:io.isFreed = false:=by rw [← hio]; rfl
    refine wpAny_pyIter_list hl ?_
    rw [hio]
    have hIn:s₁.heap.get? s₁.heap.objs.size = none:=get_size _
    have I₂:Inv W fx F₁ σ₁ { s₁ with heap:=s₁.heap.push io }:=I₁.push io s₁.toks
    have hIg:(s₁.heap.push io).get? s₁.heap.objs.size = some io:=Heap.get?_push_size _ hiof
    have hB:=I₁.fresh_B hIn
    have hFI:=I₁.fresh_F hIn
    have hIP:s₁.heap.objs.size ≠ W.P:=fun z => by
      obtain ⟨ps,hP,_⟩:=I₁.tab
      rw [← z,hIn] at hP; cases hP
    have CP:CanProt W fx F₁ { s₁ with heap:=s₁.heap.push io } s₁.heap.objs.size io:=⟨hIg,hIP,hFI,hB,fun es n z => (by rw [← hio] at z; cases z),fun v z => (by rw [← hio] at z; cases z)⟩
    have J₂:=I₂.protect CP (NoOwn.of_data I₂ hIg fun xs m z => (by rw [← hio] at z; cases z))
    have hWL:∀ {h:Heap},W.base.StaysIn h → h.NoLimit:=fun hs => WL.keeps hs
    refine ⟨hWL I₂.win.stays,?_⟩
    have hqn':W.qn gpos.line gpos.col = fx.env.qual ++ "<genexpr>":=by rw [hqual]; exact hqn
    refine J₂.genCode C hcode hqn' fun G s₃ code hFG J₃ hk₃ hg₃ => ?_
    have hG0:G s₁.heap.objs.size = none:=J₃.prot_F (I₁.f0_none hFI)
    have hI₃:s₃.heap.get? s₁.heap.objs.size = some io:=J₃.prot_get CP.nd
    have I₃:=J₃.unprot I₁.ok hB
    obtain ⟨mg,bm,ob,hBM⟩:=BM
    have hBM₃:=hBM.keeps I₃.win.stays
    refine wpAny_builtinsFor (by rw [I.ok.glob]; exact hBM₃.ns) hBM₃.name hBM₃.ne hBM₃.obj hBM₃.cls hBM₃.dict hBM₃.data ?_
    intro h' hns hsb
    have hsz:h'.objs.size = s₃.heap.objs.size + 1:=by rw [hsb.1,Heap.size_push]
    have keep':∀ b o,s₃.heap.get? b = some o → h'.get? b = some o:=fun b o e => hsb.extBut b o (Nat.ne_of_lt (Heap.lt_size e)) (Heap.get?_push_of_some _ e)
    have hIlt:s₁.heap.objs.size < s₃.heap.objs.size:=Heap.lt_size hI₃
    have hl₃:s₃.heap.IsList l its:=⟨o,I₃.fin _ _ (hFG _ _ e),hc,ep,hd⟩
    have hne:l ≠ s₁.heap.objs.size:=Nat.ne_of_lt hlt
    generalize hcenv:genEnv gsc [] s₃.heap.objs.size code builtinsNs fx.env = cenv
    have hcs:cenv.scope = gsc:=by rw [← hcenv]; rfl
    have hcL:cenv.locals = s₃.heap.objs.size:=by rw [← hcenv]; rfl
    refine Calls.spliced_nil ?_
    generalize hgo:({ cls:=.type "generator",data:=.fields #[.int s₃.gens.size 0,.str (Str.ofString "<genexpr>") (s₃.toks + 1),.str (fx.env.qual ++ Str.ofString "<genexpr>") (s₃.toks + 1 + 1)] }:Obj) = go
    have hgof:go.isFreed = false:=by rw [← hgo]; rfl
    generalize hs₅:({ heap:=h'.push go,gens:=s₃.gens.push (GenState.fresh (Code.compStart (elt.GeneratorExp [{ target:=Expr.Name x px,iter:=iter,ifs:=[],is_async:=0 }] gsc gpos) 0 (Value.ref s₁.heap.objs.size) Value.none cenv)),drawn:=s₃.drawn,toks:=s₃.toks + 1 + 1 + 1,os:=s₃.os }:Shared) = s₅
    show wpAny W.M fx.A (call (.builtin "str.join") [.str sep _,.ref h'.objs.size]) _ _ s₅
    have keep₅:∀ b o,s₃.heap.get? b = some o → s₅.heap.get? b = some o:=fun b o e => by rw [← hs₅]; exact Heap.get?_push_of_some _ (keep' b o e)
    have hstat:s₃.heap.NoLimit:=hWL I₃.win.stays
    have hclt:cStatics < s₃.heap.objs.size:=let ⟨_,hn,_⟩:=hstat; hn.lt
    have hcw:cStatics ≠ s₁.heap.objs.size:=by
      have h1:(s₁.heap).NoLimit:=hWL I₁.win.stays
      have:cStatics < s₁.heap.objs.size:=let ⟨_,hn,_⟩:=h1; hn.lt
      exact Nat.ne_of_lt this
    have hh:fx.A.handled = none:=I.ok.handled
    have hPv:∀ (i:Nat) (v:Value),its[i]? = some v → ∃ y t,v = .str y t ∧ y.length ≤ 10000 ∧ ys[i]? = some y.cps.toList:=fun i v hv => by
      have hv':its.toList[i]? = some v:=by simpa using hv
      have hlt':i < its.toList.length:=(List.getElem?_eq_some_iff.mp hv').1
      have hlen:its.toList.length = ts.length:=h1.length
      obtain ⟨t,ht⟩:=h1.get i ts[i] (List.getElem?_eq_getElem (by omega))
      rw [hv'] at ht
      have hyi:ys[i]? = some ts[i].cps.toList:=by rw [← h2,List.getElem?_map,List.getElem?_eq_getElem (by omega)]; rfl
      refine ⟨ts[i],t,Option.some.inj ht,?_,hyi⟩
      have:=hys _ (List.mem_of_getElem? hyi)
      simpa [Str.length] using this
    have hW:=walksT (prog:=W.prog) (w:=W.w) (A:=fx.A.in4) hh h'.objs.size s₃.gens.size s₃.heap.objs.size (List.range s₃.heap.objs.size) [s₁.heap.objs.size] its.size (fun i v => ∃ y r t,ys[i]? = some y ∧ v = .str r t ∧ r.cps.toList = f y)
      (by rw [hsz]; exact Nat.succ_ne_self _) (fun hm => by have:=List.mem_range.mp hm; omega) (fun b hb => by rcases List.mem_cons.mp hb with rfl | hb; exact List.mem_range.mpr hIlt; cases hb) hroom (List.mem_range.mpr hclt) (Nat.ne_of_lt hclt)
      (fun hm => by rcases List.mem_cons.mp hm with z | hb; exact hcw z; cases hb)
    have hfresh:GenAtT W.prog W.w fx.A.in4 h'.objs.size s₃.gens.size s₃.heap.objs.size (List.range s₃.heap.objs.size) [s₁.heap.objs.size] its.size (fun i v => ∃ y r t,ys[i]? = some y ∧ v = .str r t ∧ r.cps.toList = f y) 0 s₅:=by
      have hWl:∀ A':Around,A'.handled = none → Walks W.prog W.w A' s₁.heap.objs.size (List.range s₃.heap.objs.size) [s₁.heap.objs.size] its.size (fun i v => its[i]? = some v) (fun i h => h.IsListIter s₁.heap.objs.size l i ∧ h.IsList l its) :=
        fun A' hA => (Walks.list hA s₁.heap.objs.size l hne its).mono_fp fun b hb => by
          rcases List.mem_cons.mp hb with rfl | hb
          · exact List.mem_range.mpr hIlt
          · rcases List.mem_cons.mp hb with rfl | hb
            · exact List.mem_range.mpr (Nat.lt_trans hlt hIlt)
            · cases hb
      have:=GenAtT.fresh (A:=fx.A.in4) (g:=s₃.gens.size) (a:=h'.objs.size) (iter:=iter) (px:=px) (scope:=gsc) (pos:=gpos) (cenv:=cenv) (s:=s₅) (m:=fun y => if y = ".0" then some (.ref s₁.heap.objs.size) else none) hh hWl
        (by rw [show cenv.kindOf x = cenv.scope.names.lookup x from rfl,hcs]; exact hx) (by rw [hcs,hkind]; rfl) (by rw [hcs]; exact hco) (fun hm => by rw [hcL] at hm; exact Nat.lt_irrefl _ (List.mem_range.mp hm))
        (helt ys cenv _ _ _ _ hcs hPv) (by rw [← hs₅]; exact Nat.succ_le_succ (Nat.zero_le _)) (by rw [← hs₅,← hgo]; exact ⟨_,_,_,Heap.get?_push_size _ rfl,rfl,rfl,rfl⟩)
        (by rw [← hs₅]; exact Array.getElem?_push_size ..) ⟨⟨io,keep₅ _ _ hI₃,by subst hio; rfl,by subst hio; rfl⟩,⟨o,keep₅ _ _ (I₃.fin _ _ (hFG _ _ e)),hc,ep,hd⟩⟩ (by rw [← hs₅,hcL]; exact hns.push _) (hstat.keeps keep₅)
      rw [hcL] at this
      exact this
    have hys5:s₅.heap.objs.size = s₃.heap.objs.size + 2:=by rw [← hs₅,Heap.size_push,hsz]
    refine SC.joinGen hW.in4_2 (fun i s' st => st.2.1.typeIs) hfresh (fun b hb => ?_) (List.mem_cons_self ..) (fun i v hv => ?_) (fun s' lt hm hacc => ?_) ?_
    · rw [hys5]
      rcases List.mem_cons.mp hb with hb | hb
      · rw [hb,hsz]; exact Nat.lt_succ_self _
      · rcases List.mem_cons.mp hb with hb | hb
        · rw [hb]; exact Nat.lt_succ_of_lt (Nat.lt_succ_self _)
        · exact Nat.lt_succ_of_lt (Nat.lt_succ_of_lt (List.mem_range.mp hb))
    · obtain ⟨y,r,t,_,rfl,_⟩:=hv
      exact ⟨r,t,rfl⟩
    · have hlen:its.size = ys.length:=by rw [← h2,List.length_map,← h1.length]; simp
      have htx:(lt.map (·.1)).map (·.cps.toList) = ys.map f:=by
        apply List.ext_getElem?
        intro j
        have hsz':lt.length = ys.length:=by rw [← hlen]; simpa [strValues] using hacc.1
        by_cases hj:j < ys.length
        · have hj':j < lt.length:=by omega
          obtain ⟨y,r,t,hy,hv,hr'⟩:=hacc.2 j (.str lt[j].1 lt[j].2) (by simp [strValues,List.getElem?_eq_getElem hj'])
          injection hv with e1 e2
          rw [List.getElem?_map,List.getElem?_map,List.getElem?_map,List.getElem?_eq_getElem hj',hy]
          simp only [Option.map_some]
          rw [e1,hr']
        · rw [List.getElem?_eq_none (by simp; omega),List.getElem?_eq_none (by simp; omega)]
      have hjo:JoinOk sep (lt.map (·.1)) = true:=by
        refine joinOk_of_weight ?_ (by omega)
        have e1:(lt.map (·.1)).map (·.length) = (ys.map f).map (·.length):=by
          rw [← htx]
          simp [Str.length,Function.comp_def]
        have e2:(lt.map (·.1)).length = ys.length:=by have:=congrArg List.length htx; simpa using this
        rw [e1,e2]
        unfold fits at hf
        omega
      refine ⟨hjo,fun t' k' => ?_⟩
      have hgs:AllBare s'.gens:=by
        refine GenOnlyQ.bare hm.gens fun y hy => ?_
        rw [← hs₅] at hy
        rcases Array.mem_push.mp hy with hy | rfl
        · exact I₃.win.gens y hy
        · rfl
      have I₄:=I₃.regen hgs
      have C₄:CanProt W fx G { s₃ with gens:=s'.gens } s₁.heap.objs.size io:=⟨hI₃,hIP,hG0,hB,CP.nd,CP.nc⟩
      have hos:s'.os = s₃.os:=by rw [hm.os,← hs₅]
      have I₅:Inv W fx G σ₁ { s' with toks:=k' }:=I₄.poke (s':={ s' with toks:=k' }) (fun b o hb e => hm.heap b o (fun hmem => by
        rcases List.mem_cons.mp hmem with z | hmem
        · rw [z] at e; exact Nat.lt_irrefl _ (Heap.lt_size e)
        · rcases List.mem_cons.mp hmem with z | hmem
          · exact hb z
          · cases hmem) (keep₅ b o e)) ⟨rfl,hos⟩ C₄ (NoOwn.of_data I₄ hI₃ fun xs m z => (by rw [← hio] at z; cases z))
      exact ⟨G,σ₁,_,h01.trans hFG,I₅,.str _ _,by rw [join_list_eq,htx]; exact hQ⟩
    · have hlen:its.size = ys.length:=by rw [← h2,List.length_map,← h1.length]; simp
      have h4:=sizeLine_ge
      unfold fits at hf
      omega
end
end Mine
end
noncomputable section
open PySem PySem.W PyProof.Rows PySem.Spec PySem.Calls
set_option Elab.async false
set_option maxRecDepth 100000
set_option linter.unusedVariables false
namespace Mine
open PySem.Sre
noncomputable def code0:Array Nat:=#[14,14,4,1,1,9,0,64,0,1342177280,0,0,0,0,0,17,0,13,11,9,0,64,0,1342177280,0,0,0,0,0,17,1,1]
noncomputable def twin (c:Nat):Bool:=c == 38 || c == 124 || c == 126
theorem twin_big {c:Nat} (h:256 ≤ c):twin c = false:=by
  have k:∀ {x},x < 256 → (c == x) = false:=fun hx => beq_eq_false_iff_ne.mpr fun e => absurd (e ▸ h) (Nat.not_le.mpr hx)
  unfold twin
  rw [k (by decide),k (by decide),k (by decide)]
  rfl
theorem twin_bits:∀ c,c < 256 → (code0.getD (5 + (1 + c / 32)) 0).testBit (c % 32) = twin c:=by decide +kernel
theorem twin_bits2:∀ c,c < 256 → (code0.getD (19 + (1 + c / 32)) 0).testBit (c % 32) = twin c:=by decide +kernel
theorem in5 (c:Nat) (seen:Sre.Seen):inSet code0 c 32 5 true seen = if (decide (c < 256) && (code0.getD (5 + (1 + c / 32)) 0).testBit (c % 32)) = true then .ok (true,seen.add (code0.getD (5 + 0) 0)) else .ok (false,(seen.add (code0.getD (5 + 0) 0)).add (code0.getD (14 + 0) 0)):=rfl
theorem in19 (c:Nat) (seen:Sre.Seen):inSet code0 c 32 19 true seen = if (decide (c < 256) && (code0.getD (19 + (1 + c / 32)) 0).testBit (c % 32)) = true then .ok (true,seen.add (code0.getD (19 + 0) 0)) else .ok (false,(seen.add (code0.getD (19 + 0) 0)).add (code0.getD (28 + 0) 0)):=rfl
theorem twin_at {c:Nat} {b:Bool} (h:c < 256 → b = twin c):(decide (c < 256) && b) = twin c:=by
  by_cases hc:c < 256
  · rw [decide_eq_true hc,Bool.true_and,h hc]
  · rw [decide_eq_false hc,Bool.false_and,twin_big (Nat.le_of_not_lt hc)]
theorem inSet5 (c:Nat) (seen:Sre.Seen):∃ seen',inSet code0 c 32 5 true seen = .ok (twin c,seen'):=by
  rw [in5,twin_at (twin_bits c)]
  cases twin c with
  | true => exact ⟨_,rfl⟩
  | false => exact ⟨_,rfl⟩
theorem inSet19 (c:Nat) (seen:Sre.Seen) (h:twin c = true):∃ seen',inSet code0 c 32 19 true seen = .ok (true,seen'):=by
  rw [in19,twin_at (twin_bits2 c),h]
  exact ⟨_,rfl⟩
noncomputable def hit (text:Array Nat) (lim:Nat):(fuel s:Nat) → Option Nat
  | 0,_ => none
  | fuel + 1,s => if s ≥ lim then none else if twin (text.getD s 0) then some s else hit text lim fuel (s + 1)
theorem admitted_hit (m:M) (hm:m.code = code0):∀ (fuel s:Nat) (seen:Sre.Seen),∃ seen',M.admitted m fuel s seen = .ok (hit m.text m.lim fuel s,seen')
  | 0,s,seen => ⟨seen,rfl⟩
  | fuel + 1,s,seen => by
    unfold M.admitted hit
    by_cases hs:s ≥ m.lim
    · simp only [hs,if_true]; exact ⟨_,rfl⟩
    · simp only [hs,if_false]
      obtain ⟨seen₁,e⟩:=inSet5 (m.text.getD s 0) seen
      rw [hm,show code0.size = 32 from rfl,e]
      cases ht:twin (m.text.getD s 0) with
      | true => simp only [if_true]; exact ⟨_,rfl⟩
      | false =>
        simp only [Bool.false_eq_true,if_false]
        obtain ⟨seen₂,e₂⟩:=admitted_hit m hm fuel (s + 1) seen₁
        exact ⟨seen₂,e₂⟩
noncomputable def Found (s:Nat) (m:M):Prop:=m.outcome.isSome = true ∧ m.outcome matches some .matched ∧ m.start = s ∧ m.handed = s + 1 ∧ m.marks = #[some s,some (s + 1)] ∧ m.lastmark = 1 ∧ m.lastindex = 1
noncomputable def Lost (m:M):Prop:=m.outcome matches some .failed
noncomputable def start0 (text:Array Nat) (pos lim:Nat) (must:Bool):M :=
  { code:=code0,text,lim,start:=pos,pc:=15,pos,handed:=pos,marks:=#[none,none],mustAdvance:=must,seen:=({}:Sre.Seen).add 14 }
theorem forSearch_eq (text:Array Nat) (pos lim:Nat) (must:Bool):forSearch code0 text 1 pos lim must =
    if (decide (pos > lim) || decide (lim - pos < 1)) = true then (start0 text pos lim must).say false else { start0 text pos lim must with lastStart:=lim }.attemptFrom pos true:=by rfl
theorem search_none (text:Array Nat) (pos lim:Nat) (must:Bool) (h:hit text lim (lim + 1 - pos) pos = none):Lost ((forSearch code0 text 1 pos lim must).runFor 4):=by
  rw [forSearch_eq]
  split
  · rfl
  · unfold M.attemptFrom
    generalize hm:({ start0 text pos lim must with lastStart:=lim }:M) = m
    have h1:m.code = code0:=by rw [← hm]; rfl
    have h2:m.text = text:=by rw [← hm]; rfl
    have h3:m.lim = lim:=by rw [← hm]; rfl
    have hf:m.hasFirstSet = true:=by unfold M.hasFirstSet; rw [h1]; rfl
    rw [hf,if_neg (by decide)]
    obtain ⟨seen',e⟩:=admitted_hit m h1 (m.lim + 1 - pos) pos m.seen
    rw [e,h2,h3,h]
    subst hm
    rfl
theorem hit_some {text:Array Nat} {lim:Nat}:∀ {fuel pos s:Nat},hit text lim fuel pos = some s → pos ≤ s ∧ s < lim ∧ twin (text.getD s 0) = true
  | 0,pos,s,h => by simp [hit] at h
  | fuel + 1,pos,s,h => by
    unfold hit at h
    split at h
    · cases h
    · split at h
      · cases h; exact ⟨Nat.le_refl _,by omega,by assumption⟩
      · have:=hit_some h; exact ⟨by omega,this.2⟩
noncomputable def fr0 (s:Nat):Sre.Frame:={ wait:=.nextStart,pc:=15,pos:=s,outermost:=true }
noncomputable def st (text:Array Nat) (lim s pc pos:Nat) (marks:Array (Option Nat)) (lm li:Int) (handed:Nat) (answer:Option Bool) (frames:List Sre.Frame) (weight:Nat) (seen:Sre.Seen):M :=
  { code:=code0,text,lim,start:=s,lastStart:=lim,mustAdvance:=false,pc,pos,handed,outermost:=true,marks,lastmark:=lm,lastindex:=li,frames,weight,answer,seen }
theorem run_succ {n:Nat} {m m':M} (h:m.outcome = none) (e:m.step = m'):m.runFor (n + 1) = m'.runFor n:=by
  show (if m.outcome.isSome = true then m else m.step.runFor n) = _
  rw [h,e]; rfl
theorem run_some (text:Array Nat) (lim s:Nat) (seen:Sre.Seen) (hs:s < lim) (ht:twin (text.getD s 0) = true) :
    ∃ seen',(st text lim s 15 s #[none,none] (-1) (-1) s none [fr0 s] 1 seen).runFor 4 = st text lim s 31 (s + 1) #[some s,some (s + 1)] 1 1 (s + 1) (some true) [fr0 s] 1 seen':=by
  have e1:(st text lim s 15 s #[none,none] (-1) (-1) s none [fr0 s] 1 seen).step = st text lim s 17 s #[some s,none] 0 (-1) s none [fr0 s] 1 (seen.add 17):=by rfl
  obtain ⟨seen₁,hi⟩:=inSet19 (text.getD s 0) ((seen.add 17).add 13) ht
  have e2:(st text lim s 17 s #[some s,none] 0 (-1) s none [fr0 s] 1 (seen.add 17)).step = st text lim s 29 (s + 1) #[some s,none] 0 (-1) s none [fr0 s] 1 seen₁:=by
    have ha:accepts code0 17 (text.getD s 0) ((seen.add 17).add 13) = .ok (true,seen₁):=by
      unfold accepts
      exact hi
    show (if s ≥ lim then (({ st text lim s 17 s #[some s,none] 0 (-1) s none [fr0 s] 1 (seen.add 17) with seen:=(seen.add 17).add 13 }:M).say false) else
      match accepts code0 17 (text.getD s 0) ((seen.add 17).add 13) with
      | .error why => ({ st text lim s 17 s #[some s,none] 0 (-1) s none [fr0 s] 1 (seen.add 17) with seen:=(seen.add 17).add 13 }:M).stick why
      | .ok (false,seen') => ({ st text lim s 17 s #[some s,none] 0 (-1) s none [fr0 s] 1 (seen.add 17) with seen:=seen' }:M).say false
      | .ok (true,seen') => { st text lim s 17 s #[some s,none] 0 (-1) s none [fr0 s] 1 (seen.add 17) with seen:=seen',pc:=17 + itemWidth code0 17,pos:=s + 1 }) = _
    rw [if_neg (by omega),ha]
    rfl
  have e3:(st text lim s 29 (s + 1) #[some s,none] 0 (-1) s none [fr0 s] 1 seen₁).step = st text lim s 31 (s + 1) #[some s,some (s + 1)] 1 1 s none [fr0 s] 1 (seen₁.add 17):=by
    show ({ st text lim s 29 (s + 1) #[some s,none] 0 (-1) s none [fr0 s] 1 seen₁ with seen:=seen₁.add 17,marks:=#[some s,some (s + 1)],lastmark:=1,lastindex:=(if (1:Nat) % 2 == 1 then (((1:Nat) / 2 + 1:Nat):Int) else (-1)),pc:=31 }:M) = _
    rw [show (if (1:Nat) % 2 == 1 then (((1:Nat) / 2 + 1:Nat):Int) else (-1)) = 1 by decide]
    rfl
  have e4:(st text lim s 31 (s + 1) #[some s,some (s + 1)] 1 1 s none [fr0 s] 1 (seen₁.add 17)).step = st text lim s 31 (s + 1) #[some s,some (s + 1)] 1 1 (s + 1) (some true) [fr0 s] 1 ((seen₁.add 17).add 1):=by rfl
  refine ⟨(seen₁.add 17).add 1,?_⟩
  rw [run_succ rfl e1,run_succ rfl e2,run_succ rfl e3,run_succ rfl e4]
  rfl
theorem search_some (text:Array Nat) (pos lim s:Nat) (must:Bool) (h:hit text lim (lim + 1 - pos) pos = some s) :
    ((forSearch code0 text 1 pos lim must).runFor 4).outcome = none ∧ Found s (((forSearch code0 text 1 pos lim must).runFor 4).runFor 4):=by
  obtain ⟨h1,h2,h3⟩:=hit_some h
  rw [forSearch_eq,if_neg (by simp; omega)]
  unfold M.attemptFrom
  generalize hm:({ start0 text pos lim must with lastStart:=lim }:M) = m
  have g1:m.code = code0:=by rw [← hm]; rfl
  have g2:m.text = text:=by rw [← hm]; rfl
  have g3:m.lim = lim:=by rw [← hm]; rfl
  have hf:m.hasFirstSet = true:=by unfold M.hasFirstSet; rw [g1]; rfl
  rw [hf,if_neg (by decide)]
  obtain ⟨seen',e⟩:=admitted_hit m g1 (m.lim + 1 - pos) pos m.seen
  rw [e,g2,g3,h]
  subst hm
  show (M.runFor 4 (M.attemptAt ({ ({ start0 text pos lim must with lastStart:=lim }:M) with mustAdvance:=false,seen:=seen' }:M) s true)).outcome = none ∧ Found s (M.runFor 4 (M.runFor 4 (M.attemptAt ({ ({ start0 text pos lim must with lastStart:=lim }:M) with mustAdvance:=false,seen:=seen' }:M) s true)))
  have ea:({ ({ start0 text pos lim must with lastStart:=lim }:M) with mustAdvance:=false,seen:=seen' }:M).attemptAt s true = st text lim s 15 s #[none,none] (-1) (-1) s none [fr0 s] 1 seen':=by rfl
  rw [ea]
  obtain ⟨seen'',er⟩:=run_some text lim s seen' h2 h3
  rw [er]
  exact ⟨rfl,rfl,rfl,rfl,rfl,rfl,rfl,rfl⟩
end Mine
end
noncomputable section
open PySem PySem.W PyProof.Rows PySem.Spec PySem.Calls
set_option Elab.async false
set_option maxRecDepth 100000
set_option linter.unusedVariables false
namespace Mine
open PySem.Sre
section
variable {M:Model} {A:Around} {E:Value → Shared → Prop} {s:Shared}
theorem wpAny_rules {l:List Nat} {f:Nat → String} {p:Nat → Bool} {Q:PUnit → Shared → Prop} (h:Q ⟨⟩ s) :
    wpAny M A (forIn l PUnit.unit (fun i ℓ => if p i = true then (do rule (f i); pure (ForInStep.yield PUnit.unit)) else pure (ForInStep.yield PUnit.unit))) Q E s:=by
  induction l with
  | nil => rw [List.forIn_nil]; exact wpAny_pure h
  | cons i l ih =>
    rw [List.forIn_cons]
    refine wpAny_bind ?_
    split
    · exact wpAny_bind (wpAny_rule (wpAny_pure ih))
    · exact wpAny_pure ih
theorem next_none {text:Array Nat} {pos lim:Nat} {must:Bool} {Q:Option Sre.M → Shared → Prop} (h:hit text lim (lim + 1 - pos) pos = none) (hQ:Q none s) :
    wpAny M A (Builtin.Re.reRunToEnd (forSearch code0 text 1 pos lim must)) Q E s:=by
  have hl:=search_none text pos lim must h
  unfold Builtin.Re.reRunToEnd
  refine wpAny_bind ?_
  rw [show (2 ^ 64:Nat) = (2 ^ 64 - 1) + 1 by decide]
  unfold Builtin.Re.reDrive
  generalize hm:(forSearch code0 text 1 pos lim must).runFor Builtin.Re.reTurnSteps = m at *
  have hm':(forSearch code0 text 1 pos lim must).runFor 4 = m:=hm
  rw [hm'] at hl
  dsimp only
  unfold Lost at hl
  have ho:m.outcome = some .failed:=by
    revert hl
    cases m.outcome with
    | none => intro h; exact absurd h (by simp)
    | some o => cases o <;> simp
  rw [ho,if_pos (by rfl)]
  refine wpAny_pure ?_
  refine wpAny_bind (wpAny_rules ?_)
  rw [ho]
  exact wpAny_pure hQ
theorem next_some {text:Array Nat} {pos lim s0:Nat} {must:Bool} {Q:Option Sre.M → Shared → Prop} (h:hit text lim (lim + 1 - pos) pos = some s0) (hQ:∀ m,Found s0 m → Q (some m) s) :
    wpAny M A (Builtin.Re.reRunToEnd (forSearch code0 text 1 pos lim must)) Q E s:=by
  obtain ⟨h1,h2⟩:=search_some text pos lim s0 must h
  unfold Builtin.Re.reRunToEnd
  refine wpAny_bind ?_
  rw [show (2 ^ 64:Nat) = (2 ^ 64 - 2) + 1 + 1 by decide]
  unfold Builtin.Re.reDrive
  dsimp only
  rw [show Builtin.Re.reTurnSteps = 4 from rfl,h1,if_neg (by simp)]
  refine wpAny_bind (wpAny_rule ?_)
  unfold Builtin.Re.reDrive
  dsimp only
  rw [show Builtin.Re.reTurnSteps = 4 from rfl]
  generalize hm:((forSearch code0 text 1 pos lim must).runFor 4).runFor 4 = m at *
  have ho:m.outcome = some .matched:=by
    have:=h2.2.1
    revert this
    cases m.outcome with
    | none => intro h; exact absurd h (by simp)
    | some o => cases o <;> simp
  rw [ho,if_pos (by rfl)]
  refine wpAny_pure ?_
  refine wpAny_bind (wpAny_rules ?_)
  rw [ho]
  exact wpAny_pure (hQ m h2)
end
end Mine
end
noncomputable section
open PySem PySem.W PyProof.Rows PySem.Spec PySem.Calls
set_option Elab.async false
set_option maxRecDepth 100000
set_option linter.unusedVariables false
namespace Mine
open PySem.Builtin.Re
theorem plainAttrs_pat:PlainAttrs "re.Pattern" :=
  ⟨⟨"object.__getattribute__",by rw [typeLookup_type,builtinLookup_eq_fast]; kernel_rfl,by decide +kernel⟩,by rw [typeLookup_type,builtinLookup_eq_fast]; kernel_rfl⟩
theorem plainAttrs_match:PlainAttrs "re.Match" :=
  ⟨⟨"object.__getattribute__",by rw [typeLookup_type,builtinLookup_eq_fast]; kernel_rfl,by decide +kernel⟩,by rw [typeLookup_type,builtinLookup_eq_fast]; kernel_rfl⟩
theorem slot_sub:PySem.Slot "re.Pattern" "sub" "re.Pattern.sub" :=
  .of (owner:="re.Pattern") (n:="sub") (by rw [typeLookup_type,builtinLookup_eq_fast]; kernel_rfl) (by decide +kernel) (by decide +kernel) (by decide +kernel)
    (by first | exact .inl (by decide +kernel) | exact .inr (by decide +kernel)) (by rw [isSubtype_type]; kernel_rfl)
theorem slot_group:PySem.Slot "re.Match" "group" "re.Match.group" :=
  .of (owner:="re.Match") (n:="group") (by rw [typeLookup_type,builtinLookup_eq_fast]; kernel_rfl) (by decide +kernel) (by decide +kernel) (by decide +kernel)
    (by first | exact .inl (by decide +kernel) | exact .inr (by decide +kernel)) (by rw [isSubtype_type]; kernel_rfl)
theorem type_sub:typeOf (.builtin "re.Pattern.sub") = pure (.type "method_descriptor"):=by show builtinType _ = _; rw [builtinType_eq_fast]; kernel_rfl
theorem type_group:typeOf (.builtin "re.Match.group") = pure (.type "method_descriptor"):=by show builtinType _ = _; rw [builtinType_eq_fast]; kernel_rfl
theorem entry_sub:entryFor table "re.Pattern.sub" = some Builtin.«re.Pattern.sub»:=entryFor_of_tree (by kernel_rfl)
theorem entry_subloop:entryFor table "re.Pattern.sub.loop" = some Builtin.«re.Pattern.sub.loop»:=entryFor_of_tree (by kernel_rfl)
theorem entry_group:entryFor table "re.Match.group" = some Builtin.«re.Match.group»:=entryFor_of_tree (by kernel_rfl)
theorem plain_subloop:plainId "re.Pattern.sub.loop" = true:=by decide +kernel
theorem args_sub (a b c:Value):argsOk "re.Pattern.sub" ⟨[a,b,c],[]⟩:=by unfold argsOk; kernel_rfl
theorem args_group (a b:Value):argsOk "re.Match.group" ⟨[a,b],[]⟩:=by unfold argsOk; kernel_rfl
theorem fun_called:typeLookup (.type "function") "__call__" = pure (some (.builtin "function.__call__")):=by rw [typeLookup_type,builtinLookup_eq_fast]; kernel_rfl
end Mine
end
noncomputable section
open PySem PySem.W PyProof.Rows PySem.Spec PySem.Calls
set_option Elab.async false
set_option maxRecDepth 100000
set_option linter.unusedVariables false
namespace Mine
open PySem.Builtin.Re
section
variable {prog:Program} {w:World} {A:Around} {E:Value → Shared → Prop} {s:Shared}
structure MatchAt (h:Heap) (a:Addr) (x:Str) (xt:Tok) (b:Nat):Prop where
  ex:∃ o T p q r fs,h.get? a = some o ∧ o.cls = .type "re.Match" ∧ o.dict = none ∧ o.data = .fields #[.str x xt,p,q,r,fs,.ref T] ∧
    ∃ oT n t1 t2 v0 v1,h.get? T = some oT ∧ oT.data = .seq #[v0,v1,.int b t1,.int (b + 1:Nat) t2] n
theorem call_group {a:Addr} {x:Str} {xt it:Tok} {b:Nat} {Q:Value → Shared → Prop} (h:MatchAt s.heap a x xt b) (hQ:∀ t k,Q (.str ⟨x.cps.extract b (b + 1)⟩ t) { s with toks:=k }) :
    wpAny (model prog w) A (call (.builtin "re.Match.group") [.ref a,.int 1 it]) Q E s:=by
  obtain ⟨o,T,p,q,r,fs,ho,hc,hdn,hd,oT,n,t1,t2,v0,v1,hT,hTd⟩:=h
  refine wpAny_call_entry slot_group ⟨o,ho,hc⟩ entry_group ?_ (args_group _ _)
  unfold Builtin.«re.Match.group»
  refine wpAny_bind (wpAny_of_eq (a:=()) rfl ?_)
  dsimp only
  unfold reFound
  refine wpAny_bind (wpAny_bind (wpAny_fieldsOf ho hd ?_))
  unfold reRawItems
  refine wpAny_bind (wpAny_bind ?_)
  refine wpAny_seqItems (a:=T) hT hTd ?_
  refine wpAny_pure (wpAny_pure ?_)
  refine wpAny_bind ?_
  unfold reGroupNumber
  refine wpAny_bind ?_
  refine wpAny_of_eq (a:=some (1:Int)) rfl ?_
  dsimp only
  rw [if_pos (by rfl)]
  refine wpAny_bind (wpAny_of_eq (a:=(1:Int)) rfl ?_)
  refine wpAny_ite (KBy.ite_no (by simp) ?_)
  refine wpAny_pure ?_
  refine wpAny_bind ?_
  unfold reGroupText
  refine wpAny_ite (KBy.ite_no (by simp [reRawOf]; omega) ?_)
  refine wpAny_bind ?_
  unfold reTextOf
  refine wpAny_bind (wpAny_of_eq (a:=some x) rfl ?_)
  refine wpAny_pure ?_
  have fin:∀ b' e':Nat,b' = b → e' = b + 1 → wpAny (model prog w) A.in1 (reSlice x.cps 0 b' e') (fun a s' => wpAny (model prog w) A.in1 (ret a) (fun fin s' => ∃ v,fin = Fin.done (Flow.ret v) ∧ Q v s') E s') E s:=by
    intro b' e' e1 e2
    subst e1
    subst e2
    refine wpAny_mkStr (wpAny_pure ⟨_,rfl,hQ _ _⟩) ?_
    have:(x.cps.extract b' (b' + 1)).size ≤ 1:=by simp; omega
    exact Nat.le_trans this (by decide)
  exact fin _ _ (by simp [reRawOf]) (by simp [reRawOf])
theorem lam_body {env:Env} {a:Addr} {x:Str} {xt:Tok} {b:Nat} {m:Str → Option Value} {p1 p2 p3 p4 p5 p6 p7 p8:Pos} {k1 k2 k3:Nat} {Q:Value → Shared → Prop}
    (hkind:env.scope.kind = .function) (hk:env.kindOf (nm "_m") = some .local) (hn:s.heap.Ns env.locals m) (hm:m (nm "_m") = some (.ref a)) (h:MatchAt s.heap a x xt b) (hb:b < x.cps.size)
    (hl:(p3.endLine == p5.line) = true)
    (hQ:∀ t k,Q (.str ⟨#[92] ++ x.cps.extract b (b + 1)⟩ t) { s with toks:=k }) :
    wpAny (model prog w) A (eval (.BinOp (.Constant (.str (Str.ofString "\\")) k1 p1) .Add (.BoolOp .Or [.Call (.Attribute (.Name (nm "_m") p2) (Str.ofString "group") p3) [.Constant (.int 1) k2 p4] [] p5,.Constant (.str (Str.ofString "")) k3 p6] p7) p8) env) Q E s:=by
  refine (wp_BinOp (W:=⟨prog,w,s.heap,0,s.os,fun ℓ ℓ => ⟨#[]⟩⟩) ?_).out
  refine ⟨wpAny_Constant_str ?_⟩
  refine wp_Or2 ?_
  constructor
  refine wpAny_Call_method_lateS (by rfl) (by rfl) hl ?_
  refine wpAny_Name (wpAny_loadName_local hkind hk hn hm ?_) (by decide)
  obtain ⟨o,T,p,q,r,fs,ho,hc,hdn,hd,hrest⟩:=h.ex
  refine ⟨"re.Match","re.Match.group",plainAttrs_match,slot_group,type_group,⟨o,ho,hc⟩,fun a' e => ⟨o,by cases e; exact ho,hdn⟩,?_⟩
  refine Calls.callWith_builtin (by rfl) (Calls.evalArgs_plain (x:=eval (.Constant (.int 1) k2 p4) env) (rest:=[]) ?_)
  refine Calls.spliced_cons (wpAny_Constant_int ?_)
  refine Calls.spliced_nil ?_
  refine call_group (b:=b) h fun t k => ?_
  have hsz:(x.cps.extract b (b + 1)).size = 1:=by simp; omega
  constructor
  refine SBL.truthy (by show ((x.cps.extract b (b + 1)).size:Int) < _; rw [hsz]; decide) ?_
  have e:(((⟨x.cps.extract b (b + 1)⟩:Str).length:Int) != 0) = true:=by
    show (((x.cps.extract b (b + 1)).size:Int) != 0) = true
    rw [hsz]; rfl
  rw [e,if_pos rfl]
  constructor
  have hq:∀ t' tk,Q (.str (Str.ofString "\\" ++ (⟨x.cps.extract b (b + 1)⟩:Str)) t') { s with toks:=tk }:=fun t' tk => by
    have e:(Str.ofString "\\" ++ (⟨x.cps.extract b (b + 1)⟩:Str)) = ⟨#[92] ++ x.cps.extract b (b + 1)⟩:=rfl
    rw [e]; exact hQ _ _
  have hz:(Str.ofString "\\").length + (⟨x.cps.extract b (b + 1)⟩:Str).length ≤ sizeLine:=by
    show 1 + (x.cps.extract b (b + 1)).size ≤ sizeLine
    rw [hsz]; decide
  with_reducible exact add_str hq hz
end
end Mine
end
noncomputable section
open PySem PySem.W PyProof.Rows PySem.Spec PySem.Calls
set_option Elab.async false
set_option maxRecDepth 100000
set_option linter.unusedVariables false
namespace Mine
open PySem.Builtin.Re
noncomputable def lamParams (p:Pos):Arguments:={ posonlyargs:=[],args:=[{ arg:=nm "_m",annotation:=none,pos:=p }],vararg:=none,kwonlyargs:=[],kw_defaults:=[],kwarg:=none,defaults:=[] }
noncomputable def lamBody (p1 p2 p3 p4 p5 p6 p7 p8:Pos):PySem.Expr:=.BinOp (.Constant (.str (Str.ofString "\\")) 0 p1) .Add (.BoolOp .Or [.Call (.Attribute (.Name (nm "_m") p2) (Str.ofString "group") p3) [.Constant (.int 1) 0 p4] [] p5,.Constant (.str (Str.ofString "")) 0 p6] p7) p8
noncomputable def lamScope:Scope:={ kind:=.function,names:=[(nm "_m",.local)],isGenerator:=false,isCoroutine:=false,more:=[] }
structure LamAt (h:Heap) (f:Addr):Prop where
  ex:∃ qual pm cv ctv p p1 p2 p3 p4 p5 p6 p7 p8,h.get? f = some { cls:=.type "function",data:=.func (kla_fn "<lambda>" qual (lamParams p) (lamBody p1 p2 p3 p4 p5 p6 p7 p8) lamScope [] pm cv ctv) } ∧ h.CodeRec cv qual ∧ (p3.endLine == p5.line) = true
theorem LamAt.keeps {h h':Heap} {f:Addr} (x:LamAt h f) (k:∀ b o,h.get? b = some o → h'.get? b = some o):LamAt h' f:=by
  obtain ⟨qual,pm,cv,ctv,p,p1,p2,p3,p4,p5,p6,p7,p8,h1,h2,h3⟩:=x
  exact ⟨qual,pm,cv,ctv,p,p1,p2,p3,p4,p5,p6,p7,p8,k _ _ h1,h2.keeps k,h3⟩
theorem MatchAt.keeps {h h':Heap} {a:Addr} {x:Str} {xt:Tok} {b:Nat} (m:MatchAt h a x xt b) (k:∀ b o,h.get? b = some o → h'.get? b = some o):MatchAt h' a x xt b:=by
  obtain ⟨o,T,p,q,r,fs,ho,hc,hdn,hd,oT,n,t1,t2,v0,v1,hT,hTd⟩:=m
  exact ⟨o,T,p,q,r,fs,k _ _ ho,hc,hdn,hd,oT,n,t1,t2,v0,v1,k _ _ hT,hTd⟩
section
variable {prog:Program} {w:World} {A:Around} {E:Value → Shared → Prop} {s:Shared}
theorem call_lam {f a:Addr} {x:Str} {xt:Tok} {b:Nat} {Q:Value → Shared → Prop} (hroom:A.depth < recursionLimit) (hl:s.heap.NoLimit) (L:LamAt s.heap f) (h:MatchAt s.heap a x xt b) (hb:b < x.cps.size)
    (hQ:∀ t s',Ext s s' → Q (.str ⟨#[92] ++ x.cps.extract b (b + 1)⟩ t) s'):wpAny (model prog w) A (call (.ref f) [.ref a]) Q E s:=by
  obtain ⟨qual,pm,cv,ctv,p,p1,p2,p3,p4,p5,p6,p7,p8,h1,h2,h3⟩:=L
  refine wpAny_call ?_
  refine kla_callFunE hroom h1 rfl rfl rfl rfl h2 ?_
  refine wpAny_of_eq (a:=[(nm "_m",Value.ref a)]) rfl ?_
  refine wpAny_newFunctionEnv (fun y (hy:y ∈ lamScope.names) => by cases hy with | head => exact (fun e => nomatch e) | tail _ hy => cases hy) (fun y hy => by cases hy with | head => rfl | tail _ hy => cases hy) fun h' hns hs => ?_
  have hk:∀ b o,s.heap.get? b = some o → h'.get? b = some o:=fun b o e => hs.extBut b o (Nat.ne_of_lt (Heap.lt_size e)) (Heap.get?_push_of_some _ e)
  refine ⟨hl.keeps hk,kla_codeExpr ?_⟩
  refine lam_body (xt:=xt) rfl rfl hns rfl (h.keeps hk) hb h3 fun t k => ?_
  exact hQ _ _ (.mk' hk)
end
end Mine
end
noncomputable section
open PySem PySem.W PyProof.Rows PySem.Spec PySem.Calls
set_option Elab.async false
set_option maxRecDepth 100000
set_option linter.unusedVariables false
namespace Mine
open PySem.Builtin.Re
structure PatAt (h:Heap) (pat:Addr):Prop where
  ex:∃ o ct v0 v1 v3 v4 t t',h.get? pat = some o ∧ o.cls = .type "re.Pattern" ∧ o.dict = none ∧ o.data = .fields #[v0,v1,.int 1 t,v3,v4,.ref ct,.int 0 t'] ∧
    ∃ oc xs n,h.get? ct = some oc ∧ oc.cls = .type "tuple" ∧ oc.data = .seq xs n ∧ (xs.map reRawOf).map (·.toNat) = code0
theorem PatAt.but {h h':Heap} {pat D:Addr} {its:Array Value} (x:PatAt h pat) (l:PlainL h D its) (k:∀ b o,b ≠ D → h.get? b = some o → h'.get? b = some o):PatAt h' pat:=by
  obtain ⟨o,ct,v0,v1,v3,v4,t,t',h1,h2,h3,h4,oc,xs,n,g1,g2,g3,g4⟩:=x
  obtain ⟨ol,m,l1,l2,l3,l4⟩:=l
  refine ⟨o,ct,v0,v1,v3,v4,t,t',k _ _ ?_ h1,h2,h3,h4,oc,xs,n,k _ _ ?_ g1,g2,g3,g4⟩
  · rintro rfl; rw [l1] at h1; cases h1; rw [l4] at h4; cases h4
  · rintro rfl; rw [l1] at g1; cases g1; rw [l2] at g2; exact absurd g2 (by simp)
theorem LamAt.but {h h':Heap} {f D:Addr} {its:Array Value} (x:LamAt h f) (l:PlainL h D its) (k:∀ b o,b ≠ D → h.get? b = some o → h'.get? b = some o):LamAt h' f:=by
  obtain ⟨qual,pm,cv,ctv,p,p1,p2,p3,p4,p5,p6,p7,p8,h1,h2,h3⟩:=x
  obtain ⟨ol,m,l1,l2,l3,l4⟩:=l
  obtain ⟨c,oc,vs,t,rfl,g1,g2,g3⟩:=h2
  refine ⟨qual,pm,.ref c,ctv,p,p1,p2,p3,p4,p5,p6,p7,p8,k _ _ ?_ h1,⟨c,oc,vs,t,rfl,k _ _ ?_ g1,g2,g3⟩,h3⟩
  · rintro rfl; rw [l1] at h1; cases h1; exact absurd l2 (by simp)
  · rintro rfl; rw [l1] at g1; cases g1; rw [l4] at g2; cases g2
structure SubSt (h:Heap) (pat f D:Addr) (its:Array Value):Prop where
  pat:PatAt h pat
  lam:LamAt h f
  nl:h.NoLimit
  list:PlainL h D its
  ne:cStatics ≠ D
theorem SubSt.keeps {h h':Heap} {pat f D:Addr} {its:Array Value} (x:SubSt h pat f D its) (k:∀ b o,h.get? b = some o → h'.get? b = some o):SubSt h' pat f D its :=
  ⟨x.pat.but x.list fun b o ℓ e => k b o e,x.lam.keeps k,x.nl.keeps k,x.list.keeps k,x.ne⟩
section
variable {M:Model} {A:Around} {E:Value → Shared → Prop} {s:Shared}
theorem push_D {pat f D:Addr} {its:Array Value} {v:Value} {Q:Unit → Shared → Prop} (x:SubSt s.heap pat f D its) (hz:its.size ≤ 10000)
    (h:∀ h',SubSt h' pat f D (its.push v) → Heap.ExtBut D s.heap h' → Q () { s with heap:=h' }):wpAny M A (updateSeq D (·.push v)) Q E s:=by
  obtain ⟨o,n,h1,h2,h3,h4⟩:=x.list
  refine wpAny_updateSeq h1 h4 ?_ (by have:=sizeLine_ge; omega) (by have:=sizeLine_ge; simp; omega)
  have hs:Heap.SameBut D s.heap (s.heap.update D (Obj.mapSeq (·.push v))):=Heap.SameBut.update _ _ _
  have hl:PlainL (s.heap.update D (Obj.mapSeq (·.push v))) D (its.push v):=by
    obtain ⟨c,d,dt,sl⟩:=o
    simp only at h2 h3 h4
    subst h2 h3 h4
    exact ⟨_,_,Heap.get?_update_self _ h1 rfl,rfl,rfl,rfl⟩
  have k:∀ b o,b ≠ D → s.heap.get? b = some o → (s.heap.update D (Obj.mapSeq (·.push v))).get? b = some o:=fun b o hb e => (hs.2 b hb).trans e
  exact h _ ⟨x.pat.but x.list k,x.lam.but x.list k,x.nl.sameBut hs x.ne,hl,x.ne⟩ fun b o hb e => k b o hb e
theorem whole_target {pat:Addr} {x:Str} {t:Tok} {Q:ReTarget → Shared → Prop} (P:PatAt s.heap pat)
    (h:Q { pattern:=.ref pat,string:=.str x t,code:=code0,text:=x.cps,kind:=0,groups:=1,pos:=0,lim:=x.cps.size } s):wpAny M A (reWholeTarget (.ref pat) (.str x t)) Q E s:=by
  obtain ⟨o,ct,v0,v1,v3,v4,t,t',h1,h2,h3,h4,oc,xs,n,g1,g2,g3,g4⟩:=P
  unfold reWholeTarget
  refine wpAny_bind (wpAny_fieldsOf h1 h4 ?_)
  unfold reTextOf
  refine wpAny_bind (wpAny_bind (wpAny_of_eq (a:=some x) rfl (wpAny_pure ?_)))
  dsimp only
  refine wpAny_ite (KBy.ite_no (by simp) ?_)
  refine wpAny_ite (KBy.ite_no (by simp [reRawNat]) ?_)
  unfold reNoCollectionInside
  refine wpAny_bind (wpAny_ite (KBy.ite_no (by simp) (wpAny_pure ?_)))
  unfold reRawItems
  refine wpAny_bind (wpAny_bind ?_)
  refine wpAny_seqItems (a:=ct) g1 g3 ?_
  refine wpAny_pure ?_
  refine wpAny_pure ?_
  have e:((((some xs:Option (Array Value)).getD #[]).map reRawOf).map (·.toNat)) = code0:=g4
  rw [e]
  exact h
theorem new_match {pat:Addr} {x:Str} {t:Tok} {m:Sre.M} {b lim:Nat} {Q:Value → Shared → Prop} (F:Found b m)
    (h:∀ h' a,MatchAt h' a x t b → (∀ b o,s.heap.get? b = some o → h'.get? b = some o) → Q (.ref a) { s with heap:=h' }):wpAny M A (reNewMatch (.ref pat) (.str x t) 1 0 lim m) Q E s:=by
  obtain ⟨_,_,hs,hh,hm,hl,hi⟩:=F
  unfold reNewMatch
  rw [hm,hl,hs,hh]
  generalize hsp:List.flatMap _ (List.range 1) = sp
  have e:sp = [rawInt b,rawInt (b + 1:Nat)]:=by rw [← hsp]; rfl
  subst e
  refine wpAny_ite (KBy.ite_no (by simp [List.range,List.range.loop]) ?_)
  refine wpAny_bind ?_
  refine wpAny_newTuple ?_ (by simp; decide)
  refine wpAny_newObj_type ?_
  refine h _ _ ?_ fun b o e => Heap.get?_push_of_some _ (Heap.get?_push_of_some _ e)
  refine ⟨_,s.heap.objs.size,_,_,_,_,Heap.get?_push_size _ rfl,rfl,rfl,rfl,_,0,0,0,rawInt b,rawInt (b + 1:Nat),Heap.get?_push_of_some _ (Heap.get?_push_size _ rfl),?_⟩
  rfl
end
end Mine
end
noncomputable section
open PySem PySem.W PyProof.Rows PySem.Spec PySem.Calls
set_option Elab.async false
set_option maxRecDepth 100000
set_option linter.unusedVariables false
namespace Mine
open PySem.Builtin.Re
noncomputable def twinSub (l:List Nat):List Nat:=l.flatMap fun c => if twin c then [92,c] else [c]
theorem twinSub_append (a b:List Nat):twinSub (a ++ b) = twinSub a ++ twinSub b:=List.flatMap_append ..
theorem twinSub_free:∀ l:List Nat,(∀ c ∈ l,twin c = false) → twinSub l = l
  | [],_ => rfl
  | c :: r,h => by
    have ih:=twinSub_free r fun c hc => h c (.tail _ hc)
    have:twinSub (c :: r) = (if twin c then [92,c] else [c]) ++ twinSub r:=rfl
    rw [this,h c (.head _),ih]; rfl
set_option tactic.hygienic true in
theorem hit_none' {text:Array Nat} {lim:Nat}:∀ {fuel pos:Nat},hit text lim fuel pos = none → lim < pos + fuel → ∀ i,pos ≤ i → i < lim → twin (text.getD i 0) = false
  | 0,pos,h,hf,i,h1,h2 => by omega
  | fuel + 1,pos,h,hf,i,h1,h2 => by
    unfold hit at h
    rw [if_neg (by omega)] at h
    split at h
    · cases h
    · rename_i hq
      by_cases e:i = pos
      · subst e; simpa using hq
      · exact hit_none' h (by omega) i (by omega) h2
set_option tactic.hygienic true in
theorem hit_before {text:Array Nat} {lim:Nat}:∀ {fuel pos s:Nat},hit text lim fuel pos = some s → ∀ i,pos ≤ i → i < s → twin (text.getD i 0) = false
  | 0,pos,s,h,i,h1,h2 => by simp [hit] at h
  | fuel + 1,pos,s,h,i,h1,h2 => by
    unfold hit at h
    split at h
    · cases h
    · split at h
      · cases h; omega
      · rename_i hq
        by_cases e:i = pos
        · subst e; simpa using hq
        · exact hit_before h i (by omega) h2
theorem slice_free (x:Str) (a b:Nat) (hb:b ≤ x.cps.size) (h:∀ i,a ≤ i → i < b → twin (x.cps.getD i 0) = false):∀ c ∈ (x.cps.extract a b).toList,twin c = false:=by
  intro c hc
  rw [Array.toList_extract] at hc
  obtain ⟨i,hi,e⟩:=List.getElem_of_mem hc
  simp at hi e
  have:=h (a + i) (by omega) (by omega)
  rw [← e]
  simpa [Array.getD,show a + i < x.cps.size by omega] using this
structure OutS (D:Addr) (s s':Shared):Prop where
  ex:∃ h tk,s' = { s with heap:=h,toks:=tk } ∧ Heap.ExtBut D s.heap h
theorem OutS.refl (D:Addr) (s:Shared):OutS D s s:=⟨_,_,rfl,fun ℓ ℓ ℓ e => e⟩
theorem OutS.mk' {D:Addr} {s:Shared} {h:Heap} {tk:Nat} (k:Heap.ExtBut D s.heap h):OutS D s { s with heap:=h,toks:=tk }:=⟨_,_,rfl,k⟩
theorem OutS.trans {D:Addr} {s s' s'':Shared} (x:OutS D s s') (y:OutS D s' s''):OutS D s s'':=by
  obtain ⟨h,tk,rfl,k⟩:=x
  obtain ⟨h',tk',rfl,k'⟩:=y
  exact ⟨h',tk',rfl,fun b o hb e => k' b o hb (k b o hb e)⟩
theorem OutS.ext {D:Addr} {s s':Shared} (x:Ext s s'):OutS D s s':=by
  obtain ⟨⟨h,tk,rfl⟩,k⟩:=x
  exact ⟨h,tk,rfl,fun b o ℓ e => k b o e⟩
theorem strs_snoc {vs:List Value} {zs:List Str} (h:StrsAre vs zs) (z:Str) (t:Tok):StrsAre (vs ++ [.str z t]) (zs ++ [z]):=by
  induction h with
  | nil => exact .cons z t .nil
  | cons y u _ ih => exact .cons y u ih
noncomputable def flatS (zs:List Str):List Nat:=zs.flatMap (·.cps.toList)
theorem joinL_nil:∀ (ys:List (List Nat)),joinL [] ys = ys.flatMap id
  | [] => rfl
  | y :: r => by simp [joinL,List.flatMap_def]
section
variable {prog:Program} {w:World} {A:Around} {E:Value → Shared → Prop} {s:Shared}
theorem wpT {α:Type} {c:Prop} [Decidable c] {a b:Sem α} {Q:α → Shared → Prop} (hc:c) (h:wpAny (model prog w) A a Q E s):wpAny (model prog w) A (if c then a else b) Q E s:=by rw [if_pos hc]; exact h
theorem wpF {α:Type} {c:Prop} [Decidable c] {a b:Sem α} {Q:α → Shared → Prop} (hc:¬ c) (h:wpAny (model prog w) A b Q E s):wpAny (model prog w) A (if c then a else b) Q E s:=by rw [if_neg hc]; exact h
theorem wp_slice {x:Str} {b e:Nat} {Q:Value → Shared → Prop} (hz:x.cps.size ≤ 1000) (h:∀ t k,Q (.str ⟨x.cps.extract b e⟩ t) { s with toks:=k }):wpAny (model prog w) A (reSlice x.cps 0 b e) Q E s:=by
  refine wpAny_mkStr (h _ _) ?_
  have:(x.cps.extract b e).size ≤ x.cps.size:=by simp; omega
  have:=sizeLine_ge
  exact Nat.le_trans (by assumption) (by omega)
noncomputable def tailSem (pat f D:Addr) (x:Str) (t:Tok) (n:Int) (m:Sre.M):Sem Fin:=do
  let found ← reNewMatch (Value.ref pat) (Value.str x t) 1 0 x.cps.size m
  let item ← holding [found] (if ((1:Int) == 1) = true then call (Value.ref f) [found] else do reExpand (Value.ref f) (← reFound found))
  if (item != Value.none) = true then updateSeq D fun x => x.push item
  again (Code.builtin "re.Pattern.sub.loop" { pos:=[Value.ref pat,Value.str x t,Value.ref f,Value.int 1 0,Value.int 0 0,Value.int (n + 1) 0,Value.int (↑m.handed) 0,Value.int (↑m.handed) 0,Value.bool (m.handed == m.start),Value.ref D,Value.bool false] })
noncomputable def endSem (D:Addr) (x:Str) (n:Int):Sem Fin:=do
  let joiner ← reSlice x.cps 0 0 0
  let text ← if ((← seqItems? (Value.ref D)).getD #[]).isEmpty then pure joiner else call (.builtin (if (0 == 0) = true then "str.join" else "bytes.join")) [joiner,.ref D]
  if false = true then ret (← holding [text] do newTuple [text,← mkInt n]) else ret text
theorem loop_tail {pat f D:Addr} {x:Str} {t:Tok} {n:Int} {m:Sre.M} {s0:Nat} {its:Array Value} {Q:Fin → Shared → Prop} (hx:x.cps.size ≤ 1000) (hroom:A.depth < recursionLimit) (F:Found s0 m) (hs0:s0 < x.cps.size) (S:SubSt s.heap pat f D its) (hi:its.size ≤ 10000)
    (h:∀ tk s',OutS D s s' → SubSt s'.heap pat f D (its.push (.str ⟨#[92] ++ x.cps.extract s0 (s0 + 1)⟩ tk)) →
      Q (.again (Code.builtin "re.Pattern.sub.loop" { pos:=[Value.ref pat,Value.str x t,Value.ref f,Value.int 1 0,Value.int 0 0,Value.int (n + 1) 0,Value.int (s0 + 1:Nat) 0,Value.int (s0 + 1:Nat) 0,Value.bool false,Value.ref D,Value.bool false] })) s') :
    wpAny (model prog w) A (tailSem pat f D x t n m) Q E s:=by
  unfold tailSem
  refine wpAny_bind (new_match F fun h' a hm hk => ?_)
  have S1:SubSt h' pat f D its:=S.keeps hk
  refine wpAny_bind (wpAny_holding ?_)
  rw [if_pos (by rfl)]
  refine call_lam hroom S1.nl S1.lam hm hs0 fun tk s' hx' => ?_
  have S2:=S1.keeps hx'.keep
  have hne:((Value.str ⟨#[92] ++ x.cps.extract s0 (s0 + 1)⟩ tk != Value.none) = true):=rfl
  have o1:OutS D s s':=(OutS.mk' (fun b o ℓ e => hk b o e)).trans (.ext hx')
  refine wpT hne ?_
  refine wpAny_bind (push_D S2 hi fun h'' S3 k3 => ?_)
  obtain ⟨_,_,hs,hh,_,_,_⟩:=F
  rw [hs,hh,show (s0 + 1 == s0) = false by simp]
  exact wpAny_pure (h tk _ (o1.trans (.mk' k3)) S3)
theorem loop_end {D:Addr} {x:Str} {n:Int} {its:Array Value} {zs:List Str} {Q:Fin → Shared → Prop} (hx:x.cps.size ≤ 1000) (l:PlainL s.heap D its) (hz:StrsAre its.toList zs) (hsum:(zs.map (·.length)).sum ≤ 10000)
    (h:∀ y tk k,y.cps.toList = flatS zs → Q (.done (.ret (.str y tk))) { s with toks:=k }):wpAny (model prog w) A (endSem D x n) Q E s:=by
  unfold endSem
  refine wpAny_bind (wp_slice hx fun t1 k1 => ?_)
  obtain ⟨o,m,h1,h2,h3,h4⟩:=l
  refine wpAny_bind ?_
  refine wpAny_seqItems (a:=D) h1 h4 ?_
  have e0:(⟨x.cps.extract 0 0⟩:Str) = ⟨#[]⟩:=by simp
  rw [e0]
  by_cases hq:(((some its:Option (Array Value)).getD #[]).isEmpty) = true
  · refine wpT hq ?_
    refine wpAny_bind ?_
    refine wpAny_pure ?_
    have hq':its = #[]:=by simpa using hq
    subst hq'
    cases hz
    exact wpAny_pure (h _ _ _ rfl)
  · refine wpF hq ?_
    refine wpAny_bind ?_
    refine PyProof.Rows.join_list (x:=⟨#[]⟩) (items:=its) (ys:=zs) ⟨o,h1,h2,m,h4⟩ hz ?_ fun t' k => ?_
    · show _ + zs.length * 0 ≤ _; omega
    · refine wpAny_pure (h _ _ _ ?_)
      rw [join_list_eq]
      show joinL [] _ = _
      rw [joinL_nil]
      unfold flatS
      rw [List.flatMap_map]; rfl
theorem drop_split (l:List Nat) (p q:Nat) (hpq:p ≤ q):l.drop p = (l.drop p).take (q - p) ++ l.drop q:=by
  have:=List.take_append_drop (q - p) (l.drop p)
  rw [List.drop_drop,show p + (q - p) = q by omega] at this
  exact this.symm
theorem sl1 {n p s k:Nat} (hk:n - p = k) (h1:p ≤ s) (h2:s < n):n - (s + 1) < k:=by omega
theorem sl3 {a p n:Nat} (h:a ≤ 2 * p) (hp:p ≤ n) (hx:n ≤ 1000):a + (n - p) ≤ 10000:=by omega
theorem sub_loop {pat f D:Addr} {x:Str} {t:Tok} {R:Result → Shared → Prop} (hx:x.cps.size ≤ 1000) (hroom:A.in1.depth < recursionLimit):∀ (k p:Nat) (n:Int) (its:Array Value) (zs:List Str) (s:Shared),x.cps.size - p = k → p ≤ x.cps.size →
    SubSt s.heap pat f D its → StrsAre its.toList zs → its.size ≤ 2 * p → (zs.map (·.length)).sum ≤ 2 * p →
    (∀ y t' s',OutS D s s' → y.cps.toList = flatS zs ++ twinSub (x.cps.toList.drop p) → R (.ok (.ret (.str y t'))) s') →
    codeAny (model prog w) A (.builtin "re.Pattern.sub.loop" ⟨[.ref pat,.str x t,.ref f,rawInt 1,rawInt 0,rawInt n,rawInt p,rawInt p,.bool false,.ref D,.bool false],[]⟩) R s:=by
  intro k
  induction k using Nat.strongRecOn with
  | _ k ih =>
    intro p n its zs s hk hp S hz hi hsum hR
    refine codeAny_builtin entry_subloop ?_
    rw [Around.under_plainId plain_subloop _]
    unfold Builtin.«re.Pattern.sub.loop»
    dsimp only [rawInt]
    refine wpAny_bind (whole_target S.pat ?_)
    dsimp only
    refine wpF (by simp) ?_
    refine wpAny_bind ?_
    refine wpF (by simp) ?_
    have hlen:x.cps.toList.length = x.cps.size:=by simp
    cases hh:hit x.cps x.cps.size (x.cps.size + 1 - p) p with
    | none =>
      refine next_none hh ?_
      have hfree:∀ c ∈ x.cps.toList.drop p,twin c = false:=by
        have:=slice_free x p x.cps.size (Nat.le_refl _) (hit_none' hh (by omega))
        rw [Array.toList_extract] at this
        intro c hc
        refine this c ?_
        rw [List.extract_eq_take_drop]
        rw [List.take_of_length_le (by simp)]
        exact hc
      dsimp only
      have hsub:=twinSub_free _ hfree
      have finish:∀ (its':Array Value) (zs':List Str) (s₁:Shared),OutS D s s₁ → SubSt s₁.heap pat f D its' → StrsAre its'.toList zs' → (zs'.map (·.length)).sum ≤ 10000 → flatS zs' = flatS zs ++ x.cps.toList.drop p →
          wpAny (model prog w) A.in1 (endSem D x n) (fun fin s' => match fin with | .done f => R (.ok f) s' | .again c' => c'.quiet = true ∧ codeAny (model prog w) A c' R s') (fun e s' => R (.error e) s') s₁:=by
        intro its' zs' s₁ ho S' hz' hs' he
        refine loop_end hx S'.list hz' hs' fun y tk k hy => ?_
        exact hR _ _ _ (ho.trans (.mk' fun ℓ ℓ ℓ e => e)) (by rw [hy,he,hsub])
      by_cases hlt:(p:Int).toNat < x.cps.size
      · refine wpT hlt ?_
        have hlt':p < x.cps.size:=by simpa using hlt
        refine wpAny_bind (wp_slice hx fun t1 k1 => ?_)
        refine wpAny_bind (push_D (s:={ s with toks:=k1 }) S (by omega) fun h' S' hb => ?_)
        refine finish _ (zs ++ [⟨x.cps.extract p x.cps.size⟩]) _ (.mk' hb) S' ?_ ?_ ?_
        · rw [Array.toList_push]; exact strs_snoc hz _ _
        · rw [List.map_append,List.sum_append]
          have:([(⟨x.cps.extract p x.cps.size⟩:Str)].map (·.length)).sum = x.cps.size - p:=by simp [Str.length]
          rw [this]; exact sl3 hsum hp hx
        · unfold flatS
          rw [List.flatMap_append]
          congr 1
          simp only [List.flatMap_cons,List.flatMap_nil,List.append_nil,Array.toList_extract,List.extract_eq_take_drop]
          rw [List.take_of_length_le (by simp)]
      · refine wpF hlt ?_
        have hge:x.cps.size ≤ p:=by simpa using hlt
        refine finish its zs s (.refl _ _) S hz (by omega) ?_
        rw [List.drop_eq_nil_of_le (by omega),List.append_nil]
    | some s0 =>
      refine next_some hh fun m F => ?_
      obtain ⟨h1,h2,h3⟩:=hit_some hh
      have hfree:=slice_free x p s0 (by omega) (hit_before hh)
      have hms:m.start = s0:=F.2.2.1
      dsimp only
      have hdrop:twinSub (x.cps.toList.drop p) = (x.cps.extract p s0).toList ++ ([92,x.cps.getD s0 0] ++ twinSub (x.cps.toList.drop (s0 + 1))):=by
        rw [drop_split x.cps.toList p s0 h1,twinSub_append]
        have e1:(x.cps.toList.drop p).take (s0 - p) = (x.cps.extract p s0).toList:=by rw [Array.toList_extract,List.extract_eq_take_drop]
        rw [e1,twinSub_free _ hfree]
        congr 1
        have e2:x.cps.toList.drop s0 = x.cps.getD s0 0 :: x.cps.toList.drop (s0 + 1):=by
          rw [List.drop_eq_getElem_cons (by omega)]
          congr 1
          simp [Array.getD,h2]
        rw [e2]
        show (if twin (x.cps.getD s0 0) = true then [92,x.cps.getD s0 0] else [x.cps.getD s0 0]) ++ _ = _
        rw [h3]; rfl
      have he1:(x.cps.extract s0 (s0 + 1)) = #[x.cps.getD s0 0]:=by
        apply Array.ext
        · simp; omega
        · intro i h5 h6
          simp at h6
          subst h6
          simp [Array.getD,h2]
      have step:∀ (its':Array Value) (zs':List Str) (s₁:Shared),OutS D s s₁ → SubSt s₁.heap pat f D its' → StrsAre its'.toList zs' → its'.size ≤ 2 * s0 + 1 → (zs'.map (·.length)).sum ≤ 2 * s0 → flatS zs' = flatS zs ++ (x.cps.extract p s0).toList →
          wpAny (model prog w) A.in1 (tailSem pat f D x t n m) (fun fin s' => match fin with | .done f => R (.ok f) s' | .again c' => c'.quiet = true ∧ codeAny (model prog w) A c' R s') (fun e s' => R (.error e) s') s₁:=by
        intro its' zs' s₁ ho S' hz' hi' hs' he
        refine loop_tail hx hroom F h2 S' (by omega) fun tk s₂ ho₂ S₂ => ?_
        refine ⟨plainId_quiet plain_subloop _,?_⟩
        refine ih (x.cps.size - (s0 + 1)) (sl1 hk h1 h2) (s0 + 1) (n + 1) _ (zs' ++ [⟨#[92] ++ x.cps.extract s0 (s0 + 1)⟩]) s₂ rfl h2 S₂ ?_ ?_ ?_ ?_
        · rw [Array.toList_push]; exact strs_snoc hz' _ _
        · simp; omega
        · rw [List.map_append,List.sum_append]
          have:([(⟨#[92] ++ x.cps.extract s0 (s0 + 1)⟩:Str)].map (·.length)).sum = 2:=by rw [he1]; rfl
          rw [this]; exact Nat.add_le_add_right hs' 2
        · intro y t' s₃ ho₃ hy
          refine hR y t' s₃ ((ho.trans ho₂).trans ho₃) ?_
          rw [hy,hdrop]
          have:flatS (zs' ++ [⟨#[92] ++ x.cps.extract s0 (s0 + 1)⟩]) = flatS zs' ++ [92,x.cps.getD s0 0]:=by
            unfold flatS
            rw [List.flatMap_append,he1]; rfl
          rw [this,he]
          simp only [List.append_assoc]
      by_cases hlt:(p:Int).toNat < m.start
      · refine wpT hlt ?_
        have hlt':p < s0:=by rw [hms] at hlt; simpa using hlt
        refine wpAny_bind (wp_slice hx fun t1 k1 => ?_)
        refine wpAny_bind (push_D (s:={ s with toks:=k1 }) S (by omega) fun h' S' hb => ?_)
        refine wpF (by simp) ?_
        refine step _ (zs ++ [⟨x.cps.extract p m.start⟩]) _ (.mk' hb) S' ?_ ?_ ?_ ?_
        · rw [Array.toList_push]; exact strs_snoc hz _ _
        · simp; omega
        · rw [List.map_append,List.sum_append,hms]
          have:([(⟨x.cps.extract p s0⟩:Str)].map (·.length)).sum = s0 - p:=by simp [Str.length]; omega
          rw [this]; omega
        · unfold flatS
          rw [List.flatMap_append,hms]
          congr 1
          simp
      · refine wpF hlt ?_
        have hge:s0 ≤ p:=by rw [hms] at hlt; simpa using hlt
        obtain rfl:p = s0:=by omega
        refine wpF (by simp) ?_
        refine step its zs s (.refl _ _) S hz (by omega) (by omega) ?_
        simp
end
end Mine
end
noncomputable section
open PySem PySem.W PyProof.Rows PySem.Spec PySem.Calls
set_option Elab.async false
set_option maxRecDepth 100000
set_option linter.unusedVariables false
namespace Mine
open PySem.Builtin.Re
theorem PatAt.keeps {h h':Heap} {pat:Addr} (x:PatAt h pat) (k:∀ b o,h.get? b = some o → h'.get? b = some o):PatAt h' pat:=by
  obtain ⟨o,ct,v0,v1,v3,v4,t,t',h1,h2,h3,h4,oc,xs,n,g1,g2,g3,g4⟩:=x
  exact ⟨o,ct,v0,v1,v3,v4,t,t',k _ _ h1,h2,h3,h4,oc,xs,n,k _ _ g1,g2,g3,g4⟩
theorem sub_str_ba:isSubtype (.type "str") (.type "bytearray") = pure false:=by rw [isSubtype_type]; kernel_rfl
section
variable {prog:Program} {w:World} {A:Around} {E:Value → Shared → Prop} {s:Shared}
theorem call_sub {pat f:Addr} {x:Str} {t:Tok} {Q:Value → Shared → Prop} (hx:x.cps.size ≤ 1000) (hroom:A.depth + 1 < recursionLimit) (P:PatAt s.heap pat) (L:LamAt s.heap f) (hl:s.heap.NoLimit)
    (h:∀ y t' s',Ext s s' → y.cps.toList = twinSub x.cps.toList → Q (.str y t') s'):wpAny (model prog w) A (call (.builtin "re.Pattern.sub") [.ref pat,.ref f,.str x t]) Q E s:=by
  obtain ⟨o,ct,v0,v1,v3,v4,t0,t',h1,h2,h3,h4,oc,xs,n,g1,g2,g3,g4⟩:=id P
  obtain ⟨qual,pm,cv,ctv,p,p1,p2,p3,p4,p5,p6,p7,p8,l1,l2,l3⟩:=id L
  refine wpAny_call (codeAny_call_builtin slot_sub.plain entry_sub (slot_sub.check _ _ _ _ _ _ _ _ ⟨o,h1,h2⟩ (args_sub _ _ _) ?_))
  unfold Builtin.«re.Pattern.sub» reSubstitute
  dsimp only
  refine wpAny_bind (wpAny_of_eq (a:=[some (.ref f),some (.str x t),none]) (by rfl) ?_)
  dsimp only
  refine wpAny_bind (wpAny_pure ?_)
  refine wpAny_bind (wpAny_specialOf (T:="function") ⟨_,l1,rfl⟩ fun_called ?_)
  dsimp only [Option.isSome_some]
  refine wpT rfl (wpAny_bind (wpAny_pure ?_))
  refine wpT rfl (wpAny_bind (wpAny_pure ?_))
  dsimp only
  refine wpAny_bind (wpAny_holding (whole_target P ?_))
  refine wpT (by rfl) ?_
  unfold reNotHeld
  refine wpAny_bind ?_
  refine wpAny_bind (wpAny_isInstance (T:="str") (U:="bytearray") (typeIs_str _ _ _) sub_str_ba ?_)
  refine wpF (by simp) ?_
  refine wpAny_pure ?_
  refine wpAny_bind (wpAny_newList ?_)
  have hn:s.heap.get? s.heap.objs.size = none:=get_size _
  have k:∀ b o,s.heap.get? b = some o → (s.heap.push { cls:=.type "list",data:=.seq ([]:List Value).toArray }).get? b = some o:=fun b o e => Heap.get?_push_of_some _ e
  have hcs:cStatics ≠ s.heap.objs.size:=by
    obtain ⟨mc,hns,_⟩:=hl
    exact Nat.ne_of_lt hns.lt
  have S:SubSt (s.heap.push { cls:=.type "list",data:=.seq ([]:List Value).toArray }) pat f s.heap.objs.size #[]:=by
    have l:PlainL (s.heap.push { cls:=.type "list",data:=.seq ([]:List Value).toArray }) s.heap.objs.size #[]:=⟨_,_,Heap.get?_push_size _ rfl,rfl,rfl,rfl⟩
    exact ⟨P.keeps k,L.keeps k,hl.keeps k,l,hcs⟩
  refine wpAny_pure ⟨plainId_quiet plain_subloop _,?_⟩
  refine sub_loop hx ?_ x.cps.size 0 0 #[] [] _ rfl (Nat.zero_le _) S .nil (Nat.zero_le _) (Nat.le_refl _) fun y t'' s' ho hy => ?_
  · show A.depth < _; exact Nat.lt_of_succ_lt hroom
  · obtain ⟨h',tk,rfl,hb⟩:=ho
    refine h y t'' _ ⟨⟨h',tk,rfl⟩,fun b o e => hb b o (Nat.ne_of_lt (Heap.lt_size e)) (k b o e)⟩ ?_
    simpa [flatS] using hy
end
end Mine
end
noncomputable section
open PySem PySem.W PyProof.Rows PySem.Spec PySem.Calls
set_option Elab.async false
set_option maxRecDepth 100000
set_option linter.unusedVariables false
namespace Mine
section
variable {W:Wd} {fx:Fx} {F:Fz} {σ:Sto} {s:Shared} {A:Around} {E:Value → Shared → Prop} {c:Addr} {pos:Pos}
theorem Inv.codeIn {qual:Str} {ps:Array Value} {c':Addr} {h':Heap} {tk:Nat} (I:Inv W fx F σ s) (htr:TriplesOk ps.toList)
    (hcodes:∀ pos c,codeAmong pos ps.toList = some c → TabC W F pos c)
    (hx:Heap.ExtBut W.P s.heap h') (hge:s.heap.objs.size ≤ c') (hq:W.qn pos.line pos.col = qual) (hrec:h'.CodeRec (.ref c') qual)
    (htab:h'.get? W.P = some (tabObj (ps ++ #[rawInt pos.line,rawInt pos.col,.ref c']))) (htab':∃ P',s.heap.objs.size ≤ P' ∧ h'.IsCode c' P' #[] ∧ h'.TableAt c' P' #[]) :
    ∃ oc,F.le (F.add c' oc) ∧ Inv W fx (F.add c' oc) σ { s with heap:=h',toks:=tk } ∧ ∃ vs t,oc.data = .fields vs ∧ vs[1]? = some (.str qual t):=by
  obtain ⟨P',hP',hcode',⟨oc,vc,hoc,hcc,hdc,h11c⟩,_⟩:=htab'
  obtain ⟨c2,o2,vs2,t2,e2,g2,d2,r2⟩:=hrec
  cases e2
  rw [hoc] at g2; cases g2
  rw [hdc] at d2; cases d2
  have hn:s.heap.get? c' = none:=by
    cases q:s.heap.get? c' with
    | none => rfl
    | some o => exact absurd (Heap.lt_size q) (Nat.not_lt.mpr hge)
  have hF:=I.fresh_F hn
  have hxk:∀ b o,b ≠ W.P → s.heap.get? b = some o → h'.get? b = some o:=fun b o hb e => hx b o hb e
  have hFP:∀ b o,F b = some o → b ≠ W.P:=fun b o e q => by rw [q,I.FP] at e; cases e
  have hnew:∀ b o,F.add c' oc b = some o → (b = c' ∧ o = oc) ∨ F b = some o:=fun b o q => by
    unfold Fz.add at q
    by_cases z:b = c'
    · subst z; simp at q; exact .inl ⟨rfl,q.symm⟩
    · simp [z] at q; exact .inr q
  refine ⟨oc,Fz.le_add hF,I.step (Fz.le_add hF) (fun b o hp e => ⟨fun ℓ => hxk b o hp e,o.slots,hxk b o hp e⟩) ⟨fun b o e => hxk b o (fun q => by rw [q,I.base_P] at e; cases e) (I.win.stays b o e),I.win.gens,I.win.os⟩ ?_ (fun b o q => ?_) (fun b o q => ?_) (fun b o q => ?_),vc,t2,hdc,r2⟩
  · refine ⟨_,htab,?_,fun pos' v q => ?_⟩
    · rw [Array.toList_append]; exact TriplesOk_snoc _ _ _ _ htr
    · rw [Array.toList_append] at q
      rcases among_snoc pos' pos _ _ _ htr q with q | ⟨_,rfl,e1,e2⟩
      · obtain ⟨a,o,vs,t,h1,h2,h3,h4,h5⟩:=hcodes pos' v q
        exact ⟨a,o,vs,t,h1,Fz.le_add hF _ _ h2,h3,h4,h5⟩
      · exact ⟨c',oc,_,t2,rfl,Fz.add_self,hcc,hdc,by rw [e1,e2,hq]; exact r2⟩
  · rcases hnew b o q with ⟨rfl,rfl⟩ | q
    · exact hoc
    · exact hxk b o (hFP b o q) (I.fin _ _ q)
  · rcases hnew b o q with ⟨rfl,rfl⟩ | q
    · exact ⟨by rw [hcc]; exact fun e => (nomatch e),fun es n e => (by rw [hdc] at e; cases e),fun v e => (by rw [hdc] at e; cases e)⟩
    · exact I.fok _ _ q
  · rcases hnew b o q with ⟨rfl,rfl⟩ | q
    · exact .inr hn
    · exact .inl q
noncomputable def LamIn (F:Fz) (f:Addr):Prop:=∃ qual pm cv ctv p p1 p2 p3 p4 p5 p6 p7 p8,F f = some { cls:=.type "function",data:=.func (kla_fn "<lambda>" qual (lamParams p) (lamBody p1 p2 p3 p4 p5 p6 p7 p8) lamScope [] pm (.ref cv) ctv) } ∧
  (∃ oc vs t,F cv = some oc ∧ oc.data = .fields vs ∧ vs[1]? = some (.str qual t)) ∧ (p3.endLine == p5.line) = true
theorem LamIn.mono {F G:Fz} {f:Addr} (h:F.le G) (x:LamIn F f):LamIn G f:=by
  obtain ⟨qual,pm,cv,ctv,p,p1,p2,p3,p4,p5,p6,p7,p8,h1,⟨oc,vs,t,h2,h3⟩,h4⟩:=x
  exact ⟨qual,pm,cv,ctv,p,p1,p2,p3,p4,p5,p6,p7,p8,h _ _ h1,⟨oc,vs,t,h _ _ h2,h3⟩,h4⟩
theorem Inv.lamAt (I:Inv W fx F σ s) {f:Addr} (x:LamIn F f):LamAt s.heap f:=by
  obtain ⟨qual,pm,cv,ctv,p,p1,p2,p3,p4,p5,p6,p7,p8,h1,⟨oc,vs,t,h2,h3,h3'⟩,h4⟩:=x
  exact ⟨qual,pm,.ref cv,ctv,p,p1,p2,p3,p4,p5,p6,p7,p8,I.fin _ _ h1,⟨cv,oc,vs,t,rfl,I.fin _ _ h2,h3,h3'⟩,h4⟩
theorem Inv.lambda {p p1 p2 p3 p4 p5 p6 p7 p8:Pos} {Q:Value → Shared → Prop} (I:Inv W fx F σ s) (C:CodeTab W c) (hc:fx.env.code = .ref c) (BM:BltMod W) (hq:W.qn pos.line pos.col = fx.env.qual ++ "<lambda>") (hl:(p3.endLine == p5.line) = true)
    (hQ:∀ G s' f,F.le G → Inv W fx G σ s' → LamIn G f → G f ≠ none → Q (.ref f) s') :
    wpAny W.M A (eval (.Lambda (lamParams p) (lamBody p1 p2 p3 p4 p5 p6 p7 p8) lamScope pos) fx.env) Q E s:=by
  obtain ⟨ps,hP,htr,hcodes⟩:=id I.tab
  obtain ⟨C1,C2⟩:=C _ _ I.win.stays hP htr
  obtain ⟨mg,bm,ob,hBM⟩:=BM
  have hBMs:=hBM.keeps I.win.stays
  obtain ⟨hgP,hbP⟩:=hBMs.apart C2
  refine kla_eval rfl ?_
  rw [makeFunction_eq]
  simp only [List.zip_nil_right,List.filterMap_nil,List.isEmpty_nil,if_true,pure_bind]
  unfold makeTail
  rw [show closureFor lamScope fx.env = pure [] from rfl,I.ok.glob]
  refine wpAny_bind (wpAny_pure ?_)
  simp only [List.isEmpty_nil,if_true]
  refine wpAny_bind (wpAny_pure ?_)
  have fin:∀ (G:Fz) (s':Shared) (cv:Addr),F.le G → Inv W fx G σ s' → (∃ oc vs t,G cv = some oc ∧ oc.data = .fields vs ∧ vs[1]? = some (.str (fx.env.qual ++ "<lambda>") t)) →
      wpAny W.M A (newObj (.type "function") (.func (kla_fn "<lambda>" (fx.env.qual ++ "<lambda>") (lamParams p) (lamBody p1 p2 p3 p4 p5 p6 p7 p8) lamScope [] ((mg "__name__").getD .none) (.ref cv) .none))) Q E s':=by
    intro G s' cv hG I' hcv
    refine wpAny_newObj_type ?_ (by size_fits)
    obtain ⟨hG',I''⟩:=I'.pushF (o:={ cls:=.type "function",data:=.func (kla_fn "<lambda>" (fx.env.qual ++ "<lambda>") (lamParams p) (lamBody p1 p2 p3 p4 p5 p6 p7 p8) lamScope [] ((mg "__name__").getD .none) (.ref cv) .none) }) (tk:=s'.toks) rfl
      ⟨fun e => (nomatch e),fun ℓ ℓ e => (nomatch e),fun ℓ e => (nomatch e)⟩
    obtain ⟨oc,vs,t,g1,g2,g3⟩:=hcv
    refine hQ _ _ _ (hG.trans hG') I'' ⟨_,_,cv,_,p,p1,p2,p3,p4,p5,p6,p7,p8,Fz.add_self,⟨oc,vs,t,hG' _ _ g1,g2,g3⟩,hl⟩ ?_
    rw [Fz.add_self]; exact fun e => (nomatch e)
  cases hnf:codeAmong pos ps.toList with
  | some v =>
    obtain ⟨a,o,vs,t,rfl,h1,h2,h3,h4⟩:=hcodes pos v hnf
    refine wpAny_bind (wpAny_functionCode_hit hc C1 hnf ?_)
    refine wpAny_bind (wpAny_builtinsFor hBMs.ns hBMs.name hBMs.ne hBMs.obj hBMs.cls hBMs.dict hBMs.data ?_)
    refine wpAny_bind (wpAny_nsGet hBMs.ns ?_)
    refine wpAny_bind (wpAny_pure ?_)
    exact fin F s a (.refl F) I ⟨o,vs,t,h1,h3,by rw [← hq]; exact h4⟩
  | none =>
    refine wpAny_bind (wpAny_functionCodeX hc C1 C2 hnf fun c' h' tk hx hge hlt ℓ hrec htb htb' => ?_)
    obtain ⟨oc,hG,I',vs,t,g1,g2⟩:=I.codeIn (tk:=tk) htr hcodes hx hge hq hrec htb.2 htb'
    have hB':=hBM.keeps I'.win.stays
    refine wpAny_bind (wpAny_builtinsFor hB'.ns hB'.name hB'.ne hB'.obj hB'.cls hB'.dict hB'.data ?_)
    refine wpAny_bind (wpAny_nsGet hB'.ns ?_)
    refine wpAny_bind (wpAny_pure ?_)
    exact fin _ _ c' hG I' ⟨oc,vs,t,Fz.add_self,g1,g2⟩
end
end Mine
end
noncomputable section
open PySem PySem.W PyProof.Rows PySem.Spec PySem.Calls
set_option Elab.async false
set_option maxRecDepth 100000
set_option linter.unusedVariables false
namespace Mine
theorem Rep.str_inv {F:Fz} {v:Value} {y:List Nat} (h:Rep F v (.str y)):∃ z t,v = .str z t ∧ z.cps.toList = y:=by
  generalize hu:V.str y = u at h
  cases h <;> cases hu
  exact ⟨_,_,rfl,rfl⟩
section
variable {W:Wd} {sc:Scope} {n:Nat} {pos:Pos} {k:Nat} {c:Addr} {q:Str}
theorem set_sub {x:String} {pat:Addr} {np ap lpos p p1 p2 p3 p4 p5 p6 p7 p8 p9:Pos} (C:CodeTab W c) (WL:W.base.NoLimit) (BM:BltMod W) (hqn:W.qn lpos.line lpos.col = q ++ "<lambda>") (g:GlobV W (nm "_twin_re_1") (.ref pat)) (P:PatAt W.base pat)
    (hk:sc.names.lookup (nm "_twin_re_1") = some .globalImplicit:=by decide +kernel) (hl:(p3.endLine == p5.line) = true:=by decide) (hline:(ap.endLine == pos.line) = true:=by decide)
    (hd:(nm x == ("__debug__":Str)) = false:=by decide) (hn:(nm x == ("__classdict__":Str)) = false:=by decide) :
    SET W (EnvAt c q) sc n (.Call (.Attribute (.Name (Str.ofString "_twin_re_1") np) (Str.ofString "sub") ap) [.Lambda (lamParams p) (lamBody p1 p2 p3 p4 p5 p6 p7 p8) lamScope lpos,.Name (Str.ofString x) p9] [] pos)
      (fun Q X => tName x (fun u σ₁ => ∃ y,u = .str y ∧ y.length ≤ 1000 ∧ Q (.str (twinSub y)) σ₁) X) :=
  fun fx F σ s Q X E hH ht hsc hrm I h hE => by
    obtain ⟨hcode,hqual⟩:=hH
    have hroom:fx.A.depth + 1 < recursionLimit:=by obtain ⟨h1,_⟩:=hrm; omega
    have hbase:attributeBase (.Name (nm "_twin_re_1") np) (Str.ofString "sub") fx.env (eval (.Name (nm "_twin_re_1") np) fx.env) = eval (.Name (nm "_twin_re_1") np) fx.env:=rfl
    refine ⟨wpAny_Call_method_lateS hbase (by rfl) hline ?_⟩
    refine (glob_sound I g (by subst hsc; exact hk) (by decide) ?_).out
    obtain ⟨o,ct,v0,v1,v3,v4,t,t',h1,h2,h3,h4⟩:=P.ex
    have ho:=I.win.stays _ _ h1
    refine ⟨"re.Pattern","re.Pattern.sub",plainAttrs_pat,slot_sub,type_sub,⟨o,ho,h2⟩,fun a e => ⟨o,by cases e; exact ho,h3⟩,?_⟩
    refine Calls.callWith_builtin (by rfl) (Calls.evalArgs_plain (x:=eval (.Lambda (lamParams p) (lamBody p1 p2 p3 p4 p5 p6 p7 p8) lamScope lpos) fx.env) (rest:=backTo pos (starEach [.Name (nm x) p9] fx.env)) ?_)
    refine Calls.spliced_cons ?_
    refine I.lambda C hcode BM (by rw [hqual]; exact hqn) hl fun G s₁ f hG I₁ L ℓ => ?_
    refine Calls.spliced_cons (x:=eval (.Name (nm x) p9) fx.env) (rest:=[]) ?_
    refine wpAny_mono (se_name (sc:=sc) (n:=n) x hd hn fx G σ s₁ _ X E hsc hrm I₁ h hE).out (fun v s₂ h₂ => ?_) fun ℓ ℓ z => z
    obtain ⟨G₂,σ₂,u,hG₂,I₂,ru,y,rfl,hy,hQ⟩:=h₂
    refine Calls.spliced_nil ?_
    obtain ⟨z,tz,rfl,rfl⟩:=ru.str_inv
    have hys:z.cps.size ≤ 1000:=by simpa using hy
    refine call_sub hys hroom (P.keeps I₂.win.stays) (I₂.lamAt (L.mono hG₂)) (WL.keeps I₂.win.stays) fun r tr s₃ hx hr => ?_
    exact ⟨G₂,σ₂,_,hG.trans hG₂,I₂.ext hx,.str r tr,by rw [hr]; exact hQ⟩
end
end Mine
end
noncomputable section
open PySem PySem.W PyProof.Rows PySem.Spec PySem.Calls
set_option Elab.async false
set_option maxRecDepth 100000
set_option linter.unusedVariables false
namespace Mine
noncomputable def cs (s:String):List Nat:=s.toList.map Char.toNat
theorem cs_eq (s:String):(Str.ofString s).cps.toList = cs s:=by
  rw [show (Str.ofString s).cps = (s.toList.map Char.toNat).toArray from congrArg Str.cps (Str.ofString_eq_toList s)]
  rfl
noncomputable def stNth:List Stmt → Nat → Stmt
  | [],_ => .Pass ⟨0,0,0,0⟩
  | s :: _,0 => s
  | _ :: r,k + 1 => stNth r k
noncomputable def fnBody:Stmt → List Stmt
  | .FunctionDef _ _ b _ _ _ _ _ _ _ => b
  | _ => []
noncomputable def fnScope:Stmt → Scope
  | .FunctionDef _ _ _ _ _ _ s _ _ _ => s
  | _ => default
noncomputable def fnParams:Stmt → Arguments
  | .FunctionDef _ a _ _ _ _ _ _ _ _ => a
  | _ => default
noncomputable def fnAll:List Stmt:=PySem.Challenge.pw_kq0074_01.main.body
noncomputable abbrev fn (k:Nat):Stmt:=stNth fnAll k
structure Fun (W:Wd) (k:Nat) (name:String) (a:Addr) (fd:FuncData):Prop where
  at_:FnAt W a fd (fnBody (fn k))
  scope:fd.scope = fnScope (fn k)
  params:fd.params = fnParams (fn k)
  glob:GlobV W (nm name) (.ref a)
  lim:W.base.NoLimit
  dflt:fd.defaults = .none
structure Blts (W:Wd):Prop where
  len:BltV W (nm "len") (.builtin "len")
  ord:BltV W (nm "ord") (.builtin "ord")
  chr:BltV W (nm "chr") (.builtin "chr")
  sorted:BltV W (nm "sorted") (.builtin "sorted")
  range:BltV W (nm "range") (.type "range")
  list:BltV W (nm "list") (.type "list")
  bytes:BltV W (nm "bytes") (.type "bytes")
  type:BltV W (nm "type") (.type "type")
  str:BltV W (nm "str") (.type "str")
  bool:BltV W (nm "bool") (.type "bool")
  isi:BltV W (nm "isinstance") (.builtin "isinstance")
  object:BltV W (nm "object") (.type "object")
  ve:BltV W (nm "ValueError") (.type "ValueError")
  uee:BltV W (nm "UnicodeEncodeError") (.type UEE)
noncomputable def B64L:List UInt8:=[65,66,67,68,69,70,71,72,73,74,75,76,77,78,79,80,81,82,83,84,85,86,87,88,89,90,97,98,99,100,101,102,103,104,105,106,107,108,109,110,111,112,113,114,115,116,117,118,119,120,121,122,48,49,50,51,52,53,54,55,56,57,43,47]
noncomputable def specialL:List Nat:=[40,41,91,93,123,125,63,42,43,45,124,94,36,92,46,38,126,35,32,9,10,13,11,12]
noncomputable def missF (c:Nat):Bool:=!(specialL.contains c)
noncomputable def uencE:List UInt8:=(List.range 256).map fun i => (if i = 43 then 45 else if i = 47 then 95 else i).toUInt8
noncomputable def udecE:List UInt8:=(List.range 256).map fun i => (if i = 45 then 43 else if i = 95 then 47 else i).toUInt8
structure Tops (W:Wd):Prop where
  lim:W.base.NoLimit
  tab:CodeTab W 163
  mod:BltMod W
  twin:GlobV W (nm "_twin_re_1") (.ref 138)
  pat:PatAt W.base 138
  special:GlobV W (nm "_special_chars_map") (.ref 147)
  miss:DictMiss W 147 missF
  bt:GlobV W (nm "bytes_types") (.ref 39)
  btat:W.base.get? 39 = some { cls:=.type "tuple",data:=.seq [Value.type "bytes",Value.type "bytearray"].toArray }
  err:ErrC W (nm "Error") 56
  ve:IsVE W (.ref 56)
  b64:∃ t,GlobV W (nm "_B64") (.bytes B64L.toArray t)
  uenc:∃ t,GlobV W (nm "_urlsafe_encode_translation") (.bytes uencE.toArray t)
  udec:∃ t,GlobV W (nm "_urlsafe_decode_translation") (.bytes udecE.toArray t)
theorem SF.mono {W:Wd} {n:Nat} {a:Addr} {kw:List Str} {P P':List V → (V → Prop) → (Value → Prop) → Prop} (h:SF W n a kw P) (hp:∀ us K X,P' us K X → P us K X):SF W n a kw P' :=
  fun fx F σ s vs us K X E hr I r hk p hE => h fx F σ s vs us K X E hr I r hk (hp us K X p) hE
theorem Fun.sf {W:Wd} {k:Nat} {name:String} {a:Addr} {fd:FuncData} (f:Fun W k name a fd) {n:Nat} {t:TS} {xs:List String} (hb:SL W (fnScope (fn k)) n (fnBody (fn k)) t)
    (hbind:∀ fd:FuncData,fd.params = fnParams (fn k) → fd.defaults = .none → ∀ vs,vs.length = xs.length → bindArgs fd ⟨vs,[]⟩ = pure (bindsOf xs vs))
    (hnd:xs.Nodup:=by decide) (hk:∀ x ∈ xs,storable (fnScope (fn k)) x = true:=by decide +kernel) :
    SF W (n + 1) a [] (fun us K X => us.length = xs.length ∧ t (retPost K X) (stoOf xs us)):=by
  have hb':SL W fd.scope n (fnBody (fn k)) t:=by rw [f.scope]; exact hb
  exact sf_pos f.lim f.at_ hb' (fun s vs ℓ h => .of_eq (hbind fd f.params f.dflt vs h)) hnd (by rw [f.scope]; exact hk)
theorem Fun.fn {W:Wd} {k:Nat} {name:String} {a:Addr} {fd:FuncData} (f:Fun W k name a fd):∃ o fd,W.base.get? a = some o ∧ o.data = .func fd :=
  let ⟨o,h1,h2⟩:=f.at_.obj; ⟨o,fd,h1,h2⟩
structure Can (W:Wd) (n:Nat) (name:String) (P:List V → (V → Prop) → (Value → Prop) → Prop):Prop where
  ex:∃ a,GlobV W (nm name) (.ref a) ∧ (∃ o fd,W.base.get? a = some o ∧ o.data = .func fd) ∧ SF W n a [] P
theorem Fun.can {W:Wd} {k:Nat} {name:String} {a:Addr} {fd:FuncData} (f:Fun W k name a fd) {n:Nat} {P:List V → (V → Prop) → (Value → Prop) → Prop} (h:SF W n a [] P):Can W n name P:=⟨a,f.glob,f.fn,h⟩
section
variable {W:Wd} {sc:Scope} {n:Nat} {pos pos':Pos} {k:Nat}
theorem se_strc (x:String):SE W sc n (.Constant (.str (Str.ofString x)) k pos) (fun Q ℓ σ => Q (.str (cs x)) σ):=by
  have:=se_str (W:=W) (sc:=sc) (n:=n) (pos:=pos) (k:=k) (Str.ofString x)
  rw [cs_eq] at this
  exact this
theorem se_can {x:String} {P:List V → (V → Prop) → (Value → Prop) → Prop} {e:PySem.Expr} {r:List PySem.Expr} {p:Pos} {t:TG} (c:Can W n x P) (ha:SG W sc n (e :: r) t)
    (hk:sc.names.lookup (nm x) = some .globalImplicit:=by decide +kernel) (hd:(nm x == ("__debug__":Str)) = false:=by decide) (hp:plainArgs e r:=by intro _ _; exact ⟨rfl,rfl⟩) :
    SE W sc n (.Call (.Name (Str.ofString x) p) (e :: r) [] pos) (fun Q X => t (fun us σ₁ => P us (fun u => Q u σ₁) X) X):=by
  obtain ⟨a,h1,h2,h3⟩:=c.ex
  exact se_call_f h3 h1 h2 ha hk hd hp
theorem so_comp' {cs:Scope} {x:String} {caps:List String} {elt iter:PySem.Expr} {ifs:List PySem.Expr} {px:Pos} {ti te:TE} {tc:TB} (KO:CompOk cs sc x caps) (hi:SE W sc n iter ti) (htc:SI W (relS cs sc) n ifs tc) (hte:SE W (relS cs sc) n elt te)
    (hs:∀ env x,foldedSetIterable iter env x = pure x:=by intro _ _; rfl):SO W sc n (.ListComp elt [⟨.Name (Str.ofString x) px,iter,ifs,0⟩] cs pos) (tComp x caps ti tc te):=so_comp hi htc hte KO hs
theorem se_comp' {cs:Scope} {x:String} {caps:List String} {elt iter:PySem.Expr} {ifs:List PySem.Expr} {px:Pos} {ti te:TE} {tc:TB} (KO:CompOk cs sc x caps) (hi:SE W sc n iter ti) (htc:SI W (relS cs sc) n ifs tc) (hte:SE W (relS cs sc) n elt te)
    (hs:∀ env x,foldedSetIterable iter env x = pure x:=by intro _ _; rfl):SE W sc n (.ListComp elt [⟨.Name (Str.ofString x) px,iter,ifs,0⟩] cs pos) (fun Q X => tComp x caps ti tc te (fun l σ => Q (.list l) σ) X):=se_of_so (so_comp hi htc hte KO hs)
theorem ss_acomp' {cs:Scope} {x y:String} {caps:List String} {elt iter:PySem.Expr} {ifs:List PySem.Expr} {px py:Pos} {ti te:TE} {tc:TB} (KO:CompOk cs sc x caps) (hi:SE W sc n iter ti) (htc:SI W (relS cs sc) n ifs tc) (hte:SE W (relS cs sc) n elt te)
    (hk:storable sc y = true:=by decide +kernel) (hs:∀ env x,foldedSetIterable iter env x = pure x:=by intro _ _; rfl)
    (hsw:∀ env,env.scope = sc → swapsWith (.ListComp elt [⟨.Name (nm x) px,iter,ifs,0⟩] cs pos) (some (.Name (nm y) py)) pos'.line env = pure true:=by intro e h; obtain ⟨_,_,_,_,_,_,_,_,_⟩:=e; dsimp only at h; subst h; with_unfolding_all rfl) :
    SS W sc n (.Assign [.Name (Str.ofString y) py] (.ListComp elt [⟨.Name (Str.ofString x) px,iter,ifs,0⟩] cs pos) pos') (fun P => tComp x caps ti tc te (fun l σ₁ => hasApp σ₁ y = false ∧ P.next (put σ₁ y (.own l))) P.exc):=ss_assign_comp hi htc hte KO hk hs hsw
theorem ss_un2 {e:PySem.Expr} {t:TE} {x y:String} {px py tp:Pos} (h:SE W sc n e t) (hk:∀ z ∈ [x,y],storable sc z = true:=by decide +kernel)
    (hs:∀ env,swapsWithSole [.Tuple [.Name (nm x) px,.Name (nm y) py] k tp] e pos.line env = pure false:=by intro _; rfl)
    (hsw:∀ env,env.scope = sc → swappedStores [.Tuple [.Name (nm x) px,.Name (nm y) py] k tp] e env = pure none:=by intro e h; obtain ⟨_,_,_,_,_,_,_,_,_⟩:=e; dsimp only at h; subst h; with_unfolding_all rfl) :
    SS W sc n (.Assign [.Tuple [.Name (Str.ofString x) px,.Name (Str.ofString y) py] k tp] e pos) (fun P => t (fun v σ₁ => unpackP v 2 fun us => P.next (putVals σ₁ [x,y] us)) P.exc) :=
  ss_unpack (xs:=[(x,px),(y,py)]) h hk hs hsw
theorem ss_un2s {e:PySem.Expr} {t:TE} {x y:String} {px py tp:Pos} (h:SE W sc n e t) (hk:∀ z ∈ [y,x],storable sc z = true:=by decide +kernel)
    (hs:∀ env,swapsWithSole [.Tuple [.Name (nm x) px,.Name (nm y) py] k tp] e pos.line env = pure false:=by intro _; rfl)
    (hsw:∀ env,env.scope = sc → swappedStores [.Tuple [.Name (nm x) px,.Name (nm y) py] k tp] e env = pure (some [nm x,nm y]):=by intro e h; obtain ⟨_,_,_,_,_,_,_,_,_⟩:=e; dsimp only at h; subst h; with_unfolding_all rfl) :
    SS W sc n (.Assign [.Tuple [.Name (Str.ofString x) px,.Name (Str.ofString y) py] k tp] e pos) (fun P => t (fun v σ₁ => unpackP v 2 fun us => P.next (putVals σ₁ [y,x] us.reverse)) P.exc) :=
  ss_unpack_sw (xs:=[(x,px),(y,py)]) h hk hs hsw
end
section
variable {W:Wd} {H:Env → Prop} {sc:Scope} {n:Nat} {pos pos':Pos} {k:Nat}
noncomputable def tSeq (t tr:TS):TS:=fun P => t { P with next:=tr P }
noncomputable def tIte (tc:TB) (tx ty:TS):TS:=fun P => tc (fun b σ₁ => if b then tx P σ₁ else ty P σ₁) P.exc
inductive VE:Value → Prop
  | own:VE (.ref 56)
  | ve:VE (.type "ValueError")
theorem VE.is {W:Wd} (h:IsVE W (.ref 56)) (c:Value) (v:VE c):IsVE W c:=by
  cases v with
  | own => exact h
  | ve => exact .ve
noncomputable def tTryV (b:Bool) (tb:TS):TS:=fun P => tb { P with exc:=fun c => VE c ∧ P.ret (.bool b) }
theorem sl_seq {st:Stmt} {r:List Stmt} {t tr:TS} (h:SS W sc n st t) (hr:SL W sc n r tr):SL W sc n (st :: r) (tSeq t tr):=(sl_cons (t:=t) (tr:=tr) h hr:SL W sc n (st :: r) (fun P => t { P with next:=tr P }))
theorem slt_seq {st:Stmt} {r:List Stmt} {t tr:TS} (h:SST W H sc n st t) (hr:SLT W H sc n r tr):SLT W H sc n (st :: r) (tSeq t tr):=(slt_cons (t:=t) (tr:=tr) h hr:SLT W H sc n (st :: r) (fun P => t { P with next:=tr P }))
theorem ss_ite {c:PySem.Expr} {x y:List Stmt} {tc:TB} {tx ty:TS} (hc:ST W sc n c tc) (hx:SL W sc n x tx) (hy:SL W sc n y ty):SS W sc n (.If c x y pos) (tIte tc tx ty):=ss_if hc hx hy
theorem sst_ite {c:PySem.Expr} {x y:List Stmt} {tc:TB} {tx ty:TS} (hc:ST W sc n c tc) (hx:SLT W H sc n x tx) (hy:SLT W H sc n y ty):SST W H sc n (.If c x y pos) (tIte tc tx ty):=sst_if hc hx hy
theorem ss_tryv {body:List Stmt} {tb:TS} {b:Bool} {p1 p2 p3 p4:Pos} (hb:SL W sc n body tb) (hv:IsVE W (.ref 56)) (g:BltV W (nm "ValueError") (.type "ValueError")) (hk:sc.names.lookup (nm "ValueError") = some .globalImplicit:=by decide +kernel) :
    SS W sc n (.Try body [.ExceptHandler (some (.Name (Str.ofString "ValueError") p1)) none [.Return (some (.Constant (.bool b) k p2)) p3] p4] [] [] pos) (tTryV b tb):=ss_try_ret (VE.is hv) hb g hk
theorem se_blt_ty {x:String} {T:String} (g:BltV W (nm x) (.type T)) (hk:sc.names.lookup (nm x) = some .globalImplicit:=by decide +kernel) (hd:(nm x == ("__debug__":Str)) = false:=by decide):SE W sc n (.Name (Str.ofString x) pos) (fun Q ℓ σ => Q (.ty T) σ) :=
  se_blt g (fun F => .ty T) hk hd
theorem se_glob_bytes {x:String} {b:List UInt8} (g:∃ t,GlobV W (nm x) (.bytes b.toArray t)) (hk:sc.names.lookup (nm x) = some .globalImplicit:=by decide +kernel) (hd:(nm x == ("__debug__":Str)) = false:=by decide):SE W sc n (.Name (Str.ofString x) pos) (fun Q ℓ σ => Q (.bytes b) σ) :=
  let ⟨_,g⟩:=g
  se_glob g (fun F => .bytes b.toArray _) hk hd
theorem se_glob_ref {x:String} {a:Addr} (g:GlobV W (nm x) (.ref a)) (hk:sc.names.lookup (nm x) = some .globalImplicit:=by decide +kernel) (hd:(nm x == ("__debug__":Str)) = false:=by decide):SE W sc n (.Name (Str.ofString x) pos) (fun Q ℓ σ => Q (.ref a) σ) :=
  se_glob g (fun F => .ref a) hk hd
structure CanK (W:Wd) (n:Nat) (name kw:String) (P:List V → (V → Prop) → (Value → Prop) → Prop):Prop where
  ex:∃ a,GlobV W (nm name) (.ref a) ∧ (∃ o fd,W.base.get? a = some o ∧ o.data = .func fd) ∧ SF W n a [nm kw] P
theorem se_cank {x kwn:String} {P:List V → (V → Prop) → (Value → Prop) → Prop} {e ke:PySem.Expr} {p kp:Pos} {t tk:TE} (c:CanK W n x kwn P) (he:SE W sc n e t) (hke:SE W sc n ke tk)
    (hk:sc.names.lookup (nm x) = some .globalImplicit:=by decide +kernel) (hd:(nm x == ("__debug__":Str)) = false:=by decide) (hp:plainArgs e []:=by intro _ _; exact ⟨rfl,rfl⟩)
    (hkt:∀ env,keywordEach [⟨some (nm kwn),ke,kp⟩] env = [(some (nm kwn),eval ke env)]:=by intro _; rfl) :
    SE W sc n (.Call (.Name (Str.ofString x) p) [e] [⟨some (Str.ofString kwn),ke,kp⟩] pos) (fun Q X => t (fun u => tk (fun w σ₂ => P [u,w] (fun v => Q v σ₂) X) X) X):=by
  obtain ⟨a,h1,h2,h3⟩:=c.ex
  exact se_call_kw1 h3 h1 h2 he hke hk hd hp hkt
structure CanT (W:Wd) (n:Nat) (name:String) (P:List V → (V → Prop) → (Value → Prop) → Prop):Prop where
  ex:∃ a,GlobV W (nm name) (.ref a) ∧ (∃ o fd,W.base.get? a = some o ∧ o.data = .func fd) ∧ SFT W n a P
theorem set_cant {x:String} {P:List V → (V → Prop) → (Value → Prop) → Prop} {e:PySem.Expr} {r:List PySem.Expr} {p:Pos} {t:TG} (c:CanT W n x P) (ha:SG W sc n (e :: r) t)
    (hk:sc.names.lookup (nm x) = some .globalImplicit:=by decide +kernel) (hd:(nm x == ("__debug__":Str)) = false:=by decide) (hp:plainArgs e r:=by intro _ _; exact ⟨rfl,rfl⟩) :
    SET W H sc n (.Call (.Name (Str.ofString x) p) (e :: r) [] pos) (fun Q X => t (fun us σ₁ => P us (fun u => Q u σ₁) X) X):=by
  obtain ⟨a,h1,h2,h3⟩:=c.ex
  exact set_call_f h3 h1 h2 ha hk hd hp
theorem set_call1 {x:String} {P:List V → (V → Prop) → (Value → Prop) → Prop} {e:PySem.Expr} {p:Pos} {t:TE} (c:Can W n x P) (he:SET W H sc n e t)
    (hk:sc.names.lookup (nm x) = some .globalImplicit:=by decide +kernel) (hd:(nm x == ("__debug__":Str)) = false:=by decide) (hp:plainArgs e []:=by intro _ _; exact ⟨rfl,rfl⟩) :
    SET W H sc n (.Call (.Name (Str.ofString x) p) [e] [] pos) (fun Q X => t (fun u σ₁ => P [u] (fun u => Q u σ₁) X) X):=by
  obtain ⟨a,g,hfn,sf⟩:=c.ex
  intro fx F σ s Q X E hH ht hsc hrm I h hE
  refine wp_Call_Name (glob_sound I g (by subst hsc; exact hk) hd ⟨?_⟩)
  obtain ⟨o,fd,ho,hd'⟩:=hfn
  refine Calls.callWith_function (o:=o) (fd:=fd) ?_
  rw [(hp _ pos).1]
  refine Calls.evalArgs_plain (x:=eval e fx.env) (rest:=backTo pos (starEach [] fx.env)) ?_
  refine Calls.spliced_cons ?_
  refine wpAny_mono (he fx F σ s _ X E hH ht hsc hrm I h hE).out (fun v s₁ h₁ => ?_) fun ℓ ℓ z => z
  obtain ⟨F₁,σ₁,u,h01,I₁,r,h₁⟩:=h₁
  refine Calls.spliced_nil ?_
  refine ⟨⟨I₁.win.stays _ _ ho,hd'⟩,?_⟩
  have:=sf fx F₁ σ₁ s₁ [v] [u] _ X E hrm I₁ (Reps.one r) (Nat.zero_le _) h₁ hE
  simp only [List.length_nil,Nat.sub_zero,List.take_length,List.drop_length,List.zip_nil_left] at this
  refine (this.imp fun v s₂ h₂ => ?_).out
  obtain ⟨F₂,u,h12,I₂,ru,h₂⟩:=h₂
  exact ⟨F₂,σ₁,u,h01.trans h12,I₂,ru,h₂⟩
theorem Room.le {A:Around} {m n:Nat} (h:m ≤ n) (r:Room A n):Room A m:=by
  exact ⟨Nat.lt_of_le_of_lt (Nat.add_le_add_right (Nat.add_le_add_left h _) 1) r.1,Nat.lt_of_le_of_lt (Nat.add_le_add_right (Nat.add_le_add_left (Nat.mul_le_mul_left 8 h) _) 40) r.2⟩
theorem SF.up {m n:Nat} {a:Addr} {kw:List Str} {P:List V → (V → Prop) → (Value → Prop) → Prop} (h:SF W m a kw P) (hle:m ≤ n):SF W n a kw P :=
  fun fx F σ s vs us K X E hr => h fx F σ s vs us K X E (hr.le hle)
theorem Can.up {m n:Nat} {x:String} {P:List V → (V → Prop) → (Value → Prop) → Prop} (h:Can W m x P) (hle:m ≤ n):Can W n x P :=
  let ⟨a,h1,h2,h3⟩:=h.ex; ⟨a,h1,h2,h3.up hle⟩
theorem CanK.up {m n:Nat} {x kw:String} {P:List V → (V → Prop) → (Value → Prop) → Prop} (h:CanK W m x kw P) (hle:m ≤ n):CanK W n x kw P :=
  let ⟨a,h1,h2,h3⟩:=h.ex; ⟨a,h1,h2,h3.up hle⟩
theorem CanT.up {m n:Nat} {x:String} {P:List V → (V → Prop) → (Value → Prop) → Prop} (h:CanT W m x P) (hle:m ≤ n):CanT W n x P :=
  let ⟨a,h1,h2,h3⟩:=h.ex; ⟨a,h1,h2,fun fx F σ s vs us K X E ht hr => h3 fx F σ s vs us K X E ht (hr.le hle)⟩
end
theorem T.list {W:Wd} (B:Blts W):True:=trivial
end Mine
end
noncomputable section
open PySem PySem.W PyProof.Rows PySem.Spec PySem.Calls
set_option Elab.async false
set_option maxRecDepth 100000
set_option linter.unusedVariables false
namespace Mine
section
variable {σ:Sto} {n:Sto → Prop} {r:V → Prop} {b c:Sto → Prop} {e:Value → Prop} {X:Value → Prop}
variable {Q:V → Sto → Prop} {QB:Bool → Sto → Prop}
theorem ifT {d:Bool} {p q:Prop} (hd:d = true) (h:p):if d = true then p else q:=by rw [if_pos hd]; exact h
theorem ifF {d:Bool} {p q:Prop} (hd:d = false) (h:q):if d = true then p else q:=by rw [if_neg (by rw [hd]; decide)]; exact h
theorem ifB {d:Bool} {p q:Prop} (ht:d = true → p) (hf:d = false → q):if d = true then p else q:=by
  cases d
  · exact hf rfl
  · exact ht rfl
end
end Mine
end
noncomputable section
open PySem PySem.W PyProof.Rows PySem.Spec PySem.Calls
set_option Elab.async false
set_option maxRecDepth 100000
set_option linter.unusedVariables false
namespace Mine
section
variable {σ:Sto} {n:Sto → Prop} {r:V → Prop} {b c:Sto → Prop} {e:Value → Prop} {X:Value → Prop}
theorem forI_rule {x:String} {tb:TS} (I:Nat → Sto → Prop):∀ (us:List V) (hstep:∀ (k:Nat) (u:V) (σ:Sto) (N:Sto → Prop),us[k]? = some u → I k σ → (∀ σ',I (k + 1) σ' → N σ') → tb ⟨N,r,n,N,fun ℓ => False⟩ (put σ x (.val u)))
    (hend:∀ σ,I us.length σ → n σ) (σ:Sto),I 0 σ → forI x tb ⟨n,r,b,c,e⟩ us σ:=by
  intro us
  induction us generalizing I with
  | nil => intro hstep hend σ h; exact hend σ h
  | cons u us ih =>
    intro hstep hend σ h
    have hrest:∀ σ',I 1 σ' → forI x tb ⟨n,r,b,c,e⟩ us σ':=fun σ' h' =>
      ih (fun k => I (k + 1)) (fun k v σ N hk hI hN => hstep (k + 1) v σ N (by simpa using hk) hI hN) (fun σ hσ => hend σ (by simpa using hσ)) σ' h'
    exact hstep 0 u σ _ rfl h hrest
theorem while_rule {tc:TB} {tb:TS} (I:Nat → Sto → Prop) (hstep:∀ (k:Nat) (σ:Sto) (N:Sto → Prop),I k σ → (∀ j σ',j < k → I j σ' → N σ') → tc (fun d σ₁ => if d = true then tb ⟨N,r,n,N,fun ℓ => False⟩ σ₁ else n σ₁) (fun ℓ => False) σ)
    (k:Nat) (h:I k σ):tWhile tc tb ⟨n,r,b,c,e⟩ σ:=by
  have key:∀ (m k:Nat) (σ:Sto),k < m → I k σ → whileN tc tb ⟨n,r,b,c,e⟩ m σ:=by
    intro m
    induction m with
    | zero => intro k σ hk; omega
    | succ m ih => intro k σ hk hI; exact hstep k σ _ hI fun j σ' hj hI' => ih j σ' (by omega) hI'
  exact ⟨k + 1,key _ k σ (by omega) h⟩
theorem compI_rule {x:String} {tc:TB} {te:TE} {σc:Sto} (f:V → Option V) {K:List V → Prop}:∀ (us:List V) (acc:List V) (h:∀ u ∈ us,∀ (N:V → Prop) (N0:Prop),(match f u with | some v => N v | none => N0) →
      tc (fun d σ₁ => σ₁ = put σc x (.val u) ∧ if d = true then te (fun v σ₂ => σ₂ = put σc x (.val u) ∧ N v) (fun ℓ => False) σ₁ else N0) (fun ℓ => False) (put σc x (.val u))),
    K (acc ++ us.filterMap f) → compI x tc te σc us acc K:=by
  intro us
  induction us with
  | nil => intro acc h hK; simpa [compI] using hK
  | cons u us ih =>
    intro acc h hK
    unfold compI
    refine h u (.head _) _ _ ?_
    have ih':=fun acc => ih acc fun v hv => h v (.tail _ hv)
    cases hf:f u with
    | some v =>
      refine ih' _ ?_
      simpa [List.filterMap_cons,hf] using hK
    | none =>
      refine ih' _ ?_
      simpa [List.filterMap_cons,hf] using hK
theorem compI_map {x:String} {te:TE} {σc:Sto} (f:V → V) {K:List V → Prop} (us:List V) (h:∀ u ∈ us,∀ (N:V → Prop),N (f u) → te (fun v σ₂ => σ₂ = put σc x (.val u) ∧ N v) (fun ℓ => False) (put σc x (.val u)))
    (hK:K (us.map f)):compI x (fun Q ℓ σ => Q true σ) te σc us [] K:=by
  refine compI_rule (fun u => some (f u)) us [] (fun u hu N N0 hN => ?_) (by simpa using hK)
  refine ⟨rfl,?_⟩
  exact h u hu N hN
theorem caps0 {p:String → Prop}:∀ y ∈ ([]:List String),p y:=fun y h => by cases h
theorem caps1 {p:String → Prop} {a:String} (h:p a):∀ y ∈ [a],p y:=fun y hy => by simp at hy; subst hy; exact h
theorem caps2 {p:String → Prop} {a a':String} (h:p a) (h':p a'):∀ y ∈ [a,a'],p y:=fun y hy => by simp at hy; rcases hy with rfl | rfl <;> assumption
variable {K:V → Prop}
theorem isiS {x:List Nat} (h:K (.bool true)):isiP [.str x,.ty "str"] K:=.str x rfl h
theorem isiB {x:List UInt8} (h:K (.bool false)):isiP [.bytes x,.ty "str"] K:=.byt x rfl h
theorem typeI {u:V} {T:String} (h:tyOf u = some T) (hK:K (.ty T)):typeP [u] K:=⟨u,T,rfl,h,hK⟩
theorem joinI {sep:List Nat} {ys:List (List Nat)} (hf:fits ((ys.map (·.length)).sum + ys.length * sep.length)) (hK:K (.str (joinL sep ys))):joinP [.str sep,.list (vstrs ys)] K:=⟨sep,ys,rfl,hf,hK⟩
theorem findPI {x:List Nat} {c:Nat} {i j:Int} (hi:0 ≤ i) (hj:0 ≤ j) (hl:j ≤ x.length) (hK:K (.int (findC x c i.toNat j.toNat))):findP [.str x,.str [c],.int i,.int j] K:=⟨x,c,i,j,rfl,hi,hj,hl,hK⟩
theorem alnumI {x:List Nat} (hK:K (.bool (Txt.isalnum ⟨x.toArray⟩))):isalnumP [.str x] K:=⟨x,rfl,hK⟩
end
end Mine
end
noncomputable section
open PySem PySem.W PyProof.Rows PySem.Spec PySem.Calls
set_option maxRecDepth 100000
namespace Mine
theorem bitAnd_nat (x y:Nat):Builtin.bitAnd x y = ((x &&& y:Nat):Int):=by
  unfold Builtin.bitAnd
  simp
theorem and_shift (a b k:Nat) (h:b < 2 ^ k):(a * 2 ^ k) &&& b = 0:=by
  apply Nat.eq_of_testBit_eq
  intro i
  rw [Nat.testBit_and,Nat.zero_testBit,Nat.mul_comm]
  by_cases hi:i < k
  · rw [Nat.testBit_two_pow_mul]
    simp [show ¬ k ≤ i by omega]
  · rw [Nat.testBit_lt_two_pow (Nat.lt_of_lt_of_le h (Nat.pow_le_pow_right (by decide) (by omega)))]
    simp
theorem or_shift (a b k:Nat) (h:b < 2 ^ k):Builtin.bitOr ((a:Int) * 2 ^ k) b = ((a * 2 ^ k + b:Nat):Int):=by
  have e:((a:Int) * 2 ^ k) = ((a * 2 ^ k:Nat):Int):=by simp
  rw [bitOr_and,e,bitAnd_nat,and_shift a b k h]
  omega
theorem fdiv_nat (a b:Nat):(a:Int).fdiv b = ((a / b:Nat):Int):=by
  simp [Int.fdiv_eq_ediv_of_nonneg]
theorem fmod_nat (a b:Nat):(a:Int).fmod b = ((a % b:Nat):Int):=by
  simp [Int.fmod_eq_emod_of_nonneg]
theorem and15 (a:Nat):Builtin.bitAnd a 15 = ((a % 16:Nat):Int):=by rw [bitAnd_m4]; simp
theorem and3 (a:Nat):Builtin.bitAnd a 3 = ((a % 4:Nat):Int):=by rw [bitAnd_m2]; simp
theorem and63 (a:Nat):Builtin.bitAnd a 63 = ((a % 64:Nat):Int):=by rw [bitAnd_m6]; simp
theorem and65535 (a:Nat):Builtin.bitAnd a 65535 = ((a % 65536:Nat):Int):=by rw [bitAnd_m16]; simp
end Mine
end
open PySem PySem.W PyProof.Rows PySem.Spec PySem.Calls
namespace Mine
noncomputable section
set_option maxHeartbeats 4000000
noncomputable abbrev Con:=List V → (V → Prop) → (Value → Prop) → Prop
noncomputable def b64v (c:Nat):Nat:=if 65 ≤ c ∧ c ≤ 90 then c - 65 else if 97 ≤ c ∧ c ≤ 122 then c - 71 else if 48 ≤ c ∧ c ≤ 57 then c + 4 else if c = 43 then 62 else if c = 47 then 63 else 64
theorem fun_run {W:Wd} {k:Nat} {name:String} {a:Addr} {fd:FuncData} (f:Fun W k name a fd) {n:Nat} {t:TS} {xs:List String} {P:Con} (hb:SL W (fnScope (fn k)) n (fnBody (fn k)) t)
    (hbind:∀ fd:FuncData,fd.params = fnParams (fn k) → fd.defaults = .none → ∀ vs,vs.length = xs.length → bindArgs fd ⟨vs,[]⟩ = pure (bindsOf xs vs))
    (h:∀ us K X,P us K X → us.length = xs.length ∧ t (retPost K X) (stoOf xs us))
    (hnd:xs.Nodup:=by decide) (hk:∀ x ∈ xs,storable (fnScope (fn k)) x = true:=by decide +kernel):Can W (n + 1) name P:=f.can (SF.mono (f.sf hb hbind hnd hk) h)
theorem bind1 {k:Nat} {x:String} (h:∀ (fd:FuncData) v,fd.params = fnParams (fn k) → fd.defaults = .none → bindArgs fd ⟨[v],[]⟩ = pure (bindsOf [x] [v])) (fd:FuncData) (hp:fd.params = fnParams (fn k)) (hd:fd.defaults = .none) (vs:List Value) (hl:vs.length = [x].length):bindArgs fd ⟨vs,[]⟩ = pure (bindsOf [x] vs):=by
  cases vs with
  | nil => cases hl
  | cons v r => cases r with
    | nil => exact h fd v hp hd
    | cons w r => cases hl
theorem bind2 {k:Nat} {x y:String} (h:∀ (fd:FuncData) v w,fd.params = fnParams (fn k) → fd.defaults = .none → bindArgs fd ⟨[v,w],[]⟩ = pure (bindsOf [x,y] [v,w])) (fd:FuncData) (hp:fd.params = fnParams (fn k)) (hd:fd.defaults = .none) (vs:List Value) (hl:vs.length = [x,y].length):bindArgs fd ⟨vs,[]⟩ = pure (bindsOf [x,y] vs):=by
  cases vs with
  | nil => cases hl
  | cons v r => cases r with
    | nil => cases hl
    | cons w r => cases r with
      | nil => exact h fd v w hp hd
      | cons u r => cases hl
theorem bind3 {k:Nat} {x y z:String} (h:∀ (fd:FuncData) u v w,fd.params = fnParams (fn k) → fd.defaults = .none → bindArgs fd ⟨[u,v,w],[]⟩ = pure (bindsOf [x,y,z] [u,v,w])) (fd:FuncData) (hp:fd.params = fnParams (fn k)) (hd:fd.defaults = .none) (vs:List Value) (hl:vs.length = [x,y,z].length):bindArgs fd ⟨vs,[]⟩ = pure (bindsOf [x,y,z] vs):=by
  cases vs with
  | nil => cases hl
  | cons u r => cases r with
    | nil => cases hl
    | cons v r => cases r with
      | nil => cases hl
      | cons w r => cases r with
        | nil => exact h fd u v w hp hd
        | cons z r => cases hl
inductive P11 (us:List V) (K:V → Prop) (X:Value → Prop):Prop
  | mk (c:Nat) (e:us = [.int c]) (k:K (.int (b64v c)))
theorem can11 {W:Wd} {a:Addr} {fd:FuncData} (f:Fun W 11 "_b64_value" a fd) (n:Nat):Can W (n + 1) "_b64_value" P11:=by
  refine fun_run f (xs:=["c"]) (sl_seq (ss_ite (st_cmp2 (se_int _) (se_name _) (se_int _)) (sl_seq (ss_return (se_bin2 (se_name _) (se_int _))) sl_nil) sl_nil) (sl_seq (ss_ite (st_cmp2 (se_int _) (se_name _) (se_int _)) (sl_seq (ss_return (se_bin2 (se_name _) (se_int _))) sl_nil) sl_nil) (sl_seq (ss_ite (st_cmp2 (se_int _) (se_name _) (se_int _)) (sl_seq (ss_return (se_bin2 (se_name _) (se_int _))) sl_nil) sl_nil) (sl_seq (ss_ite (st_cmp (se_name _) (se_int _)) (sl_seq (ss_return (se_int _)) sl_nil) sl_nil) (sl_seq (ss_ite (st_cmp (se_name _) (se_int _)) (sl_seq (ss_return (se_int _)) sl_nil) sl_nil) (sl_seq (ss_return (se_int _)) sl_nil)))))) (bind1 fun fd v h h' => by unfold bindArgs; rw [h,h']; rfl) ?_
  rintro us K X ⟨c,rfl,hK⟩
  refine ⟨rfl,?_⟩
  unfold b64v at hK
  have le:∀ {a b:Nat},a ≤ b → decide ((a:Int) ≤ b) = true:=fun h => decide_eq_true (Int.ofNat_le.mpr h)
  have nle:∀ {a b:Nat},¬ a ≤ b → decide ((a:Int) ≤ b) = false:=fun h => decide_eq_false fun q => h (Int.ofNat_le.mp q)
  have rg:∀ {a b:Nat} {p q:Prop},((a ≤ c ∧ c ≤ b) → p) → (¬ (a ≤ c ∧ c ≤ b) → q) → if decide ((a:Int) ≤ c) = true then (if decide ((c:Int) ≤ b) = true then p else q) else (if false = true then p else q):=fun {a b p q} hp hq => by
    by_cases h1:a ≤ c
    · refine ifT (le h1) ?_
      by_cases h2:c ≤ b
      · exact ifT (le h2) (hp ⟨h1,h2⟩)
      · exact ifF (nle h2) (hq fun h => h2 h.2)
    · exact ifF (nle h1) (ifF rfl (hq fun h => h1 h.1))
  refine rg (a:=65) (b:=90) (fun h => ?_) fun h1 => ?_
  · rw [if_pos h,Int.ofNat_sub h.1] at hK; exact hK
  rw [if_neg h1] at hK
  refine rg (a:=97) (b:=122) (fun h => ?_) fun h2 => ?_
  · rw [if_pos h,Int.ofNat_sub (Nat.le_trans (by decide) h.1)] at hK; exact hK
  rw [if_neg h2] at hK
  refine rg (a:=48) (b:=57) (fun h => ?_) fun h3 => ?_
  · rw [if_pos h] at hK; exact hK
  rw [if_neg h3] at hK
  by_cases h4:c = 43
  · subst h4; exact hK
  rw [if_neg h4] at hK
  refine ifF (decide_eq_false fun q => h4 (Int.ofNat_inj.mp q)) ?_
  by_cases h5:c = 47
  · subst h5; exact hK
  rw [if_neg h5] at hK
  exact ifF (decide_eq_false fun q => h5 (Int.ofNat_inj.mp q)) hK
inductive P9 (us:List V) (K:V → Prop) (X:Value → Prop):Prop
  | mk (b:Bool) (e:us = [.bool b]) (k:K (.bool b))
theorem can9 {W:Wd} (B:Blts W) {a:Addr} {fd:FuncData} (f:Fun W 9 "_truth" a fd) (n:Nat):Can W (n + 1) "_truth" P9:=by
  obtain ⟨b1,b2,b3,b4,b5,b6,b7,b8,b9,b10,b11,b12,b13,b14⟩:=B
  refine fun_run f (xs:=["x"]) (sl_seq (ss_assign (se_call_t cb_type b8 (sg_cons (se_name _) sg_nil))) (sl_seq (ss_ite (st_bool (sa_or (st_cmp (se_name _) se_none) (sa_or (st_cmp (se_name _) (se_blt_ty b10)) (sa_or (st_cmp (se_name _) (se_name _)) (sa_or (st_cmp (se_name _) (se_name _)) (sa_or (st_cmp (se_name _) (se_name _)) (sa_or (st_cmp (se_name _) (se_blt_ty b9)) (sa_or (st_cmp (se_name _) (se_blt_ty b7)) (sa_or (st_cmp (se_name _) (se_name _)) (sa_or (st_cmp (se_name _) (se_name _)) (sa_or (st_cmp (se_name _) (se_name _)) (sa_or (st_cmp (se_name _) (se_name _)) (sa_or (st_cmp (se_name _) (se_name _)) (sa_or (st_cmp (se_name _) (se_name _)) (sa_or (st_cmp (se_name _) (se_name _)) sa_or_nil))))))))))))))) (sl_seq (ss_return (se_if (st_name _) (se_bool true) (se_bool false))) sl_nil) sl_nil) (sl_seq (ss_add _ (se_int _)) sl_nil))) (bind1 fun fd v h h' => by unfold bindArgs; rw [h,h']; rfl) ?_
  rintro us K X ⟨b,rfl,hK⟩
  refine ⟨rfl,?_⟩
  cases b <;> exact typeI rfl hK
inductive P7 (us:List V) (K:V → Prop) (X:Value → Prop):Prop
  | mk (b:List UInt8) (e:us = [.bytes b]) (k:K (.bytes b))
theorem can7 {W:Wd} (B:Blts W) {a:Addr} {fd:FuncData} (f:Fun W 7 "_ascii_buffer" a fd) (n:Nat):Can W (n + 1) "_ascii_buffer" P7:=by
  obtain ⟨b1,b2,b3,b4,b5,b6,b7,b8,b9,b10,b11,b12,b13,b14⟩:=B
  refine fun_run f (xs:=["data"]) (sl_seq (ss_assign (se_call_t cb_type b8 (sg_cons (se_name _) sg_nil))) (sl_seq (ss_ite (st_cmp (se_name _) (se_blt_ty b9)) (sl_seq (ss_ite (st_not (st_val (se_meth0 cb_isascii (se_name _) PySem.F.plainAttrs_str PySem.F.slot_str_isascii PySem.F.type_str_isascii))) (sl_seq ss_false sl_nil) sl_nil) (sl_seq (ss_return (se_encode (se_name _))) sl_nil)) sl_nil) (sl_seq (ss_ite (st_cmp (se_name _) (se_blt_ty b7)) (sl_seq (ss_return (se_name _)) sl_nil) sl_nil) (sl_seq (ss_ite (st_cmp (se_name _) (se_name _)) (sl_seq (ss_return (se_call_t cb_bytes b7 (sg_cons (se_name _) sg_nil))) sl_nil) sl_nil) (sl_seq (ss_add _ (se_int _)) sl_nil))))) (bind1 fun fd v h h' => by unfold bindArgs; rw [h,h']; rfl) ?_
  rintro us K X ⟨b,rfl,hK⟩
  exact ⟨rfl,typeI rfl hK⟩
theorem can8 {W:Wd} (B:Blts W) {a:Addr} {fd:FuncData} (f:Fun W 8 "_buffer" a fd) (n:Nat):Can W (n + 1) "_buffer" P7:=by
  obtain ⟨b1,b2,b3,b4,b5,b6,b7,b8,b9,b10,b11,b12,b13,b14⟩:=B
  refine fun_run f (xs:=["data"]) (sl_seq (ss_assign (se_call_t cb_type b8 (sg_cons (se_name _) sg_nil))) (sl_seq (ss_ite (st_cmp (se_name _) (se_blt_ty b7)) (sl_seq (ss_return (se_name _)) sl_nil) sl_nil) (sl_seq (ss_ite (st_cmp (se_name _) (se_name _)) (sl_seq (ss_return (se_call_t cb_bytes b7 (sg_cons (se_name _) sg_nil))) sl_nil) sl_nil) (sl_seq (ss_add _ (se_int _)) sl_nil)))) (bind1 fun fd v h h' => by unfold bindArgs; rw [h,h']; rfl) ?_
  rintro us K X ⟨b,rfl,hK⟩
  exact ⟨rfl,typeI rfl hK⟩
inductive P4 (us:List V) (K:V → Prop) (X:Value → Prop):Prop
  | str (x:List Nat) (e:us = [.str x]) (f:fits x.length) (k:if ascL x = true then K (.bytes (bytesL x)) else X (.type "ValueError"))
  | byt (b:List UInt8) (e:us = [.bytes b]) (k:K (.bytes b))
theorem can4 {W:Wd} (B:Blts W) (T:Tops W) {a:Addr} {fd:FuncData} (f:Fun W 4 "_bytes_from_decode_data" a fd) (n:Nat):Can W (n + 1) "_bytes_from_decode_data" P4:=by
  obtain ⟨b1,b2,b3,b4,b5,b6,b7,b8,b9,b10,b11,b12,b13,b14⟩:=B
  have t8:=T.bt
  have t9:=T.btat
  refine fun_run f (xs:=["s"]) (sl_seq (ss_ite (st_val (se_call_b cb_isi b11 (sg_cons (se_name _) (sg_cons (se_blt_ty b9) sg_nil)))) (sl_seq (ss_try_enc (se_name _) b14 b13) sl_nil) sl_nil) (sl_seq (ss_ite (st_val (se_isi_bt b11 t8 t9)) (sl_seq (ss_return (se_name _)) sl_nil) sl_nil) (sl_seq ss_false sl_nil))) (bind1 fun fd v h h' => by unfold bindArgs; rw [h,h']; rfl) ?_
  rintro us K X (⟨x,rfl,hf,hK⟩ | ⟨b,rfl,hK⟩)
  · exact ⟨rfl,isiS (Exists.intro x ⟨rfl,hf,hK⟩)⟩
  · exact ⟨rfl,isiB (And.intro ⟨b,rfl⟩ hK)⟩
inductive P26 (us:List V) (K:V → Prop) (X:Value → Prop):Prop
  | mk (c:Nat) (e:us = [.str [c]]) (l:c < 128) (m:missF c = true) (k:K (.str [c]))
theorem can26 {W:Wd} (B:Blts W) (T:Tops W) {a:Addr} {fd:FuncData} (f:Fun W 26 "escape" a fd) (n:Nat):Can W (n + 1) "escape" P26:=by
  obtain ⟨b1,b2,b3,b4,b5,b6,b7,b8,b9,b10,b11,b12,b13,b14⟩:=B
  have t6:=T.special
  have t7:=T.miss
  refine fun_run f (xs:=["pattern"]) (sl_seq (ss_ite (st_val (se_call_b cb_isi b11 (sg_cons (se_name _) (sg_cons (se_blt_ty b9) sg_nil)))) (sl_seq (ss_return (se_meth (cb_strtr t7) (se_name _) (sg_cons (se_glob_ref t6) sg_nil) PySem.F.plainAttrs_str PySem.F.slot_str_translate PySem.F.type_str_translate)) sl_nil) (sl_seq (ss_assign se_false) (sl_seq (ss_return se_false) sl_nil))) sl_nil) (bind1 fun fd v h h' => by unfold bindArgs; rw [h,h']; rfl) ?_
  rintro us K X ⟨c,rfl,h1,h2,hK⟩
  exact ⟨rfl,isiS (And.intro rfl (trmP.mk c rfl ⟨h1,h2⟩ hK))⟩
end
noncomputable section
set_option maxHeartbeats 4000000
structure ASt where
  q:Nat
  l:Nat
  p:Nat
  out:List Nat
noncomputable def ASt.step (s:ASt) (c:Nat):ASt :=
  if c = 61 then { s with p:=s.p + 1 }
  else if 64 ≤ b64v c then s
  else if s.q = 0 then ⟨1,b64v c,0,s.out⟩
  else if s.q = 1 then ⟨2,b64v c % 16,0,s.out ++ [s.l * 4 + b64v c / 16]⟩
  else if s.q = 2 then ⟨3,b64v c % 4,0,s.out ++ [s.l * 16 + b64v c / 4]⟩
  else ⟨0,0,0,s.out ++ [s.l * 64 + b64v c]⟩
noncomputable def ASt.run (s:ASt):List Nat → ASt
  | [] => s
  | c :: r => (s.step c).run r
noncomputable def a2bP (cs:List Nat):Option (List Nat) :=
  let s:=(⟨0,0,0,[]⟩:ASt).run cs
  if s.q = 1 then none else if s.q ≠ 0 ∧ s.q + s.p < 4 then none else some s.out
structure ASt.Ok (s:ASt):Prop where
  q:(s.q = 0) ∨ (s.q = 1 ∧ s.l < 64) ∨ (s.q = 2 ∧ s.l < 16) ∨ (s.q = 3 ∧ s.l < 4)
  out:∀ o ∈ s.out,o < 256
theorem ASt.run_append (s:ASt):∀ (l m:List Nat),s.run (l ++ m) = (s.run l).run m:=by
  intro l
  induction l generalizing s with
  | nil => intro m; rfl
  | cons c r ih => intro m; exact ih (s.step c) m
theorem mul_lt {x y k m:Nat} (hx:x < m) (hy:y < k):x * k + y < m * k:=Nat.lt_of_lt_of_le (Nat.add_lt_add_left hy _) (by rw [← Nat.succ_mul]; exact Nat.mul_le_mul_right k hx)
theorem ASt.step_ok {s:ASt} (h:s.Ok) (c:Nat):(s.step c).Ok:=by
  obtain ⟨h1,h2⟩:=h
  unfold ASt.step
  by_cases c1:c = 61
  · rw [if_pos c1]; exact ⟨h1,h2⟩
  rw [if_neg c1]
  by_cases c2:64 ≤ b64v c
  · rw [if_pos c2]; exact ⟨h1,h2⟩
  rw [if_neg c2]
  have hv:=Nat.lt_of_not_le c2
  have push:∀ {x},x < 256 → ∀ o ∈ s.out ++ [x],o < 256:=fun hx o ho => (List.mem_append.mp ho).elim (h2 o) fun h => by rw [List.mem_singleton.mp h]; exact hx
  rcases h1 with e | ⟨e,hl⟩ | ⟨e,hl⟩ | ⟨e,hl⟩
  · rw [if_pos e]; exact ⟨.inr (.inl ⟨rfl,hv⟩),h2⟩
  · rw [if_neg (by rw [e]; decide),if_pos e]; exact ⟨.inr (.inr (.inl ⟨rfl,Nat.mod_lt _ (by decide)⟩)),push (mul_lt hl (Nat.div_lt_of_lt_mul hv))⟩
  · rw [if_neg (by rw [e]; decide),if_neg (by rw [e]; decide),if_pos e]; exact ⟨.inr (.inr (.inr ⟨rfl,Nat.mod_lt _ (by decide)⟩)),push (mul_lt hl (Nat.div_lt_of_lt_mul hv))⟩
  · rw [if_neg (by rw [e]; decide),if_neg (by rw [e]; decide),if_neg (by rw [e]; decide)]; exact ⟨.inl rfl,push (mul_lt hl hv)⟩
theorem ASt.run_ok {s:ASt} (h:s.Ok):∀ l:List Nat,(s.run l).Ok:=by
  intro l
  induction l generalizing s with
  | nil => exact h
  | cons c r ih => exact ih (s.step_ok h c)
theorem ASt.run_len (s:ASt):∀ l:List Nat,(s.run l).out.length ≤ s.out.length + l.length:=by
  intro l
  induction l generalizing s with
  | nil => exact Nat.le_refl _
  | cons c r ih =>
    have h1:=ih (s.step c)
    have h2:(s.step c).out.length ≤ s.out.length + 1:=by
      unfold ASt.step
      repeat' split
      all_goals simp
    simp only [ASt.run,List.length_cons]
    omega
theorem ifSame {d:Bool} {p:Prop} (h:p):if d = true then p else p:=by cases d <;> exact h
noncomputable def aRaw (b:List UInt8) (o:List V) (q l p i:Int) (tl:Sto):Sto:=("data",.val (.bytes b)) :: ("strict_mode",.val (.bool false)) :: ("ascii_data",.val (.bytes b)) :: ("out",.own o) ::
  ("quad_pos",.val (.int q)) :: ("leftchar",.val (.int l)) :: ("pads",.val (.int p)) :: ("i",.val (.int i)) :: tl
noncomputable def outV (l:List Nat):List V:=vints (l.map (fun (x:Nat) => (x:Int)))
noncomputable def aSto (b:List UInt8) (s:ASt) (i:Int) (tl:Sto):Sto:=aRaw b (outV s.out) s.q s.l s.p i tl
theorem outV_snoc {l:List Nat} {x:Nat} {y:Int} (h:y = x):outV l ++ [V.int y] = outV (l ++ [x]):=by unfold outV vints; rw [List.map_append,List.map_append,h]; rfl
theorem outV_app (l m:List Nat):outV l ++ outV m = outV (l ++ m):=by unfold outV vints; rw [List.map_append,List.map_append]
theorem outV_len (l:List Nat):(outV l).length = l.length:=by unfold outV vints; rw [List.length_map,List.length_map]
theorem small_nat {n:Nat} (h:n < 256):small (n:Int):=by
  show n < 2 ^ 64
  exact Nat.lt_of_lt_of_le h (by decide)
inductive Tail1 (x:String):Sto → Prop
  | nil:Tail1 x []
  | one (v:V):Tail1 x [(x,.val v)]
theorem Tail1.noApp {x y:String} {tl:Sto} (h:Tail1 x tl):hasApp tl y = false:=by cases h <;> rfl
inductive AInv (b:List UInt8) (s:ASt) (σ:Sto):Prop
  | mk (i:Int) (tl:Sto) (h:Tail1 "this_ch" tl) (e:σ = aSto b s i tl)
inductive P12 (us:List V) (K:V → Prop) (X:Value → Prop):Prop
  | mk (b:List UInt8) (e:us = [.bytes b,.bool false]) (l:b.length ≤ 1000) (k:match a2bP (b.map (·.toNat)) with
  | some out => K (.bytes (out.map (·.toUInt8)))
  | none => X (.ref 56))
theorem sfk_of {W:Wd} {k:Nat} {name:String} {a:Addr} {fd:FuncData} (f:Fun W k name a fd) {n:Nat} {t:TS} {x y:String} (hb:SL W (fnScope (fn k)) n (fnBody (fn k)) t)
    (hbind:∀ fd:FuncData,fd.params = fnParams (fn k) → fd.defaults = .none → ∀ v w,bindArgs fd ⟨[v],[(nm y,w)]⟩ = pure (bindsOf [x,y] [v,w]))
    (hnd:[x,y].Nodup:=by decide) (hk:∀ z ∈ [x,y],storable (fnScope (fn k)) z = true:=by decide +kernel) :
    SF W (n + 1) a [nm y] (fun us K X => us.length = 2 ∧ t (retPost K X) (stoOf [x,y] us)):=by
  have hb':SL W fd.scope n (fnBody (fn k)) t:=by rw [f.scope]; exact hb
  exact sf_kw1 f.lim f.at_ hb' (fun s v w ℓ => .of_eq (hbind fd f.params f.dflt v w)) hnd (by rw [f.scope]; exact hk)
theorem cank_of {W:Wd} {k:Nat} {name kw:String} {a:Addr} {fd:FuncData} (f:Fun W k name a fd) {n:Nat} {P:List V → (V → Prop) → (Value → Prop) → Prop} (h:SF W n a [nm kw] P):CanK W n name kw P:=⟨a,f.glob,f.fn,h⟩
theorem b64v_le (c:Nat):b64v c ≤ 64:=by
  unfold b64v
  repeat' split
  all_goals omega
theorem can12 {W:Wd} (B:Blts W) (T:Tops W) {a:Addr} {fd:FuncData} (f:Fun W 12 "a2b_base64" a fd) (n:Nat)
    (c7:Can W n "_ascii_buffer" P7) (c9:Can W n "_truth" P9) (c11:Can W n "_b64_value" P11):CanK W (n + 1) "a2b_base64" "strict_mode" P12:=by
  obtain ⟨b1,b2,b3,b4,b5,b6,b7,b8,b9,b10,b11,b12,b13,b14⟩:=B
  have t10:=T.err
  refine cank_of f (SF.mono (sfk_of f (x:="data") (y:="strict_mode") (sl_seq (ss_assign (se_can c7 (sg_cons (se_name _) sg_nil))) (sl_seq (ss_assign (se_can c9 (sg_cons (se_name _) sg_nil))) (sl_seq (ss_assign_own (so_list sg_nil)) (sl_seq (ss_assign (se_int _)) (sl_seq (ss_assign (se_int _)) (sl_seq (ss_assign (se_int _)) (sl_seq (ss_assign (se_int _)) (sl_seq (ss_for (se_name _) (sl_seq (ss_ite (st_cmp (se_name _) (se_int _)) (sl_seq (ss_assign (se_bin2 (se_name _) (se_int _))) (sl_seq (ss_ite (st_bool (sa_and (st_cmp (se_name _) (se_int _)) (sa_and (st_cmp (se_bin2 (se_name _) (se_name _)) (se_int _)) sa_and_nil))) (sl_seq (ss_assign (se_bin2 (se_name _) (se_int _))) (sl_seq ss_continue sl_nil)) sl_nil) (sl_seq (ss_ite (st_not (st_name _)) (sl_seq (ss_assign (se_bin2 (se_name _) (se_int _))) (sl_seq ss_continue sl_nil)) sl_nil) (sl_seq (ss_ite (st_cmp (se_name _) (se_int _)) (sl_seq ss_break sl_nil) sl_nil) (sl_seq (ss_ite (st_bool (sa_and (st_cmp (se_name _) (se_int _)) (sa_and (st_cmp (se_name _) (se_int _)) sa_and_nil))) (sl_seq (ss_raise t10 (se_strc _)) sl_nil) sl_nil) (sl_seq (ss_raise t10 (se_strc _)) sl_nil)))))) sl_nil) (sl_seq (ss_assign (se_can c11 (sg_cons (se_name _) sg_nil))) (sl_seq (ss_ite (st_cmp (se_name _) (se_int _)) (sl_seq (ss_ite (st_name _) (sl_seq (ss_raise t10 (se_strc _)) sl_nil) sl_nil) (sl_seq (ss_assign (se_bin2 (se_name _) (se_int _))) (sl_seq ss_continue sl_nil))) sl_nil) (sl_seq (ss_ite (st_bool (sa_and (st_name _) (sa_and (st_name _) sa_and_nil))) (sl_seq (ss_ite (st_cmp (se_bin2 (se_name _) (se_name _)) (se_int _)) (sl_seq (ss_raise t10 (se_strc _)) sl_nil) sl_nil) (sl_seq (ss_raise t10 (se_strc _)) sl_nil)) sl_nil) (sl_seq (ss_assign (se_int _)) (sl_seq (ss_ite (st_cmp (se_name _) (se_int _)) (sl_seq (ss_assign (se_int _)) (sl_seq (ss_assign (se_name _)) sl_nil)) (sl_seq (ss_ite (st_cmp (se_name _) (se_int _)) (sl_seq (ss_assign (se_int _)) (sl_seq (ss_append _ (se_bin2 (se_bin2 (se_name _) (se_int _)) (se_bin2 (se_name _) (se_int _)))) (sl_seq (ss_assign (se_bin2 (se_name _) (se_int _))) sl_nil))) (sl_seq (ss_ite (st_cmp (se_name _) (se_int _)) (sl_seq (ss_assign (se_int _)) (sl_seq (ss_append _ (se_bin2 (se_bin2 (se_name _) (se_int _)) (se_bin2 (se_name _) (se_int _)))) (sl_seq (ss_assign (se_bin2 (se_name _) (se_int _))) sl_nil))) (sl_seq (ss_assign (se_int _)) (sl_seq (ss_append _ (se_bin2 (se_bin2 (se_name _) (se_int _)) (se_name _))) (sl_seq (ss_assign (se_int _)) sl_nil)))) sl_nil)) sl_nil)) (sl_seq (ss_assign (se_bin2 (se_name _) (se_int _))) sl_nil)))))))) (sl_seq (ss_ite (st_cmp (se_name _) (se_int _)) (sl_seq (ss_raise t10 (se_pct (se_bin2 (se_bin2 (se_bin2 (se_len _ b1) (se_int _)) (se_int _)) (se_int _)))) sl_nil) sl_nil) (sl_seq (ss_ite (st_bool (sa_and (st_cmp (se_name _) (se_int _)) (sa_and (st_cmp (se_bin2 (se_name _) (se_name _)) (se_int _)) sa_and_nil))) (sl_seq (ss_raise t10 (se_strc _)) sl_nil) sl_nil) (sl_seq (ss_return (se_call_t cb_bytes b7 (sg_cons (se_name _) sg_nil))) sl_nil))))))))))) ?_) ?_)
  · intro fd h h' v w
    unfold bindArgs; rw [h,h']; rfl
  · rintro us K X ⟨b,rfl,hb,hK⟩
    refine ⟨rfl,?_⟩
    let S:Nat → ASt:=fun k => (⟨0,0,0,[]⟩:ASt).run ((b.map (·.toNat)).take k)
    have hok0:(⟨0,0,0,[]⟩:ASt).Ok:=⟨.inl rfl,fun o h => by cases h⟩
    refine P7.mk b rfl (P9.mk false rfl (And.intro (Nat.zero_le _) (And.intro rfl (Exists.intro _ (And.intro rfl (forI_rule (I:=fun k σ => AInv b (S k) σ) _ ?_ ?_ _ ⟨0,[],.nil,rfl⟩))))))
    · rintro k u σ N hk ⟨i,tl,ht,rfl⟩ hN
      simp only [List.getElem?_map,Option.map_eq_some_iff] at hk
      obtain ⟨c,hc,rfl⟩:=hk
      have hSk:S (k + 1) = (S k).step c.toNat:=by
        show ASt.run _ _ = _
        rw [List.take_add_one,List.getElem?_map,hc]
        exact ASt.run_append _ _ _
      have hok:(S k).Ok:=ASt.run_ok hok0 _
      have hlen:(S k).out.length ≤ 1000:=by
        have:=ASt.run_len ⟨0,0,0,[]⟩ ((b.map (·.toNat)).take k)
        have h2:((b.map (·.toNat)).take k).length ≤ 1000:=by rw [List.length_take,List.length_map]; exact Nat.le_trans (Nat.min_le_right _ _) hb
        rw [List.length_nil,Nat.zero_add] at this
        exact Nat.le_trans this h2
      rw [hSk] at hN
      generalize S k = s at *
      have hfo:fits (outV s.out).length:=by
        rw [outV_len]
        exact Nat.le_trans hlen (by decide)
      have fin:∀ (s':ASt) {o:List V} {q l p i':Int} {v:V},s.step c.toNat = s' → o = outV s'.out → q = s'.q → l = s'.l → p = s'.p → N (aRaw b o q l p i' [("this_ch",.val v)]):=fun s' o q l p i' v e h1 h2 h3 h4 => hN _ ⟨i',_,.one v,by rw [e,h1,h2,h3,h4]; rfl⟩
      rw [show put (aSto b s i tl) "this_ch" (.val (.int c.toNat)) = aSto b s i [("this_ch",.val (.int c.toNat))] by cases ht <;> rfl]
      unfold ASt.step at fin
      generalize c.toNat = c at *
      by_cases h61:c = 61
      · have fin {i' v}:N (aRaw b (outV s.out) s.q s.l (s.p + 1) i' [("this_ch",.val v)]):=fin ⟨s.q,s.l,s.p + 1,s.out⟩ (if_pos h61) rfl rfl rfl rfl
        exact ifT (decide_eq_true (by rw [h61]; rfl)) (ifB (fun ℓ => ifB (fun ℓ => fin) fun ℓ => fin) fun ℓ => fin)
      rw [if_neg h61] at fin
      refine ifF (decide_eq_false fun q => h61 (Int.ofNat_inj.mp q)) (P11.mk c rfl ?_)
      have hv64:b64v c ≤ 64:=b64v_le c
      generalize b64v c = v at *
      by_cases hv:64 ≤ v
      · exact ifT (decide_eq_true (Int.ofNat_le.mpr hv)) (fin s (if_pos hv) rfl rfl rfl rfl)
      rw [if_neg hv] at fin
      refine ifF (decide_eq_false fun q => hv (Int.ofNat_le.mp q)) (ifSame (ifF rfl ?_))
      have hsv:small (v:Int):=small_nat (Nat.lt_of_le_of_lt hv64 (by decide))
      obtain ⟨hq4,_⟩:=hok
      rcases hq4 with hq | ⟨hq,hl⟩ | ⟨hq,hl⟩ | ⟨hq,hl⟩
      · exact ifT (decide_eq_true (by rw [hq]; rfl)) (fin ⟨1,v,0,s.out⟩ (if_pos hq) rfl rfl rfl rfl)
      · refine ifF (decide_eq_false (by rw [hq]; decide)) (ifT (decide_eq_true (by rw [hq]; rfl)) fun a => And.intro ⟨small_nat (Nat.lt_trans hl (by decide)),by decide,by decide⟩ (And.intro (by decide) (And.intro rfl (And.intro rfl (And.intro hfo ?_)))))
        have e:Builtin.bitOr ((s.l:Int) * 2 ^ (2:Int).toNat) ((v:Int).fdiv (2 ^ (4:Int).toNat)) = ((s.l * 4 + v / 16:Nat):Int) :=
          (congrArg (Builtin.bitOr _) (fdiv_nat v 16)).trans (or_shift s.l (v / 16) 2 (by omega))
        exact fin ⟨2,v % 16,0,s.out ++ [s.l * 4 + v / 16]⟩ ((if_neg (by rw [hq]; decide)).trans (if_pos hq)) (outV_snoc e) rfl (and15 v) rfl
      · refine ifF (decide_eq_false (by rw [hq]; decide)) (ifF (decide_eq_false (by rw [hq]; decide)) (ifT (decide_eq_true (by rw [hq]; rfl)) fun a => And.intro ⟨small_nat (Nat.lt_trans hl (by decide)),by decide,by decide⟩ (And.intro (by decide) (And.intro rfl (And.intro rfl (And.intro hfo ?_))))))
        have e:Builtin.bitOr ((s.l:Int) * 2 ^ (4:Int).toNat) ((v:Int).fdiv (2 ^ (2:Int).toNat)) = ((s.l * 16 + v / 4:Nat):Int) :=
          (congrArg (Builtin.bitOr _) (fdiv_nat v 4)).trans (or_shift s.l (v / 4) 4 (by omega))
        exact fin ⟨3,v % 4,0,s.out ++ [s.l * 16 + v / 4]⟩ ((if_neg (by rw [hq]; decide)).trans ((if_neg (by rw [hq]; decide)).trans (if_pos hq))) (outV_snoc e) rfl (and3 v) rfl
      · refine ifF (decide_eq_false (by rw [hq]; decide)) (ifF (decide_eq_false (by rw [hq]; decide)) (ifF (decide_eq_false (by rw [hq]; decide)) fun a => And.intro ⟨small_nat (Nat.lt_trans hl (by decide)),by decide,by decide⟩ (And.intro rfl (And.intro rfl (And.intro hfo ?_)))))
        exact fin ⟨0,0,0,s.out ++ [s.l * 64 + v]⟩ ((if_neg (by rw [hq]; decide)).trans ((if_neg (by rw [hq]; decide)).trans (if_neg (by rw [hq]; decide)))) (outV_snoc (or_shift s.l v 6 (Nat.lt_of_not_le hv))) rfl rfl rfl
    · rintro σ' ⟨i,tl,ht,rfl⟩
      have hSl:S (List.map (fun c => V.int ↑c.toNat) b).length = (⟨0,0,0,[]⟩:ASt).run (b.map (·.toNat)):=by
        show ASt.run _ _ = _
        rw [List.take_of_length_le (by rw [List.length_map,List.length_map]; exact Nat.le_refl _)]
      rw [hSl]
      unfold a2bP at hK
      have hok:((⟨0,0,0,[]⟩:ASt).run (b.map (·.toNat))).Ok:=ASt.run_ok hok0 _
      have hlen:=ASt.run_len ⟨0,0,0,[]⟩ (b.map (·.toNat))
      generalize (⟨0,0,0,[]⟩:ASt).run (b.map (·.toNat)) = s at *
      rw [List.length_nil,Nat.zero_add,List.length_map] at hlen
      have hlen:=Nat.le_trans hlen hb
      have hfo:fits (outV s.out).length:=by
        rw [outV_len]
        exact Nat.le_trans hlen (by decide)
      dsimp only at hK
      by_cases h1:s.q = 1
      · rw [if_pos h1] at hK
        have e3:((outV s.out).length:Int).fdiv 3 = ((s.out.length / 3:Nat):Int):=(congrArg (fun m:Nat => (m:Int).fdiv 3) (outV_len _)).trans (fdiv_nat _ 3)
        have hl3:s.out.length / 3 ≤ 1000:=Nat.le_trans (Nat.div_le_self _ _) hlen
        refine ifT (decide_eq_true (by rw [h1]; rfl)) (And.intro hfo (And.intro ⟨by decide,small_nat (n:=3) (by decide)⟩ (And.intro ?_ (Exists.intro _ (And.intro rfl (And.intro ?_ (And.intro ?_ fun ℓ => hK)))))))
        · rw [e3]
          exact Nat.lt_of_le_of_lt hl3 (by decide)
        · rw [e3]; omega
        · rw [e3]; omega
      rw [if_neg h1] at hK
      refine ifF (decide_eq_false fun q => h1 (Int.ofNat_inj.mp q)) ?_
      by_cases h2:s.q ≠ 0 ∧ s.q + s.p < 4
      · rw [if_pos h2] at hK
        exact ifT (bne_iff_ne.mpr fun q => h2.1 (Int.ofNat_inj.mp q)) (ifT (decide_eq_true (by have:=h2.2; omega)) hK)
      rw [if_neg h2] at hK
      have fin {Q:V → Prop} (hQ:Q (.bytes (s.out.map (·.toUInt8)))):bytesP [.list (outV s.out)] Q:=by
        refine bytesP.mk _ rfl ?_ (fun n hn => ?_) (by rw [List.map_map]; exact hQ)
        · rw [List.length_map]
          exact Nat.le_trans hlen (by decide)
        · obtain ⟨o,ho',rfl⟩:=List.mem_map.mp hn
          exact ⟨Int.natCast_nonneg _,Int.ofNat_lt.mpr (hok.out o ho')⟩
      exact ifB (fun q => ifF (decide_eq_false fun q' => h2 ⟨fun q0 => bne_iff_ne.mp q (by rw [q0]; rfl),by omega⟩) (fin hK)) fun ℓ => fin hK
end
noncomputable section
set_option maxHeartbeats 4000000
noncomputable def bch (k:Nat):Nat:=(B64L.getD k 0).toNat
theorem bch_lt (k:Nat):bch k < 256:=UInt8.toNat_lt _
structure BSt where
  lb:Nat
  lc:Nat
  out:List Nat
noncomputable def BSt.step (s:BSt) (b:Nat):BSt :=
  if s.lb = 0 then ⟨2,(s.lc * 256 + b) % 65536,s.out ++ [bch ((s.lc * 256 + b) % 65536 / 4 % 64)]⟩
  else if s.lb = 2 then ⟨4,(s.lc * 256 + b) % 65536,s.out ++ [bch ((s.lc * 256 + b) % 65536 / 16 % 64)]⟩
  else ⟨0,(s.lc * 256 + b) % 65536,s.out ++ [bch ((s.lc * 256 + b) % 65536 / 64 % 64),bch ((s.lc * 256 + b) % 65536 / 1 % 64)]⟩
noncomputable def BSt.run (s:BSt):List Nat → BSt
  | [] => s
  | c :: r => (s.step c).run r
noncomputable def b2aP (cs:List Nat):List Nat :=
  let s:=(⟨0,0,[]⟩:BSt).run cs
  if s.lb = 2 then s.out ++ [bch (s.lc % 4 * 16),61,61] else if s.lb = 4 then s.out ++ [bch (s.lc % 16 * 4),61] else s.out
theorem BSt.run_append (s:BSt):∀ (l m:List Nat),s.run (l ++ m) = (s.run l).run m:=by
  intro l
  induction l generalizing s with
  | nil => intro m; rfl
  | cons c r ih => intro m; exact ih (s.step c) m
structure BSt.Ok (s:BSt) (k:Nat):Prop where
  q:s.lb = 0 ∨ s.lb = 2 ∨ s.lb = 4
  lc:s.lc < 65536
  out:∀ o ∈ s.out,o < 256
  len:s.out.length ≤ 2 * k
theorem BSt.step_ok {s:BSt} {k:Nat} (h:s.Ok k) (c:Nat):(s.step c).Ok (k + 1):=by
  obtain ⟨h1,h2,h3,h4⟩:=h
  have hb:=bch_lt
  unfold BSt.step
  split
  · refine ⟨.inr (.inl rfl),by simp only; omega,fun o ho => ?_,by simp; omega⟩
    rcases List.mem_append.mp ho with ho | ho
    · exact h3 o ho
    · simp at ho; rw [ho]; exact hb _
  split
  · refine ⟨.inr (.inr rfl),by simp only; omega,fun o ho => ?_,by simp; omega⟩
    rcases List.mem_append.mp ho with ho | ho
    · exact h3 o ho
    · simp at ho; rw [ho]; exact hb _
  · refine ⟨.inl rfl,by simp only; omega,fun o ho => ?_,by simp; omega⟩
    rcases List.mem_append.mp ho with ho | ho
    · exact h3 o ho
    · simp at ho; rcases ho with ho | ho <;> (rw [ho]; exact hb _)
theorem BSt.run_ok {s:BSt} {k:Nat} (h:s.Ok k):∀ l:List Nat,(s.run l).Ok (k + l.length):=by
  intro l
  induction l generalizing s k with
  | nil => exact h
  | cons c r ih =>
    have:=ih (s.step_ok h c)
    rw [show k + (c :: r).length = k + 1 + r.length by simp; omega]
    exact this
noncomputable def bRaw (d:List UInt8) (o:List V) (lb lc:Int) (tl:Sto):Sto:=("data",.val (.bytes d)) :: ("newline",.val (.bool false)) :: ("bin_data",.val (.bytes d)) :: ("out",.own o) :: ("leftbits",.val (.int lb)) :: ("leftchar",.val (.int lc)) :: tl
inductive BInv (d:List UInt8) (s:BSt) (σ:Sto):Prop
  | mk (tl:Sto) (h:Tail1 "b" tl) (e:σ = bRaw d (outV s.out) s.lb s.lc tl)
theorem idxB {K:UInt8 → Prop} {i:Int} {k:Nat} (h:i = k) (hk:k < 64) (hK:K (B64L.getD k 0)):fits B64L.length ∧ 0 ≤ i ∧ ∃ c,B64L[i.toNat]? = some c ∧ K c:=by
  subst h
  have hl:B64L.length = 64:=rfl
  have hk':k < B64L.length:=by omega
  refine ⟨by unfold fits; rw [hl]; decide,by omega,B64L[k],?_,?_⟩
  · rw [Int.toNat_natCast,List.getElem?_eq_getElem hk']
  · have:B64L.getD k 0 = B64L[k]:=by rw [List.getD_eq_getElem?_getD,List.getElem?_eq_getElem hk']; rfl
    rw [← this]; exact hK
theorem fits_snoc {l:List V} {x:V} (h:l.length ≤ 9000):fits (l ++ [x]).length:=by rw [List.length_append]; exact Nat.le_trans (Nat.add_le_add_right h 1) (by decide)
theorem bytes_out {out:List Nat} {Q:V → Prop} (h1:∀ o ∈ out,o < 256) (h2:out.length ≤ 10000) (hQ:Q (.bytes (out.map (·.toUInt8)))):bytesP [.list (outV out)] Q:=by
  refine bytesP.mk _ rfl ?_ (fun n hn => ?_) (by rw [List.map_map]; exact hQ)
  · rw [List.length_map]
    exact h2
  · obtain ⟨o,ho',rfl⟩:=List.mem_map.mp hn
    exact ⟨Int.natCast_nonneg _,Int.ofNat_lt.mpr (h1 o ho')⟩
inductive P13 (us:List V) (K:V → Prop) (X:Value → Prop):Prop
  | mk (b:List UInt8) (e:us = [.bytes b,.bool false]) (l:b.length ≤ 100) (k:K (.bytes ((b2aP (b.map (·.toNat))).map (·.toUInt8))))
theorem can13 {W:Wd} (B:Blts W) (T:Tops W) {a:Addr} {fd:FuncData} (f:Fun W 13 "b2a_base64" a fd) (n:Nat)
    (c8:Can W n "_buffer" P7) (c9:Can W n "_truth" P9):CanK W (n + 1) "b2a_base64" "newline" P13:=by
  have b7:=B.bytes
  have t11:=T.b64
  refine cank_of f (SF.mono (sfk_of f (x:="data") (y:="newline") (sl_seq (ss_assign (se_can c8 (sg_cons (se_name _) sg_nil))) (sl_seq (ss_assign (se_can c9 (sg_cons (se_name _) sg_nil))) (sl_seq (ss_assign_own (so_list sg_nil)) (sl_seq (ss_assign (se_int _)) (sl_seq (ss_assign (se_int _)) (sl_seq (ss_for (se_name _) (sl_seq (ss_assign (se_bin2 (se_bin2 (se_bin2 (se_name _) (se_int _)) (se_name _)) (se_int _))) (sl_seq (ss_assign (se_bin2 (se_name _) (se_int _))) (sl_seq (ss_while (st_cmp (se_name _) (se_int _)) (sl_seq (ss_append _ (se_idx (se_glob_bytes t11) (se_bin2 (se_bin2 (se_name _) (se_bin2 (se_name _) (se_int _))) (se_int _)))) (sl_seq (ss_assign (se_bin2 (se_name _) (se_int _))) sl_nil))) sl_nil)))) (sl_seq (ss_ite (st_cmp (se_name _) (se_int _)) (sl_seq (ss_append _ (se_idx (se_glob_bytes t11) (se_bin2 (se_bin2 (se_name _) (se_int _)) (se_int _)))) (sl_seq (ss_append _ (se_int _)) (sl_seq (ss_append _ (se_int _)) sl_nil))) (sl_seq (ss_ite (st_cmp (se_name _) (se_int _)) (sl_seq (ss_append _ (se_idx (se_glob_bytes t11) (se_bin2 (se_bin2 (se_name _) (se_int _)) (se_int _)))) (sl_seq (ss_append _ (se_int _)) sl_nil)) sl_nil) sl_nil)) (sl_seq (ss_ite (st_name _) (sl_seq (ss_append _ (se_int _)) sl_nil) sl_nil) (sl_seq (ss_return (se_call_t cb_bytes b7 (sg_cons (se_name _) sg_nil))) sl_nil))))))))) ?_) ?_)
  · intro fd h h' v w
    unfold bindArgs; rw [h,h']; rfl
  · rintro us K X ⟨d,rfl,hb,hK⟩
    refine ⟨rfl,?_⟩
    let S:Nat → BSt:=fun k => (⟨0,0,[]⟩:BSt).run ((d.map (·.toNat)).take k)
    have hok0:(⟨0,0,[]⟩:BSt).Ok 0:=⟨.inl rfl,by decide,(fun o h => by cases h),Nat.le_refl _⟩
    refine P7.mk d rfl (P9.mk false rfl (And.intro (Nat.zero_le _) (And.intro rfl (Exists.intro _ (And.intro rfl (forI_rule (I:=fun k σ => BInv d (S k) σ) _ ?_ ?_ _ ⟨[],.nil,rfl⟩))))))
    · rintro k u σ N hk ⟨tl,ht,rfl⟩ hN
      simp only [List.getElem?_map,Option.map_eq_some_iff] at hk
      obtain ⟨c,hc,rfl⟩:=hk
      have hSk:S (k + 1) = (S k).step c.toNat:=by
        show BSt.run _ _ = _
        rw [List.take_add_one,List.getElem?_map,hc]
        exact BSt.run_append _ _ _
      have hok:(S k).Ok _:=BSt.run_ok hok0 _
      have hlen:0 + ((d.map (·.toNat)).take k).length ≤ 100:=by rw [Nat.zero_add,List.length_take,List.length_map]; exact Nat.le_trans (Nat.min_le_right _ _) hb
      generalize 0 + ((d.map (·.toNat)).take k).length = kk at hok hlen
      rw [hSk] at hN
      generalize S k = s at *
      have hc256:=c.toNat_lt
      obtain ⟨lb,lc,out⟩:=s
      obtain ⟨hq,hlc,hout,hol⟩:=hok
      have hlen9:(outV out).length ≤ 9000:=by rw [outV_len]; exact Nat.le_trans hol (Nat.le_trans (Nat.mul_le_mul_left 2 hlen) (by decide))
      have hfo:fits (outV out).length:=Nat.le_trans hlen9 (by decide)
      have fin:∀ (s':BSt) {o:List V} {q l:Int} {v:V},BSt.step ⟨lb,lc,out⟩ c.toNat = s' → o = outV s'.out → q = s'.lb → l = s'.lc → N (bRaw d o q l [("b",.val v)]):=fun s' o q l v e h1 h2 h3 => hN _ ⟨_,.one v,by rw [e,h1,h2,h3]⟩
      rw [show put (bRaw d (outV out) lb lc tl) "b" (.val (.int c.toNat)) = bRaw d (outV out) lb lc [("b",.val (.int c.toNat))] by cases ht <;> rfl]
      unfold BSt.step at fin
      generalize c.toNat = c at *
      have hsp:small (lc:Int):=Nat.lt_trans hlc (by decide)
      have e1:Builtin.bitAnd (Builtin.bitOr ((lc:Int) * 2 ^ (8:Int).toNat) (c:Int)) 65535 = (((lc * 256 + c) % 65536:Nat):Int):=(congrArg (Builtin.bitAnd · 65535) (or_shift lc c 8 hc256)).trans (and65535 _)
      have hx:∀ (k:Nat) {y:Int},y = (k:Int) → Builtin.bitAnd ((Builtin.bitAnd (Builtin.bitOr ((lc:Int) * 2 ^ (8:Int).toNat) (c:Int)) 65535).fdiv y) 63 = (((lc * 256 + c) % 65536 / k % 64:Nat):Int):=fun k y h => by rw [e1,h,fdiv_nat,and63]
      refine And.intro ⟨hsp,by decide,by decide⟩ ?_
      rcases hq with rfl | rfl | rfl
      · refine Exists.intro 3 fun a => And.intro (by decide) (idxB (hx 4 rfl) (Nat.mod_lt _ (by decide)) (And.intro rfl (And.intro rfl (And.intro hfo ?_))))
        exact fin ⟨2,_,_⟩ rfl (outV_snoc rfl) rfl e1
      · refine Exists.intro 3 fun a => And.intro (by decide) (idxB (hx 16 rfl) (Nat.mod_lt _ (by decide)) (And.intro rfl (And.intro rfl (And.intro hfo ?_))))
        exact fin ⟨4,_,_⟩ rfl (outV_snoc rfl) rfl e1
      · refine Exists.intro 3 fun a => And.intro (by decide) (idxB (hx 64 rfl) (Nat.mod_lt _ (by decide)) (And.intro rfl (And.intro rfl (And.intro hfo fun a' => And.intro (by decide) (idxB (hx 1 rfl) (Nat.mod_lt _ (by decide)) (And.intro rfl (And.intro rfl (And.intro (fits_snoc hlen9) ?_))))))))
        exact fin ⟨0,_,out ++ [bch ((lc * 256 + c) % 65536 / 64 % 64),bch ((lc * 256 + c) % 65536 / 1 % 64)]⟩ rfl ((List.append_assoc _ _ _).trans (outV_app out [_,_])) rfl e1
    · rintro σ' ⟨tl,ht,rfl⟩
      have hSl:S (List.map (fun c => V.int ↑c.toNat) d).length = (⟨0,0,[]⟩:BSt).run (d.map (·.toNat)):=by
        show BSt.run _ _ = _
        rw [List.take_of_length_le (by rw [List.length_map,List.length_map]; exact Nat.le_refl _)]
      rw [hSl]
      unfold b2aP at hK
      have hok:=BSt.run_ok hok0 (d.map (·.toNat))
      generalize (⟨0,0,[]⟩:BSt).run (d.map (·.toNat)) = s at *
      obtain ⟨lb,lc,out⟩:=s
      obtain ⟨hq,hlc,hout,hol⟩:=hok
      rw [List.length_map,Nat.zero_add] at hol
      have hl:out.length ≤ 200:=Nat.le_trans hol (Nat.mul_le_mul_left 2 hb)
      have hlen9:(outV out).length ≤ 9000:=by rw [outV_len]; exact Nat.le_trans hl (by decide)
      have hfo:fits (outV out).length:=Nat.le_trans hlen9 (by decide)
      have hlx:∀ x,(outV out ++ [x]).length ≤ 9000:=fun x => by rw [List.length_append,outV_len]; exact Nat.le_trans (Nat.add_le_add_right hl 1) (by decide)
      have hA:hasApp tl "out" = false:=ht.noApp
      rcases hq with rfl | rfl | rfl
      · exact bytes_out hout (Nat.le_trans hl (by decide)) hK
      · have fin:bytesP [.list (outV out ++ [.int (bch (lc % 4 * 16))] ++ [.int 61] ++ [.int 61])] K:=by
          rw [List.append_assoc,List.append_assoc,show outV out ++ ([V.int (bch (lc % 4 * 16))] ++ ([V.int 61] ++ [V.int 61])) = outV (out ++ [bch (lc % 4 * 16),61,61]) from outV_app out [_,61,61]]
          refine bytes_out (fun o h => ?_) (by rw [List.length_append]; exact Nat.le_trans (Nat.add_le_add_right hl _) (show 200 + _ ≤ 10000 from Nat.le_of_ble_eq_true rfl)) hK
          rcases List.mem_append.mp h with h | h
          · exact hout o h
          · rcases List.mem_cons.mp h with rfl | h
            · exact bch_lt _
            · exact (show ∀ x ∈ [61,61],x < 256 by decide) o h
        exact fun a => And.intro ⟨by rw [and3]; exact small_nat (Nat.lt_trans (Nat.mod_lt _ (by decide)) (by decide)),by decide,by decide⟩ (idxB (k:=lc % 4 * 16) ((congrArg (· * _) (and3 lc)).trans rfl) (by omega) (And.intro rfl (And.intro hA (And.intro hfo fun a' => And.intro rfl (And.intro hA (And.intro (fits_snoc hlen9) fun a'' => And.intro rfl (And.intro hA (And.intro (fits_snoc (hlx _)) fin))))))))
      · have fin:bytesP [.list (outV out ++ [.int (bch (lc % 16 * 4))] ++ [.int 61])] K:=by
          rw [List.append_assoc,show outV out ++ ([V.int (bch (lc % 16 * 4))] ++ [V.int 61]) = outV (out ++ [bch (lc % 16 * 4),61]) from outV_app out [_,61]]
          refine bytes_out (fun o h => ?_) (by rw [List.length_append]; exact Nat.le_trans (Nat.add_le_add_right hl _) (show 200 + _ ≤ 10000 from Nat.le_of_ble_eq_true rfl)) hK
          rcases List.mem_append.mp h with h | h
          · exact hout o h
          · rcases List.mem_cons.mp h with rfl | h
            · exact bch_lt _
            · exact (show ∀ x ∈ [61],x < 256 by decide) o h
        exact fun a => And.intro ⟨by rw [and15]; exact small_nat (Nat.lt_trans (Nat.mod_lt _ (by decide)) (by decide)),by decide,by decide⟩ (idxB (k:=lc % 16 * 4) ((congrArg (· * _) (and15 lc)).trans rfl) (by omega) (And.intro rfl (And.intro hA (And.intro hfo fun a' => And.intro rfl (And.intro hA (And.intro (fits_snoc hlen9) fin))))))
end
noncomputable section
set_option maxHeartbeats 4000000
structure FunD (W:Wd) (k:Nat) (name:String) (a:Addr) (fd:FuncData) (ds:List Value):Prop where
  at_:FnAt W a fd (fnBody (fn k))
  scope:fd.scope = fnScope (fn k)
  params:fd.params = fnParams (fn k)
  glob:GlobV W (nm name) (.ref a)
  lim:W.base.NoLimit
  dflt:∃ T o n,fd.defaults = .ref T ∧ W.base.get? T = some o ∧ o.data = .seq ds.toArray n
theorem fnd_fn {W:Wd} {k:Nat} {name:String} {a:Addr} {fd:FuncData} {ds:List Value} (f:FunD W k name a fd ds):∃ o fd,W.base.get? a = some o ∧ o.data = .func fd :=
  let ⟨o,h1,h2⟩:=f.at_.obj; ⟨o,fd,h1,h2⟩
theorem sfd_of {W:Wd} {k:Nat} {name:String} {a:Addr} {fd:FuncData} {ds:List Value} (f:FunD W k name a fd ds) {n:Nat} {t:TS} {xs:List String} (m:Nat) (dus:List V) (ds':List Value) (hm:m + ds'.length = xs.length) (hds:∀ F,Reps F ds' dus) (hb:SL W (fnScope (fn k)) n (fnBody (fn k)) t)
    (hbind:∀ fd:FuncData,fd.params = fnParams (fn k) → ∀ vs,vs.length = m → ∃ kk,bindArgs fd ⟨vs,[]⟩ = (seqItems? fd.defaults >>= kk) ∧ kk (some ds.toArray) = pure (bindsOf xs (vs ++ ds')))
    (hnd:xs.Nodup:=by decide) (hk:∀ x ∈ xs,storable (fnScope (fn k)) x = true:=by decide +kernel) :
    SF W (n + 1) a [] (fun us K X => us.length = m ∧ t (retPost K X) (stoOf xs (us ++ dus))):=by
  have hb':SL W fd.scope n (fnBody (fn k)) t:=by rw [f.scope]; exact hb
  obtain ⟨T,o,nn,h1,h2,h3⟩:=f.dflt
  refine sf_dflt f.lim f.at_ hb' m hm hds (fun s vs hs hv => ?_) hnd (by rw [f.scope]; exact hk)
  obtain ⟨kk,e1,e2⟩:=hbind fd f.params vs hv
  exact BindsTo.of_defaults h1 (hs _ _ h2) h3 e1 e2
theorem SF.or {W:Wd} {n:Nat} {a:Addr} {kw:List Str} {P P':List V → (V → Prop) → (Value → Prop) → Prop} (h:SF W n a kw P) (h':SF W n a kw P'):SF W n a kw (fun us K X => P us K X ∨ P' us K X) :=
  fun fx F σ s vs us K X E hr I r hk p hE => by
    rcases p with p | p
    · exact h fx F σ s vs us K X E hr I r hk p hE
    · exact h' fx F σ s vs us K X E hr I r hk p hE
theorem mkL_len (f x:List UInt8):(mkL f x).length = 256:=by unfold mkL; rw [Array.length_toList]; exact mkT_size _ _
theorem trL_len (b t:List UInt8):(trL b t).length = b.length:=by unfold trL; simp
noncomputable def enc (b:List UInt8):List UInt8:=(b2aP (b.map (·.toNat))).map (·.toUInt8)
theorem b2aP_len (l:List Nat):(b2aP l).length ≤ 2 * l.length + 3:=by
  have hok0:(⟨0,0,[]⟩:BSt).Ok 0:=⟨.inl rfl,by decide,(fun o h => by cases h),Nat.le_refl _⟩
  have:=(BSt.run_ok hok0 l).len
  unfold b2aP
  dsimp only
  repeat' split
  all_goals (try simp only [List.length_append,List.length_cons,List.length_nil]); omega
theorem enc_len (b:List UInt8):(enc b).length ≤ 2 * b.length + 3:=by
  have:=b2aP_len (b.map (·.toNat))
  unfold enc
  simpa using this
theorem fits2:fits 2:=show 2 ≤ 10000 by decide
inductive P15 (us:List V) (K:V → Prop) (X:Value → Prop):Prop
  | one (b:List UInt8) (e:us = [.bytes b]) (l:b.length ≤ 100) (k:K (.bytes (enc b)))
  | two (b:List UInt8) (x y:UInt8) (e:us = [.bytes b,.bytes [x,y]]) (l:b.length ≤ 100) (k:K (.bytes (trL (enc b) (mkL [43,47] [x,y]))))
theorem enc_le {b:List UInt8} (h:b.length ≤ 100):(enc b).length ≤ 10000:=Nat.le_trans (enc_len b) (Nat.le_trans (Nat.add_le_add_right (Nat.mul_le_mul_left 2 h) 3) (by decide))
theorem len1' {vs:List Value} (h:vs.length = 1):∃ v,vs = [v]:=List.length_eq_one_iff.mp h
theorem len2' {vs:List Value} (h:vs.length = 2):∃ v w,vs = [v,w]:=by
  cases vs with
  | nil => cases h
  | cons v r => cases r with
    | nil => cases h
    | cons w r => cases r with
      | nil => exact ⟨v,w,rfl⟩
      | cons u r => cases h
theorem can15 {W:Wd} (B:Blts W) {a:Addr} {fd:FuncData} (f:FunD W 15 "b64encode" a fd [Value.none]) (n:Nat) (c13:CanK W n "b2a_base64" "newline" P13):Can W (n + 1) "b64encode" P15:=by
  have b1:=B.len
  have b7:=B.bytes
  obtain ⟨t,hb⟩:∃ t,SL W (fnScope (fn 15)) n (fnBody (fn 15)) t ∧ (∀ K X (b:List UInt8),b.length ≤ 100 → K (.bytes (enc b)) → t (retPost K X) (stoOf ["s","altchars"] ([.bytes b] ++ [.none]))) ∧
      ∀ K X (b:List UInt8) (x y:UInt8),b.length ≤ 100 → K (.bytes (trL (enc b) (mkL [43,47] [x,y]))) → t (retPost K X) (stoOf ["s","altchars"] ([.bytes b,.bytes [x,y]] ++ [])):=by
    refine ⟨_,sl_seq (ss_assign (se_cank c13 (se_name _) (se_bool false))) (sl_seq (ss_ite (st_cmp (se_name _) se_none) (sl_seq (ss_assert (st_cmp (se_len _ b1) (se_int _))) (sl_seq (ss_return (se_meth cb_translate (se_name _) (sg_cons (se_maketrans b7 (sg_cons (se_bytes _) (sg_cons (se_name _) sg_nil))) sg_nil) PySem.W.FB.plainAttrs_bytes slot_bytes_translate type_bytes_translate)) sl_nil)) sl_nil) (sl_seq (ss_return (se_name _)) sl_nil)),fun K X b hb hK => ?_,fun K X b x y hb hK => ?_⟩
    · exact P13.mk b rfl hb hK
    · exact P13.mk b rfl hb (lenP.mk _ 2 rfl rfl fits2 (And.intro rfl (And.intro rfl (And.intro rfl (And.intro ⟨mkL_len _ _,enc_le hb⟩ hK)))))
  refine ⟨a,f.glob,fnd_fn f,SF.mono (SF.or (sfd_of f (xs:=["s","altchars"]) 1 [V.none] [Value.none] rfl (fun F => .one .none) hb.1 ?_) (sfd_of f (xs:=["s","altchars"]) 2 [] [] rfl (fun F => .nil) hb.1 ?_)) ?_⟩
  · intro fd h vs hl
    obtain ⟨v,rfl⟩:=len1' hl
    exact ⟨_,by unfold bindArgs; rw [h]; rfl,rfl⟩
  · intro fd h vs hl
    obtain ⟨v,v',rfl⟩:=len2' hl
    exact ⟨_,by unfold bindArgs; rw [h]; rfl,rfl⟩
  · rintro us K X (⟨b,rfl,hl,hK⟩ | ⟨b,x,y,rfl,hl,hK⟩)
    · exact .inl ⟨rfl,hb.2.1 K X b hl hK⟩
    · exact .inr ⟨rfl,hb.2.2 K X b x y hl hK⟩
noncomputable def octOf:V → Option (List UInt8)
  | .str x => if ascL x = true then some (bytesL x) else none
  | .bytes b => some b
  | _ => none
inductive isText:V → Prop
  | str {x:List Nat} (h:x.length ≤ 100):isText (.str x)
  | byt {b:List UInt8} (h:b.length ≤ 100):isText (.bytes b)
noncomputable def decK (s:List UInt8) (K:V → Prop) (X:Value → Prop):Prop:=match a2bP (s.map (·.toNat)) with
  | some out => K (.bytes (out.map (·.toUInt8)))
  | none => X (.ref 56)
noncomputable def decO (s:Option (List UInt8)) (t:List UInt8) (K:V → Prop) (X:Value → Prop):Prop:=match s with
  | some s => decK (trL s t) K X
  | none => X (.type "ValueError")
set_option tactic.hygienic true in
theorem text4 {u:V} {t:List UInt8} {K':V → Prop} {K:V → Prop} {X:Value → Prop} (hu:isText u) (h:decO (octOf u) t K X) (hK:∀ s:List UInt8,s.length ≤ 100 → decK (trL s t) K X → K' (.bytes s)):P4 [u] K' X:=by
  cases hu with
  | str hx =>
    rename_i x
    refine .str x rfl (Nat.le_trans hx (by decide)) ?_
    have h:decO (if ascL x = true then some (bytesL x) else none) t K X:=h
    cases e:ascL x with
    | false => rw [e] at h; exact h
    | true => rw [e] at h; exact hK _ (by unfold bytesL; rw [List.length_map]; exact hx) h
  | byt hb => exact .byt _ rfl (hK _ hb h)
inductive P16 (us:List V) (K:V → Prop) (X:Value → Prop):Prop
  | one (b:List UInt8) (e:us = [.bytes b]) (l:b.length ≤ 100) (k:decK b K X)
  | two (u:V) (m1 m2:Nat) (e:us = [u,.str [m1,m2]]) (t:isText u) (h1:m1 < 128) (h2:m2 < 128) (k:decO (octOf u) (mkL [m1.toUInt8,m2.toUInt8] [43,47]) K X)
theorem asc2 {m1 m2:Nat} (h1:m1 < 128) (h2:m2 < 128):ascL [m1,m2] = true:=by simp [ascL,h1,h2]
theorem can16 {W:Wd} (B:Blts W) {a:Addr} {fd:FuncData} (f:FunD W 16 "b64decode" a fd [Value.none,Value.bool false]) (n:Nat) (c4:Can W n "_bytes_from_decode_data" P4) (c12:CanK W n "a2b_base64" "strict_mode" P12):Can W (n + 1) "b64decode" P16:=by
  have b1:=B.len
  have b7:=B.bytes
  obtain ⟨t,hb⟩:∃ t,SL W (fnScope (fn 16)) n (fnBody (fn 16)) t ∧ (∀ K X (b:List UInt8),b.length ≤ 100 → decK b K X → t (retPost K X) (stoOf ["s","altchars","validate"] ([.bytes b] ++ [.none,.bool false]))) ∧
      ∀ K X (u:V) (m1 m2:Nat),isText u → m1 < 128 → m2 < 128 → decO (octOf u) (mkL [m1.toUInt8,m2.toUInt8] [43,47]) K X → t (retPost K X) (stoOf ["s","altchars","validate"] ([u,.str [m1,m2]] ++ [.bool false])):=by
    refine ⟨_,sl_seq (ss_assign (se_can c4 (sg_cons (se_name _) sg_nil))) (sl_seq (ss_ite (st_cmp (se_name _) se_none) (sl_seq (ss_assign (se_can c4 (sg_cons (se_name _) sg_nil))) (sl_seq (ss_assert (st_cmp (se_len _ b1) (se_int _))) (sl_seq (ss_assign (se_meth cb_translate (se_name _) (sg_cons (se_maketrans b7 (sg_cons (se_name _) (sg_cons (se_bytes _) sg_nil))) sg_nil) PySem.W.FB.plainAttrs_bytes slot_bytes_translate type_bytes_translate)) sl_nil))) sl_nil) (sl_seq (ss_return (se_cank c12 (se_name _) (se_name _))) sl_nil)),fun K X b hb hK => ?_,fun K X u m1 m2 hu h1 h2 hK => ?_⟩
    · exact P4.byt b rfl (P12.mk b rfl (Nat.le_trans hb (by decide)) hK)
    · exact text4 hu hK fun s hs hK => P4.str [m1,m2] rfl (by show 2 ≤ 10000; decide) (ifT (asc2 h1 h2) (lenP.mk _ 2 rfl rfl fits2 (And.intro rfl (And.intro rfl (And.intro rfl (And.intro ⟨mkL_len _ _,Nat.le_trans hs (by decide)⟩ (P12.mk (trL s (mkL [m1.toUInt8,m2.toUInt8] [43,47])) rfl (by rw [trL_len]; exact Nat.le_trans hs (by decide)) hK)))))))
  refine ⟨a,f.glob,fnd_fn f,SF.mono (SF.or (sfd_of f (xs:=["s","altchars","validate"]) 1 [V.none,V.bool false] [Value.none,Value.bool false] rfl (fun F => .cons .none (.one (.bool _))) hb.1 ?_)
    (sfd_of f (xs:=["s","altchars","validate"]) 2 [V.bool false] [Value.bool false] rfl (fun F => .one (.bool _)) hb.1 ?_)) ?_⟩
  · intro fd h vs hl
    obtain ⟨v,rfl⟩:=len1' hl
    exact ⟨_,by unfold bindArgs; rw [h]; rfl,rfl⟩
  · intro fd h vs hl
    obtain ⟨v,v',rfl⟩:=len2' hl
    exact ⟨_,by unfold bindArgs; rw [h]; rfl,rfl⟩
  · rintro us K X (⟨b,rfl,hl,hK⟩ | ⟨u,m1,m2,rfl,hu,h1,h2,hK⟩)
    · exact .inl ⟨rfl,hb.2.1 K X b hl hK⟩
    · exact .inr ⟨rfl,hb.2.2 K X u m1 m2 hu h1 h2 hK⟩
inductive P19 (us:List V) (K:V → Prop) (X:Value → Prop):Prop
  | mk (b:List UInt8) (e:us = [.bytes b]) (l:b.length ≤ 100) (k:K (.bytes (trL (enc b) uencE)))
theorem uencE_len:uencE.length = 256:=by unfold uencE; rw [List.length_map,List.length_range]
theorem udecE_len:udecE.length = 256:=by unfold udecE; rw [List.length_map,List.length_range]
theorem can19 {W:Wd} (B:Blts W) (T:Tops W) {a:Addr} {fd:FuncData} (f:Fun W 19 "urlsafe_b64encode" a fd) (n:Nat) (c15:Can W n "b64encode" P15):Can W (n + 1) "urlsafe_b64encode" P19:=by
  have t12:=T.uenc
  refine fun_run f (xs:=["s"]) (sl_seq (ss_return (se_meth cb_translate (se_can c15 (sg_cons (se_name _) sg_nil)) (sg_cons (se_glob_bytes t12) sg_nil) PySem.W.FB.plainAttrs_bytes slot_bytes_translate type_bytes_translate)) sl_nil) (bind1 fun fd v h h' => by unfold bindArgs; rw [h,h']; rfl) ?_
  rintro us K X ⟨b,rfl,hb,hK⟩
  exact ⟨rfl,P15.one b rfl hb (And.intro rfl (And.intro ⟨uencE_len,enc_le hb⟩ hK))⟩
inductive P20 (us:List V) (K:V → Prop) (X:Value → Prop):Prop
  | mk (u:V) (e:us = [u]) (t:isText u) (k:decO (octOf u) udecE K X)
theorem can20 {W:Wd} (B:Blts W) (T:Tops W) {a:Addr} {fd:FuncData} (f:Fun W 20 "urlsafe_b64decode" a fd) (n:Nat) (c4:Can W n "_bytes_from_decode_data" P4) (c16:Can W n "b64decode" P16):Can W (n + 1) "urlsafe_b64decode" P20:=by
  have t13:=T.udec
  refine fun_run f (xs:=["s"]) (sl_seq (ss_assign (se_can c4 (sg_cons (se_name _) sg_nil))) (sl_seq (ss_assign (se_meth cb_translate (se_name _) (sg_cons (se_glob_bytes t13) sg_nil) PySem.W.FB.plainAttrs_bytes slot_bytes_translate type_bytes_translate)) (sl_seq (ss_return (se_can c16 (sg_cons (se_name _) sg_nil))) sl_nil))) (bind1 fun fd v h h' => by unfold bindArgs; rw [h,h']; rfl) ?_
  rintro us K X ⟨u,rfl,hu,hK⟩
  exact ⟨rfl,text4 hu hK fun s hs hK => And.intro rfl (And.intro ⟨udecE_len,Nat.le_trans hs (by decide)⟩ (P16.one _ rfl (by rw [trL_len]; exact hs) hK))⟩
noncomputable def readAs (s:Option (List UInt8)) (t:List UInt8):Option (List Nat):=s.bind fun s => a2bP ((trL s t).map (·.toNat))
noncomputable def readIs (s:Option (List UInt8)) (t row:List UInt8):Bool:=(readAs s t).map (fun l => l.map (·.toUInt8)) == some row
inductive P41 (us:List V) (K:V → Prop) (X:Value → Prop):Prop
  | mk (u:V) (m1 m2:Nat) (row:List UInt8) (e:us = [u,.str [m1,m2],.bytes row]) (t:isText u) (h1:m1 < 128) (h2:m2 < 128) (k:K (.bool (readIs (octOf u) (if m1 = 45 ∧ m2 = 95 then udecE else mkL [m1.toUInt8,m2.toUInt8] [43,47]) row)))
theorem decO_is {s:Option (List UInt8)} {t row:List UInt8} {K K':V → Prop} {X:Value → Prop} (h:K (.bool (readIs s t row))) (hK:∀ b:List UInt8,K (.bool (b == row)) → K' (.bytes b)) (hX:∀ c,VE c → K (.bool false) → X c):decO s t K' X:=by
  cases s with
  | none => exact hX _ .ve h
  | some s =>
    unfold readIs readAs at h
    show decK _ _ _
    unfold decK
    rw [Option.bind_some] at h
    cases e:a2bP ((trL s t).map (·.toNat)) with
    | none => rw [e] at h; exact hX _ .own h
    | some o => rw [e] at h; exact hK _ h
theorem dash_cs:cs "-_" = [45,95]:=by decide +kernel
theorem can41 {W:Wd} (B:Blts W) (T:Tops W) {a:Addr} {fd:FuncData} (f:Fun W 41 "_law_is" a fd) (n:Nat) (c16:Can W n "b64decode" P16) (c20:Can W n "urlsafe_b64decode" P20):Can W (n + 1) "_law_is" P41:=by
  obtain ⟨b1,b2,b3,b4,b5,b6,b7,b8,b9,b10,b11,b12,b13,b14⟩:=B
  have t14:=T.ve
  refine fun_run f (xs:=["given","marks","row"]) (sl_seq (ss_tryv (sl_seq (ss_assign (se_if (st_cmp (se_name _) (se_strc _)) (se_can c20 (sg_cons (se_name _) sg_nil)) (se_can c16 (sg_cons (se_name _) (sg_cons (se_name _) sg_nil))))) sl_nil) t14 b13) (sl_seq (ss_return (se_and2 (se_cmp (se_call_t cb_type b8 (sg_cons (se_name _) sg_nil)) (se_blt_ty b7)) (se_cmp (se_name _) (se_name _)))) sl_nil)) (bind3 fun fd u v w h h' => by unfold bindArgs; rw [h,h']; rfl) ?_
  rintro us K X ⟨u,m1,m2,row,rfl,hu,h1,h2,hK⟩
  by_cases hm:m1 = 45 ∧ m2 = 95
  · rw [if_pos hm] at hK
    exact ⟨rfl,ifT (by rw [dash_cs,hm.1,hm.2]; decide) (P20.mk u rfl hu (decO_is hK (fun b hb => typeI rfl hb) fun c hc hk => And.intro hc hk))⟩
  · rw [if_neg hm] at hK
    exact ⟨rfl,ifF (by rw [dash_cs]; exact beq_eq_false_iff_ne.mpr fun q => hm ⟨(List.cons.inj q).1,(List.cons.inj (List.cons.inj q).2).1⟩) (P16.two u m1 m2 rfl hu h1 h2 (decO_is hK (fun b hb => typeI rfl hb) fun c hc hk => And.intro hc hk))⟩
end
noncomputable section
set_option maxHeartbeats 4000000
noncomputable def marks14:List Nat:=[42,63,91,93,45,33,94,92,38,126,124,46,95,35]
theorem marks_cs:cs "*?[]-!^\\&~|._#" = marks14:=by decide +kernel
theorem marks_ne:∀ k,k < 14 → ∀ j,j < 13 → marks14.getD k 0 ≠ marks14.getD ((k + 1 + j) % 14) 0:=by decide +kernel
theorem idxE {α:Type} {x:List α} {i:Int} {k:Nat} {K:α → Prop} (hi:i = k) (hk:k < x.length) (hK:K (x[k])):∃ c,at? x i = some c ∧ K c:=by
  subst hi
  refine ⟨x[k],?_,hK⟩
  unfold at?
  rw [if_pos (by omega),Int.toNat_natCast,List.getElem?_eq_getElem hk]
theorem fmod_ex (a:Int) (b:Nat) (hb:0 < b):∃ k:Nat,k < b ∧ a.fmod b = k:=by
  rw [Int.fmod_eq_emod_of_nonneg _ (by omega)]
  have h1:=Int.emod_nonneg a (b:=b) (by omega)
  have h2:=Int.emod_lt_of_pos a (b:=b) (by omega)
  obtain ⟨r,hr⟩:=Int.eq_ofNat_of_zero_le h1
  exact ⟨r,by rw [hr] at h2; omega,hr⟩
theorem small_pow (b e:Nat) (h:b ^ e < 2 ^ 64):((b:Int) ^ e ≠ 0 ↔ b ^ e ≠ 0) ∧ small ((b:Int) ^ e):=by
  refine ⟨?_,?_⟩
  · rw [← Int.natCast_pow]; omega
  · unfold small
    rw [← Int.natCast_pow,Int.natAbs_natCast]; exact h
theorem pow_ok (b m e:Nat) (hb:0 < b) (he:e ≤ m) (hm:b ^ m < 2 ^ 64):(b:Int) ^ e ≠ 0 ∧ small ((b:Int) ^ e):=by
  have h1:b ^ e ≤ b ^ m:=Nat.pow_le_pow_right hb he
  have h2:0 < b ^ e:=Nat.pow_pos hb
  obtain ⟨h3,h4⟩:=small_pow b e (by omega)
  exact ⟨h3.mpr (by omega),h4⟩
theorem pow2_ok {e:Nat} (he:e ≤ 40):(2:Int) ^ e ≠ 0 ∧ small ((2:Int) ^ e):=pow_ok 2 40 e (by decide) he (by decide)
theorem pow64_ok {e:Nat} (he:e ≤ 10):(64:Int) ^ e ≠ 0 ∧ small ((64:Int) ^ e):=pow_ok 64 10 e (by decide) he (by decide)
theorem pow256_ok {e:Nat} (he:e ≤ 7):(256:Int) ^ e ≠ 0 ∧ small ((256:Int) ^ e):=pow_ok 256 7 e (by decide) he (by decide)
theorem idxQ {x y:List Nat} {i:Int} {k:Nat} {K:Nat → Prop} (hxy:x = y) (hi:i = k) (hk:k < y.length) (hf:y.length ≤ 10000) (hK:K y[k]):fits x.length ∧ ∃ c,at? x i = some c ∧ K c:=by
  subst hxy
  exact ⟨hf,idxE hi hk hK⟩
theorem sm {n:Nat} (h:n < 256):small (n:Int):=small_nat h
inductive P31 (us:List V) (K:V → Prop) (X:Value → Prop):Prop
  | mk (n:Int) (e:us = [.int n]) (k:∀ m1 m2,m1 ∈ marks14 → m2 ∈ marks14 → m1 ≠ m2 → K (.str [m1,m2]))
theorem can31 {W:Wd} {a:Addr} {fd:FuncData} (f:Fun W 31 "_law_marks" a fd) (n:Nat):Can W (n + 1) "_law_marks" P31:=by
  refine fun_run f (xs:=["n"]) (sl_seq (ss_assign (se_strc _)) (sl_seq (ss_assign (se_bin2 (se_bin2 (se_name _) (se_int _)) (se_int _))) (sl_seq (ss_return (se_if (st_cmp (se_bin2 (se_name _) (se_int _)) (se_int _)) (se_strc _) (se_bin2 (se_own_idx _ (se_name _)) (se_own_idx _ (se_bin2 (se_bin2 (se_bin2 (se_name _) (se_int _)) (se_bin2 (se_bin2 (se_name _) (se_int _)) (se_int _))) (se_int _)))))) sl_nil))) (bind1 fun fd v h h' => by unfold bindArgs; rw [h,h']; rfl) ?_
  rintro us K X ⟨m,rfl,hK⟩
  obtain ⟨k,hk,ek⟩:=fmod_ex (m.fdiv 4) 14 (by decide)
  obtain ⟨j,hj,ej⟩:=fmod_ex (m.fdiv 56) 13 (by decide)
  have ek:(m.fdiv 4).fmod 14 = (k:Int):=ek
  have ej:(m.fdiv 56).fmod 13 = (j:Int):=ej
  have hk2:(k + 1 + j) % 14 < 14:=Nat.mod_lt _ (by decide)
  refine ⟨rfl,And.intro ⟨by decide,sm (n:=4) (by decide)⟩ (And.intro (by decide) (And.intro (by decide) (ifB (fun ℓ => ?_) fun ℓ => ?_)))⟩
  · show K (.str (cs "-_"))
    rw [dash_cs]
    exact hK 45 95 (by decide) (by decide) (by decide)
  · refine idxQ (k:=k) marks_cs ek hk (by decide) (And.intro ⟨by decide,sm (n:=56) (by decide)⟩ (And.intro (by decide) (And.intro (by decide) (idxQ (k:=(k + 1 + j) % 14) marks_cs (by rw [ek,ej]; exact fmod_nat (k + 1 + j) 14) hk2 (by decide) (And.intro ⟨rfl,fits2⟩ ?_)))))
    refine hK _ _ (List.getElem_mem _) (List.getElem_mem _) fun e => marks_ne k hk j hj ?_
    rw [List.getD_eq_getElem?_getD,List.getD_eq_getElem?_getD,List.getElem?_eq_getElem hk,List.getElem?_eq_getElem hk2]
    exact e
noncomputable def oRaw (fs:List Nat) (sz:Nat) (w:Int) (tl:Sto):Sto:=("figures",.val (.list (outV fs))) :: ("size",.val (.int sz)) :: ("whole",.val (.int w)) :: tl
inductive OInv (fs:List Nat) (sz k:Nat) (σ:Sto):Prop
  | mk (w:Int) (tl:Sto) (h:Tail1 "figure" tl) (h0:0 ≤ w) (h1:w < 64 ^ k) (e:σ = oRaw fs sz w tl)
theorem cnI:∀ cn:Nat,cn ≤ 8 → ∀ i:Nat,i < cn → ((cn:Int) - 1 - (0 + (i:Int) * 1)).toNat ≤ 7 ∧ 0 ≤ (cn:Int) - 1 - (0 + (i:Int) * 1) ∧ (cn:Int) - 1 - (0 + (i:Int) * 1) ≤ 64 ∧ ((cn:Int) - 1 - (i:Int)).toNat = cn - 1 - i:=by decide
theorem near_le {n:Nat} (h:n ≤ 10000):near (n:Int):=⟨by omega,by omega⟩
theorem szF0:∀ n:Nat,n ≤ 8 → 2 ≤ n → (6 * (n:Int) - 8 * ((n * 3 / 4:Nat):Int)).toNat ≤ 6 ∧ 0 ≤ 6 * (n:Int) - 8 * ((n * 3 / 4:Nat):Int) ∧ 6 * (n:Int) - 8 * ((n * 3 / 4:Nat):Int) ≤ 64 ∧ 1 ≤ n * 3 / 4 ∧ n * 3 / 4 ≤ 6:=by decide
theorem szF (n:Nat) (h2:2 ≤ n) (h8:n ≤ 8) (sz:Nat) (h:n * 3 / 4 = sz):(6 * (n:Int) - 8 * (sz:Int)).toNat ≤ 6 ∧ 0 ≤ 6 * (n:Int) - 8 * (sz:Int) ∧ 6 * (n:Int) - 8 * (sz:Int) ≤ 64 ∧ 1 ≤ sz ∧ sz ≤ 6:=by
  subst h
  exact szF0 n h8 h2
inductive P32 (us:List V) (K:V → Prop) (X:Value → Prop):Prop
  | mk (fs:List Nat) (e:us = [.list (outV fs)]) (h2:2 ≤ fs.length) (h8:fs.length ≤ 8) (h:∀ f ∈ fs,f < 64) (k:∀ row:List UInt8,1 ≤ row.length → row.length ≤ 6 → K (.bytes row))
theorem mem_outV {fs:List Nat} {k:Nat} {u:V} (h:(outV fs)[k]? = some u):∃ c,fs[k]? = some c ∧ u = .int (c:Nat):=by
  unfold outV vints at h
  rw [List.getElem?_map,List.getElem?_map] at h
  cases e:fs[k]? with
  | none => rw [e] at h; cases h
  | some c => rw [e] at h; cases h; exact ⟨c,rfl,rfl⟩
noncomputable def intOf:V → Int
  | .int k => k
  | _ => 0
theorem can32 {W:Wd} (B:Blts W) {a:Addr} {fd:FuncData} (f:Fun W 32 "_law_octets" a fd) (n:Nat):Can W (n + 1) "_law_octets" P32:=by
  have b1:=B.len
  have b5:=B.range
  have b7:=B.bytes
  refine fun_run f (xs:=["figures"]) (sl_seq (ss_un2 (se_tuple (sg_cons (se_bin2 (se_bin2 (se_len _ b1) (se_int _)) (se_int _)) (sg_cons (se_int _) sg_nil)))) (sl_seq (ss_for (se_name _) (sl_seq (ss_assign (se_bin2 (se_bin2 (se_name _) (se_int _)) (se_name _))) sl_nil)) (sl_seq (ss_aug (se_bin2 (se_int _) (se_bin2 (se_bin2 (se_int _) (se_len _ b1)) (se_bin2 (se_int _) (se_name _))))) (sl_seq (ss_return (se_call_t cb_bytes b7 (sg_cons (se_comp' (caps:=["size","whole"]) ⟨by rfl,by decide +kernel,by decide +kernel,by decide +kernel,by decide +kernel,by decide +kernel⟩ (se_call_t cb_range b5 (sg_cons (se_name _) sg_nil)) si_nil (se_bin2 (se_bin2 (se_name _) (se_bin2 (se_int _) (se_bin2 (se_bin2 (se_name _) (se_int _)) (se_name _)))) (se_int _))) sg_nil))) sl_nil)))) (bind1 fun fd v h h' => by unfold bindArgs; rw [h,h']; rfl) ?_
  rintro us K X ⟨fs,rfl,h1,h2,h3,hK⟩
  have hl:=outV_len fs
  have hfo:fits (outV fs).length:=by rw [hl]; exact Nat.le_trans h2 (by decide)
  have hsl:small ((outV fs).length:Int):=sm (by rw [hl]; exact Nat.lt_of_le_of_lt h2 (by decide))
  generalize hsz:fs.length * 3 / 4 = sz
  have esz:(((outV fs).length:Int) * 3).fdiv 4 = (sz:Int):=by rw [hl,← hsz,← fdiv_nat]; rfl
  refine ⟨rfl,lenP.mk _ _ rfl rfl hfo (And.intro hsl (And.intro ⟨by decide,sm (n:=4) (by decide)⟩ (And.intro fits2 (And.intro rfl (Exists.intro _ (And.intro rfl (forI_rule (I:=fun k σ => OInv fs sz k σ) _ ?_ ?_ _ ⟨0,[],.nil,by decide,by decide,?_⟩)))))))⟩
  · rintro k u σ N hk ⟨x,tl,ht,hx0,hx,rfl⟩ hN
    obtain ⟨c,hc',rfl⟩:=mem_outV hk
    have hc:=h3 c (List.mem_of_getElem? hc')
    have hkl:k ≤ 8:=Nat.le_of_lt (Nat.lt_of_lt_of_le (List.getElem?_eq_some_iff.mp hc').1 h2)
    obtain ⟨x,rfl⟩:=Int.eq_ofNat_of_zero_le hx0
    have hx':x < 64 ^ k:=Int.ofNat_lt.mp (by rw [Int.natCast_pow]; exact hx)
    have hsx:small (x:Int):=Nat.lt_of_lt_of_le hx' (Nat.le_trans (Nat.pow_le_pow_right (by decide) hkl) (by decide))
    rw [show put (oRaw fs sz x tl) "figure" (.val (.int c)) = oRaw fs sz x [("figure",.val (.int c))] by cases ht <;> rfl]
    exact And.intro hsx (hN _ ⟨x * 64 + c,_,.one _,Int.natCast_nonneg (x * 64 + c),Int.ofNat_lt.mpr (show x * 64 + c < 64 ^ k * 64 from Nat.lt_of_lt_of_le (Nat.add_lt_add_left hc _) (by rw [← Nat.succ_mul]; exact Nat.mul_le_mul_right 64 hx')),rfl⟩)
  · rintro σ ⟨x,tl,ht,hx0,hx,rfl⟩
    have hz:=szF fs.length h1 h2 sz hsz
    rw [← hl] at hz
    obtain ⟨he,he0,he1,hsz6⟩:=hz
    have hp:=pow2_ok (Nat.le_trans he (by decide))
    refine lenP.mk _ _ rfl rfl hfo (And.intro (sm (n:=6) (by decide)) (And.intro (sm (n:=8) (by decide)) (And.intro ⟨sm (n:=2) (by decide),he0,he1⟩ (And.intro hp ?_))))
    generalize x.fdiv (2 ^ (6 * ((outV fs).length:Int) - 8 * (sz:Int)).toNat) = w
    have hr:∀ {Q:V → Prop},(∀ row:List UInt8,1 ≤ row.length → row.length ≤ 6 → Q (.bytes row)) → bytesP [.list (((List.range sz).map fun (i:Nat) => V.int (0 + (i:Int) * 1)).map fun v => V.int ((w.fdiv (256 ^ ((sz:Int) - 1 - intOf v).toNat)).fmod 256))] Q:=fun {Q} hQ => by
      refine bytesP.mk ((List.range sz).map fun (i:Nat) => (w.fdiv (256 ^ ((sz:Int) - 1 - (0 + (i:Int) * 1)).toNat)).fmod 256) ?_ ?_ (fun n hn => ?_) (hQ _ ?_ ?_)
      · unfold vints
        rw [List.map_map,List.map_map]
        rfl
      · rw [List.length_map,List.length_range]
        exact Nat.le_trans hsz6.2 (by decide)
      · obtain ⟨i,_,rfl⟩:=List.mem_map.mp hn
        obtain ⟨k,hk,e⟩:=fmod_ex (w.fdiv (256 ^ ((sz:Int) - 1 - (0 + (i:Int) * 1)).toNat)) 256 (by decide)
        rw [show (w.fdiv (256 ^ ((sz:Int) - 1 - (0 + (i:Int) * 1)).toNat)).fmod 256 = k from e]
        exact ⟨Int.natCast_nonneg _,Int.ofNat_lt.mpr hk⟩
      · rw [List.length_map,List.length_map,List.length_range]
        exact hsz6.1
      · rw [List.length_map,List.length_map,List.length_range]
        exact hsz6.2
    have hfu:fits ((List.range sz).map fun (i:Nat) => V.int (0 + (i:Int) * 1)).length:=by
      rw [List.length_map,List.length_range]
      exact Nat.le_trans hsz6.2 (by decide)
    refine And.intro (caps2 ⟨_,rfl⟩ ⟨_,rfl⟩) (And.intro (near_le (Nat.le_trans hsz6.2 (by decide))) (And.intro (caps2 ⟨_,rfl⟩ ⟨_,rfl⟩) (Exists.intro _ (And.intro rfl (And.intro hfu (compI_map (fun v => V.int ((w.fdiv (256 ^ ((sz:Int) - 1 - intOf v).toNat)).fmod 256)) _ (fun u hu N hN => ?_) (hr hK)))))))
    obtain ⟨i,hi,rfl⟩:=List.mem_map.mp hu
    have hi:=List.mem_range.mp hi
    obtain ⟨hi1,hi2,hi3,_⟩:=cnI sz (Nat.le_trans hsz6.2 (by decide)) i (by rwa [Int.toNat_natCast] at hi)
    have hp:=pow256_ok (e:=((sz:Int) - 1 - (0 + (i:Int) * 1)).toNat) hi1
    exact And.intro ⟨show (256:Int).natAbs < 2 ^ 64 by decide,hi2,hi3⟩ (And.intro hp (And.intro (by decide) (And.intro rfl hN)))
  · exact congrArg (fun y:Int => ((("figures",Slot.val (.list (outV fs))) :: ("size",.val (.int y)) :: ("whole",.val (.int 0)) :: []):Sto)) esz
noncomputable def tRaw (atoms:List (List Nat)) (name:List Nat) (tl:Sto):Sto:=("atoms",.val (.list (vstrs atoms))) :: ("name",.val (.str name)) :: tl
noncomputable def takenB (atoms:List (List Nat)) (name:List Nat) (n:Nat):Bool:=(List.range n).all fun k => decide (name.getD k 0 ∈ atoms.getD k [])
inductive TInv (atoms:List (List Nat)) (name:List Nat) (k:Nat) (σ:Sto):Prop
  | mk (tl:Sto) (h:Tail1 "k" tl) (a:takenB atoms name k = true) (e:σ = tRaw atoms name tl)
inductive P40 (us:List V) (K:V → Prop) (X:Value → Prop):Prop
  | mk (atoms:List (List Nat)) (name:List Nat) (e:us = [.list (vstrs atoms),.str name]) (h:name.length = atoms.length) (h1:atoms.length ≤ 100) (h2:∀ a ∈ atoms,a.length ≤ 1000) (k:K (.bool (takenB atoms name atoms.length)))
theorem vstrs_at {l:List (List Nat)} {k:Nat} (h:k < l.length) {i:Int} (hi:i = k):at? (vstrs l) i = some (.str l[k]):=by
  subst hi
  unfold at? vstrs
  rw [if_pos (Int.natCast_nonneg _),Int.toNat_natCast,List.getElem?_map,List.getElem?_eq_getElem h]
  rfl
theorem vstrs_len' (l:List (List Nat)):(vstrs l).length = l.length:=List.length_map _
theorem can40 {W:Wd} (B:Blts W) {a:Addr} {fd:FuncData} (f:Fun W 40 "_law_taken" a fd) (n:Nat):Can W (n + 1) "_law_taken" P40:=by
  have b1:=B.len
  have b5:=B.range
  refine fun_run f (xs:=["atoms","name"]) (sl_seq (ss_for (se_call_t cb_range b5 (sg_cons (se_len _ b1) sg_nil)) (sl_seq (ss_ite (st_cmp (se_own_idx _ (se_name _)) (se_own_idx _ (se_name _))) (sl_seq (ss_return (se_bool false)) sl_nil) sl_nil) sl_nil)) (sl_seq (ss_return (se_cmp (se_len _ b1) (se_len _ b1))) sl_nil)) (bind2 fun fd v w h h' => by unfold bindArgs; rw [h,h']; rfl) ?_
  rintro us K X ⟨atoms,name,rfl,h1,h2,h3,hK⟩
  have hl:=vstrs_len' atoms
  have hfa:fits (vstrs atoms).length:=by rw [hl]; exact Nat.le_trans h2 (by decide)
  have hfn:fits name.length:=by rw [h1]; exact Nat.le_trans h2 (by decide)
  refine ⟨rfl,lenP.mk _ _ rfl rfl hfa (And.intro ⟨by omega,by omega⟩ (Exists.intro _ (And.intro rfl (forI_rule (I:=fun k σ => TInv atoms name k σ) _ ?_ ?_ _ ⟨[],.nil,rfl,rfl⟩))))⟩
  · rintro k u σ N hk ⟨tl,ht,hall,rfl⟩ hN
    have hlt:k < atoms.length:=by
      have:=(List.getElem?_eq_some_iff.mp hk).1
      rwa [List.length_map,List.length_range,Int.toNat_natCast,hl] at this
    have hu:u = .int (0 + (k:Int) * 1):=by
      rw [List.getElem?_map,List.getElem?_range (by rw [Int.toNat_natCast,hl]; exact hlt)] at hk
      cases hk; rfl
    subst hu
    have hlt':k < name.length:=by rw [h1]; exact hlt
    have e0:(0 + (k:Int) * 1) = k:=by omega
    rw [show put (tRaw atoms name tl) "k" (.val (.int (0 + (k:Int) * 1))) = tRaw atoms name [("k",.val (.int (0 + (k:Int) * 1)))] by cases ht <;> rfl]
    have hd:decide (name.getD k 0 ∈ atoms.getD k []) = decide (name[k] ∈ atoms[k]):=by
      rw [List.getD_eq_getElem?_getD,List.getD_eq_getElem?_getD,List.getElem?_eq_getElem hlt,List.getElem?_eq_getElem hlt']
      rfl
    refine And.intro hfn (idxE e0 hlt' (And.intro hfa (Exists.intro _ (And.intro (vstrs_at hlt e0) (Exists.intro _ (And.intro rfl ?_))))))
    cases hm:decide (name[k] ∈ atoms[k]) with
    | true =>
      refine ifF rfl (hN _ ⟨_,.one _,?_,rfl⟩)
      show (List.range (k + 1)).all _ = true
      rw [List.range_succ,List.all_append,show (List.range k).all _ = true from hall,List.all_cons,hd,hm]
      rfl
    | false =>
      refine ifT rfl ?_
      rw [show takenB atoms name atoms.length = false from List.all_eq_false.mpr ⟨k,List.mem_range.mpr hlt,by rw [hd,hm]; decide⟩] at hK
      exact hK
  · rintro σ ⟨tl,ht,hall,rfl⟩
    rw [List.length_map,List.length_range,Int.toNat_natCast,hl] at hall
    rw [hall] at hK
    refine lenP.mk _ _ rfl rfl hfa (lenP.mk _ _ rfl rfl hfn ?_)
    have e:(((vstrs atoms).length:Int) == (name.length:Int)) = true:=by rw [hl,h1]; exact beq_self_eq_true _
    exact (congrArg (fun b => K (V.bool b)) e).mpr hK
end
noncomputable section
set_option maxHeartbeats 4000000
theorem seqCutR {σ:Sto} {n:Sto → Prop} {r:V → Prop} {b c:Sto → Prop} {e:Value → Prop} {t tr:TS} (Φ:Sto → Prop) (h1:∀ N:Sto → Prop,(∀ σ',Φ σ' → N σ') → t ⟨N,r,b,c,e⟩ σ) (h2:∀ σ',Φ σ' → tr ⟨n,r,b,c,e⟩ σ'):tSeq t tr ⟨n,r,b,c,e⟩ σ:=h1 _ h2
theorem seqCut {σ:Sto} {P:Post} {t tr:TS} (Φ:Sto → Prop) (h1:∀ N:Post,(∀ σ',Φ σ' → N.next σ') → t N σ) (h2:∀ σ',Φ σ' → tr P σ'):tSeq t tr P σ:=h1 _ h2
theorem toX {X:Sto} {P:Sto → Prop} (h:P X):∀ σ',σ' = X → P σ':=fun ℓ e => by subst e; exact h
theorem toE {α:Type} {Q:α → Prop} {f:α → Sto} {P:Sto → Prop} (h:∀ x,Q x → P (f x)):∀ σ',(∃ x,Q x ∧ σ' = f x) → P σ':=fun _ ⟨x,q,e⟩ => by subst e; exact h x q
theorem toE2 {α β:Type} {Q:α → β → Prop} {f:α → β → Sto} {P:Sto → Prop} (h:∀ x y,Q x y → P (f x y)):∀ σ',(∃ x y,Q x y ∧ σ' = f x y) → P σ':=fun _ ⟨x,y,q,e⟩ => by subst e; exact h x y q
theorem toQ {q:Prop} {X:Sto} {P:Sto → Prop} (h:q → P X):∀ σ',(q ∧ σ' = X) → P σ':=fun _ ⟨hq,e⟩ => by subst e; exact h hq
theorem toK {α:Type} {f:α → Sto} {P:Sto → Prop} (h:∀ x,P (f x)):∀ σ',(∃ x,σ' = f x) → P σ':=fun _ ⟨x,e⟩ => by subst e; exact h x
noncomputable def bigN (row:List Nat):Nat:=row.foldl (fun w o => w * 256 + o) 0
noncomputable def cntN (row:List Nat):Nat:=(4 * row.length + 2) / 3
noncomputable def figsL (row:List Nat):List Nat:=(List.range (cntN row)).map fun k => bigN row * 2 ^ (6 * cntN row - 8 * row.length) / 64 ^ (cntN row - 1 - k) % 64
theorem bigN_snoc (l:List Nat) (o:Nat):bigN (l ++ [o]) = bigN l * 256 + o:=by unfold bigN; rw [List.foldl_append]; rfl
theorem fold_lt:∀ (l:List Nat) (w:Nat),(∀ o ∈ l,o < 256) → l.foldl (fun w o => w * 256 + o) w < (w + 1) * 256 ^ l.length
  | [],w,_ => by simp
  | o :: r,w,h => by
    have h1:=fold_lt r (w * 256 + o) fun o ho => h o (.tail _ ho)
    have h2:=h o (.head _)
    have h3:(w * 256 + o + 1) * 256 ^ r.length ≤ ((w + 1) * 256) * 256 ^ r.length:=Nat.mul_le_mul_right _ (by omega)
    rw [List.foldl_cons,List.length_cons,Nat.pow_succ,Nat.mul_comm (256 ^ r.length),← Nat.mul_assoc]
    omega
theorem bigN_lt (l:List Nat) (h:∀ o ∈ l,o < 256):bigN l < 256 ^ l.length:=by
  have:=fold_lt l 0 h
  unfold bigN; omega
noncomputable def vnats (l:List Nat):List V:=vints (l.map (fun (x:Nat) => (x:Int)))
theorem vnats_eq (w:List Nat):vnats w = w.map (fun (x:Nat) => V.int x):=by simp [vnats,vints,Function.comp_def]
theorem mem_vnats {w:List Nat} {u:V} (h:u ∈ vnats w):∃ v ∈ w,u = V.int (v:Nat):=by
  rw [vnats_eq] at h
  obtain ⟨v,hv,rfl⟩:=List.mem_map.mp h
  exact ⟨v,hv,rfl⟩
theorem vnats_len (l:List Nat):(vnats l).length = l.length:=by simp [vnats,vints]
noncomputable def fRaw (row:List UInt8) (cn w:Nat) (tl:Sto):Sto:=("row",.val (.bytes row)) :: ("count",.val (.int cn)) :: ("whole",.val (.int w)) :: tl
inductive FInv (row:List UInt8) (cn k:Nat) (σ:Sto):Prop
  | mk (tl:Sto) (h:Tail1 "octet" tl) (e:σ = fRaw row cn (bigN ((row.map (·.toNat)).take k)) tl)
theorem u8_lt {row:List UInt8}:∀ o ∈ row.map (·.toNat),o < 256:=fun o ho => by
  obtain ⟨u,_,rfl⟩:=List.mem_map.mp ho
  exact u.toNat_lt
theorem big_small {l:List Nat} (h:∀ o ∈ l,o < 256) (h6:l.length ≤ 6):small (bigN l:Int) :=
  Nat.lt_trans (Nat.lt_of_lt_of_le (bigN_lt l h) (Nat.pow_le_pow_right (by decide) h6)) (by decide)
theorem range_us (m:Nat):((List.range (m:Int).toNat).map fun (i:Nat) => V.int (0 + (i:Int) * 1)) = (List.range m).map fun (i:Nat) => V.int i :=
  List.map_congr_left fun i ℓ => congrArg V.int (by omega)
theorem cnF (n:Nat) (hn:n ≤ 6) (cn:Nat) (h:cn = (4 * n + 2) / 3):cn ≤ 8 ∧ (6 * (cn:Int) - 8 * (n:Int)).toNat = 6 * cn - 8 * n ∧ 0 ≤ 6 * (cn:Int) - 8 * (n:Int) ∧ 6 * (cn:Int) - 8 * (n:Int) ≤ 64:=by
  subst h
  revert n
  decide
inductive P33 (us:List V) (K:V → Prop) (X:Value → Prop):Prop
  | mk (row:List UInt8) (e:us = [.bytes row]) (h1:1 ≤ row.length) (h6:row.length ≤ 6) (k:K (.list (vnats (figsL (row.map (·.toNat))))))
theorem can33 {W:Wd} (B:Blts W) {a:Addr} {fd:FuncData} (f:Fun W 33 "_law_figures" a fd) (n:Nat):Can W (n + 1) "_law_figures" P33:=by
  have b1:=B.len
  have b5:=B.range
  refine fun_run f (xs:=["row"]) (sl_seq (ss_un2 (se_tuple (sg_cons (se_bin2 (se_bin2 (se_bin2 (se_int _) (se_len _ b1)) (se_int _)) (se_int _)) (sg_cons (se_int _) sg_nil)))) (sl_seq (ss_for (se_name _) (sl_seq (ss_assign (se_bin2 (se_bin2 (se_name _) (se_int _)) (se_name _))) sl_nil)) (sl_seq (ss_aug (se_bin2 (se_int _) (se_bin2 (se_bin2 (se_int _) (se_name _)) (se_bin2 (se_int _) (se_len _ b1))))) (sl_seq (ss_return (se_comp' (caps:=["count","whole"]) ⟨by rfl,by decide +kernel,by decide +kernel,by decide +kernel,by decide +kernel,by decide +kernel⟩ (se_call_t cb_range b5 (sg_cons (se_name _) sg_nil)) si_nil (se_bin2 (se_bin2 (se_name _) (se_bin2 (se_int _) (se_bin2 (se_bin2 (se_name _) (se_int _)) (se_name _)))) (se_int _)))) sl_nil)))) (bind1 fun fd v h h' => by unfold bindArgs; rw [h,h']; rfl) ?_
  rintro us K X ⟨row,rfl,h1,h2,hK⟩
  have hlm:(row.map (·.toNat)).length = row.length:=List.length_map _
  have ec:(4 * (row.length:Int) + 2).fdiv 3 = ((cntN (row.map (·.toNat)):Nat):Int):=by unfold cntN; rw [← fdiv_nat,hlm]; rfl
  have hcn:cntN (row.map (·.toNat)) = (4 * row.length + 2) / 3:=by unfold cntN; rw [hlm]
  unfold figsL at hK
  rw [hlm] at hK
  generalize cntN (row.map (·.toNat)) = cn at *
  obtain ⟨hcn8,he,he0,he1⟩:=cnF row.length h2 cn hcn
  have hfr:fits row.length:=Nat.le_trans h2 (by decide)
  refine ⟨rfl,lenP.mk _ _ rfl rfl hfr (And.intro (sm (n:=4) (by decide)) (And.intro ⟨by decide,sm (n:=3) (by decide)⟩ (And.intro fits2 (And.intro rfl (Exists.intro _ (And.intro rfl (forI_rule (I:=fun k σ => FInv row cn k σ) _ ?_ ?_ _ ⟨[],.nil,?_⟩)))))))⟩
  · rintro k u σ N hk ⟨tl,ht,rfl⟩ hN
    rw [List.getElem?_map] at hk
    obtain ⟨c,hc,rfl⟩:=Option.map_eq_some_iff.mp hk
    have hS:bigN ((row.map (·.toNat)).take (k + 1)) = bigN ((row.map (·.toNat)).take k) * 256 + c.toNat:=by
      rw [List.take_add_one,List.getElem?_map,hc]
      exact bigN_snoc _ _
    have hsx:small (bigN ((row.map (·.toNat)).take k):Int):=big_small (fun o ho => u8_lt o (List.mem_of_mem_take ho)) (Nat.le_trans (List.length_take_le' _ _) (by rw [hlm]; exact h2))
    rw [show put (fRaw row cn (bigN ((row.map (·.toNat)).take k)) tl) "octet" (.val (.int c.toNat)) = fRaw row cn (bigN ((row.map (·.toNat)).take k)) [("octet",.val (.int c.toNat))] by cases ht <;> rfl]
    exact And.intro hsx (hN _ ⟨_,.one _,by rw [hS]; rfl⟩)
  · rintro σ ⟨tl,ht,rfl⟩
    rw [List.length_map,List.take_of_length_le (by rw [hlm]; exact Nat.le_refl _)]
    have hsx:=big_small (l:=row.map (·.toNat)) u8_lt (by rw [hlm]; exact h2)
    generalize bigN (row.map (·.toNat)) = w at *
    have ew:(w:Int) * 2 ^ (6 * (cn:Int) - 8 * (row.length:Int)).toNat = ((w * 2 ^ (6 * cn - 8 * row.length):Nat):Int):=by rw [he]; exact (congrArg ((w:Int) * ·) (Int.natCast_pow 2 _).symm).trans (Int.natCast_mul _ _).symm
    refine And.intro (sm (n:=6) (by decide)) (lenP.mk _ _ rfl rfl hfr (And.intro (sm (n:=8) (by decide)) (And.intro ⟨sm (n:=2) (by decide),he0,he1⟩ (And.intro hsx ?_))))
    generalize hy:(w:Int) * 2 ^ (6 * (cn:Int) - 8 * (row.length:Int)).toNat = y at *
    subst ew
    generalize w * 2 ^ (6 * cn - 8 * row.length) = w at *
    refine And.intro (caps2 ⟨_,rfl⟩ ⟨_,rfl⟩) (And.intro (near_le (Nat.le_trans hcn8 (by decide))) (And.intro (caps2 ⟨_,rfl⟩ ⟨_,rfl⟩) (Exists.intro _ (And.intro rfl (And.intro (by rw [List.length_map,List.length_range,Int.toNat_natCast]; exact Nat.le_trans hcn8 (by decide)) (compI_map (fun v => V.int (((w:Int).fdiv (64 ^ ((cn:Int) - 1 - intOf v).toNat)).fmod 64)) _ (fun u hu N hN => ?_) ?_))))))
    · obtain ⟨i,hi,rfl⟩:=List.mem_map.mp hu
      have hi:=List.mem_range.mp hi
      obtain ⟨hi1,hi2,hi3,_⟩:=cnI cn hcn8 i (by rwa [Int.toNat_natCast] at hi)
      have hp:=pow64_ok (e:=((cn:Int) - 1 - (0 + (i:Int) * 1)).toNat) (Nat.le_trans hi1 (by decide))
      exact And.intro ⟨sm (n:=64) (by decide),hi2,hi3⟩ (And.intro hp (And.intro (by decide) (And.intro rfl hN)))
    · rw [range_us,List.map_map,show List.map _ (List.range cn) = vnats ((List.range cn).map fun k => w / 64 ^ (cn - 1 - k) % 64) from ?_]
      · exact hK
      · unfold vnats vints
        rw [List.map_map,List.map_map]
        refine List.map_congr_left fun k hk => congrArg V.int ?_
        have hk:=List.mem_range.mp hk
        show (Int.fdiv _ (64 ^ ((cn:Int) - 1 - (k:Int)).toNat)).fmod 64 = _
        rw [(cnI cn hcn8 k hk).2.2.2,show ((64:Int) ^ (cn - 1 - k)) = ((64 ^ (cn - 1 - k):Nat):Int) from (Int.natCast_pow 64 _).symm,fdiv_nat]
        exact fmod_nat _ 64
  · exact congrArg (fun y:Int => ((("row",Slot.val (.bytes row)) :: ("count",.val (.int y)) :: ("whole",.val (.int 0)) :: []):Sto)) ec
noncomputable def valsL (figs:List Nat):List (List Nat):=if figs.length % 4 = 0 then figs.map (fun f => [f]) else (figs.map fun f => [f]).set (figs.length - 1) ((List.range (if figs.length % 4 = 2 then 16 else 4)).map (figs.getLastD 0 + ·))
noncomputable def signsOf (alph values:List Nat):List Nat:=values.map (fun v => alph.getD v 0) ++ (values.filter (61 < ·)).map (fun v => if v = 62 then 43 else 47)
noncomputable def waysL (alph figs:List Nat):List (List Nat):=(valsL figs).map (signsOf alph) ++ List.replicate ((4 - figs.length % 4) % 4) [61]
noncomputable def vsigns (w:List Nat):V:=.list (vstrs (w.map fun c => [c]))
noncomputable def vways (ws:List (List Nat)):V:=.list (ws.map vsigns)
theorem m1nat (n:Nat):((-1:Int) + n).toNat = n - 1:=(congrArg Int.toNat (Int.add_comm _ _)).trans (Int.toNat_sub n 1)
theorem m1le {n:Nat} (h:1 ≤ n):-(n:Int) ≤ -1:=Int.neg_le_neg (Int.ofNat_le.mpr h)
theorem at_last (l:List Nat) (h:1 ≤ l.length):at? (vnats l) (-1) = some (.int (l.getLastD 0:Nat)):=by
  unfold at?
  rw [if_neg (by decide),if_pos (by rw [vnats_len]; exact m1le h),vnats_len,m1nat]
  unfold vnats vints
  rw [List.getElem?_map,List.getElem?_map,List.getLastD_eq_getLast?,List.getLast?_eq_getElem?,List.getElem?_eq_getElem (Nat.sub_lt h (by decide))]
  rfl
theorem pIdx_last {m:Nat} (h:1 ≤ m):pIdx (-1) m = some (m - 1):=by
  unfold pIdx
  rw [if_neg (by decide),if_pos (m1le h),m1nat]
theorem n4:∀ n,n < 4 → n ≠ 1 → n ≠ 0 → n ≠ 2 → n = 3:=by decide
theorem valsL_ok {figs:List Nat} (h4:∀ f ∈ figs,f < 64) (h6:figs.length % 4 = 2 → figs.getLastD 0 ≤ 48) (h5:figs.length % 4 ≠ 1) (h7:figs.length % 4 = 3 → figs.getLastD 0 ≤ 60):∀ w ∈ valsL figs,w.length ≤ 16 ∧ ∀ v ∈ w,v < 64:=by
  intro w hw
  have one:∀ w ∈ figs.map (fun f => [f]),w.length ≤ 16 ∧ ∀ v ∈ w,v < 64:=by
    intro w hw
    obtain ⟨f,hf,rfl⟩:=List.mem_map.mp hw
    exact ⟨Nat.le_of_ble_eq_true rfl,fun v hv => List.mem_singleton.mp hv ▸ h4 _ hf⟩
  unfold valsL at hw
  by_cases h0:figs.length % 4 = 0
  · rw [if_pos h0] at hw; exact one w hw
  rw [if_neg h0] at hw
  rcases List.mem_or_eq_of_mem_set hw with hw | rfl
  · exact one w hw
  by_cases h2:figs.length % 4 = 2
  · rw [if_pos h2]
    refine ⟨Nat.le_of_eq ((List.length_map _).trans List.length_range),fun v hv => ?_⟩
    obtain ⟨i,hi,rfl⟩:=List.mem_map.mp hv
    exact Nat.lt_of_le_of_lt (Nat.add_le_add (h6 h2) (Nat.le_of_lt_succ (List.mem_range.mp hi))) (show 48 + 15 < 64 by decide)
  · rw [if_neg h2]
    refine ⟨Nat.le_trans (Nat.le_of_eq ((List.length_map _).trans List.length_range)) (show 4 ≤ 16 by decide),fun v hv => ?_⟩
    obtain ⟨i,hi,rfl⟩:=List.mem_map.mp hv
    exact Nat.lt_of_le_of_lt (Nat.add_le_add (h7 (n4 _ (Nat.mod_lt _ (by decide)) h5 h0 h2)) (Nat.le_of_lt_succ (List.mem_range.mp hi))) (show 60 + 3 < 64 by decide)
noncomputable def natsOf:V → List Nat
  | .list l => l.map fun v => (intOf v).toNat
  | _ => []
theorem natsOf_vnats (w:List Nat):natsOf (.list (vnats w)) = w:=by
  rw [vnats_eq]
  show (w.map fun (x:Nat) => V.int x).map (fun v => (intOf v).toNat) = w
  rw [List.map_map]
  exact List.map_id w
noncomputable def wRaw (figs alph:List Nat) (o:Int) (ws:List V):Sto:=("figures",.val (.list (vnats figs))) :: ("alphabet",.val (.str alph)) :: ("over",.val (.int o)) :: ("ways",.own ws) :: []
theorem mapOne (l:List Nat):(vnats l).map (fun v => V.list [v]) = (l.map fun f => [f]).map fun w => V.list (vnats w):=by
  rw [vnats_eq,List.map_map,List.map_map]
  rfl
theorem fits1 {u:V}:fits [u].length:=Nat.le_of_ble_eq_true rfl
theorem over_cases:∀ n,n ≤ 8 → n % 4 ≠ 1 → n % 4 = 0 ∨ n % 4 = 2 ∨ n % 4 = 3:=by decide
theorem valsL_len (figs:List Nat):(valsL figs).length = figs.length:=by
  unfold valsL
  split
  · exact List.length_map _
  · exact List.length_set.trans (List.length_map _)
theorem valsL_set (figs:List Nat) {m:Nat} (h0:figs.length % 4 ≠ 0) (hm:(if figs.length % 4 = 2 then 16 else 4) = m):((figs.map fun f => [f]).map fun w => V.list (vnats w)).set (((figs.map fun f => [f]).map fun w => V.list (vnats w)).length - 1) (.list ((List.range m).map fun (i:Nat) => .int ((figs.getLastD 0:Int) + (i:Int) * 1))) = (valsL figs).map fun w => V.list (vnats w):=by
  unfold valsL
  rw [if_neg h0,List.map_set,List.length_map,List.length_map,hm]
  refine congrArg (fun y => List.set _ _ (V.list y)) ?_
  unfold vnats vints
  rw [List.map_map,List.map_map]
  exact List.map_congr_left fun i ℓ => congrArg V.int (by rw [Int.mul_one]; rfl)
theorem addsub (x:Nat) (m:Int):(x:Int) + m - x = m:=by rw [Int.add_comm]; exact Int.add_sub_cancel _ _
theorem v64:∀ v,v < 64 → v ≤ 61 ∨ v = 62 ∨ v = 63:=by decide
theorem signs_eq (alph w:List Nat):(vnats w).map (fun v => V.str [alph.getD (intOf v).toNat 0]) ++ (vnats w).filterMap (fun v => if 61 < intOf v then some (V.str [if intOf v = 62 then 43 else 47]) else none) = vstrs ((signsOf alph w).map fun c => [c]):=by
  rw [vnats_eq]
  unfold signsOf vstrs
  rw [List.map_map,List.map_append,List.map_append,List.map_map,List.map_map,List.map_map,List.map_map]
  refine congrArg (_ ++ ·) ?_
  induction w with
  | nil => rfl
  | cons v r ih =>
    rw [List.map_cons,List.filterMap_cons,List.filter_cons]
    by_cases h:61 < v
    · rw [if_pos (decide_eq_true h),List.map_cons,← ih,if_pos (show 61 < intOf (V.int v) from Int.ofNat_lt.mpr h)]
      refine congrArg (V.str [·] :: _) ?_
      by_cases h2:v = 62
      · subst h2; rfl
      · exact (if_neg fun h => h2 (Int.ofNat_inj.mp h)).trans (if_neg h2).symm
    · rw [if_neg (show ¬ 61 < intOf (V.int v) from fun h' => h (Int.ofNat_lt.mp h')),if_neg (show ¬ (decide (61 < v) = true) from fun h' => h (of_decide_eq_true h'))]
      exact ih
theorem rep_eq (p:Nat):repL [V.list [V.str (cs "=")]] (p:Int) = (List.replicate p [61]).map vsigns:=by
  rw [show cs "=" = [61] from by decide +kernel]
  unfold repL
  rw [Int.toNat_natCast]
  induction p with
  | zero => rfl
  | succ p ih => rw [List.replicate_succ,List.flatten_cons,ih,List.replicate_succ]; rfl
theorem pads:∀ n:Nat,n ≤ 8 → (-(n:Int)).fmod 4 = (((4 - n % 4) % 4:Nat):Int) ∧ (4 - n % 4) % 4 ≤ 3:=by decide
inductive P34 (us:List V) (K:V → Prop) (X:Value → Prop):Prop
  | mk (figs alph:List Nat) (e:us = [.list (vnats figs),.str alph]) (h1:alph.length = 64) (h2:1 ≤ figs.length) (h3:figs.length ≤ 8) (h4:∀ f ∈ figs,f < 64) (h5:figs.length % 4 ≠ 1) (h6:figs.length % 4 = 2 → figs.getLastD 0 ≤ 48) (h7:figs.length % 4 = 3 → figs.getLastD 0 ≤ 60) (k:K (vways (waysL alph figs)))
theorem can34 {W:Wd} (B:Blts W) {a:Addr} {fd:FuncData} (f:Fun W 34 "_law_ways" a fd) (n:Nat):Can W (n + 1) "_law_ways" P34:=by
  have b1:=B.len
  have b5:=B.range
  have bl:=B.list
  refine fun_run f (xs:=["figures","alphabet"]) (sl_seq (ss_own2 (so_comp' (caps:=[]) ⟨by rfl,by decide +kernel,by decide +kernel,by decide +kernel,by decide +kernel,by decide +kernel⟩ (se_name _) si_nil (se_list (sg_cons (se_name _) sg_nil))) (se_bin2 (se_len _ b1) (se_int _))) (sl_seq (ss_ite (st_name _) (sl_seq (ss_set (se_call_t cb_list bl (sg_cons (se_call_t cb_range b5 (sg_cons (se_lit _ (lit_neg (lit_int _))) (sg_cons (se_bin2 (se_lit _ (lit_neg (lit_int _))) (se_if (st_cmp (se_name _) (se_int _)) (se_int _) (se_int _))) sg_nil))) sg_nil)) (se_neg (se_int _))) sl_nil) sl_nil) (sl_seq (ss_acomp' (caps:=["alphabet"]) ⟨by rfl,by decide +kernel,by decide +kernel,by decide +kernel,by decide +kernel,by decide +kernel⟩ (se_name _) si_nil (se_bin2 (se_comp' (caps:=["alphabet"]) ⟨by rfl,by decide +kernel,by decide +kernel,by decide +kernel,by decide +kernel,by decide +kernel⟩ (se_name _) si_nil (se_own_idx _ (se_name _))) (se_comp' (caps:=[]) ⟨by rfl,by decide +kernel,by decide +kernel,by decide +kernel,by decide +kernel,by decide +kernel⟩ (se_name _) (si_one (st_cmp (se_name _) (se_int _))) (se_idx (se_strc _) (se_bin2 (se_name _) (se_int _)))))) (sl_seq (ss_return (se_bin2 (se_name _) (se_bin2 (se_list (sg_cons (se_list (sg_cons (se_strc _) sg_nil)) sg_nil)) (se_bin2 (se_neg (se_len _ b1)) (se_int _))))) sl_nil)))) (bind2 fun fd v w h h' => by unfold bindArgs; rw [h,h']; rfl) ?_
  rintro us K X ⟨figs,alph,rfl,h1,h2,h3,h4,h5,h6,h7,hK⟩
  have hfl:fits figs.length:=Nat.le_trans h3 (by decide)
  refine ⟨rfl,?_⟩
  refine And.intro caps0 (And.intro caps0 (Exists.intro _ (And.intro rfl (And.intro ?_ (compI_map (fun v => .list [v]) _ (fun u hu N hN => ?_) ?_)))))
  · rw [vnats_len]; exact Nat.le_trans h3 (by decide)
  · exact And.intro fits1 (And.intro rfl hN)
  · rw [mapOne]
    refine lenP.mk _ _ rfl rfl (by rw [vnats_len]; exact hfl) (And.intro (by decide) (And.intro rfl ?_))
    rw [vnats_len,show ((figs.length:Int)).fmod 4 = ((figs.length % 4:Nat):Int) from fmod_nat _ 4]
    dsimp only
    refine seqCut (fun σ' => σ' = wRaw figs alph (figs.length % 4:Nat) ((valsL figs).map fun w => V.list (vnats w))) (fun N hN => ?_) ?_
    · have hat:=at_last figs h2
      have hfv:fits (vnats figs).length:=by rw [vnats_len]; exact hfl
      have hfm:fits ((figs.map fun f => [f]).map fun w => V.list (vnats w)).length:=by rw [List.length_map,List.length_map]; exact hfl
      have hp:pIdx (-1) ((figs.map fun f => [f]).map fun w => V.list (vnats w)).length = some (((figs.map fun f => [f]).map fun w => V.list (vnats w)).length - 1):=pIdx_last (by rw [List.length_map,List.length_map]; exact h2)
      rcases over_cases _ h3 h5 with h0 | h0 | h0
      · rw [h0] at hN ⊢
        refine hN _ ?_
        unfold valsL
        rw [if_pos h0]
        rfl
      · have hv:=valsL_set figs (m:=((figs.getLastD 0:Int) + 16 - (figs.getLastD 0:Int)).toNat) (by rw [h0]; decide) ((if_pos h0).trans (congrArg Int.toNat (addsub (figs.getLastD 0) 16)).symm)
        rw [h0] at hN ⊢
        refine And.intro hfv (Exists.intro _ (And.intro hat (And.intro hfv (Exists.intro _ (And.intro hat ?_)))))
        have hx:=Nat.le_trans (h6 h0) (show 48 ≤ 60 by decide)
        generalize figs.getLastD 0 = x at *
        refine And.intro ⟨near_le (n:=x) (Nat.le_trans hx (by decide)),near_le (n:=x + 16) (Nat.le_trans (Nat.add_le_add_right hx 16) (by decide))⟩ (And.intro (show fits ((x:Int) + 16 - (x:Int)).toNat by rw [addsub]; exact Nat.le_of_ble_eq_true rfl) ?_)
        refine fun a => And.intro rfl (And.intro rfl (Exists.intro _ (And.intro rfl (And.intro hfm (Exists.intro _ (And.intro hp (hN _ ?_)))))))
        rw [← hv]
        rfl
      · have hv:=valsL_set figs (m:=((figs.getLastD 0:Int) + 4 - (figs.getLastD 0:Int)).toNat) (by rw [h0]; decide) ((if_neg (by rw [h0]; decide)).trans (congrArg Int.toNat (addsub (figs.getLastD 0) 4)).symm)
        rw [h0] at hN ⊢
        refine And.intro hfv (Exists.intro _ (And.intro hat (And.intro hfv (Exists.intro _ (And.intro hat ?_)))))
        have hx:=h7 h0
        generalize figs.getLastD 0 = x at *
        refine And.intro ⟨near_le (n:=x) (Nat.le_trans hx (by decide)),near_le (n:=x + 4) (Nat.le_trans (Nat.add_le_add_right hx 4) (by decide))⟩ (And.intro (show fits ((x:Int) + 4 - (x:Int)).toNat by rw [addsub]; exact Nat.le_of_ble_eq_true rfl) ?_)
        refine fun a => And.intro rfl (And.intro rfl (Exists.intro _ (And.intro rfl (And.intro hfm (Exists.intro _ (And.intro hp (hN _ ?_)))))))
        rw [← hv]
        rfl
    · refine toX ?_
      refine And.intro (caps1 ⟨_,rfl⟩) (And.intro (caps1 ⟨_,rfl⟩) (Exists.intro _ (And.intro rfl (And.intro ?_ (compI_map (fun u => vsigns (signsOf alph (natsOf u))) _ (fun u hu M hM => ?_) ?_)))))
      · rw [List.length_map,valsL_len]; exact hfl
      · obtain ⟨w,hw,rfl⟩:=List.mem_map.mp hu
        rw [natsOf_vnats] at hM
        obtain ⟨hw1,hw2⟩:=valsL_ok h4 h6 h5 h7 w hw
        have hfw:fits (vnats w).length:=by rw [vnats_len]; exact Nat.le_trans hw1 (by decide)
        refine And.intro (caps1 ⟨_,rfl⟩) (And.intro (caps1 ⟨_,rfl⟩) (Exists.intro _ (And.intro rfl (And.intro hfw (compI_map (fun v => .str [alph.getD (intOf v).toNat 0]) _ (fun u hu M' hM' => ?_) ?_)))))
        · obtain ⟨v,hv,rfl⟩:=mem_vnats hu
          have hv64:=hw2 v hv
          refine idxQ (k:=v) rfl rfl (by rw [h1]; exact hv64) (by rw [h1]; decide) ?_
          refine And.intro rfl ?_
          rw [List.getElem_eq_getD 0]
          exact hM'
        · refine And.intro caps0 (And.intro caps0 (Exists.intro _ (And.intro rfl (And.intro hfw (compI_rule (fun v => if 61 < intOf v then some (.str [if intOf v = 62 then 43 else 47]) else none) _ _ (fun u hu M' N0 hM' => ?_) ?_)))))
          · obtain ⟨v,hv,rfl⟩:=mem_vnats hu
            have hv64:=hw2 v hv
            rcases v64 v hv64 with h | rfl | rfl
            · rw [if_neg (show ¬ 61 < intOf (V.int v) from fun h' => absurd (Int.ofNat_lt.mp h') (Nat.not_lt.mpr h))] at hM'
              exact And.intro rfl (ifF (decide_eq_false (fun h' => absurd (Int.ofNat_lt.mp h') (Nat.not_lt.mpr h))) hM')
            · refine And.intro rfl (idxQ (k:=0) (y:=[43,47]) (by decide +kernel) rfl (by decide) (by decide) (And.intro rfl hM'))
            · refine And.intro rfl (idxQ (k:=1) (y:=[43,47]) (by decide +kernel) rfl (by decide) (by decide) (And.intro rfl hM'))
          · rw [List.nil_append]
            refine And.intro (And.intro rfl ?_) (And.intro rfl ?_)
            · rw [List.length_map,vnats_len]
              exact Nat.le_trans (Nat.add_le_add hw1 (Nat.le_trans (List.length_filterMap_le _ _) (by rw [vnats_len]; exact hw1))) (by decide)
            · rw [signs_eq]; exact hM
      · obtain ⟨hp,hp3⟩:=pads _ h3
        refine And.intro rfl (And.intro fits1 (And.intro fits1 ?_))
        refine lenP.mk _ _ rfl rfl (by rw [vnats_len]; exact hfl) (And.intro (by decide) ?_)
        rw [vnats_len,hp]
        have hf4:fits (valsL figs).length:=by rw [valsL_len]; exact hfl
        unfold vways waysL at hK
        generalize (4 - figs.length % 4) % 4 = p at *
        refine And.intro (And.intro rfl (And.intro (Int.le_trans (by decide) (Int.natCast_nonneg p)) (And.intro (Int.ofNat_le.mpr (Nat.le_trans hp3 (by decide))) (show fits (1 * p) by rw [Nat.one_mul]; exact Nat.le_trans hp3 (by decide))))) (And.intro (And.intro rfl ?_) ?_)
        · rw [rep_eq,List.length_map,List.length_map,List.length_map,List.length_replicate,valsL_len]
          exact Nat.le_trans (Nat.add_le_add h3 hp3) (by decide)
        · rw [List.map_append,List.map_map] at hK
          rw [rep_eq,List.map_map]
          refine Eq.mp (congrArg (fun g => K (.list (List.map g (valsL figs) ++ _))) (funext fun w => ?_)) hK
          exact congrArg (fun y => vsigns (signsOf alph y)) (natsOf_vnats w).symm
end
noncomputable section
set_option maxHeartbeats 4000000
noncomputable def alnumA (c:Nat):Bool:=(48 ≤ c && c ≤ 57) || (65 ≤ c && c ≤ 90) || (97 ≤ c && c ≤ 122)
theorem alnum_ok:∀ c,c < 128 → Txt.isalnum ⟨#[c]⟩ = alnumA c:=by decide +kernel
noncomputable def ins (c:Nat):List Nat → List Nat
  | [] => [c]
  | x :: r => if c ≤ x then c :: x :: r else x :: ins c r
noncomputable def isort:List Nat → List Nat
  | [] => []
  | x :: r => ins x (isort r)
theorem ins_perm (c:Nat):∀ l:List Nat,(ins c l).Perm (c :: l)
  | [] => .refl _
  | x :: r => by
    unfold ins
    split
    · exact .refl _
    · exact ((ins_perm c r).cons x).trans (.swap c x r)
theorem isort_perm:∀ l:List Nat,(isort l).Perm l
  | [] => .refl _
  | x :: r => (ins_perm x (isort r)).trans ((isort_perm r).cons x)
set_option tactic.hygienic true in
theorem ins_sorted (c:Nat):∀ l:List Nat,l.Pairwise (· ≤ ·) → (ins c l).Pairwise (· ≤ ·)
  | [],_ => by simp [ins]
  | x :: r,h => by
    unfold ins
    split
    · rename_i hc
      refine List.pairwise_cons.mpr ⟨fun y hy => ?_,h⟩
      rcases List.mem_cons.mp hy with rfl | hy
      · exact hc
      · exact Nat.le_trans hc ((List.pairwise_cons.mp h).1 y hy)
    · rename_i hc
      obtain ⟨h1,h2⟩:=List.pairwise_cons.mp h
      refine List.pairwise_cons.mpr ⟨fun y hy => ?_,ins_sorted c r h2⟩
      rcases List.mem_cons.mp ((ins_perm c r).mem_iff.mp hy) with rfl | hy
      · omega
      · exact h1 y hy
theorem isort_sorted:∀ l:List Nat,(isort l).Pairwise (· ≤ ·)
  | [] => .nil
  | x :: r => ins_sorted x _ (isort_sorted r)
theorem sorted_unique:∀ (l m:List Nat),l.Perm m → l.Pairwise (· ≤ ·) → m.Pairwise (· ≤ ·) → l = m
  | [],m,h,_,_ => (List.Perm.nil_eq h)
  | x :: l,[],h,_,_ => absurd h.length_eq (by simp)
  | x :: l,y :: m,h,hl,hm => by
    obtain ⟨h1,h2⟩:=List.pairwise_cons.mp hl
    obtain ⟨h3,h4⟩:=List.pairwise_cons.mp hm
    have hxy:x = y:=by
      have hx:x ∈ y :: m:=h.mem_iff.mp (.head _)
      have hy:y ∈ x :: l:=h.mem_iff.mpr (.head _)
      rcases List.mem_cons.mp hx with e | hx
      · exact e
      rcases List.mem_cons.mp hy with e | hy
      · exact e.symm
      exact Nat.le_antisymm (h1 y hy) (h3 x hx)
    subst hxy
    rw [sorted_unique l m (List.Perm.cons_inv h) h2 h4]
theorem rising_pair:∀ (l:List Nat) (p:Nat),risingS ⟨#[p]⟩ (l.map fun c => ⟨#[c]⟩) = true → (p :: l).Pairwise (· ≤ ·)
  | [],p,_ => by simp
  | x :: r,p,h => by
    simp only [List.map_cons,risingS,Bool.and_eq_true,Bool.not_eq_true',ltCps,Bool.or_eq_false_iff,decide_eq_false_iff_not] at h
    have ih:=rising_pair r x h.2
    refine List.pairwise_cons.mpr ⟨fun y hy => ?_,ih⟩
    have hpx:p ≤ x:=by have:=h.1.1; omega
    rcases List.mem_cons.mp hy with rfl | hy
    · exact hpx
    · exact Nat.le_trans hpx ((List.pairwise_cons.mp ih).1 y hy)
theorem sorted_is {signs:List Nat} {zs:List (List Nat)} (hp:zs.Perm (signs.map fun c => [c])) (hs:sortedS (zs.map fun z => ⟨z.toArray⟩) = true):zs = (isort signs).map fun c => [c]:=by
  have hall:∀ z ∈ zs,∃ c,z = [c]:=fun z hz => by
    obtain ⟨c,_,rfl⟩:=List.mem_map.mp (hp.mem_iff.mp hz)
    exact ⟨c,rfl⟩
  have hz:zs = (zs.map (·.headD 0)).map fun c => [c]:=by
    rw [List.map_map]
    refine (List.map_id _).symm.trans (List.map_congr_left fun z hz => ?_)
    obtain ⟨c,rfl⟩:=hall z hz
    rfl
  have hp':(zs.map (·.headD 0)).Perm signs:=by
    have:=hp.map (·.headD 0)
    rw [List.map_map] at this
    simpa [Function.comp_def] using this
  generalize zs.map (·.headD 0) = l at *
  subst hz
  have hl:l.Pairwise (· ≤ ·):=by
    cases l with
    | nil => exact .nil
    | cons x r =>
      refine rising_pair r x ?_
      simpa [sortedS,Function.comp_def] using hs
  rw [sorted_unique l (isort signs) (hp'.trans (isort_perm signs).symm) hl (isort_sorted signs)]
theorem mem_dropLast {α:Type} {l:List α} {x:α} (h:x ∈ l.dropLast):x ∈ l:=by
  rw [List.dropLast_eq_take] at h
  exact List.mem_of_mem_take h
theorem at_neg1 {α:Type} (l:List α) (x:α):at? (l ++ [x]) (-1) = some x:=by
  have hl:(l ++ [x]).length = l.length + 1:=List.length_append
  unfold at?
  rw [if_neg (by decide),if_pos (by rw [hl]; exact m1le (Nat.le_add_left 1 _)),m1nat,hl]
  exact List.getElem?_concat_length
theorem set_last {α:Type} (l:List α) (x y:α):(l ++ [x]).set ((l ++ [x]).length - 1) y = l ++ [y]:=by
  rw [List.length_append,List.length_singleton,Nat.add_sub_cancel]
  simp [List.set_append]
theorem nil_or_snoc {α:Type} (l:List α):l = [] ∨ ∃ a b,l = a ++ [b]:=by
  rcases List.eq_nil_or_concat l with h | ⟨a,b,h⟩
  · exact .inl h
  · exact .inr ⟨a,b,by rw [h,List.concat_eq_append]⟩
theorem sum_le {m:Nat}:∀ l:List Nat,(∀ x ∈ l,x ≤ m) → l.sum ≤ m * l.length
  | [],_ => by simp
  | x :: r,h => by
    have h1:=sum_le r fun y hy => h y (.tail _ hy)
    have h2:=h x (.head _)
    rw [List.sum_cons,List.length_cons,Nat.mul_succ]; omega
noncomputable def runStep (acc:List (List Nat)) (c:Nat):List (List Nat) :=
  match acc.getLast? with
  | none => acc ++ [[c]]
  | some r => if alnumA c && (alnumA (r.getLastD 0) && (c == r.getLastD 0 + 1)) then acc.dropLast ++ [r ++ [c]] else acc ++ [[c]]
noncomputable def runJoin (r:List Nat):List Nat:=if r.length < 3 then r else [r.headD 0,45,r.getLastD 0]
noncomputable def runsP (signs:List Nat):List Nat:=(((isort signs).foldl runStep []).map runJoin).flatten
structure RunsOk (acc:List (List Nat)) (k:Nat):Prop where
  ne:∀ r ∈ acc,r ≠ []
  lt:∀ r ∈ acc,∀ c ∈ r,c < 128
  len:acc.length ≤ k
  rl:∀ r ∈ acc,r.length ≤ k
set_option tactic.hygienic true in
theorem runStep_ok {acc:List (List Nat)} {k c:Nat} (h:RunsOk acc k) (hc:c < 128):RunsOk (runStep acc c) (k + 1):=by
  obtain ⟨h1,h2,h3,h4⟩:=h
  have plain:RunsOk (acc ++ [[c]]) (k + 1):=by
    refine ⟨fun r hr => ?_,fun r hr => ?_,by simp; omega,fun r hr => ?_⟩
    · rcases List.mem_append.mp hr with hr | hr
      · exact h1 r hr
      · simp at hr; subst hr; simp
    · rcases List.mem_append.mp hr with hr | hr
      · exact h2 r hr
      · simp at hr; subst hr; intro d hd; simp at hd; omega
    · rcases List.mem_append.mp hr with hr | hr
      · have:=h4 r hr; omega
      · simp at hr; subst hr; simp
  unfold runStep
  split
  · exact plain
  · rename_i r hr
    split
    · have hmem:=List.mem_of_getLast? hr
      refine ⟨fun r' hr' => ?_,fun r' hr' => ?_,by simp; omega,fun r' hr' => ?_⟩
      · rcases List.mem_append.mp hr' with hr' | hr'
        · exact h1 r' (mem_dropLast hr')
        · simp at hr'; subst hr'; simp
      · rcases List.mem_append.mp hr' with hr' | hr'
        · exact h2 r' (mem_dropLast hr')
        · simp at hr'; subst hr'
          intro d hd
          rcases List.mem_append.mp hd with hd | hd
          · exact h2 r hmem d hd
          · simp at hd; omega
      · rcases List.mem_append.mp hr' with hr' | hr'
        · have:=h4 r' (mem_dropLast hr'); omega
        · simp at hr'; subst hr'
          have:=h4 r hmem
          simp; omega
    · exact plain
theorem runs_ok:∀ (l:List Nat) (acc:List (List Nat)) (k:Nat),RunsOk acc k → (∀ c ∈ l,c < 128) → RunsOk (l.foldl runStep acc) (k + l.length)
  | [],acc,k,h,_ => h
  | c :: r,acc,k,h,hl => by
    have:=runs_ok r _ (k + 1) (runStep_ok h (hl c (.head _))) fun d hd => hl d (.tail _ hd)
    rw [List.foldl_cons,show k + (c :: r).length = k + 1 + r.length by simp; omega]
    exact this
theorem vstrs_len (l:List (List Nat)):(vstrs l).length = l.length:=by simp [vstrs]
theorem sortI {signs:List Nat} {K:V → Prop} (h:signs.length < 64) (hK:K (.list (vstrs ((isort signs).map fun c => [c])))):sortP [.list (vstrs (signs.map fun c => [c]))] K :=
  ⟨signs.map fun c => [c],rfl,by simpa using h,fun zs hp hs => by rw [sorted_is hp hs]; exact hK⟩
theorem runsP_len {signs:List Nat} (hn:signs.length ≤ 30) (hlt:∀ c ∈ signs,c < 128):(runsP signs).length ≤ 1290:=by
  have hok0:RunsOk [] 0:=⟨(fun ℓ h => by cases h),(fun ℓ h => by cases h),Nat.le_refl _,fun ℓ h => by cases h⟩
  have hok:=runs_ok (isort signs) [] 0 hok0 fun c hc => hlt c ((isort_perm signs).mem_iff.mp hc)
  have hnl:(isort signs).length = signs.length:=(isort_perm signs).length_eq
  unfold runsP
  rw [hnl,Nat.zero_add] at hok
  generalize (isort signs).foldl runStep [] = acc at *
  have hs:=sum_le (m:=43) ((acc.map runJoin).map (·.length)) (fun x hx => by
    simp only [List.map_map,List.mem_map] at hx
    obtain ⟨r,hr,rfl⟩:=hx
    have:=hok.rl r hr
    simp only [Function.comp_def,runJoin]
    split
    · omega
    · simp)
  rw [List.length_map,List.length_map] at hs
  have:=hok.len
  rw [List.length_flatten]
  exact Nat.le_trans hs (by omega)
theorem vstrs_app (a b:List (List Nat)):vstrs (a ++ b) = vstrs a ++ vstrs b:=List.map_append
theorem runStep_snoc (ini:List (List Nat)) (r0:List Nat) (d c:Nat):runStep (ini ++ [r0 ++ [d]]) c = if alnumA c && (alnumA d && (c == d + 1)) then ini ++ [r0 ++ [d] ++ [c]] else ini ++ [r0 ++ [d]] ++ [[c]]:=by
  unfold runStep
  rw [List.getLast?_concat]
  dsimp only
  rw [List.dropLast_concat,show (r0 ++ [d]).getLastD 0 = d by rw [List.getLastD_eq_getLast?,List.getLast?_concat]; rfl]
theorem ok0:RunsOk [] 0:=⟨(fun ℓ h => nomatch h),(fun ℓ h => nomatch h),Nat.le_refl _,fun ℓ h => nomatch h⟩
noncomputable def strOf:V → List Nat
  | .str l => l
  | _ => []
theorem dash1:cs "-" = [45]:=by decide +kernel
theorem at_0 {l:List Nat} (h:l ≠ []):at? l 0 = some (l.headD 0):=by
  cases l
  · exact absurd rfl h
  · rfl
theorem at_neg {l:List Nat} (h:l ≠ []):at? l (-1) = some (l.getLastD 0):=by
  rcases nil_or_snoc l with rfl | ⟨a,b,rfl⟩
  · exact absurd rfl h
  · rw [at_neg1,List.getLastD_eq_getLast?,List.getLast?_concat]; rfl
noncomputable def rnRaw (signs:List Nat) (acc:List (List Nat)) (tl:Sto):Sto:=("signs",.val (vsigns signs)) :: ("runs",.own (vstrs acc)) :: tl
inductive RInv (signs l:List Nat) (k:Nat) (σ:Sto):Prop
  | mk (tl:Sto) (h:Tail1 "sign" tl) (e:σ = rnRaw signs ((l.take k).foldl runStep []) tl)
inductive P35 (us:List V) (K:V → Prop) (X:Value → Prop):Prop
  | mk (signs:List Nat) (e:us = [vsigns signs]) (h1:signs.length ≤ 30) (h2:∀ c ∈ signs,c < 128) (k:K (.str (runsP signs)))
theorem can35 {W:Wd} (B:Blts W) {a:Addr} {fd:FuncData} (f:Fun W 35 "_law_runs" a fd) (n:Nat):Can W (n + 1) "_law_runs" P35:=by
  obtain ⟨b1,b2,b3,b4,b5,b6,b7,b8,b9,b10,b11,b12,b13,b14⟩:=B
  refine fun_run f (xs:=["signs"]) (sl_seq (ss_assign_own (so_list sg_nil)) (sl_seq (ss_for (se_call_b cb_sorted b4 (sg_cons (se_name _) sg_nil)) (sl_seq (ss_ite (st_bool (sa_and (st_name _) (sa_and (st_val (se_meth0 cb_isalnum (se_name _) PySem.F.plainAttrs_str PySem.F.slot_str_isalnum PySem.F.type_str_isalnum)) (sa_and (st_val (se_meth0 cb_isalnum (se_idx (se_lit _ (lit_neg (lit_int _))) (se_neg (se_int _))) PySem.F.plainAttrs_str PySem.F.slot_str_isalnum PySem.F.type_str_isalnum)) (sa_and (st_cmp (se_call_b cb_ord b2 (sg_cons (se_name _) sg_nil)) (se_bin2 (se_call_b cb_ord b2 (sg_cons (se_idx (se_lit _ (lit_neg (lit_int _))) (se_neg (se_int _))) sg_nil)) (se_int _))) sa_and_nil))))) (sl_seq (ss_augset (lit_neg (lit_int _)) (se_name _)) sl_nil) (sl_seq (ss_append _ (se_name _)) sl_nil)) sl_nil)) (sl_seq (ss_return (se_meth cb_join (se_strc _) (sg_cons (se_comp' (caps:=[]) ⟨by rfl,by decide +kernel,by decide +kernel,by decide +kernel,by decide +kernel,by decide +kernel⟩ (se_name _) si_nil (se_if (st_cmp (se_len _ b1) (se_int _)) (se_name _) (se_bin2 (se_bin2 (se_lit _ (lit_int _)) (se_strc _)) (se_lit _ (lit_neg (lit_int _)))))) sg_nil) PySem.F.plainAttrs_str PySem.F.slot_str_join PySem.F.type_str_join)) sl_nil))) (bind1 fun fd v h h' => by unfold bindArgs; rw [h,h']; rfl) ?_
  rintro us K X ⟨signs,rfl,hn,hlt,hK⟩
  have hlt':∀ c ∈ isort signs,c < 128:=fun c hc => hlt c ((isort_perm signs).mem_iff.mp hc)
  have hnl:(isort signs).length = signs.length:=(isort_perm signs).length_eq
  refine ⟨rfl,And.intro (Nat.le_of_ble_eq_true rfl) (And.intro rfl ?_)⟩
  refine sortI (Nat.lt_of_le_of_lt hn (by decide)) ?_
  refine Exists.intro _ (And.intro rfl (forI_rule (I:=fun k σ => RInv signs (isort signs) k σ) _ ?_ ?_ _ ⟨[],.nil,rfl⟩))
  · unfold runsP at hK
    generalize isort signs = l at *
    rintro k u σ N hk ⟨tl,ht,rfl⟩ hN
    rw [vstrs,List.getElem?_map,List.getElem?_map] at hk
    obtain ⟨z,hz,rfl⟩:=Option.map_eq_some_iff.mp hk
    obtain ⟨c,hc',rfl⟩:=Option.map_eq_some_iff.mp hz
    have hc:=hlt' c (List.mem_of_getElem? hc')
    have hS:(l.take (k + 1)).foldl runStep [] = runStep ((l.take k).foldl runStep []) c:=by
      rw [List.take_add_one,hc',List.foldl_append]; rfl
    rw [show put (rnRaw signs ((l.take k).foldl runStep []) tl) "sign" (.val (.str [c])) = rnRaw signs ((l.take k).foldl runStep []) [("sign",.val (.str [c]))] by cases ht <;> rfl]
    replace hN:∀ acc',runStep ((l.take k).foldl runStep []) c = acc' → N (rnRaw signs acc' [("sign",.val (.str [c]))]):=fun acc' h => hN _ ⟨_,.one _,by rw [hS,h]⟩
    clear hS hz hk
    have hok:=runs_ok (l.take k) [] 0 ok0 fun c hc => hlt' c (List.mem_of_mem_take hc)
    have hkl:(l.take k).length ≤ 30:=Nat.le_trans (List.length_take_le' _ _) (by rw [hnl]; exact hn)
    rw [Nat.zero_add] at hok
    generalize (l.take k).length = kk at hok hkl
    generalize (l.take k).foldl runStep [] = acc at *
    obtain ⟨h1,h2,h3,h4⟩:=hok
    have hfa:fits (vstrs acc).length:=by rw [vstrs_len]; exact Nat.le_trans (Nat.le_trans h3 hkl) (by decide)
    have plain:runStep acc c = acc ++ [[c]] → N (("signs",.val (vsigns signs)) :: ("runs",.own (vstrs acc ++ [V.str [c]])) :: ("sign",.val (.str [c])) :: []):=fun h => by
      have:=hN _ h
      unfold rnRaw at this
      rw [vstrs_app] at this
      exact this
    have hal:=alnum_ok c hc
    rcases nil_or_snoc acc with rfl | ⟨ini,r,rfl⟩
    · exact And.intro hfa fun a => And.intro rfl (And.intro rfl (And.intro hfa (plain rfl)))
    · have hmem:r ∈ ini ++ [r]:=List.mem_append_right _ (.head _)
      rcases nil_or_snoc r with rfl | ⟨r0,d,rfl⟩
      · exact absurd rfl (h1 _ hmem)
      have hald:=alnum_ok d (h2 _ hmem d (List.mem_append_right _ (.head _)))
      have hfr:fits (r0 ++ [d]).length:=Nat.le_trans (Nat.le_trans (h4 _ hmem) hkl) (by decide)
      have e0:(!(vstrs (ini ++ [r0 ++ [d]])).isEmpty) = true:=by rw [vstrs_app]; cases vstrs ini <;> rfl
      have hat1:at? (vstrs (ini ++ [r0 ++ [d]])) (-1) = some (.str (r0 ++ [d])):=by rw [vstrs_app]; exact at_neg1 _ _
      have hat2:at? (r0 ++ [d]) (-1) = some d:=at_neg1 _ _
      rw [runStep_snoc] at hN plain
      replace plain:(alnumA c && (alnumA d && (c == d + 1))) = false → _:=fun h => plain (by rw [h]; rfl)
      refine And.intro hfa (ifT e0 (And.intro rfl (alnumI (ifB (fun ha => ?_) fun ha => ?_))))
      · have ha:=hal.symm.trans ha
        refine And.intro hfa (Exists.intro _ (And.intro hat1 (And.intro hfr (Exists.intro _ (And.intro hat2 (And.intro rfl (alnumI (ifB (fun hb => ?_) fun hb => ?_))))))))
        · have hb:=hald.symm.trans hb
          refine And.intro hfa (Exists.intro _ (And.intro hat1 (And.intro hfr (Exists.intro _ (And.intro hat2 (ifB (fun hcd => ifT rfl ?_) fun hcd => ifF rfl fun a => And.intro rfl (And.intro rfl (And.intro hfa (plain ?_)))))))))
          · rw [if_pos (by rw [ha,hb,beq_iff_eq.mpr (Int.ofNat_inj.mp (beq_iff_eq.mp hcd))]; rfl)] at hN
            refine And.intro hfa (Exists.intro _ (Exists.intro _ (And.intro (pIdx_last (by rw [vstrs_len,List.length_append]; exact Nat.le_add_left _ _)) (And.intro hat1 fun a => And.intro rfl (And.intro rfl (And.intro (And.intro rfl ?_) ?_))))))
            · exact Nat.le_trans (Nat.add_le_add_right (Nat.le_trans (h4 _ hmem) hkl) 1) (show 30 + 1 ≤ 10000 by decide)
            · have:=hN _ rfl
              unfold rnRaw at this
              rw [vstrs_app] at this
              have e:(vstrs (ini ++ [r0 ++ [d]])).set ((vstrs (ini ++ [r0 ++ [d]])).length - 1) (.str (r0 ++ [d] ++ [c])) = vstrs ini ++ vstrs [r0 ++ [d] ++ [c]]:=by rw [vstrs_app]; exact set_last _ _ _
              rw [← e] at this
              exact this
          · rw [ha,hb,Bool.true_and,Bool.true_and]
            exact beq_eq_false_iff_ne.mpr fun h => absurd (congrArg (fun (x:Nat) => (x:Int)) h) (beq_eq_false_iff_ne.mp hcd)
        · exact ifF rfl fun a => And.intro rfl (And.intro rfl (And.intro hfa (plain (by rw [← hald,hb,Bool.false_and,Bool.and_false]))))
      · exact ifF rfl fun a => And.intro rfl (And.intro rfl (And.intro hfa (plain (by rw [← hal,ha,Bool.false_and]))))
  · rintro σ ⟨tl,ht,rfl⟩
    rw [vstrs_len,List.length_map,List.take_of_length_le (Nat.le_refl _)]
    have hok:=runs_ok (isort signs) [] 0 ok0 hlt'
    have hjl:=runsP_len hn hlt
    rw [Nat.zero_add,hnl] at hok
    unfold runsP at hK hjl
    generalize (isort signs).foldl runStep [] = acc at *
    obtain ⟨h1,h2,h3,h4⟩:=hok
    refine And.intro rfl (And.intro caps0 (And.intro caps0 (Exists.intro _ (And.intro rfl (And.intro (by rw [vstrs_len]; exact Nat.le_trans (Nat.le_trans h3 hn) (by decide)) (compI_map (fun v => .str (runJoin (strOf v))) _ (fun u hu M hM => ?_) ?_))))))
    · obtain ⟨r,hr,rfl⟩:=List.mem_map.mp hu
      have hrl:fits r.length:=Nat.le_trans (Nat.le_trans (h4 r hr) hn) (by decide)
      have hne:=h1 r hr
      refine lenP.mk _ _ rfl rfl hrl (ifB (fun h => And.intro rfl ?_) fun h => ?_)
      · rw [show runJoin (strOf (.str r)) = r from if_pos (Int.ofNat_lt.mp (of_decide_eq_true h))] at hM
        exact hM
      · rw [show runJoin (strOf (.str r)) = [r.headD 0] ++ cs "-" ++ [r.getLastD 0] from (if_neg fun h' => absurd (Int.ofNat_lt.mpr h') (of_decide_eq_false h)).trans (by rw [dash1]; rfl)] at hM
        refine And.intro hrl (Exists.intro _ (And.intro (at_0 hne) (And.intro (And.intro rfl ?_) (And.intro hrl (Exists.intro _ (And.intro (at_neg hne) (And.intro (And.intro rfl ?_) (And.intro rfl hM))))))))
        · rw [dash1]; exact Nat.le_of_ble_eq_true rfl
        · rw [dash1]; exact Nat.le_of_ble_eq_true rfl
    · rw [show List.map (fun v => V.str (runJoin (strOf v))) (vstrs acc) = vstrs (acc.map runJoin) by unfold vstrs; rw [List.map_map,List.map_map]; rfl,show cs "" = [] from by decide +kernel]
      refine joinI ?_ ?_
      · rw [← List.length_flatten,List.length_nil,Nat.mul_zero]
        exact Nat.le_trans hjl (by decide)
      · rw [joinL_nil,List.flatMap_id]
        exact hK
end
noncomputable section
set_option maxHeartbeats 4000000
noncomputable def dressed (signs:List Nat) (how:Nat):List Nat :=
  if signs.length = 1 ∧ how < 4 then [signs.headD 0]
  else if signs.length = 1 ∧ 5 < how then [91,signs.headD 0,45,signs.headD 0,93]
  else
    let front:=if how % 4 = 2 then signs.filter (fun c => decide (c ∈ [94,91])) else []
    let inner:=front ++ runsP (signs.filter fun c => !decide (c ∈ [93,45,33] ++ front))
    let hyphen:=if 45 ∈ signs then [45] else []
    let inner':=if how % 2 = 1 then [57,45,48] ++ hyphen ++ inner else inner
    let hyphen':=if how % 2 = 1 then [] else hyphen
    let inner'':=if 93 ∈ signs then [93] ++ inner' else inner'
    [91] ++ inner'' ++ (if 33 ∈ signs then [33] else []) ++ hyphen' ++ [93]
theorem mem_single {c:Nat} {signs:List Nat}:[c] ∈ signs.map (fun c => [c]) ↔ c ∈ signs:=by
  rw [List.mem_map]
  constructor
  · rintro ⟨d,hd,e⟩; cases e; exact hd
  · intro h; exact ⟨c,h,rfl⟩
theorem filt {p:Nat → Bool}:∀ signs:List Nat,(vstrs (signs.map fun c => [c])).filterMap (fun v => match v with | .str [c] => if p c = true then some v else none | _ => none) = vstrs ((signs.filter p).map fun c => [c])
  | [] => rfl
  | c :: r => by
    have ih:=filt (p:=p) r
    show List.filterMap _ (V.str [c] :: vstrs (r.map fun c => [c])) = _
    rw [List.filterMap_cons,List.filter_cons]
    cases h:p c with
    | true => simp only [h,if_true,List.map_cons]; rw [ih]; rfl
    | false => simp only [h,if_false,Bool.false_eq_true]; exact ih
theorem flat_single:∀ l:List Nat,(l.map fun c => [c]).flatMap id = l
  | [] => rfl
  | c :: r => by rw [List.map_cons,List.flatMap_cons,flat_single r]; rfl
theorem sum_single (l:List Nat):((l.map fun c => [c]).map (·.length)).sum = l.length:=by
  induction l with
  | nil => rfl
  | cons c r ih => simp only [List.map_cons,List.sum_cons,ih,List.length_cons,List.length_nil]; omega
theorem cs91:cs "[" = [91]:=by decide +kernel
theorem cs93:cs "]" = [93]:=by decide +kernel
theorem sm8 {n:Nat} (h:Nat.ble n 10000 = true:=by rfl):fits n:=Nat.le_of_ble_eq_true h
theorem dressed_1 {signs:List Nat} {how:Nat} (h:signs.length = 1 ∧ how < 4):dressed signs how = [signs.headD 0]:=if_pos h
theorem dressed_2 {signs:List Nat} {how:Nat} (h:¬(signs.length = 1 ∧ how < 4)) (h2:signs.length = 1 ∧ 5 < how):dressed signs how = [91,signs.headD 0,45,signs.headD 0,93]:=(if_neg h).trans (if_pos h2)
theorem beqN {a b:Nat} (h:((a:Int) == (b:Int)) = true):a = b:=Int.ofNat_inj.mp (beq_iff_eq.mp h)
theorem bneN {a b:Nat} (h:((a:Int) == (b:Int)) = false):a ≠ b:=fun e => absurd (congrArg (fun (x:Nat) => (x:Int)) e) (beq_eq_false_iff_ne.mp h)
noncomputable def frontL (signs:List Nat) (how:Nat):List Nat:=if how % 4 = 2 then signs.filter (fun c => decide (c ∈ [94,91])) else []
noncomputable def innerL (signs:List Nat) (how:Nat):List Nat:=frontL signs how ++ runsP (signs.filter fun c => !decide (c ∈ [93,45,33] ++ frontL signs how))
noncomputable def hyphL (signs:List Nat):List Nat:=if 45 ∈ signs then [45] else []
noncomputable def inner2L (signs:List Nat) (how:Nat):List Nat:=if how % 2 = 1 then [57,45,48] ++ hyphL signs ++ innerL signs how else innerL signs how
noncomputable def hyph2L (signs:List Nat) (how:Nat):List Nat:=if how % 2 = 1 then [] else hyphL signs
noncomputable def inner3L (signs:List Nat) (how:Nat):List Nat:=if 93 ∈ signs then [93] ++ inner2L signs how else inner2L signs how
theorem dressed_3 {signs:List Nat} {how:Nat} (h:¬(signs.length = 1 ∧ how < 4)) (h2:¬(signs.length = 1 ∧ 5 < how)):dressed signs how = [91] ++ inner3L signs how ++ (if 33 ∈ signs then [33] else []) ++ hyph2L signs how ++ [93]:=(if_neg h).trans (if_neg h2)
theorem cs0:cs "" = []:=by decide +kernel
theorem csF:cs "^[" = [94,91]:=by decide +kernel
theorem csM:cs "]-!" = [93,45,33]:=by decide +kernel
theorem csN:cs "9-0" = [57,45,48]:=by decide +kernel
theorem cs33:cs "!" = [33]:=by decide +kernel
theorem pickT {p:Bool} {u:V} {M:V → Prop} {N0:Prop} (h:match (if p = true then some u else none:Option V) with | some v => M v | none => N0) (e:p = true):M u:=by subst e; exact h
theorem pickF {p:Bool} {u:V} {M:V → Prop} {N0:Prop} (h:match (if p = true then some u else none:Option V) with | some v => M v | none => N0) (e:p = false):N0:=by subst e; exact h
noncomputable def drRaw (signs:List Nat) (how:Nat) (tl:Sto):Sto:=("signs",.val (vsigns signs)) :: ("how",.val (.int how)) :: tl
inductive P36 (us:List V) (K:V → Prop) (X:Value → Prop):Prop
  | mk (signs:List Nat) (how:Nat) (e:us = [vsigns signs,.int how]) (h1:1 ≤ signs.length) (h2:signs.length ≤ 20) (h3:∀ c ∈ signs,c < 128) (k:K (.str (dressed signs how)))
theorem can36 {W:Wd} (B:Blts W) {a:Addr} {fd:FuncData} (f:Fun W 36 "_law_dressed" a fd) (n:Nat) (c35:Can W n "_law_runs" P35):Can W (n + 1) "_law_dressed" P36:=by
  obtain ⟨b1,b2,b3,b4,b5,b6,b7,b8,b9,b10,b11,b12,b13,b14⟩:=B
  refine fun_run f (xs:=["signs","how"]) (sl_seq (ss_ite (st_bool (sa_and (st_cmp (se_len _ b1) (se_int _)) (sa_and (st_cmp (se_name _) (se_int _)) sa_and_nil))) (sl_seq (ss_return (se_lit _ (lit_int _))) sl_nil) sl_nil) (sl_seq (ss_ite (st_bool (sa_and (st_cmp (se_len _ b1) (se_int _)) (sa_and (st_cmp (se_name _) (se_int _)) sa_and_nil))) (sl_seq (ss_return (se_bin2 (se_bin2 (se_bin2 (se_bin2 (se_strc _) (se_lit _ (lit_int _))) (se_strc _)) (se_lit _ (lit_int _))) (se_strc _))) sl_nil) sl_nil) (sl_seq (ss_assign (se_if (st_cmp (se_bin2 (se_name _) (se_int _)) (se_int _)) (se_meth cb_join (se_strc _) (sg_cons (se_comp' (caps:=[]) ⟨by rfl,by decide +kernel,by decide +kernel,by decide +kernel,by decide +kernel,by decide +kernel⟩ (se_name _) (si_one (st_cmp (se_name _) (se_strc _))) (se_name _)) sg_nil) PySem.F.plainAttrs_str PySem.F.slot_str_join PySem.F.type_str_join) (se_strc _))) (sl_seq (ss_un2s (se_tuple (sg_cons (se_bin2 (se_name _) (se_can c35 (sg_cons (se_comp' (caps:=["front"]) ⟨by rfl,by decide +kernel,by decide +kernel,by decide +kernel,by decide +kernel,by decide +kernel⟩ (se_name _) (si_one (st_cmp (se_name _) (se_bin2 (se_strc _) (se_name _)))) (se_name _)) sg_nil))) (sg_cons (se_if (st_cmp (se_strc _) (se_name _)) (se_strc _) (se_strc _)) sg_nil)))) (sl_seq (ss_ite (st_cmp (se_bin2 (se_name _) (se_int _)) (se_int _)) (sl_seq (ss_un2s (se_tuple (sg_cons (se_bin2 (se_bin2 (se_strc _) (se_name _)) (se_name _)) (sg_cons (se_strc _) sg_nil)))) sl_nil) sl_nil) (sl_seq (ss_ite (st_cmp (se_strc _) (se_name _)) (sl_seq (ss_assign (se_bin2 (se_strc _) (se_name _))) sl_nil) sl_nil) (sl_seq (ss_return (se_bin2 (se_bin2 (se_bin2 (se_bin2 (se_strc _) (se_name _)) (se_if (st_cmp (se_strc _) (se_name _)) (se_strc _) (se_strc _))) (se_name _)) (se_strc _))) sl_nil))))))) (bind2 fun fd v w h h' => by unfold bindArgs; rw [h,h']; rfl) ?_
  rintro us K X ⟨signs,how,rfl,h1,h2,h3,hK⟩
  have fsg:fits (vstrs (signs.map fun c => [c])).length:=by rw [vstrs_len,List.length_map]; exact Nat.le_trans h2 (by decide)
  have hat0:∀ c,signs = [c] → at? (vstrs (signs.map fun c => [c])) 0 = some (.str [c]):=fun c h => by rw [h]; rfl
  have hll:(vstrs (signs.map fun c => [c])).length = signs.length:=by rw [vstrs_len,List.length_map]
  have one:((((vstrs (signs.map fun c => [c])).length:Nat):Int) == 1) = true → ∃ c,signs = [c]:=fun h => by
    rw [hll] at h
    exact List.length_eq_one_iff.mp (Int.ofNat_inj.mp (beq_iff_eq.mp h))
  refine ⟨rfl,?_⟩
  refine seqCutR (fun σ' => σ' = drRaw signs how [] ∧ ¬(signs.length = 1 ∧ how < 4)) (fun N hN => ?_) ?_
  · refine lenP.mk _ _ rfl rfl fsg (ifB (fun e1 => ifB (fun e2 => ifT rfl ?_) fun e2 => ifF rfl (hN _ ⟨rfl,?_⟩)) fun e1 => ifF rfl (hN _ ⟨rfl,?_⟩))
    · obtain ⟨c,rfl⟩:=one e1
      rw [dressed_1 ⟨rfl,Int.ofNat_lt.mp (of_decide_eq_true e2)⟩] at hK
      exact And.intro fsg (Exists.intro _ (And.intro rfl hK))
    · exact fun h => absurd (Int.ofNat_lt.mpr h.2) (of_decide_eq_false e2)
    · exact fun h => absurd (by rw [hll,h.1]; rfl) (Bool.eq_false_iff.mp e1)
  · rintro σ' ⟨rfl,c1⟩
    refine seqCutR (fun σ' => σ' = drRaw signs how [] ∧ ¬(signs.length = 1 ∧ 5 < how)) (fun N hN => ?_) ?_
    · refine lenP.mk _ _ rfl rfl fsg (ifB (fun e1 => ifB (fun e2 => ifT rfl ?_) fun e2 => ifF rfl (hN _ ⟨rfl,?_⟩)) fun e1 => ifF rfl (hN _ ⟨rfl,?_⟩))
      · obtain ⟨c,rfl⟩:=one e1
        rw [dressed_2 c1 ⟨rfl,Int.ofNat_lt.mp (of_decide_eq_true e2)⟩] at hK
        rw [show ([91,[c].headD 0,45,[c].headD 0,93]:List Nat) = cs "[" ++ [c] ++ cs "-" ++ [c] ++ cs "]" by rw [dash1,cs91,cs93]; rfl] at hK
        refine And.intro fsg (Exists.intro _ (And.intro rfl (And.intro (And.intro rfl (by rw [cs91]; exact sm8)) (And.intro (And.intro rfl (by rw [cs91,dash1]; exact sm8)) (And.intro fsg (Exists.intro _ (And.intro rfl (And.intro (And.intro rfl (by rw [cs91,dash1]; exact sm8)) (And.intro (And.intro rfl (by rw [cs91,dash1,cs93]; exact sm8)) hK)))))))))
      · exact fun h => absurd (Int.ofNat_lt.mpr h.2) (of_decide_eq_false e2)
      · exact fun h => absurd (by rw [hll,h.1]; rfl) (Bool.eq_false_iff.mp e1)
    · rintro σ' ⟨rfl,c2⟩
      rw [dressed_3 c1 c2] at hK
      refine seqCut (fun σ' => σ' = drRaw signs how [("front",.val (.str (frontL signs how)))]) (fun N hN => ?_) ?_
      · refine And.intro (by decide) (ifB (fun e => And.intro rfl (And.intro caps0 (And.intro caps0 (Exists.intro _ (And.intro rfl (And.intro fsg (compI_rule (fun v => match v with | .str [c] => if decide (c ∈ [94,91]) = true then some v else none | _ => none) _ _ (fun u hu M N0 hM => ?_) ?_))))))) fun e => hN _ ?_)
        · rw [vstrs,List.map_map] at hu
          obtain ⟨c,hc,rfl⟩:=List.mem_map.mp hu
          rw [csF]
          exact Exists.intro c (And.intro rfl (And.intro rfl (ifB (fun e => And.intro rfl (pickT (p:=decide (c ∈ [94,91])) (u:=V.str [c]) hM e)) fun e => pickF (p:=decide (c ∈ [94,91])) (u:=V.str [c]) hM e)))
        · rw [show (how:Int).fmod 4 = ((how % 4:Nat):Int) from fmod_nat _ 4] at e
          rw [List.nil_append,filt,cs0]
          refine joinI ?_ ?_
          · rw [sum_single]
            exact Nat.le_trans (Nat.le_trans (List.length_filter_le _ _) h2) (by decide)
          · rw [joinL_nil,flat_single]
            exact hN _ (by unfold frontL; rw [if_pos (beqN e)]; rfl)
        · rw [show (how:Int).fmod 4 = ((how % 4:Nat):Int) from fmod_nat _ 4] at e
          unfold frontL
          rw [if_neg (bneN e),cs0]
          rfl
      · refine toX ?_
        have hrl:(runsP (signs.filter fun c => !decide (c ∈ [93,45,33] ++ frontL signs how))).length ≤ 1290:=runsP_len (Nat.le_trans (List.length_filter_le _ _) (Nat.le_trans h2 (by decide))) fun c hc => h3 c (List.mem_filter.mp hc).1
        have hfl:(frontL signs how).length ≤ 20:=by
          unfold frontL
          split
          · exact Nat.le_trans (List.length_filter_le _ _) h2
          · exact Nat.zero_le _
        refine seqCut (fun σ' => σ' = drRaw signs how [("front",.val (.str (frontL signs how))),("hyphen",.val (.str (hyphL signs))),("inner",.val (.str (innerL signs how)))]) (fun N hN => ?_) ?_
        · refine And.intro (caps1 ⟨_,rfl⟩) (And.intro (caps1 ⟨_,rfl⟩) (Exists.intro _ (And.intro rfl (And.intro fsg (compI_rule (fun v => match v with | .str [c] => if (!decide (c ∈ [93,45,33] ++ frontL signs how)) = true then some v else none | _ => none) _ _ (fun u hu M N0 hM => ?_) ?_)))))
          · rw [vstrs,List.map_map] at hu
            obtain ⟨c,hc,rfl⟩:=List.mem_map.mp hu
            rw [csM]
            refine And.intro (And.intro rfl (show fits (3 + (frontL signs how).length) from Nat.le_trans (Nat.add_le_add_left hfl 3) (by decide))) (Exists.intro c (And.intro rfl (And.intro rfl (ifB (fun e => And.intro rfl (pickT (p:=!decide (c ∈ [93,45,33] ++ frontL signs how)) (u:=V.str [c]) hM e)) fun e => pickF (p:=!decide (c ∈ [93,45,33] ++ frontL signs how)) (u:=V.str [c]) hM e))))
          · rw [List.nil_append,filt]
            refine P35.mk _ rfl (Nat.le_trans (List.length_filter_le _ _) (Nat.le_trans h2 (by decide))) (fun c hc => h3 c (List.mem_filter.mp hc).1) (And.intro (And.intro rfl (Nat.le_trans (Nat.add_le_add hfl hrl) (by decide))) ?_)
            rw [dash1,cs0]
            refine Exists.intro (signs.map fun c => [c]) (And.intro rfl (ifB (fun e => And.intro fits2 (And.intro rfl (hN _ ?_))) fun e => And.intro fits2 (And.intro rfl (hN _ ?_))))
            · unfold hyphL
              rw [if_pos (mem_single.mp (of_decide_eq_true e))]
              rfl
            · unfold hyphL
              rw [if_neg (fun h => absurd (mem_single.mpr h) (of_decide_eq_false e))]
              rfl
        · refine toX ?_
          have hhl:(hyphL signs).length ≤ 1:=by unfold hyphL; split <;> decide
          have hil:(innerL signs how).length ≤ 1310:=by unfold innerL; rw [List.length_append]; exact Nat.add_le_add hfl hrl
          have hhl2:(hyph2L signs how).length ≤ 1:=by
            unfold hyph2L
            split
            · exact Nat.zero_le _
            · exact hhl
          have hil2:(inner2L signs how).length ≤ 1314:=by
            unfold inner2L
            split
            · rw [List.length_append,List.length_append]; exact Nat.add_le_add (Nat.add_le_add (Nat.le_refl 3) hhl) hil
            · exact Nat.le_trans hil (by decide)
          have hil3:(inner3L signs how).length ≤ 1315:=by
            unfold inner3L
            split
            · rw [List.length_append]; exact Nat.add_le_add (Nat.le_refl 1) hil2
            · exact Nat.le_trans hil2 (by decide)
          refine seqCut (fun σ' => σ' = drRaw signs how [("front",.val (.str (frontL signs how))),("hyphen",.val (.str (hyph2L signs how))),("inner",.val (.str (inner2L signs how)))]) (fun N hN => ?_) ?_
          · refine And.intro (by decide) (ifB (fun e => ?_) fun e => hN _ ?_)
            · rw [csN,cs0]
              refine And.intro (And.intro rfl (show fits (3 + (hyphL signs).length) from Nat.le_trans (Nat.add_le_add_left hhl 3) (by decide))) (And.intro (And.intro rfl ?_) (And.intro fits2 (And.intro rfl (hN _ ?_))))
              · rw [List.length_append]
                exact Nat.le_trans (Nat.add_le_add (Nat.add_le_add (Nat.le_refl 3) hhl) hil) (by decide)
              · rw [show (how:Int).fmod 2 = ((how % 2:Nat):Int) from fmod_nat _ 2] at e
                unfold hyph2L inner2L
                rw [if_pos (beqN e),if_pos (beqN e)]
                rfl
            · rw [show (how:Int).fmod 2 = ((how % 2:Nat):Int) from fmod_nat _ 2] at e
              unfold hyph2L inner2L
              rw [if_neg (bneN e),if_neg (bneN e)]
          · refine toX ?_
            refine seqCut (fun σ' => σ' = drRaw signs how [("front",.val (.str (frontL signs how))),("hyphen",.val (.str (hyph2L signs how))),("inner",.val (.str (inner3L signs how)))]) (fun N hN => ?_) ?_
            · rw [cs93]
              refine Exists.intro (signs.map fun c => [c]) (And.intro rfl (ifB (fun e => And.intro (And.intro rfl ?_) (hN _ ?_)) fun e => hN _ ?_))
              · exact Nat.le_trans (Nat.add_le_add (Nat.le_refl 1) hil2) (by decide)
              · unfold inner3L
                rw [if_pos (mem_single.mp (of_decide_eq_true e))]
                rfl
              · unfold inner3L
                rw [if_neg (fun h => absurd (mem_single.mpr h) (of_decide_eq_false e))]
            · refine toX ?_
              rw [cs91,cs33,cs93,cs0]
              refine And.intro (And.intro rfl (Nat.le_trans (Nat.add_le_add (Nat.le_refl 1) hil3) (by decide))) (Exists.intro (signs.map fun c => [c]) (And.intro rfl (ifB (fun e => ?_) fun e => ?_)))
              · rw [if_pos (mem_single.mp (of_decide_eq_true e))] at hK
                refine And.intro (And.intro rfl (show fits _ from ?_)) (And.intro (And.intro rfl (show fits _ from ?_)) (And.intro (And.intro rfl (show fits _ from ?_)) hK))
                · rw [List.length_append]
                  exact Nat.le_trans (Nat.add_le_add (Nat.add_le_add (Nat.le_refl 1) hil3) (Nat.le_refl 1)) (show 1 + 1315 + 1 ≤ 10000 by decide)
                · rw [List.length_append,List.length_append]
                  exact Nat.le_trans (Nat.add_le_add (Nat.add_le_add (Nat.add_le_add (Nat.le_refl 1) hil3) (Nat.le_refl 1)) hhl2) (show 1 + 1315 + 1 + 1 ≤ 10000 by decide)
                · rw [List.length_append,List.length_append,List.length_append]
                  exact Nat.le_trans (Nat.add_le_add (Nat.add_le_add (Nat.add_le_add (Nat.add_le_add (Nat.le_refl 1) hil3) (Nat.le_refl 1)) hhl2) (Nat.le_refl 1)) (show 1 + 1315 + 1 + 1 + 1 ≤ 10000 by decide)
              · rw [if_neg (fun h => absurd (mem_single.mpr h) (of_decide_eq_false e))] at hK
                refine And.intro (And.intro rfl (show fits _ from ?_)) (And.intro (And.intro rfl (show fits _ from ?_)) (And.intro (And.intro rfl (show fits _ from ?_)) hK))
                · rw [List.length_append]
                  exact Nat.le_trans (Nat.add_le_add (Nat.add_le_add (Nat.le_refl 1) hil3) (Nat.le_refl 0)) (show 1 + 1315 + 0 ≤ 10000 by decide)
                · rw [List.length_append,List.length_append]
                  exact Nat.le_trans (Nat.add_le_add (Nat.add_le_add (Nat.add_le_add (Nat.le_refl 1) hil3) (Nat.le_refl 0)) hhl2) (show 1 + 1315 + 0 + 1 ≤ 10000 by decide)
                · rw [List.length_append,List.length_append,List.length_append]
                  exact Nat.le_trans (Nat.add_le_add (Nat.add_le_add (Nat.add_le_add (Nat.add_le_add (Nat.le_refl 1) hil3) (Nat.le_refl 0)) hhl2) (Nat.le_refl 1)) (show 1 + 1315 + 0 + 1 + 1 ≤ 10000 by decide)
end
noncomputable section
set_option maxHeartbeats 4000000
theorem slc_nat {α:Type} (x:List α) (i j:Nat) (h:i ≤ j):slc x (some (i:Int)) (some (j:Int)) = (x.drop i).take (j - i):=by
  unfold slc
  show List.take (clipAt x.length j - clipAt x.length i) (List.drop (clipAt x.length i) x) = _
  rw [clipAt_nat,clipAt_nat]
  by_cases h1:i ≤ x.length
  · rw [Nat.min_eq_left h1]
    by_cases h2:j ≤ x.length
    · rw [Nat.min_eq_left h2]
    · have h2:=Nat.le_of_not_le h2
      rw [Nat.min_eq_right h2,List.take_of_length_le (Nat.le_of_eq List.length_drop),List.take_of_length_le (Nat.le_trans (Nat.le_of_eq List.length_drop) (Nat.sub_le_sub_right h2 i))]
  · have h1:=Nat.le_of_not_le h1
    rw [Nat.min_eq_right h1,Nat.min_eq_right (Nat.le_trans h1 h),List.drop_length,List.take_nil,List.drop_eq_nil_of_le h1,List.take_nil]
noncomputable def one (body:List Nat) (i:Nat):List Nat:=(body.drop i).take 1
theorem slc_one (x:List Nat) (i:Nat):slc x (some (i:Int)) (some ((i:Int) + 1)) = one x i:=by
  rw [show ((i:Int) + 1) = ((i + 1:Nat):Int) by omega,slc_nat x i (i + 1) (by omega)]
  unfold one; congr 1; omega
noncomputable def alnumL:List Nat → Bool
  | [c] => alnumA c
  | _ => false
theorem alnumL_ok {l:List Nat} (h1:l.length ≤ 1) (h2:∀ c ∈ l,c < 128):Txt.isalnum ⟨l.toArray⟩ = alnumL l:=by
  match l,h1 with
  | [],_ => rfl
  | [c],_ => exact alnum_ok c (h2 c (.head _))
noncomputable def memberAt (body:List Nat) (i:Nat):List Nat × Nat :=
  if one body i = [92] then (if alnumL (one body (i + 1)) then [] else one body (i + 1),i + 2)
  else (if one body i ∈ [[38],[126],[124],[45]] then [] else one body i,i + 1)
theorem one_len (b:List Nat) (i:Nat):(one b i).length ≤ 1:=by unfold one; simp; omega
theorem one_mem {b:List Nat} {i c:Nat} (h:c ∈ one b i):c ∈ b:=List.mem_of_mem_drop (List.mem_of_mem_take h)
theorem slc_one2 (x:List Nat) (i:Nat):slc x (some ((i:Int) + 1)) (some ((i:Int) + 2)) = one x (i + 1):=slc_one x (i + 1)
theorem cs92:cs "\\" = [92]:=by decide +kernel
inductive P37 (us:List V) (K:V → Prop) (X:Value → Prop):Prop
  | mk (body:List Nat) (i:Nat) (e:us = [.str body,.int i]) (h1:body.length ≤ 1000) (h2:∀ c ∈ body,c < 128) (k:K (.tuple [.str (memberAt body i).1,.int (memberAt body i).2]))
theorem can37 {W:Wd} {a:Addr} {fd:FuncData} (f:Fun W 37 "_law_member" a fd) (n:Nat):Can W (n + 1) "_law_member" P37:=by
  refine fun_run f (xs:=["body","at"]) (sl_seq (ss_ite (st_cmp (se_slc (se_name _) (sp_some (se_name _)) (sp_some (se_bin2 (se_name _) (se_int _)))) (se_strc _)) (sl_seq (ss_assign (se_slc (se_name _) (sp_some (se_bin2 (se_name _) (se_int _))) (sp_some (se_bin2 (se_name _) (se_int _))))) (sl_seq (ss_return (se_tuple (sg_cons (se_if (st_val (se_meth0 cb_isalnum (se_name _) PySem.F.plainAttrs_str PySem.F.slot_str_isalnum PySem.F.type_str_isalnum)) (se_strc _) (se_name _)) (sg_cons (se_bin2 (se_name _) (se_int _)) sg_nil)))) sl_nil)) sl_nil) (sl_seq (ss_return (se_tuple (sg_cons (se_if (st_cmp (se_slc (se_name _) (sp_some (se_name _)) (sp_some (se_bin2 (se_name _) (se_int _)))) (se_tuple (sg_cons (se_strc _) (sg_cons (se_strc _) (sg_cons (se_strc _) (sg_cons (se_strc _) sg_nil)))))) (se_strc _) (se_slc (se_name _) (sp_some (se_name _)) (sp_some (se_bin2 (se_name _) (se_int _))))) (sg_cons (se_bin2 (se_name _) (se_int _)) sg_nil)))) sl_nil)) (bind2 fun fd v w h h' => by unfold bindArgs; rw [h,h']; rfl) ?_
  rintro us K X ⟨body,i,rfl,h1,h2,hK⟩
  have e1:=slc_one body i
  have e2:=slc_one2 body i
  refine ⟨rfl,?_⟩
  have hfb:fits body.length:=Nat.le_trans h1 (by decide)
  refine And.intro hfb ?_
  rw [e1,cs92]
  unfold memberAt at hK
  refine ifB (fun c1 => ?_) fun c1 => ?_
  · rw [if_pos (beq_iff_eq.mp c1)] at hK
    refine And.intro hfb ?_
    rw [e2]
    refine And.intro rfl (alnumI (ifB (fun ha => ?_) fun ha => ?_))
    · rw [alnumL_ok (one_len _ _) fun c hc => h2 c (one_mem hc)] at ha
      rw [if_pos ha] at hK
      rw [cs0]
      exact And.intro fits2 hK
    · rw [alnumL_ok (one_len _ _) fun c hc => h2 c (one_mem hc)] at ha
      rw [if_neg (by rw [ha]; decide)] at hK
      exact And.intro fits2 hK
  · rw [if_neg (beq_eq_false_iff_ne.mp c1)] at hK
    refine And.intro hfb ?_
    rw [e1,show cs "&" = [38] by decide +kernel,show cs "~" = [126] by decide +kernel,show cs "|" = [124] by decide +kernel,dash1,cs0]
    refine And.intro sm8 (Exists.intro [[38],[126],[124],[45]] (And.intro rfl (ifB (fun c2 => ?_) fun c2 => ?_)))
    · rw [if_pos (of_decide_eq_true c2)] at hK
      exact And.intro fits2 hK
    · rw [if_neg (of_decide_eq_false c2)] at hK
      refine And.intro hfb ?_
      rw [e1]
      exact And.intro fits2 hK
noncomputable def needs {α:Type} (p:Prop) [Decidable p] (x:Option α):Option α:=if p then x else none
theorem needs_some {α:Type} {p:Prop} [Decidable p] {x:Option α} {y:α} (h:needs p x = some y):p ∧ x = some y:=by
  unfold needs at h
  by_cases c:p
  · rw [if_pos c] at h; exact ⟨c,h⟩
  · rw [if_neg c] at h; cases h
noncomputable def walkL (n:Nat) (step:Nat → Option (List Nat × Nat)):Nat → List (List Nat) → Nat → Option (List (List Nat))
  | 0,_,_ => none
  | f + 1,acc,i => if i < n then (step i).bind fun r => walkL n step f (acc ++ [r.1]) r.2 else needs (i = n) (some acc)
noncomputable def brPair (a b:List Nat):Option (List Nat):=needs (a.length = 1 ∧ b.length = 1 ∧ ¬ b.headD 0 < a.headD 0) (some (List.range' (a.headD 0) (b.headD 0 + 1 - a.headD 0)))
noncomputable def brM2 (body:List Nat) (m:List Nat × Nat):List Nat × Nat:=if one body m.2 = [45] then memberAt body (m.2 + 1) else m
noncomputable def brStep (body signs:List Nat) (i:Nat):Option (List Nat × Nat):=(brPair (memberAt body i).1 (brM2 body (memberAt body i)).1).map fun r => (signs ++ r,(brM2 body (memberAt body i)).2)
noncomputable def brLoop (body:List Nat):(fuel:Nat) → List Nat → Nat → Option (List Nat × Nat)
  | 0,_,_ => none
  | f + 1,signs,i => if signs ≠ [] ∧ one body i = [93] then some (signs,i + 1) else (brStep body signs i).bind fun r => brLoop body f r.1 r.2
noncomputable def readBr (body:List Nat) (i:Nat):Option (List Nat × Nat):=needs (one body i ∉ [[91],[94]]) (brLoop body 60 [] i)
theorem member_mem {body:List Nat} {i c:Nat} (h:c ∈ (memberAt body i).1):c ∈ body:=by
  unfold memberAt at h
  split at h
  · simp only at h
    split at h
    · cases h
    · exact one_mem h
  · simp only at h
    split at h
    · cases h
    · exact one_mem h
theorem lt_single {a b:Nat}:decide ([a] < [b]) = decide (a < b):=by
  rw [decide_eq_decide]
  constructor
  · intro h
    rcases List.cons_lt_cons_iff.mp h with h | ⟨_,h⟩
    · exact h
    · exact absurd h (List.lt_irrefl _)
  · intro h; exact List.cons_lt_cons_iff.mpr (.inl h)
theorem brPair_some {a b r:List Nat} (h:brPair a b = some r):∃ l hh,a = [l] ∧ b = [hh] ∧ ¬ hh < l ∧ r = List.range' l (hh + 1 - l):=by
  obtain ⟨⟨h1,h2,h3⟩,h4⟩:=needs_some h
  obtain ⟨l,rfl⟩:=List.length_eq_one_iff.mp h1
  obtain ⟨hh,rfl⟩:=List.length_eq_one_iff.mp h2
  exact ⟨l,hh,rfl,rfl,h3,(Option.some.inj h4).symm⟩
inductive BrS (body s:List Nat) (k:Nat) (r:List Nat × Nat):Prop
  | mk (l hh a1:Nat) (h1:memberAt body k = ([l],a1)) (h2:brM2 body ([l],a1) = ([hh],r.2)) (h3:¬ hh < l) (h4:r.1 = s ++ List.range' l (hh + 1 - l))
theorem brStep_some {body s:List Nat} {k:Nat} {r:List Nat × Nat} (h:brStep body s k = some r):BrS body s k r:=by
  obtain ⟨r0,h1,rfl⟩:=Option.map_eq_some_iff.mp h
  obtain ⟨l,hh,e1,e2,h3,rfl⟩:=brPair_some h1
  have e3:memberAt body k = ([l],(memberAt body k).2):=Prod.ext e1 rfl
  exact ⟨l,hh,_,e3,by rw [← e3]; exact Prod.ext e2 rfl,h3,rfl⟩
noncomputable def brRaw (body:List Nat) (k:Nat) (s:List Nat) (tl:Sto):Sto:=("body",.val (.str body)) :: ("at",.val (.int k)) :: ("signs",.val (.str s)) :: tl
inductive Tail2 (x y:String):Sto → Prop
  | nil:Tail2 x y []
  | two (u v:V):Tail2 x y [(x,.val u),(y,.val v)]
inductive KInv (body:List Nat) (j:Nat) (signs:List Nat) (fl:Nat) (σ:Sto):Prop
  | mk (s:List Nat) (k:Nat) (tl:Sto) (ht:Tail2 "low" "high" tl) (hb:brLoop body fl s k = some (signs,j)) (hl:s.length + fl * 128 ≤ 7680) (e:σ = brRaw body k s tl)
theorem vstrs_snoc (acc:List (List Nat)) (s:List Nat):vstrs (acc ++ [s]) = vstrs acc ++ [V.str s]:=List.map_append
theorem cs_open:cs "(?s:" = [40,63,115,58]:=by decide +kernel
theorem cs_close:cs ")\\Z" = [41,92,90]:=by decide +kernel
theorem strs_range {l hh:Nat} (h:¬ hh < l):List.map (fun v => V.str [(intOf v).toNat]) ((List.range ((hh:Int) + 1 - (l:Int)).toNat).map fun (i:Nat) => V.int ((l:Int) + (i:Int) * 1)) = vstrs ((List.range' l (hh + 1 - l)).map fun c => [c]):=by
  unfold vstrs
  rw [List.range'_eq_map_range,List.map_map,List.map_map,List.map_map,show ((hh:Int) + 1 - (l:Int)).toNat = hh + 1 - l from Int.toNat_sub (hh + 1) l]
  refine List.map_congr_left fun i' ℓ => ?_
  show V.str [((l:Int) + (i':Int) * 1).toNat] = V.str [l + i']
  rw [Int.mul_one]
  rfl
theorem seqCut2 {σ:Sto} {P:Post} {t t2 tr:TS} (Φ:Sto → Prop) (h1:∀ N:Post,(∀ σ',Φ σ' → N.next σ') → tSeq t t2 N σ) (h2:∀ σ',Φ σ' → tr P σ'):tSeq t (tSeq t2 tr) P σ:=h1 _ h2
theorem orRun {s:List Nat} {q:Bool} {C0 C A B:Prop} (h0:C0) (hc:C) (hA:(s = [] ∨ q = true) → A) (hB:s ≠ [] → q = false → B):C0 ∧ if (!(!s.isEmpty)) = true then A else (C ∧ if q = true then A else B):=by
  refine And.intro h0 ?_
  cases s with
  | nil => exact hA (.inl rfl)
  | cons x r => exact And.intro hc (ifB (fun h => hA (.inr h)) fun h => hB (fun e => nomatch e) h)
inductive P38 (us:List V) (K:V → Prop) (X:Value → Prop):Prop
  | mk (body:List Nat) (i:Nat) (signs:List Nat) (j:Nat) (e:us = [.str body,.int i]) (h1:body.length ≤ 1000) (h2:∀ c ∈ body,c < 128) (hr:readBr body i = some (signs,j)) (k:K (.tuple [.str signs,.int j]))
theorem can38 {W:Wd} (B:Blts W) {a:Addr} {fd:FuncData} (f:Fun W 38 "_law_bracket" a fd) (n:Nat) (c37:Can W n "_law_member" P37):Can W (n + 1) "_law_bracket" P38:=by
  obtain ⟨b1,b2,b3,b4,b5,b6,b7,b8,b9,b10,b11,b12,b13,b14⟩:=B
  refine fun_run f (xs:=["body","at"]) (sl_seq (ss_assign (se_strc _)) (sl_seq (ss_ite (st_cmp (se_slc (se_name _) (sp_some (se_name _)) (sp_some (se_bin2 (se_name _) (se_int _)))) (se_tuple (sg_cons (se_strc _) (sg_cons (se_strc _) sg_nil)))) (sl_seq (ss_return (se_tuple (sg_cons se_none (sg_cons (se_name _) sg_nil)))) sl_nil) sl_nil) (sl_seq (ss_while (st_bool (sa_or (st_not (st_name _)) (sa_or (st_cmp (se_slc (se_name _) (sp_some (se_name _)) (sp_some (se_bin2 (se_name _) (se_int _)))) (se_strc _)) sa_or_nil))) (sl_seq (ss_un2 (se_can c37 (sg_cons (se_name _) (sg_cons (se_name _) sg_nil)))) (sl_seq (ss_assign (se_name _)) (sl_seq (ss_ite (st_cmp (se_slc (se_name _) (sp_some (se_name _)) (sp_some (se_bin2 (se_name _) (se_int _)))) (se_strc _)) (sl_seq (ss_un2 (se_can c37 (sg_cons (se_name _) (sg_cons (se_bin2 (se_name _) (se_int _)) sg_nil)))) sl_nil) sl_nil) (sl_seq (ss_ite (st_bool (sa_or (st_cmp (se_name _) (se_strc _)) (sa_or (st_cmp (se_name _) (se_name _)) sa_or_nil))) (sl_seq (ss_return (se_tuple (sg_cons se_none (sg_cons (se_name _) sg_nil)))) sl_nil) sl_nil) (sl_seq (ss_aug (se_meth cb_join (se_strc _) (sg_cons (se_comp' (caps:=[]) ⟨by rfl,by decide +kernel,by decide +kernel,by decide +kernel,by decide +kernel,by decide +kernel⟩ (se_call_t cb_range b5 (sg_cons (se_call_b cb_ord b2 (sg_cons (se_name _) sg_nil)) (sg_cons (se_bin2 (se_call_b cb_ord b2 (sg_cons (se_name _) sg_nil)) (se_int _)) sg_nil))) si_nil (se_call_b cb_chr b3 (sg_cons (se_name _) sg_nil))) sg_nil) PySem.F.plainAttrs_str PySem.F.slot_str_join PySem.F.type_str_join)) sl_nil)))))) (sl_seq (ss_return (se_tuple (sg_cons (se_name _) (sg_cons (se_bin2 (se_name _) (se_int _)) sg_nil)))) sl_nil)))) (bind2 fun fd v w h h' => by unfold bindArgs; rw [h,h']; rfl) ?_
  rintro us K X ⟨body,i,signs,j,rfl,h1,h2,hr,hK⟩
  have e1:=slc_one body
  have hfb:fits body.length:=Nat.le_trans h1 (by decide)
  refine ⟨rfl,And.intro hfb ?_⟩
  rw [e1,cs91,show cs "^" = [94] by decide +kernel]
  obtain ⟨c1,hr⟩:=needs_some hr
  refine And.intro fits2 (Exists.intro [[91],[94]] (And.intro rfl (ifF (decide_eq_false c1) ?_)))
  refine while_rule (I:=fun fl σ => KInv body j signs fl σ) ?_ 60 ⟨[],i,[],.nil,hr,by decide,rfl⟩
  rintro fl σ N ⟨s,k,tl,ht,hb,hsl,rfl⟩ hN
  cases fl with
  | zero => cases hb
  | succ fl =>
  unfold brLoop at hb
  refine orRun (Nat.le_trans (Nat.le_add_right _ _) (Nat.le_trans hsl (by decide))) hfb (fun c => ?_) fun c0 c => ?_
  · rw [e1,cs93] at c
    have c2:¬(s ≠ [] ∧ one body k = [93]):=fun h => c.elim h.1 fun h' => absurd (h.2 ▸ h':([93] != [93]) = true) (by decide)
    rw [if_neg c2] at hb
    · obtain ⟨⟨_,k'⟩,hst,hb⟩:=Option.bind_eq_some_iff.mp hb
      obtain ⟨l,hh,a1,hm1,hm2,hlt,rfl⟩:=brStep_some hst
      unfold brM2 at hm2
      refine ifT rfl ?_
      refine seqCut2 (fun σ' => σ' = brRaw body a1 s [("low",.val (.str [l])),("high",.val (.str [l]))]) (fun N hN => ?_) ?_
      · cases ht with
        | nil => exact P37.mk body k rfl h1 h2 (by rw [hm1]; exact And.intro rfl (hN _ rfl))
        | two => exact P37.mk body k rfl h1 h2 (by rw [hm1]; exact And.intro rfl (hN _ rfl))
      refine toX ?_
      refine seqCut (fun σ' => σ' = brRaw body k' s [("low",.val (.str [l])),("high",.val (.str [hh]))]) (fun N hN => And.intro hfb ?_) ?_
      · rw [e1,dash1]
        refine ifB (fun c => ?_) fun c => ?_
        · rw [if_pos (beq_iff_eq.mp c)] at hm2
          exact P37.mk body (a1 + 1) rfl h1 h2 (by rw [hm2]; exact And.intro rfl (hN _ rfl))
        · rw [if_neg (beq_eq_false_iff_ne.mp c)] at hm2
          cases hm2
          exact hN _ rfl
      refine toX ?_
      rw [cs0]
      refine seqCut (fun σ' => σ' = brRaw body k' s [("low",.val (.str [l])),("high",.val (.str [hh]))]) (fun N hN => ifF (lt_single.trans (decide_eq_false hlt)) (ifF rfl (hN _ rfl))) ?_
      refine toX ?_
      have hl128:l < 128:=h2 l (member_mem (body:=body) (i:=k) (by rw [hm1]; exact .head _))
      have hh128:hh < 128:=by
        split at hm2
        · exact h2 hh (member_mem (body:=body) (i:=a1 + 1) (by rw [hm2]; exact .head _))
        · cases hm2; exact hl128
      have hn:hh + 1 - l ≤ 128:=Nat.le_trans (Nat.sub_le _ _) hh128
      have hfr:(List.range' l (hh + 1 - l)).length ≤ 128:=by rw [List.length_range']; exact hn
      refine And.intro rfl (And.intro caps0 (And.intro (And.intro (near_le (Nat.le_trans (Nat.le_of_lt hl128) (by decide))) (near_le (n:=hh + 1) (Nat.le_trans hh128 (by decide)))) (And.intro caps0 (Exists.intro _ (And.intro rfl (And.intro (by rw [List.length_map,List.length_range,show ((hh:Int) + 1 - (l:Int)).toNat = hh + 1 - l from Int.toNat_sub (hh + 1) l]; exact Nat.le_trans hn (by decide)) (compI_map (fun v => V.str [(intOf v).toNat]) _ (fun u hu M hM => ?_) ?_)))))))
      · obtain ⟨i',hi,rfl⟩:=List.mem_map.mp hu
        have hi2:l + i' ≤ 256:=Nat.add_le_add (Nat.le_of_lt hl128) (Nat.le_trans (Nat.le_of_lt (List.mem_range.mp hi)) (Nat.le_trans (Nat.le_of_eq (Int.toNat_sub (hh + 1) l)) hn))
        have e:(l:Int) + (i':Int) * 1 = ((l + i':Nat):Int):=by rw [Int.mul_one]; rfl
        exact And.intro (And.intro (by rw [e]; exact Int.natCast_nonneg _) (by rw [e]; exact Int.ofNat_le.mpr (Nat.le_trans hi2 (by decide)))) (And.intro rfl hM)
      rw [strs_range hlt]
      refine joinI ?_ ?_
      · rw [sum_single]; exact Nat.le_trans hfr (by decide)
      · rw [joinL_nil,flat_single]
        refine And.intro (And.intro rfl ?_) (hN fl _ (Nat.lt_succ_self _) ⟨_,_,_,.two _ _,hb,?_,rfl⟩)
        · exact Nat.le_trans (Nat.add_le_add_left (Nat.le_trans hfr (by decide)) _) (Nat.le_trans (Nat.add_le_add_left (Nat.le_add_left 128 (fl * 128)) _) (Nat.le_trans (by rw [← Nat.succ_mul]; exact hsl) (by decide)))
        · rw [List.length_append,Nat.add_assoc]
          exact Nat.le_trans (Nat.add_le_add_left (Nat.le_trans (Nat.add_le_add_right hfr _) (Nat.le_of_eq ((Nat.add_comm _ _).trans (Nat.succ_mul fl 128).symm))) _) hsl
  · rw [e1,cs93] at c
    have c3:one body k = [93]:=by simpa using c
    rw [if_pos ⟨c0,c3⟩] at hb
    cases hb
    refine ifF rfl ?_
    exact And.intro fits2 hK
end
noncomputable section
set_option maxHeartbeats 4000000
noncomputable def rdAtom (body:List Nat) (i:Nat):Option (List Nat × Nat):=body[i]?.bind fun c => if c = 91 then readBr body (i + 1) else needs (c ∉ specialL) (some ([c],i + 1))
noncomputable def readLoop (body:List Nat):Nat → List (List Nat) → Nat → Option (List (List Nat)):=walkL body.length (rdAtom body)
noncomputable def wholeL (body:List Nat):List Nat:=40 :: 63 :: 115 :: 58 :: (body ++ [41,92,90])
theorem whole_len (body:List Nat):(wholeL body).length = body.length + 7:=congrArg (· + 4) (List.length_append (as:=body) (bs:=[41,92,90]))
theorem clip4 (n:Nat):clipAt (n + 7) 4 = 4:=(clipAt_nat (n + 7) 4).trans (Nat.min_eq_left (Nat.le_add_left 4 (n + 3)))
theorem clip3 (n:Nat):clipAt (n + 7) (-3) = n + 4:=clipAt_neg (n + 7) 3 (by decide)
theorem whole1 (body:List Nat):slc (wholeL body) none (some 4) = [40,63,115,58]:=by
  unfold slc
  rw [whole_len]
  show List.take (clipAt (body.length + 7) 4 - 0) (wholeL body) = _
  rw [clip4]
  rfl
theorem whole2 (body:List Nat):slc (wholeL body) (some (-3)) none = [41,92,90]:=by
  unfold slc
  rw [whole_len]
  show List.take (body.length + 7 - clipAt (body.length + 7) (-3)) (List.drop (clipAt (body.length + 7) (-3)) (wholeL body)) = _
  rw [clip3,show List.drop (body.length + 4) (wholeL body) = List.drop body.length (body ++ [41,92,90]) from rfl,List.drop_left,Nat.add_sub_add_left]
  rfl
theorem whole3 (body:List Nat):slc (wholeL body) (some 4) (some (-3)) = body:=by
  unfold slc
  rw [whole_len]
  show List.take (clipAt (body.length + 7) (-3) - clipAt (body.length + 7) 4) (List.drop (clipAt (body.length + 7) 4) (wholeL body)) = _
  rw [clip3,clip4,Nat.add_sub_cancel]
  exact List.take_left
noncomputable def rdRaw (body:List Nat) (i:Int) (acc:List V) (tl:Sto):Sto:=("given",.val (.str (wholeL body))) :: ("special",.val (.str specialL)) :: ("at",.val (.int i)) :: ("atoms",.own acc) :: ("body",.val (.str body)) :: tl
inductive RdInv (body:List Nat) (atoms:List (List Nat)) (fl:Nat) (σ:Sto):Prop
  | mk (acc:List (List Nat)) (i:Nat) (tl:Sto) (ht:Tail1 "signs" tl) (hb:readLoop body fl acc i = some atoms) (hl:acc.length + fl ≤ 20) (e:σ = rdRaw body i (vstrs acc) tl)
theorem cs_special:cs "()[]{}?*+-|^$\\.&~# \t\n\r\x0b\x0c" = specialL:=by decide +kernel
inductive P39 (us:List V) (K:V → Prop) (X:Value → Prop):Prop
  | mk (body:List Nat) (atoms:List (List Nat)) (e:us = [.str (wholeL body)]) (h1:body.length ≤ 900) (h2:∀ c ∈ body,c < 128) (hr:readLoop body 20 [] 0 = some atoms) (k:K (.list (vstrs atoms)))
theorem can39 {W:Wd} (B:Blts W) {a:Addr} {fd:FuncData} (f:Fun W 39 "_law_read" a fd) (n:Nat) (c38:Can W n "_law_bracket" P38):Can W (n + 1) "_law_read" P39:=by
  have b1:=B.len
  refine fun_run f (xs:=["given"]) (sl_seq (ss_assign (se_strc _)) (sl_seq (ss_ite (st_bool (sa_or (st_cmp (se_slc (se_name _) sp_none (sp_some (se_int _))) (se_strc _)) (sa_or (st_cmp (se_slc (se_name _) (sp_some (se_neg (se_int _))) sp_none) (se_strc _)) sa_or_nil))) (sl_seq (ss_return se_none) sl_nil) sl_nil) (sl_seq (ss_own3 (se_slc (se_name _) (sp_some (se_int _)) (sp_some (se_neg (se_int _)))) (so_list sg_nil) (se_int _)) (sl_seq (ss_while (st_cmp (se_name _) (se_len _ b1)) (sl_seq (ss_ite (st_cmp (se_own_idx _ (se_name _)) (se_strc _)) (sl_seq (ss_un2 (se_can c38 (sg_cons (se_name _) (sg_cons (se_bin2 (se_name _) (se_int _)) sg_nil)))) (sl_seq (ss_ite (st_cmp (se_name _) se_none) (sl_seq (ss_return se_none) sl_nil) sl_nil) (sl_seq (ss_append _ (se_name _)) sl_nil))) (sl_seq (ss_ite (st_cmp (se_own_idx _ (se_name _)) (se_name _)) (sl_seq (ss_return se_none) sl_nil) (sl_seq (ss_append _ (se_own_idx _ (se_name _))) (sl_seq (ss_aug (se_int _)) sl_nil))) sl_nil)) sl_nil)) (sl_seq (ss_return (se_name _)) sl_nil))))) (bind1 fun fd v h h' => by unfold bindArgs; rw [h,h']; rfl) ?_
  rintro us K X ⟨body,atoms,rfl,h1,h2,hr,hK⟩
  have hfw:fits (wholeL body).length:=by rw [whole_len]; exact Nat.le_trans (Nat.add_le_add_right h1 7) (by decide)
  have hfb:fits body.length:=Nat.le_trans h1 (by decide)
  refine ⟨rfl,?_⟩
  rw [cs_special,cs_open,cs_close,cs91]
  refine seqCut2 (fun σ' => σ' = [("given",.val (.str (wholeL body))),("special",.val (.str specialL))]) (fun N hN => And.intro hfw ?_) ?_
  · rw [whole1]
    refine And.intro hfw ?_
    rw [whole2]
    exact hN _ rfl
  refine toX ?_
  refine And.intro hfw ?_
  rw [whole3]
  refine And.intro sm8 (And.intro rfl ?_)
  refine while_rule (I:=fun fl σ => RdInv body atoms fl σ) ?_ 20 ⟨[],0,[],.nil,hr,by decide,rfl⟩
  rintro fl σ N ⟨acc,i,tl,ht,hb,hl,rfl⟩ hN
  cases fl with
  | zero => cases hb
  | succ fl =>
  have hfa:fits (vstrs acc).length:=by rw [vstrs_len]; exact Nat.le_trans (Nat.le_add_right _ _) (Nat.le_trans hl (by decide))
  unfold readLoop walkL at hb
  refine lenP.mk _ _ rfl rfl hfb (ifB (fun c => ?_) fun c => ?_)
  · have hlt:i < body.length:=Int.ofNat_lt.mp (of_decide_eq_true c)
    have hat:at? body (i:Int) = some body[i]:=by unfold at?; rw [if_pos (Int.natCast_nonneg _),Int.toNat_natCast]; exact List.getElem?_eq_getElem hlt
    rw [if_pos hlt] at hb
    obtain ⟨⟨o,j⟩,hat2,hb⟩:=Option.bind_eq_some_iff.mp hb
    unfold rdAtom at hat2
    rw [List.getElem?_eq_getElem hlt] at hat2
    have hl2:(acc ++ [o]).length + fl ≤ 20:=by rw [List.length_append,Nat.add_assoc,Nat.add_comm [o].length]; exact hl
    have e:=fun tl => congrArg (fun l => rdRaw body j l tl) (vstrs_snoc acc o).symm
    refine And.intro hfb (Exists.intro _ (And.intro hat (ifB (fun c1 => ?_) fun c1 => ?_)))
    · have h91:body[i] = 91:=by simpa using c1
      have hbr:readBr body (i + 1) = some (o,j):=(if_pos h91).symm.trans hat2
      cases ht with
      | nil => exact P38.mk body (i + 1) o j rfl (Nat.le_trans h1 (by decide)) h2 hbr (And.intro rfl fun a => And.intro rfl (And.intro rfl (And.intro hfa (hN fl _ (Nat.lt_succ_self _) ⟨_,_,_,.one (.str o),hb,hl2,e _⟩))))
      | one => exact P38.mk body (i + 1) o j rfl (Nat.le_trans h1 (by decide)) h2 hbr (And.intro rfl fun a => And.intro rfl (And.intro rfl (And.intro hfa (hN fl _ (Nat.lt_succ_self _) ⟨_,_,_,.one (.str o),hb,hl2,e _⟩))))
    · have h91:body[i] ≠ 91:=by simpa using c1
      obtain ⟨hns,h3⟩:=needs_some ((if_neg h91).symm.trans hat2)
      cases h3
      cases ht with
      | nil => exact And.intro hfb (Exists.intro _ (And.intro hat (Exists.intro _ (And.intro rfl (ifF (decide_eq_false hns) fun a => And.intro hfb (Exists.intro _ (And.intro hat (And.intro rfl (And.intro rfl (And.intro hfa (hN fl _ (Nat.lt_succ_self _) ⟨_,_,_,.nil,hb,hl2,e _⟩)))))))))))
      | one => exact And.intro hfb (Exists.intro _ (And.intro hat (Exists.intro _ (And.intro rfl (ifF (decide_eq_false hns) fun a => And.intro hfb (Exists.intro _ (And.intro hat (And.intro rfl (And.intro rfl (And.intro hfa (hN fl _ (Nat.lt_succ_self _) ⟨_,_,_,.one _,hb,hl2,e _⟩)))))))))))
  · rw [if_neg (fun h => absurd (Int.ofNat_lt.mpr h) (of_decide_eq_false c))] at hb
    cases (needs_some hb).2
    cases ht with
    | nil => exact hK
    | one => exact hK
end
noncomputable section
set_option maxHeartbeats 4000000
inductive P29 (us:List V) (K:V → Prop) (X:Value → Prop):Prop
  | mk (parts:List (List Nat)) (a:Addr) (e:us = [.list (vstrs parts),.ref a]) (h1:parts.length ≤ 100) (h2:parts.flatten.length ≤ 8000) (k:K (.str ([40,63,115,58] ++ parts.flatten ++ [41,92,90])))
noncomputable def jnRaw (parts:List (List Nat)) (st:Addr) (k:Int) (acc:List V):Sto:=[("inp",.val (.list (vstrs parts))),("STAR",.val (.ref st)),("res",.own acc),("add",.app "res"),("n",.val (.int parts.length)),("i",.val (.int k))]
inductive JInv (parts:List (List Nat)) (st:Addr) (fl:Nat) (σ:Sto):Prop
  | mk (k:Nat) (hk:k ≤ parts.length) (hl:fl = parts.length - k) (e:σ = jnRaw parts st k (vstrs (parts.take k)))
theorem can29 {W:Wd} (B:Blts W) {a:Addr} {fd:FuncData} (f:Fun W 29 "_join_translated_parts" a fd) (n:Nat):Can W (n + 1) "_join_translated_parts" P29:=by
  obtain ⟨b1,b2,b3,b4,b5,b6,b7,b8,b9,b10,b11,b12,b13,b14⟩:=B
  refine fun_run f (xs:=["inp","STAR"]) (sl_seq (ss_assign_own (so_list sg_nil)) (sl_seq (ss_bind_app _ _) (sl_seq (ss_un2s (se_tuple (sg_cons (se_int _) (sg_cons (se_len _ b1) sg_nil)))) (sl_seq (ss_while (st_bool (sa_and (st_cmp (se_name _) (se_name _)) (sa_and (st_cmp (se_own_idx _ (se_name _)) (se_name _)) sa_and_nil))) (sl_seq (ss_add _ (se_own_idx _ (se_name _))) (sl_seq (ss_aug (se_int _)) sl_nil))) (sl_seq (ss_while (st_cmp (se_name _) (se_name _)) (sl_seq (ss_assert (st_cmp (se_own_idx _ (se_name _)) (se_name _))) (sl_seq (ss_aug (se_int _)) (sl_seq (ss_ite (st_cmp (se_name _) (se_name _)) (sl_seq (ss_add _ (se_strc _)) (sl_seq ss_break sl_nil)) sl_nil) (sl_seq (ss_assert (st_cmp (se_own_idx _ (se_name _)) (se_name _))) (sl_seq (ss_assign_own (so_list sg_nil)) (sl_seq (ss_while (st_bool (sa_and (st_cmp (se_name _) (se_name _)) (sa_and (st_cmp (se_own_idx _ (se_name _)) (se_name _)) sa_and_nil))) (sl_seq (ss_append _ (se_own_idx _ (se_name _))) (sl_seq (ss_aug (se_int _)) sl_nil))) (sl_seq (ss_assign (se_meth cb_join (se_strc _) (sg_cons (se_name _) sg_nil) PySem.F.plainAttrs_str PySem.F.slot_str_join PySem.F.type_str_join)) (sl_seq (ss_ite (st_cmp (se_name _) (se_name _)) (sl_seq (ss_add _ (se_strc _)) (sl_seq (ss_add _ (se_name _)) sl_nil)) (sl_seq (ss_add _ (se_fstr (se_name _))) sl_nil)) sl_nil))))))))) (sl_seq (ss_assert (st_cmp (se_name _) (se_name _))) (sl_seq (ss_assign (se_meth cb_join (se_strc _) (sg_cons (se_name _) sg_nil) PySem.F.plainAttrs_str PySem.F.slot_str_join PySem.F.type_str_join)) (sl_seq (ss_return (se_fstr (se_name _))) sl_nil)))))))) (bind2 fun fd v w h h' => by unfold bindArgs; rw [h,h']; rfl) ?_
  rintro us K X ⟨parts,st,rfl,h1,h2,hK⟩
  have hfp:fits (vstrs parts).length:=by rw [vstrs_len]; exact Nat.le_trans h1 (by decide)
  have hN0:((vstrs parts).length:Int) = parts.length:=congrArg _ (vstrs_len parts)
  refine ⟨rfl,?_⟩
  refine And.intro sm8 (And.intro rfl ?_)
  refine And.intro (by decide) (lenP.mk _ _ rfl rfl hfp (And.intro fits2 (And.intro rfl ?_)))
  rw [hN0]
  refine while_rule (I:=fun fl σ => JInv parts st fl σ) ?_ parts.length ⟨0,Nat.zero_le _,rfl,rfl⟩
  rintro fl σ N ⟨k,hk,rfl,rfl⟩ hN
  have htl:(parts.take k).length ≤ 100:=Nat.le_trans (List.length_take_le' _ _) h1
  have hfr:fits (vstrs (parts.take k)).length:=by rw [vstrs_len]; exact Nat.le_trans htl (by decide)
  refine ifB (fun c => ?_) fun c => ?_
  · have hlt:k < parts.length:=Int.ofNat_lt.mp (of_decide_eq_true c)
    have hat:=vstrs_at hlt rfl
    have he:vstrs (parts.take k) ++ [V.str parts[k]] = vstrs (parts.take (k + 1)):=by rw [List.take_succ_eq_append_getElem hlt,vstrs_snoc]
    refine And.intro hfp (Exists.intro _ (And.intro hat fun a b => And.intro hfp (Exists.intro _ (And.intro hat (And.intro rfl (And.intro rfl (And.intro rfl (And.intro hfr ?_))))))))
    exact hN (parts.length - (k + 1)) _ (Nat.sub_lt_sub_left hlt (Nat.lt_succ_self k)) ⟨k + 1,hlt,rfl,congrArg (jnRaw parts st ((k + 1:Nat):Int)) he⟩
  · obtain rfl:k = parts.length:=Nat.le_antisymm hk (Int.ofNat_le.mp (Int.not_lt.mp (of_decide_eq_false c)))
    rw [List.take_length] at hfr ⊢
    refine ifF rfl (Exists.intro 1 (ifF c (And.intro (beq_self_eq_true _) ?_)))
    refine And.intro rfl ?_
    rw [cs0]
    refine joinI (by rw [List.length_nil,Nat.mul_zero]; exact Nat.le_trans (Nat.le_of_eq List.length_flatten.symm) (Nat.le_trans h2 (by decide))) ?_
    rw [joinL_nil,show parts.flatMap id = parts.flatten from List.flatMap_id ..]
    refine Exists.intro _ (And.intro rfl ?_)
    rw [show (Str.ofString "(?s:").cps.toList = [40,63,115,58] from cs_open,show (Str.ofString ")\\Z").cps.toList = [41,92,90] from cs_close]
    exact And.intro (Nat.le_trans (Nat.add_le_add_right (Nat.add_le_add_left h2 4) 3) (by decide)) hK
end
noncomputable section
set_option maxHeartbeats 4000000
noncomputable def sub (x:List Nat) (i j:Nat):List Nat:=(x.drop i).take (j - i)
noncomputable def closeJ (pat:List Nat) (j:Nat):Nat:=j + ((pat.drop j).takeWhile (· != 93)).length
noncomputable def findN (x:List Nat) (c lo hi:Nat):Option Nat:=(List.range' lo (hi - lo)).find? (fun i => x[i]? == some c)
noncomputable def chunkLoop (pat:List Nat) (j:Nat):(fuel:Nat) → List (List Nat) → Nat → Nat → Option (List (List Nat) × Nat)
  | 0,_,_,_ => none
  | f + 1,chunks,i,k => match findN pat 45 k j with
    | none => some (chunks,i)
    | some m => chunkLoop pat j f (chunks ++ [sub pat i m]) (m + 1) (m + 3)
noncomputable def lastAdd (chunks:List (List Nat)):Option (List (List Nat)):=chunks.getLast?.map fun c => chunks.dropLast ++ [c ++ [45]]
noncomputable def mergeC (c:List Nat):List (List Nat) → Option (List (List Nat))
  | [] => some [c]
  | d :: r => needs (c ≠ [] ∧ d ≠ []) (some (if d.headD 0 < c.getLastD 0 then (c.dropLast ++ d.tail) :: r else c :: d :: r))
noncomputable def mergeR:List (List Nat) → Option (List (List Nat))
  | [] => some []
  | c :: rest => (mergeR rest).bind (mergeC c)
noncomputable def repl2 (s:List Nat):List Nat:=replL 45 [92,45] (replL 92 [92,92] s)
noncomputable def stuffM (M:List (List Nat)):Option (List Nat):=needs ((M.map repl2).flatten.length + M.length ≤ 900) (some (joinL [45] (M.map repl2)))
noncomputable def stuffC (ch:List (List Nat)):Option (List Nat):=needs (ch.flatten.length ≤ 2000 ∧ ch.length ≤ 100) ((mergeR ch).bind stuffM)
noncomputable def stuffL (s:List Nat) (ch:List (List Nat)):Option (List Nat):=(if s = [] then lastAdd ch else some (ch ++ [s])).bind stuffC
noncomputable def stuffB (pat:List Nat) (i j:Nat):Option (List Nat):=(chunkLoop pat j 60 [] i (if pat.getD i 0 = 33 then i + 2 else i + 1)).bind fun r => stuffL (sub pat r.2 j) r.1
noncomputable def trStuff (pat:List Nat) (i j:Nat):Option (List Nat):=if 45 ∈ sub pat i j then stuffB pat i j else some (replL 92 [92,92] (sub pat i j))
noncomputable def finL (c:Nat) (r:List Nat):List Nat:=[91] ++ (if c = 33 then 94 :: r else if c = 94 ∨ c = 91 then 92 :: c :: r else c :: r) ++ [93]
noncomputable def trFin:List Nat → Option (List Nat)
  | [] => none
  | c :: r => needs (c :: r ≠ [33]) (some (finL c r))
noncomputable def openJ1 (pat:List Nat) (i:Nat):Nat:=if pat[i + 1]? = some 33 then i + 2 else i + 1
noncomputable def openJ2 (pat:List Nat) (i:Nat):Nat:=if pat[i]? = some 93 then i + 1 else i
noncomputable def brEnd (pat:List Nat) (i:Nat):Nat:=closeJ pat (openJ2 pat (openJ1 pat i))
noncomputable def trStf (s:List Nat):Option (List Nat):=needs (s.length ≤ 1000) (trFin (twinSub s))
noncomputable def trBr (pat:List Nat) (i:Nat):Option (List Nat × Nat):=needs (brEnd pat i < pat.length) (((trStuff pat (i + 1) (brEnd pat i)).bind trStf).map fun out => (out,brEnd pat i + 1))
noncomputable def trPl (miss:Nat → Bool) (c i:Nat):Option (List Nat × Nat):=needs (c ≠ 42 ∧ c ≠ 63 ∧ c < 128 ∧ miss c = true) (some ([c],i + 1))
noncomputable def trAt (miss:Nat → Bool) (pat:List Nat) (i:Nat):Option (List Nat × Nat):=pat[i]?.bind fun c => if c = 91 then trBr pat i else trPl miss c i
noncomputable def trLoop (miss:Nat → Bool) (pat:List Nat):Nat → List (List Nat) → Nat → Option (List (List Nat)):=walkL pat.length (trAt miss pat)
theorem findC_some {x:List Nat} {c lo hi m:Nat} (h:findN x c lo hi = some m):findC x c lo hi = m ∧ lo ≤ m ∧ m < hi:=by
  unfold findN at h
  refine ⟨by unfold findC; rw [h],?_⟩
  have:=List.mem_range'_1.mp (List.mem_of_find?_eq_some h)
  have h2:m < max hi lo:=by rw [← Nat.sub_add_eq_max,Nat.add_comm]; exact this.2
  exact ⟨this.1,Nat.lt_of_not_le fun hle => Nat.lt_irrefl _ (Nat.lt_of_lt_of_le h2 (Nat.max_le.mpr ⟨hle,this.1⟩))⟩
theorem findC_none {x:List Nat} {c lo hi:Nat} (h:findN x c lo hi = none):findC x c lo hi = -1:=by
  unfold findN at h
  unfold findC; rw [h]
theorem closeJ_step {pat:List Nat} {j c:Nat} (h:pat[j]? = some c) (hc:c ≠ 93):closeJ pat (j + 1) = closeJ pat j:=by
  obtain ⟨hj,rfl⟩:=List.getElem?_eq_some_iff.mp h
  unfold closeJ
  rw [List.drop_eq_getElem_cons hj,List.takeWhile_cons_of_pos (p:=(· != 93)) (bne_iff_ne.mpr hc)]
  exact Nat.succ_add_eq_add_succ _ _
theorem closeJ_stop {pat:List Nat} {j:Nat} (h:pat[j]? = some 93):closeJ pat j = j:=by
  unfold closeJ
  obtain ⟨hj,e⟩:=List.getElem?_eq_some_iff.mp h
  rw [List.drop_eq_getElem_cons hj,e]; rfl
theorem closeJ_le {pat:List Nat} {j:Nat}:j ≤ closeJ pat j:=Nat.le_add_right _ _
theorem sub_len (x:List Nat) (i j:Nat):(sub x i j).length ≤ j - i:=List.length_take_le _ _
theorem slc_sub {x:List Nat} {i j:Nat} (h:i ≤ j):slc x (some (i:Int)) (some (j:Int)) = sub x i j:=slc_nat x i j h
theorem mergeC_inv {c d:List Nat} {r M:List (List Nat)} (h:mergeC c (d :: r) = some M):(c ≠ [] ∧ d ≠ []) ∧ (if d.headD 0 < c.getLastD 0 then (c.dropLast ++ d.tail) :: r else c :: d :: r) = M:=⟨(needs_some h).1,Option.some.inj (needs_some h).2⟩
theorem mergeC_len {c:List Nat} {M' M:List (List Nat)} (h:mergeC c M' = some M):M ≠ [] ∧ M.length ≤ M'.length + 1 ∧ M.flatten.length ≤ c.length + M'.flatten.length:=by
  cases M' with
  | nil => cases h; exact ⟨List.cons_ne_nil _ _,Nat.le_refl _,Nat.le_of_eq List.length_append⟩
  | cons d r =>
    have e:=(mergeC_inv h).2
    subst e
    split
    · refine ⟨List.cons_ne_nil _ _,Nat.le_succ _,?_⟩
      rw [List.flatten_cons,List.flatten_cons,List.length_append,List.length_append,List.length_append,← Nat.add_assoc,List.length_dropLast,List.length_tail]
      exact Nat.add_le_add_right (Nat.add_le_add (Nat.sub_le _ _) (Nat.sub_le _ _)) _
    · exact ⟨List.cons_ne_nil _ _,Nat.le_refl _,Nat.le_of_eq List.length_append⟩
theorem mergeR_cons {c:List Nat} {l M:List (List Nat)} (h:mergeR (c :: l) = some M):∃ M',mergeR l = some M' ∧ mergeC c M' = some M:=Option.bind_eq_some_iff.mp h
theorem sft_of {W:Wd} {H:Env → Prop} {k:Nat} {name:String} {a:Addr} {fd:FuncData} (f:Fun W k name a fd) {n:Nat} {t:TS} {xs:List String} (hb:SLT W H (fnScope (fn k)) n (fnBody (fn k)) t)
    (hbind:∀ fd:FuncData,fd.params = fnParams (fn k) → fd.defaults = .none → ∀ vs,vs.length = xs.length → bindArgs fd ⟨vs,[]⟩ = pure (bindsOf xs vs)) (hH:∀ m,H (callEnvC fd m a))
    (hnd:xs.Nodup:=by decide) (hk:∀ x ∈ xs,storable (fnScope (fn k)) x = true:=by decide +kernel) :
    SFT W (n + 1) a (fun us K X => us.length = xs.length ∧ t (retPost K X) (stoOf xs us)):=by
  have hb':SLT W H fd.scope n (fnBody (fn k)) t:=by rw [f.scope]; exact hb
  exact sft_pos f.lim f.at_ hb' (fun s vs ℓ h => .of_eq (hbind fd f.params f.dflt vs h)) hnd (by rw [f.scope]; exact hk) hH
theorem mergeR_ne {c:List Nat} {l M:List (List Nat)} (h:mergeR (c :: l) = some M):M ≠ []:=(mergeC_len (mergeR_cons h).choose_spec.2).1
theorem mergeR_suf:∀ (l M:List (List Nat)) (k:Nat),mergeR l = some M → ∃ M',mergeR (l.drop k) = some M'
  | l,M,0,h => ⟨M,h⟩
  | [],M,k + 1,h => ⟨[],rfl⟩
  | c :: l,M,k + 1,h => mergeR_suf l _ k (mergeR_cons h).choose_spec.1
theorem mergeR_len:∀ (l M:List (List Nat)),mergeR l = some M → M.length ≤ l.length ∧ M.flatten.length ≤ l.flatten.length
  | [],M,h => by cases h; exact ⟨Nat.le_refl _,Nat.le_refl _⟩
  | c :: l,M,h => by
    obtain ⟨M',h1,h2⟩:=mergeR_cons h
    have ih:=mergeR_len l _ h1
    have h3:=mergeC_len h2
    refine ⟨Nat.le_trans h3.2.1 (Nat.succ_le_succ ih.1),Nat.le_trans h3.2.2 ?_⟩
    rw [List.flatten_cons,List.length_append]
    exact Nat.add_le_add_left ih.2 _
theorem len_flat {c:List Nat} {l:List (List Nat)} (h:c ∈ l):c.length ≤ l.flatten.length:=by
  obtain ⟨a,b,rfl⟩:=List.append_of_mem h
  rw [List.flatten_append,List.flatten_cons,List.length_append,List.length_append]
  exact Nat.le_trans (Nat.le_add_right _ _) (Nat.le_add_left _ _)
theorem set_mid {α:Type} (A R:List α) (c z:α):(A ++ c :: R).set A.length z = A ++ z :: R:=by simp
theorem erase_mid {α:Type} (A R:List α) (z d:α):(A ++ z :: d :: R).eraseIdx (A.length + 1) = A ++ z :: R:=by
  rw [List.eraseIdx_append_of_length_le (Nat.le_add_right A.length 1),Nat.add_sub_cancel_left]; rfl
theorem at_last? {c:List Nat} (h:c ≠ []):at? c (-1) = some (c.getLastD 0):=at_neg h
theorem slc_dropLast (c:List Nat):slc c none (some (-1)) = c.dropLast:=by
  unfold slc
  rw [List.dropLast_eq_take,← clipAt_neg c.length 1 (by decide)]
  rfl
theorem slc_tail (c:List Nat):slc c (some 1) none = c.tail:=by
  cases c with
  | nil => rfl
  | cons x r =>
    unfold slc
    rw [show Option.elim (some 1) 0 (clipAt (x :: r).length) = 1 from (clipAt_nat (r.length + 1) 1).trans (Nat.min_eq_left (Nat.le_add_left 1 _))]
    exact List.take_length
theorem twinSub_len (l:List Nat):(twinSub l).length ≤ 2 * l.length:=by
  induction l with
  | nil => exact Nat.le_refl _
  | cons c r ih =>
    have:twinSub (c :: r) = (if twin c then [92,c] else [c]) ++ twinSub r:=rfl
    rw [this,List.length_append,List.length_cons,Nat.mul_succ,Nat.add_comm]
    refine Nat.add_le_add ih ?_
    split
    · exact Nat.le_refl 2
    · exact Nat.le_succ 1
theorem trStuff_br {pat:List Nat} {i J c1:Nat} {stuff:List Nat} (h45:45 ∈ sub pat i J) (hc1:pat[i]? = some c1) (h:trStuff pat i J = some stuff):∃ cs1 ie cs2 M,chunkLoop pat J 60 [] i (if c1 = 33 then i + 2 else i + 1) = some (cs1,ie) ∧ (if sub pat ie J = [] then lastAdd cs1 else some (cs1 ++ [sub pat ie J])) = some cs2 ∧ cs2.flatten.length ≤ 2000 ∧ cs2.length ≤ 100 ∧ mergeR cs2 = some M ∧ (M.map repl2).flatten.length + M.length ≤ 900 ∧ stuff = joinL [45] (M.map repl2):=by
  unfold trStuff stuffB at h
  rw [if_pos h45,List.getD_eq_getElem?_getD,hc1] at h
  obtain ⟨⟨cs1,ie⟩,h1,h2⟩:=Option.bind_eq_some_iff.mp h
  obtain ⟨cs2,h3,h4⟩:=Option.bind_eq_some_iff.mp h2
  obtain ⟨h5,h6⟩:=needs_some h4
  obtain ⟨M,h7,h8⟩:=Option.bind_eq_some_iff.mp h6
  obtain ⟨h9,h10⟩:=needs_some h8
  exact ⟨cs1,ie,cs2,M,h1,h3,h5.1,h5.2,h7,h9,(Option.some.inj h10).symm⟩
theorem trAt_br {miss:Nat → Bool} {pat:List Nat} {i:Nat} {o:List Nat} {j':Nat} (hc:pat[i]? = some 91) (h:trAt miss pat i = some (o,j')):brEnd pat i < pat.length ∧ j' = brEnd pat i + 1 ∧ ∃ stuff c r,trStuff pat (i + 1) (brEnd pat i) = some stuff ∧ stuff.length ≤ 1000 ∧ twinSub stuff = c :: r ∧ c :: r ≠ [33] ∧ o = finL c r:=by
  unfold trAt at h
  rw [hc] at h
  obtain ⟨h1,h2⟩:=needs_some (show trBr pat i = some (o,j') from h)
  obtain ⟨out,h3,h4⟩:=Option.map_eq_some_iff.mp h2
  obtain ⟨stuff,h5,h6⟩:=Option.bind_eq_some_iff.mp h3
  obtain ⟨h7,h8⟩:=needs_some h6
  cases h4
  refine ⟨h1,rfl,stuff,?_⟩
  cases htw:twinSub stuff with
  | nil => rw [htw] at h8; cases h8
  | cons c r =>
    rw [htw] at h8
    obtain ⟨h9,h10⟩:=needs_some h8
    exact ⟨c,r,h5,h7,rfl,h9,(Option.some.inj h10).symm⟩
theorem trAt_one {miss:Nat → Bool} {pat:List Nat} {i c:Nat} {o:List Nat} {j':Nat} (hc:pat[i]? = some c) (h91:c ≠ 91) (h:trAt miss pat i = some (o,j')):(c ≠ 42 ∧ c ≠ 63 ∧ c < 128 ∧ miss c = true) ∧ o = [c] ∧ j' = i + 1:=by
  unfold trAt at h
  rw [hc] at h
  obtain ⟨h1,h2⟩:=needs_some (show trPl miss c i = some (o,j') from (if_neg h91).symm.trans h)
  cases h2
  exact ⟨h1,rfl,rfl⟩
theorem at_nat {α:Type} {x:List α} {i:Nat} {c:α} (h:x[i]? = some c):at? x (i:Int) = some c:=by
  unfold at?
  rw [if_pos (Int.natCast_nonneg _),Int.toNat_natCast]; exact h
theorem flat_drop (l:List (List Nat)) (k:Nat):(l.drop k).flatten.length ≤ l.flatten.length:=by
  rw [← List.take_append_drop k l,List.flatten_append,List.length_append,List.take_append_drop]
  exact Nat.le_add_left _ _
theorem merge_step {cs2 MM M1:List (List Nat)} {m:Nat} (hmm:mergeR cs2 = some MM) (hm:m + 1 < cs2.length) (h1:mergeR (cs2.drop (m + 1)) = some M1) (hf:cs2.flatten.length ≤ 2000) (hl:cs2.length ≤ 100):∃ c d r,M1 = d :: r ∧ (c ≠ [] ∧ d ≠ []) ∧ cs2.take (m + 1) = cs2.take m ++ [c] ∧ mergeR (cs2.drop m) = some (if d.headD 0 < c.getLastD 0 then (c.dropLast ++ d.tail) :: r else c :: d :: r) ∧ c.length ≤ 2000 ∧ d.length ≤ 2000 ∧ m + (r.length + 2) ≤ 100:=by
  have hmlt:=Nat.lt_of_succ_lt hm
  obtain ⟨M2,hM2⟩:=mergeR_suf cs2 MM m hmm
  have hM3:=hM2
  rw [List.drop_eq_getElem_cons hmlt] at hM2
  obtain ⟨M',e1,e2⟩:=mergeR_cons hM2
  rw [h1] at e1
  cases e1
  have hne:M1 ≠ []:=by
    have h2:=h1
    rw [List.drop_eq_getElem_cons hm] at h2
    exact mergeR_ne h2
  cases M1 with
  | nil => exact absurd rfl hne
  | cons d r =>
    obtain ⟨hcd,e3⟩:=mergeC_inv e2
    have hl1:=mergeR_len _ _ h1
    have h5:=hl1.1
    rw [List.length_drop] at h5
    refine ⟨cs2[m],d,r,rfl,hcd,List.take_succ_eq_append_getElem hmlt,by rw [hM3,e3],Nat.le_trans (len_flat (List.getElem_mem hmlt)) hf,Nat.le_trans (Nat.le_trans (len_flat (.head _)) hl1.2) (Nat.le_trans (flat_drop _ _) hf),?_⟩
    have h6:=Nat.add_le_of_le_sub (Nat.le_of_lt hm) h5
    exact Nat.le_trans (Nat.le_of_eq (by rw [Nat.add_comm m]; exact (Nat.succ_add_eq_add_succ _ _))) (Nat.le_trans h6 hl)
theorem at_mid {α:Type} (A R:List α) (x:α):at? (A ++ x :: R) (A.length:Int) = some x:=at_nat (by rw [List.getElem?_append_right (Nat.le_refl _),Nat.sub_self]; rfl)
theorem at_mid2 {α:Type} (A R:List α) (x y:α):at? (A ++ x :: y :: R) ((A.length + 1:Nat):Int) = some y:=at_nat (by rw [List.getElem?_append_right (Nat.le_add_right A.length 1),Nat.add_sub_cancel_left]; rfl)
theorem pIdx_nat {k n:Nat} (h:k < n):pIdx (k:Int) n = some k:=by
  unfold pIdx
  rw [if_pos (Int.natCast_nonneg _),if_pos (Int.ofNat_lt.mpr h),Int.toNat_natCast]
theorem down_at {n L t:Nat} {u:V} (hL:L = n + 1) (h:((List.range ((L:Int) - 1 - 0).toNat).map fun (i:Nat) => V.int ((L:Int) - 1 + (i:Int) * -1))[t]? = some u):t < n ∧ u = V.int ((n - t:Nat):Int):=by
  subst hL
  rw [show (((n + 1:Nat):Int) - 1 - 0).toNat = n by rw [Int.sub_zero]; exact congrArg Int.toNat (Int.add_sub_cancel (n:Int) 1),List.getElem?_map] at h
  obtain ⟨t',h1,h2⟩:=Option.map_eq_some_iff.mp h
  obtain ⟨h3,h4⟩:=List.getElem?_eq_some_iff.mp h1
  rw [List.getElem_range] at h4
  subst h4
  rw [List.length_range] at h3
  exact ⟨h3,h2.symm.trans (congrArg V.int (by omega))⟩
theorem down_len {n L:Nat} (hL:L = n + 1):((List.range ((L:Int) - 1 - 0).toNat).map fun (i:Nat) => V.int ((L:Int) - 1 + (i:Int) * -1)).length = n:=by
  subst hL
  rw [List.length_map,List.length_range,Int.sub_zero]
  exact congrArg Int.toNat (Int.add_sub_cancel (n:Int) 1)
end
noncomputable section
set_option maxHeartbeats 4000000
inductive TlB:Sto → Prop
  | nil:TlB []
  | mk (l u v:V):TlB [("chunks",.val l),("k",.val u),("chunk",.val v)]
inductive TlA:Sto → Prop
  | nil:TlA []
  | mk (u v:V) (tl:Sto) (h:TlB tl):TlA (("j",.val u) :: ("stuff",.val v) :: tl)
inductive TlC:Sto → Prop
  | nil:TlC []
  | mk (u:V) (tl:Sto) (h:TlA tl):TlC (("c",.val u) :: tl)
inductive TlS:Sto → Prop
  | nil:TlS []
  | mk (u:V) (tl:Sto) (h:TlB tl):TlS (("stuff",.val u) :: tl)
inductive TlW:Sto → Prop
  | nil:TlW []
  | mk (v:V):TlW [("chunk",.val v)]
theorem TlB.no {tl:Sto} (h:TlB tl):hasApp tl "res" = false:=by cases h <;> rfl
theorem TlA.no {tl:Sto} (h:TlA tl):hasApp tl "res" = false:=by
  cases h with
  | nil => rfl
  | mk u v tl h => exact h.no
noncomputable def trRaw (pat:List Nat) (st:Addr) (qm:List Nat) (acc:List V) (i:Int) (tl:Sto):Sto:=("pat",.val (.str pat)) :: ("STAR",.val (.ref st)) :: ("QUESTION_MARK",.val (.str qm)) :: ("res",.own acc) :: ("add",.app "res") :: ("n",.val (.int pat.length)) :: ("i",.val (.int i)) :: tl
inductive TrInv (miss:Nat → Bool) (pat:List Nat) (st:Addr) (qm:List Nat) (parts:List (List Nat)) (fl:Nat) (σ:Sto):Prop
  | mk (acc:List (List Nat)) (i:Nat) (tl:Sto) (ht:TlC tl) (hb:trLoop miss pat fl acc i = some parts) (hl:acc.length + fl ≤ 20) (e:σ = trRaw pat st qm (vstrs acc) i tl)
inductive P28 (us:List V) (K:V → Prop) (X:Value → Prop):Prop
  | mk (pat:List Nat) (st:Addr) (q:List Nat) (parts:List (List Nat)) (e:us = [.str pat,.ref st,.str q]) (h1:pat.length ≤ 1000) (h2:∀ c ∈ pat,c < 128) (hr:trLoop missF pat 20 [] 0 = some parts) (k:K (.list (vstrs parts)))
theorem cs_star:cs "*" = [42]:=by decide +kernel
theorem cs_q:cs "?" = [63]:=by decide +kernel
theorem cs94:cs "^" = [94]:=by decide +kernel
theorem chF {c d:Nat} {s:List Nat} (h:s = [d]) (n:c ≠ d):([c] == s) = false:=beq_eq_false_iff_ne.mpr fun e => n (List.cons.inj (e.trans h)).1
theorem chT {c d:Nat} {s:List Nat} (h:s = [d]) (e:([c] == s) = true):c = d:=(List.cons.inj ((beq_iff_eq.mp e).trans h)).1
theorem chN {c d:Nat} {s:List Nat} (h:s = [d]) (e:([c] == s) = false):c ≠ d:=fun e' => absurd (by rw [e',h]) (beq_eq_false_iff_ne.mp e)
theorem chNe {c d:Nat} {s:List Nat} (h:s = [d]) (e:([c] != s) = true):c ≠ d:=fun e' => absurd (by rw [e',h]) (bne_iff_ne.mp e)
theorem chEq {c d:Nat} {s:List Nat} (h:s = [d]) (e:([c] != s) = false):c = d:=by
  cases hb:([c] == s) with
  | true => exact chT h hb
  | false => rw [bne,hb] at e; cases e
theorem hbr {e:Nat} {r s y:List Nat} (h1:y = s) (h2:finL e r = [91] ++ s ++ [93]):(Str.ofString "[").cps.toList ++ y ++ (Str.ofString "]").cps.toList = finL e r:=by rw [h2,h1]; exact congr (congrArg HAppend.hAppend (congrArg (· ++ s) cs91)) cs93
theorem hbf {s y:List Nat} (h1:y = s) (h2:s.length ≤ 2002):fits ((Str.ofString "[").cps.toList.length + y.length + (Str.ofString "]").cps.toList.length):=by
  rw [show (Str.ofString "[").cps.toList = [91] from cs91,show (Str.ofString "]").cps.toList = [93] from cs93,h1]
  exact Nat.le_trans (Nat.add_le_add_right (Nat.add_le_add_left h2 1) 1) (by decide)
theorem cbb:(Str.ofString "\\\\").cps.toList = [92,92]:=by decide +kernel
noncomputable def crRaw (pat:List Nat) (st:Addr) (qm:List Nat) (acc:List V) (i J:Int) (s:List Nat) (ch:List V) (k:Int) (tl:Sto):Sto:=trRaw pat st qm acc i (("c",.val (.str [91])) :: ("j",.val (.int J)) :: ("stuff",.val (.str s)) :: ("chunks",.own ch) :: ("k",.val (.int k)) :: tl)
theorem TlW.no {tl:Sto} (h:TlW tl):hasApp tl "chunks" = false:=by cases h <;> rfl
theorem findPJ {x s:List Nat} {c i j:Nat} {r:Int} {K:V → Prop} (hs:s = [c]) (hl:j ≤ x.length) (hr:findC x c i j = r) (hK:K (.int r)):findP [.str x,.str s,.int i,.int j] K:=by subst hs hr; exact findPI (Int.natCast_nonneg _) (Int.natCast_nonneg _) (Int.ofNat_le.mpr hl) hK
theorem cbd:(Str.ofString "\\-").cps.toList = [92,45]:=by decide +kernel
theorem can28 {W:Wd} (B:Blts W) (T:Tops W) {q:Str} {a:Addr} {fd:FuncData} (f:Fun W 28 "_translate" a fd) (hH:∀ m,EnvAt 163 q (callEnvC fd m a)) (hq1:W.qn (216:Nat) (37:Nat) = q ++ "<genexpr>") (hq2:W.qn (217:Nat) (39:Nat) = q ++ "<lambda>") (n:Nat) (c26:Can W n "escape" P26):CanT W (n + 1) "_translate" P28:=by
  obtain ⟨b1,b2,b3,b4,b5,b6,b7,b8,b9,b10,b11,b12,b13,b14⟩:=B
  obtain ⟨t1,t2,t3,t4,t5,t6,t7,t8,t9,t10,t11,t12,t13⟩:=T
  refine ⟨a,f.glob,f.fn,SFT.mono (sft_of f (xs:=["pat","STAR","QUESTION_MARK"]) (slt_seq (SS.t (ss_assign_own (so_list sg_nil))) (slt_seq (SS.t (ss_bind_app _ _)) (slt_seq (SS.t (ss_un2s (se_tuple (sg_cons (se_int _) (sg_cons (se_len _ b1) sg_nil))))) (slt_seq (sst_while (st_cmp (se_name _) (se_name _)) (slt_seq (SS.t (ss_assign (se_own_idx _ (se_name _)))) (slt_seq (SS.t (ss_assign (se_bin2 (se_name _) (se_int _)))) (slt_seq (sst_ite (st_cmp (se_name _) (se_strc _)) (slt_seq (sst_ite (st_bool (sa_or (st_not (st_name _)) (sa_or (st_cmp (se_lit _ (lit_neg (lit_int _))) (se_name _)) sa_or_nil))) (slt_seq (SS.t (ss_add _ (se_name _))) (SL.t sl_nil)) (SL.t sl_nil)) (SL.t sl_nil)) (slt_seq (sst_ite (st_cmp (se_name _) (se_strc _)) (slt_seq (SS.t (ss_add _ (se_name _))) (SL.t sl_nil)) (slt_seq (sst_ite (st_cmp (se_name _) (se_strc _)) (slt_seq (SS.t (ss_assign (se_name _))) (slt_seq (sst_ite (st_bool (sa_and (st_cmp (se_name _) (se_name _)) (sa_and (st_cmp (se_own_idx _ (se_name _)) (se_strc _)) sa_and_nil))) (slt_seq (SS.t (ss_assign (se_bin2 (se_name _) (se_int _)))) (SL.t sl_nil)) (SL.t sl_nil)) (slt_seq (sst_ite (st_bool (sa_and (st_cmp (se_name _) (se_name _)) (sa_and (st_cmp (se_own_idx _ (se_name _)) (se_strc _)) sa_and_nil))) (slt_seq (SS.t (ss_assign (se_bin2 (se_name _) (se_int _)))) (SL.t sl_nil)) (SL.t sl_nil)) (slt_seq (sst_while (st_bool (sa_and (st_cmp (se_name _) (se_name _)) (sa_and (st_cmp (se_own_idx _ (se_name _)) (se_strc _)) sa_and_nil))) (slt_seq (SS.t (ss_assign (se_bin2 (se_name _) (se_int _)))) (SL.t sl_nil))) (slt_seq (sst_ite (st_cmp (se_name _) (se_name _)) (slt_seq (SS.t (ss_add _ (se_strc _))) (SL.t sl_nil)) (slt_seq (SS.t (ss_assign (se_slc (se_name _) (sp_some (se_name _)) (sp_some (se_name _))))) (slt_seq (sst_ite (st_cmp (se_strc _) (se_name _)) (slt_seq (sst_assign (replace_call (SE.t (se_name _)) rfl (by decide) (by decide) (by decide) (by intro _; rfl))) (SL.t sl_nil)) (slt_seq (SS.t (ss_assign_own (so_list sg_nil))) (slt_seq (SS.t (ss_assign (se_if (st_cmp (se_own_idx _ (se_name _)) (se_strc _)) (se_bin2 (se_name _) (se_int _)) (se_bin2 (se_name _) (se_int _))))) (slt_seq (sst_while (st_val (se_bool true)) (slt_seq (SS.t (ss_assign (se_meth cb_find (se_name _) (sg_cons (se_strc _) (sg_cons (se_name _) (sg_cons (se_name _) sg_nil))) PySem.F.plainAttrs_str PySem.F.slot_str_find PySem.F.type_str_find))) (slt_seq (sst_ite (st_cmp (se_name _) (se_int _)) (slt_seq (SS.t ss_break) (SL.t sl_nil)) (SL.t sl_nil)) (slt_seq (SS.t (ss_append _ (se_slc (se_name _) (sp_some (se_name _)) (sp_some (se_name _))))) (slt_seq (SS.t (ss_assign (se_bin2 (se_name _) (se_int _)))) (slt_seq (SS.t (ss_assign (se_bin2 (se_name _) (se_int _)))) (SL.t sl_nil))))))) (slt_seq (SS.t (ss_assign (se_slc (se_name _) (sp_some (se_name _)) (sp_some (se_name _))))) (slt_seq (sst_ite (st_name _) (slt_seq (SS.t (ss_append _ (se_name _))) (SL.t sl_nil)) (slt_seq (SS.t (ss_augset (lit_neg (lit_int _)) (se_strc _))) (SL.t sl_nil))) (slt_seq (SS.t (ss_for (se_call_t cb_range b5 (sg_cons (se_bin2 (se_len _ b1) (se_int _)) (sg_cons (se_int _) (sg_cons (se_neg (se_int _)) sg_nil)))) (sl_seq (ss_ite (st_cmp (se_idx (se_own_idx _ (se_bin2 (se_name _) (se_int _))) (se_neg (se_int _))) (se_idx (se_own_idx _ (se_name _)) (se_int _))) (sl_seq (ss_set (se_bin2 (se_slc (se_own_idx _ (se_bin2 (se_name _) (se_int _))) sp_none (sp_some (se_neg (se_int _)))) (se_slc (se_own_idx _ (se_name _)) (sp_some (se_int _)) sp_none)) (se_bin2 (se_name _) (se_int _))) (sl_seq (ss_del (se_name _)) sl_nil)) sl_nil) sl_nil))) (slt_seq (sst_assign (set_join_gen t2 t1 t3 hq1 (se_name _) rfl (by intro _; rfl) (by decide) (by decide +kernel) (by decide +kernel) rfl (by decide) (by intro _ _; rfl) (by decide) (by intro _; rfl) (by intro ys cenv fp wr P href hcs hP; exact quiet_repl2 (by rw [hcs] <;> rfl) (by show cenv.scope.names.lookup _ = _; rw [hcs] <;> decide +kernel) (by decide) rfl (by decide) (by decide) rfl (by decide) (by decide) (by decide) (by decide) hP))) (SL.t sl_nil))))))))) (slt_seq (sst_assign (set_sub t2 t1 t3 hq2 t4 t5)) (slt_seq (SS.t (ss_assign (se_bin2 (se_name _) (se_int _)))) (slt_seq (sst_ite (st_not (st_name _)) (slt_seq (SS.t (ss_add _ (se_strc _))) (SL.t sl_nil)) (slt_seq (sst_ite (st_cmp (se_name _) (se_strc _)) (slt_seq (SS.t (ss_add _ (se_strc _))) (SL.t sl_nil)) (slt_seq (sst_ite (st_cmp (se_lit _ (lit_int _)) (se_strc _)) (slt_seq (SS.t (ss_assign (se_bin2 (se_strc _) (se_slc (se_name _) (sp_some (se_int _)) sp_none)))) (SL.t sl_nil)) (slt_seq (sst_ite (st_cmp (se_lit _ (lit_int _)) (se_tuple (sg_cons (se_strc _) (sg_cons (se_strc _) sg_nil)))) (slt_seq (SS.t (ss_assign (se_bin2 (se_strc _) (se_name _)))) (SL.t sl_nil)) (SL.t sl_nil)) (SL.t sl_nil))) (slt_seq (SS.t (ss_add _ (se_fstr (se_name _)))) (SL.t sl_nil)))) (SL.t sl_nil))) (SL.t sl_nil))))))) (SL.t sl_nil)))))) (slt_seq (SS.t (ss_add _ (se_can c26 (sg_cons (se_name _) sg_nil)))) (SL.t sl_nil))) (SL.t sl_nil))) (SL.t sl_nil))) (SL.t sl_nil))))) (slt_seq (SS.t (ss_assert (st_cmp (se_name _) (se_name _)))) (slt_seq (SS.t (ss_return (se_name _))) (SL.t sl_nil))))))) ?_ hH) ?_⟩
  · exact fun fd h h' vs hl => bind3 (fun fd u v w h h' => by unfold bindArgs; rw [h,h']; rfl) fd h h' vs hl
  rintro us K X ⟨pat,st,qm,parts,rfl,h1,h2,hr,hK⟩
  have hfp:fits pat.length:=Nat.le_trans h1 (by decide)
  refine ⟨rfl,?_⟩
  refine And.intro sm8 (And.intro rfl (And.intro (by decide) (lenP.mk _ _ rfl rfl hfp (And.intro fits2 (And.intro rfl ?_)))))
  refine while_rule (I:=fun fl σ => TrInv missF pat st qm parts fl σ) ?_ 20 ⟨[],0,[],.nil,hr,by decide,rfl⟩
  rintro fl σ N ⟨acc,i,tl,ht,hb,hl,rfl⟩ hN
  cases fl with
  | zero => cases hb
  | succ fl =>
  have hfa:fits (vstrs acc).length:=by rw [vstrs_len]; exact Nat.le_trans (Nat.le_add_right _ _) (Nat.le_trans hl (by decide))
  unfold trLoop walkL at hb
  refine ifB (fun c => ?_) fun c => ?_
  · have hi:i < pat.length:=Int.ofNat_lt.mp (of_decide_eq_true c)
    rw [if_pos hi] at hb
    obtain ⟨⟨o,j'⟩,htra,hb⟩:=Option.bind_eq_some_iff.mp hb
    have hc:pat[i]? = some pat[i]:=List.getElem?_eq_getElem hi
    have hat:=at_nat hc
    have hl2:(acc ++ [o]).length + fl ≤ 20:=by rw [List.length_append,Nat.add_assoc,Nat.add_comm [o].length]; exact hl
    refine seqCut2 (fun σ' => ∃ tl',TlA tl' ∧ σ' = trRaw pat st qm (vstrs acc) ((i + 1:Nat):Int) (("c",.val (.str [pat[i]])) :: tl')) (fun N hN => ?_) ?_
    · refine And.intro hfp (Exists.intro _ (And.intro hat ?_))
      cases ht with
      | nil => exact hN _ ⟨_,.nil,rfl⟩
      | mk u tl h => exact hN _ ⟨_,h,rfl⟩
    refine toE ?_
    intro tl' ht'
    have n42:pat[i] ≠ 42:=fun e => (trAt_one hc (by rw [e]; decide) htra).1.1 e
    have n63:pat[i] ≠ 63:=fun e => (trAt_one hc (by rw [e]; decide) htra).1.2.1 e
    have he:=fun tl => congrArg (fun l => trRaw pat st qm l (j':Int) tl) (vstrs_snoc acc o).symm
    clear hat
    generalize pat[i] = ch at *
    refine ifF (chF cs_star n42) (ifF (chF cs_q n63) (ifB (fun c => ?_) fun c => ?_))
    · cases chT cs91 c
      obtain ⟨hJn,rfl,stuff,e,r,hst,hsl,htw,hne,rfl⟩:=trAt_br hc htra
      refine seqCut (fun σ' => ∃ tl,TlS tl ∧ σ' = trRaw pat st qm (vstrs acc) ((i + 1:Nat):Int) (("c",.val (.str [91])) :: ("j",.val (.int ((i + 1:Nat):Int))) :: tl)) (fun N hN => ?_) ?_
      · cases ht' with
        | nil => exact hN _ ⟨_,.nil,rfl⟩
        | mk u v tl h => exact hN _ ⟨_,.mk _ _ h,rfl⟩
      refine toE ?_
      intro tl ht
      have hle1:i + 1 ≤ openJ1 pat i:=by
        unfold openJ1
        split
        · exact Nat.le_succ _
        · exact Nat.le_refl _
      have hle2:openJ1 pat i ≤ openJ2 pat (openJ1 pat i):=by
        unfold openJ2
        split
        · exact Nat.le_succ _
        · exact Nat.le_refl _
      have hle3:openJ2 pat (openJ1 pat i) ≤ brEnd pat i:=closeJ_le
      have hj1n:openJ1 pat i < pat.length:=Nat.lt_of_le_of_lt (Nat.le_trans hle2 hle3) hJn
      have hi1n:i + 1 < pat.length:=Nat.lt_of_le_of_lt hle1 hj1n
      have hat1:=at_nat (List.getElem?_eq_getElem hi1n)
      refine seqCut (fun σ' => σ' = trRaw pat st qm (vstrs acc) ((i + 1:Nat):Int) (("c",.val (.str [91])) :: ("j",.val (.int (openJ1 pat i:Nat))) :: tl)) (fun N hN => ?_) ?_
      · refine ifT (decide_eq_true (Int.ofNat_lt.mpr hi1n)) (And.intro hfp (Exists.intro _ (And.intro hat1 (ifB (fun c => ifT rfl (hN _ ?_)) fun c => ifF rfl (hN _ ?_)))))
        · exact congrArg (fun (j:Nat) => trRaw pat st qm (vstrs acc) ((i + 1:Nat):Int) (("c",.val (.str [91])) :: ("j",.val (.int j)) :: tl)) (if_pos ((List.getElem?_eq_getElem hi1n).trans (congrArg some (chT cs33 c)))).symm
        · exact congrArg (fun (j:Nat) => trRaw pat st qm (vstrs acc) ((i + 1:Nat):Int) (("c",.val (.str [91])) :: ("j",.val (.int j)) :: tl)) (if_neg fun e => chN cs33 c (Option.some.inj ((List.getElem?_eq_getElem hi1n).symm.trans e))).symm
      refine toX ?_
      clear hat1
      have hat1:=at_nat (List.getElem?_eq_getElem hj1n)
      refine seqCut (fun σ' => σ' = trRaw pat st qm (vstrs acc) ((i + 1:Nat):Int) (("c",.val (.str [91])) :: ("j",.val (.int (openJ2 pat (openJ1 pat i):Nat))) :: tl)) (fun N hN => ?_) ?_
      · refine ifT (decide_eq_true (Int.ofNat_lt.mpr hj1n)) (And.intro hfp (Exists.intro _ (And.intro hat1 (ifB (fun c => ifT rfl (hN _ ?_)) fun c => ifF rfl (hN _ ?_)))))
        · exact congrArg (fun (j:Nat) => trRaw pat st qm (vstrs acc) ((i + 1:Nat):Int) (("c",.val (.str [91])) :: ("j",.val (.int j)) :: tl)) (if_pos ((List.getElem?_eq_getElem hj1n).trans (congrArg some (chT cs93 c)))).symm
        · exact congrArg (fun (j:Nat) => trRaw pat st qm (vstrs acc) ((i + 1:Nat):Int) (("c",.val (.str [91])) :: ("j",.val (.int j)) :: tl)) (if_neg fun e => chN cs93 c (Option.some.inj ((List.getElem?_eq_getElem hj1n).symm.trans e))).symm
      refine toX ?_
      refine seqCut (fun σ' => σ' = trRaw pat st qm (vstrs acc) ((i + 1:Nat):Int) (("c",.val (.str [91])) :: ("j",.val (.int (brEnd pat i:Nat))) :: tl)) (fun N hN => ?_) ?_
      · refine while_rule (I:=fun fl σ => ∃ jj:Nat,(closeJ pat jj = brEnd pat i ∧ jj ≤ brEnd pat i ∧ fl = brEnd pat i - jj) ∧ σ = trRaw pat st qm (vstrs acc) ((i + 1:Nat):Int) (("c",.val (.str [91])) :: ("j",.val (.int (jj:Nat))) :: tl)) ?_ _ ⟨_,⟨rfl,hle3,rfl⟩,rfl⟩
        rintro fl' σ3 N' ⟨jj,⟨hjJ,hjl,rfl⟩,rfl⟩ hN'
        have hjn:=Nat.lt_of_le_of_lt hjl hJn
        refine ifT (decide_eq_true (Int.ofNat_lt.mpr hjn)) (And.intro hfp (Exists.intro _ (And.intro (at_nat (List.getElem?_eq_getElem hjn)) (ifB (fun c => ifT rfl ?_) fun c => ifF rfl (hN _ ?_)))))
        · have hj2:closeJ pat (jj + 1) = brEnd pat i:=(closeJ_step (List.getElem?_eq_getElem hjn) (chNe cs93 c)).trans hjJ
          have hj3:jj + 1 ≤ brEnd pat i:=hj2 ▸ closeJ_le
          exact hN' (brEnd pat i - (jj + 1)) _ (Nat.sub_lt_sub_left hj3 (Nat.lt_succ_self jj)) ⟨jj + 1,⟨hj2,hj3,rfl⟩,rfl⟩
        · exact congrArg (fun (j:Nat) => trRaw pat st qm (vstrs acc) ((i + 1:Nat):Int) (("c",.val (.str [91])) :: ("j",.val (.int j)) :: tl)) ((closeJ_stop ((List.getElem?_eq_getElem hjn).trans (congrArg some (chEq cs93 c)))).symm.trans hjJ)
      refine toX ?_
      have hiJ:i + 1 ≤ brEnd pat i:=Nat.le_trans hle1 (Nat.le_trans hle2 hle3)
      refine ifF (decide_eq_false (Int.not_le.mpr (Int.ofNat_lt.mpr hJn))) ?_
      clear hle1 hle2 hle3
      refine seqCut (fun σ' => ∃ tl,TlB tl ∧ σ' = trRaw pat st qm (vstrs acc) ((i + 1:Nat):Int) (("c",.val (.str [91])) :: ("j",.val (.int (brEnd pat i:Nat))) :: ("stuff",.val (.str (sub pat (i + 1) (brEnd pat i)))) :: tl)) (fun N hN => And.intro hfp ?_) ?_
      · rw [show slc pat (some ((i + 1:Nat):Int)) (some (brEnd pat i:Nat)) = _ from slc_sub hiJ]
        cases ht with
        | nil => exact hN _ ⟨_,.nil,rfl⟩
        | mk u tl h => exact hN _ ⟨_,h,rfl⟩
      refine toE ?_
      intro tl ht
      refine seqCut (fun σ' => ∃ iv tl,TlB tl ∧ σ' = trRaw pat st qm (vstrs acc) iv (("c",.val (.str [91])) :: ("j",.val (.int (brEnd pat i:Nat))) :: ("stuff",.val (.str stuff)) :: tl)) (fun N hN => ?_) ?_
      · generalize brEnd pat i = J at *
        clear hl2 he hb hc
        have hsub:=sub_len pat (i + 1) J
        have hsub2:(sub pat (i + 1) J).length ≤ 1000:=Nat.le_trans hsub (Nat.le_trans (Nat.sub_le _ _) (Nat.le_trans (Nat.le_of_lt hJn) h1))
        refine Exists.intro 45 (And.intro dash1 (ifB (fun c => ?_) fun c => ?_))
        · refine Exists.intro _ (And.intro rfl (And.intro (Nat.le_trans hsub2 (by decide)) (hN _ ⟨((i + 1:Nat):Int),tl,ht,?_⟩)))
          have h45:¬ 45 ∈ sub pat (i + 1) J:=by simpa using c
          have e1:replL (UInt8.ofNat '\\'.val.toNat).toNat (Str.ofString "\\\\").cps.toList (sub pat (i + 1) J) = stuff:=by
            rw [cbb]
            unfold trStuff at hst
            rw [if_neg h45] at hst
            exact Option.some.inj hst
          exact congrArg (fun s => trRaw pat st qm (vstrs acc) ((i + 1:Nat):Int) (("c",.val (.str [91])) :: ("j",.val (.int (J:Nat))) :: ("stuff",.val (.str s)) :: tl)) e1
        · have h45:45 ∈ sub pat (i + 1) J:=by simpa using c
          obtain ⟨cs1,ie,cs2,MM,hcl,hcs2,hfl,hcl2,hmm,hml,rfl⟩:=trStuff_br h45 (List.getElem?_eq_getElem hi1n) hst
          refine seqCut2 (fun σ' => ∃ tl,TlW tl ∧ σ' = crRaw pat st qm (vstrs acc) ((i + 1:Nat):Int) J (sub pat (i + 1) J) [] (if pat[i + 1] = 33 then i + 1 + 2 else i + 1 + 1:Nat) tl) (fun N' hN' => And.intro sm8 ?_) ?_
          · have hat1:=at_nat (List.getElem?_eq_getElem hi1n)
            have ek:∀ (k:Nat) (tl:Sto),k = (if pat[i + 1] = 33 then i + 1 + 2 else i + 1 + 1) → crRaw pat st qm (vstrs acc) ((i + 1:Nat):Int) J (sub pat (i + 1) J) [] k tl = crRaw pat st qm (vstrs acc) ((i + 1:Nat):Int) J (sub pat (i + 1) J) [] (if pat[i + 1] = 33 then i + 1 + 2 else i + 1 + 1:Nat) tl:=fun k tl h => by rw [← h]
            cases ht with
            | nil => exact And.intro rfl (And.intro hfp (Exists.intro _ (And.intro hat1 (ifB (fun c => hN' _ ⟨_,.nil,ek _ _ (if_pos (chT cs33 c)).symm⟩) fun c => hN' _ ⟨_,.nil,ek _ _ (if_neg (chN cs33 c)).symm⟩))))
            | mk l u v => exact And.intro rfl (And.intro hfp (Exists.intro _ (And.intro hat1 (ifB (fun c => hN' _ ⟨_,.mk _,ek _ _ (if_pos (chT cs33 c)).symm⟩) fun c => hN' _ ⟨_,.mk _,ek _ _ (if_neg (chN cs33 c)).symm⟩))))
          refine toE ?_
          intro tl ht
          refine seqCut (fun σ' => ∃ kv:Int,(ie ≤ J ∧ cs1.length ≤ 60) ∧ σ' = crRaw pat st qm (vstrs acc) ie J (sub pat (i + 1) J) (vstrs cs1) kv tl) (fun N' hN' => ?_) ?_
          · refine while_rule (I:=fun fl σ => ∃ (ch:List (List Nat)) (i' k':Nat),(chunkLoop pat J fl ch i' k' = some (cs1,ie) ∧ i' ≤ J ∧ i' ≤ k' ∧ ch.length + fl ≤ 60) ∧ σ = crRaw pat st qm (vstrs acc) i' J (sub pat (i + 1) J) (vstrs ch) k' tl) ?_ 60 ⟨[],i + 1,_,⟨hcl,hiJ,?_,by decide⟩,rfl⟩
            · rintro fl' σ5 N2 ⟨ch,i',k',⟨hcl,hi',hik,hch⟩,rfl⟩ hN2
              cases fl' with
              | zero => cases hcl
              | succ fl' =>
              unfold chunkLoop at hcl
              have hfc:fits (vstrs ch).length:=by rw [vstrs_len]; exact Nat.le_trans (Nat.le_add_right _ _) (Nat.le_trans hch (by decide))
              refine And.intro rfl ?_
              cases hf:findN pat 45 k' J with
              | none =>
                rw [hf] at hcl
                cases hcl
                exact findPJ dash1 (Nat.le_of_lt hJn) (findC_none hf) (hN' _ ⟨-1,⟨hi',Nat.le_trans (Nat.le_add_right _ _) hch⟩,rfl⟩)
              | some m =>
                rw [hf] at hcl
                obtain ⟨hf',hm1,hm2⟩:=findC_some hf
                refine findPJ dash1 (Nat.le_of_lt hJn) hf' (fun a => And.intro hfp ?_)
                rw [show slc pat (some (i':Nat)) (some (m:Nat)) = _ from slc_sub (Nat.le_trans hik hm1)]
                exact And.intro rfl (And.intro ht.no (And.intro hfc (hN2 fl' _ (Nat.lt_succ_self _) ⟨_,m + 1,m + 3,⟨hcl,hm2,Nat.le_add_right _ 2,by rw [List.length_append,Nat.add_assoc,Nat.add_comm [_].length]; exact hch⟩,congrArg (fun l => crRaw pat st qm (vstrs acc) ((m + 1:Nat):Int) J (sub pat (i + 1) J) l ((m + 3:Nat):Int) tl) (vstrs_snoc ch _).symm⟩)))
            · split
              · exact Nat.le_add_right _ 2
              · exact Nat.le_add_right _ 1
          refine toE ?_
          rintro kv ⟨hie,hc60⟩
          have hfc:fits (vstrs cs1).length:=by rw [vstrs_len]; exact Nat.le_trans hc60 (by decide)
          have hsl3:fits (sub pat ie J).length:=Nat.le_trans (sub_len pat ie J) (Nat.le_trans (Nat.sub_le _ _) (Nat.le_trans (Nat.le_of_lt hJn) hfp))
          refine seqCut (fun σ' => σ' = crRaw pat st qm (vstrs acc) ie J (sub pat (i + 1) J) (vstrs cs1) kv [("chunk",.val (.str (sub pat ie J)))]) (fun N' hN' => And.intro hfp ?_) ?_
          · rw [show slc pat (some (ie:Nat)) (some (J:Nat)) = _ from slc_sub hie]
            cases ht with
            | nil => exact hN' _ rfl
            | mk v => exact hN' _ rfl
          refine toX ?_
          refine seqCut (fun σ' => cs2 ≠ [] ∧ σ' = crRaw pat st qm (vstrs acc) ie J (sub pat (i + 1) J) (vstrs cs2) kv [("chunk",.val (.str (sub pat ie J)))]) (fun N' hN' => And.intro hsl3 (ifB (fun c => ?_) fun c => ?_)) ?_
          · rw [if_neg (fun e => by rw [e] at c; cases c)] at hcs2
            cases hcs2
            exact fun a => And.intro rfl (And.intro rfl (And.intro hfc (hN' _ ⟨fun e => absurd (congrArg List.length e) (by rw [List.length_append]; exact Nat.succ_ne_zero _),congrArg (fun l => crRaw pat st qm (vstrs acc) ie J (sub pat (i + 1) J) l kv [("chunk",.val (.str (sub pat ie J)))]) (vstrs_snoc cs1 _).symm⟩)))
          · have hse:sub pat ie J = []:=by
              cases h:sub pat ie J with
              | nil => rfl
              | cons x r => rw [h] at c; cases c
            rw [if_pos hse] at hcs2
            rcases nil_or_snoc cs1 with rfl | ⟨A,b,rfl⟩
            · cases hcs2
            unfold lastAdd at hcs2
            rw [List.getLast?_concat,List.dropLast_concat] at hcs2
            cases hcs2
            have hbl:=Nat.le_trans (len_flat (List.mem_append_right A (.head _))) hfl
            have hse2:(vstrs (A ++ [b])).set ((vstrs (A ++ [b])).length - 1) (.str (b ++ cs "-")) = vstrs (A ++ [b ++ [45]]):=by rw [vstrs_snoc,vstrs_snoc,dash1]; exact set_last _ _ _
            have hatb:at? (vstrs (A ++ [b])) (-1) = some (.str b):=by rw [vstrs_snoc]; exact at_neg1 _ _
            refine And.intro hfc (Exists.intro _ (Exists.intro _ (And.intro (pIdx_last (by rw [vstrs_len,List.length_append]; exact Nat.le_add_left _ _)) (And.intro hatb fun a => And.intro rfl (And.intro rfl (And.intro (And.intro rfl (by rw [dash1]; rw [List.length_append] at hbl; exact Nat.le_trans hbl (by decide))) (hN' _ ⟨?_,congrArg (fun l => crRaw pat st qm (vstrs acc) ie J (sub pat (i + 1) J) l kv [("chunk",.val (.str (sub pat ie J)))]) hse2⟩)))))))
            exact fun e => absurd (congrArg List.length e) (by rw [List.length_append]; exact Nat.succ_ne_zero _)
          refine toQ ?_
          intro hne2
          have hLc:(vstrs cs2).length = cs2.length:=vstrs_len _
          have hfc2:fits (vstrs cs2).length:=by rw [hLc]; exact Nat.le_trans hcl2 (by decide)
          obtain ⟨A,b,eAb⟩:∃ A b,cs2 = A ++ [b]:=(nil_or_snoc cs2).elim (fun e => absurd e hne2) id
          have hAl:cs2.length = A.length + 1:=by rw [eAb,List.length_append]; rfl
          have hAn:(vstrs cs2).length = A.length + 1:=hLc.trans hAl
          refine seqCut (fun σ' => ∃ kv:Int,σ' = crRaw pat st qm (vstrs acc) ie J (sub pat (i + 1) J) (vstrs MM) kv [("chunk",.val (.str (sub pat ie J)))]) (fun N' hN' => And.intro hfc2 (And.intro (And.intro rfl (And.intro ?_ (And.intro (by decide) (by decide)))) (Exists.intro _ (And.intro rfl (forI_rule (I:=fun t σ => ∃ (M:List (List Nat)) (kv:Int) (ch:List V),(mergeR (cs2.drop (A.length - t)) = some M ∧ ch = vstrs (cs2.take (A.length - t) ++ M)) ∧ σ = crRaw pat st qm (vstrs acc) ie J (sub pat (i + 1) J) ch kv [("chunk",.val (.str (sub pat ie J)))]) _ (fun t u σ7 N2 hk => ?_) ?_ _ ⟨[b],kv,vstrs cs2,⟨?_,?_⟩,rfl⟩))))) ?_
          · rw [hAn,show (((A.length + 1:Nat):Int) - 1) = (A.length:Int) from Int.add_sub_cancel (A.length:Int) 1]
            exact near_le (Nat.le_trans (Nat.le_trans (Nat.le_succ _) (Nat.le_trans (Nat.le_of_eq hAl.symm) hcl2)) (by decide))
          · obtain ⟨ht1,rfl⟩:=down_at hAn hk
            clear hk
            obtain ⟨m,hm⟩:∃ m,A.length - t = m + 1:=⟨_,(Nat.succ_pred (Nat.sub_ne_zero_of_lt ht1)).symm⟩
            rw [Nat.sub_succ,hm]
            rintro ⟨M1,kv,ch,⟨hM1,hch⟩,rfl⟩ hN2
            have hmc:m + 1 < cs2.length:=by rw [hAl,← hm]; exact Nat.lt_succ_of_le (Nat.sub_le _ _)
            obtain ⟨c1,d1,r1,rfl,hcd,htk,hM2,hcl1,hdl1,hmr⟩:=merge_step hmm hmc hM1 hfl hcl2
            have hvM:∀ M,vstrs (cs2.take m ++ M) = vstrs (cs2.take m) ++ vstrs M:=fun M => List.map_append
            have hVl:(vstrs (cs2.take m)).length = m:=(vstrs_len _).trans (List.length_take_of_le (Nat.le_of_lt (Nat.lt_of_succ_lt hmc)))
            rw [htk,List.append_assoc,hvM] at hch
            generalize vstrs (cs2.take m) = VV at *
            subst hVl hch
            have hlen:(VV ++ vstrs ([c1] ++ d1 :: r1)).length = VV.length + (r1.length + 2):=by rw [List.length_append,vstrs_len]; rfl
            have hfl2:fits (VV ++ vstrs ([c1] ++ d1 :: r1)).length:=by rw [hlen]; exact Nat.le_trans hmr (by decide)
            have hfcc:fits c1.length:=Nat.le_trans hcl1 (by decide)
            have hfdd:fits d1.length:=Nat.le_trans hdl1 (by decide)
            have hatc:at? (VV ++ vstrs ([c1] ++ d1 :: r1)) (((VV.length + 1:Nat):Int) - 1) = some (.str c1):=(congrArg _ (Int.add_sub_cancel (VV.length:Int) 1)).trans (at_mid VV (vstrs (d1 :: r1)) (.str c1))
            have hatd:at? (VV ++ vstrs ([c1] ++ d1 :: r1)) ((VV.length + 1:Nat):Int) = some (.str d1):=at_mid2 VV (vstrs r1) (.str c1) (.str d1)
            refine fun a => And.intro rfl (And.intro rfl (And.intro hfl2 (Exists.intro _ (And.intro hatc (And.intro hfcc (Exists.intro _ (And.intro (at_last? hcd.1) ?_)))))))
            refine fun a => And.intro rfl (And.intro rfl (And.intro hfl2 (Exists.intro _ (And.intro hatd (And.intro hfdd (Exists.intro _ (And.intro (at_0 hcd.2) (ifB (fun c => ?_) fun c => ?_))))))))
            · have hpi:pIdx (((VV.length + 1:Nat):Int) - 1) (VV ++ vstrs ([c1] ++ d1 :: r1)).length = some VV.length:=(congrArg (fun k => pIdx k _) (Int.add_sub_cancel (VV.length:Int) 1)).trans (pIdx_nat (by rw [hlen]; exact Nat.lt_add_of_pos_right (Nat.succ_pos _)))
              have hpj:pIdx ((VV.length + 1:Nat):Int) ((VV ++ vstrs ([c1] ++ d1 :: r1)).set VV.length (.str (slc c1 none (some (-1)) ++ slc d1 (some 1) none))).length = some (VV.length + 1):=pIdx_nat (by rw [List.length_set,hlen]; exact Nat.add_lt_add_left (Nat.succ_lt_succ (Nat.succ_pos _)) _)
              have hse:((VV ++ vstrs ([c1] ++ d1 :: r1)).set VV.length (.str (slc c1 none (some (-1)) ++ slc d1 (some 1) none))).eraseIdx (VV.length + 1) = VV ++ vstrs ((c1.dropLast ++ d1.tail) :: r1):=by
                rw [slc_dropLast,slc_tail]
                exact (congrArg (fun l => List.eraseIdx l (VV.length + 1)) (set_mid VV (vstrs (d1 :: r1)) (.str c1) _)).trans (erase_mid VV (vstrs r1) _ (.str d1))
              have hfs:fits ((slc c1 none (some (-1))).length + (slc d1 (some 1) none).length):=by
                rw [slc_dropLast,slc_tail,List.length_dropLast,List.length_tail]
                exact Nat.le_trans (Nat.add_le_add (Nat.le_trans (Nat.sub_le _ _) hcl1) (Nat.le_trans (Nat.sub_le _ _) hdl1)) (by decide)
              refine seqCut (fun σ' => σ' = crRaw pat st qm (vstrs acc) ie J (sub pat (i + 1) J) ((VV ++ vstrs ([c1] ++ d1 :: r1)).set VV.length (.str (slc c1 none (some (-1)) ++ slc d1 (some 1) none))) ((VV.length + 1:Nat):Int) [("chunk",.val (.str (sub pat ie J)))]) (fun N3 hN3 => ?_) ?_
              · refine fun a => And.intro rfl (And.intro rfl (And.intro hfl2 (Exists.intro _ (And.intro hatc (And.intro hfcc ?_)))))
                refine fun a => And.intro rfl (And.intro rfl (And.intro hfl2 (Exists.intro _ (And.intro hatd (And.intro hfdd (And.intro (And.intro rfl hfs) ?_))))))
                refine fun a => And.intro rfl (And.intro rfl (Exists.intro _ (And.intro rfl (And.intro hfl2 (Exists.intro _ (And.intro hpi ?_))))))
                exact hN3 _ rfl
              refine toX ?_
              refine fun a => And.intro rfl (And.intro rfl (Exists.intro _ (And.intro rfl (And.intro (by rw [List.length_set]; exact hfl2) (Exists.intro _ (And.intro hpj ?_))))))
              exact hN2 _ ⟨_,_,_,⟨hM2.trans (congrArg some (if_pos (of_decide_eq_true (lt_single.symm.trans c)))),hse.trans (hvM _).symm⟩,rfl⟩
            · exact hN2 _ ⟨_,_,_,⟨hM2.trans (congrArg some (if_neg (of_decide_eq_false (lt_single.symm.trans c)))),(hvM _).symm⟩,rfl⟩
          · rintro σ7 ⟨M1,kv,ch,⟨hM1,hch⟩,rfl⟩
            rw [down_len hAn,Nat.sub_self] at hM1 hch
            cases hmm.symm.trans hM1
            exact hN' _ ⟨kv,congrArg (fun l => crRaw pat st qm (vstrs acc) ie J (sub pat (i + 1) J) l kv [("chunk",.val (.str (sub pat ie J)))]) hch⟩
          · rw [eAb]
            exact congrArg mergeR (List.drop_left (l₁:=A))
          · rw [eAb]
            exact congrArg vstrs (congrArg (· ++ [b]) (List.take_left (l₁:=A))).symm
          refine toK ?_
          intro kv
          have hml2:=mergeR_len _ _ hmm
          have hr2:(MM.map fun y => replL (UInt8.ofNat '-'.val.toNat).toNat (Str.ofString "\\-").cps.toList (replL (UInt8.ofNat '\\'.val.toNat).toNat (Str.ofString "\\\\").cps.toList y)) = MM.map repl2:=by rw [cbb,cbd]; rfl
          refine Exists.intro MM (And.intro rfl (And.intro (fun y hy => Nat.le_trans (Nat.le_trans (len_flat hy) hml2.2) (Nat.le_trans hfl (by decide))) (And.intro (by rw [hr2,← List.length_flatten]; exact Nat.le_trans hml (by decide)) ?_)))
          exact hN _ ⟨_,_,.mk (.list (vstrs MM)) (.int kv) (.str (sub pat ie J)),congrArg (fun s => trRaw pat st qm (vstrs acc) ie (("c",.val (.str [91])) :: ("j",.val (.int (J:Nat))) :: ("stuff",.val (.str s)) :: [("chunks",.val (.list (vstrs MM))),("k",.val (.int kv)),("chunk",.val (.str (sub pat ie J)))])) (by rw [hr2,show (Str.ofString "-").cps.toList = [45] from dash1])⟩
      refine toE2 ?_
      intro iv tl ht
      refine Exists.intro _ (And.intro rfl (And.intro hsl ?_))
      rw [htw]
      have hrl:r.length + 1 ≤ 2000:=by
        have:=twinSub_len stuff
        rw [htw] at this
        exact Nat.le_trans this (Nat.mul_le_mul_left 2 hsl)
      have hfr:fits (e :: r).length:=Nat.le_trans hrl (by decide)
      have fin:∀ (s y:List Nat),y = s → finL e r = [91] ++ s ++ [93] → N (trRaw pat st qm (vstrs acc ++ [V.str ((Str.ofString "[").cps.toList ++ y ++ (Str.ofString "]").cps.toList)]) ((brEnd pat i + 1:Nat):Int) (("c",.val (.str [91])) :: ("j",.val (.int (brEnd pat i:Nat))) :: ("stuff",.val (.str y)) :: tl)):=fun s y h1 h2 => hN fl _ (Nat.lt_succ_self _) ⟨_,_,_,.mk _ _ (.mk _ (.str y) _ ht),hb,hl2,(congrArg (fun z => trRaw pat st qm (vstrs acc ++ [V.str z]) ((brEnd pat i + 1:Nat):Int) (("c",.val (.str [91])) :: ("j",.val (.int (brEnd pat i:Nat))) :: ("stuff",.val (.str y)) :: tl)) (hbr h1 h2)).trans (he _)⟩
      refine And.intro hfr (ifF rfl (ifF (beq_eq_false_iff_ne.mpr fun h => hne (h.trans cs33)) (And.intro hfr (Exists.intro _ (And.intro rfl (ifB (fun c => And.intro hfr ?_) fun c => And.intro hfr (Exists.intro _ (And.intro rfl ?_))))))))
      · rw [slc_tail]
        have h1:cs "^" ++ (e :: r).tail = 94 :: r:=congrArg (· ++ r) cs94
        exact And.intro (And.intro rfl (by rw [cs94]; exact Nat.le_trans (Nat.le_of_eq (Nat.add_comm 1 r.length)) hfr)) fun a b => Exists.intro _ (And.intro rfl (And.intro (hbf h1 (Nat.le_succ_of_le (Nat.le_succ_of_le hrl))) (And.intro rfl (And.intro ht.no (And.intro rfl (And.intro hfa (fin _ _ h1 (by unfold finL; rw [if_pos (chT cs33 c)]))))))))
      · have n33:=chN cs33 c
        refine And.intro fits2 (Exists.intro [cs "^",cs "["] (And.intro rfl (ifB (fun c => ?_) fun c => ?_)))
        · have h1:cs "\\" ++ e :: r = 92 :: e :: r:=congrArg (· ++ e :: r) cs92
          have h94:e = 94 ∨ e = 91:=by
            have:=of_decide_eq_true c
            rw [cs94,cs91] at this
            simpa using this
          exact And.intro (And.intro rfl (by rw [cs92]; exact Nat.le_trans (Nat.le_of_eq (Nat.add_comm 1 (r.length + 1))) (Nat.le_trans (Nat.succ_le_succ hrl) (by decide)))) fun a b => Exists.intro _ (And.intro rfl (And.intro (hbf h1 (Nat.succ_le_succ (Nat.le_succ_of_le hrl))) (And.intro rfl (And.intro ht.no (And.intro rfl (And.intro hfa (fin _ _ h1 (by unfold finL; rw [if_neg n33,if_pos h94]))))))))
        · have h94:¬(e = 94 ∨ e = 91):=by
            have:=of_decide_eq_false c
            rw [cs94,cs91] at this
            simpa using this
          exact fun a b => Exists.intro _ (And.intro rfl (And.intro (hbf rfl (Nat.le_succ_of_le (Nat.le_succ_of_le hrl))) (And.intro rfl (And.intro ht.no (And.intro rfl (And.intro hfa (fin _ _ rfl (by unfold finL; rw [if_neg n33,if_neg h94]))))))))
    · obtain ⟨⟨_,_,hc128,hmiss⟩,rfl,rfl⟩:=trAt_one hc (fun e => by rw [e,cs91] at c; cases c) htra
      exact fun a b => P26.mk ch rfl hc128 hmiss (And.intro rfl (And.intro ht'.no (And.intro rfl (And.intro hfa (hN fl _ (Nat.lt_succ_self _) ⟨_,_,_,.mk _ _ ht',hb,hl2,he _⟩)))))
  · rw [if_neg (fun h => absurd (Int.ofNat_lt.mpr h) (of_decide_eq_false c))] at hb
    obtain ⟨he,hb⟩:=needs_some hb
    cases hb
    refine And.intro (beq_iff_eq.mpr (congrArg _ he)) hK
end
noncomputable section
set_option maxHeartbeats 4000000
inductive P23 (us:List V) (K:V → Prop) (X:Value → Prop):Prop
  | mk (pat:List Nat) (parts:List (List Nat)) (e:us = [.str pat]) (h1:pat.length ≤ 1000) (h2:∀ c ∈ pat,c < 128) (hr:trLoop missF pat 20 [] 0 = some parts) (h3:parts.length ≤ 100) (h4:parts.flatten.length ≤ 8000) (k:K (.str ([40,63,115,58] ++ parts.flatten ++ [41,92,90])))
theorem can23 {W:Wd} (B:Blts W) (WL:W.base.NoLimit) {a:Addr} {fd:FuncData} (f:Fun W 23 "translate" a fd) (n:Nat) (c29:Can W n "_join_translated_parts" P29) (c28:CanT W n "_translate" P28):CanT W (n + 1) "translate" P23:=by
  have b12:=B.object
  refine ⟨a,f.glob,f.fn,SFT.mono (sft_of (H:=fun ℓ => True) f (xs:=["pat"]) (slt_seq (SS.t (ss_assign (se_object b12))) (slt_seq (sst_assign (set_cant c28 (sg_cons (se_name _) (sg_cons (se_name _) (sg_cons (se_strc _) sg_nil))))) (slt_seq (SS.t (ss_return (se_can c29 (sg_cons (se_name _) (sg_cons (se_name _) sg_nil))))) (SL.t sl_nil)))) (fun fd h h' vs hl => bind1 (fun fd v h h' => by unfold bindArgs; rw [h,h']; rfl) fd h h' vs hl) fun ℓ => trivial) ?_⟩
  rintro us K X ⟨pat,parts,rfl,h1,h2,hr,h3,h4,hK⟩
  exact ⟨rfl,fun st => P28.mk pat st _ parts rfl h1 h2 hr (P29.mk parts st rfl h3 h4 hK)⟩
end
noncomputable section
set_option maxHeartbeats 4000000
section
variable {p d q:List Nat}
theorem at_in {a:Nat} (h:a < d.length):(p ++ d ++ q)[p.length + a]? = d[a]?:=by
  rw [List.append_assoc,List.getElem?_append_right (Nat.le_add_right _ _),Nat.add_sub_cancel_left,List.getElem?_append_left h]
theorem drop_in {a:Nat} (h:a ≤ d.length):(p ++ d ++ q).drop (p.length + a) = d.drop a ++ q:=by
  rw [List.append_assoc,← List.drop_drop,List.drop_left,List.drop_append_of_le_length h]
theorem sub_in {a b:Nat} (h:b ≤ d.length):sub (p ++ d ++ q) (p.length + a) (p.length + b) = sub d a b:=by
  unfold sub
  rw [Nat.add_sub_add_left]
  by_cases hab:a ≤ b
  · rw [drop_in (Nat.le_trans hab h),List.take_append_of_le_length (by rw [List.length_drop]; exact Nat.sub_le_sub_right h a)]
  · rw [Nat.sub_eq_zero_of_le (Nat.le_of_not_le hab),List.take_zero,List.take_zero]
theorem takeWhile_app {f:Nat → Bool}:∀ (l m:List Nat),(l.takeWhile f).length < l.length → (l ++ m).takeWhile f = l.takeWhile f
  | [],_,h => absurd h (Nat.lt_irrefl 0)
  | x :: r,m,h => by
    rw [List.cons_append]
    by_cases hx:f x = true
    · rw [List.takeWhile_cons_of_pos hx] at h
      rw [List.takeWhile_cons_of_pos hx,List.takeWhile_cons_of_pos hx,takeWhile_app r m (Nat.lt_of_succ_lt_succ h)]
    · rw [List.takeWhile_cons_of_neg hx,List.takeWhile_cons_of_neg hx]
theorem closeJ_in {a:Nat} (ha:a ≤ d.length) (h:closeJ d a < d.length):closeJ (p ++ d ++ q) (p.length + a) = p.length + closeJ d a:=by
  unfold closeJ at *
  rw [drop_in ha,takeWhile_app _ _ (by rw [List.length_drop]; exact Nat.lt_sub_of_add_lt (by rw [Nat.add_comm]; exact h)),Nat.add_assoc]
theorem findN_in {c lo hi:Nat} (h:hi ≤ d.length):findN (p ++ d ++ q) c (p.length + lo) (p.length + hi) = (findN d c lo hi).map (p.length + ·):=by
  unfold findN
  rw [Nat.add_sub_add_left]
  have key:∀ (n lo:Nat),lo + n ≤ d.length → (List.range' (p.length + lo) n).find? (fun i => (p ++ d ++ q)[i]? == some c) = ((List.range' lo n).find? (fun i => d[i]? == some c)).map (p.length + ·):=by
    intro n
    induction n with
    | zero => intro lo _; rfl
    | succ n ih =>
      intro lo hn
      rw [List.range'_succ,List.range'_succ,List.find?_cons,List.find?_cons,at_in (Nat.lt_of_lt_of_le (Nat.lt_add_of_pos_right (Nat.succ_pos n)) hn)]
      cases hx:(d[lo]? == some c) with
      | true => rfl
      | false => exact ih (lo + 1) (by rw [Nat.succ_add_eq_add_succ]; exact hn)
  by_cases hl:lo ≤ hi
  · exact key _ _ (by rw [Nat.add_sub_of_le hl]; exact h)
  · rw [Nat.sub_eq_zero_of_le (Nat.le_of_not_le hl)]; rfl
theorem chunkLoop_in {j:Nat} (hj:j ≤ d.length):∀ (f:Nat) (chunks:List (List Nat)) (i k:Nat),chunkLoop (p ++ d ++ q) (p.length + j) f chunks (p.length + i) (p.length + k) = (chunkLoop d j f chunks i k).map fun r => (r.1,p.length + r.2):=by
  intro f
  induction f with
  | zero => intro chunks i k; rfl
  | succ f ih =>
    intro chunks i k
    unfold chunkLoop
    rw [findN_in hj]
    cases hf:findN d 45 k j with
    | none => rfl
    | some m =>
      have e:sub (p ++ d ++ q) (p.length + i) (p.length + m) = sub d i m:=sub_in (Nat.le_trans (Nat.le_of_lt (findC_some hf).2.2) hj)
      exact (congrArg (fun s => chunkLoop (p ++ d ++ q) (p.length + j) f (chunks ++ [s]) (p.length + m + 1) (p.length + m + 3)) e).trans (ih _ (m + 1) (m + 3))
theorem getD_in {i:Nat} (h:i < d.length):(p ++ d ++ q).getD (p.length + i) 0 = d.getD i 0:=by
  rw [List.getD_eq_getElem?_getD,List.getD_eq_getElem?_getD,at_in h]
theorem stuffB_in {i j:Nat} (hi:i < d.length) (hj:j ≤ d.length):stuffB (p ++ d ++ q) (p.length + i) (p.length + j) = stuffB d i j:=by
  unfold stuffB
  rw [getD_in hi,show (if d.getD i 0 = 33 then p.length + i + 2 else p.length + i + 1) = p.length + (if d.getD i 0 = 33 then i + 2 else i + 1) by split <;> rfl,chunkLoop_in hj]
  cases chunkLoop d j 60 [] i (if d.getD i 0 = 33 then i + 2 else i + 1) with
  | none => rfl
  | some r => exact congrArg (fun s => stuffL s r.1) (sub_in hj)
theorem trStuff_in {i j:Nat} (hi:i < d.length) (hj:j ≤ d.length):trStuff (p ++ d ++ q) (p.length + i) (p.length + j) = trStuff d i j:=by
  unfold trStuff
  rw [sub_in hj,stuffB_in hi hj]
theorem openJ1_le (x:List Nat) (i:Nat):i + 1 ≤ openJ1 x i:=by
  unfold openJ1
  split
  · exact Nat.le_succ _
  · exact Nat.le_refl _
theorem openJ2_le (x:List Nat) (i:Nat):i ≤ openJ2 x i:=by
  unfold openJ2
  split
  · exact Nat.le_succ _
  · exact Nat.le_refl _
theorem brEnd_in (h:brEnd d 0 < d.length):brEnd (p ++ d ++ q) p.length = p.length + brEnd d 0:=by
  have h3:openJ2 d (openJ1 d 0) ≤ brEnd d 0:=closeJ_le
  have h2:=Nat.lt_of_le_of_lt h3 h
  have h1:=Nat.lt_of_le_of_lt (openJ2_le d (openJ1 d 0)) h2
  have h0:=Nat.lt_of_le_of_lt (openJ1_le d 0) h1
  have e1:openJ1 (p ++ d ++ q) p.length = p.length + openJ1 d 0:=by
    unfold openJ1
    rw [at_in h0]
    split <;> rfl
  have e2:openJ2 (p ++ d ++ q) (p.length + openJ1 d 0) = p.length + openJ2 d (openJ1 d 0):=by
    unfold openJ2
    rw [at_in h1]
    split <;> rfl
  unfold brEnd at *
  rw [e1,e2,closeJ_in (Nat.le_of_lt h2) h]
theorem trBr_in (h:brEnd d 0 < d.length):trBr (p ++ d ++ q) p.length = (trBr d 0).map fun r => (r.1,p.length + r.2):=by
  have h0:1 < d.length:=Nat.lt_of_le_of_lt (Nat.le_trans (openJ1_le d 0) (Nat.le_trans (openJ2_le d _) closeJ_le)) h
  unfold trBr
  rw [brEnd_in h,trStuff_in h0 (Nat.le_of_lt h),needs,needs,if_pos h,if_pos (Nat.lt_of_lt_of_le (Nat.add_lt_add_left h _) (by rw [List.length_append,List.length_append]; exact Nat.le_add_right _ _)),Option.map_map]
  rfl
theorem trAt_in {miss:Nat → Bool} {o:List Nat} (h:trAt miss d 0 = some (o,d.length)):trAt miss (p ++ d ++ q) p.length = some (o,p.length + d.length):=by
  obtain ⟨c,h1,h2⟩:=Option.bind_eq_some_iff.mp h
  have h0:=(List.getElem?_eq_some_iff.mp h1).1
  have e:(p ++ d ++ q)[p.length]? = some c:=(at_in (a:=0) h0).trans h1
  unfold trAt
  rw [e]
  by_cases hc:c = 91
  · replace h2:trBr d 0 = some (o,d.length):=(if_pos hc).symm.trans h2
    exact (if_pos hc).trans ((trBr_in (needs_some h2).1).trans (by rw [h2]; rfl))
  · replace h2:trPl miss c 0 = some (o,d.length):=(if_neg hc).symm.trans h2
    have h3:=needs_some h2
    have h4:=Option.some.inj h3.2
    refine (if_neg hc).trans ((if_pos h3.1).trans ?_)
    rw [← show [c] = o from congrArg Prod.fst h4,← show 0 + 1 = d.length from congrArg Prod.snd h4]
end
end
noncomputable section
set_option maxHeartbeats 4000000
noncomputable def memberW (d:List Nat) (k:Nat):Option (List Nat × Nat):=d[k]?.bind fun c => if c = 92 then d[k + 1]?.map (fun a => (if alnumA a then [] else [a],k + 2)) else some (if c ∈ [38,126,124,45] then [] else [c],k + 1)
noncomputable def stepW (d signs:List Nat) (k:Nat):Option (List Nat × Nat):=(memberW d k).bind fun m1 => d[m1.2]?.bind fun e => (if e = 45 then memberW d (m1.2 + 1) else some m1).bind fun m2 => (brPair m1.1 m2.1).map fun r => (signs ++ r,m2.2)
noncomputable def loopW (d:List Nat):(fuel:Nat) → List Nat → Nat → Option (List Nat × Nat)
  | 0,_,_ => none
  | f + 1,signs,k => d[k]?.bind fun c => if signs ≠ [] ∧ c = 93 then some (signs,k + 1) else (stepW d signs k).bind fun r => loopW d f r.1 r.2
noncomputable def atomB (d:List Nat):Option (List Nat):=d[1]?.bind fun e => needs (e ∉ [91,94]) ((loopW d 60 [] 1).bind fun r => needs (r.2 = d.length) (some r.1))
noncomputable def atomW (d:List Nat):Option (List Nat):=d[0]?.bind fun c => if c = 91 then atomB d else needs (c ∉ specialL ∧ d.length = 1) (some [c])
section
variable {p d q:List Nat}
theorem one_in {a c:Nat} (h:d[a]? = some c):one (p ++ d ++ q) (p.length + a) = [c]:=by
  obtain ⟨ha,rfl⟩:=List.getElem?_eq_some_iff.mp h
  unfold one
  rw [drop_in (Nat.le_of_lt ha),List.drop_eq_getElem_cons ha]
  rfl
theorem hd_ne {a b:Nat} (h:a ≠ b):[a] ≠ [b]:=fun e => h (List.cons.inj e).1
theorem memberW_in {k:Nat} {m:List Nat × Nat} (h:memberW d k = some m):memberAt (p ++ d ++ q) (p.length + k) = (m.1,p.length + m.2):=by
  obtain ⟨c,hc,h⟩:=Option.bind_eq_some_iff.mp h
  unfold memberAt
  rw [one_in hc]
  by_cases h92:c = 92
  · rw [if_pos h92] at h
    obtain ⟨a,ha,rfl⟩:=Option.map_eq_some_iff.mp h
    rw [if_pos (congrArg (fun c => [c]) h92),Nat.add_assoc,one_in ha]
    rfl
  · rw [if_neg h92] at h
    rw [if_neg (hd_ne h92),← Option.some.inj h]
    by_cases hx:c ∈ [38,126,124,45]
    · rw [if_pos hx,if_pos (show [c] ∈ [[38],[126],[124],[45]] from mem_single.mpr hx)]
      rfl
    · rw [if_neg hx,if_neg (show ¬[c] ∈ [[38],[126],[124],[45]] from fun h => hx (mem_single.mp h))]
      rfl
theorem stepW_in {s:List Nat} {k:Nat} {r:List Nat × Nat} (h:stepW d s k = some r):brStep (p ++ d ++ q) s (p.length + k) = some (r.1,p.length + r.2):=by
  obtain ⟨m1,h1,h⟩:=Option.bind_eq_some_iff.mp h
  obtain ⟨e,he,h⟩:=Option.bind_eq_some_iff.mp h
  obtain ⟨m2,h2,h⟩:=Option.bind_eq_some_iff.mp h
  obtain ⟨r0,h3,rfl⟩:=Option.map_eq_some_iff.mp h
  have hM:brM2 (p ++ d ++ q) (m1.1,p.length + m1.2) = (m2.1,p.length + m2.2):=by
    unfold brM2
    rw [one_in he]
    by_cases h45:e = 45
    · rw [if_pos h45] at h2
      exact (if_pos (congrArg (fun c => [c]) h45)).trans (memberW_in h2)
    · rw [if_neg h45] at h2
      rw [if_neg (hd_ne h45),Option.some.inj h2]
  unfold brStep
  rw [memberW_in h1,hM,show brPair (m1.1,p.length + m1.2).1 (m2.1,p.length + m2.2).1 = some r0 from h3]
  rfl
theorem loopW_in:∀ (f:Nat) (s:List Nat) (k:Nat) (r:List Nat × Nat),loopW d f s k = some r → brLoop (p ++ d ++ q) f s (p.length + k) = some (r.1,p.length + r.2):=by
  intro f
  induction f with
  | zero => intro s k r h; cases h
  | succ f ih =>
    intro s k r h
    obtain ⟨c,hc,h⟩:=Option.bind_eq_some_iff.mp h
    unfold brLoop
    rw [one_in hc]
    by_cases hx:s ≠ [] ∧ c = 93
    · rw [if_pos hx] at h
      rw [if_pos ⟨hx.1,congrArg (fun c => [c]) hx.2⟩,← Option.some.inj h]
      rfl
    · rw [if_neg hx] at h
      obtain ⟨r1,h1,h⟩:=Option.bind_eq_some_iff.mp h
      rw [if_neg fun h => hx ⟨h.1,(List.cons.inj h.2).1⟩,stepW_in h1]
      exact ih _ _ _ h
theorem atom_in {s:List Nat} (h:atomW d = some s):0 < d.length ∧ rdAtom (p ++ d ++ q) p.length = some (s,p.length + d.length):=by
  obtain ⟨c,hc,h⟩:=Option.bind_eq_some_iff.mp h
  have h0:=(List.getElem?_eq_some_iff.mp hc).1
  refine ⟨h0,?_⟩
  unfold rdAtom
  rw [show (p ++ d ++ q)[p.length]? = some c from (at_in (a:=0) h0).trans hc]
  by_cases h91:c = 91
  · rw [if_pos h91] at h
    refine (if_pos h91).trans ?_
    obtain ⟨e,he,h⟩:=Option.bind_eq_some_iff.mp h
    obtain ⟨hne,h⟩:=needs_some h
    obtain ⟨r,h1,h⟩:=Option.bind_eq_some_iff.mp h
    obtain ⟨hl,h⟩:=needs_some h
    unfold readBr
    rw [one_in he,loopW_in _ _ _ _ h1,hl,Option.some.inj h]
    exact if_pos fun h => hne (mem_single.mp h)
  · rw [if_neg h91] at h
    obtain ⟨⟨h1,h2⟩,h⟩:=needs_some h
    refine (if_neg h91).trans ?_
    rw [h2,← Option.some.inj h]
    exact if_pos h1
end
theorem walkL_all {α:Type} {st:List Nat → Nat → Option (List Nat × Nat)} {f g:α → List Nat}:∀ (wh:List α) (p w:List Nat) (acc:List (List Nat)) (k:Nat),(∀ x ∈ wh,0 < (f x).length ∧ ∀ p q:List Nat,st (p ++ f x ++ q) p.length = some (g x,p.length + (f x).length)) → wh.length < k → w = p ++ (wh.map f).flatten → walkL w.length (st w) k acc p.length = some (acc ++ wh.map g)
  | [],p,w,acc,k,_,hk,e => by
    obtain ⟨k,rfl⟩:∃ j,k = j + 1:=⟨k - 1,(Nat.succ_pred (Nat.ne_of_gt hk)).symm⟩
    rw [List.map_nil,List.flatten_nil,List.append_nil] at e
    subst e
    unfold walkL
    rw [if_neg (Nat.lt_irrefl _),List.map_nil,List.append_nil]
    exact if_pos rfl
  | x :: wh,p,w,acc,k,hne,hk,e => by
    obtain ⟨k,rfl⟩:∃ j,k = j + 1:=⟨k - 1,(Nat.succ_pred (Nat.ne_of_gt (Nat.lt_of_le_of_lt (Nat.zero_le _) hk))).symm⟩
    obtain ⟨hx,hR⟩:=hne x (.head _)
    rw [List.map_cons,List.flatten_cons,← List.append_assoc] at e
    subst e
    unfold walkL
    rw [if_pos (by rw [List.length_append,List.length_append]; exact Nat.lt_of_lt_of_le (Nat.lt_add_of_pos_right hx) (Nat.le_add_right _ _)),hR p]
    have ih:=walkL_all wh (p ++ f x) _ (acc ++ [g x]) k (fun y hy => hne y (.tail _ hy)) (Nat.lt_of_succ_lt_succ hk) rfl
    rw [List.length_append (as:=p),List.append_assoc acc] at ih
    exact ih
end
noncomputable section
set_option maxHeartbeats 4000000
noncomputable def A0:ASt:=⟨0,0,0,[]⟩
noncomputable def dat (c:Nat):Bool:=decide (b64v c < 64)
theorem step_pad (s:ASt):s.step 61 = ⟨s.q,s.l,s.p + 1,s.out⟩:=if_pos rfl
theorem step_skip {s:ASt} {c:Nat} (h:c ≠ 61) (hd:dat c = false):s.step c = s:=(if_neg h).trans (if_pos (Nat.le_of_not_lt (of_decide_eq_false hd)))
theorem dat_ne {c:Nat} (h:dat c = true):c ≠ 61:=fun e => by rw [e] at h; exact absurd h (by decide)
theorem step_dat {s:ASt} {c:Nat} (h:dat c = true):s.step c = if s.q = 0 then ⟨1,b64v c,0,s.out⟩
  else if s.q = 1 then ⟨2,b64v c % 16,0,s.out ++ [s.l * 4 + b64v c / 16]⟩
  else if s.q = 2 then ⟨3,b64v c % 4,0,s.out ++ [s.l * 16 + b64v c / 4]⟩
  else ⟨0,0,0,s.out ++ [s.l * 64 + b64v c]⟩:=(if_neg (dat_ne h)).trans (if_neg (Nat.not_le.mpr (of_decide_eq_true h)))
theorem st0 {c l p:Nat} {o:List Nat} (h:dat c = true):(⟨0,l,p,o⟩:ASt).step c = ⟨1,b64v c,0,o⟩:=step_dat h
theorem st1 {c l p:Nat} {o:List Nat} (h:dat c = true):(⟨1,l,p,o⟩:ASt).step c = ⟨2,b64v c % 16,0,o ++ [l * 4 + b64v c / 16]⟩:=step_dat h
theorem st2 {c l p:Nat} {o:List Nat} (h:dat c = true):(⟨2,l,p,o⟩:ASt).step c = ⟨3,b64v c % 4,0,o ++ [l * 16 + b64v c / 4]⟩:=step_dat h
theorem st3 {c l p:Nat} {o:List Nat} (h:dat c = true):(⟨3,l,p,o⟩:ASt).step c = ⟨0,0,0,o ++ [l * 64 + b64v c]⟩:=step_dat h
noncomputable def outOf:List Nat → List Nat
  | a :: b :: c :: d :: r => (a * 4 + b / 16) :: (b % 16 * 16 + c / 4) :: (c % 4 * 64 + d) :: outOf r
  | [a,b,c] => [a * 4 + b / 16,b % 16 * 16 + c / 4]
  | [a,b] => [a * 4 + b / 16]
  | _ => []
theorem out_len:∀ l:List Nat,(outOf l).length = l.length * 3 / 4
  | [] => rfl
  | [_] => show 0 = 1 * 3 / 4 from rfl
  | [_,_] => show 1 = 2 * 3 / 4 from rfl
  | [_,_,_] => show 2 = 3 * 3 / 4 from rfl
  | _ :: _ :: _ :: _ :: r => (congrArg (· + 3) (out_len r)).trans (by show _ = (r.length + 4) * 3 / 4; rw [Nat.add_mul]; exact (Nat.add_mul_div_right (r.length * 3) 3 (by decide:0 < 4)).symm)
theorem run_dat:∀ (A o:List Nat),(∀ c ∈ A,dat c = true) → ∃ l,(⟨0,0,0,o⟩:ASt).run A = ⟨A.length % 4,l,0,o ++ outOf (A.map b64v)⟩
  | [],o,_ => ⟨0,congrArg (ASt.mk 0 0 0) (List.append_nil o).symm⟩
  | [a],o,h => ⟨_,(st0 (h a (.head _))).trans (congrArg (ASt.mk 1 _ 0) (List.append_nil o).symm)⟩
  | [a,b],o,h => ⟨_,(congrArg (·.step b) (st0 (h a (.head _)))).trans (st1 (h b (.tail _ (.head _))))⟩
  | [a,b,c],o,h => ⟨_,by
    show ((ASt.step _ a).step b).step c = _
    rw [st0 (h a (.head _)),st1 (h b (.tail _ (.head _))),st2 (h c (.tail _ (.tail _ (.head _)))),List.append_assoc]
    rfl⟩
  | a :: b :: c :: d :: r,o,h => by
    obtain ⟨l,e⟩:=run_dat r (o ++ [b64v a * 4 + b64v b / 16] ++ [b64v b % 16 * 16 + b64v c / 4] ++ [b64v c % 4 * 64 + b64v d]) fun x hx => h x (.tail _ (.tail _ (.tail _ (.tail _ hx))))
    refine ⟨l,?_⟩
    show ((((ASt.step _ a).step b).step c).step d).run r = _
    rw [st0 (h a (.head _)),st1 (h b (.tail _ (.head _))),st2 (h c (.tail _ (.tail _ (.head _)))),st3 (h d (.tail _ (.tail _ (.tail _ (.head _))))),e,List.append_assoc,List.append_assoc,List.append_assoc,List.length_cons,List.length_cons,List.length_cons,List.length_cons]
    exact congrArg (fun q => ASt.mk q l 0 _) (Nat.add_mod_right r.length 4).symm
theorem run_pads (s:ASt):∀ (B:List Nat),(∀ c ∈ B,c = 61) → s.run B = ⟨s.q,s.l,s.p + B.length,s.out⟩:=by
  intro B
  induction B generalizing s with
  | nil => intro _; rfl
  | cons c r ih =>
    intro h
    rw [h c (.head _)]
    show (s.step 61).run r = _
    rw [step_pad,ih _ fun c hc => h c (.tail _ hc),List.length_cons,Nat.add_comm r.length,Nat.add_assoc]
noncomputable def core (s:ASt):Nat × Nat × List Nat:=(s.q,s.l,s.out)
theorem step_core {s t:ASt} {c:Nat} (h:dat c = true) (e:core s = core t):s.step c = t.step c:=by
  obtain ⟨q,l,p,o⟩:=s
  obtain ⟨q',l',p',o'⟩:=t
  cases e
  rw [step_dat h,step_dat h]
theorem run_core:∀ (cs:List Nat) (s t:ASt),core s = core t → core (s.run cs) = core (t.run (cs.filter dat))
  | [],_,_,e => e
  | c :: r,s,t,e => by
    cases hd:dat c with
    | true =>
      rw [List.filter_cons_of_pos hd]
      exact run_core r _ _ (congrArg core (step_core hd e))
    | false =>
      rw [List.filter_cons_of_neg (Bool.eq_false_iff.mp hd)]
      refine run_core r _ _ (Eq.trans ?_ e)
      by_cases h61:c = 61
      · rw [h61,step_pad]; rfl
      · rw [step_skip h61 hd]
theorem run_p:∀ (cs:List Nat) (s:ASt),(s.run cs).p + (cs.filter dat).length ≤ s.p + cs.length ∧ ((s.run cs).p + (cs.filter dat).length = s.p + cs.length → ∃ A B,cs = A ++ B ∧ (∀ c ∈ A,dat c = true) ∧ (∀ c ∈ B,c = 61) ∧ (A = [] ∨ s.p = 0))
  | [],s => ⟨Nat.le_refl _,fun ℓ => ⟨[],[],rfl,nofun,nofun,.inl rfl⟩⟩
  | c :: r,s => by
    have ih:=run_p r (s.step c)
    show ((s.step c).run r).p + _ ≤ _ ∧ (((s.step c).run r).p + _ = _ → _)
    cases hd:dat c with
    | true =>
      have hp:(s.step c).p = 0:=by
        rw [step_dat hd]
        split
        · rfl
        split
        · rfl
        split <;> rfl
      rw [hp,Nat.zero_add] at ih
      rw [List.filter_cons_of_pos hd,List.length_cons,List.length_cons,← Nat.add_assoc,← Nat.add_assoc]
      refine ⟨Nat.succ_le_succ (Nat.le_trans ih.1 (Nat.le_add_left _ _)),fun h => ?_⟩
      have h:=Nat.succ.inj h
      have h0:s.p = 0:=Nat.le_zero.mp (Nat.le_of_add_le_add_right (b:=r.length) (by rw [Nat.zero_add,← h]; exact ih.1))
      obtain ⟨A,B,e,hA,hB,_⟩:=ih.2 (by rw [h,h0,Nat.zero_add])
      refine ⟨c :: A,B,by rw [e]; rfl,fun x hx => ?_,hB,.inr h0⟩
      cases hx with
      | head => exact hd
      | tail _ hx => exact hA x hx
    | false =>
      rw [List.filter_cons_of_neg (Bool.eq_false_iff.mp hd),List.length_cons]
      by_cases h61:c = 61
      · subst h61
        rw [step_pad] at ih ⊢
        rw [show s.p + (r.length + 1) = s.p + 1 + r.length by rw [Nat.add_comm r.length,Nat.add_assoc]]
        refine ⟨ih.1,fun h => ?_⟩
        obtain ⟨A,B,e,hA,hB,h0⟩:=ih.2 h
        have h0:A = []:=h0.elim id fun h => absurd h (Nat.succ_ne_zero _)
        subst h0
        refine ⟨[],61 :: B,by rw [e]; rfl,nofun,fun x hx => ?_,.inl rfl⟩
        cases hx with
        | head => rfl
        | tail _ hx => exact hB x hx
      · rw [step_skip h61 hd] at ih ⊢
        have h:=Nat.lt_succ_of_le ih.1
        exact ⟨Nat.le_of_lt h,fun e => absurd e (Nat.ne_of_lt h)⟩
noncomputable def padN (L:Nat):Nat:=(4 * L + 2) / 3 + (4 - (4 * L + 2) / 3 % 4) % 4
theorem nums1:∀ n,n < 9 → ∀ p,p < 9 → (n % 4 ≠ 1 ∧ ¬(n % 4 ≠ 0 ∧ n % 4 + p < 4) ∧ p + n ≤ padN (n * 3 / 4)) → n = (4 * (n * 3 / 4) + 2) / 3 ∧ p + n = padN (n * 3 / 4):=by decide +kernel
theorem nums2:∀ L,L < 7 → (4 * L + 2) / 3 % 4 ≠ 1 ∧ ¬((4 * L + 2) / 3 % 4 ≠ 0 ∧ (4 * L + 2) / 3 % 4 + (4 - (4 * L + 2) / 3 % 4) % 4 < 4) ∧ padN L < 9:=by decide
theorem a2b_iff {cs:List Nat} {out:List Nat} {L:Nat} (hL:out.length = L) (h6:L < 7) (hN:cs.length = padN L) :
    a2bP cs = some out ↔ ∃ A B,cs = A ++ B ∧ A.length = (4 * L + 2) / 3 ∧ (∀ c ∈ A,dat c = true) ∧ (∀ c ∈ B,c = 61) ∧ outOf (A.map b64v) = out:=by
  have hn2:=nums2 L h6
  constructor
  · intro h
    replace h:(if (A0.run cs).q = 1 then none else if (A0.run cs).q ≠ 0 ∧ (A0.run cs).q + (A0.run cs).p < 4 then none else some (A0.run cs).out) = some out:=h
    have hp:=run_p cs A0
    obtain ⟨l,er⟩:=run_dat (cs.filter dat) [] fun c hc => (List.mem_filter.mp hc).2
    have hc:=run_core cs A0 A0 rfl
    rw [show A0.run (cs.filter dat) = _ from er] at hc
    have hq:(A0.run cs).q = (cs.filter dat).length % 4:=congrArg Prod.fst hc
    have ho:(A0.run cs).out = outOf ((cs.filter dat).map b64v):=congrArg (·.2.2) hc
    rw [hq,ho] at h
    by_cases h1:(cs.filter dat).length % 4 = 1
    · rw [if_pos h1] at h; cases h
    rw [if_neg h1] at h
    by_cases h2:(cs.filter dat).length % 4 ≠ 0 ∧ (cs.filter dat).length % 4 + (A0.run cs).p < 4
    · rw [if_pos h2] at h; cases h
    rw [if_neg h2] at h
    have h:=Option.some.inj h
    have hl:(cs.filter dat).length * 3 / 4 = L:=by rw [← hL,← h,out_len,List.length_map]
    rw [show A0.p = 0 from rfl,Nat.zero_add] at hp
    have hle:=hp.1
    have h8:=hn2.2.2
    rw [← hN] at h8
    have hk:=nums1 _ (Nat.lt_of_le_of_lt (Nat.le_trans (Nat.le_add_left _ _) hle) h8) _ (Nat.lt_of_le_of_lt (Nat.le_trans (Nat.le_add_right _ _) hle) h8) ⟨h1,h2,by rw [hl,← hN]; exact hle⟩
    rw [hl,← hN] at hk
    obtain ⟨A,B,e,hA,hB,_⟩:=hp.2 hk.2
    have hfa:cs.filter dat = A:=by
      rw [e,List.filter_append,List.filter_eq_self.mpr hA,List.filter_eq_nil_iff.mpr fun c hc => by rw [hB c hc]; decide,List.append_nil]
    rw [hfa] at h hk
    exact ⟨A,B,e,hk.1,hA,hB,h⟩
  · rintro ⟨A,B,e,hlA,hA,hB,ho⟩
    obtain ⟨l,er⟩:=run_dat A [] hA
    have hr:A0.run cs = ⟨A.length % 4,l,0 + B.length,[] ++ outOf (A.map b64v)⟩:=by
      rw [e,ASt.run_append,show A0.run A = _ from er,run_pads _ _ hB]
    have hBl:B.length = (4 - (4 * L + 2) / 3 % 4) % 4:=by
      rw [e,List.length_append,hlA] at hN
      exact Nat.add_left_cancel hN
    show (if (A0.run cs).q = 1 then none else if (A0.run cs).q ≠ 0 ∧ (A0.run cs).q + (A0.run cs).p < 4 then none else some (A0.run cs).out) = some out
    rw [hr,← ho,hlA,hBl,Nat.zero_add]
    exact (if_neg hn2.1).trans (if_neg hn2.2.1)
theorem a2b_skip (c:Nat) (hc:c ≠ 61) (hd:dat c = false) (a b:List Nat):a2bP (a ++ c :: b) = a2bP (a ++ b):=by
  have h:A0.run (a ++ c :: b) = A0.run (a ++ b):=by
    rw [ASt.run_append,ASt.run_append]
    exact congrArg (·.run b) (step_skip hc hd)
  unfold a2bP
  rw [show (⟨0,0,0,[]⟩:ASt).run (a ++ c :: b) = _ from h]
  rfl
end
noncomputable section
set_option maxHeartbeats 4000000
noncomputable def letters:List Nat:=[65,66,67,68,69,70,71,72,73,74,75,76,77,78,79,80,81,82,83,84,85,86,87,88,89,90,97,98,99,100,101,102,103,104,105,106,107,108,109,110,111,112,113,114,115,116,117,118,119,120,121,122,48,49,50,51,52,53,54,55,56,57]
noncomputable def alph (m1 m2:Nat):List Nat:=letters ++ [m1,m2]
theorem alph_lo {m1 m2 v:Nat} (h:v < 62):(alph m1 m2).getD v 0 = letters.getD v 0:=by
  unfold alph
  rw [List.getD_eq_getElem?_getD,List.getD_eq_getElem?_getD,List.getElem?_append_left h]
theorem figs_lt {row:List Nat}:∀ f ∈ figsL row,f < 64:=by
  intro f hf
  obtain ⟨k,_,rfl⟩:=List.mem_map.mp hf
  exact Nat.mod_lt _ (by decide)
theorem figs_len (row:List Nat):(figsL row).length = cntN row:=by unfold figsL; rw [List.length_map,List.length_range]
theorem figs_last {row:List Nat} (h1:1 ≤ cntN row):(figsL row).getLastD 0 = bigN row * 2 ^ (6 * cntN row - 8 * row.length) % 64:=by
  rw [List.getLastD_eq_getLast?,List.getLast?_eq_getElem?,figs_len]
  unfold figsL
  rw [List.getElem?_map,List.getElem?_range (Nat.sub_lt h1 (by decide)),Option.map_some,Option.getD_some,Nat.sub_self,Nat.pow_zero,Nat.div_one]
theorem row_nums:∀ n,n < 7 → 1 ≤ n → 1 ≤ (4 * n + 2) / 3 ∧ (4 * n + 2) / 3 % 4 ≠ 1 ∧ ((4 * n + 2) / 3 % 4 = 2 → 6 * ((4 * n + 2) / 3) - 8 * n = 4) ∧ ((4 * n + 2) / 3 % 4 = 3 → 6 * ((4 * n + 2) / 3) - 8 * n = 2):=by decide
theorem mod_pow (b:Nat):b * 16 % 64 % 16 = 0 ∧ b * 4 % 64 % 4 = 0 :=
  ⟨(congrArg (· % 16) (Nat.mul_mod_mul_right 16 b 4)).trans (Nat.mul_mod_left _ _),(congrArg (· % 4) (Nat.mul_mod_mul_right 4 b 16)).trans (Nat.mul_mod_left _ _)⟩
theorem figs_mod {row:List Nat} (h1:1 ≤ row.length) (h2:row.length ≤ 6):(figsL row).length % 4 ≠ 1 ∧ ((figsL row).length % 4 = 2 → (figsL row).getLastD 0 % 16 = 0) ∧ ((figsL row).length % 4 = 3 → (figsL row).getLastD 0 % 4 = 0):=by
  obtain ⟨h3,h4,h5,h6⟩:=row_nums _ (Nat.lt_succ_of_le h2) h1
  rw [figs_last h3,figs_len]
  exact ⟨h4,fun e => by rw [show 6 * cntN row - 8 * row.length = 4 from h5 e]; exact (mod_pow _).1,fun e => by rw [show 6 * cntN row - 8 * row.length = 2 from h6 e]; exact (mod_pow _).2⟩
inductive WayOf (m1 m2:Nat):List Nat → Prop
  | one (c:Nat):c ∈ letters ++ [61] → WayOf m1 m2 [c]
  | two:WayOf m1 m2 [m1,43]
  | three:WayOf m1 m2 [m2,47]
  | lo16 (i:Nat):i < 3 → WayOf m1 m2 (signsOf (alph 42 63) ((List.range 16).map (16 * i + ·)))
  | hi16:WayOf m1 m2 (signsOf (alph m1 m2) ((List.range 16).map (48 + ·)))
  | lo4 (i:Nat):i < 15 → WayOf m1 m2 (signsOf (alph 42 63) ((List.range 4).map (4 * i + ·)))
  | hi4:WayOf m1 m2 (signsOf (alph m1 m2) ((List.range 4).map (60 + ·)))
theorem signs_lo {m1 m2:Nat} {vs:List Nat} (h:∀ v ∈ vs,v < 62):signsOf (alph m1 m2) vs = signsOf (alph 42 63) vs:=by
  unfold signsOf
  rw [List.map_congr_left fun v hv => (alph_lo (m1:=m1) (m2:=m2) (h v hv)).trans (alph_lo (h v hv)).symm]
theorem v62:∀ v,v < 64 → ¬ v < 62 → v = 62 ∨ v = 63:=by decide
theorem way_single {m1 m2 v:Nat} (h:v < 64):WayOf m1 m2 (signsOf (alph m1 m2) [v]):=by
  by_cases h62:v < 62
  · have e:signsOf (alph m1 m2) [v] = [letters.getD v 0]:=by
      unfold signsOf
      rw [List.map_singleton,alph_lo h62,List.filter_cons_of_neg (p:=fun x => decide (61 < x)) fun h => absurd (of_decide_eq_true h) (Nat.not_lt.mpr (Nat.le_of_lt_succ h62))]
      rfl
    rw [e]
    refine .one _ (List.mem_append.mpr (.inl ?_))
    rw [List.getD_eq_getElem?_getD,List.getElem?_eq_getElem (show v < letters.length from h62)]
    exact List.getElem_mem _
  · rcases v62 v h h62 with rfl | rfl
    · exact .two
    · exact .three
theorem x16:∀ x,x < 64 → x % 16 = 0 → x = 48 ∨ ∃ i,i < 3 ∧ x = 16 * i:=by decide
theorem x4:∀ x,x < 64 → x % 4 = 0 → x = 60 ∨ ∃ i,i < 15 ∧ x = 4 * i:=by decide +kernel
theorem last_mem {l:List Nat} (h:l ≠ []):l.getLastD 0 ∈ l:=by
  rw [List.getLastD_eq_getLast?,List.getLast?_eq_some_getLast h]
  exact List.getLast_mem h
theorem way_vals {m1 m2:Nat} {figs:List Nat} (h4:∀ f ∈ figs,f < 64) (h5:figs.length % 4 ≠ 1) (h6:figs.length % 4 = 2 → figs.getLastD 0 % 16 = 0) (h7:figs.length % 4 = 3 → figs.getLastD 0 % 4 = 0):∀ w ∈ waysL (alph m1 m2) figs,WayOf m1 m2 w:=by
  intro w hw
  have one:∀ {vs},vs ∈ figs.map (fun f => [f]) → WayOf m1 m2 (signsOf (alph m1 m2) vs):=fun h => by
    obtain ⟨f,hf,rfl⟩:=List.mem_map.mp h
    exact way_single (h4 f hf)
  rcases List.mem_append.mp hw with hw | hw
  · obtain ⟨vs,hvs,rfl⟩:=List.mem_map.mp hw
    unfold valsL at hvs
    by_cases h0:figs.length % 4 = 0
    · rw [if_pos h0] at hvs; exact one hvs
    rw [if_neg h0] at hvs
    rcases List.mem_or_eq_of_mem_set hvs with hvs | rfl
    · exact one hvs
    have hl:figs.getLastD 0 < 64:=h4 _ (last_mem fun e => h0 (by rw [e]; rfl))
    generalize figs.getLastD 0 = x at *
    by_cases h2:figs.length % 4 = 2
    · rw [if_pos h2]
      rcases x16 x hl (h6 h2) with rfl | ⟨i,hi,rfl⟩
      · exact .hi16
      · rw [signs_lo fun v hv => by
          obtain ⟨k,hk,rfl⟩:=List.mem_map.mp hv
          exact Nat.lt_of_le_of_lt (Nat.add_le_add (Nat.mul_le_mul_left 16 (Nat.le_of_lt_succ hi)) (Nat.le_of_lt_succ (List.mem_range.mp hk))) (by decide)]
        exact .lo16 i hi
    · rw [if_neg h2]
      rcases x4 x hl (h7 (n4 _ (Nat.mod_lt _ (by decide)) h5 h0 h2)) with rfl | ⟨i,hi,rfl⟩
      · exact .hi4
      · rw [signs_lo fun v hv => by
          obtain ⟨k,hk,rfl⟩:=List.mem_map.mp hv
          exact Nat.lt_of_le_of_lt (Nat.add_le_add (Nat.mul_le_mul_left 4 (Nat.le_of_lt_succ hi)) (Nat.le_of_lt_succ (List.mem_range.mp hk))) (by decide)]
        exact .lo4 i hi
  · rw [(List.mem_replicate.mp hw).2]
    exact .one 61 (List.mem_append_right _ (.head _))
end
noncomputable section
set_option maxHeartbeats 4000000
noncomputable def outP (w:List Nat) (how:Nat):List Nat:=((trAt missF (dressed w how) 0).getD ([],0)).1
noncomputable def setP (w:List Nat) (how:Nat):List Nat:=(atomW (outP w how)).getD []
noncomputable def ltAll (l:List Nat):Bool:=l.all fun c => Nat.blt c 128
noncomputable def pieceD (w d:List Nat):Bool:=((trAt missF d 0).bind fun r => (atomW r.1).map fun s => Nat.beq r.2 d.length && (Nat.ble 1 d.length && (Nat.ble d.length 60 && (Nat.ble r.1.length 100 && (Nat.ble s.length 100 && (ltAll d && (ltAll r.1 && (s.all (fun c => w.any (Nat.beq c)) && w.all (fun c => s.any (Nat.beq c)))))))))).getD false
noncomputable def pieceOk (w:List Nat) (how:Nat):Bool:=pieceD w (dressed w how)
structure PieceS (w:List Nat) (how:Nat):Prop where
  tr:trAt missF (dressed w how) 0 = some (outP w how,(dressed w how).length)
  at_:atomW (outP w how) = some (setP w how)
  ne:1 ≤ (dressed w how).length
  dl:(dressed w how).length ≤ 60
  ol:(outP w how).length ≤ 100
  sl:(setP w how).length ≤ 100
  da:∀ c ∈ dressed w how,c < 128
  oa:∀ c ∈ outP w how,c < 128
  same:∀ c,c ∈ setP w how ↔ c ∈ w
theorem ltAll_ok {l:List Nat} (h:ltAll l = true):∀ c ∈ l,c < 128:=fun c hc => Nat.le_of_ble_eq_true (List.all_eq_true.mp h c hc)
theorem and_l {a b:Bool} (h:(a && b) = true):a = true:=((Bool.and_eq_true a b).mp h).1
theorem and_r {a b:Bool} (h:(a && b) = true):b = true:=((Bool.and_eq_true a b).mp h).2
theorem getD_true {o:Option Bool} (h:o.getD false = true):o = some true:=by
  cases o with
  | none => cases h
  | some b => exact congrArg some h
theorem sub_all {s w:List Nat} (h:s.all (fun c => w.any (Nat.beq c)) = true) {c:Nat} (hc:c ∈ s):c ∈ w :=
  let ⟨_,hx,e⟩:=List.any_eq_true.mp (List.all_eq_true.mp h c hc)
  Nat.eq_of_beq_eq_true e ▸ hx
theorem piece_of {w:List Nat} {how:Nat} (h:pieceOk w how = true):PieceS w how:=by
  obtain ⟨⟨o,k⟩,h1,h⟩:=Option.bind_eq_some_iff.mp (getD_true h)
  obtain ⟨s,h2,h⟩:=Option.map_eq_some_iff.mp h
  have eo:outP w how = o:=by unfold outP; rw [h1]; rfl
  have es:setP w how = s:=by unfold setP; rw [eo,h2]; rfl
  have hk:=Nat.eq_of_beq_eq_true (and_l h)
  replace h:=and_r h
  have g2:=and_r h
  have g3:=and_r g2
  have g4:=and_r g3
  have g5:=and_r g4
  have g6:=and_r g5
  have g7:=and_r g6
  constructor
  · rw [eo,h1,← hk]
  · rw [es,eo,h2]
  · exact Nat.le_of_ble_eq_true (and_l h)
  · exact Nat.le_of_ble_eq_true (and_l g2)
  · rw [eo]; exact Nat.le_of_ble_eq_true (and_l g3)
  · rw [es]; exact Nat.le_of_ble_eq_true (and_l g4)
  · exact ltAll_ok (and_l g5)
  · rw [eo]; exact ltAll_ok (and_l g6)
  · rw [es]; exact fun c => ⟨sub_all (and_l g7),sub_all (and_r g7)⟩
noncomputable def hows:List Nat:=[0,1,2,3,4,5,6,7]
theorem hows_mem:∀ {h:Nat},h < 8 → h ∈ hows:=by unfold hows; decide
noncomputable def frontOf (w:List Nat):List Nat:=w.filter (fun c => decide (c ∈ [94,91]))
noncomputable def drs (signs front r:List Nat) (how:Nat):List Nat :=
  let inner:=front ++ r
  let hyphen:=if 45 ∈ signs then [45] else []
  let inner':=if how % 2 = 1 then [57,45,48] ++ hyphen ++ inner else inner
  let hyphen':=if how % 2 = 1 then [] else hyphen
  let inner'':=if 93 ∈ signs then [93] ++ inner' else inner'
  [91] ++ inner'' ++ (if 33 ∈ signs then [33] else []) ++ hyphen' ++ [93]
noncomputable def runsF (w f:List Nat):List Nat:=runsP (w.filter fun c => !decide (c ∈ [93,45,33] ++ f))
theorem dressed_drs {w:List Nat} (h1:w.length ≠ 1) (h:Nat):dressed w h = if h % 4 = 2 then drs w (frontOf w) (runsF w (frontOf w)) h else drs w [] (runsF w []) h:=by
  unfold dressed
  rw [if_neg (fun e => h1 e.1),if_neg (fun e => h1 e.1)]
  by_cases h2:h % 4 = 2
  · rw [if_pos h2,if_pos h2]; rfl
  · rw [if_neg h2,if_neg h2]; rfl
theorem drs_mod (w f r:List Nat) (h:Nat):drs w f r h = drs w f r (h % 4):=by
  unfold drs
  rw [Nat.mod_mod_of_dvd h (by decide:2 ∣ 4)]
noncomputable def pcR (w r:List Nat):Bool:=pieceD w (drs w [] r 0) && (pieceD w (drs w [] r 1) && pieceD w (drs w [] r 3))
noncomputable def pcS (w f:List Nat):Bool:=f.isEmpty || pieceD w (drs w f (runsF w f) 2)
noncomputable def pcQ (w:List Nat):Bool:=pcR w (runsF w []) && pcS w (frontOf w)
theorem c4:∀ n,n < 4 → n = 0 ∨ n = 1 ∨ n = 2 ∨ n = 3:=by decide
theorem pcQ_ok {w:List Nat} (h1:w.length ≠ 1) (h:pcQ w = true) (how:Nat):pieceOk w how = true:=by
  have a:=and_l h
  unfold pieceOk
  rw [dressed_drs h1,drs_mod w (frontOf w),drs_mod w []]
  rcases c4 (how % 4) (Nat.mod_lt _ (by decide)) with e | e | e | e <;> rw [e]
  · exact and_l a
  · exact and_l (and_r a)
  · have b:=and_r h
    unfold pcS at b
    cases hf:frontOf w with
    | nil => exact and_l a
    | cons x r => rw [hf,List.isEmpty_cons,Bool.false_or] at b; exact b
  · exact and_r (and_r a)
noncomputable def w16 (a b:Nat):List Nat:=signsOf (alph a b) ((List.range 16).map (48 + ·))
noncomputable def w4 (a b:Nat):List Nat:=signsOf (alph a b) ((List.range 4).map (60 + ·))
noncomputable def u16 (a b:Nat):List Nat:=[119,120,121,122,48,49,50,51,52,53,54,55,56,57,a,b,43,47]
noncomputable def u4 (a b:Nat):List Nat:=[56,57,a,b,43,47]
theorem w16_eq (a b:Nat):w16 a b = u16 a b:=by kernel_rfl
theorem w4_eq (a b:Nat):w4 a b = u4 a b:=by kernel_rfl
theorem w16_len (a b:Nat):(w16 a b).length = 18:=congrArg _ (w16_eq a b)
theorem w4_len (a b:Nat):(w4 a b).length = 6:=congrArg _ (w4_eq a b)
theorem flat_le {b:Nat}:∀ (l:List (List Nat)),(∀ x ∈ l,x.length ≤ b) → l.flatten.length ≤ b * l.length
  | [],_ => Nat.zero_le _
  | x :: r,h => by
    rw [List.flatten_cons,List.length_append,List.length_cons,Nat.mul_succ,Nat.add_comm]
    exact Nat.add_le_add (flat_le r fun y hy => h y (.tail _ hy)) (h x (.head _))
theorem pieces_tr (wh:List (List Nat × Nat)) (h:∀ p ∈ wh,PieceS p.1 p.2) (h20:wh.length < 20):trLoop missF (wh.map fun p => dressed p.1 p.2).flatten 20 [] 0 = some (wh.map fun p => outP p.1 p.2) :=
  walkL_all (st:=trAt missF) (f:=fun (p:List Nat × Nat) => dressed p.1 p.2) (g:=fun (p:List Nat × Nat) => outP p.1 p.2) wh [] _ [] 20 (fun p hp => ⟨(h p hp).ne,fun a b => trAt_in (h p hp).tr⟩) h20 rfl
theorem pieces_rd (wh:List (List Nat × Nat)) (h:∀ p ∈ wh,PieceS p.1 p.2) (h20:wh.length < 20):readLoop (wh.map fun p => outP p.1 p.2).flatten 20 [] 0 = some (wh.map fun p => setP p.1 p.2) :=
  walkL_all (st:=rdAtom) (f:=fun (p:List Nat × Nat) => outP p.1 p.2) (g:=fun (p:List Nat × Nat) => setP p.1 p.2) wh [] _ [] 20 (fun p hp => ⟨(atom_in (p:=[]) (q:=[]) (h p hp).at_).1,fun a b => (atom_in (h p hp).at_).2⟩) h20 rfl
end
noncomputable section
set_option maxHeartbeats 4000000
theorem pc_one:((letters ++ [61]).all fun c => hows.all fun h => pieceOk [c] h) = true:=by decide +kernel
theorem pc_two:(marks14.all fun m => hows.all fun h => pieceOk [m,43] h && pieceOk [m,47] h) = true:=by decide +kernel
theorem pc_lo16:((List.range 3).all fun i => hows.all fun h => pieceOk (signsOf (alph 42 63) ((List.range 16).map (16 * i + ·))) h) = true:=by decide +kernel
theorem pc_lo4:((List.range 15).all fun i => hows.all fun h => pieceOk (signsOf (alph 42 63) ((List.range 4).map (4 * i + ·))) h) = true:=by decide +kernel
theorem pc_hi_42:(marks14.all fun b => Nat.beq 42 b || (pcQ (u16 42 b) && pcQ (u4 42 b))) = true:=by decide +kernel
theorem pc_hi_63:(marks14.all fun b => Nat.beq 63 b || (pcQ (u16 63 b) && pcQ (u4 63 b))) = true:=by decide +kernel
theorem pc_hi_91:(marks14.all fun b => Nat.beq 91 b || (pcQ (u16 91 b) && pcQ (u4 91 b))) = true:=by decide +kernel
theorem pc_hi_93:(marks14.all fun b => Nat.beq 93 b || (pcQ (u16 93 b) && pcQ (u4 93 b))) = true:=by decide +kernel
theorem pc_hi_45:(marks14.all fun b => Nat.beq 45 b || (pcQ (u16 45 b) && pcQ (u4 45 b))) = true:=by decide +kernel
theorem pc_hi_33:(marks14.all fun b => Nat.beq 33 b || (pcQ (u16 33 b) && pcQ (u4 33 b))) = true:=by decide +kernel
theorem pc_hi_94:(marks14.all fun b => Nat.beq 94 b || (pcQ (u16 94 b) && pcQ (u4 94 b))) = true:=by decide +kernel
theorem pc_hi_92:(marks14.all fun b => Nat.beq 92 b || (pcQ (u16 92 b) && pcQ (u4 92 b))) = true:=by decide +kernel
theorem pc_hi_38:(marks14.all fun b => Nat.beq 38 b || (pcQ (u16 38 b) && pcQ (u4 38 b))) = true:=by decide +kernel
theorem pc_hi_126:(marks14.all fun b => Nat.beq 126 b || (pcQ (u16 126 b) && pcQ (u4 126 b))) = true:=by decide +kernel
theorem pc_hi_124:(marks14.all fun b => Nat.beq 124 b || (pcQ (u16 124 b) && pcQ (u4 124 b))) = true:=by decide +kernel
theorem pc_hi_46:(marks14.all fun b => Nat.beq 46 b || (pcQ (u16 46 b) && pcQ (u4 46 b))) = true:=by decide +kernel
theorem pc_hi_95:(marks14.all fun b => Nat.beq 95 b || (pcQ (u16 95 b) && pcQ (u4 95 b))) = true:=by decide +kernel
theorem pc_hi_35:(marks14.all fun b => Nat.beq 35 b || (pcQ (u16 35 b) && pcQ (u4 35 b))) = true:=by decide +kernel
theorem pc_hi {a b:Nat} (ha:a ∈ marks14) (hb:b ∈ marks14) (hab:a ≠ b) (h:Nat):pieceOk (w16 a b) h = true ∧ pieceOk (w4 a b) h = true:=by
  have key:(marks14.all fun b => Nat.beq a b || (pcQ (u16 a b) && pcQ (u4 a b))) = true:=by
    simp only [marks14,List.mem_cons,List.not_mem_nil,or_false] at ha
    rcases ha with rfl | rfl | rfl | rfl | rfl | rfl | rfl | rfl | rfl | rfl | rfl | rfl | rfl | rfl
    · exact pc_hi_42
    · exact pc_hi_63
    · exact pc_hi_91
    · exact pc_hi_93
    · exact pc_hi_45
    · exact pc_hi_33
    · exact pc_hi_94
    · exact pc_hi_92
    · exact pc_hi_38
    · exact pc_hi_126
    · exact pc_hi_124
    · exact pc_hi_46
    · exact pc_hi_95
    · exact pc_hi_35
  have h1:=List.all_eq_true.mp key b hb
  rw [Bool.or_eq_true,Bool.and_eq_true] at h1
  rcases h1 with h1 | h1
  · exact absurd (Nat.eq_of_beq_eq_true h1) hab
  · rw [w16_eq,w4_eq]
    exact ⟨pcQ_ok (by rw [← w16_eq,w16_len]; decide) h1.1 h,pcQ_ok (by rw [← w4_eq,w4_len]; decide) h1.2 h⟩
theorem piece_all {m1 m2:Nat} (h1:m1 ∈ marks14) (h2:m2 ∈ marks14) (hne:m1 ≠ m2) {w:List Nat} (hw:WayOf m1 m2 w) {how:Nat} (hh:how < 8):PieceS w how:=by
  refine piece_of ?_
  cases hw with
  | one c hc => exact List.all_eq_true.mp (List.all_eq_true.mp pc_one c hc) how (hows_mem hh)
  | two => exact and_l (List.all_eq_true.mp (List.all_eq_true.mp pc_two m1 h1) how (hows_mem hh))
  | three => exact and_r (List.all_eq_true.mp (List.all_eq_true.mp pc_two m2 h2) how (hows_mem hh))
  | lo16 i hi => exact List.all_eq_true.mp (List.all_eq_true.mp pc_lo16 i (List.mem_range.mpr hi)) how (hows_mem hh)
  | lo4 i hi => exact List.all_eq_true.mp (List.all_eq_true.mp pc_lo4 i (List.mem_range.mpr hi)) how (hows_mem hh)
  | hi16 => exact (pc_hi h1 h2 hne how).1
  | hi4 => exact (pc_hi h1 h2 hne how).2
end
noncomputable section
set_option maxHeartbeats 4000000
noncomputable def trC (m1 m2 c:Nat):Nat:=if c = m1 then 43 else if c = m2 then 47 else c
noncomputable def valC (m1 m2 c:Nat):Nat:=b64v (trC m1 m2 c)
theorem b64_hi {c:Nat} (h:128 ≤ c):b64v c = 64:=by
  have k:∀ {x},x < 128 → ¬ c ≤ x:=fun hx hc => absurd (Nat.le_trans h hc) (Nat.not_le.mpr hx)
  have e:∀ {x},x < 128 → c ≠ x:=fun hx hc => absurd (hc ▸ h) (Nat.not_le.mpr hx)
  unfold b64v
  rw [if_neg fun h => k (by decide) h.2,if_neg fun h => k (by decide) h.2,if_neg fun h => k (by decide) h.2,if_neg (e (by decide)),if_neg (e (by decide))]
theorem b64_big {c:Nat} (h:b64v c < 64):c < 128:=Nat.lt_of_not_le fun hc => by rw [b64_hi hc] at h; exact absurd h (by decide)
theorem b64_inv:∀ c,c < 128 → ∀ v,v < 64 → b64v c = v → c = (alph 43 47).getD v 0:=by decide +kernel
theorem letters_b64:∀ v,v < 62 → b64v (letters.getD v 0) = v:=by decide +kernel
theorem letters_lt:∀ v,v < 62 → letters.getD v 0 < 128 ∧ letters.getD v 0 ∉ marks14 ∧ letters.getD v 0 ≠ 43 ∧ letters.getD v 0 ≠ 47:=by decide +kernel
theorem marks_facts:∀ m ∈ marks14,m < 128 ∧ m ≠ 43 ∧ m ≠ 47 ∧ m ≠ 61 ∧ m ≠ 10 ∧ (b64v m = 64):=by decide +kernel
noncomputable def isSign (m1 m2 v c:Nat):Prop:=c = (alph m1 m2).getD v 0 ∨ (61 < v ∧ c = if v = 62 then 43 else 47)
theorem mem_signs {m1 m2 c:Nat} {vs:List Nat}:c ∈ signsOf (alph m1 m2) vs ↔ ∃ v ∈ vs,isSign m1 m2 v c:=by
  unfold signsOf isSign
  rw [List.mem_append,List.mem_map,List.mem_map]
  constructor
  · rintro (⟨v,hv,e⟩ | ⟨v,hv,e⟩)
    · exact ⟨v,hv,.inl e.symm⟩
    · obtain ⟨h1,h2⟩:=List.mem_filter.mp hv
      exact ⟨v,h1,.inr ⟨of_decide_eq_true h2,e.symm⟩⟩
  · rintro ⟨v,hv,e | ⟨h1,e⟩⟩
    · exact .inl ⟨v,hv,e.symm⟩
    · exact .inr ⟨v,List.mem_filter.mpr ⟨hv,decide_eq_true h1⟩,e.symm⟩
theorem valC_1 (m1 m2:Nat):valC m1 m2 m1 = 62:=by unfold valC trC; rw [if_pos rfl]; rfl
theorem valC_2 {m1 m2:Nat} (h:m1 ≠ m2):valC m1 m2 m2 = 63:=by unfold valC trC; rw [if_neg h.symm,if_pos rfl]; rfl
theorem valC_3 {m1 m2 c:Nat} (h1:c ≠ m1) (h2:c ≠ m2):valC m1 m2 c = b64v c:=by unfold valC trC; rw [if_neg h1,if_neg h2]
theorem sign_62 {m1 m2 c:Nat}:isSign m1 m2 62 c ↔ c = m1 ∨ c = 43:=⟨fun h => h.imp id (·.2),fun h => h.imp id fun e => ⟨by decide,e⟩⟩
theorem sign_63 {m1 m2 c:Nat}:isSign m1 m2 63 c ↔ c = m2 ∨ c = 47:=⟨fun h => h.imp id (·.2),fun h => h.imp id fun e => ⟨by decide,e⟩⟩
theorem sign_lo {m1 m2 v c:Nat} (h:v < 62):isSign m1 m2 v c ↔ c = letters.getD v 0:=by
  unfold isSign
  rw [alph_lo h]
  exact ⟨fun h' => h'.elim id fun e => absurd e.1 (Nat.not_lt.mpr (Nat.le_of_lt_succ h)),.inl⟩
theorem sign_iff {m1 m2 v c:Nat} (h1:m1 ∈ marks14) (h2:m2 ∈ marks14) (hne:m1 ≠ m2) (hv:v < 64):isSign m1 m2 v c ↔ valC m1 m2 c = v:=by
  have a1:=marks_facts m1 h1
  have a2:=marks_facts m2 h2
  have fwd:isSign m1 m2 v c → valC m1 m2 c = v:=by
    by_cases hv2:v < 62
    · rw [sign_lo hv2]
      rintro rfl
      have hn:=(letters_lt v hv2).2.1
      rw [valC_3 (fun e => hn (by rw [e]; exact h1)) (fun e => hn (by rw [e]; exact h2))]
      exact letters_b64 v hv2
    · rcases v62 v hv hv2 with rfl | rfl
      · rw [sign_62]
        rintro (rfl | rfl)
        · exact valC_1 _ _
        · exact valC_3 (Ne.symm a1.2.1) (Ne.symm a2.2.1)
      · rw [sign_63]
        rintro (rfl | rfl)
        · exact valC_2 hne
        · exact valC_3 (Ne.symm a1.2.2.1) (Ne.symm a2.2.2.1)
  refine ⟨fwd,?_⟩
  intro h
  by_cases e1:c = m1
  · rw [e1,valC_1] at h
    rw [← h,sign_62]
    exact .inl e1
  by_cases e2:c = m2
  · rw [e2,valC_2 hne] at h
    rw [← h,sign_63]
    exact .inl e2
  rw [valC_3 e1 e2] at h
  have hc:=b64_inv c (b64_big (by rw [h]; exact hv)) v hv h
  by_cases hv2:v < 62
  · rw [sign_lo hv2,hc,alph_lo hv2]
  · rcases v62 v hv hv2 with rfl | rfl
    · exact sign_62.mpr (.inr hc)
    · exact sign_63.mpr (.inr hc)
theorem mem_signs_iff {m1 m2 c:Nat} {vs:List Nat} (h1:m1 ∈ marks14) (h2:m2 ∈ marks14) (hne:m1 ≠ m2) (hv:∀ v ∈ vs,v < 64):c ∈ signsOf (alph m1 m2) vs ↔ valC m1 m2 c ∈ vs:=by
  rw [mem_signs]
  constructor
  · rintro ⟨v,h,e⟩
    rw [(sign_iff h1 h2 hne (hv v h)).mp e]; exact h
  · exact fun h => ⟨_,h,(sign_iff h1 h2 hne (hv _ h)).mpr rfl⟩
theorem trC_61 {m1 m2 c:Nat} (h1:m1 ∈ marks14) (h2:m2 ∈ marks14):trC m1 m2 c = 61 ↔ c = 61:=by
  unfold trC
  by_cases e1:c = m1
  · rw [if_pos e1,e1]
    exact ⟨fun h => absurd h (by decide),fun h => absurd h (marks_facts m1 h1).2.2.2.1⟩
  rw [if_neg e1]
  by_cases e2:c = m2
  · rw [if_pos e2,e2]
    exact ⟨fun h => absurd h (by decide),fun h => absurd h (marks_facts m2 h2).2.2.2.1⟩
  rw [if_neg e2]
noncomputable def allIn:List Nat → List (List Nat) → Prop
  | [],[] => True
  | v :: vs,w :: ws => v ∈ w ∧ allIn vs ws
  | _,_ => False
theorem allIn_len:∀ {a:List Nat} {b:List (List Nat)},allIn a b → a.length = b.length
  | [],[],_ => rfl
  | _ :: _,_ :: _,h => congrArg (· + 1) (allIn_len h.2)
  | [],_ :: _,h => h.elim
  | _ :: _,[],h => h.elim
theorem allIn_append:∀ {a:List Nat} {c:List (List Nat)} {b:List Nat} {d:List (List Nat)},a.length = c.length → (allIn (a ++ b) (c ++ d) ↔ allIn a c ∧ allIn b d)
  | [],[],_,_,_ => ⟨fun h => ⟨trivial,h⟩,And.right⟩
  | x :: a,w :: c,b,d,h => (and_congr_right fun ℓ => allIn_append (a:=a) (c:=c) (Nat.succ.inj h)).trans and_assoc.symm
  | [],_ :: _,_,_,h => nomatch h
  | _ :: _,[],_,_,h => nomatch h
theorem allIn_pads:∀ (b:List Nat) (p:Nat),b.length = p → (allIn b (List.replicate p [61]) ↔ ∀ c ∈ b,c = 61)
  | [],0,_ => ⟨fun ℓ => nofun,fun ℓ => trivial⟩
  | x :: b,p + 1,h => (and_congr List.mem_singleton (allIn_pads b p (Nat.succ.inj h))).trans (List.forall_mem_cons (p:=fun c => c = 61)).symm
  | [],_ + 1,h => nomatch h
  | _ :: _,0,h => nomatch h
theorem allIn_signs {m1 m2:Nat} (h1:m1 ∈ marks14) (h2:m2 ∈ marks14) (hne:m1 ≠ m2):∀ (a:List Nat) (vs:List (List Nat)),(∀ w ∈ vs,∀ v ∈ w,v < 64) → (allIn a (vs.map (signsOf (alph m1 m2))) ↔ allIn (a.map (valC m1 m2)) vs)
  | [],[],_ => Iff.rfl
  | x :: a,w :: vs,h => and_congr (mem_signs_iff h1 h2 hne (h w (.head _))) (allIn_signs h1 h2 hne a vs fun w hw => h w (.tail _ hw))
  | [],_ :: _,_ => Iff.rfl
  | _ :: _,[],_ => Iff.rfl
theorem mem_rng {x n v:Nat}:v ∈ (List.range n).map (x + ·) ↔ x ≤ v ∧ v < x + n:=by
  rw [List.mem_map]
  constructor
  · rintro ⟨k,hk,rfl⟩
    exact ⟨Nat.le_add_right _ _,Nat.add_lt_add_left (List.mem_range.mp hk) _⟩
  · exact fun h => ⟨v - x,List.mem_range.mpr (Nat.sub_lt_left_of_lt_add h.1 h.2),Nat.add_sub_of_le h.1⟩
theorem singles_all:∀ (figs vals:List Nat),allIn vals (figs.map fun f => [f]) ↔ vals = figs
  | [],[] => ⟨fun ℓ => rfl,fun ℓ => trivial⟩
  | f :: figs,v :: vals => (and_congr List.mem_singleton (singles_all figs vals)).trans List.cons_eq_cons.symm
  | [],_ :: _ => ⟨fun h => h.elim,nofun⟩
  | _ :: _,[] => ⟨fun h => h.elim,nofun⟩
end
noncomputable section
set_option maxHeartbeats 4000000
theorem snoc_ind {α:Type} {P:List α → Prop} (h0:P []) (h1:∀ l x,P l → P (l ++ [x])) (l:List α):P l:=by
  rw [← List.reverse_reverse l]
  induction l.reverse with
  | nil => exact h0
  | cons x r ih => rw [List.reverse_cons]; exact h1 _ _ ih
noncomputable def valF (fs:List Nat):Nat:=fs.foldl (fun w f => w * 64 + f) 0
noncomputable def digN (n X:Nat):List Nat:=(List.range n).map fun k => X / 64 ^ (n - 1 - k) % 64
theorem valF_snoc (l:List Nat) (f:Nat):valF (l ++ [f]) = valF l * 64 + f:=by unfold valF; rw [List.foldl_append]; rfl
theorem dig_succ (n X:Nat):digN (n + 1) X = digN n (X / 64) ++ [X % 64]:=by
  unfold digN
  rw [List.range_succ,List.map_append,List.map_singleton,Nat.add_sub_cancel,Nat.sub_self,Nat.pow_zero,Nat.div_one]
  refine congrArg (· ++ [X % 64]) (List.map_congr_left fun k hk => ?_)
  have hk:=List.mem_range.mp hk
  rw [Nat.div_div_eq_div_mul,← Nat.pow_add_one',Nat.sub_right_comm,Nat.sub_add_cancel (Nat.sub_pos_of_lt hk)]
theorem dig_val:∀ fs:List Nat,(∀ f ∈ fs,f < 64) → digN fs.length (valF fs) = fs:=by
  refine snoc_ind (fun ℓ => rfl) fun l x ih h => ?_
  have hx:=h x (List.mem_append_right _ (.head _))
  rw [List.length_append,List.length_singleton,dig_succ,valF_snoc,Nat.mul_comm,Nat.mul_add_div (by decide),Nat.div_eq_of_lt hx,Nat.add_zero,Nat.mul_add_mod,Nat.mod_eq_of_lt hx,ih fun f hf => h f (List.mem_append_left _ hf)]
theorem val_dig:∀ (n X:Nat),X < 64 ^ n → valF (digN n X) = X
  | 0,X,h => (Nat.lt_one_iff.mp h).symm
  | n + 1,X,h => by
    rw [dig_succ,valF_snoc,val_dig n (X / 64) (Nat.div_lt_of_lt_mul (by rw [← Nat.pow_add_one']; exact h)),Nat.mul_comm,Nat.div_add_mod]
theorem valF_app (l m:List Nat):valF (l ++ m) = valF l * 64 ^ m.length + valF m:=by
  refine snoc_ind (P:=fun m => valF (l ++ m) = valF l * 64 ^ m.length + valF m) ?_ (fun m x ih => ?_) m
  · rw [List.append_nil,List.length_nil,Nat.pow_zero,Nat.mul_one]; rfl
  · rw [← List.append_assoc,valF_snoc,ih,valF_snoc,List.length_append,List.length_singleton,Nat.pow_succ,Nat.add_mul,Nat.add_assoc,Nat.mul_assoc]
theorem bigN_app (l m:List Nat):bigN (l ++ m) = bigN l * 256 ^ m.length + bigN m:=by
  refine snoc_ind (P:=fun m => bigN (l ++ m) = bigN l * 256 ^ m.length + bigN m) ?_ (fun m x ih => ?_) m
  · rw [List.append_nil,List.length_nil,Nat.pow_zero,Nat.mul_one]; rfl
  · rw [← List.append_assoc,bigN_snoc,ih,bigN_snoc,List.length_append,List.length_singleton,Nat.pow_succ,Nat.add_mul,Nat.add_assoc,Nat.mul_assoc]
theorem figs_of {row fs:List Nat} {s:Nat} (h:∀ f ∈ fs,f < 64) (hl:cntN row = fs.length) (hs:6 * cntN row - 8 * row.length = s) (hv:bigN row * 2 ^ s = valF fs):figsL row = fs:=by
  show digN (cntN row) (bigN row * 2 ^ (6 * cntN row - 8 * row.length)) = fs
  rw [hs,hv,hl,dig_val fs h]
theorem cnt_of {row:List Nat} {m n s:Nat} (h:row.length = m) (hm:(4 * m + 2) / 3 = n:=by rfl) (hs:6 * n - 8 * m = s:=by rfl):cntN row = n ∧ 6 * cntN row - 8 * row.length = s:=by
  have:cntN row = n:=by unfold cntN; rw [h,hm]
  exact ⟨this,by rw [this,h,hs]⟩
theorem cnt_le (n:Nat):8 * n ≤ 6 * ((4 * n + 2) / 3):=by omega
theorem pow_cnt (row:List Nat):256 ^ row.length * 2 ^ (6 * cntN row - 8 * row.length) = 64 ^ cntN row:=by
  rw [show 256 = 2 ^ 8 from rfl,show 64 = 2 ^ 6 from rfl,← Nat.pow_mul,← Nat.pow_mul,← Nat.pow_add,Nat.add_sub_cancel' (show 8 * row.length ≤ 6 * cntN row from cnt_le _)]
theorem val_figs {row:List Nat} (h:∀ o ∈ row,o < 256):valF (figsL row) = bigN row * 2 ^ (6 * cntN row - 8 * row.length) :=
  val_dig _ _ (by rw [← pow_cnt]; exact Nat.mul_lt_mul_of_pos_right (bigN_lt row h) (Nat.pow_pos (by decide)))
theorem cnt3 {x r:List Nat} (hx:x.length = 3):cntN (x ++ r) = cntN r + 4:=by
  unfold cntN
  rw [List.length_append,hx,Nat.mul_add,Nat.add_assoc,Nat.add_comm (4 * 3)]
  exact Nat.add_mul_div_right (4 * r.length + 2) 4 (by decide:0 < 3)
theorem figs_app3 {x r:List Nat} (hx:x.length = 3) (h:∀ o ∈ x,o < 256) (hr:∀ o ∈ r,o < 256):figsL (x ++ r) = figsL x ++ figsL r:=by
  have hc:cntN x = 4:=by unfold cntN; rw [hx]
  have hs:6 * cntN (x ++ r) - 8 * (x ++ r).length = 6 * cntN r - 8 * r.length:=by
    rw [cnt3 hx,List.length_append,hx,Nat.mul_add,Nat.mul_add,Nat.add_comm]
    exact Nat.add_sub_add_left 24 _ _
  refine figs_of (fun f hf => (List.mem_append.mp hf).elim (figs_lt f) (figs_lt f)) ?_ hs ?_
  · rw [cnt3 hx,List.length_append,figs_len,figs_len,hc,Nat.add_comm]
  · rw [bigN_app,valF_app,val_figs h,val_figs hr,figs_len,← pow_cnt r,Nat.add_mul,hc,hx,Nat.mul_assoc]
    exact congrArg (fun y => y * (256 ^ r.length * 2 ^ (6 * cntN r - 8 * r.length)) + _) (Nat.mul_one _).symm
theorem lin1 (q r:Nat):(0 * 256 + (4 * q + r)) * 16 = (0 * 64 + q) * 64 + r * 16:=by omega
theorem lin2 (q r s t:Nat):((0 * 256 + (4 * q + r)) * 256 + (16 * s + t)) * 4 = ((0 * 64 + q) * 64 + (r * 16 + s)) * 64 + t * 4:=by omega
theorem lin3 (q r s t u v:Nat):(((0 * 256 + (4 * q + r)) * 256 + (16 * s + t)) * 256 + (64 * u + v)) * 1 = (((0 * 64 + q) * 64 + (r * 16 + s)) * 64 + (t * 4 + u)) * 64 + v:=by omega
theorem f4 {a:Nat} (h:a < 256):a / 4 < 64:=Nat.div_lt_of_lt_mul h
theorem f16 {a:Nat} (h:a < 256):a / 16 < 16:=Nat.div_lt_of_lt_mul h
theorem f64 {a:Nat} (h:a < 256):a / 64 < 4:=Nat.div_lt_of_lt_mul h
theorem mod_lt (a:Nat) {k:Nat} (h:0 < k:=by decide):a % k < k:=Nat.mod_lt a h
theorem figs1 {a:Nat} (ha:a < 256):figsL [a] = [a / 4,a % 4 * 16] :=
  figs_of (List.forall_mem_cons.mpr ⟨f4 ha,List.forall_mem_cons.mpr ⟨mul_lt (y:=0) (mod_lt a) (by decide),nofun⟩⟩) (cnt_of (m:=1) (n:=2) (s:=4) rfl).1 (cnt_of (m:=1) (n:=2) (s:=4) rfl).2 (by
    have h:=lin1 (a / 4) (a % 4)
    rw [Nat.div_add_mod] at h
    exact h)
theorem figs2 {a b:Nat} (ha:a < 256) (hb:b < 256):figsL [a,b] = [a / 4,a % 4 * 16 + b / 16,b % 16 * 4] :=
  figs_of (List.forall_mem_cons.mpr ⟨f4 ha,List.forall_mem_cons.mpr ⟨mul_lt (mod_lt a) (f16 hb),List.forall_mem_cons.mpr ⟨mul_lt (y:=0) (mod_lt b) (by decide),nofun⟩⟩⟩) (cnt_of (m:=2) (n:=3) (s:=2) rfl).1 (cnt_of (m:=2) (n:=3) (s:=2) rfl).2 (by
    have h:=lin2 (a / 4) (a % 4) (b / 16) (b % 16)
    rw [Nat.div_add_mod,Nat.div_add_mod] at h
    exact h)
theorem figs3 {a b c:Nat} (ha:a < 256) (hb:b < 256) (hc:c < 256):figsL [a,b,c] = [a / 4,a % 4 * 16 + b / 16,b % 16 * 4 + c / 64,c % 64] :=
  figs_of (List.forall_mem_cons.mpr ⟨f4 ha,List.forall_mem_cons.mpr ⟨mul_lt (mod_lt a) (f16 hb),List.forall_mem_cons.mpr ⟨mul_lt (mod_lt b) (f64 hc),List.forall_mem_cons.mpr ⟨mod_lt c,nofun⟩⟩⟩⟩) (cnt_of (m:=3) (n:=4) (s:=0) rfl).1 (cnt_of (m:=3) (n:=4) (s:=0) rfl).2 (by
    have h:=lin3 (a / 4) (a % 4) (b / 16) (b % 16) (c / 64) (c % 64)
    rw [Nat.div_add_mod,Nat.div_add_mod,Nat.div_add_mod] at h
    exact h)
theorem figs_cons3 {a b c:Nat} (ha:a < 256) (hb:b < 256) (hc:c < 256) {r:List Nat} (h:∀ x ∈ r,x < 256):figsL (a :: b :: c :: r) = [a / 4,a % 4 * 16 + b / 16,b % 16 * 4 + c / 64,c % 64] ++ figsL r :=
  (figs_app3 (x:=[a,b,c]) rfl (List.forall_mem_cons.mpr ⟨ha,List.forall_mem_cons.mpr ⟨hb,List.forall_mem_cons.mpr ⟨hc,nofun⟩⟩⟩) h).trans (congrArg (· ++ figsL r) (figs3 ha hb hc))
end
noncomputable section
set_option maxHeartbeats 4000000
theorem dm {k q r n:Nat} (h:r < k):q * k + r = n ↔ q = n / k ∧ r = n % k:=by
  have hk:0 < k:=Nat.lt_of_le_of_lt (Nat.zero_le _) h
  constructor
  · rintro rfl
    rw [Nat.mul_comm,Nat.mul_add_div hk,Nat.div_eq_of_lt h,Nat.mul_add_mod,Nat.mod_eq_of_lt h]
    exact ⟨rfl,rfl⟩
  · rintro ⟨rfl,rfl⟩
    rw [Nat.mul_comm,Nat.div_add_mod]
theorem dv {k v x:Nat} (hk:0 < k):v / k = x ↔ x * k ≤ v ∧ v < x * k + k:=by
  rw [← Nat.succ_mul,← Nat.le_div_iff_mul_le hk,← Nat.div_lt_iff_lt_mul hk]
  exact ⟨fun h => ⟨Nat.le_of_eq h.symm,Nat.lt_succ_of_le (Nat.le_of_eq h)⟩,fun h => Nat.le_antisymm (Nat.le_of_lt_succ h.2) h.1⟩
theorem d0 {v0 v1 a:Nat} (h1:v1 < 64):v0 * 4 + v1 / 16 = a ↔ v0 = a / 4 ∧ v1 / 16 = a % 4:=dm (Nat.div_lt_of_lt_mul h1)
theorem d1 {v1 v2 b:Nat} (h2:v2 < 64):v1 % 16 * 16 + v2 / 4 = b ↔ v1 % 16 = b / 16 ∧ v2 / 4 = b % 16:=dm (Nat.div_lt_of_lt_mul h2)
theorem d2 {v2 v3 c:Nat} (h3:v3 < 64):v2 % 4 * 64 + v3 = c ↔ v2 % 4 = c / 64 ∧ v3 = c % 64:=dm h3
theorem dp {k v x y:Nat} (h:y < k):(v / k = x ∧ v % k = y) ↔ v = x * k + y:=⟨fun e => ((dm h).mpr ⟨e.1.symm,e.2.symm⟩).symm,fun e => ⟨((dm h).mp e.symm).1.symm,((dm h).mp e.symm).2.symm⟩⟩
theorem dec3 {a b c v0 v1 v2 v3:Nat} (hb:b < 256) (hc:c < 256) (h1:v1 < 64) (h2:v2 < 64) (h3:v3 < 64):(v0 * 4 + v1 / 16 = a ∧ v1 % 16 * 16 + v2 / 4 = b ∧ v2 % 4 * 64 + v3 = c) ↔ (v0 = a / 4 ∧ v1 = a % 4 * 16 + b / 16 ∧ v2 = b % 16 * 4 + c / 64 ∧ v3 = c % 64):=by
  rw [d0 h1,d1 h2,d2 h3,← dp (f16 hb),← dp (f64 hc)]
  exact ⟨fun ⟨⟨x1,x2⟩,⟨x3,x4⟩,x5,x6⟩ => ⟨x1,⟨x2,x3⟩,⟨x4,x5⟩,x6⟩,fun ⟨x1,⟨x2,x3⟩,⟨x4,x5⟩,x6⟩ => ⟨⟨x1,x2⟩,⟨x3,x4⟩,x5,x6⟩⟩
theorem one_eq {x y:Nat}:[x] = [y] ↔ x = y:=⟨fun h => (List.cons.inj h).1,congrArg fun x => [x]⟩
theorem dec_one {a:Nat} (ha:a < 256) {v0 v1:Nat} (h1:v1 < 64):outOf [v0,v1] = [a] ↔ allIn [v0,v1] (valsL (figsL [a])):=by
  rw [figs1 ha]
  show [v0 * 4 + v1 / 16] = [a] ↔ (v0 ∈ [a / 4] ∧ v1 ∈ (List.range 16).map (a % 4 * 16 + ·) ∧ True)
  rw [mem_rng,List.mem_singleton,one_eq,and_true,d0 h1,dv (by decide)]
theorem dec_two {a b:Nat} (ha:a < 256) (hb:b < 256) {v0 v1 v2:Nat} (h1:v1 < 64) (h2:v2 < 64):outOf [v0,v1,v2] = [a,b] ↔ allIn [v0,v1,v2] (valsL (figsL [a,b])):=by
  rw [figs2 ha hb]
  show [v0 * 4 + v1 / 16,v1 % 16 * 16 + v2 / 4] = [a,b] ↔ (v0 ∈ [a / 4] ∧ v1 ∈ [a % 4 * 16 + b / 16] ∧ v2 ∈ (List.range 4).map (b % 16 * 4 + ·) ∧ True)
  rw [mem_rng,List.mem_singleton,List.mem_singleton,List.cons_eq_cons,one_eq,and_true,d0 h1,d1 h2,dv (v:=v2) (by decide),← dp (f16 hb)]
  exact ⟨fun ⟨⟨x1,x2⟩,x3,x4⟩ => ⟨x1,⟨x2,x3⟩,x4⟩,fun ⟨x1,⟨x2,x3⟩,x4⟩ => ⟨⟨x1,x2⟩,x3,x4⟩⟩
theorem valsL_three {figs:List Nat} (h:figs.length % 4 = 0):valsL figs = figs.map fun f => [f]:=if_pos h
theorem grp {a b c v0 v1 v2 v3:Nat} (hb:b < 256) (hc:c < 256) (h1:v1 < 64) (h2:v2 < 64) (h3:v3 < 64):[v0 * 4 + v1 / 16,v1 % 16 * 16 + v2 / 4,v2 % 4 * 64 + v3] = [a,b,c] ↔ allIn [v0,v1,v2,v3] ([a / 4,a % 4 * 16 + b / 16,b % 16 * 4 + c / 64,c % 64].map fun f => [f]):=by
  rw [singles_all,List.cons_eq_cons,List.cons_eq_cons,one_eq,List.cons_eq_cons,List.cons_eq_cons,List.cons_eq_cons,one_eq]
  exact dec3 hb hc h1 h2 h3
theorem valsL_app {f g:List Nat} (hf:f.length = 4) (hg:g ≠ []):valsL (f ++ g) = f.map (fun f => [f]) ++ valsL g:=by
  have h4:(f ++ g).length % 4 = g.length % 4:=by rw [List.length_append,hf,Nat.add_mod_left]
  have hl:(f ++ g).getLastD 0 = g.getLastD 0:=by
    rw [List.getLastD_eq_getLast?,List.getLastD_eq_getLast?,List.getLast?_append,List.getLast?_eq_some_getLast hg]
    rfl
  unfold valsL
  rw [h4,hl]
  by_cases h0:g.length % 4 = 0
  · rw [if_pos h0,if_pos h0,List.map_append]
  · have h1:1 ≤ g.length:=Nat.pos_of_ne_zero fun e => h0 (by rw [e])
    rw [if_neg h0,if_neg h0,List.map_append,List.length_append,Nat.add_sub_assoc h1,List.set_append_right _ _ (by rw [List.length_map]; exact Nat.le_add_right _ _),List.length_map,Nat.add_sub_cancel_left]
theorem uncons {l:List Nat} {n:Nat} (h:l.length = n + 1):∃ a r,l = a :: r ∧ r.length = n:=by
  cases l with
  | nil => cases h
  | cons a r => exact ⟨a,r,rfl,Nat.succ.inj h⟩
theorem cnt_pos {r:List Nat} (h:1 ≤ r.length):1 ≤ cntN r:=(Nat.le_div_iff_mul_le (by decide)).mpr (Nat.le_trans (show 1 * 3 ≤ 4 * 1 + 2 by decide) (Nat.add_le_add_right (Nat.mul_le_mul_left 4 h) 2))
inductive Row3:List Nat → Prop
  | one (a:Nat) (ha:a < 256):Row3 [a]
  | two (a b:Nat) (ha:a < 256) (hb:b < 256):Row3 [a,b]
  | three (a b c:Nat) (ha:a < 256) (hb:b < 256) (hc:c < 256):Row3 [a,b,c]
  | more (a b c:Nat) (r:List Nat) (ha:a < 256) (hb:b < 256) (hc:c < 256) (hr:1 ≤ r.length) (ho:∀ x ∈ r,x < 256) (h:Row3 r):Row3 (a :: b :: c :: r)
theorem row3:∀ {row:List Nat},1 ≤ row.length → (∀ x ∈ row,x < 256) → Row3 row
  | [a],_,h => .one a (h a (.head _))
  | [a,b],_,h => .two a b (h a (.head _)) (h b (.tail _ (.head _)))
  | [a,b,c],_,h => .three a b c (h a (.head _)) (h b (.tail _ (.head _))) (h c (.tail _ (.tail _ (.head _))))
  | a :: b :: c :: d :: r,_,h =>
    have ho:∀ x ∈ d :: r,x < 256:=fun x hx => h x (.tail _ (.tail _ (.tail _ hx)))
    .more a b c (d :: r) (h a (.head _)) (h b (.tail _ (.head _))) (h c (.tail _ (.tail _ (.head _)))) (Nat.le_add_left 1 r.length) ho (row3 (Nat.le_add_left 1 r.length) ho)
theorem dec_all {row:List Nat} (h:Row3 row):∀ {vals:List Nat},(∀ v ∈ vals,v < 64) → vals.length = cntN row → (outOf vals = row ↔ allIn vals (valsL (figsL row))):=by
  induction h with
  | one a ha =>
    intro vals hv hl
    obtain ⟨v0,r,rfl,k1⟩:=uncons (hl.trans (cnt_of (m:=1) (n:=2) (s:=4) rfl).1)
    obtain ⟨v1,r,rfl,k2⟩:=uncons k1
    cases List.eq_nil_of_length_eq_zero k2
    exact dec_one ha (hv v1 (.tail _ (.head _)))
  | two a b ha hb =>
    intro vals hv hl
    obtain ⟨v0,r,rfl,k1⟩:=uncons (hl.trans (cnt_of (m:=2) (n:=3) (s:=2) rfl).1)
    obtain ⟨v1,r,rfl,k2⟩:=uncons k1
    obtain ⟨v2,r,rfl,k3⟩:=uncons k2
    cases List.eq_nil_of_length_eq_zero k3
    exact dec_two ha hb (hv v1 (.tail _ (.head _))) (hv v2 (.tail _ (.tail _ (.head _))))
  | three a b c ha hb hc =>
    intro vals hv hl
    obtain ⟨v0,r,rfl,k1⟩:=uncons (hl.trans (cnt_of (m:=3) (n:=4) (s:=0) rfl).1)
    obtain ⟨v1,r,rfl,k2⟩:=uncons k1
    obtain ⟨v2,r,rfl,k3⟩:=uncons k2
    obtain ⟨v3,r,rfl,k4⟩:=uncons k3
    cases List.eq_nil_of_length_eq_zero k4
    rw [figs3 ha hb hc,valsL_three (figs:=[a / 4,a % 4 * 16 + b / 16,b % 16 * 4 + c / 64,c % 64]) (show 4 % 4 = 0 from rfl)]
    exact grp hb hc (hv v1 (.tail _ (.head _))) (hv v2 (.tail _ (.tail _ (.head _)))) (hv v3 (.tail _ (.tail _ (.tail _ (.head _)))))
  | more a b c r ha hb hc hr ho h ih =>
    intro vals hv hl
    obtain ⟨v0,w,rfl,k1⟩:=uncons (hl.trans (cnt3 (x:=[a,b,c]) (r:=r) rfl))
    obtain ⟨v1,w,rfl,k2⟩:=uncons k1
    obtain ⟨v2,w,rfl,k3⟩:=uncons k2
    obtain ⟨v3,w,rfl,k4⟩:=uncons k3
    have hne:figsL r ≠ []:=fun e => absurd (cnt_pos hr) (by rw [← figs_len r,e]; decide)
    rw [figs_cons3 ha hb hc ho,valsL_app rfl hne]
    refine Iff.trans ?_ (allIn_append (a:=[v0,v1,v2,v3]) (b:=w) (by rw [List.length_map]; rfl)).symm
    rw [← grp hb hc (hv v1 (.tail _ (.head _))) (hv v2 (.tail _ (.tail _ (.head _)))) (hv v3 (.tail _ (.tail _ (.tail _ (.head _))))),← ih (fun v hvw => hv v (.tail _ (.tail _ (.tail _ (.tail _ hvw))))) k4]
    exact ⟨fun h => List.append_inj (s₁:=[_,_,_]) (s₂:=[a,b,c]) h rfl,fun h => (congr (congrArg HAppend.hAppend h.1) h.2:_ ++ outOf w = [a,b,c] ++ r)⟩
end
noncomputable section
set_option maxHeartbeats 4000000
theorem x16':∀ x,x < 64 → x % 16 = 0 → x ≤ 48:=by decide
theorem x4':∀ x,x < 64 → x % 4 = 0 → x ≤ 60:=by decide
theorem valsL_lt {row:List Nat} (h1:1 ≤ row.length) (h6:row.length ≤ 6):∀ w ∈ valsL (figsL row),∀ v ∈ w,v < 64:=by
  obtain ⟨e1,e2,e3⟩:=figs_mod h1 h6
  have hl:(figsL row).getLastD 0 < 64:=figs_lt _ (last_mem fun e => absurd (cnt_pos h1) (by rw [← figs_len row,e]; decide))
  exact fun w hw => (valsL_ok figs_lt (fun h => x16' _ hl (e2 h)) e1 (fun h => x4' _ hl (e3 h)) w hw).2
theorem ways_len {row:List Nat} (m1 m2:Nat):(waysL (alph m1 m2) (figsL row)).length = cntN row + (4 - cntN row % 4) % 4:=by
  unfold waysL
  rw [List.length_append,List.length_map,valsL_len,figs_len,List.length_replicate]
theorem allIn_mem:∀ {a:List Nat} {ws:List (List Nat)},allIn a ws → ∀ c ∈ a,∃ w ∈ ws,c ∈ w
  | x :: a,w :: ws,h,c,hc => by
    rcases List.mem_cons.mp hc with rfl | hc
    · exact ⟨w,.head _,h.1⟩
    · obtain ⟨w',hw',e⟩:=allIn_mem h.2 c hc
      exact ⟨w',.tail _ hw',e⟩
theorem name_iff {row:List Nat} (hr:Row3 row) (h1:1 ≤ row.length) (h6:row.length ≤ 6) {m1 m2:Nat} (hm1:m1 ∈ marks14) (hm2:m2 ∈ marks14) (hne:m1 ≠ m2) {name:List Nat} (hn:name.length = cntN row + (4 - cntN row % 4) % 4) :
    a2bP (name.map (trC m1 m2)) = some row ↔ allIn name (waysL (alph m1 m2) (figsL row)):=by
  rw [a2b_iff (L:=row.length) rfl (Nat.lt_succ_of_le h6) ((List.length_map _).trans hn)]
  have hval:∀ l:List Nat,(l.map (trC m1 m2)).map b64v = l.map (valC m1 m2):=fun l => List.map_map
  have hlt:=valsL_lt h1 h6
  obtain ⟨a,b,e,ha,hb⟩:∃ a b,name = a ++ b ∧ a.length = cntN row ∧ b.length = (4 - cntN row % 4) % 4:=⟨name.take (cntN row),name.drop (cntN row),(List.take_append_drop _ _).symm,List.length_take_of_le (by rw [hn]; exact Nat.le_add_right _ _),by rw [List.length_drop,hn,Nat.add_sub_cancel_left]⟩
  subst e
  unfold waysL
  rw [allIn_append (by rw [ha,List.length_map,valsL_len,figs_len]),allIn_signs hm1 hm2 hne _ _ hlt,allIn_pads _ _ (by rw [hb,figs_len]),List.map_append]
  constructor
  · rintro ⟨A,B,e,hlA,hA,hB,hout⟩
    obtain ⟨rfl,rfl⟩:=List.append_inj e ((List.length_map _).trans (ha.trans hlA.symm))
    rw [hval] at hout
    refine ⟨(dec_all hr (fun v hv => ?_) ((List.length_map _).trans ha)).mp hout,fun c hc => (trC_61 hm1 hm2).mp (hB _ (List.mem_map_of_mem hc))⟩
    obtain ⟨c,hc,rfl⟩:=List.mem_map.mp hv
    exact of_decide_eq_true (hA _ (List.mem_map_of_mem hc))
  · rintro ⟨hin,hp⟩
    have hvals:∀ v ∈ a.map (valC m1 m2),v < 64:=fun v hv => by
      obtain ⟨w,hw,hv⟩:=allIn_mem hin v hv
      exact hlt w hw v hv
    refine ⟨_,_,rfl,(List.length_map _).trans ha,fun c hc => ?_,fun c hc => ?_,by rw [hval]; exact (dec_all hr hvals ((List.length_map _).trans ha)).mpr hin⟩
    · obtain ⟨d,hd,rfl⟩:=List.mem_map.mp hc
      exact decide_eq_true (hvals _ (List.mem_map_of_mem hd))
    · obtain ⟨d,hd,rfl⟩:=List.mem_map.mp hc
      exact (trC_61 hm1 hm2).mpr (hp d hd)
noncomputable def tk (ws:List (List Nat)) (name:List Nat):Bool:=(List.range ws.length).all fun k => decide (name.getD k 0 ∈ ws.getD k [])
theorem tk_cons (w:List Nat) (ws:List (List Nat)) (x:Nat) (name:List Nat):tk (w :: ws) (x :: name) = (decide (x ∈ w) && tk ws name):=by
  unfold tk
  rw [List.length_cons,List.range_succ_eq_map,List.all_cons,List.all_map]
  rfl
theorem tk_iff:∀ (ws:List (List Nat)) (name:List Nat),name.length = ws.length → (tk ws name = true ↔ allIn name ws)
  | [],[],_ => ⟨fun ℓ => trivial,fun ℓ => rfl⟩
  | w :: ws,x :: name,h => by
    rw [tk_cons,Bool.and_eq_true,tk_iff ws name (Nat.succ.inj h),decide_eq_true_eq]; rfl
  | [],_ :: _,h => nomatch h
  | _ :: _,[],h => nomatch h
theorem tk_same (ws ss:List (List Nat)) (name:List Nat) (hl:ws.length = ss.length) (h:∀ k c,c ∈ ss.getD k [] ↔ c ∈ ws.getD k []):tk ss name = tk ws name:=by
  unfold tk
  rw [hl]
  refine congrArg _ (funext fun k => ?_)
  rw [decide_eq_decide]
  exact h k _
noncomputable def bfin (s:BSt):List Nat:=if s.lb = 2 then s.out ++ [bch (s.lc % 4 * 16),61,61] else if s.lb = 4 then s.out ++ [bch (s.lc % 16 * 4),61] else s.out
noncomputable def padsN (row:List Nat):List Nat:=List.replicate ((4 - cntN row % 4) % 4) 61
theorem bs0 (lc a:Nat) (o:List Nat):(⟨0,lc,o⟩:BSt).step a = ⟨2,(lc * 256 + a) % 65536,o ++ [bch ((lc * 256 + a) % 65536 / 4 % 64)]⟩:=rfl
theorem bs2 (lc a:Nat) (o:List Nat):(⟨2,lc,o⟩:BSt).step a = ⟨4,(lc * 256 + a) % 65536,o ++ [bch ((lc * 256 + a) % 65536 / 16 % 64)]⟩:=rfl
theorem bs4 (lc a:Nat) (o:List Nat):(⟨4,lc,o⟩:BSt).step a = ⟨0,(lc * 256 + a) % 65536,o ++ [bch ((lc * 256 + a) % 65536 / 64 % 64),bch ((lc * 256 + a) % 65536 / 1 % 64)]⟩:=rfl
theorem bf0 (lc:Nat) (o:List Nat):bfin ⟨0,lc,o⟩ = o:=rfl
theorem bf2 (lc:Nat) (o:List Nat):bfin ⟨2,lc,o⟩ = o ++ [bch (lc % 4 * 16),61,61]:=rfl
theorem bf4 (lc:Nat) (o:List Nat):bfin ⟨4,lc,o⟩ = o ++ [bch (lc % 16 * 4),61]:=rfl
theorem lm {l x k:Nat} (h:k ∣ 256):(l * 256 + x) % 65536 % k = x % k:=by
  rw [Nat.mod_mod_of_dvd _ (Nat.dvd_trans h (by decide)),← Nat.mod_mod_of_dvd _ h,Nat.add_comm,Nat.add_mul_mod_self_right,Nat.mod_mod_of_dvd _ h]
theorem hib {x n k:Nat} (h:n * k ∣ 65536):x % 65536 / n % k = x % (n * k) / n:=by
  rw [← Nat.mod_mul_right_div_self,Nat.mod_mod_of_dvd _ h]
theorem lob {l x:Nat} (hx:x < 256) (k:Nat):(l * 256 + x) % (256 * k) = x + 256 * (l % k):=by
  rw [Nat.mod_mul,Nat.add_comm (l * 256),Nat.add_mul_mod_self_right,Nat.mod_eq_of_lt hx,Nat.add_mul_div_right _ _ (by decide),Nat.div_eq_of_lt hx,Nat.zero_add]
theorem w1 {l a:Nat} (ha:a < 256):(l * 256 + a) % 65536 / 4 % 64 = a / 4:=by
  rw [hib (by decide)]
  exact (congrArg (· / 4) (lob ha 1)).trans (by rw [Nat.mod_one]; rfl)
theorem w2 {l b:Nat} (hb:b < 256):(l * 256 + b) % 65536 / 16 % 64 = l % 4 * 16 + b / 16:=by
  rw [hib (by decide)]
  refine (congrArg (· / 16) (lob hb 4)).trans ?_
  rw [show 256 * (l % 4) = 16 * (l % 4 * 16) by rw [Nat.mul_comm (l % 4),← Nat.mul_assoc],Nat.add_mul_div_left _ _ (by decide),Nat.add_comm]
theorem w3 {l c:Nat} (hc:c < 256):(l * 256 + c) % 65536 / 64 % 64 = l % 16 * 4 + c / 64:=by
  rw [hib (by decide)]
  refine (congrArg (· / 64) (lob hc 16)).trans ?_
  rw [show 256 * (l % 16) = 64 * (l % 16 * 4) by rw [Nat.mul_comm (l % 16),← Nat.mul_assoc],Nat.add_mul_div_left _ _ (by decide),Nat.add_comm]
theorem w4' {l c:Nat}:(l * 256 + c) % 65536 / 1 % 64 = c % 64:=by
  rw [Nat.div_one,lm (by decide)]
theorem app3 (o a b:List Nat):o ++ a ++ b = o ++ (a ++ b):=List.append_assoc ..
theorem b2a_row {row:List Nat} (h:Row3 row):∀ (lc:Nat) (o:List Nat),bfin ((⟨0,lc,o⟩:BSt).run row) = o ++ ((figsL row).map bch ++ padsN row):=by
  induction h with
  | one a ha =>
    intro lc o
    show bfin (BSt.step _ a) = _
    rw [bs0,bf2,w1 ha,lm (by decide),figs1 ha,app3,show padsN [a] = [61,61] by unfold padsN; rw [(cnt_of (m:=1) (n:=2) (s:=4) rfl).1]; rfl]
    rfl
  | two a b ha hb =>
    intro lc o
    show bfin ((BSt.step _ a).step b) = _
    rw [bs0,bs2,bf4,w1 ha,w2 hb,lm (by decide),lm (by decide),figs2 ha hb,app3,app3,show padsN [a,b] = [61] by unfold padsN; rw [(cnt_of (m:=2) (n:=3) (s:=2) rfl).1]; rfl]
    rfl
  | three a b c ha hb hc =>
    intro lc o
    show bfin (((BSt.step _ a).step b).step c) = _
    rw [bs0,bs2,bs4,bf0,w1 ha,w2 hb,w3 hc,w4',lm (by decide),lm (by decide),figs3 ha hb hc,app3,app3,show padsN [a,b,c] = [] by unfold padsN; rw [(cnt_of (m:=3) (n:=4) (s:=0) rfl).1]; rfl]
    rfl
  | more a b c r ha hb hc hr ho h ih =>
    intro lc o
    show bfin ((((BSt.step _ a).step b).step c).run r) = _
    rw [bs0,bs2,bs4,ih,w1 ha,w2 hb,w3 hc,w4',lm (by decide),lm (by decide),figs_cons3 ha hb hc ho,app3,app3,app3,show padsN (a :: b :: c :: r) = padsN r by unfold padsN; rw [show cntN (a :: b :: c :: r) = cntN r + 4 from cnt3 (x:=[a,b,c]) rfl,Nat.add_mod_right],List.map_append,app3]
    rfl
theorem b2a_all {row:List Nat} (h:Row3 row):b2aP row = (figsL row).map bch ++ padsN row:=b2a_row h 0 []
end
noncomputable section
set_option maxHeartbeats 4000000
theorem mkL_get {x y m1 m2:UInt8} (hxy:x ≠ y) (c:UInt8):(mkL [x,y] [m1,m2]).getD c.toNat c = if c = x then m1 else if c = y then m2 else c:=by
  have hc:=c.toNat_lt
  have e:mkL [x,y] [m1,m2] = ((((Array.range 256).map (·.toUInt8)).setIfInBounds x.toNat m1).setIfInBounds y.toNat m2).toList:=rfl
  rw [e,List.getD_eq_getElem?_getD,Array.getElem?_toList,Array.getElem?_setIfInBounds,Array.getElem?_setIfInBounds,Array.size_setIfInBounds,Array.size_map,Array.size_range]
  by_cases h1:c = x
  · subst h1
    rw [if_neg (fun e => hxy (UInt8.toNat_inj.mp e).symm),if_pos rfl,if_pos hc,if_pos rfl]; rfl
  · rw [if_neg h1]
    by_cases h2:c = y
    · subst h2
      rw [if_pos rfl,if_pos hc,if_pos rfl]; rfl
    · rw [if_neg (fun e => h2 (UInt8.toNat_inj.mp e).symm),if_neg (fun e => h1 (UInt8.toNat_inj.mp e).symm),if_neg h2,Array.getElem?_map,Array.getElem?_range,if_pos hc]
      exact UInt8.ofNat_toNat
theorem u8_nat {a:Nat} (ha:a < 256):a.toUInt8.toNat = a:=Nat.mod_eq_of_lt ha
theorem u8_inj {a b:Nat} (ha:a < 256) (hb:b < 256) (h:a.toUInt8 = b.toUInt8):a = b:=(u8_nat ha).symm.trans ((congrArg UInt8.toNat h).trans (u8_nat hb))
theorem lt256 {a:Nat} (h:a < 128):a < 256:=Nat.lt_of_lt_of_le h (by decide)
theorem tr_dec {m1 m2:Nat} (h1:m1 < 128) (h2:m2 < 128) (hne:m1 ≠ m2) {name:List Nat} (hn:∀ c ∈ name,c < 128):(trL (bytesL name) (mkL [m1.toUInt8,m2.toUInt8] [43,47])).map (·.toNat) = name.map (trC m1 m2):=by
  unfold trL bytesL
  rw [List.map_map,List.map_map]
  refine List.map_congr_left fun c hc => ?_
  have hc:=lt256 (hn c hc)
  show ((mkL [m1.toUInt8,m2.toUInt8] [43,47]).getD c.toUInt8.toNat c.toUInt8).toNat = _
  rw [mkL_get (fun e => hne (u8_inj (lt256 h1) (lt256 h2) e))]
  unfold trC
  by_cases e1:c = m1
  · rw [if_pos (by rw [e1]),if_pos e1]; rfl
  rw [if_neg (fun e => e1 (u8_inj hc (lt256 h1) e)),if_neg e1]
  by_cases e2:c = m2
  · rw [if_pos (by rw [e2]),if_pos e2]; rfl
  rw [if_neg (fun e => e2 (u8_inj hc (lt256 h2) e)),if_neg e2,u8_nat hc]
theorem bch_lo:∀ v,v < 62 → (bch v).toUInt8 = (letters.getD v 0).toUInt8:=by decide +kernel
theorem letters_u8:∀ v,v < 62 → (letters.getD v 0).toUInt8 ≠ 43 ∧ (letters.getD v 0).toUInt8 ≠ 47:=by decide +kernel
noncomputable def baseL (m1 m2:Nat) (row:List Nat):List Nat:=(figsL row).map (fun v => (alph m1 m2).getD v 0) ++ padsN row
theorem tr_enc {m1 m2:Nat} {row:List UInt8} (h1:1 ≤ row.length):trL (enc row) (mkL [43,47] [m1.toUInt8,m2.toUInt8]) = bytesL (baseL m1 m2 (row.map (·.toNat))):=by
  have hr:Row3 (row.map (·.toNat)):=row3 (by rw [List.length_map]; exact h1) fun x hx => by
    obtain ⟨u,_,rfl⟩:=List.mem_map.mp hx
    exact u.toNat_lt
  have hg:=fun c => mkL_get (x:=43) (y:=47) (m1:=m1.toUInt8) (m2:=m2.toUInt8) (by decide) c
  unfold enc baseL
  rw [b2a_all hr]
  unfold trL bytesL
  rw [List.map_append,List.map_append,List.map_append,List.map_map,List.map_map,List.map_map,List.map_map]
  refine congr (congrArg _ (List.map_congr_left fun v hv => ?_)) ?_
  · refine (hg _).trans ?_
    by_cases hv2:v < 62
    · show (if (bch v).toUInt8 = 43 then m1.toUInt8 else if (bch v).toUInt8 = 47 then m2.toUInt8 else (bch v).toUInt8) = ((alph m1 m2).getD v 0).toUInt8
      rw [bch_lo v hv2,if_neg (letters_u8 v hv2).1,if_neg (letters_u8 v hv2).2,alph_lo hv2]
    · rcases v62 v (figs_lt v hv) hv2 with rfl | rfl <;> rfl
  · unfold padsN
    rw [List.map_replicate,List.map_replicate]
    exact congrArg _ (hg 61)
theorem ways_lo16:∀ i,i < 3 → 1 ≤ (signsOf (alph 42 63) ((List.range 16).map (16 * i + ·))).length ∧ (signsOf (alph 42 63) ((List.range 16).map (16 * i + ·))).length ≤ 20 ∧ ∀ c ∈ signsOf (alph 42 63) ((List.range 16).map (16 * i + ·)),c < 128:=by decide +kernel
theorem ways_lo4:∀ i,i < 15 → 1 ≤ (signsOf (alph 42 63) ((List.range 4).map (4 * i + ·))).length ∧ (signsOf (alph 42 63) ((List.range 4).map (4 * i + ·))).length ≤ 20 ∧ ∀ c ∈ signsOf (alph 42 63) ((List.range 4).map (4 * i + ·)),c < 128:=by decide +kernel
theorem let_lt:∀ c ∈ letters ++ [61],c < 128:=by decide +kernel
theorem way_ok {m1 m2:Nat} (h1:m1 ∈ marks14) (h2:m2 ∈ marks14) {w:List Nat} (hw:WayOf m1 m2 w):1 ≤ w.length ∧ w.length ≤ 20 ∧ ∀ c ∈ w,c < 128:=by
  have a1:=(marks_facts m1 h1).1
  have a2:=(marks_facts m2 h2).1
  have two:∀ {m k:Nat},m < 128 → k < 128 → ∀ c ∈ [m,k],c < 128:=fun hm hk => List.forall_mem_cons.mpr ⟨hm,List.forall_mem_cons.mpr ⟨hk,nofun⟩⟩
  have hs:∀ vs:List Nat,(∀ v ∈ vs,v < 64) → ∀ c ∈ signsOf (alph m1 m2) vs,c < 128:=by
    intro vs hvs c hc
    obtain ⟨v,hv,e⟩:=mem_signs.mp hc
    have hv:=hvs v hv
    by_cases h62:v < 62
    · rw [(sign_lo h62).mp e]; exact (letters_lt v h62).1
    · rcases v62 v hv h62 with rfl | rfl
      · rcases sign_62.mp e with rfl | rfl
        · exact a1
        · decide
      · rcases sign_63.mp e with rfl | rfl
        · exact a2
        · decide
  cases hw with
  | one c hc => exact ⟨Nat.le_refl 1,show 1 ≤ 20 by decide,List.forall_mem_cons.mpr ⟨let_lt c hc,nofun⟩⟩
  | two => exact ⟨Nat.le_succ 1,show 2 ≤ 20 by decide,two a1 (by decide)⟩
  | three => exact ⟨Nat.le_succ 1,show 2 ≤ 20 by decide,two a2 (by decide)⟩
  | lo16 i hi => exact ways_lo16 i hi
  | lo4 i hi => exact ways_lo4 i hi
  | hi16 =>
    have e:=w16_len m1 m2
    unfold w16 at e
    exact ⟨by rw [e]; decide,by rw [e]; decide,hs _ fun v hv => (mem_rng.mp hv).2⟩
  | hi4 =>
    have e:=w4_len m1 m2
    unfold w4 at e
    exact ⟨by rw [e]; decide,by rw [e]; decide,hs _ fun v hv => (mem_rng.mp hv).2⟩
theorem vals_self (figs:List Nat):allIn figs (valsL figs):=by
  unfold valsL
  by_cases h0:figs.length % 4 = 0
  · rw [if_pos h0]; exact (singles_all _ _).mpr rfl
  rw [if_neg h0]
  rcases nil_or_snoc figs with rfl | ⟨A,x,rfl⟩
  · exact absurd rfl h0
  rw [List.map_append,List.length_append,List.length_singleton,Nat.add_sub_cancel,List.set_append_right _ _ (by rw [List.length_map]; exact Nat.le_refl _),List.length_map,Nat.sub_self,allIn_append (by rw [List.length_map])]
  refine ⟨(singles_all _ _).mpr rfl,mem_rng.mpr ?_,trivial⟩
  rw [show (A ++ [x]).getLastD 0 = x by rw [List.getLastD_eq_getLast?,List.getLast?_concat]; rfl]
  refine ⟨Nat.le_refl _,Nat.lt_add_of_pos_right ?_⟩
  split <;> decide
theorem base_in {m1 m2:Nat} (h1:m1 ∈ marks14) (h2:m2 ∈ marks14) (hne:m1 ≠ m2) {row:List Nat} (hr1:1 ≤ row.length) (hr6:row.length ≤ 6):allIn (baseL m1 m2 row) (waysL (alph m1 m2) (figsL row)):=by
  unfold baseL waysL
  rw [allIn_append (by rw [List.length_map,List.length_map,valsL_len]),allIn_signs h1 h2 hne _ _ (valsL_lt hr1 hr6)]
  refine ⟨?_,(allIn_pads _ _ (by unfold padsN; rw [List.length_replicate,figs_len])).mpr fun c hc => (List.mem_replicate.mp hc).2⟩
  have e:((figsL row).map fun v => (alph m1 m2).getD v 0).map (valC m1 m2) = figsL row:=by
    rw [List.map_map]
    exact (List.map_congr_left (g:=id) fun v hv => (sign_iff h1 h2 hne (figs_lt v hv)).mp (.inl rfl)).trans (List.map_id _)
  rw [e]
  exact vals_self _
theorem base_len (m1 m2:Nat) (row:List Nat):(baseL m1 m2 row).length = cntN row + (4 - cntN row % 4) % 4:=by
  unfold baseL padsN
  rw [List.length_append,List.length_map,figs_len,List.length_replicate]
theorem tk_swap:∀ {ws:List (List Nat)} {a:List Nat},allIn a ws → ∀ {p:Nat},p < a.length → ∀ c:Nat,tk ws (a.take p ++ c :: a.drop (p + 1)) = decide (c ∈ ws.getD p [])
  | w :: ws,x :: a,h,0,_,c => (tk_cons w ws c a).trans (by rw [(tk_iff ws a (allIn_len h.2)).mpr h.2,Bool.and_true]; rfl)
  | w :: ws,x :: a,h,p + 1,hp,c => (tk_cons w ws x _).trans (by rw [decide_eq_true h.1,Bool.true_and]; exact tk_swap h.2 (Nat.lt_of_succ_lt_succ hp) c)
  | _,[],_,_,hp,_ => absurd hp (Nat.not_lt_zero _)
  | [],_ :: _,h,_,_,_ => h.elim
structure LawS (row:List Nat) (m1 m2:Nat) (ways:List (List Nat)) (base:List Nat):Prop where
  n4:4 ≤ base.length
  n8:base.length ≤ 8
  wl:ways.length = base.length
  bin:allIn base ways
  blt:∀ c ∈ base,c < 128
  wok:∀ w ∈ ways,1 ≤ w.length ∧ w.length ≤ 20 ∧ ∀ c ∈ w,c < 128
  piece:∀ w ∈ ways,∀ how,how < 8 → PieceS w how
  read:∀ name:List Nat,name.length = base.length → (a2bP (name.map (trC m1 m2)) = some row ↔ tk ways name = true)
  nl:a2bP ((base.take 1 ++ 10 :: base.drop 1).map (trC m1 m2)) = some row
theorem pad_nums:∀ n,n < 7 → 1 ≤ n → 4 ≤ padN n ∧ padN n ≤ 8:=by decide
theorem law_s {row:List Nat} (h1:1 ≤ row.length) (h6:row.length ≤ 6) (ho:∀ x ∈ row,x < 256) {m1 m2:Nat} (hm1:m1 ∈ marks14) (hm2:m2 ∈ marks14) (hne:m1 ≠ m2):LawS row m1 m2 (waysL (alph m1 m2) (figsL row)) (baseL m1 m2 row):=by
  have hfm:=figs_mod h1 h6
  have hway:∀ w ∈ waysL (alph m1 m2) (figsL row),WayOf m1 m2 w:=way_vals figs_lt hfm.1 hfm.2.1 hfm.2.2
  have hin:=base_in hm1 hm2 hne h1 h6
  have hbl:=base_len m1 m2 row
  have hwl:(waysL (alph m1 m2) (figsL row)).length = (baseL m1 m2 row).length:=by rw [ways_len,hbl]
  have hread:∀ name:List Nat,name.length = (baseL m1 m2 row).length → (a2bP (name.map (trC m1 m2)) = some row ↔ tk (waysL (alph m1 m2) (figsL row)) name = true):=fun name hn => by
    rw [name_iff (row3 h1 ho) h1 h6 hm1 hm2 hne (by rw [hn,hbl]),tk_iff _ _ (by rw [hwl,hn])]
  have hpn:=pad_nums _ (Nat.lt_succ_of_le h6) h1
  rw [show padN row.length = (baseL m1 m2 row).length from hbl.symm] at hpn
  refine ⟨hpn.1,hpn.2,hwl,hin,fun c hc => ?_,fun w hw => way_ok hm1 hm2 (hway w hw),fun w hw how hh => piece_all hm1 hm2 hne (hway w hw) hh,hread,?_⟩
  · obtain ⟨w,hw,hcw⟩:=allIn_mem hin c hc
    exact (way_ok hm1 hm2 (hway w hw)).2.2 c hcw
  · have e10:trC m1 m2 10 = 10:=by
      unfold trC
      rw [if_neg (fun e => (marks_facts m1 hm1).2.2.2.2.1 e.symm),if_neg (fun e => (marks_facts m2 hm2).2.2.2.2.1 e.symm)]
    rw [List.map_append,List.map_cons,e10,a2b_skip 10 (by decide) (by decide),← List.map_append,List.take_append_drop]
    exact (hread _ rfl).mpr ((tk_iff _ _ hwl.symm).mpr hin)
end
noncomputable section
set_option maxHeartbeats 4000000
inductive cmpX (op:CmpOp) (a b:V) (K:Bool → Prop):Prop
  | ne (x y:Bool) (eo:op = .NotEq) (ea:a = .bool x) (eb:b = .bool y) (k:K (x != y))
  | nt (x y:String) (eo:op = .IsNot) (ea:a = .ty x) (eb:b = .ty y) (k:K (x != y))
theorem cmpX_sound {W:Wd} {A:Around} {fx:Fx} {F:Fz} {σ:Sto} {s:Shared} {op:CmpOp} {va vb:Value} {a b:V} {K:Bool → Prop} {E:Value → Shared → Prop} (I:Inv W fx F σ s) (ra:Rep F va a) (rb:Rep F vb b)
    (h:cmpX op a b K):Wp W A (compareOp op va vb) (fun v s' => ∃ b,v = .bool b ∧ Inv W fx F σ s' ∧ K b) E s:=by
  rcases h with ⟨x,y,rfl,rfl,rfl,hK⟩ | ⟨x,y,rfl,rfl,rfl,hK⟩
  · obtain rfl:=ra.inv
    obtain rfl:=rb.inv
    constructor
    rw [show compareOp .NotEq (.bool x) (.bool y) = richCompare .NotEq (.bool x) (.bool y) from rfl]
    exact SeqAt.RcNeAt.bool_bool x y _ _ _ _ ⟨_,rfl,I,hK⟩
  · obtain rfl:=ra.inv
    obtain rfl:=rb.inv
    have e:(!(Value.type x == Value.type y)) = (x != y):=congrArg not (by rw [Bool.eq_iff_iff]; simp)
    constructor; with_reducible exact wpAny_isNot_plain rfl ⟨_,rfl,I,e ▸ hK⟩
noncomputable def tCmpX (op:CmpOp) (l r:TE):TB:=fun Q X σ => l (fun a σ₁ => r (fun b σ₂ => cmpX op a b fun u => Q u σ₂) X σ₁) X σ
theorem st_cmpx {W:Wd} {sc:Scope} {n:Nat} {pos:Pos} {op:CmpOp} {l r:PySem.Expr} {tl tr:TE} (hl:SE W sc n l tl) (hr:SE W sc n r tr) (hm:behindInMarks op r = false:=by with_unfolding_all rfl) :
    ST W sc n (.Compare l [op] [r] pos) (tCmpX op tl tr) :=
  fun fx F σ s Q X E hsc hrm I h hE => by
    refine wp_isTrue_Compare1 ((hl fx F σ s _ X E hsc hrm I h hE).imp fun va s₁ h₁ => ?_) hm
    obtain ⟨F₁,σ₁,a,h01,I₁,ra,h₁⟩:=h₁
    refine (hr fx F₁ σ₁ s₁ _ X E hsc hrm I₁ h₁ hE).imp fun vb s₂ h₂ => ?_
    obtain ⟨F₂,σ₂,b,h12,I₂,rb,h₂⟩:=h₂
    refine (cmpX_sound I₂ (ra.mono h12) rb h₂).imp fun v s₃ h₃ => ?_
    obtain ⟨b,rfl,I₃,h₃⟩:=h₃
    exact ⟨wpAny_truthy_bool ⟨F₂,σ₂,h01.trans h12,I₃,h₃⟩⟩
theorem slc_take {α:Type} (x:List α) (n:Nat):slc x none (some (n:Int)) = x.take n:=by
  unfold slc
  rw [show Option.elim (some (n:Int)) x.length (clipAt x.length) = min n x.length from clipAt_nat _ _]
  show List.take (min n x.length - 0) (x.drop 0) = _
  rw [List.drop_zero,Nat.sub_zero,← List.take_eq_take_min]
theorem slc_drop {α:Type} (x:List α) (n:Nat):slc x (some (n:Int)) none = x.drop n:=by
  unfold slc
  rw [show Option.elim (some (n:Int)) 0 (clipAt x.length) = min n x.length from clipAt_nat _ _]
  show List.take (x.length - min n x.length) (x.drop (min n x.length)) = _
  by_cases h:n ≤ x.length
  · rw [Nat.min_eq_left h,← List.length_drop,List.take_length]
  · rw [Nat.min_eq_right (Nat.le_of_not_le h),List.drop_length,List.take_nil,List.drop_eq_nil_of_le (Nat.le_of_not_le h)]
theorem letters_cs:cs "ABCDEFGHIJKLMNOPQRSTUVWXYZabcdefghijklmnopqrstuvwxyz0123456789" = letters:=by decide +kernel
noncomputable def drawI (i:Int):Int:=if i.fmod 4 < 2 then 62 + i.fmod 4 else (i.fdiv 4).fmod 64
theorem drawI_ok (i:Int):∃ d:Nat,d < 64 ∧ drawI i = d:=by
  obtain ⟨k,hk,e⟩:=fmod_ex i 4 (by decide)
  obtain ⟨j,hj,e'⟩:=fmod_ex (i.fdiv 4) 64 (by decide)
  unfold drawI
  rw [show i.fmod 4 = (k:Int) from e,show (i.fdiv 4).fmod 64 = (j:Int) from e']
  by_cases h:(k:Int) < 2
  · rw [if_pos h]; exact ⟨62 + k,Nat.add_lt_add_left (Int.ofNat_lt.mp h) 62,rfl⟩
  · rw [if_neg h]; exact ⟨j,hj,rfl⟩
theorem draw_list:∀ l:List Int,∃ ds:List Nat,ds.length = l.length ∧ (∀ d ∈ ds,d < 64) ∧ (vints l).map (fun v => V.int (drawI (intOf v))) = outV ds
  | [] => ⟨[],rfl,nofun,rfl⟩
  | i :: l => by
    obtain ⟨ds,h1,h2,h3⟩:=draw_list l
    obtain ⟨d,h4,h5⟩:=drawI_ok i
    refine ⟨d :: ds,congrArg (· + 1) h1,List.forall_mem_cons.mpr ⟨h4,h2⟩,?_⟩
    show V.int (drawI i) :: (vints l).map (fun v => V.int (drawI (intOf v))) = V.int (d:Nat) :: outV ds
    rw [h3,h5]
theorem tab_ext {E:List UInt8} {x y m1 m2:UInt8} (hxy:x ≠ y) (hl:E.length = 256) (h:∀ i,i < 256 → E.getD i 0 = (if i.toUInt8 = x then m1 else if i.toUInt8 = y then m2 else i.toUInt8)):E = mkL [x,y] [m1,m2]:=by
  refine List.ext_getElem (by rw [hl,mkL_len]) fun i h1 h2 => ?_
  rw [hl] at h1
  have e1:=h i h1
  have e2:=mkL_get (m1:=m1) (m2:=m2) hxy i.toUInt8
  rw [u8_nat h1,List.getD_eq_getElem?_getD,List.getElem?_eq_getElem h2] at e2
  rw [List.getD_eq_getElem?_getD,List.getElem?_eq_getElem (by rw [hl]; exact h1)] at e1
  exact (show E[i] = _ from e1).trans (show (mkL [x,y] [m1,m2])[i] = _ from e2).symm
theorem uenc_eq:uencE = mkL [43,47] [45,95]:=tab_ext (by decide) (by decide +kernel) (by decide +kernel)
theorem udec_eq:udecE = mkL [45,95] [43,47]:=tab_ext (by decide) (by decide +kernel) (by decide +kernel)
noncomputable def tabOf (m1 m2:Nat):List UInt8:=if m1 = 45 ∧ m2 = 95 then udecE else mkL [m1.toUInt8,m2.toUInt8] [43,47]
theorem tab_eq (m1 m2:Nat):tabOf m1 m2 = mkL [m1.toUInt8,m2.toUInt8] [43,47]:=by
  unfold tabOf
  by_cases h:m1 = 45 ∧ m2 = 95
  · rw [if_pos h,udec_eq,h.1,h.2]; rfl
  · rw [if_neg h]
theorem a2b_lt {cs o:List Nat} (h:a2bP cs = some o):∀ x ∈ o,x < 256:=by
  have h1:=(ASt.run_ok (s:=⟨0,0,0,[]⟩) ⟨.inl rfl,fun o h => by cases h⟩ cs).out
  replace h:(if (A0.run cs).q = 1 then none else if (A0.run cs).q ≠ 0 ∧ (A0.run cs).q + (A0.run cs).p < 4 then none else some (A0.run cs).out) = some o:=h
  by_cases c1:(A0.run cs).q = 1
  · rw [if_pos c1] at h; cases h
  rw [if_neg c1] at h
  by_cases c2:(A0.run cs).q ≠ 0 ∧ (A0.run cs).q + (A0.run cs).p < 4
  · rw [if_pos c2] at h; cases h
  rw [if_neg c2] at h
  rw [← Option.some.inj h]
  exact h1
theorem back {row:List UInt8}:(row.map (·.toNat)).map (·.toUInt8) = row:=by
  rw [List.map_map]
  exact (List.map_congr_left (g:=id) fun y ℓ => UInt8.ofNat_toNat).trans (List.map_id _)
theorem forth {o:List Nat} (h:∀ y ∈ o,y < 256):(o.map (·.toUInt8)).map (·.toNat) = o:=by
  rw [List.map_map]
  exact (List.map_congr_left (g:=id) fun y hy => u8_nat (h y hy)).trans (List.map_id _)
theorem rd_is {row:List UInt8} {m1 m2:Nat} (h1:m1 < 128) (h2:m2 < 128) (hne:m1 ≠ m2) {u:V} {name:List Nat} (hu:octOf u = some (bytesL name)) (hn:∀ c ∈ name,c < 128):readIs (octOf u) (tabOf m1 m2) row = decide (a2bP (name.map (trC m1 m2)) = some (row.map (·.toNat))):=by
  unfold readIs
  rw [hu,show readAs (some (bytesL name)) (tabOf m1 m2) = a2bP ((trL (bytesL name) (tabOf m1 m2)).map (·.toNat)) from rfl,tab_eq,tr_dec h1 h2 hne hn]
  cases hx:a2bP (name.map (trC m1 m2)) with
  | none => rfl
  | some o =>
    rw [Bool.eq_iff_iff,decide_eq_true_eq,beq_iff_eq]
    exact ⟨fun e => congrArg some ((forth (a2b_lt hx)).symm.trans (congrArg (fun l => List.map (fun x => UInt8.toNat x) l) (Option.some.inj e))),fun e => congrArg some ((congrArg (fun l => List.map (fun x => Nat.toUInt8 x) l) (Option.some.inj e)).trans back)⟩
theorem asc_ok {name:List Nat} (hn:∀ c ∈ name,c < 128):ascL name = true:=List.all_eq_true.mpr fun c hc => decide_eq_true (hn c hc)
theorem law_str {row:List UInt8} {m1 m2:Nat} {ways:List (List Nat)} {base:List Nat} (L:LawS (row.map (·.toNat)) m1 m2 ways base) (h1:m1 < 128) (h2:m2 < 128) (hne:m1 ≠ m2) {name:List Nat} (hl:name.length = base.length):readIs (octOf (.str name)) (tabOf m1 m2) row = tk ways name:=by
  by_cases hn:∀ c ∈ name,c < 128
  · rw [rd_is h1 h2 hne (show octOf (.str name) = some (bytesL name) from if_pos (asc_ok hn)) hn,Bool.eq_iff_iff,decide_eq_true_eq]
    exact L.read name hl
  · have ha:¬ ascL name = true:=fun e => hn fun c hc => of_decide_eq_true (List.all_eq_true.mp e c hc)
    rw [show octOf (.str name) = none from if_neg ha]
    cases htk:tk ways name with
    | false => rfl
    | true =>
      refine absurd (fun c hc => ?_) hn
      obtain ⟨w,hw,hcw⟩:=allIn_mem ((tk_iff ways name (hl.trans L.wl.symm)).mp htk) c hc
      exact (L.wok w hw).2.2 c hcw
theorem law_byt {row:List UInt8} {m1 m2:Nat} {ways:List (List Nat)} {base:List Nat} (L:LawS (row.map (·.toNat)) m1 m2 ways base) (h1:m1 < 128) (h2:m2 < 128) (hne:m1 ≠ m2) {name:List Nat} (hl:name.length = base.length) (hn:∀ c ∈ name,c < 128):readIs (octOf (.bytes (bytesL name))) (tabOf m1 m2) row = tk ways name:=by
  rw [rd_is h1 h2 hne (show octOf (.bytes (bytesL name)) = some (bytesL name) from rfl) hn,Bool.eq_iff_iff,decide_eq_true_eq]
  exact L.read name hl
theorem law_nl {row:List UInt8} {m1 m2:Nat} {ways:List (List Nat)} {base:List Nat} (L:LawS (row.map (·.toNat)) m1 m2 ways base) (h1:m1 < 128) (h2:m2 < 128) (hne:m1 ≠ m2):readIs (octOf (.str (base.take 1 ++ [10] ++ base.drop 1))) (tabOf m1 m2) row = true:=by
  have hn:∀ c ∈ base.take 1 ++ [10] ++ base.drop 1,c < 128:=fun c hc => by
    rcases List.mem_append.mp hc with hc | hc
    · rcases List.mem_append.mp hc with hc | hc
      · exact L.blt c (List.mem_of_mem_take hc)
      · rw [List.mem_singleton.mp hc]; decide
    · exact L.blt c (List.mem_of_mem_drop hc)
  rw [rd_is h1 h2 hne (show octOf (.str _) = some (bytesL _) from if_pos (asc_ok hn)) hn,List.append_assoc]
  exact decide_eq_true L.nl
theorem joinL_flat (l:List (List Nat)):joinL [] l = l.flatten:=by
  rw [joinL_nil]; exact List.flatMap_id ..
noncomputable def howL (c0:Int) (k:Nat):Nat:=((c0.fdiv 4 + 3 * (k:Int)).fmod 8).toNat
theorem howL_ok (c0:Int) (k:Nat):howL c0 k < 8 ∧ (c0.fdiv 4 + 3 * (k:Int)).fmod 8 = (howL c0 k:Int):=by
  obtain ⟨j,hj,e⟩:=fmod_ex (c0.fdiv 4 + 3 * (k:Int)) 8 (by decide)
  unfold howL
  rw [show (c0.fdiv 4 + 3 * (k:Int)).fmod 8 = (j:Int) from e]
  exact ⟨hj,rfl⟩
noncomputable def whL (c0:Int) (ways:List (List Nat)):List (List Nat × Nat):=(List.range ways.length).map fun k => (ways.getD k [],howL c0 k)
theorem whL_len (c0:Int) (ways:List (List Nat)):(whL c0 ways).length = ways.length:=(List.length_map _).trans List.length_range
theorem getD_at {α:Type} {l:List α} {k:Nat} (d:α) (h:k < l.length):l.getD k d = l[k]:=by rw [List.getD_eq_getElem?_getD,List.getElem?_eq_getElem h]; rfl
theorem getD_mem {ways:List (List Nat)} {k:Nat} (h:k < ways.length):ways.getD k [] ∈ ways:=by
  rw [getD_at _ h]
  exact List.getElem_mem h
theorem getD_out {l:List (List Nat)} {k:Nat} (h:l.length ≤ k):l.getD k [] = []:=by rw [List.getD_eq_getElem?_getD,List.getElem?_eq_none h]; rfl
theorem wh_piece {row:List Nat} {m1 m2:Nat} {ways:List (List Nat)} {base:List Nat} (L:LawS row m1 m2 ways base) (c0:Int):∀ p ∈ whL c0 ways,PieceS p.1 p.2:=fun p hp => by
  obtain ⟨k,hk,rfl⟩:=List.mem_map.mp hp
  exact L.piece _ (getD_mem (List.mem_range.mp hk)) _ (howL_ok c0 k).1
theorem tk_snoc {ways:List (List Nat)} {nm:List Nat} {k c:Nat} (hk:k < ways.length) (hn:nm.length = k):tk (ways.take (k + 1)) (nm ++ [c]) = (tk (ways.take k) nm && decide (c ∈ ways.getD k [])):=by
  have h1:(ways.take k).length = nm.length:=by rw [List.length_take_of_le (Nat.le_of_lt hk),hn]
  have h2:(ways.take (k + 1)).length = (nm ++ [c]).length:=by rw [List.length_take_of_le hk,List.length_append,hn]; rfl
  rw [Bool.eq_iff_iff,Bool.and_eq_true,tk_iff _ _ h2.symm,tk_iff _ _ h1.symm,List.take_succ_eq_append_getElem hk,allIn_append h1.symm,decide_eq_true_eq,getD_at _ hk]
  exact and_congr_right fun ℓ => ⟨And.left,fun h => ⟨h,trivial⟩⟩
theorem tk_sets {c0:Int} {ways:List (List Nat)} (hpi:∀ p ∈ whL c0 ways,PieceS p.1 p.2) (name:List Nat):tk ((whL c0 ways).map fun p => setP p.1 p.2) name = tk ways name:=by
  have hl:((whL c0 ways).map fun p => setP p.1 p.2).length = ways.length:=(List.length_map _).trans (whL_len _ _)
  refine tk_same _ _ _ hl.symm fun k c => ?_
  by_cases hk:k < ways.length
  · have e:((whL c0 ways).map fun p => setP p.1 p.2).getD k [] = setP (ways.getD k []) (howL c0 k):=by
      unfold whL
      rw [List.map_map,List.getD_eq_getElem?_getD,List.getElem?_map,List.getElem?_range hk]; rfl
    rw [e]
    exact (hpi (ways.getD k [],howL c0 k) (List.mem_map.mpr ⟨k,List.mem_range.mpr hk,rfl⟩)).same c
  · rw [getD_out (by rw [hl]; exact Nat.le_of_not_lt hk),getD_out (Nat.le_of_not_lt hk)]
noncomputable def knownL:List Nat:=letters ++ ([43,47] ++ marks14 ++ [32,10])
theorem known_cs:cs "+/*?[]-!^\\&~|._# \n" = [43,47] ++ marks14 ++ [32,10]:=by decide +kernel
theorem known_lt:∀ c ∈ knownL,c < 128:=by decide +kernel
theorem known_len:knownL.length = 80:=rfl
noncomputable def SSG (W:Wd) (sc:Scope) (n:Nat) (st:Stmt) (t:TS):Prop :=
  ∀ (fx:Fx) (F:Fz) (σ:Sto) (s:Shared) (P:Post) (E:Value → Shared → Prop),
    fx.env.scope = sc → fx.w = true → Room fx.A n → Inv W fx F σ s → t P σ → (∀ c e s',P.exc c → Raised W fx c e s' → E e s') → Wp W fx.A (exec st fx.env) (fun f s' => 1 ≤ s'.toks ∧ PS W fx F P f s') E s
theorem sl_start {W:Wd} {sc:Scope} {n:Nat} {st:Stmt} {r:List Stmt} {t tr:TS} (h:SSG W sc n st t) (hr:SLT W (fun ℓ => True) sc n r tr):SL W sc n (st :: r) (tSeq t tr) :=
  fun fx F σ s P E hsc hw hrm I k hE => by
    refine wp_execs_cons ((h fx F σ s { P with next:=tr P } E hsc hw hrm I k hE).imp fun f s₁ k₁ => ?_)
    obtain ⟨ht₁,F₁,σ₁,h01,I₁,k₁⟩:=k₁
    cases f with
    | next =>
      refine (hr fx F₁ σ₁ s₁ P E trivial ht₁ hsc hw hrm I₁ k₁ hE).imp fun f s₂ k₂ => ?_
      obtain ⟨F₂,σ₂,h12,I₂,k₂⟩:=k₂
      exact ⟨F₂,σ₂,h01.trans h12,I₂,k₂⟩
    | _ => exact ⟨F₁,σ₁,h01,I₁,k₁⟩
theorem ssg_slc {W:Wd} {sc:Scope} {n k:Nat} {x:String} {value:PySem.Expr} {i:Int} {p1 p2 p3 p4 pos:Pos} {tv:TE} (hv:SE W sc n value tv) (hk:storable sc x = true:=by decide +kernel)
    (hs:∀ env l,swapsWith (.Subscript value (.Slice none (some (.Constant (.int i) k p1)) none p2) p3) (some (.Name (nm x) p4)) l env = pure false:=by intro _ _; rfl) :
    SSG W sc n (.Assign [.Name (Str.ofString x) p4] (.Subscript value (.Slice none (some (.Constant (.int i) k p1)) none p2) p3) pos)
      (fun P => tSlc tv (fun Q ℓ σ => Q none σ) (fun Q X => (fun (Q:V → Sto → Prop) (_:Value → Prop) σ => Q (V.int i) σ) (fun v σ₁ => match v with | V.int i => Q (some i) σ₁ | _ => False) X) (fun u σ₁ => P.next (put σ₁ x (.val u))) P.exc) :=
  fun fx F σ s P E hsc hw hrm I h hE => by
    refine wp_Assign_Name (wp_Subscript (fun o i => .inr (by rfl)) ((hv fx F σ s _ P.exc E hsc hrm I h hE).imp fun vo s₁ h₁ => ?_)) (hs _ _)
    obtain ⟨F₁,σ₁,a,h01,I₁,ra,h₁⟩:=h₁
    refine wp_Slice ((sp_none (n:=n) fx F₁ σ₁ s₁ (fun lo σ => slcP a lo (some i) fun u => P.next (put σ x (.val u))) P.exc E hsc hrm I₁ h₁ hE).imp fun vl s₂ h₂ => ?_)
    obtain ⟨F₂,σ₂,lo,h12,I₂,pl,h₂⟩:=h₂
    rw [evalPart_some]
    refine ⟨wpAny_Constant_int ?_⟩
    have I₃:=I₂.ext (.tok s₂ (s₂.toks + 1))
    obtain ⟨T,id,q1,q2,q3⟩:=(slc_sound (A:=fx.A) (E:=E) I₃ (ra.mono h12) pl (.int i s₂.toks) h₂).on
    refine ⟨T,id,q1,q2,wpAny_mono (wpAny_toks_of (n:=1) (Nat.succ_le_succ (Nat.zero_le _)) q3) (fun v s₄ h₄ => ?_) fun ℓ ℓ z => z.2⟩
    obtain ⟨ht,F₄,u,h34,I₄,ru,h₄⟩:=h₄
    exact ⟨wpAny_mono (wpAny_toks_of (n:=1) ht (I₄.store (sl:=.val u) (Q:=fun ℓ s' => PS W fx F P .next s') hw (by rw [hsc]; exact hk) ru fresh_val (by intro q; cases q) fun s' I' => ⟨F₄,_,(h01.trans h12).trans h34,I',h₄⟩)) (fun ℓ s' z => z) fun ℓ ℓ z => z.2⟩
inductive LawF (row:List UInt8) (m1 m2:Nat) (figs:List Nat) (ways:List (List Nat)) (base:List Nat):Prop
  | mk (L:LawS (row.map (·.toNat)) m1 m2 ways base) (hb:base = figs.map (fun v => (alph m1 m2).getD v 0) ++ List.replicate ((4 - figs.length % 4) % 4) 61) (he:trL (enc row) (mkL [43,47] [m1.toUInt8,m2.toUInt8]) = bytesL base) (hf:figs.length ≤ 8) (hlt:∀ f ∈ figs,f < 64)
theorem cnt_8:∀ n,n < 7 → (4 * n + 2) / 3 ≤ 8:=by decide
theorem row_lt (row:List UInt8):∀ x ∈ row.map (·.toNat),x < 256:=fun x hx => by
  obtain ⟨u,_,rfl⟩:=List.mem_map.mp hx
  exact u.toNat_lt
theorem law_f {row:List UInt8} {m1 m2:Nat} (h1:1 ≤ row.length) (h6:row.length ≤ 6) (hm1:m1 ∈ marks14) (hm2:m2 ∈ marks14) (hne:m1 ≠ m2):LawF row m1 m2 (figsL (row.map (·.toNat))) (waysL (alph m1 m2) (figsL (row.map (·.toNat)))) (baseL m1 m2 (row.map (·.toNat))):=by
  have hl:(row.map (·.toNat)).length = row.length:=List.length_map _
  exact ⟨law_s (by rw [hl]; exact h1) (by rw [hl]; exact h6) (row_lt row) hm1 hm2 hne,by unfold baseL padsN; rw [figs_len],tr_enc h1,by rw [figs_len]; exact cnt_8 _ (by rw [hl]; exact Nat.lt_succ_of_le h6),figs_lt⟩
theorem figs_ge {row:List UInt8} (h1:1 ≤ row.length):1 ≤ (figsL (row.map (·.toNat))).length:=by rw [figs_len]; exact cnt_pos (by rw [List.length_map]; exact h1)
theorem figs_le {row:List UInt8} (h6:row.length ≤ 6):(figsL (row.map (·.toNat))).length ≤ 8:=by rw [figs_len]; exact cnt_8 _ (by rw [List.length_map]; exact Nat.lt_succ_of_le h6)
theorem figs_l64 {row:List UInt8} (h1:1 ≤ row.length):(figsL (row.map (·.toNat))).getLastD 0 < 64:=figs_lt _ (last_mem fun e => absurd (figs_ge h1) (by rw [e]; decide))
noncomputable def patL (c0:Int) (ways:List (List Nat)):List Nat:=((whL c0 ways).map fun p => dressed p.1 p.2).flatten
noncomputable def outL (c0:Int) (ways:List (List Nat)):List (List Nat):=(whL c0 ways).map fun p => outP p.1 p.2
noncomputable def atL (c0:Int) (ways:List (List Nat)):List (List Nat):=(whL c0 ways).map fun p => setP p.1 p.2
structure PatF (c0:Int) (ways:List (List Nat)):Prop where
  h1:(patL c0 ways).length ≤ 480
  h2:∀ c ∈ patL c0 ways,c < 128
  tr:trLoop missF (patL c0 ways) 20 [] 0 = some (outL c0 ways)
  o1:(outL c0 ways).length ≤ 8
  o2:(outL c0 ways).flatten.length ≤ 800
  o3:∀ c ∈ (outL c0 ways).flatten,c < 128
  rd:readLoop (outL c0 ways).flatten 20 [] 0 = some (atL c0 ways)
  a1:(atL c0 ways).length = ways.length
  a2:∀ a ∈ atL c0 ways,a.length ≤ 1000
  a3:∀ name,tk (atL c0 ways) name = tk ways name
theorem flat_mem {l:List (List Nat × Nat)} {f:List Nat × Nat → List Nat} {P:Nat → Prop} (h:∀ p ∈ l,∀ c ∈ f p,P c):∀ c ∈ (l.map f).flatten,P c:=fun c hc => by
  obtain ⟨x,hx,hcx⟩:=List.mem_flatten.mp hc
  obtain ⟨p,hp,rfl⟩:=List.mem_map.mp hx
  exact h p hp c hcx
theorem flat_len {l:List (List Nat × Nat)} {f:List Nat × Nat → List Nat} {b:Nat} (h:∀ p ∈ l,(f p).length ≤ b) (hl:l.length ≤ 8):(l.map f).flatten.length ≤ b * 8:=by
  refine Nat.le_trans (flat_le _ fun x hx => ?_) (Nat.mul_le_mul_left b (by rw [List.length_map]; exact hl))
  obtain ⟨p,hp,rfl⟩:=List.mem_map.mp hx
  exact h p hp
theorem pat_f {row:List Nat} {m1 m2:Nat} {ways:List (List Nat)} {base:List Nat} (L:LawS row m1 m2 ways base) (c0:Int):PatF c0 ways:=by
  have hp:=wh_piece L c0
  have h8:(whL c0 ways).length ≤ 8:=by rw [whL_len,L.wl]; exact L.n8
  have h20:=Nat.lt_of_le_of_lt h8 (show 8 < 20 by decide)
  exact ⟨flat_len (fun p h => (hp p h).dl) h8,flat_mem fun p h => (hp p h).da,pieces_tr _ hp h20,by unfold outL; rw [List.length_map]; exact h8,flat_len (fun p h => (hp p h).ol) h8,flat_mem fun p h => (hp p h).oa,pieces_rd _ hp h20,(List.length_map _).trans (whL_len _ _),fun a ha => by
    obtain ⟨p,h,rfl⟩:=List.mem_map.mp ha
    exact Nat.le_trans (hp p h).sl (by decide),tk_sets hp⟩
theorem ways_at {ways:List (List Nat)} {i:Nat} (h:i < ways.length) {k:Int} (hk:k = i):at? (ways.map vsigns) k = some (vsigns (ways.getD i [])):=by
  subst hk
  refine at_nat ?_
  rw [List.getElem?_map,List.getElem?_eq_getElem h,getD_at _ h]
  rfl
theorem zero_mul1 (i:Nat):(0:Int) + (i:Int) * 1 = i:=by rw [Int.mul_one,Int.zero_add]
noncomputable def patG (c0:Int) (ways:List (List Nat)) (v:V):V:=.str (dressed (ways.getD (intOf v).toNat []) (howL c0 (intOf v).toNat))
theorem pat_list (c0:Int) (ways:List (List Nat)):((List.range (ways.length:Int).toNat).map fun (i:Nat) => V.int (0 + (i:Int) * 1)).map (patG c0 ways) = vstrs ((whL c0 ways).map fun p => dressed p.1 p.2):=by
  rw [range_us,List.map_map]
  unfold whL vstrs
  rw [List.map_map,List.map_map]
  rfl
theorem csU:cs "-_" = [45,95]:=by decide +kernel
theorem csE:cs "=" = [61]:=by decide +kernel
theorem u_tab {m1 m2:Nat} (h:([m1,m2] == cs "-_") = true):mkL [43,47] [45,95] = mkL [43,47] [m1.toUInt8,m2.toUInt8]:=by
  have e:=(beq_iff_eq.mp h).trans csU
  rw [(List.cons.inj e).1,(List.cons.inj (List.cons.inj e).2).1]
  rfl
noncomputable def figG (m1 m2:Nat) (v:V):V:=.str [(alph m1 m2).getD (intOf v).toNat 0]
theorem fig_list (m1 m2:Nat) (figs:List Nat):(vnats figs).map (figG m1 m2) = vstrs ((figs.map fun v => (alph m1 m2).getD v 0).map fun c => [c]):=by
  rw [vnats_eq]
  unfold vstrs
  rw [List.map_map,List.map_map,List.map_map]
  rfl
theorem alph_at {m1 m2 v:Nat} (h:v < 64):at? (alph m1 m2) (v:Int) = some ((alph m1 m2).getD v 0):=at_nat ((List.getElem?_eq_getElem (show v < (alph m1 m2).length from h)).trans (congrArg some (getD_at 0 (show v < (alph m1 m2).length from h)).symm))
theorem rep_eq1 (p:Nat):repL (cs "=") (p:Int) = List.replicate p 61:=by
  rw [csE]
  unfold repL
  rw [Int.toNat_natCast]
  induction p with
  | zero => rfl
  | succ p ih => rw [List.replicate_succ,List.flatten_cons,ih,List.replicate_succ]; rfl
theorem due_eq {row:List Nat} {m1 m2:Nat} {ways:List (List Nat)} {base:List Nat} (L:LawS row m1 m2 ways base) {p:Nat} (hp:p < base.length) (c:Nat):decide ([c] ∈ (ways.getD p []).map fun c => [c]) = tk ways (base.take p ++ [c] ++ base.drop (p + 1)):=by
  rw [List.append_assoc]
  exact (decide_eq_decide.mpr mem_single).trans (tk_swap L.bin hp c).symm
theorem name_len {base:List Nat} {p:Nat} (hp:p < base.length) (c:Nat):(base.take p ++ [c] ++ base.drop (p + 1)).length = base.length:=by
  rw [List.length_append,List.length_append,List.length_take_of_le (Nat.le_of_lt hp),List.length_drop]
  exact Nat.add_sub_of_le hp
theorem rng_at {n k:Nat} {u:V} (h:((List.range (n:Int).toNat).map fun (i:Nat) => V.int (0 + (i:Int) * 1))[k]? = some u):k < n ∧ u = V.int (k:Nat):=by
  rw [range_us,List.getElem?_map] at h
  obtain ⟨i,h1,h2⟩:=Option.map_eq_some_iff.mp h
  obtain ⟨h3,h4⟩:=List.getElem?_eq_some_iff.mp h1
  rw [List.getElem_range] at h4
  rw [List.length_range] at h3
  exact ⟨h3,by rw [← h2,h4]⟩
theorem vints_at {l:List Int} {k:Nat} (h:k < l.length):at? (vints l) (k:Int) = some (.int l[k]):=at_nat (by unfold vints; rw [List.getElem?_map,List.getElem?_eq_getElem h]; rfl)
theorem signs_at {w:List Nat} {k:Nat} (h:k < w.length):at? (vstrs (w.map fun c => [c])) (k:Int) = some (.str [w[k]]):=at_nat (by unfold vstrs; rw [List.getElem?_map,List.getElem?_map,List.getElem?_eq_getElem h]; rfl)
theorem snoc_at {l:List Nat} {c k:Nat} (h:l.length = k):at? (l ++ [c]) (k:Int) = some c:=at_nat (by rw [List.getElem?_append_right (Nat.le_of_eq h),h,Nat.sub_self]; rfl)
end
noncomputable section
set_option maxHeartbeats 4000000
noncomputable def lwA (ns:List Int) (c0:Int) (rest:List Int) (tl:Sto):Sto:=("script",.val (.list (vints ns))) :: ("numbers",.val (.list (vints (c0 :: rest)))) :: ("choice",.val (.int c0)) :: tl
noncomputable def lwM (ns:List Int) (c0:Int) (rest:List Int) (m1 m2:Nat) (tl:Sto):Sto:=lwA ns c0 rest (("marks",.val (.str [m1,m2])) :: ("alphabet",.val (.str (alph m1 m2))) :: tl)
noncomputable def lwB (ns:List Int) (c0:Int) (rest:List Int) (m1 m2:Nat) (ds:List Nat) (row:List UInt8) (figs:List Nat) (ways:List (List Nat)) (tl:Sto):Sto:=lwM ns c0 rest m1 m2 (("drawn",.val (.list (outV ds))) :: ("row",.val (.bytes row)) :: ("figures",.val (.list (vnats figs))) :: ("ways",.val (vways ways)) :: tl)
noncomputable def lwC (ns:List Int) (c0:Int) (rest:List Int) (m1 m2:Nat) (ds:List Nat) (row:List UInt8) (figs:List Nat) (ways:List (List Nat)) (base:List Nat) (tl:Sto):Sto:=lwB ns c0 rest m1 m2 ds row figs ways (("pattern",.val (.str (patL c0 ways))) :: ("atoms",.val (.list (vstrs (atL c0 ways)))) :: ("written",.val (.bytes (bytesL base))) :: ("base",.val (.str base)) :: tl)
noncomputable def lwD (ns:List Int) (c0:Int) (rest:List Int) (m1 m2:Nat) (ds:List Nat) (row:List UInt8) (figs:List Nat) (ways:List (List Nat)) (base:List Nat) (p:Nat) (tl:Sto):Sto:=lwC ns c0 rest m1 m2 ds row figs ways base (("place",.val (.int p)) :: ("known",.val (.str knownL)) :: tl)
theorem csNl:cs "\n" = [10]:=by decide +kernel
theorem csEe:cs "=é" = [61,233]:=by decide +kernel
theorem seqTo2 {σ:Sto} {P:Post} {t t2 tr:TS} (σ1:Sto) (h1:∀ N:Post,N.next σ1 → tSeq t t2 N σ) (h2:tr P σ1):tSeq t (tSeq t2 tr) P σ:=h1 _ h2
theorem seqP3 {σ:Sto} {P:Post} {t tr:TS} (f:V → V → V → Sto) (h1:∀ N:Post,(∀ x y z,N.next (f x y z)) → t N σ) (h2:∀ x y z,tr P (f x y z)):tSeq t tr P σ:=h1 _ h2
inductive TJ:Sto → Prop
  | nil:TJ []
  | mk (u v w:V):TJ [("j",.val u),("k",.val v),("n",.val w)]
inductive TK:Sto → Prop
  | nil:TK []
  | mk (v w:V):TK [("k",.val v),("n",.val w)]
theorem seqP4 {α:Type} {σ:Sto} {P:Post} {t tr:TS} (Q:α → V → V → Prop) (f:α → V → V → Sto) (h1:∀ N:Post,(∀ x y z,Q x y z → N.next (f x y z)) → t N σ) (h2:∀ x y z,Q x y z → tr P (f x y z)):tSeq t tr P σ:=h1 _ h2
theorem seqP {α:Type} {σ:Sto} {P:Post} {t tr:TS} (Q:α → Prop) (f:α → Sto) (h1:∀ N:Post,(∀ x,Q x → N.next (f x)) → t N σ) (h2:∀ x,Q x → tr P (f x)):tSeq t tr P σ:=h1 _ h2
theorem seqP2 {α β:Type} {σ:Sto} {P:Post} {t tr:TS} (Q:α → β → Prop) (f:α → β → Sto) (h1:∀ N:Post,(∀ x y,Q x y → N.next (f x y)) → t N σ) (h2:∀ x y,Q x y → tr P (f x y)):tSeq t tr P σ:=h1 _ h2
theorem seqTo {σ:Sto} {P:Post} {t tr:TS} (σ1:Sto) (h1:∀ N:Post,N.next σ1 → t N σ) (h2:tr P σ1):tSeq t tr P σ:=h1 _ h2
theorem can42 {W:Wd} (B:Blts W) (T:Tops W) (n:Nat)
    (c31:Can W n "_law_marks" P31) (c32:Can W n "_law_octets" P32) (c33:Can W n "_law_figures" P33) (c34:Can W n "_law_ways" P34) (c36:Can W n "_law_dressed" P36) (c39:Can W n "_law_read" P39) (t23:CanT W n "translate" P23)
    (c19:Can W n "urlsafe_b64encode" P19) (c15:Can W n "b64encode" P15) (c41:Can W n "_law_is" P41) (c40:Can W n "_law_taken" P40) :
    ∃ t,SL W (fnScope (fn 42)) n (fnBody (fn 42)) t ∧ ∀ (ns:List Int) (K:V → Prop) (X:Value → Prop),ns.length ≤ 63 → K (.bool true) → t (retPost K X) (stoOf ["script"] [.list (vints ns)]):=by
  obtain ⟨b1,b2,b3,b4,b5,b6,b7,b8,b9,b10,b11,b12,b13,b14⟩:=B
  refine ⟨_,sl_start (ssg_slc (se_or2 (se_name _) (se_list (sg_cons (se_int _) (sg_cons (se_int _) (sg_cons (se_int _) (sg_cons (se_int _) (sg_cons (se_int _) sg_nil)))))))) (slt_seq (SS.t (ss_assign (se_lit _ (lit_int _)))) (slt_seq (SS.t (ss_assign (se_can c31 (sg_cons (se_name _) sg_nil)))) (slt_seq (SS.t (ss_assign (se_bin2 (se_strc _) (se_name _)))) (slt_seq (SS.t (ss_acomp' (caps:=[]) ⟨by rfl,by decide +kernel,by decide +kernel,by decide +kernel,by decide +kernel,by decide +kernel⟩ (se_slc (se_name _) (sp_some (se_int _)) (sp_some (se_int _))) si_nil (se_if (st_cmp (se_bin2 (se_name _) (se_int _)) (se_int _)) (se_bin2 (se_int _) (se_bin2 (se_name _) (se_int _))) (se_bin2 (se_bin2 (se_name _) (se_int _)) (se_int _))))) (slt_seq (SS.t (ss_assign (se_can c32 (sg_cons (se_bin2 (se_list (sg_cons (se_bin2 (se_bin2 (se_name _) (se_int _)) (se_int _)) (sg_cons (se_bin2 (se_int _) (se_bin2 (se_bin2 (se_name _) (se_int _)) (se_int _))) sg_nil))) (se_name _)) sg_nil)))) (slt_seq (SS.t (ss_assign (se_can c33 (sg_cons (se_name _) sg_nil)))) (slt_seq (SS.t (ss_assign (se_can c34 (sg_cons (se_name _) (sg_cons (se_name _) sg_nil))))) (slt_seq (SS.t (ss_assign (se_meth cb_join (se_strc _) (sg_cons (se_comp' (caps:=["ways","choice"]) ⟨by rfl,by decide +kernel,by decide +kernel,by decide +kernel,by decide +kernel,by decide +kernel⟩ (se_call_t cb_range b5 (sg_cons (se_len _ b1) sg_nil)) si_nil (se_can c36 (sg_cons (se_own_idx _ (se_name _)) (sg_cons (se_bin2 (se_bin2 (se_bin2 (se_name _) (se_int _)) (se_bin2 (se_int _) (se_name _))) (se_int _)) sg_nil)))) sg_nil) PySem.F.plainAttrs_str PySem.F.slot_str_join PySem.F.type_str_join))) (slt_seq (sst_assign (set_call1 c39 (set_cant t23 (sg_cons (se_name _) sg_nil)))) (slt_seq (SS.t (ss_assign (se_if (st_cmp (se_name _) (se_strc _)) (se_can c19 (sg_cons (se_name _) sg_nil)) (se_can c15 (sg_cons (se_name _) (sg_cons (se_encode (se_name _)) sg_nil)))))) (slt_seq (SS.t (ss_assign (se_bin2 (se_meth cb_join (se_strc _) (sg_cons (se_comp' (caps:=["alphabet"]) ⟨by rfl,by decide +kernel,by decide +kernel,by decide +kernel,by decide +kernel,by decide +kernel⟩ (se_name _) si_nil (se_own_idx _ (se_name _))) sg_nil) PySem.F.plainAttrs_str PySem.F.slot_str_join PySem.F.type_str_join) (se_bin2 (se_strc _) (se_bin2 (se_neg (se_len _ b1)) (se_int _)))))) (slt_seq (sst_ite (st_bool (sa_or (st_cmp (se_name _) se_none) (sa_or (st_cmp (se_len _ b1) (se_len _ b1)) (sa_or (st_cmpx (se_call_t cb_type b8 (sg_cons (se_name _) sg_nil)) (se_blt_ty b7)) (sa_or (st_cmp (se_name _) (se_encode (se_name _))) sa_or_nil))))) (slt_seq (SS.t (ss_return (se_bool false))) (SL.t sl_nil)) (SL.t sl_nil)) (slt_seq (sst_ite (st_not (st_val (se_can c41 (sg_cons (se_bin2 (se_bin2 (se_slc (se_name _) sp_none (sp_some (se_int _))) (se_strc _)) (se_slc (se_name _) (sp_some (se_int _)) sp_none)) (sg_cons (se_name _) (sg_cons (se_name _) sg_nil)))))) (slt_seq (SS.t (ss_return (se_bool false))) (SL.t sl_nil)) (SL.t sl_nil)) (slt_seq (SS.t (ss_assign (se_bin2 (se_name _) (se_len _ b1)))) (slt_seq (SS.t (ss_assign (se_bin2 (se_slc (se_name _) sp_none (sp_some (se_int _))) (se_strc _)))) (slt_seq (SS.t (ss_for (se_bin2 (se_name _) (se_strc _)) (sl_seq (ss_assign (se_bin2 (se_bin2 (se_slc (se_name _) sp_none (sp_some (se_name _))) (se_name _)) (se_slc (se_name _) (sp_some (se_bin2 (se_name _) (se_int _))) sp_none))) (sl_seq (ss_assign (se_cmp (se_name _) (se_own_idx _ (se_name _)))) (sl_seq (ss_ite (st_bool (sa_or (st_cmpx (se_can c40 (sg_cons (se_name _) (sg_cons (se_name _) sg_nil))) (se_name _)) (sa_or (st_cmpx (se_can c41 (sg_cons (se_name _) (sg_cons (se_name _) (sg_cons (se_name _) sg_nil)))) (se_name _)) sa_or_nil))) (sl_seq (ss_return (se_bool false)) sl_nil) sl_nil) sl_nil))))) (slt_seq (SS.t (ss_for (se_call_t cb_range b5 (sg_cons (se_int _) sg_nil)) (sl_seq (ss_un2 (se_tuple (sg_cons (se_strc _) (sg_cons (se_bool true) sg_nil)))) (sl_seq (ss_for (se_call_t cb_range b5 (sg_cons (se_len _ b1) sg_nil)) (sl_seq (ss_assign (se_bin2 (se_bin2 (se_bin2 (se_own_idx _ (se_bin2 (se_bin2 (se_name _) (se_name _)) (se_len _ b1))) (se_int _)) (se_bin2 (se_int _) (se_name _))) (se_bin2 (se_int _) (se_name _)))) (sl_seq (ss_aug (se_if (st_cmp (se_bin2 (se_name _) (se_int _)) (se_int _)) (se_own_idx _ (se_bin2 (se_bin2 (se_name _) (se_int _)) (se_len _ b1))) (se_idx (se_own_idx _ (se_name _)) (se_bin2 (se_name _) (se_call_b cb_len b1 (sg_cons (se_own_idx _ (se_name _)) sg_nil)))))) (sl_seq (ss_assign (se_and2 (se_name _) (se_cmp (se_own_idx _ (se_name _)) (se_own_idx _ (se_name _))))) sl_nil)))) (sl_seq (ss_ite (st_bool (sa_or (st_cmpx (se_can c40 (sg_cons (se_name _) (sg_cons (se_name _) sg_nil))) (se_name _)) (sa_or (st_cmpx (se_can c41 (sg_cons (se_encode (se_name _)) (sg_cons (se_name _) (sg_cons (se_name _) sg_nil)))) (se_name _)) sa_or_nil))) (sl_seq (ss_return (se_bool false)) sl_nil) sl_nil) sl_nil))))) (slt_seq (SS.t (ss_return (se_bool true))) (SL.t sl_nil))))))))))))))))))),?_⟩
  intro ns K X hns hK
  have hfn:fits (vints ns).length:=Nat.le_trans (Nat.le_of_eq (List.length_map _)) (Nat.le_trans hns (by decide))
  refine seqP2 (fun (_:Int) (rest:List Int) => rest.length ≤ 11) (fun c0 rest => [("script",.val (.list (vints ns))),("numbers",.val (.list (vints (c0 :: rest))))]) (fun N hN => And.intro hfn ?_) ?_
  · cases ns with
    | nil => exact ifF rfl (And.intro sm8 (And.intro sm8 (hN 13 [1,2,166,31] (by decide))))
    | cons c0 rest =>
      refine ifT rfl (And.intro hfn ?_)
      rw [show slc (vints (c0 :: rest)) none (some 12) = vints (c0 :: rest.take 11) from (slc_take _ 12).trans (congrArg (_ :: ·) List.map_take.symm)]
      exact hN c0 _ (List.length_take_le _ _)
  intro c0 rest hrest
  have hfn:fits (vints (c0 :: rest)).length:=Nat.le_trans (Nat.le_of_eq (List.length_map _)) (Nat.le_trans (Nat.succ_le_succ hrest) (by decide))
  refine seqTo (lwA ns c0 rest []) (fun N hN => And.intro hfn (Exists.intro _ (And.intro rfl hN))) ?_
  refine seqP2 (fun m1 m2 => m1 ∈ marks14 ∧ m2 ∈ marks14 ∧ m1 ≠ m2) (fun m1 m2 => lwA ns c0 rest [("marks",.val (.str [m1,m2]))]) (fun N hN => P31.mk c0 rfl fun m1 m2 h1 h2 h3 => hN m1 m2 ⟨h1,h2,h3⟩) ?_
  rintro m1 m2 ⟨hm1,hm2,hne⟩
  refine seqTo (lwM ns c0 rest m1 m2 []) (fun N hN => And.intro (And.intro rfl (by rw [letters_cs]; exact sm8)) (by rw [letters_cs]; exact hN)) ?_
  refine seqP (fun ds:List Nat => ds.length ≤ 6 ∧ ∀ d ∈ ds,d < 64) (fun ds => lwM ns c0 rest m1 m2 [("drawn",.own (outV ds))]) (fun N hN => And.intro caps0 (And.intro hfn ?_)) ?_
  · rw [show slc (vints (c0 :: rest)) (some 1) (some 7) = vints (rest.take 6) from (slc_nat _ 1 7 (by decide)).trans List.map_take.symm]
    obtain ⟨ds,h1,h2,h3⟩:=draw_list (rest.take 6)
    have hl6:(rest.take 6).length ≤ 6:=List.length_take_le _ _
    refine And.intro caps0 (Exists.intro _ (And.intro rfl (And.intro (Nat.le_trans (Nat.le_of_eq (List.length_map _)) (Nat.le_trans hl6 (by decide))) (compI_map (fun v => V.int (drawI (intOf v))) _ (fun u hu M hM => ?_) ?_))))
    · obtain ⟨i,hi,rfl⟩:=List.mem_map.mp hu
      have hM:M (V.int (drawI i)):=hM
      unfold drawI at hM
      refine And.intro (by decide) (ifB (fun c => ?_) fun c => ?_)
      · rw [if_pos (of_decide_eq_true c)] at hM
        exact And.intro (by decide) (And.intro rfl hM)
      · rw [if_neg (of_decide_eq_false c)] at hM
        exact And.intro (And.intro (by decide) (small_nat (n:=4) (by decide))) (And.intro (by decide) (And.intro rfl hM))
    · rw [h3]
      exact And.intro rfl (hN ds ⟨by rw [h1]; exact hl6,h2⟩)
  rintro ds ⟨hdl,hdlt⟩
  refine seqP (fun row:List UInt8 => 1 ≤ row.length ∧ row.length ≤ 6) (fun row => lwM ns c0 rest m1 m2 [("drawn",.val (.list (outV ds))),("row",.val (.bytes row))]) (fun N hN => ?_) ?_
  · obtain ⟨k1,hk1,ek1⟩:=fmod_ex (c0.fdiv 64) 64 (by decide)
    obtain ⟨k2,hk2,ek2⟩:=fmod_ex (c0.fdiv 4) 2 (by decide)
    refine And.intro (And.intro (by decide) (small_nat (n:=64) (by decide))) (And.intro (by decide) (And.intro (And.intro (by decide) (small_nat (n:=4) (by decide))) (And.intro (by decide) (And.intro fits2 (And.intro (And.intro rfl ?_) (P32.mk (k1 :: (62 + k2) :: ds) ?_ ?_ ?_ ?_ fun row h1 h6 => hN row ⟨h1,h6⟩))))))
    · exact Nat.le_trans (Nat.add_le_add_left (Nat.le_trans (Nat.le_of_eq (outV_len ds)) hdl) 2) (by decide)
    · rw [show (c0.fdiv 64).fmod 64 = (k1:Int) from ek1,show (c0.fdiv 4).fmod 2 = (k2:Int) from ek2]; rfl
    · exact Nat.le_add_left 2 _
    · exact Nat.add_le_add_right hdl 2
    · exact List.forall_mem_cons.mpr ⟨hk1,List.forall_mem_cons.mpr ⟨Nat.lt_of_lt_of_le (Nat.add_lt_add_left hk2 62) (by decide),hdlt⟩⟩
  rintro row ⟨hr1,hr6⟩
  have hl:(row.map (·.toNat)).length = row.length:=List.length_map _
  have hfm:=figs_mod (row:=row.map (·.toNat)) (by rw [hl]; exact hr1) (by rw [hl]; exact hr6)
  have hlast:=figs_l64 hr1
  refine seqTo (lwM ns c0 rest m1 m2 [("drawn",.val (.list (outV ds))),("row",.val (.bytes row)),("figures",.val (.list (vnats (figsL (row.map fun (x:UInt8) => x.toNat)))))]) (fun N hN => P33.mk row rfl hr1 hr6 hN) ?_
  refine seqP2 (fun figs ways => ∃ base,LawF row m1 m2 figs ways base) (fun figs ways => lwB ns c0 rest m1 m2 ds row figs ways []) (fun N hN => ?_) ?_
  · have hF:=law_f hr1 hr6 hm1 hm2 hne
    exact P34.mk _ _ rfl rfl (figs_ge hr1) (figs_le hr6) figs_lt hfm.1 (fun h => x16' _ hlast (hfm.2.1 h)) (fun h => x4' _ hlast (hfm.2.2 h)) (hN _ _ ⟨_,hF⟩)
  rintro figs ways ⟨base,⟨L,hb,he,hf8,hf64⟩⟩
  have P:=pat_f L c0
  have hw8:ways.length ≤ 8:=by rw [L.wl]; exact L.n8
  have hwl:(ways.map vsigns).length = ways.length:=List.length_map _
  have hfw:fits (ways.map vsigns).length:=by rw [hwl]; exact Nat.le_trans hw8 (by decide)
  have hm128:=(marks_facts m1 hm1).1
  have hm128':=(marks_facts m2 hm2).1
  have hr100:row.length ≤ 100:=Nat.le_trans hr6 (by decide)
  refine seqTo (lwB ns c0 rest m1 m2 ds row figs ways [("pattern",.val (.str (patL c0 ways)))]) (fun N hN => And.intro rfl (And.intro (caps2 ⟨_,rfl⟩ ⟨_,rfl⟩) (lenP.mk _ _ rfl rfl hfw (And.intro (near_le (by rw [hwl]; exact Nat.le_trans hw8 (by decide))) (And.intro (caps2 ⟨_,rfl⟩ ⟨_,rfl⟩) (Exists.intro _ (And.intro rfl (And.intro ?_ (compI_map (patG c0 ways) _ (fun u hu M hM => ?_) ?_))))))))) ?_
  · rw [List.length_map,List.length_range,Int.toNat_natCast]; exact hfw
  · obtain ⟨i,hi,rfl⟩:=List.mem_map.mp hu
    rw [hwl] at hi
    have hi:=List.mem_range.mp hi
    have hw:=L.wok _ (getD_mem hi)
    rw [show patG c0 ways (V.int (0 + (i:Int) * 1)) = patG c0 ways (V.int i) by rw [zero_mul1]] at hM
    exact And.intro hfw (Exists.intro _ (And.intro (ways_at hi (zero_mul1 i)) (And.intro (And.intro (by decide) (small_nat (n:=4) (by decide))) (And.intro (small_nat (n:=3) (by decide)) (And.intro (by decide) (P36.mk (ways.getD i []) (howL c0 i) (by rw [zero_mul1,(howL_ok c0 i).2]) hw.1 hw.2.1 hw.2.2 (And.intro rfl hM)))))))
  · rw [hwl,pat_list,cs0]
    refine joinI ?_ ?_
    · rw [List.length_nil,Nat.mul_zero,← List.length_flatten]; exact Nat.le_trans P.h1 (by decide)
    · rw [joinL_flat]; exact hN
  refine seqTo (lwB ns c0 rest m1 m2 ds row figs ways [("pattern",.val (.str (patL c0 ways))),("atoms",.val (.list (vstrs (atL c0 ways))))]) (fun N hN => P23.mk _ _ rfl (Nat.le_trans P.h1 (by decide)) P.h2 P.tr (Nat.le_trans P.o1 (by decide)) (Nat.le_trans P.o2 (by decide)) (P39.mk _ _ rfl (Nat.le_trans P.o2 (by decide)) P.o3 P.rd hN)) ?_
  refine seqTo (lwB ns c0 rest m1 m2 ds row figs ways [("pattern",.val (.str (patL c0 ways))),("atoms",.val (.list (vstrs (atL c0 ways)))),("written",.val (.bytes (bytesL base)))]) (fun N hN => ifB (fun c => P19.mk row rfl hr100 ?_) fun c => Exists.intro _ (And.intro rfl (And.intro fits2 (ifT (asc2 hm128 hm128') (P15.two row _ _ rfl hr100 (by rw [he]; exact hN)))))) ?_
  · rw [uenc_eq,u_tab c,he]
    exact hN
  have hb64:(figs.map fun v => (alph m1 m2).getD v 0).length ≤ 8:=by rw [List.length_map]; exact hf8
  have hbf:=hb
  refine seqTo (lwC ns c0 rest m1 m2 ds row figs ways base []) (fun N hN => And.intro rfl (And.intro (caps1 ⟨_,rfl⟩) (And.intro (caps1 ⟨_,rfl⟩) (Exists.intro _ (And.intro rfl (And.intro (by rw [vnats_len]; exact Nat.le_trans hf8 (by decide)) (compI_map (figG m1 m2) _ (fun u hu M hM => ?_) ?_))))))) ?_
  · obtain ⟨v,hv,rfl⟩:=mem_vnats hu
    exact And.intro sm8 (Exists.intro _ (And.intro (alph_at (hf64 v hv)) (And.intro rfl hM)))
  · rw [fig_list,cs0]
    refine joinI ?_ ?_
    · rw [sum_single,List.length_nil,Nat.mul_zero]; exact Nat.le_trans hb64 (by decide)
    · rw [joinL_nil,flat_single]
      refine lenP.mk _ _ rfl rfl (by rw [vnats_len]; exact Nat.le_trans hf8 (by decide)) (And.intro (by decide) ?_)
      rw [vnats_len,(pads _ hf8).1]
      have hp3:=(pads _ hf8).2
      generalize (4 - figs.length % 4) % 4 = p at *
      refine And.intro (And.intro rfl (And.intro (Int.le_trans (by decide) (Int.natCast_nonneg _)) (And.intro (Int.ofNat_le.mpr (Nat.le_trans hp3 (by decide))) ?_))) (And.intro (And.intro rfl ?_) ?_)
      · rw [csE]; exact Nat.le_trans (Nat.mul_le_mul_left 1 hp3) (by decide)
      · rw [rep_eq1,List.length_replicate]; exact Nat.le_trans (Nat.add_le_add hb64 hp3) (by decide)
      · rw [rep_eq1,← hb]; exact hN
  have hfa:fits (vstrs (atL c0 ways)).length:=by rw [vstrs_len',P.a1]; exact Nat.le_trans hw8 (by decide)
  have hasc:=asc_ok L.blt
  have hfb:fits base.length:=Nat.le_trans L.n8 (by decide)
  have hlenq:((vstrs (atL c0 ways)).length != ((ways.map vsigns).length:Int)) = false:=by rw [vstrs_len',P.a1,hwl,bne_self_eq_false]
  have hbq:(bytesL base != bytesL base) = false:=bne_self_eq_false _
  have hfwl:fits ways.length:=Nat.le_trans hw8 (by decide)
  refine seqTo (lwC ns c0 rest m1 m2 ds row figs ways base []) (fun N hN => lenP.mk _ _ rfl rfl hfa (lenP.mk _ _ rfl rfl hfw (ifF hlenq (typeI rfl (cmpX.nt "bytes" "bytes" rfl rfl rfl (?_)))))) ?_
  · exact Exists.intro _ (And.intro rfl (And.intro hfb (ifT hasc (ifF hbq (ifF rfl hN)))))
  have hnl:readIs (octOf (.str (base.take 1 ++ cs "\n" ++ base.drop 1))) (if m1 = 45 ∧ m2 = 95 then udecE else mkL [m1.toUInt8,m2.toUInt8] [43,47]) row = true:=by rw [csNl]; exact law_nl L hm128 hm128' hne
  have htk1:(base.take 1 ++ cs "\n").length ≤ 2:=by rw [csNl,List.length_append]; exact Nat.add_le_add_right (List.length_take_le _ _) 1
  have hdr8:(base.drop 1).length ≤ 8:=by rw [List.length_drop]; exact Nat.le_trans (Nat.sub_le _ _) L.n8
  refine seqTo (lwC ns c0 rest m1 m2 ds row figs ways base []) (fun N hN => And.intro hfb ?_) ?_
  · rw [show slc base none (some 1) = base.take 1 from slc_take base 1]
    refine And.intro (And.intro rfl (Nat.le_trans (Nat.le_of_eq List.length_append.symm) (Nat.le_trans htk1 (by decide)))) (And.intro hfb ?_)
    rw [show slc base (some 1) none = base.drop 1 from slc_drop base 1]
    refine And.intro (And.intro rfl (Nat.le_trans (Nat.add_le_add htk1 hdr8) (by decide))) (P41.mk _ m1 m2 row rfl (.str (by rw [List.length_append]; exact Nat.le_trans (Nat.add_le_add htk1 hdr8) (by decide))) hm128 hm128' ?_)
    rw [hnl]
    exact hN
  obtain ⟨p,hp,ep⟩:=fmod_ex c0 base.length (Nat.lt_of_lt_of_le (by decide) L.n4)
  refine seqTo (lwC ns c0 rest m1 m2 ds row figs ways base [("place",.val (.int p))]) (fun N hN => lenP.mk _ _ rfl rfl hfb (And.intro (Int.ofNat_ne_zero.mpr (Nat.ne_of_gt (Nat.lt_of_lt_of_le (by decide) L.n4))) (by rw [ep]; exact hN))) ?_
  refine seqTo (lwD ns c0 rest m1 m2 ds row figs ways base p []) (fun N hN => And.intro sm8 ?_) ?_
  · rw [show slc (alph m1 m2) none (some 62) = letters from slc_take _ 62,known_cs]
    exact And.intro (And.intro rfl sm8) hN
  have hpw:p < ways.length:=by rw [L.wl]; exact hp
  have hlt:(base.take p).length ≤ 8:=Nat.le_trans (List.length_take_le' _ _) L.n8
  refine seqP3 (fun u v w => lwD ns c0 rest m1 m2 ds row figs ways base p [("sign",.val u),("name",.val v),("due",.val w)]) (fun N hN => And.intro (And.intro rfl (by rw [csEe]; exact sm8)) (Exists.intro _ (And.intro rfl (forI_rule (I:=fun k σ => (k = 0 ∧ σ = lwD ns c0 rest m1 m2 ds row figs ways base p []) ∨ ∃ u v w,σ = lwD ns c0 rest m1 m2 ds row figs ways base p [("sign",.val u),("name",.val v),("due",.val w)]) _ (fun k u σ N' hk hI hN' => ?_) ?_ _ (.inl ⟨rfl,rfl⟩))))) ?_
  · rw [List.getElem?_map,Option.map_eq_some_iff] at hk
    obtain ⟨c,hc,rfl⟩:=hk
    have hnl:=name_len hp c
    have hdue:=due_eq L hp c
    refine seqTo2 (lwD ns c0 rest m1 m2 ds row figs ways base p [("sign",.val (.str [c])),("name",.val (.str (base.take p ++ [c] ++ base.drop (p + 1)))),("due",.val (.bool (tk ways (base.take p ++ [c] ++ base.drop (p + 1)))))]) (fun N2 hN2 => ?_) ?_
    · rw [← hdue] at hN2
      have e1:slc base none (some (p:Int)) = base.take p:=slc_take base p
      have e2:slc base (some ((p:Int) + 1)) none = base.drop (p + 1):=slc_drop base (p + 1)
      have hf1:fits ((base.take p).length + 1):=Nat.le_trans (Nat.add_le_add_right hlt 1) (by decide)
      have hf2:fits ((base.take p ++ [c]).length + (base.drop (p + 1)).length):=by rw [← List.length_append,hnl]; exact hfb
      rcases hI with ⟨_,rfl⟩ | ⟨u,v,w,rfl⟩
      · refine And.intro hfb ?_
        rw [e1]
        refine And.intro (And.intro rfl hf1) (And.intro hfb ?_)
        rw [e2]
        exact And.intro (And.intro rfl hf2) (And.intro hfw (Exists.intro _ (And.intro (ways_at hpw rfl) (Exists.intro _ (And.intro rfl hN2)))))
      · refine And.intro hfb ?_
        rw [e1]
        refine And.intro (And.intro rfl hf1) (And.intro hfb ?_)
        rw [e2]
        exact And.intro (And.intro rfl hf2) (And.intro hfw (Exists.intro _ (And.intro (ways_at hpw rfl) (Exists.intro _ (And.intro rfl hN2)))))
    generalize base.take p ++ [c] ++ base.drop (p + 1) = nm at *
    have ht:takenB (atL c0 ways) nm (atL c0 ways).length = tk ways nm:=P.a3 nm
    have hr:readIs (octOf (.str nm)) (if m1 = 45 ∧ m2 = 95 then udecE else mkL [m1.toUInt8,m2.toUInt8] [43,47]) row = tk ways nm:=law_str L hm128 hm128' hne hnl
    refine P40.mk (atL c0 ways) nm rfl (by rw [hnl,P.a1,L.wl]) (by rw [P.a1]; exact Nat.le_trans hw8 (by decide)) P.a2 ?_
    rw [ht]
    refine cmpX.ne _ _ rfl rfl rfl (ifF (bne_self_eq_false _) (P41.mk _ m1 m2 row rfl (.str (by rw [hnl]; exact Nat.le_trans L.n8 (by decide))) hm128 hm128' ?_))
    rw [hr]
    exact cmpX.ne _ _ rfl rfl rfl (ifF (bne_self_eq_false _) (ifF rfl (hN' _ (.inr ⟨_,_,_,rfl⟩))))
  · rintro σ (⟨h,_⟩ | ⟨u,v,w,rfl⟩)
    · rw [List.length_map,List.length_append,csEe] at h
      cases h
    · exact hN u v w
  intro u0 v0 w0
  have hlen:(vints (c0 :: rest)).length = rest.length + 1:=List.length_map _
  have hn0:((vints (c0 :: rest)).length:Int) ≠ 0:=by rw [hlen]; exact Int.ofNat_ne_zero.mpr (Nat.succ_ne_zero _)
  refine And.intro (And.intro (by decide) (by decide)) (Exists.intro _ (And.intro rfl (forI_rule (I:=fun k σ => ∃ v w tl,TJ tl ∧ σ = lwD ns c0 rest m1 m2 ds row figs ways base p (("sign",.val u0) :: ("name",.val v) :: ("due",.val w) :: tl)) _ (fun j u σ N' hk hI hN' => ?_) (fun σ ℓ => hK) _ ⟨v0,w0,[],.nil,rfl⟩)))
  obtain ⟨hj,rfl⟩:=rng_at (n:=10) hk
  refine seqP (α:=Sto) TK (fun tl => lwD ns c0 rest m1 m2 ds row figs ways base p (("sign",.val u0) :: ("name",.val (.str [])) :: ("due",.val (.bool true)) :: ("j",.val (.int j)) :: tl)) (fun N hN => ?_) ?_
  · rw [cs0]
    rcases hI with ⟨v,w,tl,ht,rfl⟩
    cases ht with
    | nil => exact And.intro fits2 (And.intro rfl (hN _ .nil))
    | mk => exact And.intro fits2 (And.intro rfl (hN _ (.mk _ _)))
  intro tl ht
  refine seqP4 (fun nm x y => nm.length = ways.length ∧ ∀ c ∈ nm,c < 128) (fun (nm:List Nat) (x y:V) => lwD ns c0 rest m1 m2 ds row figs ways base p (("sign",.val u0) :: ("name",.val (.str nm)) :: ("due",.val (.bool (tk ways nm))) :: ("j",.val (.int j)) :: ("k",.val x) :: ("n",.val y) :: [])) (fun N hN => lenP.mk _ _ rfl rfl hfw (And.intro (near_le (by rw [hwl]; exact Nat.le_trans hw8 (by decide))) (Exists.intro _ (And.intro rfl (forI_rule (I:=fun k σ => ∃ (nm:List Nat) (tl:Sto),(nm.length = k ∧ (∀ c ∈ nm,c < 128) ∧ TK tl ∧ (k = 0 ∨ ∃ x y,tl = [("k",.val x),("n",.val y)])) ∧ σ = lwD ns c0 rest m1 m2 ds row figs ways base p (("sign",.val u0) :: ("name",.val (.str nm)) :: ("due",.val (.bool (tk (ways.take k) nm))) :: ("j",.val (.int j)) :: tl)) _ (fun k u σ N2 hk hI hN2 => ?_) ?_ _ ⟨[],tl,⟨rfl,nofun,ht,.inl rfl⟩,rfl⟩))))) ?_
  · obtain ⟨hkw,rfl⟩:=rng_at hk
    rw [hwl] at hkw
    obtain ⟨nm,tl,⟨hnm,hnm2,ht,_⟩,rfl⟩:=hI
    obtain ⟨q,hq,eq⟩:=fmod_ex ((j:Int) + (k:Int)) (rest.length + 1) (Nat.succ_pos _)
    refine seqP (fun _:Int => True) (fun z => lwD ns c0 rest m1 m2 ds row figs ways base p (("sign",.val u0) :: ("name",.val (.str nm)) :: ("due",.val (.bool (tk (ways.take k) nm))) :: ("j",.val (.int j)) :: ("k",.val (.int k)) :: ("n",.val (.int z)) :: [])) (fun N3 hN3 => ?_) ?_
    · have hat:at? (vints (c0 :: rest)) (((j:Int) + (k:Int)).fmod ((vints (c0 :: rest)).length:Int)) = some (.int (c0 :: rest)[q]):=by rw [hlen,eq]; exact vints_at hq
      cases ht with
      | nil => exact lenP.mk _ _ rfl rfl hfn (And.intro hn0 (And.intro hfn (Exists.intro _ (And.intro hat (And.intro (And.intro (by decide) (small_nat (n:=8) (by decide))) (And.intro (small_nat (n:=5) (by decide)) (And.intro (small_nat (n:=3) (by decide)) (hN3 _ trivial))))))))
      | mk => exact lenP.mk _ _ rfl rfl hfn (And.intro hn0 (And.intro hfn (Exists.intro _ (And.intro hat (And.intro (And.intro (by decide) (small_nat (n:=8) (by decide))) (And.intro (small_nat (n:=5) (by decide)) (And.intro (small_nat (n:=3) (by decide)) (hN3 _ trivial))))))))
    intro z _
    have hw:=L.wok _ (getD_mem hkw)
    have hfnm:fits (nm.length + 1):=by rw [hnm]; exact Nat.le_trans (Nat.le_trans hkw hw8) (by decide)
    refine seqP (fun c:Nat => c < 128) (fun c => lwD ns c0 rest m1 m2 ds row figs ways base p (("sign",.val u0) :: ("name",.val (.str (nm ++ [c]))) :: ("due",.val (.bool (tk (ways.take k) nm))) :: ("j",.val (.int j)) :: ("k",.val (.int k)) :: ("n",.val (.int z)) :: [])) (fun N4 hN4 => And.intro (by decide) (ifB (fun ℓ => ?_) fun ℓ => ?_)) ?_
    · obtain ⟨q2,hq2,eq2⟩:=fmod_ex (z.fdiv 9) 80 (by decide)
      have hat2:at? knownL ((z.fdiv 9).fmod (knownL.length:Int)) = some knownL[q2]:=by rw [known_len,eq2]; exact at_nat (List.getElem?_eq_getElem hq2)
      exact And.intro (And.intro (by decide) (small_nat (n:=9) (by decide))) (lenP.mk _ _ rfl rfl sm8 (And.intro (by decide) (And.intro sm8 (Exists.intro _ (And.intro hat2 (And.intro (And.intro rfl hfnm) (hN4 _ (known_lt _ (List.getElem_mem hq2)))))))))
    · obtain ⟨q3,hq3,eq3⟩:=fmod_ex z (ways.getD k []).length hw.1
      have hlw:(vstrs ((ways.getD k []).map fun c => [c])).length = (ways.getD k []).length:=(vstrs_len _).trans (List.length_map _)
      have hf3:fits (vstrs ((ways.getD k []).map fun c => [c])).length:=by rw [hlw]; exact Nat.le_trans hw.2.1 (by decide)
      have hat3:at? (vstrs ((ways.getD k []).map fun c => [c])) (z.fmod ((vstrs ((ways.getD k []).map fun c => [c])).length:Int)) = some (.str [(ways.getD k [])[q3]]):=by rw [hlw,eq3]; exact signs_at hq3
      have hne0:((vstrs ((ways.getD k []).map fun c => [c])).length:Int) ≠ 0:=by rw [hlw]; exact Int.ofNat_ne_zero.mpr (Nat.ne_of_gt hw.1)
      exact And.intro hfw (Exists.intro _ (And.intro (ways_at hkw rfl) (And.intro hfw (Exists.intro _ (And.intro (ways_at hkw rfl) (lenP.mk _ _ rfl rfl hf3 (And.intro hne0 (And.intro hf3 (Exists.intro _ (And.intro hat3 (And.intro (And.intro rfl hfnm) (hN4 _ (hw.2.2 _ (List.getElem_mem hq3))))))))))))))
    intro c hc
    have hsn:=tk_snoc (ways:=ways) (nm:=nm) (k:=k) (c:=c) hkw hnm
    have hall:∀ d ∈ nm ++ [c],d < 128:=fun d hd => (List.mem_append.mp hd).elim (hnm2 d) fun h => by rw [List.mem_singleton.mp h]; exact hc
    have hfn2:fits (nm ++ [c]).length:=by rw [List.length_append]; exact hfnm
    have fin:∀ b,b = tk (ways.take (k + 1)) (nm ++ [c]) → N2 (lwD ns c0 rest m1 m2 ds row figs ways base p (("sign",.val u0) :: ("name",.val (.str (nm ++ [c]))) :: ("due",.val (.bool b)) :: ("j",.val (.int j)) :: ("k",.val (.int k)) :: ("n",.val (.int z)) :: [])):=fun b hb => hN2 _ ⟨nm ++ [c],_,⟨by rw [List.length_append,hnm]; rfl,hall,.mk (.int k) (.int z),.inr ⟨_,_,rfl⟩⟩,congrArg (fun b => lwD ns c0 rest m1 m2 ds row figs ways base p (("sign",.val u0) :: ("name",.val (.str (nm ++ [c]))) :: ("due",.val (.bool b)) :: ("j",.val (.int j)) :: ("k",.val (.int k)) :: ("n",.val (.int z)) :: [])) hb⟩
    refine ifB (fun hb => ?_) fun hb => fin _ ?_
    · refine And.intro hfn2 (Exists.intro _ (And.intro (snoc_at hnm) (And.intro hfw (Exists.intro _ (And.intro (ways_at hkw rfl) (Exists.intro _ (And.intro rfl (fin _ ?_))))))))
      rw [hsn,hb,Bool.true_and]
      exact decide_eq_decide.mpr mem_single
    · rw [hsn,hb,Bool.false_and]
  · rintro σ ⟨nm,tl,⟨hnm,hnm2,_,h0 | ⟨x,y,rfl⟩⟩,rfl⟩
    · rw [List.length_map,List.length_range,Int.toNat_natCast,hwl,L.wl] at h0
      exact absurd (h0 ▸ L.n4:4 ≤ 0) (by decide)
    · rw [List.length_map,List.length_range,Int.toNat_natCast,hwl] at hnm ⊢
      rw [List.take_length]
      exact hN nm x y ⟨hnm,hnm2⟩
  rintro nm x y ⟨hnm,hnm2⟩
  have hl8:nm.length ≤ 8:=by rw [hnm]; exact hw8
  have ht:takenB (atL c0 ways) nm (atL c0 ways).length = tk ways nm:=P.a3 nm
  have hr:readIs (octOf (.bytes (bytesL nm))) (if m1 = 45 ∧ m2 = 95 then udecE else mkL [m1.toUInt8,m2.toUInt8] [43,47]) row = tk ways nm:=law_byt L hm128 hm128' hne (hnm.trans L.wl) hnm2
  refine P40.mk (atL c0 ways) nm rfl (by rw [hnm,P.a1]) (by rw [P.a1]; exact Nat.le_trans hw8 (by decide)) P.a2 ?_
  rw [ht]
  refine cmpX.ne _ _ rfl rfl rfl (ifF (bne_self_eq_false _) (Exists.intro _ (And.intro rfl (And.intro (Nat.le_trans hl8 (by decide)) (ifT (asc_ok hnm2) (P41.mk _ m1 m2 row rfl (.byt (Nat.le_trans (Nat.le_of_eq (List.length_map _)) (Nat.le_trans hl8 (by decide)))) hm128 hm128' ?_))))))
  rw [hr]
  exact cmpX.ne _ _ rfl rfl rfl (ifF (bne_self_eq_false _) (ifF rfl (hN' _ ⟨_,_,_,.mk _ _ _,rfl⟩)))
end
noncomputable section
set_option maxHeartbeats 4000000
noncomputable def DoneB (s₁:Shared) (tabs:List (Addr × Addr)) (r:Result) (s':Shared):Prop :=
  r = .ok (.ret (.bool true)) ∧ (∀ b o,(ghostOf s₁.heap tabs).get? b = some o → s'.heap.get? b = some o) ∧ s'.os = s₁.os ∧ AllBare s'.gens ∧ GrownAll tabs s'.heap
theorem postB {M:Model} {A:Around} {cd:Code} {s s₁:Shared} {cw:ClaimW} {cl:Str → Option Addr} {mean:ExcName → Option Value} {args:List WData} {tabs:List (Addr × Addr)} (hT:TabsAt tabs s₁.heap) (hr:∀ x,cw.raises args x = false) (hp:cw.post args (.bool true) args = true)
    (h:codeAny M A cd (DoneB s₁ tabs) s):codeAny M A cd (GoodWG cw cl mean args s₁) s:=by
  refine codeAny_mono h fun r s' x => ?_
  obtain ⟨x1,x2,x3,x4,x5⟩:=x
  refine ⟨.inl ⟨.bool true,.bool true,[],x1,hr,.bool true,hp,fun ℓ => ⟨List.nodup_nil,fun a ha => nomatch ha⟩⟩,⟨fun b o e => ?_,fun b o e => ?_⟩,x3,x4⟩
  · by_cases hb:b ∈ tabs.map (·.2)
    · obtain ⟨q,hq,rfl⟩:=List.mem_map.mp hb
      obtain ⟨ps,hps⟩:=x5.get q hq
      have e2:=(hT q hq).2
      rw [e2] at e
      cases e
      exact .inr (.inl ⟨((hT q hq).1.tab e2).isCodeTable,rfl,#[],ps,rfl,by rw [Array.empty_append]; exact hps⟩)
    · exact .inl (x2 b o (ghost_ne e hb))
  · by_cases hb:b ∈ tabs.map (·.2)
    · obtain ⟨q,hq,rfl⟩:=List.mem_map.mp hb
      obtain ⟨ps,hps⟩:=x5.get q hq
      exact ⟨_,hps⟩
    · exact ⟨o,x2 b o (ghost_ne e hb)⟩
noncomputable def dataAt (K:Frag) (a:Addr):Option Data:=(K.lookup a).map (·.data)
theorem dataAt_in {K:Frag} {h:Heap} (X:K.In h) {a:Addr} {d:Data} (e:dataAt K a = some d):∃ o,h.get? a = some o ∧ o.data = d:=by
  unfold dataAt at e
  cases hl:K.lookup a with
  | none => rw [hl] at e; cases e
  | some o =>
    rw [hl] at e
    exact ⟨o,X _ _ hl,Option.some.inj e⟩
section
variable {W:Wd} {K:Frag} {mg mb:Str → Option Value}
theorem fnat_mk (X:K.In W.base) {k:Nat} {a:Addr} {fd:FuncData} {c:Addr} {vs:Array Value} {t:Tok}
    (h1:dataAt K a = some (.func fd)) (hb:fd.body = .stmts (fnBody (fn k)))
    (hc:fd.closure = []) (hg:fd.globals = mainGlobals) (hbl:fd.builtins = builtinsNs)
    (hco:fd.code = .ref c) (hcv:dataAt K c = some (.fields vs)) (hq:vs[1]? = some (.str fd.qualname t))
    (k1:fd.scope.kind = .function) (k2:fd.scope.isCoroutine = false) (k3:fd.scope.isGenerator = false):FnAt W a fd (fnBody (fn k)):=by
  obtain ⟨oc,hoc,hod⟩:=dataAt_in X hcv
  exact ⟨dataAt_in X h1,hb,hc,hg,hbl,⟨c,oc,vs,t,hco,hoc,hod,hq⟩,k1,k2,k3⟩
theorem fun_mk (X:K.In W.base) (G:W.base.Ns mainGlobals mg) (WL:W.base.NoLimit) {k:Nat} {name:String} {a:Addr} {fd:FuncData} (F:FnAt W a fd (fnBody (fn k)))
    (h2:nsIn K mainGlobals (nm name) = some (some (.ref a))) (hsc:fd.scope = fnScope (fn k)) (hpa:fd.params = fnParams (fn k)) (hd:fd.defaults = .none):Fun W k name a fd :=
  ⟨F,hsc,hpa,⟨mg,G,mg_of X G h2⟩,WL,hd⟩
theorem fund_mk (X:K.In W.base) (G:W.base.Ns mainGlobals mg) (WL:W.base.NoLimit) {k:Nat} {name:String} {a T:Addr} {fd:FuncData} {ds:List Value} {n:Nat} (F:FnAt W a fd (fnBody (fn k)))
    (h2:nsIn K mainGlobals (nm name) = some (some (.ref a))) (hsc:fd.scope = fnScope (fn k)) (hpa:fd.params = fnParams (fn k)) (hd:fd.defaults = .ref T) (hT:dataAt K T = some (.seq ds.toArray n)):FunD W k name a fd ds:=by
  obtain ⟨o,h3,h4⟩:=dataAt_in X hT
  exact ⟨F,hsc,hpa,⟨mg,G,mg_of X G h2⟩,WL,⟨T,o,n,hd,h3,h4⟩⟩
theorem glob_mk (X:K.In W.base) (G:W.base.Ns mainGlobals mg) {x:Str} {v:Value} (h2:nsIn K mainGlobals x = some (some v)):GlobV W x v:=⟨mg,G,mg_of X G h2⟩
theorem blt_mk {p:Program} {loose:List Str} {mean:ExcName → Option Value} (X:K.In W.base) (T:Top p loose mean mg mb W.base) {x:Str} {v:Value} (h:nsIn K mainGlobals x = some none) (hn:x ≠ "__name__") (hv:bootBuiltins x = some v):BltV W x v :=
  ⟨mg,mb,T.g,mg_none_of X T.g h,T.b,(T.builtins x hn).trans hv⟩
theorem blts_mk {p:Program} {loose:List Str} {mean:ExcName → Option Value} (X:K.In W.base) (T:Top p loose mean mg mb W.base)
    (h:∀ x ∈ ["len","ord","chr","sorted","range","list","bytes","type","str","bool","isinstance","object","ValueError",UEE],nsIn K mainGlobals (nm x) = some none):Blts W:=by
  have go:∀ (x:String) (v:Value),x ∈ ["len","ord","chr","sorted","range","list","bytes","type","str","bool","isinstance","object","ValueError",UEE] → nm x ≠ "__name__" → bootBuiltins (nm x) = some v → BltV W (nm x) v :=
    fun x v hx hn hv => blt_mk X T (h x hx) hn hv
  exact ⟨go _ _ (by decide) (by decide) (by kernel_rfl),go _ _ (by decide) (by decide) (by kernel_rfl),go _ _ (by decide) (by decide) (by kernel_rfl),go _ _ (by decide) (by decide) (by kernel_rfl),
    go _ _ (by decide) (by decide) (by kernel_rfl),go _ _ (by decide) (by decide) (by kernel_rfl),go _ _ (by decide) (by decide) (by kernel_rfl),go _ _ (by decide) (by decide) (by kernel_rfl),
    go _ _ (by decide) (by decide) (by kernel_rfl),go _ _ (by decide) (by decide) (by kernel_rfl),go _ _ (by decide) (by decide) (by kernel_rfl),go _ _ (by decide) (by decide) (by kernel_rfl),
    go _ _ (by decide) (by decide) (by kernel_rfl),go _ _ (by decide) (by decide) (by kernel_rfl)⟩
theorem bltmod_mk {p:Program} {loose:List Str} {mean:ExcName → Option Value} (T:Top p loose mean mg mb W.base):BltMod W:=by
  obtain ⟨bm,ob,a1,a2,a3,a4,a5,a6⟩:=T.bmain
  exact ⟨mg,bm,ob,T.g,a1,a2,a3,a4,a5,a6⟩
theorem codetab_mk {c:Addr} (C:CodeHd W.base c W.P):CodeTab W c:=fun h ps hs hP ht =>
  ⟨(C.keeps hs).code hP ht,(C.keeps hs).tab hP⟩
end
set_option tactic.hygienic true in
theorem law_start {W:Wd} {sc:Scope} {n:Nat} {body:List Stmt} {t:TS} (hsl:SL W sc n body t) {nameS:Str} {L fa a:Addr} {cd:Value} {h₁:Heap} {m:Str → Option Value} {g:Array GenState} {d:Drawn} {tk:Nat} {os:OsState} {items:Array Value} {ns:List Int}
    (F':Fr W.base L h₁ m) (hm:m (nm "script") = some (.ref a)) (hkd:(envOfC nameS sc L fa cd).kindOf (nm "script") = some .local)
    (hkn:sc.kind = .function) (hbP:W.base.get? W.P = none) (hP:h₁.get? W.P = some (tabObj #[])) (hg:AllBare g) (hos:os = W.os)
    (hcell:∀ x,(envOfC nameS sc L fa cd).kindOf x = some .cell → ∃ c,(envOfC nameS sc L fa cd).cells.lookup x = some c ∧ W.base.get? c = none)
    (hcells:∀ x c,(envOfC nameS sc L fa cd).cells.lookup x = some c → ∃ v,h₁.IsCell c v) (hcI:∀ x y c,(envOfC nameS sc L fa cd).cells.lookup x = some c → (envOfC nameS sc L fa cd).cells.lookup y = some c → x = y)
    (hl:W.base.IsList a items) (hi:IntsAre items.toList ns)
    (hroom:Room (callerA.deeper (envOfC nameS sc L fa cd)) n) {P:Post} (ht:t P (stoOf ["script"] [.list (vints ns)])) (hX:P.exc = fun ℓ => False) {E:Value → Shared → Prop} {Q:Flow → Shared → Prop}
    (hQ:∀ f s',W.base.StaysIn s'.heap → AllBare s'.gens → s'.os = W.os → (∃ ps,s'.heap.get? W.P = some (tabObj ps)) → (match f with | .next => ∃ σ,P.next σ | .brk => ∃ σ,P.brk σ | .cont => ∃ σ,P.cont σ | .ret v => ∃ G u,Rep G v u ∧ P.ret u) → Q f s') :
    wpAny W.M (callerA.deeper (envOfC nameS sc L fa cd)) (execs body (envOfC nameS sc L fa cd)) Q E ⟨h₁,g,d,tk,os⟩:=by
  obtain ⟨ol,hol,hcls,ep,hdat⟩:=hl
  let F:Fz:=fun b => if b = a then some ol else none
  let fx:Fx:=⟨callerA.deeper (envOfC nameS sc L fa cd),[envOfC nameS sc L fa cd],envOfC nameS sc L fa cd,fun b => W.base.get? b,F,true⟩
  have hLn:W.base.get? L = none:=by
    cases e:W.base.get? L with
    | none => rfl
    | some o => exact absurd (Heap.lt_size e) (Nat.not_lt.mpr F'.above)
  have hFa:∀ b o,F b = some o → b = a ∧ o = ol:=by
    intro b o e
    by_cases hb:b = a
    · subst hb
      have:F b = some ol:=if_pos rfl
      rw [this] at e
      exact ⟨rfl,(Option.some.inj e).symm⟩
    · have:F b = none:=if_neg hb
      rw [this] at e; cases e
  have I:Inv W fx F (stoOf ["script"] [.list (vints ns)]) ⟨h₁,g,d,tk,os⟩:=by
    refine ⟨⟨rfl,rfl,hkn,rfl,rfl,fun b o e => e,hbP,fun ℓ => hLn,?_,fun ℓ x hx => hcell x hx,fun ℓ => ⟨[],rfl,rfl⟩,fun ℓ x y c ℓ h1 h2 => hcI x y c h1 h2⟩,⟨F'.keep,hg,hos⟩,⟨#[],hP,trivial,fun pos c e => by cases e⟩,?_,?_,fun ℓ ℓ e => e,fun b o e => .inl e,?_,⟨m,F'.ns⟩,fun x c ℓ hc => hcells x c hc,?_,?_⟩
    · intro e he
      have he:e = envOfC nameS sc L fa cd:=List.mem_singleton.mp he
      subst he
      exact ⟨by show sc.kind ≠ .module; rw [hkn]; decide,L,rfl,hLn,.inl rfl⟩
    · intro b o e
      obtain ⟨rfl,rfl⟩:=hFa b o e
      exact F'.keep _ _ hol
    · intro b o e
      obtain ⟨rfl,rfl⟩:=hFa b o e
      refine ⟨by rw [hcls]; nofun,fun es n' h => ?_,fun v h => ?_⟩
      · rw [hdat] at h; cases h
      · rw [hdat] at h; cases h
    · intro b o e
      exact ⟨fun ℓ => F'.keep _ _ e,o.slots,F'.keep _ _ e⟩
    · intro x sl e
      have hx:x = "script" ∧ sl = .val (.list (vints ns)):=by
        have e:get [("script",Slot.val (.list (vints ns)))] x = some sl:=e
        simp only [get] at e
        split at e
        · rename_i hx; exact ⟨hx.symm,(Option.some.inj e).symm⟩
        · cases e
      obtain ⟨rfl,rfl⟩:=hx
      refine ⟨.ref a,.inl ⟨hkd,m,F'.ns,hm⟩,?_⟩
      show Rep F (.ref a) (.list (vints ns))
      have hrs:∀ (vs:List Value) (ns:List Int),IntsAre vs ns → Reps F vs (vints ns):=by
        intro vs ns h
        induction h with
        | nil => exact .nil
        | cons i t _ ih => exact .cons (.int i t) ih
      exact .list (show F a = some ol from if_pos rfl) hcls hdat (hrs _ _ hi)
    · intro x y b c l k hxy hx
      have hx:get [("script",Slot.val (.list (vints ns)))] x = some (.own l):=hx
      simp only [get] at hx
      split at hx
      · cases hx
      · cases hx
  refine wpAny_mono (hsl fx F _ _ P E rfl rfl hroom I ht (fun c e s' hc => by rw [hX] at hc; exact hc.elim)).out (fun f s' h => ?_) fun ℓ ℓ z => z
  obtain ⟨G,σ',hle,I',hf⟩:=h
  obtain ⟨ps,hps,_,_⟩:=I'.tab
  refine hQ f s' I'.win.stays I'.win.gens I'.win.os ⟨ps,hps⟩ ?_
  cases f with
  | next => exact ⟨σ',hf⟩
  | brk => exact ⟨σ',hf⟩
  | cont => exact ⟨σ',hf⟩
  | ret v => obtain ⟨u,r,hu⟩:=hf; exact ⟨G,u,r,hu⟩
end
end Mine
noncomputable section
open PySem PySem.W PyProof.Rows PySem.Spec PySem.Calls
set_option Elab.async false
set_option maxRecDepth 100000
set_option maxHeartbeats 8000000
set_option linter.unusedVariables false
namespace Mine
noncomputable def vs (x:String) (t:Tok):Value:=.str (Str.ofString x) t
noncomputable def en (P:Params) (x:String) (t:Tok) (v:Value):DictEntry:=⟨PyData.keyHash P (Str.ofString x),.str (Str.ofString x) t,v⟩
noncomputable def ei (k:Nat) (t:Tok) (x:String) (t2:Tok):DictEntry:=⟨k,.int k t,vs x t2⟩
noncomputable def fo (k:Nat) (n m:String) (t:Tok) (d kw:Value) (c:Addr):Obj:={ cls:=.type "function",data:=.func { name:=Str.ofString n,qualname:=Str.ofString n,params:=fnParams (fn k),body:=.stmts (fnBody (fn k)),scope:=fnScope (fn k),globals:=3,closure:=[],defaults:=d,kwdefaults:=kw,pyModule:=vs m t,code:=.ref c } }
noncomputable def co (n:String) (t:Tok) (l a p k:Nat) (r1 r2 r3 r4 r5:Value) (x:Nat) (u:Tok):Obj:={ cls:=.type "code",data:=.fields #[vs n t,vs n (t + 1),vs "/claim/cut.py" (t + 2),.int l 0,.int a 0,.int p 0,.int k 0,.int 3 0,r1,.bool true,.int 276 0,r2,.none,r3,r4,r5,.int x 0,.int l 0,vs "/claim/cut.py" u] }
noncomputable def KF (P:Params):Frag:=(nat_lit 3,⟨.type "dict",none,.dict #[en P "__name__" 165 (vs "law_kq0074_01" 664),en P "__doc__" 166 (.none),en P "__package__" 167 (.none),en P "__loader__" 168 (.builtin "__main__.__loader__#opaque"),en P "__spec__" 169 (.none),en P "__annotations__" 170 (.ref 6),en P "__builtins__" 171 (.ref 4),en P "__file__" 173 (vs "/claim/cut.py" 172),en P "__cached__" 174 (.none),en P "_sre" 275 (.ref 12),en P "_wall" 288 (.ref 38),en P "bytes_types" 291 (.ref 39),en P "_bytes_from_decode_data" 298 (.ref 46),en P "Error" 318 (.ref 56),en P "_ascii_buffer" 326 (.ref 66),en P "_buffer" 334 (.ref 73),en P "_truth" 342 (.ref 80),en P "_B64" 344 (.bytes B64L.toArray 343),en P "_b64_value" 351 (.ref 87),en P "a2b_base64" 367 (.ref 95),en P "b2a_base64" 381 (.ref 103),en P "b64encode" 392 (.ref 111),en P "b64decode" 401 (.ref 119),en P "_urlsafe_encode_translation" 406 (.bytes uencE.toArray 405),en P "_urlsafe_decode_translation" 411 (.bytes udecE.toArray 410),en P "urlsafe_b64encode" 418 (.ref 126),en P "urlsafe_b64decode" 425 (.ref 133),en P "_twin_re_1" 465 (.ref 138),en P "translate" 474 (.ref 145),en P "_special_chars_map" 622 (.ref 147),en P "escape" 629 (.ref 157),en P "_translate" 650 (.ref 164),en P "_join_translated_parts" 663 (.ref 171),en P "_law_marks" 674 (.ref 178),en P "_law_octets" 680 (.ref 183),en P "_law_figures" 686 (.ref 188),en P "_law_ways" 692 (.ref 193),en P "_law_runs" 698 (.ref 198),en P "_law_dressed" 704 (.ref 203),en P "_law_member" 713 (.ref 210),en P "_law_bracket" 719 (.ref 215),en P "_law_read" 731 (.ref 222),en P "_law_taken" 740 (.ref 229),en P "_law_is" 750 (.ref 236),en P "law" 756 (.ref 241)] 45,#[]⟩) ::
  (nat_lit 39,{ cls:=.type "tuple",data:=.seq #[.type "bytes",.type "bytearray"] }) ::
  (nat_lit 45,co "_bytes_from_decode_data" 292 7 1 0 0 (.ref 40) (.ref 41) (.ref 42) (.ref 43) (.ref 44) 296 297) ::
  (nat_lit 46,fo 4 "_bytes_from_decode_data" "cpy313.base64" 289 (.none) (.none) 45) ::
  (nat_lit 55,⟨.type "dict",none,.dict #[en P "__module__" 308 (vs "binascii" 299),en P "__firstlineno__" 312 (.int 20 311),en P "__static_attributes__" 313 (.ref 54),en P "__weakref__" 315 (.ref 57),en P "__doc__" 316 (.none)] 3,#[]⟩) ::
  (nat_lit 56,{ cls:=.type "type",data:=.cls { name:=Str.ofString "Error",bases:=[.type "ValueError"],mro:=[.ref 56,.type "ValueError",.type "Exception",.type "BaseException",.type "object"],ns:=55,qualname:=Str.ofString "Error" },slots:=#[some (.ref 47),none,some (vs "Error" 301),some (vs "Error" 309),some (.builtin "ValueError.__new__"),some (.bool true)] }) ::
  (nat_lit 65,co "_ascii_buffer" 319 22 1 0 0 (.ref 60) (.ref 61) (.ref 62) (.ref 63) (.ref 64) 324 325) ::
  (nat_lit 66,fo 7 "_ascii_buffer" "binascii" 299 (.none) (.none) 65) ::
  (nat_lit 72,co "_buffer" 327 33 1 0 0 (.ref 67) (.ref 68) (.ref 69) (.ref 70) (.ref 71) 332 333) ::
  (nat_lit 73,fo 8 "_buffer" "binascii" 299 (.none) (.none) 72) ::
  (nat_lit 79,co "_truth" 335 40 1 0 0 (.ref 74) (.ref 75) (.ref 76) (.ref 77) (.ref 78) 340 341) ::
  (nat_lit 80,fo 9 "_truth" "binascii" 299 (.none) (.none) 79) ::
  (nat_lit 86,co "_b64_value" 345 46 1 0 0 (.ref 81) (.ref 82) (.ref 83) (.ref 84) (.ref 85) 349 350) ::
  (nat_lit 87,fo 11 "_b64_value" "binascii" 299 (.none) (.none) 86) ::
  (nat_lit 94,co "a2b_base64" 353 58 1 1 1 (.ref 89) (.ref 90) (.ref 91) (.ref 92) (.ref 93) 365 366) ::
  (nat_lit 95,fo 12 "a2b_base64" "binascii" 299 (.none) (.ref 88) 94) ::
  (nat_lit 102,co "b2a_base64" 369 112 1 1 1 (.ref 97) (.ref 98) (.ref 99) (.ref 100) (.ref 101) 379 380) ::
  (nat_lit 103,fo 13 "b2a_base64" "binascii" 299 (.none) (.ref 96) 102) ::
  (nat_lit 104,{ cls:=.type "tuple",data:=.seq #[.none] }) ::
  (nat_lit 110,co "b64encode" 384 135 2 0 0 (.ref 105) (.ref 106) (.ref 107) (.ref 108) (.ref 109) 390 391) ::
  (nat_lit 111,fo 15 "b64encode" "cpy313.base64" 382 (.ref 104) (.none) 110) ::
  (nat_lit 112,{ cls:=.type "tuple",data:=.seq #[.none,.bool false] }) ::
  (nat_lit 118,co "b64decode" 393 141 3 0 0 (.ref 113) (.ref 114) (.ref 115) (.ref 116) (.ref 117) 399 400) ::
  (nat_lit 119,fo 16 "b64decode" "cpy313.base64" 382 (.ref 112) (.none) 118) ::
  (nat_lit 125,co "urlsafe_b64encode" 412 150 1 0 0 (.ref 120) (.ref 121) (.ref 122) (.ref 123) (.ref 124) 416 417) ::
  (nat_lit 126,fo 19 "urlsafe_b64encode" "cpy313.base64" 382 (.none) (.none) 125) ::
  (nat_lit 132,co "urlsafe_b64decode" 419 152 1 0 0 (.ref 127) (.ref 128) (.ref 129) (.ref 130) (.ref 131) 423 424) ::
  (nat_lit 133,fo 20 "urlsafe_b64decode" "cpy313.base64" 382 (.none) (.none) 132) ::
  (nat_lit 137,{ cls:=.type "tuple",data:=.seq #[.int 14 0,.int 14 0,.int 4 0,.int 1 0,.int 1 0,.int 9 0,.int 0 0,.int 64 0,.int 0 0,.int 1342177280 0,.int 0 0,.int 0 0,.int 0 0,.int 0 0,.int 0 0,.int 17 0,.int 0 0,.int 13 0,.int 11 0,.int 9 0,.int 0 0,.int 64 0,.int 0 0,.int 1342177280 0,.int 0 0,.int 0 0,.int 0 0,.int 0 0,.int 0 0,.int 17 0,.int 1 0,.int 1 0] }) ::
  (nat_lit 138,{ cls:=.type "re.Pattern",data:=.fields #[vs "([&~|])" 429,.int 32 464,.int 1 0,.none,.none,.ref 137,.int 0 0] }) ::
  (nat_lit 144,co "translate" 466 158 1 0 0 (.ref 139) (.ref 140) (.ref 141) (.ref 142) (.ref 143) 472 473) ::
  (nat_lit 145,fo 23 "translate" "cpy313.fnmatch" 426 (.none) (.none) 144) ::
  (nat_lit 147,⟨.type "dict",none,.dict #[ei 40 478 "\\(" 482,ei 41 484 "\\)" 488,ei 91 490 "\\[" 494,ei 93 496 "\\]" 500,ei 123 502 "\\{" 506,ei 125 508 "\\}" 512,ei 63 514 "\\?" 518,ei 42 520 "\\*" 524,ei 43 526 "\\+" 530,ei 45 532 "\\-" 536,ei 124 538 "\\|" 542,ei 94 544 "\\^" 548,ei 36 550 "\\$" 554,ei 92 556 "\\\\" 560,ei 46 562 "\\." 566,ei 38 568 "\\&" 572,ei 126 574 "\\~" 578,ei 35 580 "\\#" 584,ei 32 586 "\\ " 590,ei 9 592 "\\\t" 596,ei 10 598 "\\\n" 602,ei 13 604 "\\\x0d" 608,ei 11 610 "\\\x0b" 614,ei 12 616 "\\\x0c" 620] 24,#[]⟩) ::
  (nat_lit 156,co "escape" 623 164 1 0 0 (.ref 151) (.ref 152) (.ref 153) (.ref 154) (.ref 155) 627 628) ::
  (nat_lit 157,fo 26 "escape" "re" 475 (.none) (.none) 156) ::
  (nat_lit 163,co "_translate" 632 171 3 0 0 (.ref 158) (.ref 159) (.ref 160) (.ref 161) (.ref 162) 648 649) ::
  (nat_lit 164,fo 28 "_translate" "cpy313.fnmatch" 630 (.none) (.none) 163) ::
  (nat_lit 170,co "_join_translated_parts" 651 233 2 0 0 (.ref 165) (.ref 166) (.ref 167) (.ref 168) (.ref 169) 661 662) ::
  (nat_lit 171,fo 29 "_join_translated_parts" "cpy313.fnmatch" 630 (.none) (.none) 170) ::
  (nat_lit 177,co "_law_marks" 666 261 1 0 0 (.ref 172) (.ref 173) (.ref 174) (.ref 175) (.ref 176) 672 673) ::
  (nat_lit 178,fo 31 "_law_marks" "law_kq0074_01" 664 (.none) (.none) 177) ::
  (nat_lit 182,co "_law_octets" 675 265 1 0 0 (.ref 179) (.ref 180) (.none) (.none) (.ref 181) 678 679) ::
  (nat_lit 183,fo 32 "_law_octets" "law_kq0074_01" 664 (.none) (.none) 182) ::
  (nat_lit 187,co "_law_figures" 681 271 1 0 0 (.ref 184) (.ref 185) (.none) (.none) (.ref 186) 684 685) ::
  (nat_lit 188,fo 33 "_law_figures" "law_kq0074_01" 664 (.none) (.none) 187) ::
  (nat_lit 192,co "_law_ways" 687 277 2 0 0 (.ref 189) (.ref 190) (.none) (.none) (.ref 191) 690 691) ::
  (nat_lit 193,fo 34 "_law_ways" "law_kq0074_01" 664 (.none) (.none) 192) ::
  (nat_lit 197,co "_law_runs" 693 283 1 0 0 (.ref 194) (.ref 195) (.none) (.none) (.ref 196) 696 697) ::
  (nat_lit 198,fo 35 "_law_runs" "law_kq0074_01" 664 (.none) (.none) 197) ::
  (nat_lit 202,co "_law_dressed" 699 291 2 0 0 (.ref 199) (.ref 200) (.none) (.none) (.ref 201) 702 703) ::
  (nat_lit 203,fo 36 "_law_dressed" "law_kq0074_01" 664 (.none) (.none) 202) ::
  (nat_lit 209,co "_law_member" 705 303 2 0 0 (.ref 204) (.ref 205) (.ref 206) (.ref 207) (.ref 208) 711 712) ::
  (nat_lit 210,fo 37 "_law_member" "law_kq0074_01" 664 (.none) (.none) 209) ::
  (nat_lit 214,co "_law_bracket" 714 308 2 0 0 (.ref 211) (.ref 212) (.none) (.none) (.ref 213) 717 718) ::
  (nat_lit 215,fo 38 "_law_bracket" "law_kq0074_01" 664 (.none) (.none) 214) ::
  (nat_lit 221,co "_law_read" 720 321 1 0 0 (.ref 216) (.ref 217) (.ref 218) (.ref 219) (.ref 220) 729 730) ::
  (nat_lit 222,fo 39 "_law_read" "law_kq0074_01" 664 (.none) (.none) 221) ::
  (nat_lit 228,co "_law_taken" 732 338 2 0 0 (.ref 223) (.ref 224) (.ref 225) (.ref 226) (.ref 227) 738 739) ::
  (nat_lit 229,fo 40 "_law_taken" "law_kq0074_01" 664 (.none) (.none) 228) ::
  (nat_lit 235,co "_law_is" 741 343 3 0 0 (.ref 230) (.ref 231) (.ref 232) (.ref 233) (.ref 234) 748 749) ::
  (nat_lit 236,fo 41 "_law_is" "law_kq0074_01" 664 (.none) (.none) 235) ::
  (nat_lit 240,co "law" 751 349 1 0 0 (.ref 237) (.ref 238) (.none) (.none) (.ref 239) 754 755) ::
  (nat_lit 241,fo 42 "law" "law_kq0074_01" 664 (.none) (.none) 240) :: []
noncomputable def KAs:List Addr:=[3,39,45,46,55,56,65,66,72,73,79,80,86,87,94,95,102,103,104,110,111,112,118,119,125,126,132,133,137,138,144,145,147,156,157,163,164,170,171,177,178,182,183,187,188,192,193,197,198,202,203,209,210,214,215,221,222,228,229,235,236,240,241]
noncomputable abbrev RWk:OpenLaw:=PySem.Challenge.rw_kq0074_01
noncomputable def qv:Program:=view RWk.row.prog [0,42]
noncomputable def lo:List Str:=(["_wall","bytes_types","_bytes_from_decode_data","Error","_ascii_buffer","_buffer","_truth","_B64","_b64_value","a2b_base64","b2a_base64","b64encode","b64decode","_urlsafe_encode_translation","_urlsafe_decode_translation","urlsafe_b64encode","urlsafe_b64decode","_twin_re_1","translate","_special_chars_map","escape","_translate","_join_translated_parts","_law_marks","_law_octets","_law_figures","_law_ways","_law_runs","_law_dressed","_law_member","_law_bracket","_law_read","_law_taken","_law_is"]:List String).map Str.ofString
theorem k_as:∀ P,KAs = (KF P).map (·.1):=fun P => by kernel_rfl
noncomputable def hk:Hook:=kmHook KF KAs k_as [159]
noncomputable def xt (s:Shared):Bool:=xlAt qv [] s && recOk (RowW.records RWk.row.toRowW) s
theorem said:RWk.wellSaid = true:=by
  rw [PySem.W.Fast.te9446332074065402090]
  kernel_rfl
end Mine
end
noncomputable section
open PySem PySem.W PyProof.Rows PySem.Spec PySem.Calls
set_option Elab.async false
set_option maxRecDepth 100000
set_option maxHeartbeats 8000000
set_option linter.unusedVariables false
namespace Mine
theorem left_ff (w:World):(openEnds treeTable RWk.row.prog ((w.withFollow "special-get-raises" false).withFollow "comprehension-iter-twice" false) 5152).map (fun s => (openSeen qv lo (importedModules RWk.row.prog.main.body) xt true s,hk.obs s)) = some (openGood qv lo,hk.val ((w.withFollow "special-get-raises" false).withFollow "comprehension-iter-twice" false)):=by
  unfold openEnds fencedOpening topFrom
  simp only [PySem.W.Fast.te14364793385576792824,PySem.W.Fast.te10274390034422433532,PySem.W.Fast.te14289696077712309145,PySem.W.Fast.te1435165496053646825,PySem.W.Fast.te14082659384304107361,PySem.W.Fast.te4187177175401517315,PySem.W.Fast.te5923862056798008813]
  kernel_rfl
theorem left_ft (w:World):(openEnds treeTable RWk.row.prog ((w.withFollow "special-get-raises" false).withFollow "comprehension-iter-twice" true) 5152).map (fun s => (openSeen qv lo (importedModules RWk.row.prog.main.body) xt true s,hk.obs s)) = some (openGood qv lo,hk.val ((w.withFollow "special-get-raises" false).withFollow "comprehension-iter-twice" true)):=by
  unfold openEnds fencedOpening topFrom
  simp only [PySem.W.Fast.te14364793385576792824,PySem.W.Fast.te10274390034422433532,PySem.W.Fast.te14289696077712309145,PySem.W.Fast.te1435165496053646825,PySem.W.Fast.te14082659384304107361,PySem.W.Fast.te4187177175401517315,PySem.W.Fast.te5923862056798008813]
  kernel_rfl
theorem left_tf (w:World):(openEnds treeTable RWk.row.prog ((w.withFollow "special-get-raises" true).withFollow "comprehension-iter-twice" false) 5152).map (fun s => (openSeen qv lo (importedModules RWk.row.prog.main.body) xt true s,hk.obs s)) = some (openGood qv lo,hk.val ((w.withFollow "special-get-raises" true).withFollow "comprehension-iter-twice" false)):=by
  unfold openEnds fencedOpening topFrom
  simp only [PySem.W.Fast.te14364793385576792824,PySem.W.Fast.te10274390034422433532,PySem.W.Fast.te14289696077712309145,PySem.W.Fast.te1435165496053646825,PySem.W.Fast.te14082659384304107361,PySem.W.Fast.te4187177175401517315,PySem.W.Fast.te5923862056798008813]
  kernel_rfl
theorem left_tt (w:World):(openEnds treeTable RWk.row.prog ((w.withFollow "special-get-raises" true).withFollow "comprehension-iter-twice" true) 5152).map (fun s => (openSeen qv lo (importedModules RWk.row.prog.main.body) xt true s,hk.obs s)) = some (openGood qv lo,hk.val ((w.withFollow "special-get-raises" true).withFollow "comprehension-iter-twice" true)):=by
  unfold openEnds fencedOpening topFrom
  simp only [PySem.W.Fast.te14364793385576792824,PySem.W.Fast.te10274390034422433532,PySem.W.Fast.te14289696077712309145,PySem.W.Fast.te1435165496053646825,PySem.W.Fast.te14082659384304107361,PySem.W.Fast.te4187177175401517315,PySem.W.Fast.te5923862056798008813]
  kernel_rfl
theorem leftO:LeftO RWk.row.prog qv lo xt hk.obs hk.val 5152 :=
  byRow2 "comprehension-iter-twice" (byRow2 "special-get-raises" left_ff left_tf) (byRow2 "special-get-raises" left_ft left_tt)
end Mine
end
open PySem PySem.W PyProof.Rows PySem.Spec PySem.Calls
namespace Mine
noncomputable section
set_option maxHeartbeats 4000000
theorem isF {c:Nat} {k:Int} {t:Tok} (h0:c ∉ specialL) (hk:k.toNat ∈ specialL):Value.isInt (c:Int) (.int k t) = false:=by
  have:¬ k = (c:Int):=fun e => h0 (by rw [e,Int.toNat_natCast] at hk; exact hk)
  simp [Value.isInt]
  omega
inductive EiOk (e:DictEntry):Prop
  | mk (k:Nat) (t:Tok) (x:String) (t2:Tok) (h:e = ei k t x t2) (m:k ∈ specialL)
section
variable {W:Wd} {P:Params} {mg mb:Str → Option Value} {p:Program} {loose:List Str} {mean:ExcName → Option Value}
theorem fu31 (X:(KF P).In W.base) (T:Top p loose mean mg mb W.base):∃ fd,Fun W 31 "_law_marks" 178 fd :=
  ⟨_,fun_mk X T.g T.nolimit (fnat_mk X (k:=31) (a:=178) (c:=177) (h1:=rfl) (by kernel_rfl) (by kernel_rfl) (by kernel_rfl) (by kernel_rfl) (by kernel_rfl) (hcv:=rfl) rfl (by kernel_rfl) (by kernel_rfl) (by kernel_rfl)) (by kernel_rfl) (by kernel_rfl) (by kernel_rfl) (by kernel_rfl)⟩
theorem fu32 (X:(KF P).In W.base) (T:Top p loose mean mg mb W.base):∃ fd,Fun W 32 "_law_octets" 183 fd :=
  ⟨_,fun_mk X T.g T.nolimit (fnat_mk X (k:=32) (a:=183) (c:=182) (h1:=rfl) (by kernel_rfl) (by kernel_rfl) (by kernel_rfl) (by kernel_rfl) (by kernel_rfl) (hcv:=rfl) rfl (by kernel_rfl) (by kernel_rfl) (by kernel_rfl)) (by kernel_rfl) (by kernel_rfl) (by kernel_rfl) (by kernel_rfl)⟩
theorem fu33 (X:(KF P).In W.base) (T:Top p loose mean mg mb W.base):∃ fd,Fun W 33 "_law_figures" 188 fd :=
  ⟨_,fun_mk X T.g T.nolimit (fnat_mk X (k:=33) (a:=188) (c:=187) (h1:=rfl) (by kernel_rfl) (by kernel_rfl) (by kernel_rfl) (by kernel_rfl) (by kernel_rfl) (hcv:=rfl) rfl (by kernel_rfl) (by kernel_rfl) (by kernel_rfl)) (by kernel_rfl) (by kernel_rfl) (by kernel_rfl) (by kernel_rfl)⟩
theorem fu34 (X:(KF P).In W.base) (T:Top p loose mean mg mb W.base):∃ fd,Fun W 34 "_law_ways" 193 fd :=
  ⟨_,fun_mk X T.g T.nolimit (fnat_mk X (k:=34) (a:=193) (c:=192) (h1:=rfl) (by kernel_rfl) (by kernel_rfl) (by kernel_rfl) (by kernel_rfl) (by kernel_rfl) (hcv:=rfl) rfl (by kernel_rfl) (by kernel_rfl) (by kernel_rfl)) (by kernel_rfl) (by kernel_rfl) (by kernel_rfl) (by kernel_rfl)⟩
theorem fu35 (X:(KF P).In W.base) (T:Top p loose mean mg mb W.base):∃ fd,Fun W 35 "_law_runs" 198 fd :=
  ⟨_,fun_mk X T.g T.nolimit (fnat_mk X (k:=35) (a:=198) (c:=197) (h1:=rfl) (by kernel_rfl) (by kernel_rfl) (by kernel_rfl) (by kernel_rfl) (by kernel_rfl) (hcv:=rfl) rfl (by kernel_rfl) (by kernel_rfl) (by kernel_rfl)) (by kernel_rfl) (by kernel_rfl) (by kernel_rfl) (by kernel_rfl)⟩
theorem fu36 (X:(KF P).In W.base) (T:Top p loose mean mg mb W.base):∃ fd,Fun W 36 "_law_dressed" 203 fd :=
  ⟨_,fun_mk X T.g T.nolimit (fnat_mk X (k:=36) (a:=203) (c:=202) (h1:=rfl) (by kernel_rfl) (by kernel_rfl) (by kernel_rfl) (by kernel_rfl) (by kernel_rfl) (hcv:=rfl) rfl (by kernel_rfl) (by kernel_rfl) (by kernel_rfl)) (by kernel_rfl) (by kernel_rfl) (by kernel_rfl) (by kernel_rfl)⟩
theorem fu37 (X:(KF P).In W.base) (T:Top p loose mean mg mb W.base):∃ fd,Fun W 37 "_law_member" 210 fd :=
  ⟨_,fun_mk X T.g T.nolimit (fnat_mk X (k:=37) (a:=210) (c:=209) (h1:=rfl) (by kernel_rfl) (by kernel_rfl) (by kernel_rfl) (by kernel_rfl) (by kernel_rfl) (hcv:=rfl) rfl (by kernel_rfl) (by kernel_rfl) (by kernel_rfl)) (by kernel_rfl) (by kernel_rfl) (by kernel_rfl) (by kernel_rfl)⟩
theorem fu38 (X:(KF P).In W.base) (T:Top p loose mean mg mb W.base):∃ fd,Fun W 38 "_law_bracket" 215 fd :=
  ⟨_,fun_mk X T.g T.nolimit (fnat_mk X (k:=38) (a:=215) (c:=214) (h1:=rfl) (by kernel_rfl) (by kernel_rfl) (by kernel_rfl) (by kernel_rfl) (by kernel_rfl) (hcv:=rfl) rfl (by kernel_rfl) (by kernel_rfl) (by kernel_rfl)) (by kernel_rfl) (by kernel_rfl) (by kernel_rfl) (by kernel_rfl)⟩
theorem fu39 (X:(KF P).In W.base) (T:Top p loose mean mg mb W.base):∃ fd,Fun W 39 "_law_read" 222 fd :=
  ⟨_,fun_mk X T.g T.nolimit (fnat_mk X (k:=39) (a:=222) (c:=221) (h1:=rfl) (by kernel_rfl) (by kernel_rfl) (by kernel_rfl) (by kernel_rfl) (by kernel_rfl) (hcv:=rfl) rfl (by kernel_rfl) (by kernel_rfl) (by kernel_rfl)) (by kernel_rfl) (by kernel_rfl) (by kernel_rfl) (by kernel_rfl)⟩
theorem fu40 (X:(KF P).In W.base) (T:Top p loose mean mg mb W.base):∃ fd,Fun W 40 "_law_taken" 229 fd :=
  ⟨_,fun_mk X T.g T.nolimit (fnat_mk X (k:=40) (a:=229) (c:=228) (h1:=rfl) (by kernel_rfl) (by kernel_rfl) (by kernel_rfl) (by kernel_rfl) (by kernel_rfl) (hcv:=rfl) rfl (by kernel_rfl) (by kernel_rfl) (by kernel_rfl)) (by kernel_rfl) (by kernel_rfl) (by kernel_rfl) (by kernel_rfl)⟩
theorem fu41 (X:(KF P).In W.base) (T:Top p loose mean mg mb W.base):∃ fd,Fun W 41 "_law_is" 236 fd :=
  ⟨_,fun_mk X T.g T.nolimit (fnat_mk X (k:=41) (a:=236) (c:=235) (h1:=rfl) (by kernel_rfl) (by kernel_rfl) (by kernel_rfl) (by kernel_rfl) (by kernel_rfl) (hcv:=rfl) rfl (by kernel_rfl) (by kernel_rfl) (by kernel_rfl)) (by kernel_rfl) (by kernel_rfl) (by kernel_rfl) (by kernel_rfl)⟩
theorem fu7 (X:(KF P).In W.base) (T:Top p loose mean mg mb W.base):∃ fd,Fun W 7 "_ascii_buffer" 66 fd :=
  ⟨_,fun_mk X T.g T.nolimit (fnat_mk X (k:=7) (a:=66) (c:=65) (h1:=rfl) (by kernel_rfl) (by kernel_rfl) (by kernel_rfl) (by kernel_rfl) (by kernel_rfl) (hcv:=rfl) rfl (by kernel_rfl) (by kernel_rfl) (by kernel_rfl)) (by kernel_rfl) (by kernel_rfl) (by kernel_rfl) (by kernel_rfl)⟩
theorem fu8 (X:(KF P).In W.base) (T:Top p loose mean mg mb W.base):∃ fd,Fun W 8 "_buffer" 73 fd :=
  ⟨_,fun_mk X T.g T.nolimit (fnat_mk X (k:=8) (a:=73) (c:=72) (h1:=rfl) (by kernel_rfl) (by kernel_rfl) (by kernel_rfl) (by kernel_rfl) (by kernel_rfl) (hcv:=rfl) rfl (by kernel_rfl) (by kernel_rfl) (by kernel_rfl)) (by kernel_rfl) (by kernel_rfl) (by kernel_rfl) (by kernel_rfl)⟩
theorem fu9 (X:(KF P).In W.base) (T:Top p loose mean mg mb W.base):∃ fd,Fun W 9 "_truth" 80 fd :=
  ⟨_,fun_mk X T.g T.nolimit (fnat_mk X (k:=9) (a:=80) (c:=79) (h1:=rfl) (by kernel_rfl) (by kernel_rfl) (by kernel_rfl) (by kernel_rfl) (by kernel_rfl) (hcv:=rfl) rfl (by kernel_rfl) (by kernel_rfl) (by kernel_rfl)) (by kernel_rfl) (by kernel_rfl) (by kernel_rfl) (by kernel_rfl)⟩
theorem fu11 (X:(KF P).In W.base) (T:Top p loose mean mg mb W.base):∃ fd,Fun W 11 "_b64_value" 87 fd :=
  ⟨_,fun_mk X T.g T.nolimit (fnat_mk X (k:=11) (a:=87) (c:=86) (h1:=rfl) (by kernel_rfl) (by kernel_rfl) (by kernel_rfl) (by kernel_rfl) (by kernel_rfl) (hcv:=rfl) rfl (by kernel_rfl) (by kernel_rfl) (by kernel_rfl)) (by kernel_rfl) (by kernel_rfl) (by kernel_rfl) (by kernel_rfl)⟩
theorem fu12 (X:(KF P).In W.base) (T:Top p loose mean mg mb W.base):∃ fd,Fun W 12 "a2b_base64" 95 fd :=
  ⟨_,fun_mk X T.g T.nolimit (fnat_mk X (k:=12) (a:=95) (c:=94) (h1:=rfl) (by kernel_rfl) (by kernel_rfl) (by kernel_rfl) (by kernel_rfl) (by kernel_rfl) (hcv:=rfl) rfl (by kernel_rfl) (by kernel_rfl) (by kernel_rfl)) (by kernel_rfl) (by kernel_rfl) (by kernel_rfl) (by kernel_rfl)⟩
theorem fu13 (X:(KF P).In W.base) (T:Top p loose mean mg mb W.base):∃ fd,Fun W 13 "b2a_base64" 103 fd :=
  ⟨_,fun_mk X T.g T.nolimit (fnat_mk X (k:=13) (a:=103) (c:=102) (h1:=rfl) (by kernel_rfl) (by kernel_rfl) (by kernel_rfl) (by kernel_rfl) (by kernel_rfl) (hcv:=rfl) rfl (by kernel_rfl) (by kernel_rfl) (by kernel_rfl)) (by kernel_rfl) (by kernel_rfl) (by kernel_rfl) (by kernel_rfl)⟩
theorem fu19 (X:(KF P).In W.base) (T:Top p loose mean mg mb W.base):∃ fd,Fun W 19 "urlsafe_b64encode" 126 fd :=
  ⟨_,fun_mk X T.g T.nolimit (fnat_mk X (k:=19) (a:=126) (c:=125) (h1:=rfl) (by kernel_rfl) (by kernel_rfl) (by kernel_rfl) (by kernel_rfl) (by kernel_rfl) (hcv:=rfl) rfl (by kernel_rfl) (by kernel_rfl) (by kernel_rfl)) (by kernel_rfl) (by kernel_rfl) (by kernel_rfl) (by kernel_rfl)⟩
theorem fu20 (X:(KF P).In W.base) (T:Top p loose mean mg mb W.base):∃ fd,Fun W 20 "urlsafe_b64decode" 133 fd :=
  ⟨_,fun_mk X T.g T.nolimit (fnat_mk X (k:=20) (a:=133) (c:=132) (h1:=rfl) (by kernel_rfl) (by kernel_rfl) (by kernel_rfl) (by kernel_rfl) (by kernel_rfl) (hcv:=rfl) rfl (by kernel_rfl) (by kernel_rfl) (by kernel_rfl)) (by kernel_rfl) (by kernel_rfl) (by kernel_rfl) (by kernel_rfl)⟩
theorem fu23 (X:(KF P).In W.base) (T:Top p loose mean mg mb W.base):∃ fd,Fun W 23 "translate" 145 fd :=
  ⟨_,fun_mk X T.g T.nolimit (fnat_mk X (k:=23) (a:=145) (c:=144) (h1:=rfl) (by kernel_rfl) (by kernel_rfl) (by kernel_rfl) (by kernel_rfl) (by kernel_rfl) (hcv:=rfl) rfl (by kernel_rfl) (by kernel_rfl) (by kernel_rfl)) (by kernel_rfl) (by kernel_rfl) (by kernel_rfl) (by kernel_rfl)⟩
theorem fu26 (X:(KF P).In W.base) (T:Top p loose mean mg mb W.base):∃ fd,Fun W 26 "escape" 157 fd :=
  ⟨_,fun_mk X T.g T.nolimit (fnat_mk X (k:=26) (a:=157) (c:=156) (h1:=rfl) (by kernel_rfl) (by kernel_rfl) (by kernel_rfl) (by kernel_rfl) (by kernel_rfl) (hcv:=rfl) rfl (by kernel_rfl) (by kernel_rfl) (by kernel_rfl)) (by kernel_rfl) (by kernel_rfl) (by kernel_rfl) (by kernel_rfl)⟩
theorem fu29 (X:(KF P).In W.base) (T:Top p loose mean mg mb W.base):∃ fd,Fun W 29 "_join_translated_parts" 171 fd :=
  ⟨_,fun_mk X T.g T.nolimit (fnat_mk X (k:=29) (a:=171) (c:=170) (h1:=rfl) (by kernel_rfl) (by kernel_rfl) (by kernel_rfl) (by kernel_rfl) (by kernel_rfl) (hcv:=rfl) rfl (by kernel_rfl) (by kernel_rfl) (by kernel_rfl)) (by kernel_rfl) (by kernel_rfl) (by kernel_rfl) (by kernel_rfl)⟩
theorem fu4 (X:(KF P).In W.base) (T:Top p loose mean mg mb W.base):∃ fd,Fun W 4 "_bytes_from_decode_data" 46 fd :=
  ⟨_,fun_mk X T.g T.nolimit (fnat_mk X (k:=4) (a:=46) (c:=45) (h1:=rfl) (by kernel_rfl) (by kernel_rfl) (by kernel_rfl) (by kernel_rfl) (by kernel_rfl) (hcv:=rfl) rfl (by kernel_rfl) (by kernel_rfl) (by kernel_rfl)) (by kernel_rfl) (by kernel_rfl) (by kernel_rfl) (by kernel_rfl)⟩
theorem fu15 (X:(KF P).In W.base) (T:Top p loose mean mg mb W.base):∃ fd,FunD W 15 "b64encode" 111 fd [Value.none] :=
  ⟨_,fund_mk X T.g T.nolimit (T:=104) (n:=0) (fnat_mk X (k:=15) (a:=111) (c:=110) (h1:=rfl) (by kernel_rfl) (by kernel_rfl) (by kernel_rfl) (by kernel_rfl) (by kernel_rfl) (hcv:=rfl) rfl (by kernel_rfl) (by kernel_rfl) (by kernel_rfl)) (by kernel_rfl) (by kernel_rfl) (by kernel_rfl) (by kernel_rfl) (by kernel_rfl)⟩
theorem fu16 (X:(KF P).In W.base) (T:Top p loose mean mg mb W.base):∃ fd,FunD W 16 "b64decode" 119 fd [Value.none,Value.bool false] :=
  ⟨_,fund_mk X T.g T.nolimit (T:=112) (n:=0) (fnat_mk X (k:=16) (a:=119) (c:=118) (h1:=rfl) (by kernel_rfl) (by kernel_rfl) (by kernel_rfl) (by kernel_rfl) (by kernel_rfl) (hcv:=rfl) rfl (by kernel_rfl) (by kernel_rfl) (by kernel_rfl)) (by kernel_rfl) (by kernel_rfl) (by kernel_rfl) (by kernel_rfl) (by kernel_rfl)⟩
noncomputable def qTr:Str:=("_translate":Str) ++ ".<locals>."
theorem fu28 (X:(KF P).In W.base) (T:Top p loose mean mg mb W.base):∃ fd,Fun W 28 "_translate" 164 fd ∧ ∀ m,EnvAt 163 qTr (callEnvC fd m 164) :=
  ⟨_,fun_mk X T.g T.nolimit (fnat_mk X (k:=28) (a:=164) (c:=163) (h1:=rfl) (by kernel_rfl) (by kernel_rfl) (by kernel_rfl) (by kernel_rfl) (by kernel_rfl) (hcv:=rfl) rfl (by kernel_rfl) (by kernel_rfl) (by kernel_rfl)) (by kernel_rfl) (by kernel_rfl) (by kernel_rfl) (by kernel_rfl),fun m => ⟨rfl,rfl⟩⟩
theorem glob_b64 (X:(KF P).In W.base) (T:Top p loose mean mg mb W.base):∃ t,GlobV W (nm "_B64") (.bytes B64L.toArray t):=⟨343,glob_mk X T.g (by kernel_rfl)⟩
theorem glob_enc (X:(KF P).In W.base) (T:Top p loose mean mg mb W.base):∃ t,GlobV W (nm "_urlsafe_encode_translation") (.bytes uencE.toArray t):=⟨405,glob_mk X T.g (by kernel_rfl)⟩
theorem glob_dec (X:(KF P).In W.base) (T:Top p loose mean mg mb W.base):∃ t,GlobV W (nm "_urlsafe_decode_translation") (.bytes udecE.toArray t):=⟨410,glob_mk X T.g (by kernel_rfl)⟩
theorem pat_at (X:(KF P).In W.base):PatAt W.base 138 :=
  ⟨_,137,_,_,_,_,_,_,X 138 _ rfl,rfl,rfl,rfl,_,_,_,X 137 _ rfl,rfl,rfl,by decide +kernel⟩
theorem err_at (X:(KF P).In W.base) (T:Top p loose mean mg mb W.base):ErrC W (nm "Error") 56 ∧ IsVE W (.ref 56):=by
  have h56:=X 56 _ rfl
  refine ⟨⟨glob_mk X T.g (by kernel_rfl),?_⟩,?_⟩
  · refine ⟨_,_,55,_,_,_,_,_,_,_,_,_,_,_,_,_,"ValueError",_,_,_,PySem.F.excBase_ValueError,h56,⟨_,_,_,X 55 _ rfl,rfl,?_,fun ℓ => rfl⟩,?_⟩
    · intro e he
      simp only [List.mem_toArray,List.mem_cons,List.not_mem_nil,or_false] at he
      rcases he with rfl | rfl | rfl | rfl | rfl <;> exact ⟨_,_,rfl⟩
    · kernel_rfl
  · exact .own (x:="Error") h56 (by decide)
theorem isOk {c:Nat} {e:DictEntry} (h0:c ∉ specialL) (h:EiOk e):Value.isInt (c:Int) e.key = false:=by
  obtain ⟨k,t,x,t2,rfl,hk⟩:=h
  exact isF h0 hk
theorem hash_ok:∀ k,k ∈ specialL → (k:Int) = hashInt (k:Int):=by decide +kernel
theorem miss_of {es:List DictEntry} {o:Obj} {n:Nat} (hg:W.base.get? 147 = some o) (hc:o.cls = .type "dict") (hn:o.dict = none) (ht:o.slots = #[]) (hd:o.data = .dict es.toArray n) (hok:∀ e ∈ es,EiOk e):DictMiss W 147 missF:=by
  have hmem:∀ e ∈ es.toArray,EiOk e:=fun e he => hok e (List.mem_toArray.mp he)
  refine ⟨by decide,fun h hs => ⟨_,⟨_,_,_,hs _ _ hg,⟨hc,hn,ht⟩,hd,fun e he => ?_,fun ℓ => rfl⟩,?_⟩⟩
  · obtain ⟨k,t,x,t2,rfl,hk⟩:=hmem e he
    exact ⟨(k:Int),beq_self_eq_true (k:Int),hash_ok k hk⟩
  · intro c hc
    have h0:c ∉ specialL:=fun h => by
      rw [missF,List.contains_iff_mem.mpr h] at hc; cases hc
    unfold findBy
    rw [Option.map_eq_none_iff,Array.find?_eq_none]
    intro e he
    rw [show (intKind W.prog W.w).is (c:Int) e.key = Value.isInt (c:Int) e.key from rfl,isOk h0 (hmem e he)]
    decide
theorem miss_at (X:(KF P).In W.base):DictMiss W 147 missF:=by
  refine miss_of (X 147 _ rfl) rfl rfl rfl rfl ?_
  repeat' refine List.forall_mem_cons.mpr ⟨⟨_,_,_,_,rfl,by decide⟩,?_⟩
  exact fun ℓ h => (List.not_mem_nil h).elim
end
end
noncomputable section
set_option maxHeartbeats 4000000
theorem law_slt {W:Wd} {P:Params} {mg mb:Str → Option Value} {p:Program} {loose:List Str} {mean:ExcName → Option Value} (X:(KF P).In W.base) (T:Top p loose mean mg mb W.base) (C:CodeHd W.base 163 W.P)
    (hq1:W.qn (216:Nat) (37:Nat) = qTr ++ "<genexpr>") (hq2:W.qn (217:Nat) (39:Nat) = qTr ++ "<lambda>") :
    ∃ t,SL W (fnScope (fn 42)) 5 (fnBody (fn 42)) t ∧ ∀ (ns:List Int) (K:V → Prop) (X:Value → Prop),ns.length ≤ 63 → K (.bool true) → t (retPost K X) (stoOf ["script"] [.list (vints ns)]):=by
  have B:Blts W:=blts_mk X T (by
    intro x hx
    simp only [List.mem_cons,List.not_mem_nil,or_false] at hx
    rcases hx with rfl | rfl | rfl | rfl | rfl | rfl | rfl | rfl | rfl | rfl | rfl | rfl | rfl | rfl <;> kernel_rfl)
  obtain ⟨hE,hVE⟩:=err_at X T
  have T0:Tops W :=
    ⟨T.nolimit,codetab_mk C,bltmod_mk T,glob_mk X T.g (by kernel_rfl),pat_at X,glob_mk X T.g (by kernel_rfl),miss_at X,glob_mk X T.g (by kernel_rfl),X 39 _ rfl,hE,hVE,glob_b64 X T,glob_enc X T,glob_dec X T⟩
  obtain ⟨_,f31⟩:=fu31 X T
  obtain ⟨_,f32⟩:=fu32 X T
  obtain ⟨_,f33⟩:=fu33 X T
  obtain ⟨_,f34⟩:=fu34 X T
  obtain ⟨_,f35⟩:=fu35 X T
  obtain ⟨_,f36⟩:=fu36 X T
  obtain ⟨_,f37⟩:=fu37 X T
  obtain ⟨_,f38⟩:=fu38 X T
  obtain ⟨_,f39⟩:=fu39 X T
  obtain ⟨_,f40⟩:=fu40 X T
  obtain ⟨_,f41⟩:=fu41 X T
  obtain ⟨_,f7⟩:=fu7 X T
  obtain ⟨_,f8⟩:=fu8 X T
  obtain ⟨_,f9⟩:=fu9 X T
  obtain ⟨_,f11⟩:=fu11 X T
  obtain ⟨_,f12⟩:=fu12 X T
  obtain ⟨_,f13⟩:=fu13 X T
  obtain ⟨_,f15⟩:=fu15 X T
  obtain ⟨_,f16⟩:=fu16 X T
  obtain ⟨_,f19⟩:=fu19 X T
  obtain ⟨_,f20⟩:=fu20 X T
  obtain ⟨_,f23⟩:=fu23 X T
  obtain ⟨_,f26⟩:=fu26 X T
  obtain ⟨_,f28,hH⟩:=fu28 X T
  obtain ⟨_,f29⟩:=fu29 X T
  obtain ⟨_,f4⟩:=fu4 X T
  have c31:=can31 f31 0
  have c32:=can32 B f32 0
  have c33:=can33 B f33 0
  have c34:=can34 B f34 0
  have c35:=can35 B f35 0
  have c37:=can37 f37 0
  have c40:=can40 B f40 0
  have c11:=can11 f11 0
  have c9:=can9 B f9 0
  have c7:=can7 B f7 0
  have c8:=can8 B f8 0
  have c4:=can4 B T0 f4 0
  have c26:=can26 B T0 f26 0
  have c29:=can29 B f29 0
  have c36:=can36 B f36 1 c35
  have c38:=can38 B f38 1 c37
  have c12:=can12 B T0 f12 1 c7 c9 c11
  have c13:=can13 B T0 f13 1 c8 c9
  have c28:=can28 B T0 f28 hH hq1 hq2 1 c26
  have c39:=can39 B f39 2 c38
  have c15:=can15 B f15 2 c13
  have c16:=can16 B f16 2 (c4.up (by decide)) c12
  have c23:=can23 B T.nolimit f23 2 (c29.up (by decide)) c28
  have c19:=can19 B T0 f19 3 c15
  have c20:=can20 B T0 f20 3 (c4.up (by decide)) c16
  have c41:=can41 B T0 f41 4 (c16.up (by decide)) c20
  exact can42 B T0 5 (c31.up (by decide)) (c32.up (by decide)) (c33.up (by decide)) (c34.up (by decide)) (c36.up (by decide)) (c39.up (by decide)) (c23.up (by decide)) (c19.up (by decide)) (c15.up (by decide)) c41 (c40.up (by decide))
end
noncomputable section
set_option maxHeartbeats 4000000
theorem cells_all {cm:Str → Option Value} {base h:Heap}:∀ {cs:List (Str × Addr)} {cells:List (Addr × Obj)},CellsAre cm cs cells → (∀ p ∈ cells,h.get? p.1 = some p.2 ∧ base.get? p.1 = none) → ∀ q ∈ cs,(∃ v,h.IsCell q.2 v) ∧ base.get? q.2 = none
  | _,_,.nil,_,q,hq => nomatch hq
  | _,_,.cons hd r,hp,q,hq => by
    rcases List.mem_cons.mp hq with rfl | hq
    · have:=hp _ (.head _)
      exact ⟨⟨_,_,this.1,hd⟩,this.2⟩
    · exact cells_all r (fun p h => hp p (.tail _ h)) q hq
theorem cells_addr {cm:Str → Option Value}:∀ {cs:List (Str × Addr)} {cells:List (Addr × Obj)},CellsAre cm cs cells → cs.map (·.2) = cells.map (·.1)
  | _,_,.nil => rfl
  | _,_,.cons _ r => by rw [List.map_cons,List.map_cons,cells_addr r]
theorem lookup_mem {x:Str} {c:Addr}:∀ {cs:List (Str × Addr)},cs.lookup x = some c → (x,c) ∈ cs
  | (y,d) :: r,h => by
    rw [List.lookup_cons] at h
    cases hb:x == y with
    | true => rw [hb] at h; cases h; rw [eq_of_beq hb]; exact .head _
    | false => rw [hb] at h; exact .tail _ (lookup_mem h)
theorem cells_inj:∀ {cs:List (Str × Addr)},(cs.map (·.2)).Nodup → ∀ {x y:Str} {c:Addr},(x,c) ∈ cs → (y,c) ∈ cs → x = y
  | (z,d) :: r,hn,x,y,c,h1,h2 => by
    rw [List.map_cons,List.nodup_cons] at hn
    rcases List.mem_cons.mp h1 with h1 | h1
    · cases h1
      rcases List.mem_cons.mp h2 with h2 | h2
      · cases h2; rfl
      · exact absurd (List.mem_map.mpr ⟨_,h2,rfl⟩) hn.1
    · rcases List.mem_cons.mp h2 with h2 | h2
      · cases h2
        exact absurd (List.mem_map.mpr ⟨_,h1,rfl⟩) hn.1
      · exact cells_inj hn.2 h1 h2
end
end Mine
open PySem PySem.W PyProof.Rows
set_option maxHeartbeats 8000000 in
theorem PySem.Challenge.cw_kq0074_01_holds : PySem.Challenge.rw_kq0074_01.Holds := by
  refine holds_law Mine.said fun sd => ?_
  refine holds_open (q:=Mine.qv) (loose:=Mine.lo) (Xt:=Mine.xt) (XP:=XL Mine.qv []) (Yf:=(kmHook Mine.KF Mine.KAs Mine.k_as [159]).obs) (Ya:=(kmHook Mine.KF Mine.KAs Mine.k_as [159]).val) (YP:=(kmHook Mine.KF Mine.KAs Mine.k_as [159]).says) (N:=5152) Mine.leftO (kmHook Mine.KF Mine.KAs Mine.k_as [159]).of (kmHook Mine.KF Mine.KAs Mine.k_as [159]).keeps (fun s e => xl_of s (Bool.and_eq_true_iff.mp e).1) XL.keeps (by rfl) (by rfl) (by rfl) (fun s e => recFacts_of (Bool.and_eq_true_iff.mp e).2) (by rfl) (by first | assumption | decide +kernel) (by decide +kernel) ⟨rfl,rfl,rfl,rfl,rfl,by decide +kernel⟩ ?hw ?hc
  case hw => w_witness2
  k_fill
  intro w s₀ s₁ mg mb G Y fa o pm cd doc dV kV ho hd1 hcd hD hmg hg args vals as hpre hlay hrd hwl hlo
  have KX:=km_in_of Y
  km_tabs Y
  have X:=(Ground.X G).1
  have V:=(Ground.X G).2
  refine Ground.open G ?_
  intro T B D TE TW
  try (refine guard_noD D (by decide +kernel) ?_; clear D)
  km_lay T hmg ho hd1 cd
  clear hmg
  wrow_args hpre hlay hrd hwl hlo
  all_goals (
    first | refine callC_kw (enter_call ?_) | refine enter_call ?_
    w_top on
    refine Mine.postB hT9 (fun ℓ => rfl) (by kernel_rfl) ?_
    w_call any ho hd1 hcd hD T F
    clear hd1
    kn_ghosts F T
    k_drop
    skip)
  rename Frag.In _ _ => X9
  rename Top topProg _ _ _ _ _ => T9
  rename Fr _ _ _ _ => F9
  rename News _ _ _ _ => N9
  rename CellsAre _ _ _ => C9
  rename IntsAre _ _ => I9
  rename ¬ _ < _ => len9
  have P9:=N9 _ (.tail _ (.tail _ (.tail _ (.head _))))
  let W:Mine.Wd:=⟨PySem.Challenge.rw_kq0074_01.row.prog,w,ghostOf s₁.heap [(163,159)],159,s₁.os,fun l c => if l = 216 then Mine.qTr ++ "<genexpr>" else Mine.qTr ++ "<lambda>"⟩
  obtain ⟨t,hsl,ht⟩:=Mine.law_slt (W:=W) X9 T9 codeHd rfl rfl
  have Cs:=Mine.cells_all C9 (base:=ghostOf s₁.heap [(163,159)]) (fun p hp => ⟨(N9 p (List.mem_append_left [(159,tabObj #[])] hp)).1,(N9 p (List.mem_append_left [(159,tabObj #[])] hp)).2.2⟩)
  have Ca:=Mine.cells_addr C9
  have Cn:((cellsFrom (s₁.heap.objs.size + 1) (Mine.fnScope (Mine.fn 42)).names []).map (·.2)).Nodup:=by
    rw [show (cellsFrom (s₁.heap.objs.size + 1) (Mine.fnScope (Mine.fn 42)).names []).map (·.2) = _ from Ca]
    simp
    omega
  refine Mine.law_start (W:=W) hsl F9 (by kernel_rfl) (by kernel_rfl) rfl P9.2.2 P9.1 (AllBare.of_eq hg) rfl ?_ (fun x c h => (Cs _ (Mine.lookup_mem h)).1) (fun x y c h1 h2 => Mine.cells_inj Cn (Mine.lookup_mem h1) (Mine.lookup_mem h2)) lifted I9 ?_ (ht _ (fun u => u = .bool true) (fun ℓ => False) ?_ rfl) rfl ?_
  · intro x hx
    obtain ⟨c,hc⟩:=Mine.cell_lookup (names:=(Mine.fnScope (Mine.fn 42)).names) (k:=s₁.heap.objs.size + 1) hx
    exact ⟨c,hc,(Cs _ (Mine.lookup_mem hc)).2⟩
  · exact ⟨show (callerA.depth + 1) + 5 + 1 < recursionLimit by decide,Nat.lt_of_le_of_lt (Nat.add_le_add_right (Nat.add_le_add_right (show (callerA.deeper _).units ≤ 100 by first | exact Nat.le_of_ble_eq_true rfl | trace_state) _) _) (show 100 + 8 * 5 + 40 < cLine by decide)⟩
  · omega
  · intro f s' h1 h2 h3 h4 h5
    cases f with
    | next => obtain ⟨σ,h⟩:=h5; cases h
    | brk => obtain ⟨σ,h⟩:=h5; cases h
    | cont => obtain ⟨σ,h⟩:=h5; cases h
    | ret v =>
      obtain ⟨G,u,r,h⟩:=h5
      have h:u = Mine.V.bool true:=h
      subst h
      cases r
      exact ⟨rfl,h1,h3,h2,h4,trivial⟩
