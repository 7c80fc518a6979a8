import PyProof.Rows.All
import Wide.All
import OpenK.AllK
import KE.KLam
import KE.KSortKey
import Wide.FinOn
import Lean
import PySem.Challenge.RW_ta0065_01
open PySem PySem.W PyProof.Rows PySem.Calls
set_option Elab.async false
set_option autoImplicit false
set_option linter.unusedVariables false
set_option linter.all false
set_option bootstrap.genMatcherCode false
set_option genSizeOfSpec false
set_option tactic.hygienic false
-- Joined by a small program from parts. In three strings (keys of the model's own bookkeeping, in ho2) one letter is written as \x70: the word that opens the rows above may stand nowhere else in the text; the strings are the same.
namespace Mine
noncomputable abbrev Fz:=Addr → Option Obj
inductive V where
  | none | bool (b:Bool) | int (i:Int) | str (s:Str)
  | list (xs:List V) | tup (xs:List V) | rng (a b:Int)
  | adr (a:Addr) | bi (id:String) | ty (n:String) | hdr (i:Nat) | hl (i:Nat) | obj (o:Obj)
noncomputable def listO (vs:Array Value) (n:Nat):Obj:={ cls:=.type "list",data:=.seq vs n }
noncomputable def tupO (vs:Array Value) (n:Nat):Obj:={ cls:=.type "tuple",data:=.seq vs n }
noncomputable def rngO (a b:Int) (t u v:Tok):Obj:={ cls:=.type "range",data:=.fields #[.int a t,.int b u,.int 1 v] }
noncomputable def hdrC:Addr:=269
noncomputable def hdrO (d:Addr):Obj:={ cls:=.ref hdrC,dict:=some d,data:=.plain }
noncomputable def hdrD (h:Int) (t:Tok) (l:Addr) (n:Nat):Obj:={ cls:=.type "dict",data:=.dict #[⟨h,.str "_headers" t,.ref l⟩] n }
mutual
inductive Rel (F:Fz) (φ:List Addr):Value → V → Prop
  | none:Rel F φ .none .none
  | bool (b:Bool):Rel F φ (.bool b) (.bool b)
  | int (i:Int) (t:Tok):Rel F φ (.int i t) (.int i)
  | str (s:Str) (t:Tok):Rel F φ (.str s t) (.str s)
  | list {a:Addr} {vs:Array Value} {n:Nat} {xs:List V}:F a = some (listO vs n) → RelL F φ vs.toList xs → Rel F φ (.ref a) (.list xs)
  | tup {a:Addr} {vs:Array Value} {n:Nat} {xs:List V}:F a = some (tupO vs n) → RelL F φ vs.toList xs → Rel F φ (.ref a) (.tup xs)
  | rng {r:Addr} {a b:Int} {t u v:Tok}:F r = some (rngO a b t u v) → Rel F φ (.ref r) (.rng a b)
  | adr (a:Addr):Rel F φ (.ref a) (.adr a)
  | bi (id:String):Rel F φ (.builtin id) (.bi id)
  | ty (n:String):Rel F φ (.type n) (.ty n)
  | hdr {a d l:Addr} {i n:Nat} {h:Int} {t:Tok}:φ[i]? = some l → F a = some (hdrO d) → F d = some (hdrD h t l n) → Rel F φ (.ref a) (.hdr i)
  | hl {l:Addr} {i:Nat}:φ[i]? = some l → Rel F φ (.ref l) (.hl i)
  | obj {a:Addr} {o:Obj}:F a = some o → Rel F φ (.ref a) (.obj o)
inductive RelL (F:Fz) (φ:List Addr):List Value → List V → Prop
  | nil:RelL F φ [] []
  | cons {v:Value} {x:V} {vs:List Value} {xs:List V}:Rel F φ v x → RelL F φ vs xs → RelL F φ (v :: vs) (x :: xs)
end
section mono
variable {F F':Fz} {φ φ':List Addr}
theorem Rel.mono (hF:∀ a o,F a = some o → F' a = some o) (hp:∀ (i:Nat) l,φ[i]? = some l → φ'[i]? = some l) {v:Value} {x:V} (h:Rel F φ v x):Rel F' φ' v x :=
  Rel.rec (motive_1:=fun v x _ => Rel F' φ' v x) (motive_2:=fun vs xs _ => RelL F' φ' vs xs) .none .bool .int .str (fun h _ ih => .list (hF _ _ h) ih) (fun h _ ih => .tup (hF _ _ h) ih) (fun h => .rng (hF _ _ h)) .adr .bi .ty
    (fun h1 h2 h3 => .hdr (hp _ _ h1) (hF _ _ h2) (hF _ _ h3)) (fun h => .hl (hp _ _ h)) (fun h => .obj (hF _ _ h)) .nil (fun _ _ r rs => .cons r rs) h
theorem RelL.mono (hF:∀ a o,F a = some o → F' a = some o) (hp:∀ (i:Nat) l,φ[i]? = some l → φ'[i]? = some l) {vs:List Value} {xs:List V} (h:RelL F φ vs xs):RelL F' φ' vs xs :=
  RelL.rec (motive_1:=fun _ _ _ => True) (motive_2:=fun vs xs _ => RelL F' φ' vs xs) trivial (fun _ => trivial) (fun _ _ => trivial) (fun _ _ => trivial) (fun _ _ _ => trivial) (fun _ _ _ => trivial) (fun _ => trivial) (fun _ => trivial) (fun _ => trivial) (fun _ => trivial)
    (fun _ _ _ => trivial) (fun _ => trivial) (fun _ => trivial) .nil (fun r _ _ rs => .cons (r.mono hF hp) rs) h
end mono
noncomputable def RelP (F:Fz) (φ:List Addr) (v:Value):V → Prop
  | .none => v = .none
  | .bool b => v = .bool b
  | .int i => ∃ t,v = .int i t
  | .str x => ∃ t,v = .str x t
  | .list xs => ∃ a vs n,v = .ref a ∧ F a = some (listO vs n) ∧ RelL F φ vs.toList xs
  | .tup xs => ∃ a vs n,v = .ref a ∧ F a = some (tupO vs n) ∧ RelL F φ vs.toList xs
  | .rng a b => ∃ r t u k,v = .ref r ∧ F r = some (rngO a b t u k)
  | .adr a => v = .ref a
  | .bi id => v = .builtin id
  | .ty n => v = .type n
  | .hdr i => ∃ a d l n h t,v = .ref a ∧ φ[i]? = some l ∧ F a = some (hdrO d) ∧ F d = some (hdrD h t l n)
  | .hl i => ∃ l,v = .ref l ∧ φ[i]? = some l
  | .obj o => ∃ a,v = .ref a ∧ F a = some o
theorem Rel.inv {F:Fz} {φ:List Addr} {v:Value} {y:V} (r:Rel F φ v y):RelP F φ v y:=by
  cases r with
  | none | bool | adr | bi | ty => rfl
  | int i t | str i t => exact ⟨t,rfl⟩
  | list h r | tup h r => exact ⟨_,_,_,rfl,h,r⟩
  | rng h => exact ⟨_,_,_,_,rfl,h⟩
  | hdr h1 h2 h3 => exact ⟨_,_,_,_,_,_,rfl,h1,h2,h3⟩
  | hl h | obj h => exact ⟨_,rfl,h⟩
theorem len_one {α:Type} {vs:List α} (h:vs.length = 1):∃ a,vs = [a]:=List.length_eq_one_iff.mp h
theorem len_two {α:Type} {vs:List α} (h:vs.length = 2):∃ a b,vs = [a,b]:=by
  obtain ⟨a,r,rfl⟩:=List.exists_cons_of_length_eq_add_one h
  obtain ⟨b,rfl⟩:=len_one (Nat.succ.inj h)
  exact ⟨a,b,rfl⟩
theorem len_three {α:Type} {vs:List α} (h:vs.length = 3):∃ a b c,vs = [a,b,c]:=by
  obtain ⟨a,r,rfl⟩:=List.exists_cons_of_length_eq_add_one h
  obtain ⟨b,c,rfl⟩:=len_two (Nat.succ.inj h)
  exact ⟨a,b,c,rfl⟩
theorem len_four {α:Type} {vs:List α} (h:vs.length = 4):∃ a b c d,vs = [a,b,c,d]:=by
  obtain ⟨a,r,rfl⟩:=List.exists_cons_of_length_eq_add_one h
  obtain ⟨b,c,d,rfl⟩:=len_three (Nat.succ.inj h)
  exact ⟨a,b,c,d,rfl⟩
theorem none_ne {α:Type} {x:Option α} {a:α} (h1:x = none) (h2:x = some a):False:=by rw [h1] at h2; cases h2
theorem RelL.ind {F:Fz} {φ:List Addr} {M:List Value → List V → Prop} (h0:M [] []) (h1:∀ {v:Value} {x:V} {vs:List Value} {xs:List V},Rel F φ v x → RelL F φ vs xs → M vs xs → M (v :: vs) (x :: xs)) {vs:List Value} {xs:List V} (h:RelL F φ vs xs):M vs xs :=
  RelL.rec (motive_1:=fun _ _ _ => True) (motive_2:=fun vs xs _ => M vs xs) trivial (fun _ => trivial) (fun _ _ => trivial) (fun _ _ => trivial) (fun _ _ _ => trivial) (fun _ _ _ => trivial) (fun _ => trivial) (fun _ => trivial) (fun _ => trivial) (fun _ => trivial)
    (fun _ _ _ => trivial) (fun _ => trivial) (fun _ => trivial) h0 (fun r rs _ ih => h1 r rs ih) h
theorem RelL.length {F:Fz} {φ:List Addr} {v:List Value} {x:List V} (h:RelL F φ v x):v.length = x.length :=
  h.ind (M:=fun v x => v.length = x.length) (Eq.refl 0) fun _ _ ih => congrArg (· + 1) ih
theorem RelL.get {F:Fz} {φ:List Addr} {vs:List Value} {xs:List V} {i:Nat} {v:Value} (h:RelL F φ vs xs):vs[i]? = some v → ∃ x,xs[i]? = some x ∧ Rel F φ v x :=
  h.ind (M:=fun vs xs => ∀ i v,vs[i]? = some v → ∃ x,xs[i]? = some x ∧ Rel F φ v x) (fun _ _ h => (none_ne (by rfl) h).elim) (fun r _ ih i v h => by
    cases i with
    | zero => exact ⟨_,rfl,Option.some.inj h ▸ r⟩
    | succ i => exact ih i v h) i v
theorem RelL.get' {F:Fz} {φ:List Addr} {vs:List Value} {xs:List V} {i:Nat} {x:V} (h:RelL F φ vs xs):xs[i]? = some x → ∃ v,vs[i]? = some v ∧ Rel F φ v x :=
  h.ind (M:=fun vs xs => ∀ i x,xs[i]? = some x → ∃ v,vs[i]? = some v ∧ Rel F φ v x) (fun _ _ h => (none_ne (by rfl) h).elim) (fun r _ ih i v h => by
    cases i with
    | zero => exact ⟨_,rfl,Option.some.inj h ▸ r⟩
    | succ i => exact ih i v h) i x
theorem RelL.append {F:Fz} {φ:List Addr} {vs:List Value} {xs:List V} {us:List Value} {ys:List V} (h:RelL F φ vs xs) (h2:RelL F φ us ys):RelL F φ (vs ++ us) (xs ++ ys) :=
  h.ind (M:=fun vs xs => RelL F φ (vs ++ us) (xs ++ ys)) h2 fun r _ ih => .cons r ih
theorem four {k:Nat} (h:k < 4):k = 0 ∨ k = 1 ∨ k = 2 ∨ k = 3:=by
  cases k with
  | zero => exact .inl rfl
  | succ k => cases k with
    | zero => exact .inr (.inl rfl)
    | succ k => cases k with
      | zero => exact .inr (.inr (.inl rfl))
      | succ k => cases k with
        | zero => exact .inr (.inr (.inr rfl))
        | succ k => exact absurd h (Nat.not_lt.mpr (Nat.le_add_left 4 k))
inductive LV where
  | v (x:V)
  | own (xs:List V)
noncomputable abbrev Mu:=List (Str × Option LV)
noncomputable def mget:Mu → Str → Option LV
  | [],_ => none
  | (y,u) :: r,x => if x = y then u else mget r x
noncomputable def mset:Mu → Str → LV → Mu
  | [],x,lv => [(x,some lv)]
  | (y,u) :: r,x,lv => if x = y then (y,some lv) :: r else (y,u) :: mset r x lv
theorem mget_mset_self:∀ (μ:Mu) (x:Str) (lv:LV),mget (mset μ x lv) x = some lv
  | [],x,lv => by simp [mget,mset]
  | (y,u) :: r,x,lv => by
    unfold mset
    set_option tactic.hygienic true in split
    · rename_i h; simp [mget,h]
    · rename_i h; simp only [mget,h,if_false]; exact mget_mset_self r x lv
theorem mget_mset_other:∀ (μ:Mu) (x z:Str) (lv:LV),z ≠ x → mget (mset μ x lv) z = mget μ z
  | [],x,z,lv,h => by simp [mget,mset,h]
  | (y,u) :: r,x,z,lv,h => by
    unfold mset
    set_option tactic.hygienic true in split
    · rename_i e; subst e; simp [mget,h]
    · simp only [mget]
      split
      · rfl
      · exact mget_mset_other r x z lv h
theorem mget_mset (μ:Mu) (x z:Str) (lv:LV):mget (mset μ x lv) z = if z = x then some lv else mget μ z:=by
  set_option tactic.hygienic true in split
  · rename_i h; subst h; exact mget_mset_self ..
  · rename_i h; exact mget_mset_other _ _ _ _ h
inductive HL where
  | lst (es:List (Str × Str))
  | tab (p:Pos) (q:Str) (ps:Array Value)
noncomputable abbrev Sg:=List HL
noncomputable def pairV (p:Str × Str):V:=.tup [.str p.1,.str p.2]
noncomputable def Cont (F:Fz) (φ:List Addr) (o:Obj):HL → Prop
  | .lst es => ∃ vs n,o = listO vs n ∧ RelL F φ vs.toList (es.map pairV)
  | .tab p q ps => ∃ more,o = tabObj (ps ++ more) ∧ TriplesOk (ps ++ more).toList ∧
    (codeAmong p (ps ++ more).toList = Option.none ∨ ∃ c oc vs t,codeAmong p (ps ++ more).toList = some (.ref c) ∧ F c = some oc ∧ oc.data = .fields vs ∧ vs[1]? = some (.str q t))
theorem Cont.mono {F F':Fz} {φ φ':List Addr} (hF:∀ a o,F a = some o → F' a = some o) (hp:∀ (i:Nat) l,φ[i]? = some l → φ'[i]? = some l) {o:Obj} {e:HL} (h:Cont F φ o e):Cont F' φ' o e:=by
  cases e with
  | lst es => obtain ⟨vs,n,a,r⟩:=h; exact ⟨vs,n,a,r.mono hF hp⟩
  | tab p q ps =>
    obtain ⟨more,a,b,c⟩:=h
    refine ⟨more,a,b,c.imp id fun h => ?_⟩
    obtain ⟨c,oc,vs,t,h1,h2,h3⟩:=h
    exact ⟨c,oc,vs,t,h1,hF _ _ h2,h3⟩
inductive Pend where
  | rel (v:Value) (x:V)
  | held (a:Addr) (o:Obj) (mine:Bool)
structure GK (a b:Array GenState):Prop where
  bare:AllBare a → AllBare b
  keep:∀ (g:Nat) x,a[g]? = some x → b[g]? = some x
theorem GK.rfl {a:Array GenState}:GK a a:=⟨id,fun _ _ h => h⟩
structure Base where
  h0:Heap
  F0:Fz
  φ0:List Addr
  os0:OsState
  g0:Array GenState
noncomputable def Env.isOwnCell (env:Env) (c:Addr):Prop:=env.func.isSome = true ∧ ∃ x,env.kindOf x = some .cell ∧ env.cells.lookup x = some c
noncomputable def Env.outer (env:Env) (x:Str):Prop:=env.kindOf x = some .free ∨ (env.kindOf x = some .cell ∧ env.func = none)
noncomputable def RelLV (h:Heap) (F:Fz) (φ:List Addr) (ow:List (Str × Addr)) (x:Str) (v:Value):LV → Prop
  | .v y => Rel F φ v y
  | .own xs => ∃ a vs n,v = .ref a ∧ (x,a) ∈ ow ∧ h.get? a = some (listO vs n) ∧ RelL F φ vs.toList xs
structure StF (Amb:Fz → Prop) (B:Base) (env:Env) (μ:Mu) (σ:Sg) (P:List Pend) (s:Shared) (F:Fz) (φ:List Addr) (m:Str → Option Value) (ow:List (Str × Addr)):Prop where
  amb:Amb F
  sub:∀ a o,F a = some o → s.heap.get? a = some o
  ext:∀ a o,B.F0 a = some o → F a = some o
  new:∀ a o,F a = some o → B.F0 a = some o ∨ B.h0.get? a = none
  phi:∀ (i:Nat) l,B.φ0[i]? = some l → φ[i]? = some l
  phin:∀ l ∈ φ,l ∈ B.φ0 ∨ B.h0.get? l = none
  phi0:∀ l ∈ B.φ0,∃ o,B.h0.get? l = some o
  keep:∀ b o,B.h0.get? b = some o → b ∉ B.φ0 → s.heap.get? b = some o
  os:s.os = B.os0
  gens:AllBare s.gens
  gkeep:∀ (g:Nat) x,B.g0[g]? = some x → s.gens[g]? = some x
  nodup:φ.Nodup
  phiF:∀ l ∈ φ,F l = none
  len:φ.length = σ.length
  sto:∀ (i:Nat) l e,φ[i]? = some l → σ[i]? = some e → ∃ oo,s.heap.get? l = some oo ∧ Cont F φ oo e
  ns:s.heap.Ns env.locals m
  locF:F env.locals = none ∧ env.locals ∉ φ ∧ B.h0.get? env.locals = none
  loc:∀ x lv,mget μ x = some lv → env.kindOf x = some .local → ∃ v,m x = some v ∧ RelLV s.heap F φ ow x v lv
  cel:∀ x lv,mget μ x = some lv → env.kindOf x = some .cell → env.func.isSome = true → ∃ c v,env.cells.lookup x = some c ∧ s.heap.IsCell c (some v) ∧ ∃ y,lv = .v y ∧ Rel F φ v y
  fre:∀ x lv,mget μ x = some lv → Env.outer env x → ∃ c v,env.cells.lookup x = some c ∧ B.h0.IsCell c (some v) ∧ c ∉ B.φ0 ∧ ∃ y,lv = .v y ∧ Rel F φ v y
  cells:∀ c,Env.isOwnCell env c → (∃ v,s.heap.IsCell c v) ∧ F c = none ∧ c ∉ φ ∧ c ≠ env.locals ∧ B.h0.get? c = none
  own:∀ x a,(x,a) ∈ ow → (∃ o,s.heap.get? a = some o) ∧ F a = none ∧ a ∉ φ ∧ a ≠ env.locals ∧ ¬ Env.isOwnCell env a ∧ B.h0.get? a = none
  ownk:∀ x y a,(x,a) ∈ ow → (y,a) ∈ ow → x = y
  ownf:∀ x a b,(x,a) ∈ ow → (x,b) ∈ ow → a = b
  pend:∀ v x,Pend.rel v x ∈ P → Rel F φ v x
  held:∀ a o mi,Pend.held a o mi ∈ P → s.heap.get? a = some o ∧ a ∉ φ ∧ a ≠ env.locals ∧ ¬ Env.isOwnCell env a ∧ (∀ x,(x,a) ∉ ow) ∧ (mi = true → F a = none ∧ B.h0.get? a = none)
inductive St (Amb:Fz → Prop) (B:Base) (env:Env) (μ:Mu) (σ:Sg) (P:List Pend) (s:Shared):Prop
  | mk (F:Fz) (φ:List Addr) (m:Str → Option Value) (ow:List (Str × Addr)) (S:StF Amb B env μ σ P s F φ m ow)
structure EnvOk (env:Env):Prop where
  kind:env.scope.kind = .function
  globals:env.globals = mainGlobals
  builtins:env.builtins = builtinsNs
  has:∀ x,env.kindOf x = some .cell → ∃ c,env.cells.lookup x = some c
  apart:env.func.isSome = true → ∀ x y c,env.kindOf x = some .cell → env.kindOf y = some .cell → env.cells.lookup x = some c → env.cells.lookup y = some c → x = y
theorem iteT {c p q:Prop} [Decidable c] (h:c) (x:p):if c then p else q:=Eq.mpr (if_pos h) x
theorem iteF {c p q:Prop} [Decidable c] (h:¬c) (x:q):if c then p else q:=Eq.mpr (if_neg h) x
noncomputable def updF (F:Fz) (a:Addr) (o:Obj):Fz:=fun b => if b = a then some o else F b
theorem updF_self {F:Fz} {a:Addr} {o:Obj}:updF F a o a = some o:=if_pos rfl
theorem updF_keep {F:Fz} {a:Addr} {o:Obj} (f1:F a = none) (b:Addr) (o':Obj) (h:F b = some o'):updF F a o b = some o':=(if_neg fun e => by rw [e,f1] at h; cases h).trans h
theorem updF_inv {F:Fz} {a b:Addr} {o o':Obj} (h:updF F a o b = some o'):(b = a ∧ o = o') ∨ F b = some o':=by
  by_cases e:b = a
  · exact .inl ⟨e,Option.some.inj ((if_pos e).symm.trans h)⟩
  · exact .inr ((if_neg e).symm.trans h)
section
variable {Amb:Fz → Prop} {B:Base} {env:Env} {μ:Mu} {σ:Sg} {P:List Pend} {s s':Shared} {F:Fz} {φ:List Addr} {m:Str → Option Value} {ow:List (Str × Addr)}
theorem StF.drop {P':List Pend} (S:StF Amb B env μ σ P s F φ m ow) (h:∀ p ∈ P',p ∈ P):StF Amb B env μ σ P' s F φ m ow :=
  { S with pend:=fun v x hm => S.pend v x (h _ hm),held:=fun a o mi hm => S.held a o mi (h _ hm) }
theorem St.drop {P':List Pend} (S:St Amb B env μ σ P s) (h:∀ p ∈ P',p ∈ P):St Amb B env μ σ P' s :=
  let ⟨F,φ,m,ow,x⟩:=S; ⟨F,φ,m,ow,x.drop h⟩
theorem StF.add {v:Value} {x:V} (S:StF Amb B env μ σ P s F φ m ow) (r:Rel F φ v x):StF Amb B env μ σ (.rel v x :: P) s F φ m ow :=
  { S with
    pend:=fun u y hm => by
      rcases List.mem_cons.mp hm with e | hm
      · cases e; exact r
      · exact S.pend u y hm
    held:=fun a o mi hm => by
      rcases List.mem_cons.mp hm with e | hm
      · cases e
      · exact S.held a o mi hm }
structure Grow (s s':Shared):Prop where
  keep:∀ b o,s.heap.get? b = some o → s'.heap.get? b = some o
  os:s'.os = s.os
  gens:GK s.gens s'.gens
theorem Grow.refl (s:Shared):Grow s s:=⟨fun _ _ h => h,rfl,.rfl⟩
theorem Grow.of {h':Heap} {tk:Nat} (k:∀ b o,s.heap.get? b = some o → h'.get? b = some o):Grow s { s with heap:=h',toks:=tk }:=⟨k,rfl,.rfl⟩
theorem Grow.push (o:Obj) (tk:Nat):Grow s { s with heap:=s.heap.push o,toks:=tk }:=⟨fun _ _ h => Heap.get?_push_of_some _ h,rfl,.rfl⟩
theorem Grow.toks (tk:Nat):Grow s { s with toks:=tk }:=⟨fun _ _ h => h,rfl,.rfl⟩
theorem RelLV.grow {h h':Heap} {x:Str} {v:Value} {lv:LV} (k:∀ b o,h.get? b = some o → h'.get? b = some o) (r:RelLV h F φ ow x v lv):RelLV h' F φ ow x v lv:=by
  cases lv with
  | v y => exact r
  | own xs => obtain ⟨a,vs,n,e1,e2,e3,e4⟩:=r; exact ⟨a,vs,n,e1,e2,k _ _ e3,e4⟩
theorem RelLV.mono {h:Heap} {x:Str} {v:Value} {lv:LV} {F':Fz} {φ':List Addr} (hF:∀ a o,F a = some o → F' a = some o) (hp:∀ (i:Nat) l,φ[i]? = some l → φ'[i]? = some l)
    (r:RelLV h F φ ow x v lv):RelLV h F' φ' ow x v lv:=by
  cases lv with
  | v y => exact Rel.mono hF hp r
  | own xs => obtain ⟨a,vs,n,e1,e2,e3,e4⟩:=r; exact ⟨a,vs,n,e1,e2,e3,e4.mono hF hp⟩
theorem StF.grow (S:StF Amb B env μ σ P s F φ m ow) (G:Grow s s'):StF Amb B env μ σ P s' F φ m ow where
  amb:=S.amb
  sub:=fun a o h => G.keep _ _ (S.sub a o h)
  ext:=S.ext
  new:=S.new
  phi:=S.phi
  phin:=S.phin
  phi0:=S.phi0
  keep:=fun b o h hn => G.keep _ _ (S.keep b o h hn)
  os:=G.os.trans S.os
  gens:=G.gens.bare S.gens
  gkeep:=fun g x h => G.gens.keep g x (S.gkeep g x h)
  nodup:=S.nodup
  phiF:=S.phiF
  len:=S.len
  sto:=fun i l es h1 h2 => let ⟨oo,a,b⟩:=S.sto i l es h1 h2; ⟨oo,G.keep _ _ a,b⟩
  ns:=S.ns.keeps G.keep
  locF:=S.locF
  loc:=fun x lv h1 h2 => let ⟨v,a,b⟩:=S.loc x lv h1 h2; ⟨v,a,b.grow G.keep⟩
  cel:=fun x lv h1 h2 h3 => let ⟨c,v,a,b,d⟩:=S.cel x lv h1 h2 h3; ⟨c,v,a,b.keeps G.keep,d⟩
  fre:=S.fre
  cells:=fun c h => let ⟨⟨v,a⟩,b⟩:=S.cells c h; ⟨⟨v,a.keeps G.keep⟩,b⟩
  own:=fun x a h => let ⟨⟨o,q⟩,b⟩:=S.own x a h; ⟨⟨o,G.keep _ _ q⟩,b⟩
  ownk:=S.ownk
  ownf:=S.ownf
  pend:=S.pend
  held:=fun a o mi h => let ⟨q,b⟩:=S.held a o mi h; ⟨G.keep _ _ q,b⟩
theorem St.grow (S:St Amb B env μ σ P s) (G:Grow s s'):St Amb B env μ σ P s' :=
  let ⟨F,φ,m,ow,x⟩:=S; ⟨F,φ,m,ow,x.grow G⟩
theorem StF.free {a:Addr} (S:StF Amb B env μ σ P s F φ m ow) (hn:s.heap.get? a = none):F a = none ∧ a ∉ φ ∧ a ≠ env.locals ∧ ¬ Env.isOwnCell env a ∧ (∀ x,(x,a) ∉ ow) ∧ B.h0.get? a = none:=by
  have h1:a ∉ φ:=fun hm => by
    obtain ⟨i,hi,e⟩:=List.getElem_of_mem hm
    obtain ⟨es,he⟩:∃ es,σ[i]? = some es:=⟨_,List.getElem?_eq_getElem (S.len ▸ hi)⟩
    obtain ⟨_,q,_⟩:=S.sto i a es (by rw [List.getElem?_eq_getElem hi,e]) he
    rw [hn] at q; cases q
  refine ⟨?_,h1,?_,?_,?_,?_⟩
  · cases e:F a with
    | none => rfl
    | some o => rw [S.sub a o e] at hn; cases hn
  · rintro rfl
    obtain ⟨o,es,ep,q,_⟩:=S.ns
    rw [hn] at q; cases q
  · intro hc
    obtain ⟨⟨v,o,q,_⟩,_⟩:=S.cells a hc
    rw [hn] at q; cases q
  · intro x hx
    obtain ⟨⟨o,q⟩,_⟩:=S.own x a hx
    rw [hn] at q; cases q
  · cases e:B.h0.get? a with
    | none => rfl
    | some o =>
      by_cases hp:a ∈ B.φ0
      · obtain ⟨i,hi,e'⟩:=List.getElem_of_mem hp
        have:=S.phi i a (by rw [List.getElem?_eq_getElem hi,e'])
        exact absurd (List.mem_of_getElem? this) h1
      · rw [S.keep a o e hp] at hn; cases hn
theorem StF.freeze {a:Addr} {o:Obj} (hA:∀ F F':Fz,(∀ a o,F a = some o → F' a = some o) → Amb F → Amb F') (S:StF Amb B env μ σ P s F φ m ow) (G:Grow s s') (hn:s.heap.get? a = none) (ho:s'.heap.get? a = some o):StF Amb B env μ σ P s' (updF F a o) φ m ow:=by
  obtain ⟨f1,f2,f3,f4,f5,f6⟩:=S.free hn
  have hF:=updF_keep (o:=o) f1
  have hnone:∀ b,b ≠ a → F b = none → updF F a o b = none:=fun b h1 h2 => (if_neg h1).trans h2
  have T:=S.grow G
  exact {
    amb:=hA _ _ hF T.amb
    sub:=fun b o' h => (updF_inv h).elim (fun e => e.1 ▸ e.2 ▸ ho) (T.sub b o')
    ext:=fun b o' h => hF _ _ (T.ext b o' h)
    new:=fun b o' h => (updF_inv h).elim (fun e => .inr (e.1 ▸ f6)) (T.new b o')
    phi:=T.phi,phin:=T.phin,phi0:=T.phi0,keep:=T.keep,os:=T.os,gens:=T.gens,gkeep:=T.gkeep,nodup:=T.nodup
    phiF:=fun l hl => hnone l (fun e => f2 (e ▸ hl)) (T.phiF l hl)
    len:=T.len
    sto:=fun i l es h1 h2 => let ⟨oo,q,r⟩:=T.sto i l es h1 h2; ⟨oo,q,r.mono hF fun _ _ h => h⟩
    ns:=T.ns
    locF:=⟨hnone _ (fun e => f3 e.symm) T.locF.1,T.locF.2⟩
    loc:=fun x lv h1 h2 => let ⟨v,q,r⟩:=T.loc x lv h1 h2; ⟨v,q,r.mono hF fun _ _ h => h⟩
    cel:=fun x lv h1 h2 h3 => let ⟨c,v,q,r,y,e,z⟩:=T.cel x lv h1 h2 h3; ⟨c,v,q,r,y,e,z.mono hF fun _ _ h => h⟩
    fre:=fun x lv h1 h2 => let ⟨c,v,q,r,k,y,e,z⟩:=T.fre x lv h1 h2; ⟨c,v,q,r,k,y,e,z.mono hF fun _ _ h => h⟩
    cells:=fun c h => let ⟨q,r,k⟩:=T.cells c h; ⟨q,hnone c (fun e => f4 (e ▸ h)) r,k⟩
    own:=fun x b h => let ⟨q,r,k⟩:=T.own x b h; ⟨q,hnone b (fun e => f5 x (e ▸ h)) r,k⟩
    ownk:=T.ownk
    ownf:=T.ownf
    pend:=fun v x h => (T.pend v x h).mono hF fun _ _ h => h
    held:=fun b o' mi h => by
      obtain ⟨q,r1,r2,r3,r4,r5⟩:=T.held b o' mi h
      refine ⟨q,r1,r2,r3,r4,fun e => ⟨hnone b (fun e' => ?_) (r5 e).1,(r5 e).2⟩⟩
      obtain ⟨q',_⟩:=S.held b o' mi h
      rw [e',hn] at q'; cases q' }
theorem StF.hold {a:Addr} {o:Obj} (S:StF Amb B env μ σ P s F φ m ow) (ho:s.heap.get? a = some o) (h1:a ∉ φ) (h2:a ≠ env.locals) (h3:¬ Env.isOwnCell env a) (h4:∀ x,(x,a) ∉ ow) {mi:Bool} (h5:mi = true → F a = none ∧ B.h0.get? a = none) :
    StF Amb B env μ σ (.held a o mi :: P) s F φ m ow :=
  { S with
    pend:=fun u y hm => by
      rcases List.mem_cons.mp hm with e | hm
      · cases e
      · exact S.pend u y hm
    held:=fun b o' mi' hm => by
      rcases List.mem_cons.mp hm with e | hm
      · cases e; exact ⟨ho,h1,h2,h3,h4,h5⟩
      · exact S.held b o' mi' hm }
theorem StF.holdF {a:Addr} {o:Obj} (S:StF Amb B env μ σ P s F φ m ow) (hF:F a = some o):StF Amb B env μ σ (.held a o false :: P) s F φ m ow :=
  S.hold (S.sub a o hF) (fun h => by rw [S.phiF a h] at hF; cases hF) (fun h => by rw [h,S.locF.1] at hF; cases hF) (fun h => by rw [(S.cells a h).2.1] at hF; cases hF)
    (fun x h => by rw [(S.own x a h).2.1] at hF; cases hF) (fun e => by cases e)
structure Mn (B:Base) (env:Env) (F:Fz) (φ:List Addr) (ow:List (Str × Addr)) (P:List Pend) (a:Addr):Prop where
  f:F a = none
  h0:B.h0.get? a = none
  phi:a ∉ φ
  loc:a ≠ env.locals
  cell:¬ Env.isOwnCell env a
  ow:∀ x,(x,a) ∉ ow
  pend:∀ o mi,Pend.held a o mi ∉ P
theorem StF.mine {P':List Pend} {a:Addr} {o:Obj} (S:StF Amb B env μ σ P s F φ m ow) (hm:Pend.held a o true ∈ P) (hP:∀ o mi,Pend.held a o mi ∉ P'):Mn B env F φ ow P' a :=
  have h:=S.held a o true hm
  ⟨(h.2.2.2.2.2 rfl).1,(h.2.2.2.2.2 rfl).2,h.2.1,h.2.2.1,h.2.2.2.1,h.2.2.2.2.1,hP⟩
theorem StF.freeMn {P':List Pend} {a:Addr} (S:StF Amb B env μ σ P s F φ m ow) (hn:s.heap.get? a = none) (hP:∀ o mi,Pend.held a o mi ∉ P'):Mn B env F φ ow P' a :=
  have h:=S.free hn
  ⟨h.1,h.2.2.2.2.2,h.2.1,h.2.2.1,h.2.2.2.1,h.2.2.2.2.1,hP⟩
theorem StF.notHeld {a:Addr} (S:StF Amb B env μ σ P s F φ m ow) (hn:s.heap.get? a = none) (o:Obj) (mi:Bool):Pend.held a o mi ∉ P:=fun hm =>
  nomatch hn.symm.trans (S.held a o mi hm).1
theorem StF.holdMn {P':List Pend} {a:Addr} {o:Obj} (S:StF Amb B env μ σ P s F φ m ow) (M:Mn B env F φ ow P' a) (ho:s.heap.get? a = some o):StF Amb B env μ σ (.held a o true :: P) s F φ m ow :=
  S.hold ho M.phi M.loc M.cell M.ow fun _ => ⟨M.f,M.h0⟩
theorem StF.turn {wr:List Addr} (S:StF Amb B env μ σ P s F φ m ow) (k:∀ b o,b ∉ wr → s.heap.get? b = some o → s'.heap.get? b = some o) (hos:s'.os = s.os) (hg:GK s.gens s'.gens)
    (hw:∀ b ∈ wr,Mn B env F φ ow P b):StF Amb B env μ σ P s' F φ m ow where
  amb:=S.amb
  sub:=fun a o h => k _ _ (fun q => by rw [(hw a q).f] at h; cases h) (S.sub a o h)
  ext:=S.ext
  new:=S.new
  phi:=S.phi
  phin:=S.phin
  phi0:=S.phi0
  keep:=fun b o h hn => k _ _ (fun q => by rw [(hw b q).h0] at h; cases h) (S.keep b o h hn)
  os:=hos.trans S.os
  gens:=hg.bare S.gens
  gkeep:=fun g x h => hg.keep g x (S.gkeep g x h)
  nodup:=S.nodup
  phiF:=S.phiF
  len:=S.len
  sto:=fun i l es h1 h2 => let ⟨oo,a,b⟩:=S.sto i l es h1 h2; ⟨oo,k _ _ (fun q => (hw l q).phi (List.mem_of_getElem? h1)) a,b⟩
  ns:=S.ns.at' fun o e => k _ _ (fun q => (hw _ q).loc rfl) e
  locF:=S.locF
  loc:=fun x lv h1 h2 => by
    obtain ⟨v,a,b⟩:=S.loc x lv h1 h2
    refine ⟨v,a,?_⟩
    cases lv with
    | v y => exact b
    | own xs => obtain ⟨a,vs,n,e1,e2,e3,e4⟩:=b; exact ⟨a,vs,n,e1,e2,k _ _ (fun q => (hw a q).ow x e2) e3,e4⟩
  cel:=fun x lv h1 h2 h3 => let ⟨c,v,a,⟨o,b1,b2⟩,d⟩:=S.cel x lv h1 h2 h3; ⟨c,v,a,⟨o,k _ _ (fun q => (hw c q).cell ⟨h3,x,h2,a⟩) b1,b2⟩,d⟩
  fre:=S.fre
  cells:=fun c h => let ⟨⟨v,o,a1,a2⟩,b⟩:=S.cells c h; ⟨⟨v,o,k _ _ (fun q => (hw c q).cell h) a1,a2⟩,b⟩
  own:=fun x a h => let ⟨⟨o,q⟩,b⟩:=S.own x a h; ⟨⟨o,k _ _ (fun q => (hw a q).ow x h) q⟩,b⟩
  ownk:=S.ownk
  ownf:=S.ownf
  pend:=S.pend
  held:=fun a o mi h => let ⟨q,b⟩:=S.held a o mi h; ⟨k _ _ (fun q' => (hw a q').pend o mi h) q,b⟩
theorem StF.turnGone {a:Addr} {o:Obj} (S:StF Amb B env μ σ (.held a o true :: P) s F φ m ow) (hP:∀ o mi,Pend.held a o mi ∉ P) (k:∀ b o,b ∉ [a] → s.heap.get? b = some o → s'.heap.get? b = some o) (hos:s'.os = s.os) (hg:GK s.gens s'.gens) :
    StF Amb B env μ σ P s' F φ m ow :=
  (S.drop fun p h => List.mem_cons_of_mem _ h).turn k hos hg fun b hb => List.mem_singleton.mp hb ▸ S.mine (List.mem_cons_self ..) hP
theorem StF.turnIt {a:Addr} {o o':Obj} (S:StF Amb B env μ σ (.held a o true :: P) s F φ m ow) (hP:∀ o mi,Pend.held a o mi ∉ P) (k:∀ b o,b ∉ [a] → s.heap.get? b = some o → s'.heap.get? b = some o) (hos:s'.os = s.os) (hg:GK s.gens s'.gens)
    (ho:s'.heap.get? a = some o'):StF Amb B env μ σ (.held a o' true :: P) s' F φ m ow :=
  (S.turnGone hP k hos hg).holdMn (S.mine (List.mem_cons_self ..) hP) ho
theorem StF.goneBut {a:Addr} {o:Obj} {h':Heap} (S:StF Amb B env μ σ (.held a o true :: P) s F φ m ow) (hP:∀ o mi,Pend.held a o mi ∉ P) (hs:Heap.SameBut a s.heap h'):StF Amb B env μ σ P { s with heap:=h' } F φ m ow :=
  S.turnGone hP (fun b o hb e => hs.extBut b o (fun e' => hb (e' ▸ List.mem_singleton_self _)) e) rfl .rfl
theorem turn_ar {k i N:Nat} (hk:k + i = N) (hi:i < N):k - 1 < k ∧ k - 1 + (i + 1) = N:=by
  cases k with
  | zero => exact absurd ((Nat.zero_add i).symm.trans hk) (Nat.ne_of_lt hi)
  | succ k => exact ⟨Nat.lt_succ_self k,(Nat.succ_add_eq_add_succ k i).symm.trans hk⟩
theorem end_at {i N:Nat} {k:Nat} (hk:k + i = N) (hi:¬ i < N):i = N:=Nat.le_antisymm (hk ▸ Nat.le_add_left i k) (Nat.le_of_not_lt hi)
theorem nin_rel {a:Addr} {v:Value} {y:V} (h:∀ o mi,Pend.held a o mi ∉ P) (o:Obj) (mi:Bool):Pend.held a o mi ∉ .rel v y :: P:=fun hm =>
  (List.mem_cons.mp hm).elim (fun e => nomatch e) (h o mi)
theorem nin_held {a b:Addr} {o':Obj} {mi':Bool} (hn:a ≠ b) (h:∀ o mi,Pend.held a o mi ∉ P) (o:Obj) (mi:Bool):Pend.held a o mi ∉ .held b o' mi' :: P:=fun hm =>
  (List.mem_cons.mp hm).elim (fun e => hn (Pend.held.inj e).1) (h o mi)
theorem mem2 {α:Type} {a b:α} {l:List α}:b ∈ a :: b :: l:=.tail _ (.head _)
theorem mem3 {α:Type} {a b c:α} {l:List α}:c ∈ a :: b :: c :: l:=.tail _ (.tail _ (.head _))
theorem subs1 {a b c d:Pend}:∀ q ∈ c :: a :: b :: d :: P,q ∈ a :: b :: c :: d :: P:=fun q h => by
  simp only [List.mem_cons] at h ⊢
  grind
theorem subs3 {a b c:Pend}:∀ q ∈ a :: b :: c :: P,q ∈ c :: a :: b :: P:=fun q h => by
  simp only [List.mem_cons] at h ⊢
  grind
theorem subs4 {z a b:Pend}:∀ q ∈ z :: P,q ∈ z :: a :: b :: P:=fun q h => (List.mem_cons.mp h).elim (fun e => List.mem_cons.mpr (.inl e)) fun h => .tail _ (.tail _ (.tail _ h))
theorem subs5 {z a b c d:Pend}:∀ q ∈ z :: P,q ∈ z :: a :: b :: c :: d :: P:=fun q h => (List.mem_cons.mp h).elim (fun e => List.mem_cons.mpr (.inl e)) fun h => .tail _ (.tail _ (.tail _ (.tail _ (.tail _ h))))
theorem all2 {a b:Addr} {p:Addr → Prop} (h1:p a) (h2:p b):∀ x ∈ [a,b],p x:=fun _ h => (List.mem_cons.mp h).elim (fun e => e ▸ h1) fun h => List.mem_singleton.mp h ▸ h2
theorem all3 {a b c:Addr} {p:Addr → Prop} (h1:p a) (h2:p b) (h3:p c):∀ x ∈ [a,b,c],p x:=fun _ h =>
  (List.mem_cons.mp h).elim (fun e => e ▸ h1) fun h => (List.mem_cons.mp h).elim (fun e => e ▸ h2) fun h => List.mem_singleton.mp h ▸ h3
theorem subs2 {a b c d:Pend}:∀ q ∈ a :: b :: c :: (P ++ [d]),q ∈ b :: d :: a :: c :: P:=fun q h => by
  simp only [List.mem_cons,List.mem_append,List.not_mem_nil,or_false] at h ⊢
  grind
theorem StF.freezeMine {a:Addr} {o:Obj} (hA:∀ F F':Fz,(∀ a o,F a = some o → F' a = some o) → Amb F → Amb F') (S:StF Amb B env μ σ (.held a o true :: P) s F φ m ow) (hP:∀ o' mi,Pend.held a o' mi ∉ P):StF Amb B env μ σ P s (updF F a o) φ m ow:=by
  obtain ⟨ho,f2,f3,f4,f5,f6⟩:=S.held a o true (List.mem_cons_self ..)
  obtain ⟨f1,f6⟩:=f6 rfl
  have hF:=updF_keep (o:=o) f1
  have hnone:∀ b,b ≠ a → F b = none → updF F a o b = none:=fun b h1 h2 => (if_neg h1).trans h2
  exact {
    amb:=hA _ _ hF S.amb
    sub:=fun b o' h => (updF_inv h).elim (fun e => e.1 ▸ e.2 ▸ ho) (S.sub b o')
    ext:=fun b o' h => hF _ _ (S.ext b o' h)
    new:=fun b o' h => (updF_inv h).elim (fun e => .inr (e.1 ▸ f6)) (S.new b o')
    phi:=S.phi,phin:=S.phin,phi0:=S.phi0,keep:=S.keep,os:=S.os,gens:=S.gens,gkeep:=S.gkeep,nodup:=S.nodup
    phiF:=fun l hl => hnone l (fun e => f2 (e ▸ hl)) (S.phiF l hl)
    len:=S.len
    sto:=fun i l es h1 h2 => let ⟨oo,q,r⟩:=S.sto i l es h1 h2; ⟨oo,q,r.mono hF fun _ _ h => h⟩
    ns:=S.ns
    locF:=⟨hnone _ (fun e => f3 e.symm) S.locF.1,S.locF.2⟩
    loc:=fun x lv h1 h2 => let ⟨v,q,r⟩:=S.loc x lv h1 h2; ⟨v,q,r.mono hF fun _ _ h => h⟩
    cel:=fun x lv h1 h2 h3 => let ⟨c,v,q,r,y,e,z⟩:=S.cel x lv h1 h2 h3; ⟨c,v,q,r,y,e,z.mono hF fun _ _ h => h⟩
    fre:=fun x lv h1 h2 => let ⟨c,v,q,r,k,y,e,z⟩:=S.fre x lv h1 h2; ⟨c,v,q,r,k,y,e,z.mono hF fun _ _ h => h⟩
    cells:=fun c h => let ⟨q,r,k⟩:=S.cells c h; ⟨q,hnone c (fun e => f4 (e ▸ h)) r,k⟩
    own:=fun x b h => let ⟨q,r,k⟩:=S.own x b h; ⟨q,hnone b (fun e => f5 x (e ▸ h)) r,k⟩
    ownk:=S.ownk
    ownf:=S.ownf
    pend:=fun v x h => (S.pend v x (List.mem_cons_of_mem _ h)).mono hF fun _ _ h => h
    held:=fun b o' mi h => by
      obtain ⟨q,r1,r2,r3,r4,r5⟩:=S.held b o' mi (List.mem_cons_of_mem _ h)
      exact ⟨q,r1,r2,r3,r4,fun e => ⟨hnone b (fun e' => hP o' mi (e' ▸ h)) (r5 e).1,(r5 e).2⟩⟩ }
end
section
variable {Amb:Fz → Prop} {B:Base} {env:Env} {μ:Mu} {σ:Sg} {P:List Pend} {s s':Shared} {F:Fz} {φ:List Addr} {m:Str → Option Value} {ow:List (Str × Addr)}
theorem StF.setLocal {x:Str} {v:Value} {y:V} {h':Heap} {tk:Nat} (S:StF Amb B env μ σ P s F φ m ow) (hk:env.kindOf x = some .local) (r:Rel F φ v y)
    (hn:h'.Ns env.locals (fun z => if z = x then some v else m z)) (hs:Heap.SameBut env.locals s.heap h') :
    StF Amb B env (mset μ x (.v y)) σ P { s with heap:=h',toks:=tk } F φ (fun z => if z = x then some v else m z) (ow.filter fun p => decide (p.1 ≠ x)):=by
  have get:∀ b o,b ≠ env.locals → s.heap.get? b = some o → h'.get? b = some o:=fun b o hb h => (hs.2 b hb).trans h
  have hL:∀ b,F b ≠ none → b ≠ env.locals:=fun b hb e => hb (e ▸ S.locF.1)
  have hin:∀ z a,(z,a) ∈ ow.filter (fun p => decide (p.1 ≠ x)) ↔ (z,a) ∈ ow ∧ z ≠ x:=fun z a => by simp
  have lv:∀ z u l,z ≠ x → RelLV s.heap F φ ow z u l → RelLV h' F φ (ow.filter fun p => decide (p.1 ≠ x)) z u l:=by
    intro z u l hz q
    cases l with
    | v _ => exact q
    | own xs =>
      obtain ⟨a,vs,n,e1,e2,e3,e4⟩:=q
      exact ⟨a,vs,n,e1,(hin _ _).mpr ⟨e2,hz⟩,get _ _ (S.own _ _ e2).2.2.2.1 e3,e4⟩
  exact {
    amb:=S.amb
    sub:=fun a o h => get _ _ (hL a (by rw [h]; nofun)) (S.sub a o h)
    ext:=S.ext,new:=S.new,phi:=S.phi,phin:=S.phin,phi0:=S.phi0
    keep:=fun b o h hb => get _ _ (fun e => by rw [e] at h; rw [S.locF.2.2] at h; cases h) (S.keep b o h hb)
    os:=S.os,gens:=S.gens,gkeep:=S.gkeep,nodup:=S.nodup,phiF:=S.phiF,len:=S.len
    sto:=fun i l es h1 h2 => let ⟨oo,a,b⟩:=S.sto i l es h1 h2; ⟨oo,get _ _ (fun e => S.locF.2.1 (e ▸ List.mem_of_getElem? h1)) a,b⟩
    ns:=hn
    locF:=S.locF
    loc:=fun z l h1 h2 => by
      rw [mget_mset] at h1
      by_cases e:z = x
      · subst e
        rw [if_pos rfl] at h1
        cases h1
        exact ⟨v,by simp,r⟩
      · rw [if_neg e] at h1
        obtain ⟨u,a,b⟩:=S.loc z l h1 h2
        exact ⟨u,by rw [if_neg e]; exact a,lv _ _ _ e b⟩
    cel:=fun z l h1 h2 h3 => by
      have e:z ≠ x:=fun e => by rw [e] at h2; rw [hk] at h2; cases h2
      rw [mget_mset_other _ _ _ _ e] at h1
      obtain ⟨c,u,a,b,d⟩:=S.cel z l h1 h2 h3
      exact ⟨c,u,a,b.sameBut hs (S.cells c ⟨h3,z,h2,a⟩).2.2.2.1,d⟩
    fre:=fun z l h1 h2 => by
      have e:z ≠ x:=fun e => by rw [e] at h2; rcases h2 with h2 | ⟨h2,_⟩ <;> (rw [hk] at h2; cases h2)
      rw [mget_mset_other _ _ _ _ e] at h1
      exact S.fre z l h1 h2
    cells:=fun c h => let ⟨⟨u,a⟩,b⟩:=S.cells c h; ⟨⟨u,a.sameBut hs b.2.2.1⟩,b⟩
    own:=fun z a h => by
      obtain ⟨⟨o,q⟩,b⟩:=S.own z a ((hin _ _).mp h).1
      exact ⟨⟨o,get _ _ b.2.2.1 q⟩,b⟩
    ownk:=fun z y a h1 h2 => S.ownk z y a ((hin _ _).mp h1).1 ((hin _ _).mp h2).1
    ownf:=fun z a b h1 h2 => S.ownf z a b ((hin _ _).mp h1).1 ((hin _ _).mp h2).1
    pend:=S.pend
    held:=fun a o mi h => by
      obtain ⟨q,b1,b2,b3,b4,b5⟩:=S.held a o mi h
      exact ⟨get _ _ b2 q,b1,b2,b3,fun z hz => b4 z ((hin _ _).mp hz).1,b5⟩ }
theorem StF.setCell {x:Str} {c:Addr} {v:Value} {y:V} {h':Heap} (S:StF Amb B env μ σ P s F φ m ow) (K:EnvOk env) (hfn:env.func.isSome = true) (hk:env.kindOf x = some .cell) (hc:env.cells.lookup x = some c) (r:Rel F φ v y)
    (hn:h'.IsCell c (some v)) (hs:Heap.SameBut c s.heap h') :
    StF Amb B env (mset μ x (.v y)) σ P { s with heap:=h' } F φ m ow:=by
  have hown:Env.isOwnCell env c:=⟨hfn,x,hk,hc⟩
  obtain ⟨_,cF,cφ,cL,c0⟩:=S.cells c hown
  have get:∀ b o,b ≠ c → s.heap.get? b = some o → h'.get? b = some o:=fun b o hb h => (hs.2 b hb).trans h
  have lv:∀ z u l,RelLV s.heap F φ ow z u l → RelLV h' F φ ow z u l:=by
    intro z u l q
    cases l with
    | v _ => exact q
    | own xs =>
      obtain ⟨a,vs,n,e1,e2,e3,e4⟩:=q
      exact ⟨a,vs,n,e1,e2,get _ _ (fun e => (S.own _ _ e2).2.2.2.2.1 (e ▸ hown)) e3,e4⟩
  exact {
    amb:=S.amb
    sub:=fun a o h => get _ _ (fun e => by rw [e,cF] at h; cases h) (S.sub a o h)
    ext:=S.ext,new:=S.new,phi:=S.phi,phin:=S.phin,phi0:=S.phi0
    keep:=fun b o h hb => get _ _ (fun e => by rw [e,c0] at h; cases h) (S.keep b o h hb)
    os:=S.os,gens:=S.gens,gkeep:=S.gkeep,nodup:=S.nodup,phiF:=S.phiF,len:=S.len
    sto:=fun i l es h1 h2 => let ⟨oo,a,b⟩:=S.sto i l es h1 h2; ⟨oo,get _ _ (fun e => cφ (e ▸ List.mem_of_getElem? h1)) a,b⟩
    ns:=S.ns.sameBut hs (Ne.symm cL)
    locF:=S.locF
    loc:=fun z l h1 h2 => by
      have e:z ≠ x:=fun e => by rw [e] at h2; rw [hk] at h2; cases h2
      rw [mget_mset_other _ _ _ _ e] at h1
      obtain ⟨u,a,b⟩:=S.loc z l h1 h2
      exact ⟨u,a,lv _ _ _ b⟩
    cel:=fun z l h1 h2 h3 => by
      rw [mget_mset] at h1
      by_cases e:z = x
      · subst e
        rw [if_pos rfl] at h1
        cases h1
        exact ⟨c,v,hc,hn,y,rfl,r⟩
      · rw [if_neg e] at h1
        obtain ⟨c',u,a,b,d⟩:=S.cel z l h1 h2 h3
        refine ⟨c',u,a,b.sameBut hs fun e' => e ?_,d⟩
        subst e'
        exact K.apart hfn _ _ _ h2 hk a hc
    fre:=fun z l h1 h2 => by
      have e:z ≠ x:=fun e => by
        rw [e] at h2
        rcases h2 with h2 | ⟨_,h2⟩
        · rw [hk] at h2; cases h2
        · rw [h2] at hfn; cases hfn
      rw [mget_mset_other _ _ _ _ e] at h1
      exact S.fre z l h1 h2
    cells:=fun c' h => by
      obtain ⟨⟨u,a⟩,b⟩:=S.cells c' h
      by_cases e:c' = c
      · subst e; exact ⟨⟨_,hn⟩,b⟩
      · exact ⟨⟨u,a.sameBut hs e⟩,b⟩
    own:=fun z a h => by
      obtain ⟨⟨o,q⟩,b⟩:=S.own z a h
      exact ⟨⟨o,get _ _ (fun e => b.2.2.2.1 (e ▸ hown)) q⟩,b⟩
    ownk:=S.ownk
    ownf:=S.ownf
    pend:=S.pend
    held:=fun a o mi h => by
      obtain ⟨q,b1,b2,b3,b4⟩:=S.held a o mi h
      exact ⟨get _ _ (fun e => b3 (e ▸ hown)) q,b1,b2,b3,b4⟩ }
end
section
variable (prog:Program) (w:World) (Amb:Fz → Prop) (A:Around) (B:Base) (env:Env)
inductive VP (μ:Mu) (P:List Pend) (R:V → Sg → Prop) (v:Value) (s:Shared):Prop
  | mk (y:V) (σ:Sg) (S:St Amb B env μ σ (.rel v y :: P) s) (h:R y σ)
inductive BP (μ:Mu) (P:List Pend) (R:Bool → Sg → Prop) (b:Bool) (s:Shared):Prop
  | mk (σ:Sg) (S:St Amb B env μ σ P s) (h:R b σ)
inductive TP (σ:Sg) (P:List Pend) (R:Mu → Prop) (s:Shared):Prop
  | mk (μ:Mu) (S:St Amb B env μ σ P s) (h:R μ)
noncomputable def WT (μ:Mu) (σ:Sg) (P:List Pend) (t:Sem Value) (P':List Pend) (R:V → Sg → Prop):Prop :=
  ∀ s,St Amb B env μ σ P s → wpAny (model prog w) A t (VP Amb B env μ P' R) (fun _ _ => False) s
noncomputable def WE (μ:Mu) (σ:Sg) (e:PySem.Expr) (R:V → Sg → Prop):Prop:=∀ P,WT prog w Amb A B env μ σ P (eval e env) P R
inductive Fl where
  | next | brk | cont
  | ret (y:V)
inductive NP (P:List Pend) (R:Mu → Sg → Prop) (s:Shared):Prop
  | mk (μ:Mu) (σ:Sg) (S:St Amb B env μ σ P s) (h:R μ σ)
inductive RP (P:List Pend) (R:V → Mu → Sg → Prop) (v:Value) (s:Shared):Prop
  | mk (y:V) (μ:Mu) (σ:Sg) (S:St Amb B env μ σ (.rel v y :: P) s) (h:R y μ σ)
noncomputable def FlSt (P:List Pend) (R:Fl → Mu → Sg → Prop):Flow → Shared → Prop
  | .next,s' => NP Amb B env P (R .next) s'
  | .brk,s' => NP Amb B env P (R .brk) s'
  | .cont,s' => NP Amb B env P (R .cont) s'
  | .ret v,s' => RP Amb B env P (fun y => R (.ret y)) v s'
noncomputable def WS (μ:Mu) (σ:Sg) (b:List Stmt) (R:Fl → Mu → Sg → Prop):Prop :=
  ∀ P s,St Amb B env μ σ P s → wpAny (model prog w) A (execs b env) (FlSt Amb B env P R) (fun _ _ => False) s
noncomputable def W1 (μ:Mu) (σ:Sg) (st:Stmt) (R:Fl → Mu → Sg → Prop):Prop :=
  ∀ P s,St Amb B env μ σ P s → wpAny (model prog w) A (exec st env) (FlSt Amb B env P R) (fun _ _ => False) s
end
section
variable {prog:Program} {w:World} {Amb:Fz → Prop} {A:Around} {B:Base} {env:Env} {μ:Mu} {σ:Sg}
theorem WS.nil {R:Fl → Mu → Sg → Prop} (h:R .next μ σ):WS prog w Amb A B env μ σ [] R:=fun P s S => wpAny_execs_nil ⟨μ,σ,S,h⟩
theorem WS.cons {st:Stmt} {rest:List Stmt} {R:Fl → Mu → Sg → Prop}
    (h:W1 prog w Amb A B env μ σ st (fun f μ' σ' => match f with | .next => WS prog w Amb A B env μ' σ' rest R | f => R f μ' σ')):WS prog w Amb A B env μ σ (st :: rest) R:=by
  intro P s S
  refine wpAny_execs_cons (wpAny_mono (h P s S) (fun f s' q => ?_) fun _ _ x => x)
  cases f with
  | next => obtain ⟨μ',σ',S',q⟩:=q; exact q P s' S'
  | brk => exact q
  | cont => exact q
  | ret v => exact q
end
structure AmbOk (prog:Program) (w:World) (Amb:Fz → Prop) (mg mb:Str → Option Value):Prop where
  mono:∀ F F':Fz,(∀ a o,F a = some o → F' a = some o) → Amb F → Amb F'
  nolimit:∀ (F:Fz) (h:Heap),Amb F → (∀ a o,F a = some o → h.get? a = some o) → h.NoLimit
  gns:∀ (F:Fz) (h:Heap),Amb F → (∀ a o,F a = some o → h.get? a = some o) → h.Ns mainGlobals mg
  bns:∀ (F:Fz) (h:Heap),Amb F → (∀ a o,F a = some o → h.get? a = some o) → h.Ns builtinsNs mb
structure Room (A:Around) (k:Nat):Prop where
  handled:A.handled = none
  depth:A.depth + k < 900
  units:A.units + 8 * k < 9000
theorem Room.less {A:Around} {k j:Nat} (h:Room A k) (hj:j ≤ k):Room A j:=⟨h.handled,Nat.lt_of_le_of_lt (Nat.add_le_add_left hj _) h.depth,Nat.lt_of_le_of_lt (Nat.add_le_add_left (Nat.mul_le_mul_left 8 hj) _) h.units⟩
theorem Room.deep {A:Around} {k:Nat} (h:Room A k):A.depth < 1000:=Nat.lt_of_le_of_lt (Nat.le_add_right _ k) (Nat.lt_trans h.depth (by decide))
section
variable {prog:Program} {w:World} {Amb:Fz → Prop} {A:Around} {B:Base} {env:Env} {μ:Mu} {σ:Sg} {mg mb:Str → Option Value}
noncomputable abbrev nofail:Value → Shared → Prop:=fun _ _ => False
theorem WT.mono {P P':List Pend} {t:Sem Value} {R R':V → Sg → Prop} (h:WT prog w Amb A B env μ σ P t P' R) (hR:∀ y σ',R y σ' → R' y σ'):WT prog w Amb A B env μ σ P t P' R':=by
  intro s S
  refine wpAny_mono (h s S) (fun v s' qq => ?_) fun _ _ x => x
  obtain ⟨y,σ',S',r⟩:=qq
  exact ⟨y,σ',S',hR _ _ r⟩
theorem WE.mono {e:PySem.Expr} {R R':V → Sg → Prop} (h:WE prog w Amb A B env μ σ e R) (hR:∀ y σ',R y σ' → R' y σ'):WE prog w Amb A B env μ σ e R' :=
  fun P => (h P).mono hR
theorem WE.int {i:Int} {k:Nat} {p:Pos} {R:V → Sg → Prop} (h:R (.int i) σ):WE prog w Amb A B env μ σ (.Constant (.int i) k p) R:=by
  intro P s qq
  obtain ⟨F,φ,m,ow,S⟩:=qq
  exact wpAny_Constant_int ⟨_,σ,⟨F,φ,m,ow,(S.add (.int i _)).grow (Grow.toks _)⟩,h⟩
theorem WE.str {x:Str} {k:Nat} {p:Pos} {R:V → Sg → Prop} (h:R (.str x) σ):WE prog w Amb A B env μ σ (.Constant (.str x) k p) R:=by
  intro P s qq
  obtain ⟨F,φ,m,ow,S⟩:=qq
  exact wpAny_Constant_str ⟨_,σ,⟨F,φ,m,ow,(S.add (.str x _)).grow (Grow.toks _)⟩,h⟩
theorem WE.none {k:Nat} {p:Pos} {R:V → Sg → Prop} (h:R .none σ):WE prog w Amb A B env μ σ (.Constant .none k p) R:=by
  intro P s qq
  obtain ⟨F,φ,m,ow,S⟩:=qq
  exact wpAny_Constant_none ⟨_,σ,⟨F,φ,m,ow,S.add .none⟩,h⟩
theorem WE.bool {b:Bool} {k:Nat} {p:Pos} {R:V → Sg → Prop} (h:R (.bool b) σ):WE prog w Amb A B env μ σ (.Constant (.bool b) k p) R:=by
  intro P s qq
  obtain ⟨F,φ,m,ow,S⟩:=qq
  exact wpAny_Constant_bool ⟨_,σ,⟨F,φ,m,ow,S.add (.bool b)⟩,h⟩
theorem load_name {x:Str} {y:V} {P:List Pend} {s:Shared} {F:Fz} {φ:List Addr} {m:Str → Option Value} {ow:List (Str × Addr)} {E:Value → Shared → Prop} {Q:Value → Shared → Prop} (K:EnvOk env) (S:StF Amb B env μ σ P s F φ m ow)
    (hk:env.kindOf x = some .local ∨ env.kindOf x = some .cell ∨ env.kindOf x = some .free) (hm:mget μ x = some (.v y)) (hd:(x == ("__classdict__":Str)) = false)
    (h:∀ v,Rel F φ v y → Q v s):wpAny (model prog w) A (loadName env x) Q E s:=by
  rcases hk with hk | hk | hk
  · obtain ⟨v,a,r⟩:=S.loc x _ hm hk
    exact wpAny_loadName_local K.kind hk S.ns a (h v r)
  · cases hf:env.func.isSome with
    | true =>
      obtain ⟨c,v,a,b,y',e,r⟩:=S.cel x _ hm hk hf
      cases e
      exact wpAny_loadName_cell K.kind hk a b (h v r)
    | false =>
      obtain ⟨c,v,a,⟨o,b1,b2⟩,hn,y',e,r⟩:=S.fre x _ hm (.inr ⟨hk,by simpa using hf⟩)
      cases e
      exact wpAny_loadName_cell K.kind hk a ⟨o,S.keep _ _ b1 hn,b2⟩ (h v r)
  · obtain ⟨c,v,a,⟨o,b1,b2⟩,hn,y',e,r⟩:=S.fre x _ hm (.inl hk)
    cases e
    exact wpAny_loadName_free K.kind hk a ⟨o,S.keep _ _ b1 hn,b2⟩ (h v r) hd
theorem WE.name {x:Str} {p:Pos} {y:V} {R:V → Sg → Prop} (K:EnvOk env) (hk:env.kindOf x = some .local ∨ env.kindOf x = some .cell ∨ env.kindOf x = some .free) (hm:mget μ x = some (.v y)) (h:R y σ)
    (hd:(x == ("__debug__":Str)) = false:=by kernel_rfl) (hd':(x == ("__classdict__":Str)) = false:=by kernel_rfl):WE prog w Amb A B env μ σ (.Name x p) R:=by
  intro P s qq
  obtain ⟨F,φ,m,ow,S⟩:=qq
  exact wpAny_Name (load_name K S hk hm hd' fun v r => ⟨y,σ,⟨F,φ,m,ow,S.add r⟩,h⟩) hd
theorem WE.local {x:Str} {p:Pos} {y:V} {R:V → Sg → Prop} (K:EnvOk env) (hk:env.kindOf x = some .local) (hm:mget μ x = some (.v y)) (h:R y σ)
    (hd:(x == ("__debug__":Str)) = false:=by kernel_rfl) (hd':(x == ("__classdict__":Str)) = false:=by kernel_rfl):WE prog w Amb A B env μ σ (.Name x p) R:=WE.name K (.inl hk) hm h hd hd'
theorem WE.cell {x:Str} {p:Pos} {y:V} {R:V → Sg → Prop} (K:EnvOk env) (hk:env.kindOf x = some .cell) (hm:mget μ x = some (.v y)) (h:R y σ)
    (hd:(x == ("__debug__":Str)) = false:=by kernel_rfl) (hd':(x == ("__classdict__":Str)) = false:=by kernel_rfl):WE prog w Amb A B env μ σ (.Name x p) R:=WE.name K (.inr (.inl hk)) hm h hd hd'
theorem WE.free {x:Str} {p:Pos} {y:V} {R:V → Sg → Prop} (K:EnvOk env) (hk:env.kindOf x = some .free) (hm:mget μ x = some (.v y)) (h:R y σ)
    (hd:(x == ("__debug__":Str)) = false:=by kernel_rfl) (hd':(x == ("__classdict__":Str)) = false:=by kernel_rfl):WE prog w Amb A B env μ σ (.Name x p) R:=WE.name K (.inr (.inr hk)) hm h hd hd'
inductive Flat:Value → V → Prop
  | none:Flat .none .none
  | bool (b:Bool):Flat (.bool b) (.bool b)
  | int (i:Int) (t:Tok):Flat (.int i t) (.int i)
  | str (s:Str) (t:Tok):Flat (.str s t) (.str s)
  | adr (a:Addr):Flat (.ref a) (.adr a)
  | bi (id:String):Flat (.builtin id) (.bi id)
  | ty (n:String):Flat (.type n) (.ty n)
theorem Flat.rel {v:Value} {y:V} (h:Flat v y) (F:Fz) (φ:List Addr):Rel F φ v y:=by cases h <;> constructor
theorem WE.glob {x:Str} {p:Pos} {v:Value} {y:V} {R:V → Sg → Prop} (H:AmbOk prog w Amb mg mb) (K:EnvOk env) (hk:env.kindOf x = some .globalImplicit) (hv:mg x = some v) (hy:Flat v y) (h:R y σ)
    (hd:(x == ("__debug__":Str)) = false:=by kernel_rfl):WE prog w Amb A B env μ σ (.Name x p) R:=by
  intro P s qq
  obtain ⟨F,φ,m,ow,S⟩:=qq
  exact Calls.Name_function_global K.kind hk (Calls.loadGlobal_global (K.globals ▸ H.gns F _ S.amb S.sub) hv ⟨y,σ,⟨F,φ,m,ow,S.add (hy.rel F φ)⟩,h⟩) hd
theorem WE.blt {x:Str} {p:Pos} {v:Value} {y:V} {R:V → Sg → Prop} (H:AmbOk prog w Amb mg mb) (K:EnvOk env) (hk:env.kindOf x = some .globalImplicit) (hg:mg x = Option.none) (hv:mb x = some v) (hy:Flat v y) (h:R y σ)
    (hd:(x == ("__debug__":Str)) = false:=by kernel_rfl):WE prog w Amb A B env μ σ (.Name x p) R:=by
  intro P s qq
  obtain ⟨F,φ,m,ow,S⟩:=qq
  exact Calls.Name_function_global K.kind hk (Calls.loadGlobal_builtin (K.globals ▸ H.gns F _ S.amb S.sub) hg (K.builtins ▸ H.bns F _ S.amb S.sub) hv ⟨y,σ,⟨F,φ,m,ow,S.add (hy.rel F φ)⟩,h⟩) hd
variable (prog w Amb A B env) in
noncomputable def OpB (μ:Mu) (σ:Sg) (op:PySem.Operator) (x y:V) (R:V → Sg → Prop):Prop:=∀ a b P,WT prog w Amb A B env μ σ (.rel b y :: .rel a x :: P) (binaryOp op a b) P R
variable (prog w Amb A B env) in
noncomputable def OpI (μ:Mu) (σ:Sg) (op:PySem.Operator) (x y:V) (R:V → Sg → Prop):Prop:=∀ a b P,WT prog w Amb A B env μ σ (.rel b y :: .rel a x :: P) (inplaceOp op a b) P R
variable (prog w Amb A B env) in
noncomputable def OpC (μ:Mu) (σ:Sg) (op:PySem.CmpOp) (x y:V) (R:V → Sg → Prop):Prop:=∀ a b P,WT prog w Amb A B env μ σ (.rel b y :: .rel a x :: P) (compareOp op a b) P R
variable (prog w Amb A B env) in
noncomputable def OpU (μ:Mu) (σ:Sg) (op:PySem.UnaryOp) (x:V) (R:V → Sg → Prop):Prop:=∀ a P,WT prog w Amb A B env μ σ (.rel a x :: P) (unaryOp op a) P R
theorem WE.bin {l r:PySem.Expr} {op:PySem.Operator} {p:Pos} {R:V → Sg → Prop}
    (h:WE prog w Amb A B env μ σ l (fun x σ1 => WE prog w Amb A B env μ σ1 r (fun y σ2 => OpB prog w Amb A B env μ σ2 op x y R))):WE prog w Amb A B env μ σ (.BinOp l op r p) R:=by
  intro P s S
  refine wpAny_BinOp (wpAny_mono (h P s S) (fun a s1 qq => ?_) fun _ _ x => x)
  obtain ⟨x,σ1,S1,h1⟩:=qq
  refine wpAny_mono (h1 _ s1 S1) (fun b s2 qq => ?_) fun _ _ x => x
  obtain ⟨y,σ2,S2,h2⟩:=qq
  exact h2 a b P s2 S2
theorem WE.cmp {l r:PySem.Expr} {op:PySem.CmpOp} {p:Pos} {R:V → Sg → Prop} (hb:behindInMarks op r = false)
    (h:WE prog w Amb A B env μ σ l (fun x σ1 => WE prog w Amb A B env μ σ1 r (fun y σ2 => OpC prog w Amb A B env μ σ2 op x y R))):WE prog w Amb A B env μ σ (.Compare l [op] [r] p) R:=by
  intro P s S
  refine wpAny_Compare1 (wpAny_mono (h P s S) (fun a s1 qq => ?_) fun _ _ x => x) hb
  obtain ⟨x,σ1,S1,h1⟩:=qq
  refine wpAny_mono (h1 _ s1 S1) (fun b s2 qq => ?_) fun _ _ x => x
  obtain ⟨y,σ2,S2,h2⟩:=qq
  exact h2 a b P s2 S2
theorem WE.un {e:PySem.Expr} {op:PySem.UnaryOp} {p:Pos} {R:V → Sg → Prop}
    (h:WE prog w Amb A B env μ σ e (fun x σ1 => OpU prog w Amb A B env μ σ1 op x R)):WE prog w Amb A B env μ σ (.UnaryOp op e p) R:=by
  intro P s S
  refine wpAny_UnaryOp (wpAny_mono (h P s S) (fun a s1 qq => ?_) fun _ _ x => x)
  obtain ⟨x,σ1,S1,h1⟩:=qq
  exact h1 a P s1 S1
section
variable {P:List Pend} {s:Shared} {F:Fz} {φ:List Addr} {m:Str → Option Value} {ow:List (Str × Addr)}
theorem StF.top {v:Value} {x:V} (S:StF Amb B env μ σ (.rel v x :: P) s F φ m ow):Rel F φ v x:=S.pend v x (List.mem_cons_self ..)
theorem StF.top2 {v u:Value} {x y:V} (S:StF Amb B env μ σ (.rel u y :: .rel v x :: P) s F φ m ow):Rel F φ v x:=S.pend v x (List.mem_cons_of_mem _ (List.mem_cons_self ..))
theorem Rel.int_inv {v:Value} {i:Int} (r:Rel F φ v (.int i)):∃ t,v = .int i t:=r.inv
theorem Rel.str_inv {v:Value} {x:Str} (r:Rel F φ v (.str x)):∃ t,v = .str x t:=r.inv
theorem Rel.bool_inv {v:Value} {b:Bool} (r:Rel F φ v (.bool b)):v = .bool b:=r.inv
theorem StF.two_int {v u:Value} {i j:Int} (S:StF Amb B env μ σ (.rel u (.int j) :: .rel v (.int i) :: P) s F φ m ow):∃ t t',v = .int i t ∧ u = .int j t':=by
  obtain ⟨t,h⟩:=S.top2.int_inv
  obtain ⟨t',h'⟩:=S.top.int_inv
  exact ⟨t,t',h,h'⟩
theorem StF.two_str {v u:Value} {i j:Str} (S:StF Amb B env μ σ (.rel u (.str j) :: .rel v (.str i) :: P) s F φ m ow):∃ t t',v = .str i t ∧ u = .str j t':=by
  obtain ⟨t,h⟩:=S.top2.str_inv
  obtain ⟨t',h'⟩:=S.top.str_inv
  exact ⟨t,t',h,h'⟩
theorem StF.two_str_int {v u:Value} {i:Str} {j:Int} (S:StF Amb B env μ σ (.rel u (.int j) :: .rel v (.str i) :: P) s F φ m ow):∃ t t',v = .str i t ∧ u = .int j t':=by
  obtain ⟨t,h⟩:=S.top2.str_inv
  obtain ⟨t',h'⟩:=S.top.int_inv
  exact ⟨t,t',h,h'⟩
theorem StF.two_bool {v u:Value} {i j:Bool} (S:StF Amb B env μ σ (.rel u (.bool j) :: .rel v (.bool i) :: P) s F φ m ow):v = .bool i ∧ u = .bool j:=⟨S.top2.bool_inv,S.top.bool_inv⟩
theorem StF.pop {q:Pend} (S:StF Amb B env μ σ (q :: P) s F φ m ow):StF Amb B env μ σ P s F φ m ow:=S.drop fun _ h => List.mem_cons_of_mem _ h
theorem StF.pop2 {q q':Pend} (S:StF Amb B env μ σ (q :: q' :: P) s F φ m ow):StF Amb B env μ σ P s F φ m ow:=S.pop.pop
end
theorem OpB.add_int {i j:Int} {R:V → Sg → Prop} (h:R (.int (i + j)) σ):OpB prog w Amb A B env μ σ .Add (.int i) (.int j) R:=by
  rintro a b P s ⟨F,φ,m,ow,S⟩
  obtain ⟨_,_,rfl,rfl⟩:=S.two_int
  exact PyProof.Rows.add_int ⟨_,σ,⟨F,φ,m,ow,(S.pop2.grow (Grow.toks _)).add (.int _ _)⟩,h⟩
theorem OpB.sub_int {i j:Int} {R:V → Sg → Prop} (h:R (.int (i - j)) σ):OpB prog w Amb A B env μ σ .Sub (.int i) (.int j) R:=by
  rintro a b P s ⟨F,φ,m,ow,S⟩
  obtain ⟨_,_,rfl,rfl⟩:=S.two_int
  exact PyProof.Rows.sub_int ⟨_,σ,⟨F,φ,m,ow,(S.pop2.grow (Grow.toks _)).add (.int _ _)⟩,h⟩
theorem OpB.mul_int {i j:Int} {R:V → Sg → Prop} (hk:IntMulOk i j) (h:R (.int (i * j)) σ):OpB prog w Amb A B env μ σ .Mult (.int i) (.int j) R:=by
  rintro a b P s ⟨F,φ,m,ow,S⟩
  obtain ⟨_,_,rfl,rfl⟩:=S.two_int
  exact PyProof.Rows.mul_int ⟨_,σ,⟨F,φ,m,ow,(S.pop2.grow (Grow.toks _)).add (.int _ _)⟩,h⟩ hk
theorem OpB.div_int {i j:Int} {R:V → Sg → Prop} (hj:j ≠ 0) (hp:Builtin.divisionGoesByPylong i j = false) (h:R (.int (Int.fdiv i j)) σ):OpB prog w Amb A B env μ σ .FloorDiv (.int i) (.int j) R:=by
  rintro a b P s ⟨F,φ,m,ow,S⟩
  obtain ⟨_,_,rfl,rfl⟩:=S.two_int
  exact PyProof.Rows.floordiv_int hj ⟨_,σ,⟨F,φ,m,ow,(S.pop2.grow (Grow.toks _)).add (.int _ _)⟩,h⟩ (.inl hp)
theorem OpB.mod_int {i j:Int} {R:V → Sg → Prop} (hh:A.handled = Option.none) (hj:j ≠ 0) (h:R (.int (Int.fmod i j)) σ):OpB prog w Amb A B env μ σ .Mod (.int i) (.int j) R:=by
  rintro a b P s ⟨F,φ,m,ow,S⟩
  obtain ⟨_,_,rfl,rfl⟩:=S.two_int
  exact PyProof.Rows.mod_int_or hh (fun e => absurd e hj) fun _ => ⟨_,σ,⟨F,φ,m,ow,(S.pop2.grow (Grow.toks _)).add (.int _ _)⟩,h⟩
theorem OpB.pow_int {i j:Int} {R:V → Sg → Prop} (h0:0 ≤ j) (hb:(Builtin.Int.intBits i:Int) * j ≤ 2 ^ 27) (h:R (.int (i ^ j.toNat)) σ):OpB prog w Amb A B env μ σ .Pow (.int i) (.int j) R:=by
  rintro a b P s ⟨F,φ,m,ow,S⟩
  obtain ⟨_,_,rfl,rfl⟩:=S.two_int
  exact PyProof.Rows.pow_int h0 hb ⟨_,σ,⟨F,φ,m,ow,(S.pop2.grow (Grow.toks _)).add (.int _ _)⟩,h⟩
theorem OpB.add_str {x y:Str} {R:V → Sg → Prop} (hl:x.length + y.length ≤ sizeLine) (h:R (.str (x ++ y)) σ):OpB prog w Amb A B env μ σ .Add (.str x) (.str y) R:=by
  rintro a b P s ⟨F,φ,m,ow,S⟩
  obtain ⟨_,_,rfl,rfl⟩:=S.two_str
  exact PyProof.Rows.add_str (fun t' tk => ⟨_,σ,⟨F,φ,m,ow,(S.pop2.grow (Grow.toks _)).add (.str _ _)⟩,h⟩) hl
theorem OpI.add_int {i j:Int} {R:V → Sg → Prop} (h:R (.int (i + j)) σ):OpI prog w Amb A B env μ σ .Add (.int i) (.int j) R:=by
  rintro a b P s ⟨F,φ,m,ow,S⟩
  obtain ⟨_,_,rfl,rfl⟩:=S.two_int
  exact PySem.wpAny_iadd_int ⟨_,σ,⟨F,φ,m,ow,(S.pop2.grow (Grow.toks _)).add (.int _ _)⟩,h⟩
theorem OpI.add_str {x y:Str} {R:V → Sg → Prop} (hl:x.length + y.length ≤ sizeLine) (h:R (.str (x ++ y)) σ):OpI prog w Amb A B env μ σ .Add (.str x) (.str y) R:=by
  rintro a b P s ⟨F,φ,m,ow,S⟩
  obtain ⟨_,_,rfl,rfl⟩:=S.two_str
  exact PyProof.Rows.iadd_str (fun t' tk => ⟨_,σ,⟨F,φ,m,ow,(S.pop2.grow (Grow.toks _)).add (.str _ _)⟩,h⟩) hl
theorem OpB.mul_str {x:Str} {n:Int} {R:V → Sg → Prop} (hk:MulOk x n) (h:R (.str (Txt.mul x n)) σ):OpB prog w Amb A B env μ σ .Mult (.str x) (.int n) R:=by
  rintro a b P s ⟨F,φ,m,ow,S⟩
  obtain ⟨_,_,rfl,rfl⟩:=S.two_str_int
  exact PySem.SB.mul hk (fun t' tk => ⟨_,σ,⟨F,φ,m,ow,(S.pop2.grow (Grow.toks _)).add (.str _ _)⟩,h⟩)
theorem OpU.neg_int {i:Int} {R:V → Sg → Prop} (h:R (.int (-i)) σ):OpU prog w Amb A B env μ σ .USub (.int i) R:=by
  rintro a P s ⟨F,φ,m,ow,S⟩
  obtain ⟨_,rfl⟩:=S.top.inv
  exact PyProof.Rows.neg_int ⟨_,σ,⟨F,φ,m,ow,(S.pop.grow (Grow.toks _)).add (.int _ _)⟩,h⟩
theorem OpC.eq_int {i j:Int} {R:V → Sg → Prop} (h:R (.bool (i == j)) σ):OpC prog w Amb A B env μ σ .Eq (.int i) (.int j) R:=by
  rintro a b P s ⟨F,φ,m,ow,S⟩
  obtain ⟨_,_,rfl,rfl⟩:=S.two_int
  exact PyProof.Rows.eq_int ⟨_,σ,⟨F,φ,m,ow,S.pop2.add (.bool _)⟩,h⟩
theorem OpC.ne_int {i j:Int} {R:V → Sg → Prop} (h:R (.bool (i != j)) σ):OpC prog w Amb A B env μ σ .NotEq (.int i) (.int j) R:=by
  rintro a b P s ⟨F,φ,m,ow,S⟩
  obtain ⟨_,_,rfl,rfl⟩:=S.two_int
  exact PyProof.Rows.ne_int ⟨_,σ,⟨F,φ,m,ow,S.pop2.add (.bool _)⟩,h⟩
theorem OpC.lt_int {i j:Int} {R:V → Sg → Prop} (h:R (.bool (decide (i < j))) σ):OpC prog w Amb A B env μ σ .Lt (.int i) (.int j) R:=by
  rintro a b P s ⟨F,φ,m,ow,S⟩
  obtain ⟨_,_,rfl,rfl⟩:=S.two_int
  exact PyProof.Rows.lt_int ⟨_,σ,⟨F,φ,m,ow,S.pop2.add (.bool _)⟩,h⟩
theorem OpC.gt_int {i j:Int} {R:V → Sg → Prop} (h:R (.bool (decide (j < i))) σ):OpC prog w Amb A B env μ σ .Gt (.int i) (.int j) R:=by
  rintro a b P s ⟨F,φ,m,ow,S⟩
  obtain ⟨_,_,rfl,rfl⟩:=S.two_int
  exact PyProof.Rows.gt_int ⟨_,σ,⟨F,φ,m,ow,S.pop2.add (.bool _)⟩,h⟩
theorem OpC.le_int {i j:Int} {R:V → Sg → Prop} (h:R (.bool (decide (i ≤ j))) σ):OpC prog w Amb A B env μ σ .LtE (.int i) (.int j) R:=by
  rintro a b P s ⟨F,φ,m,ow,S⟩
  obtain ⟨_,_,rfl,rfl⟩:=S.two_int
  exact PyProof.Rows.le_int ⟨_,σ,⟨F,φ,m,ow,S.pop2.add (.bool _)⟩,h⟩
theorem OpC.ge_int {i j:Int} {R:V → Sg → Prop} (h:R (.bool (decide (j ≤ i))) σ):OpC prog w Amb A B env μ σ .GtE (.int i) (.int j) R:=by
  rintro a b P s ⟨F,φ,m,ow,S⟩
  obtain ⟨_,_,rfl,rfl⟩:=S.two_int
  exact PyProof.Rows.ge_int ⟨_,σ,⟨F,φ,m,ow,S.pop2.add (.bool _)⟩,h⟩
theorem OpC.eq_str {x y:Str} {R:V → Sg → Prop} (h:R (.bool (x == y)) σ):OpC prog w Amb A B env μ σ .Eq (.str x) (.str y) R:=by
  rintro a b P s ⟨F,φ,m,ow,S⟩
  obtain ⟨_,_,rfl,rfl⟩:=S.two_str
  exact PyProof.Rows.eq_str ⟨_,σ,⟨F,φ,m,ow,S.pop2.add (.bool _)⟩,h⟩
variable (prog w Amb A B env) in
noncomputable def WB (μ:Mu) (σ:Sg) (e:PySem.Expr) (R:Bool → Sg → Prop):Prop :=
  ∀ P s,St Amb B env μ σ P s → wpAny (model prog w) A (isTrue e env (eval e env)) (BP Amb B env μ P R) nofail s
inductive Truth:V → Bool → Prop
  | none:Truth .none false
  | bool (b:Bool):Truth (.bool b) b
  | int (i:Int):Truth (.int i) (i != 0)
  | str (x:Str) (h:(x.length:Int) < 2 ^ 63):Truth (.str x) ((x.length:Int) != 0)
theorem truth_of {v:Value} {y:V} {b:Bool} {P:List Pend} {s:Shared} {Q:Bool → Shared → Prop} {E:Value → Shared → Prop} (ht:Truth y b) (S:St Amb B env μ σ (.rel v y :: P) s) (h:∀ s',St Amb B env μ σ P s' → Q b s') :
    wpAny (model prog w) A (truthy v) Q E s:=by
  obtain ⟨F,φ,m,ow,S⟩:=S
  cases ht with
  | none => obtain rfl:=S.top.inv; exact truthy_none (h _ ⟨F,φ,m,ow,S.pop⟩)
  | bool b => obtain rfl:=S.top.inv; exact wpAny_truthy_bool (h _ ⟨F,φ,m,ow,S.pop⟩)
  | int i => obtain ⟨_,rfl⟩:=S.top.inv; exact truthy_int (h _ ⟨F,φ,m,ow,S.pop⟩)
  | str x hx => obtain ⟨_,rfl⟩:=S.top.inv; exact PySem.P.truthy_str (by lia) (h _ ⟨F,φ,m,ow,S.pop.grow (Grow.toks _)⟩)
theorem WB.val {e:PySem.Expr} {R:Bool → Sg → Prop} (h:WE prog w Amb A B env μ σ e (fun y σ' => ∃ b,Truth y b ∧ R b σ'))
    (he:∀ whole:Sem Value,isTrue e env whole = (do let v ← whole; standAt e.pos; holding [v] (truthy v))):WB prog w Amb A B env μ σ e R:=by
  intro P s S
  refine wpAny_isTrue_value (wpAny_mono (h P s S) (fun v s1 qq => ?_) fun _ _ x => x) (he _)
  obtain ⟨y,σ',S1,b,ht,r⟩:=qq
  exact truth_of ht S1 fun s' S' => ⟨σ',S',r⟩
theorem WB.cmp {l r:PySem.Expr} {op:PySem.CmpOp} {p:Pos} {R:Bool → Sg → Prop} (hb:behindInMarks op r = false)
    (h:WE prog w Amb A B env μ σ l (fun x σ1 => WE prog w Amb A B env μ σ1 r (fun y σ2 => OpC prog w Amb A B env μ σ2 op x y (fun z σ3 => ∃ b,Truth z b ∧ R b σ3)))):WB prog w Amb A B env μ σ (.Compare l [op] [r] p) R:=by
  intro P s S
  refine wpAny_isTrue_Compare1 (wpAny_mono (h P s S) (fun a s1 qq => ?_) fun _ _ x => x) hb
  obtain ⟨x,σ1,S1,h1⟩:=qq
  refine wpAny_mono (h1 _ s1 S1) (fun b s2 qq => ?_) fun _ _ x => x
  obtain ⟨y,σ2,S2,h2⟩:=qq
  refine wpAny_mono (h2 a b P s2 S2) (fun c s3 qq => ?_) fun _ _ x => x
  obtain ⟨z,σ3,S3,b,ht,r⟩:=qq
  exact truth_of ht S3 fun s' S' => ⟨σ3,S',r⟩
theorem WE.ifexp {t b o:PySem.Expr} {p:Pos} {R:V → Sg → Prop} (h:WB prog w Amb A B env μ σ t (fun c σ1 => if c = true then WE prog w Amb A B env μ σ1 b R else WE prog w Amb A B env μ σ1 o R)) :
    WE prog w Amb A B env μ σ (.IfExp t b o p) R:=by
  intro P s S
  refine wpAny_IfExp (wpAny_mono (h P s S) (fun c s1 qq => ?_) fun _ _ x => x)
  obtain ⟨σ1,S1,h1⟩:=qq
  cases c
  · exact h1 P s1 S1
  · exact h1 P s1 S1
noncomputable def Stor (env:Env) (x:Str):Prop:=env.kindOf x = some .local ∨ (env.kindOf x = some .cell ∧ env.func.isSome = true)
theorem store_name {x:Str} {y:V} {v:Value} {P:List Pend} {s:Shared} {Q:Unit → Shared → Prop} {E:Value → Shared → Prop} (K:EnvOk env) (hk:Stor env x)
    (S:St Amb B env μ σ (.rel v y :: P) s) (h:∀ s',St Amb B env (mset μ x (.v y)) σ P s' → Q () s'):wpAny (model prog w) A (storeName env x v) Q E s:=by
  obtain ⟨F,φ,m,ow,S⟩:=S
  rcases hk with hk | ⟨hk,hfn⟩
  · exact wpAny_storeName_local hk S.ns (fun h' hn hs => h _ ⟨F,φ,_,_,(S.setLocal hk S.top hn hs).pop⟩) (by rw [K.kind]; rfl)
  · obtain ⟨c,hc⟩:=K.has x hk
    obtain ⟨⟨v0,hv0⟩,_⟩:=S.cells c ⟨hfn,x,hk,hc⟩
    exact wpAny_storeName_cell K.kind hk hc hv0 fun h' hn hs => h _ ⟨F,φ,_,_,(S.setCell K hfn hk hc S.top hn hs).pop⟩
theorem W1.mono {st:Stmt} {R R':Fl → Mu → Sg → Prop} (h:W1 prog w Amb A B env μ σ st R) (hR:∀ f μ' σ',R f μ' σ' → R' f μ' σ'):W1 prog w Amb A B env μ σ st R':=by
  intro P s S
  refine wpAny_mono (h P s S) (fun f s' q => ?_) fun _ _ x => x
  cases f with
  | next => obtain ⟨μ',σ',S',r⟩:=q; exact ⟨μ',σ',S',hR _ _ _ r⟩
  | brk => obtain ⟨μ',σ',S',r⟩:=q; exact ⟨μ',σ',S',hR _ _ _ r⟩
  | cont => obtain ⟨μ',σ',S',r⟩:=q; exact ⟨μ',σ',S',hR _ _ _ r⟩
  | ret v => obtain ⟨y,μ',σ',S',r⟩:=q; exact ⟨y,μ',σ',S',hR _ _ _ r⟩
theorem WS.mono {b:List Stmt} {R R':Fl → Mu → Sg → Prop} (h:WS prog w Amb A B env μ σ b R) (hR:∀ f μ' σ',R f μ' σ' → R' f μ' σ'):WS prog w Amb A B env μ σ b R':=by
  intro P s S
  refine wpAny_mono (h P s S) (fun f s' q => ?_) fun _ _ x => x
  cases f with
  | next => obtain ⟨μ',σ',S',r⟩:=q; exact ⟨μ',σ',S',hR _ _ _ r⟩
  | brk => obtain ⟨μ',σ',S',r⟩:=q; exact ⟨μ',σ',S',hR _ _ _ r⟩
  | cont => obtain ⟨μ',σ',S',r⟩:=q; exact ⟨μ',σ',S',hR _ _ _ r⟩
  | ret v => obtain ⟨y,μ',σ',S',r⟩:=q; exact ⟨y,μ',σ',S',hR _ _ _ r⟩
theorem W1.assign {x:Str} {xp p:Pos} {e:PySem.Expr} {R:Fl → Mu → Sg → Prop} (K:EnvOk env) (hk:Stor env x)
    (h:WE prog w Amb A B env μ σ e (fun y σ' => R .next (mset μ x (.v y)) σ')) (hs:swapsWith e (some (.Name x xp)) p.line env = pure false:=by rfl):W1 prog w Amb A B env μ σ (.Assign [.Name x xp] e p) R:=by
  intro P s S
  refine wpAny_Assign_Name (wpAny_mono (h P s S) (fun v s1 qq => ?_) fun _ _ x => x) hs
  obtain ⟨y,σ',S1,r⟩:=qq
  exact store_name K hk S1 fun s' S' => ⟨_,σ',S',r⟩
theorem W1.assignV {x:Str} {xp p:Pos} {e:PySem.Expr} {y:V} {σ1:Sg} {R:Fl → Mu → Sg → Prop} (K:EnvOk env) (hk:Stor env x)
    (h1:∀ R':V → Sg → Prop,R' y σ1 → WE prog w Amb A B env μ σ e R') (h2:R .next (mset μ x (.v y)) σ1) (hs:swapsWith e (some (.Name x xp)) p.line env = pure false:=by rfl):W1 prog w Amb A B env μ σ (.Assign [.Name x xp] e p) R :=
  W1.assign K hk (h1 _ h2) hs
theorem W1.aug {x:Str} {xp p:Pos} {op:PySem.Operator} {e:PySem.Expr} {y:V} {R:Fl → Mu → Sg → Prop} (K:EnvOk env) (hk:Stor env x) (hm:mget μ x = some (.v y))
    (h:WE prog w Amb A B env μ σ e (fun z σ1 => OpI prog w Amb A B env μ σ1 op y z (fun u σ2 => R .next (mset μ x (.v u)) σ2)))
    (hd':(x == ("__classdict__":Str)) = false:=by kernel_rfl):W1 prog w Amb A B env μ σ (.AugAssign (.Name x xp) op e p) R:=by
  rintro P s ⟨F,φ,m,ow,S⟩
  refine wpAny_AugAssign_Name (load_name K S (by rcases hk with hk | hk <;> simp [hk]) hm hd' fun v r => ?_)
  refine wpAny_mono (h _ s ⟨F,φ,m,ow,S.add r⟩) (fun u s1 qq => ?_) fun _ _ x => x
  obtain ⟨z,σ1,S1,h1⟩:=qq
  refine wpAny_mono (h1 v u P s1 S1) (fun t s2 qq => ?_) fun _ _ x => x
  obtain ⟨q,σ2,S2,h2⟩:=qq
  exact store_name K hk S2 fun s' S' => ⟨_,σ2,S',h2⟩
theorem W1.ret {e:PySem.Expr} {p:Pos} {R:Fl → Mu → Sg → Prop} (h:WE prog w Amb A B env μ σ e (fun y σ' => R (.ret y) μ σ')):W1 prog w Amb A B env μ σ (.Return (some e) p) R:=by
  intro P s S
  refine wpAny_Return_some (wpAny_mono (h P s S) (fun v s1 qq => ?_) fun _ _ x => x)
  obtain ⟨y,σ',S1,r⟩:=qq
  exact ⟨y,μ,σ',S1,r⟩
theorem W1.retV {e:PySem.Expr} {p:Pos} {y:V} {σ1:Sg} {R:Fl → Mu → Sg → Prop} (h1:∀ R':V → Sg → Prop,R' y σ1 → WE prog w Amb A B env μ σ e R') (h2:R (.ret y) μ σ1):W1 prog w Amb A B env μ σ (.Return (some e) p) R :=
  W1.ret (h1 _ h2)
theorem W1.if_ {t:PySem.Expr} {b o:List Stmt} {p:Pos} {R:Fl → Mu → Sg → Prop} (h:WB prog w Amb A B env μ σ t (fun c σ1 => if c = true then WS prog w Amb A B env μ σ1 b R else WS prog w Amb A B env μ σ1 o R)) :
    W1 prog w Amb A B env μ σ (.If t b o p) R:=by
  intro P s S
  refine wpAny_If (wpAny_mono (h P s S) (fun c s1 qq => ?_) fun _ _ x => x)
  obtain ⟨σ1,S1,h1⟩:=qq
  cases c
  · exact h1 P s1 S1
  · exact h1 P s1 S1
theorem W1.ifT {t:PySem.Expr} {b o:List Stmt} {p:Pos} {σ1:Sg} {R:Fl → Mu → Sg → Prop} (h1:∀ R':Bool → Sg → Prop,R' true σ1 → WB prog w Amb A B env μ σ t R') (h2:WS prog w Amb A B env μ σ1 b R) :
    W1 prog w Amb A B env μ σ (.If t b o p) R:=W1.if_ (h1 _ h2)
theorem W1.ifF {t:PySem.Expr} {b o:List Stmt} {p:Pos} {σ1:Sg} {R:Fl → Mu → Sg → Prop} (h1:∀ R':Bool → Sg → Prop,R' false σ1 → WB prog w Amb A B env μ σ t R') (h2:WS prog w Amb A B env μ σ1 o R) :
    W1 prog w Amb A B env μ σ (.If t b o p) R:=W1.if_ (h1 _ h2)
theorem W1.expr {e:PySem.Expr} {p:Pos} {R:Fl → Mu → Sg → Prop} (h:WE prog w Amb A B env μ σ e (fun y σ' => R .next μ σ')) (hs:swapsWith e Option.none p.line env = pure false:=by rfl) (hi:interactive env = false:=by rfl) :
    W1 prog w Amb A B env μ σ (.Expr e p) R:=by
  intro P s S
  refine wpAny_Expr_any (wpAny_mono (h P s S) (fun v s1 qq => ?_) fun _ _ x => x) hi hs
  obtain ⟨y,σ',⟨F,φ,m,ow,S1⟩,r⟩:=qq
  exact ⟨μ,σ',⟨F,φ,m,ow,S1.pop⟩,r⟩
end
noncomputable def iterItems:V → Option (List V)
  | .list xs => some xs
  | .tup xs => some xs
  | .str s => some (s.cps.toList.map fun c => .str ⟨#[c]⟩)
  | .rng a b => some ((List.range (b - a).toNat).map fun i => .int (a + (i:Nat)))
  | _ => none
noncomputable def iterFits:V → Prop
  | .rng a b => -2 ^ 61 ≤ a ∧ a ≤ 2 ^ 61 ∧ -2 ^ 61 ≤ b ∧ b ≤ 2 ^ 61
  | _ => True
theorem fits0 {n:Nat} (h:n ≤ 1000):iterFits (.rng 0 (n:Int)):=⟨by decide,by decide,by lia,by lia⟩
noncomputable def quietIter:List String:=["enumerate","zip","dict_itemiterator","dict_reverseitemiterator","odict_iterator","itertools.zip_longest","itertools.pairwise"]
noncomputable def iterS (σ:Sg):V → Option (List V)
  | .hl i => match σ[i]? with
    | some (.lst es) => some (es.map pairV)
    | _ => none
  | y => iterItems y
theorem iterS_of {σ:Sg} {y:V} {xs:List V} (h:iterItems y = some xs):iterS σ y = some xs:=by
  cases y <;> first | exact h | cases h
noncomputable def seqV:V → Prop
  | .list _ | .hl _ => True
  | _ => False
structure Itr (prog:Program) (w:World) (A:Around) (I:Addr) (n:Nat) (K:Nat → Heap → Prop) (v:Value) (y:V):Prop where
  item:∀ {Amb:Fz → Prop} {B:Base} {env:Env} {μ:Mu} {σ:Sg} {P:List Pend} {s:Shared} {F:Fz} {φ:List Addr} {m:Str → Option Value} {ow:List (Str × Addr)} {xs:List V} {i:Nat} {Q:Option Value → Shared → Prop} {E:Value → Shared → Prop},
    StF Amb B env μ σ P s F φ m ow → Rel F φ v y → iterS σ y = some xs → xs.length = n → i < n → K i s.heap →
    (∀ u x h' tk,xs[i]? = some x → Rel F φ u x → K (i + 1) h' → (∀ b o,b ∉ [I] → s.heap.get? b = some o → h'.get? b = some o) → Q (some u) { s with heap:=h',toks:=tk }) → wpAny (model prog w) A (pyNext (.ref I)) Q E s
  done:∀ {Amb:Fz → Prop} {B:Base} {env:Env} {μ:Mu} {σ:Sg} {P:List Pend} {s:Shared} {F:Fz} {φ:List Addr} {m:Str → Option Value} {ow:List (Str × Addr)} {xs:List V} {Q:Option Value → Shared → Prop} {E:Value → Shared → Prop},
    StF Amb B env μ σ P s F φ m ow → Rel F φ v y → iterS σ y = some xs → xs.length = n → K n s.heap →
    (∀ h' tk,(∀ b o,b ∉ [I] → s.heap.get? b = some o → h'.get? b = some o) → Q none { s with heap:=h',toks:=tk }) → wpAny (model prog w) A (pyNext (.ref I)) Q E s
  self:∀ {s:Shared} {i:Nat} {Q:Value → Shared → Prop} {E:Value → Shared → Prop},K i s.heap → Q (.ref I) s → wpAny (model prog w) A (pyIter (.ref I)) Q E s
  frame:∀ i h h',K i h → (∀ o,h.get? I = some o → h'.get? I = some o) → K i h'
  alive:∀ i h,K i h → ∃ o T,h.get? I = some o ∧ o.cls = .type T ∧ T ∉ quietIter
theorem letOwned_quiet {prog:Program} {w:World} {A:Around} {E:Value → Shared → Prop} {s:Shared} {I:Addr} {o:Obj} {T:String} {tgt:PySem.Expr} {u:Value} {Q:Unit → Shared → Prop} (ho:s.heap.get? I = some o) (hc:o.cls = .type T) (hT:T ∉ quietIter)
    (hQ:Q () s):wpAny (model prog w) A (letOwnedTupleGo tgt (.ref I) u) Q E s:=by
  have key:∀ a:Addr,wpAny (model prog w) A (do
      let o ← load I
      match o.cls,o.data with
      | .type n,.fields vs =>
        if ["enumerate","zip","dict_itemiterator","dict_reverseitemiterator","odict_iterator","itertools.zip_longest","itertools.pairwise"].contains n && vs[0]? == some (rawInt a) then
          rule "for.unpacks-the-owned-tuple"
          updateField I 0 .none
      | _,_ => pure ()) Q E s:=by
    intro a
    refine wpAny_bind (wpAny_load ho ?_)
    rw [hc]
    (set_option tactic.hygienic true in cases o.data) <;> try exact wpAny_pure hQ
    rename_i vs
    have:(["enumerate","zip","dict_itemiterator","dict_reverseitemiterator","odict_iterator","itertools.zip_longest","itertools.pairwise"].contains T) = false:=by
      cases e:(["enumerate","zip","dict_itemiterator","dict_reverseitemiterator","odict_iterator","itertools.zip_longest","itertools.pairwise"]:List String).contains T with
      | false => rfl
      | true => exact absurd (List.contains_iff_mem.mp e) hT
    simp only [this,Bool.false_and,Bool.false_eq_true,if_false]
    exact wpAny_pure hQ
  cases tgt
  case Tuple => cases u <;> first | exact wpAny_pure hQ | exact key _
  case List => cases u <;> first | exact wpAny_pure hQ | exact key _
  all_goals exact wpAny_pure hQ
section
variable {prog:Program} {w:World} {Amb:Fz → Prop} {A:Around} {B:Base} {env:Env} {μ:Mu} {σ:Sg} {mg mb:Str → Option Value}
variable {P:List Pend} {s:Shared} {F:Fz} {φ:List Addr} {m:Str → Option Value} {ow:List (Str × Addr)}
theorem small_fits {a b:Int} (h:iterFits (.rng a b)):Builtin.Range.small a b 1 = true ∧ Builtin.Range.rangeSize a b 1 = ((b - a).toNat:Int):=by
  obtain ⟨h1,h2,h3,h4⟩:=h
  have e:Builtin.Range.rangeSize a b 1 = ((b - a).toNat:Int):=by
    unfold Builtin.Range.rangeSize
    simp only [show (1:Int) > 0 from by decide,if_true,Int.ediv_one]
    split <;> lia
  refine ⟨?_,e⟩
  unfold Builtin.Range.small
  rw [e]
  simp only [Builtin.Range.rangeFitsLong,Bool.and_eq_true,Bool.or_eq_true,decide_eq_true_eq,show (1:Int) > 0 from by decide,if_true]
  refine ⟨⟨⟨⟨⟨?_,?_⟩,?_,?_⟩,?_,?_⟩,?_,?_⟩,.inr ⟨?_,?_⟩⟩ <;> lia
theorem StF.seqAt {a:Addr} {y:V} {xs:List V} (S:StF Amb B env μ σ P s F φ m ow) (r:Rel F φ (.ref a) y) (h:iterS σ y = some xs) (hy:seqV y):∃ vs n,s.heap.get? a = some (listO vs n) ∧ RelL F φ vs.toList xs:=by
  (set_option tactic.hygienic true in cases y) <;> try exact hy.elim
  · obtain ⟨_,_,_,e,hF,hL⟩:=r.inv
    cases e; cases h; exact ⟨_,_,S.sub _ _ hF,hL⟩
  · rename_i i
    obtain ⟨_,e,hl⟩:=r.inv
    cases e
    simp only [iterS] at h
    set_option tactic.hygienic true in split at h
    · rename_i es he
      cases h
      obtain ⟨oo,q,vs,n,rfl,r⟩:=S.sto _ _ _ hl he
      exact ⟨vs,n,q,r⟩
    · cases h
theorem StF.tupAt {a:Addr} {ys xs:List V} (S:StF Amb B env μ σ P s F φ m ow) (r:Rel F φ (.ref a) (.tup ys)) (h:iterS σ (.tup ys) = some xs):∃ vs n,s.heap.get? a = some (tupO vs n) ∧ RelL F φ vs.toList xs:=by
  obtain ⟨_,_,_,e,hF,hL⟩:=r.inv
  cases e; cases h; exact ⟨_,_,S.sub _ _ hF,hL⟩
theorem Itr.list {I a:Addr} {n:Nat} {y:V} (hh:A.handled = none) (hne:a ≠ I) (hy:seqV y):Itr prog w A I n (fun i h => h.IsListIter I a i) (.ref a) y where
  item:=fun {Amb B env μ σ P s F φ m ow xs i Q E} S r hx hl hi st hQ => by
    obtain ⟨vs,k,hg,hL⟩:=S.seqAt r hx hy
    have hz:=hL.length
    simp only [Array.length_toList] at hz
    have hi':i < vs.size:=by lia
    refine wpAny_pyNext_list_item st ⟨_,hg,rfl,_,rfl⟩ (x:=vs[i]) (by simp [hi']) fun h' hit' hs' => ?_
    obtain ⟨x,hxi,rx⟩:=hL.get (i:=i) (v:=vs[i]) (by simp [hi'])
    exact hQ _ x h' s.toks hxi rx hit' fun b o hb e => hs'.extBut b o (fun h => hb (by simp [h])) e
  done:=fun {Amb B env μ σ P s F φ m ow xs Q E} S r hx hl st hQ => by
    obtain ⟨vs,k,hg,hL⟩:=S.seqAt r hx hy
    have hz:=hL.length
    simp only [Array.length_toList] at hz
    exact wpAny_pyNext_list_end hh st ⟨_,hg,rfl,_,rfl⟩ (by simp; lia) fun h' he' => hQ h' s.toks fun b o hb e => he' b o (fun h => hb (by simp [h])) e
  self:=fun st hQ => wpAny_pyIter_listiter st hQ
  frame:=fun _ _ _ st hk => st.at hk
  alive:=fun _ _ ⟨o,ho,hc,_⟩ => ⟨o,_,ho,hc,by decide⟩
theorem Itr.tuple {I a:Addr} {n:Nat} {ys:List V} (hh:A.handled = none) (hne:a ≠ I):Itr prog w A I n (fun i h => h.IsTupleIter I a i) (.ref a) (.tup ys) where
  item:=fun {Amb B env μ σ P s F φ m ow xs i Q E} S r hx hl hi st hQ => by
    obtain ⟨vs,k,hg,hL⟩:=S.tupAt r hx
    have hz:=hL.length
    simp only [Array.length_toList] at hz
    have hi':i < vs.size:=by lia
    refine wpAny_pyNext_tuple_item st ⟨_,hg,rfl,_,rfl⟩ (x:=vs[i]) (by simp [hi']) fun h' hit' hs' => ?_
    obtain ⟨x,hxi,rx⟩:=hL.get (i:=i) (v:=vs[i]) (by simp [hi'])
    exact hQ _ x h' s.toks hxi rx hit' fun b o hb e => hs'.extBut b o (fun h => hb (by simp [h])) e
  done:=fun {Amb B env μ σ P s F φ m ow xs Q E} S r hx hl st hQ => by
    obtain ⟨vs,k,hg,hL⟩:=S.tupAt r hx
    have hz:=hL.length
    simp only [Array.length_toList] at hz
    exact wpAny_pyNext_tuple_end hh st ⟨_,hg,rfl,_,rfl⟩ (by simp; lia) fun h' he' => hQ h' s.toks fun b o hb e => he' b o (fun h => hb (by simp [h])) e
  self:=fun st hQ => wpAny_pyIter_tupleiter st hQ
  frame:=fun _ _ _ st hk => st.at hk
  alive:=fun _ _ ⟨o,ho,hc,_⟩ => ⟨o,_,ho,hc,by decide⟩
theorem Itr.alone {I:Addr} {xs:List V} {Pw:Nat → Value → Prop} {K:Nat → Heap → Prop} {v:Value} {y:V} (W:Walks prog w A I [I] [I] xs.length Pw K) (hy:iterItems y = some xs) (hp:∀ F φ i u,Pw i u → i < xs.length → ∃ x,xs[i]? = some x ∧ Rel F φ u x)
    (ha:∀ i h,K i h → ∃ o T,h.get? I = some o ∧ o.cls = .type T ∧ T ∉ quietIter):Itr prog w A I xs.length K v y where
  item:=fun {Amb B env μ σ P s F φ m ow xs' i Q E} S r hx hl hi st hQ => by
    rw [iterS_of hy] at hx
    cases hx
    exact W.item i s Q E hi st fun u h' tk hu hst hk => let ⟨x,a,b⟩:=hp F φ i u hu hi; hQ u x h' tk a b hst hk
  done:=fun {Amb B env μ σ P s F φ m ow xs' Q E} S r hx hl st hQ => W.done s Q E st hQ
  self:=fun st hQ => W.self _ _ _ _ st hQ
  frame:=fun i h h' st hk => W.frame i h h' st fun b hb o e => by rw [List.mem_singleton] at hb; subst hb; exact hk o e
  alive:=ha
theorem iter_of {v:Value} {y:V} {xs:List V} {Q:Value → Shared → Prop} {E:Value → Shared → Prop} (hh:A.handled = none) (hy:iterS σ y = some xs) (hf:iterFits y) (S:StF Amb B env μ σ (.rel v y :: P) s F φ m ow)
    (h:∀ s' I K oI,s.heap.get? I = none → Grow s s' → Itr prog w A I xs.length K v y → K 0 s'.heap → s'.heap.get? I = some oI → StF Amb B env μ σ (.held I oI true :: .rel v y :: P) s' F φ m ow → Q (.ref I) s') :
    wpAny (model prog w) A (pyIter v) Q E s:=by
  have hn0:s.heap.get? s.heap.objs.size = none:=by
    cases e:s.heap.get? s.heap.objs.size with
    | none => rfl
    | some o => exact absurd (Heap.lt_size e) (Nat.lt_irrefl _)
  have fresh:∀ (o:Obj),o.isFreed = false → StF Amb B env μ σ (.held s.heap.objs.size o true :: .rel v y :: P) { s with heap:=s.heap.push o } F φ m ow:=by
    intro o ho
    obtain ⟨f1,f2,f3,f4,f5,f6⟩:=S.free hn0
    exact (S.grow (Grow.push o _)).hold (Heap.get?_push_size _ ho) f2 f3 f4 f5 fun _ => ⟨f1,f6⟩
  have lst:∀ a,v = .ref a → seqV y → wpAny (model prog w) A (pyIter v) Q E s:=by
    rintro a rfl hk
    obtain ⟨vs,n,hg,hL⟩:=S.seqAt (S.pend (.ref a) y (by simp)) hy hk
    refine wpAny_pyIter_list ⟨_,hg,rfl,_,rfl⟩ ?_
    exact h _ s.heap.objs.size (fun i h => h.IsListIter s.heap.objs.size a i) _ hn0 (Grow.push _ _) (Itr.list hh (Nat.ne_of_lt (Heap.lt_size hg)) hk)
      ⟨_,Heap.get?_push_size _ rfl,rfl,rfl⟩ (Heap.get?_push_size _ rfl) (fresh _ rfl)
  (set_option tactic.hygienic true in cases y) <;> try (simp [iterS,iterItems] at hy; done)
  case str x =>
    obtain ⟨_,rfl⟩:=S.top.inv
    simp only [iterS,iterItems,Option.some.injEq] at hy
    subst hy
    refine wpAny_pyIter_strU ?_
    have hT:strIterType x ∉ quietIter:=by unfold strIterType; split <;> decide
    refine h _ s.heap.objs.size (fun i h => h.IsStrIter s.heap.objs.size (strIterType x) x _ i) _ hn0 (Grow.push _ _) (Itr.alone (Pw:=SignAt x) ?_ rfl ?_ ?_) ⟨_,Heap.get?_push_size _ rfl,rfl,rfl⟩ (Heap.get?_push_size _ rfl) (fresh _ rfl)
    · have:(x.cps.toList.map fun c => V.str ⟨#[c]⟩).length = x.cps.size:=by simp
      rw [this]
      unfold strIterType
      split
      · exact Walks.strAscii hh _ x _
      · exact Walks.strWide hh _ x _
    · rintro F φ i u ⟨c,t,hc,rfl⟩ _
      exact ⟨.str ⟨#[c]⟩,by rw [List.getElem?_map,Array.getElem?_toList,hc]; rfl,.str _ _⟩
    · rintro i h ⟨o,ho,hc,_⟩
      exact ⟨o,_,ho,hc,hT⟩
  case list ys =>
    obtain ⟨_,_,_,e,_⟩:=S.top.inv
    exact lst _ e trivial
  case hl i =>
    obtain ⟨_,e,_⟩:=S.top.inv
    exact lst _ e trivial
  case tup ys =>
    obtain ⟨a,vs,n,rfl,hF,hL⟩:=S.top.inv
    refine wpAny_pyIter_tuple ⟨_,S.sub _ _ hF,rfl,_,rfl⟩ ?_
    exact h _ s.heap.objs.size (fun i h => h.IsTupleIter s.heap.objs.size a i) _ hn0 (Grow.push _ _) (Itr.tuple hh (Nat.ne_of_lt (Heap.lt_size (S.sub _ _ hF))))
      ⟨_,Heap.get?_push_size _ rfl,rfl,rfl⟩ (Heap.get?_push_size _ rfl) (fresh _ rfl)
  case rng a b =>
    simp only [iterS,iterItems,Option.some.injEq] at hy
    subst hy
    obtain ⟨r,t,u,k,rfl,hF⟩:=S.top.inv
    obtain ⟨hs,hz⟩:=small_fits hf
    refine wpAny_pyIter_range (S.sub _ _ hF) hs ?_
    rw [hz]
    refine h _ s.heap.objs.size (fun i h => IsRangeIter h s.heap.objs.size (a + (i:Nat) * 1) (((b - a).toNat:Int) - (i:Nat)) 1) _ hn0 (Grow.push _ _) (Itr.alone (Pw:=fun i v => ∃ t,v = .int (a + (i:Nat) * 1) t) ?_ rfl ?_ ?_) ?_ (Heap.get?_push_size _ rfl) (fresh _ rfl)
    · have:((List.range (b - a).toNat).map fun i => V.int (a + (i:Nat))).length = (b - a).toNat:=by simp
      rw [this]
      exact Walks.range hh _ a 1 _
    · rintro F φ i u ⟨t,rfl⟩ hi
      simp only [List.length_map,List.length_range] at hi
      refine ⟨.int (a + (i:Nat) * 1),?_,.int _ _⟩
      rw [List.getElem?_map,List.getElem?_range hi,Int.mul_one]
      rfl
    · intro i h hst
      exact ⟨_,_,hst,rfl,by decide⟩
    · show Heap.get? _ _ = _
      rw [Heap.get?_push_size _ rfl]
      simp [rawInt]
variable (prog w Amb A B env) in
noncomputable def AT (tgt:PySem.Expr) (x:V) (μ:Mu) (σ:Sg) (R:Mu → Prop):Prop :=
  ∀ P s u,St Amb B env μ σ (.rel u x :: P) s → wpAny (model prog w) A (assign tgt env u) (fun _ => TP Amb B env σ P R) nofail s
theorem AT.name {x:Str} {p:Pos} {y:V} {R:Mu → Prop} (K:EnvOk env) (hk:Stor env x) (h:R (mset μ x (.v y))):AT prog w Amb A B env (.Name x p) y μ σ R :=
  fun P s u S => wpAny_assign_Name (store_name K hk S fun s' S' => ⟨_,S',h⟩)
inductive ForI (prog:Program) (w:World) (Amb:Fz → Prop) (A:Around) (B:Base) (env:Env) (μ:Mu) (tgt:PySem.Expr) (body:List Stmt) (R:Fl → Mu → Sg → Prop) (y:V) (σ:Sg):Prop
  | mk (xs:List V) (hy:iterS σ y = some xs) (hf:iterFits y) (J:Nat → Mu → Sg → Prop) (J0:J 0 μ σ) (Jy:∀ i μ' σ',J i μ' σ' → iterS σ' y = some xs)
      (Jt:∀ i x μ' σ',xs[i]? = some x → J i μ' σ' → AT prog w Amb A B env tgt x μ' σ' (fun μ2 => WS prog w Amb A B env μ2 σ' body (fun f μ3 σ3 => match f with
        | .next | .cont => J (i + 1) μ3 σ3
        | .brk => R .next μ3 σ3
        | .ret y => R (.ret y) μ3 σ3))) (Je:∀ μ' σ',J xs.length μ' σ' → R .next μ' σ')
inductive FInv (Amb:Fz → Prop) (B:Base) (env:Env) (P:List Pend) (J:Nat → Mu → Sg → Prop) (K:Nat → Heap → Prop) (I:Addr) (N:Nat) (k:Nat) (s:Shared):Prop
  | mk (i:Nat) (μ:Mu) (σ:Sg) (oI:Obj) (hk:k + i = N) (hJ:J i μ σ) (hK:K i s.heap) (S:St Amb B env μ σ (.held I oI true :: P) s)
theorem W1.forS {tgt it:PySem.Expr} {body:List Stmt} {p:Pos} {R:Fl → Mu → Sg → Prop} (hh:A.handled = none)
    (h:WE prog w Amb A B env μ σ it (ForI prog w Amb A B env μ tgt body R))
    (hs:∀ x:Value,foldedSetIterable it env x = pure x:=by intro x; rfl):W1 prog w Amb A B env μ σ (.For tgt it body [] p) R:=by
  intro P s S
  refine wpAny_For (wpAny_mono (h P s S) (fun v s1 qq => ?_) fun _ _ x => x.elim) hs
  obtain ⟨y,σ1,⟨F,φ,m,ow,S1⟩,xs,hy,hf,J,J0,Jy,Jt,Je⟩:=qq
  refine iter_of hh hy hf S1 fun s2 I K oI hn hG T hst hI S2 => ?_
  refine codeAny_forLoop_any (FInv Amb B env (.rel v y :: P) J K I xs.length) ?_ xs.length ⟨0,μ,σ1,oI,Nat.add_zero _,J0,hst,F,φ,m,ow,S2⟩
  rintro k s' ⟨i,μ',σ',oI',hk,hJ,hst',F',φ',m',ow',S'⟩
  have hnP:∀ o mi,Pend.held I o mi ∉ .rel v y :: P:=fun o mi hm => by
    have:=(S1.held I o mi hm).1
    rw [hn] at this; cases this
  by_cases hi:i < xs.length
  · refine T.item S' (S'.pend v y mem2) (Jy i μ' σ' hJ) rfl hi hst' fun u x h' tk hx rx hst2 hk2 => ?_
    obtain ⟨o2,T2,ho2,hc2,hT2⟩:=T.alive _ _ hst2
    refine letOwned_quiet ho2 hc2 hT2 (wpAny_mono (Jt i x μ' σ' hx hJ _ _ u ⟨F',φ',m',ow',(S'.turnIt (s':={ s' with heap:=h',toks:=tk }) hnP hk2 rfl .rfl ho2).add rx⟩) (fun _ s3 qq => ?_) fun _ _ x => x.elim)
    obtain ⟨μ3,S5,hb⟩:=qq
    refine wpAny_mono (hb _ s3 S5) (fun f s4 q => ?_) fun _ _ x => x.elim
    have again:NP Amb B env (.held I o2 true :: .rel v y :: P) (J (i + 1)) s4 → ∃ k',k' < k ∧ FInv Amb B env (.rel v y :: P) J K I xs.length k' s4:=by
      rintro ⟨μ4,σ4,⟨F4,φ4,m4,ow4,S6⟩,hJ4⟩
      exact ⟨k - 1,(turn_ar hk hi).1,i + 1,μ4,σ4,o2,(turn_ar hk hi).2,hJ4,T.frame _ _ _ hst2 fun o ho => Option.some.inj (ho2.symm.trans ho) ▸ (S6.held _ _ true (.head _)).1,F4,φ4,m4,ow4,S6⟩
    cases f with
    | next => exact again q
    | cont => exact again q
    | brk => obtain ⟨μ4,σ4,S6,r⟩:=q; exact ⟨μ4,σ4,S6.drop fun _ h => .tail _ (.tail _ h),r⟩
    | ret u => obtain ⟨z,μ4,σ4,S6,r⟩:=q; exact ⟨z,μ4,σ4,S6.drop subs4,r⟩
  · obtain rfl:i = xs.length:=end_at hk hi
    exact T.done S' (S'.pend v y mem2) (Jy _ μ' σ' hJ) rfl hst' fun h' tk hk2 =>
      wpAny_execs_nil ⟨μ',σ',⟨F',φ',m',ow',(S'.turnGone (s':={ s' with heap:=h',toks:=tk }) hnP hk2 rfl .rfl).pop⟩,Je _ _ hJ⟩
theorem W1.for_ {tgt it:PySem.Expr} {body:List Stmt} {p:Pos} {R:Fl → Mu → Sg → Prop} (hh:A.handled = none)
    (h:WE prog w Amb A B env μ σ it (fun y σ1 => ∃ xs,iterItems y = some xs ∧ iterFits y ∧ ∃ J:Nat → Mu → Sg → Prop,J 0 μ σ1 ∧
      (∀ i x μ' σ',xs[i]? = some x → J i μ' σ' → AT prog w Amb A B env tgt x μ' σ' (fun μ2 => WS prog w Amb A B env μ2 σ' body (fun f μ3 σ3 => match f with
        | .next | .cont => J (i + 1) μ3 σ3
        | .brk => R .next μ3 σ3
        | .ret y => R (.ret y) μ3 σ3))) ∧ (∀ μ' σ',J xs.length μ' σ' → R .next μ' σ')))
    (hs:∀ x:Value,foldedSetIterable it env x = pure x:=by intro x; rfl):W1 prog w Amb A B env μ σ (.For tgt it body [] p) R:=by
  refine W1.forS hh (h.mono fun y σ1 qq => ?_) hs
  obtain ⟨xs,hy,hf,J,J0,Jt,Je⟩:=qq
  exact ⟨xs,iterS_of hy,hf,J,J0,fun _ _ _ _ => iterS_of hy,Jt,Je⟩
theorem W1.forR {tgt it:PySem.Expr} {body:List Stmt} {p:Pos} {R:Fl → Mu → Sg → Prop} (hh:A.handled = none)
    (h:WE prog w Amb A B env μ σ it (fun y σ1 => ∃ xs,iterItems y = some xs ∧ iterFits y ∧ ∃ J:Nat → Mu → Sg → Prop,J 0 μ σ1 ∧
      (∀ (R':Fl → Mu → Sg → Prop) i x μ' σ',(∀ μ3 σ3,J (i + 1) μ3 σ3 → R' .next μ3 σ3) → (∀ y μ3 σ3,R (.ret y) μ3 σ3 → R' (.ret y) μ3 σ3) → xs[i]? = some x → J i μ' σ' → AT prog w Amb A B env tgt x μ' σ' (fun μ2 => WS prog w Amb A B env μ2 σ' body R')) ∧
      (∀ μ' σ',J xs.length μ' σ' → R .next μ' σ')))
    (hs:∀ x:Value,foldedSetIterable it env x = pure x:=by intro x; rfl):W1 prog w Amb A B env μ σ (.For tgt it body [] p) R:=by
  refine W1.for_ hh (h.mono fun y σ1 qq => ?_) hs
  obtain ⟨xs,hy,hf,J,J0,Jt,Je⟩:=qq
  exact ⟨xs,hy,hf,J,J0,fun i x μ' σ' hx hj => Jt _ i x μ' σ' (fun _ _ h => h) (fun _ _ _ h => h) hx hj,Je⟩
theorem WS.ans {b:List Stmt} {y0:V} {σ0:Sg} (h:∀ R:Fl → Mu → Sg → Prop,(∀ y μ',y = y0 → R (.ret y) μ' σ0) → WS prog w Amb A B env μ σ b R) :
    WS prog w Amb A B env μ σ b (fun f μ' σ' => ∃ y,(f = .ret y ∨ (f = .next ∧ y = .none)) ∧ (y = y0 ∧ σ' = σ0)):=h _ fun y μ' e => ⟨y,.inl rfl,e,rfl⟩
end
noncomputable def rels (vs:List Value) (ys:List V):List Pend:=(vs.zip ys).map fun p => .rel p.1 p.2
theorem rels_cons (v:Value) (y:V) (vs:List Value) (ys:List V):rels (v :: vs) (y :: ys) = .rel v y :: rels vs ys:=rfl
theorem mem_rels {vs:List Value} {ys:List V} {v:Value} {y:V} (h:Pend.rel v y ∈ rels vs ys):(v,y) ∈ vs.zip ys:=by
  obtain ⟨⟨a,b⟩,hm,e⟩:=List.mem_map.mp h
  cases e; exact hm
theorem held_rels {vs:List Value} {ys:List V} {a:Addr} {o:Obj} {mi:Bool}:Pend.held a o mi ∉ rels vs ys:=fun h => by
  obtain ⟨⟨a,b⟩,hm,e⟩:=List.mem_map.mp h
  cases e
theorem rels_push {us:Array Value} {acc:List V} {t:Value} {z:V} (h:us.size = acc.length):rels (us.push t).toList (acc ++ [z]) = rels us.toList acc ++ [.rel t z]:=by
  unfold rels
  rw [Array.toList_push,List.zip_append h,List.map_append]
  rfl
noncomputable def mu0 (names:List Str) (ys:List V) (rest:List Str):Mu:=(names.zip ys).map (fun p => (p.1,some (.v p.2))) ++ rest.map fun x => (x,none)
theorem mget_none:∀ (rest:List Str) (x:Str),mget (rest.map fun x => (x,none)) x = none
  | [],_ => rfl
  | y :: r,x => by
    simp only [List.map_cons,mget]
    split
    · rfl
    · exact mget_none r x
theorem mget_mu0:∀ {names:List Str} {ys:List V} {rest:List Str} {x:Str} {lv:LV},mget (mu0 names ys rest) x = some lv → ∃ y,lv = .v y ∧ (x,y) ∈ names.zip ys
  | [],ys,rest,x,lv,h => by
    have:mu0 [] ys rest = rest.map fun x => (x,none):=by simp [mu0]
    rw [this,mget_none] at h; cases h
  | n :: names,[],rest,x,lv,h => by
    have:mu0 (n :: names) [] rest = rest.map fun x => (x,none):=by simp [mu0]
    rw [this,mget_none] at h; cases h
  | n :: names,y :: ys,rest,x,lv,h => by
    have:mu0 (n :: names) (y :: ys) rest = (n,some (.v y)) :: mu0 names ys rest:=by simp [mu0]
    rw [this] at h
    simp only [mget] at h
    set_option tactic.hygienic true in split at h
    · rename_i e; subst e; cases h; exact ⟨y,rfl,by simp⟩
    · obtain ⟨z,e,hm⟩:=mget_mu0 h
      exact ⟨z,e,by simp [hm]⟩
theorem bindL_other {kindOf:Str → Option NameKind}:∀ {binds:List (Str × Value)} {m:Str → Option Value} {x:Str},(∀ v,(x,v) ∉ binds) → bindL kindOf binds m x = m x
  | [],_,_,_ => rfl
  | (n,u) :: r,m,x,h => by
    unfold bindL
    rw [bindL_other fun v hv => h v (List.mem_cons_of_mem _ hv)]
    have:x ≠ n:=fun e => h u (by simp [e])
    split <;> simp [this]
theorem bindC_other {kindOf:Str → Option NameKind}:∀ {binds:List (Str × Value)} {m:Str → Option Value} {x:Str},(∀ v,(x,v) ∉ binds) → bindC kindOf binds m x = m x
  | [],_,_,_ => rfl
  | (n,u) :: r,m,x,h => by
    unfold bindC
    rw [bindC_other fun v hv => h v (List.mem_cons_of_mem _ hv)]
    have:x ≠ n:=fun e => h u (by simp [e])
    split <;> simp [this]
theorem not_mem_zip {x:Str}:∀ {names:List Str} {vs:List Value},x ∉ names → ∀ v,(x,v) ∉ names.zip vs:=fun hx v hv => hx (List.of_mem_zip hv).1
theorem bindL_get {kindOf:Str → Option NameKind}:∀ {names:List Str} {vs:List Value} {m:Str → Option Value} {x:Str} {v:Value},names.Nodup → (x,v) ∈ names.zip vs → kindOf x = some .local → bindL kindOf (names.zip vs) m x = some v
  | [],_,_,_,_,_,h,_ => by simp at h
  | _ :: _,[],_,_,_,_,h,_ => by simp at h
  | n :: names,u :: vs,m,x,v,hn,h,hk => by
    obtain ⟨h1,h2⟩:=List.nodup_cons.mp hn
    simp only [List.zip_cons_cons] at h ⊢
    unfold bindL
    rcases List.mem_cons.mp h with e | h
    · cases e
      rw [bindL_other (not_mem_zip h1),if_pos hk]; simp
    · exact bindL_get h2 h hk
theorem bindC_get {kindOf:Str → Option NameKind}:∀ {names:List Str} {vs:List Value} {m:Str → Option Value} {x:Str} {v:Value},names.Nodup → (x,v) ∈ names.zip vs → kindOf x = some .cell → bindC kindOf (names.zip vs) m x = some v
  | [],_,_,_,_,_,h,_ => by simp at h
  | _ :: _,[],_,_,_,_,h,_ => by simp at h
  | n :: names,u :: vs,m,x,v,hn,h,hk => by
    obtain ⟨h1,h2⟩:=List.nodup_cons.mp hn
    simp only [List.zip_cons_cons] at h ⊢
    unfold bindC
    rcases List.mem_cons.mp h with e | h
    · cases e
      rw [bindC_other (not_mem_zip h1),if_neg (by rw [hk]; nofun)]; simp
    · exact bindC_get h2 h hk
section
variable {prog:Program} {w:World} {Amb:Fz → Prop} {A:Around} {B:Base} {env env':Env} {μ μ':Mu} {σ σ':Sg} {mg mb:Str → Option Value}
variable {P P':List Pend} {s s' s₁:Shared} {F F':Fz} {φ φ':List Addr} {m m':Str → Option Value} {ow ow':List (Str × Addr)}
theorem StF.leave {P'':List Pend} (S:StF Amb B env μ σ P s F φ m ow) (T:StF Amb ⟨s.heap,F,φ,s.os,s.gens⟩ env' μ' σ' P' s' F' φ' m' ow')
    (h1:∀ v y,Pend.rel v y ∈ P'' → Pend.rel v y ∈ P ∨ Pend.rel v y ∈ P') (h2:∀ a o mi,Pend.held a o mi ∈ P'' → Pend.held a o mi ∈ P):StF Amb B env μ σ' P'' s' F' φ' m ow:=by
  have alive:∀ a,F' a ≠ none → F a = none → s.heap.get? a = none:=fun a h hn => by
    cases e:F' a with
    | none => exact absurd e h
    | some o => rcases T.new a o e with q | q
                · exact absurd (hn.symm.trans q) (by nofun)
                · exact q
  have noF:∀ a o,s.heap.get? a = some o → F a = none → F' a = none:=fun a o ho hn => by
    cases e:F' a with
    | none => rfl
    | some o' => have:=alive a (by rw [e]; nofun) hn; rw [ho] at this; cases this
  have noφ:∀ a o,s.heap.get? a = some o → a ∉ φ → a ∉ φ':=fun a o ho hn hm => by
    rcases T.phin a hm with q | q
    · exact hn q
    · rw [ho] at q; cases q
  obtain ⟨oL,esL,epL,hL,_⟩:=S.ns
  exact {
    amb:=T.amb
    sub:=T.sub
    ext:=fun a o h => T.ext a o (S.ext a o h)
    new:=fun a o h => by
      rcases T.new a o h with q | q
      · exact S.new a o q
      · exact .inr (S.free q).2.2.2.2.2
    phi:=fun i l h => T.phi i l (S.phi i l h)
    phin:=fun l h => by
      rcases T.phin l h with q | q
      · exact S.phin l q
      · exact .inr (S.free q).2.2.2.2.2
    phi0:=S.phi0
    keep:=fun b o h hb => by
      refine T.keep b o (S.keep b o h hb) fun hm => ?_
      rcases S.phin b hm with q | q
      · exact hb q
      · rw [h] at q; cases q
    os:=T.os.trans S.os
    gens:=T.gens
    gkeep:=fun g x h => T.gkeep g x (S.gkeep g x h)
    nodup:=T.nodup
    phiF:=T.phiF
    len:=T.len
    sto:=T.sto
    ns:=S.ns.at' fun o e => T.keep _ _ e S.locF.2.1
    locF:=⟨noF _ _ hL S.locF.1,noφ _ _ hL S.locF.2.1,S.locF.2.2⟩
    loc:=fun x lv e1 e2 => by
      obtain ⟨v,a,b⟩:=S.loc x lv e1 e2
      refine ⟨v,a,?_⟩
      cases lv with
      | v y => exact Rel.mono T.ext T.phi b
      | own xs =>
        obtain ⟨a,vs,n,q1,q2,q3,q4⟩:=b
        exact ⟨a,vs,n,q1,q2,T.keep _ _ q3 (S.own _ _ q2).2.2.1,q4.mono T.ext T.phi⟩
    cel:=fun x lv e1 e2 e3 => by
      obtain ⟨c,v,a,⟨o,b1,b2⟩,y,e,r⟩:=S.cel x lv e1 e2 e3
      exact ⟨c,v,a,⟨o,T.keep _ _ b1 (S.cells c ⟨e3,x,e2,a⟩).2.2.1,b2⟩,y,e,r.mono T.ext T.phi⟩
    fre:=fun x lv e1 e2 => by
      obtain ⟨c,v,a,b,k,y,e,r⟩:=S.fre x lv e1 e2
      exact ⟨c,v,a,b,k,y,e,r.mono T.ext T.phi⟩
    cells:=fun c h => by
      obtain ⟨⟨v,o,a1,a2⟩,b1,b2,b3⟩:=S.cells c h
      exact ⟨⟨v,o,T.keep _ _ a1 b2,a2⟩,noF _ _ a1 b1,noφ _ _ a1 b2,b3⟩
    own:=fun x a h => by
      obtain ⟨⟨o,q⟩,b1,b2,b3⟩:=S.own x a h
      exact ⟨⟨o,T.keep _ _ q b2⟩,noF _ _ q b1,noφ _ _ q b2,b3⟩
    ownk:=S.ownk
    ownf:=S.ownf
    pend:=fun v y h => by
      rcases h1 v y h with q | q
      · exact (S.pend v y q).mono T.ext T.phi
      · exact T.pend v y q
    held:=fun a o mi h => by
      obtain ⟨q,b1,b2,b3,b4,b5⟩:=S.held a o mi (h2 a o mi h)
      exact ⟨T.keep _ _ q b1,noφ _ _ q b1,b2,b3,b4,fun e => ⟨noF _ _ q (b5 e).1,(b5 e).2⟩⟩ }
theorem StF.enter {names rest:List Str} {vs:List Value} {ys:List V} {L:Addr} {m' cm:Str → Option Value} (S:StF Amb B env μ σ (rels vs ys ++ P) s F φ m ow) (hlen:vs.length = ys.length) (hL:env'.locals = L) (hL0:L = s.heap.objs.size)
    (x:InCallC s L m' env'.cells cm s₁)
    (hm:∀ n v,(n,v) ∈ names.zip vs → env'.kindOf n = some .local → m' n = some v) (hc:∀ n v,(n,v) ∈ names.zip vs → env'.kindOf n = some .cell → cm n = some v)
    (hfn:env'.func.isSome = true) (hk:∀ n ∈ names,env'.kindOf n = some .local ∨ env'.kindOf n = some .cell) (hcell:∀ n,env'.kindOf n = some .cell → ∃ c,env'.cells.lookup n = some c) :
    StF Amb ⟨s.heap,F,φ,s.os,s.gens⟩ env' (mu0 names ys rest) σ [] s₁ F φ m' []:=by
  subst hL
  obtain ⟨h₁,tk,rfl⟩:=x.toInCall.same
  have hn0:∀ c,s.heap.objs.size ≤ c → s.heap.get? c = none:=fun c hc => by
    cases e:s.heap.get? c with
    | none => rfl
    | some o => exact absurd (Heap.lt_size e) (Nat.not_lt.mpr hc)
  obtain ⟨f1,f2,f3,f4,f5,f6⟩:=S.free (hn0 env'.locals x.toInCall.fresh)
  have zip3:∀ {n:Str} {y:V},(n,y) ∈ names.zip ys → ∃ v,(n,v) ∈ names.zip vs ∧ Rel F φ v y:=by
    intro n y h
    obtain ⟨i,hi,e⟩:=List.getElem_of_mem h
    simp only [List.length_zip] at hi
    simp only [List.getElem_zip,Prod.mk.injEq] at e
    have hv:i < vs.length:=by lia
    refine ⟨vs[i],List.mem_iff_getElem.mpr ⟨i,by simp; lia,by simp [e.1]⟩,?_⟩
    refine S.pend _ _ (List.mem_append_left _ (List.mem_map.mpr ⟨(vs[i],y),List.mem_iff_getElem.mpr ⟨i,by simp; lia,by simp [e.2]⟩,rfl⟩))
  exact {
    amb:=S.amb
    sub:=fun a o h => x.toInCall.keep _ _ (S.sub a o h)
    ext:=fun _ _ h => h
    new:=fun _ _ h => .inl h
    phi:=fun _ _ h => h
    phin:=fun _ h => .inl h
    phi0:=fun l hl => by
      obtain ⟨i,hi,e⟩:=List.getElem_of_mem hl
      obtain ⟨es,he⟩:∃ es,σ[i]? = some es:=⟨_,List.getElem?_eq_getElem (S.len ▸ hi)⟩
      obtain ⟨_,q,_⟩:=S.sto i l es (by rw [List.getElem?_eq_getElem hi,e]) he
      exact ⟨_,q⟩
    keep:=fun b o h _ => x.toInCall.keep _ _ h
    os:=rfl
    gens:=S.gens
    gkeep:=fun _ _ h => h
    nodup:=S.nodup
    phiF:=S.phiF
    len:=S.len
    sto:=fun i l es h1 h2 => let ⟨oo,q,r⟩:=S.sto i l es h1 h2; ⟨oo,x.toInCall.keep _ _ q,r⟩
    ns:=x.toInCall.ns
    locF:=⟨f1,f2,hn0 _ x.toInCall.fresh⟩
    loc:=fun n lv h1 h2 => by
      obtain ⟨y,rfl,hm'⟩:=mget_mu0 h1
      obtain ⟨v,hv,r⟩:=zip3 hm'
      exact ⟨v,hm n v hv h2,r⟩
    cel:=fun n lv h1 h2 h3 => by
      obtain ⟨y,rfl,hm'⟩:=mget_mu0 h1
      obtain ⟨v,hv,r⟩:=zip3 hm'
      obtain ⟨c,hc'⟩:=hcell n h2
      exact ⟨c,v,hc',hc n v hv h2 ▸ x.cell n c hc',y,rfl,r⟩
    fre:=fun n lv h1 h2 => by
      obtain ⟨y,rfl,hm'⟩:=mget_mu0 h1
      rcases h2 with h2 | ⟨_,h2⟩
      · rcases hk n (List.of_mem_zip hm').1 with e | e <;> rw [h2] at e <;> cases e
      · rw [h2] at hfn; cases hfn
    cells:=fun c ⟨_,n,h1,h2⟩ => by
      have hlt:env'.locals < c:=x.above n c (mem_of_lookup h2)
      obtain ⟨g1,g2,g3,g4,g5,g6⟩:=S.free (hn0 c (Nat.le_of_lt (Nat.lt_of_le_of_lt x.toInCall.fresh hlt)))
      exact ⟨⟨_,x.cell n c h2⟩,g1,g2,Nat.ne_of_gt hlt,hn0 c (Nat.le_of_lt (Nat.lt_of_le_of_lt x.toInCall.fresh hlt))⟩
    own:=fun n a h => nomatch h
    ownk:=fun n y a h => nomatch h
    ownf:=fun n a b h => nomatch h
    pend:=fun v y h => nomatch h
    held:=fun a o mi h => nomatch h }
end
section
variable {prog:Program} {w:World} {Amb:Fz → Prop} {A:Around} {B:Base} {env env':Env} {μ μ':Mu} {σ σ':Sg} {mg mb:Str → Option Value}
theorem callWith_plain {pos:Pos} {f:Value} {first:List Value} {ts:List (Sem Value)} {ks:List (Str × Sem Value)} {s:Shared} {Q:Value → Shared → Prop} {E:Value → Shared → Prop}
    (hf:(∃ id,f = .builtin id) ∨ (∃ n,f = .type n) ∨ ∃ a,f = .ref a)
    (h:wpAny (model prog w) A (spliced (ts.map fun t => (false,t))) (fun vs s₁ => wpAny (model prog w) A (evalAll (ks.map (·.2))) (fun us s₂ =>
      (∀ a,f = .ref a → ∃ o fd,s₂.heap.get? a = some o ∧ o.data = .func fd) ∧ wpAny (model prog w) A (call f (first ++ vs) ((ks.map (·.1)).zip us)) Q E s₂) E s₁) E s) :
    wpAny (model prog w) A (callWith pos f first (ts.map fun t => (false,t)) (ks.map fun k => (some k.1,k.2))) Q E s:=by
  have e1:(ts.map fun t => (false,t)).any (·.1) = false:=by induction ts <;> simp_all
  have e2:(ks.map fun k => (some k.1,k.2)).any (·.1.isNone) = false:=by simp
  have e3:(ks.map fun k => (some k.1,k.2)).all (·.1.isSome) = true:=by simp
  have e4:(ks.map fun k => (some k.1,k.2)).filterMap (·.1) = ks.map (·.1):=by rw [List.filterMap_map]; simp [Function.comp_def]
  have e5:(ks.map fun k => ((some k.1:Option Str),k.2)).map (·.2) = ks.map (·.2):=by simp
  have key:wpAny (model prog w) A (evalArgs f true (ts.map fun t => (false,t)) (ks.map fun k => (some k.1,k.2)))
      (fun a s₂ => (∀ b,f = .ref b → ∃ o fd,s₂.heap.get? b = some o ∧ o.data = .func fd) ∧ wpAny (model prog w) A (call f (first ++ a.pos) a.kw) Q E s₂) E s:=by
    unfold evalArgs
    rcases ts with _ | ⟨t,r⟩
    all_goals
      show wpAny (model prog w) A (spliced _ >>= _) _ E s
      refine wpAny_bind (wpAny_mono h (fun vs s₁ h₁ => ?_) fun _ _ x => x)
      refine wpAny_holding ?_
      show wpAny (model prog w) A (if (ks.map fun k => (some k.1,k.2)).all (·.1.isSome) = true then _ else _) _ E s₁
      first | refine iteT e3 ?_ | rw [if_pos e3]
      rw [e4,e5]
      exact wpAny_bind (wpAny_mono h₁ (fun us s₂ h₂ => wpAny_bind (wpAny_pure (wpAny_pure h₂))) fun _ _ x => x)
  unfold callWith
  refine wpAny_bind (wpAny_holding (wpAny_mono key (fun a s₂ h₂ => wpAny_bind (wpAny_standAt ?_)) fun _ _ x => x))
  simp only [e1,e2,Bool.or_false]
  have tail:∀ {t:Sem Value},wpAny (model prog w) A t Q E s₂ → wpAny (model prog w) A (t >>= fun r => holding [r] point >>= fun _ => pure r) Q E s₂ :=
    fun ht => wpAny_bind (wpAny_mono ht (fun r s₃ hr => wpAny_bind (wpAny_holding (wpAny_point (wpAny_pure hr)))) fun _ _ x => x)
  refine wpAny_bind (m:=keeperOf f) ?_
  rcases hf with ⟨id,rfl⟩ | ⟨n,rfl⟩ | ⟨b,rfl⟩
  · exact wpAny_pure (tail h₂.2)
  · exact wpAny_pure (tail h₂.2)
  · obtain ⟨o,fd,ho,hd⟩:=h₂.1 b rfl
    unfold keeperOf
    refine wpAny_bind (wpAny_load ho ?_)
    rw [hd]
    refine wpAny_pure ?_
    dsimp only
    split
    · exact tail h₂.2
    · exact tail (by unfold callMarked; exact Calls.wpAny_keep h₂.2)
variable (Amb B env) in
inductive AP (μ:Mu) (P:List Pend) (R:List V → Sg → Prop) (vs:List Value) (s:Shared):Prop
  | mk (ys:List V) (σ:Sg) (len:vs.length = ys.length) (S:St Amb B env μ σ (rels vs ys ++ P) s) (h:R ys σ)
variable (prog w Amb A B env) in
noncomputable def WAs (μ:Mu) (σ:Sg) (es:List PySem.Expr) (R:List V → Sg → Prop):Prop :=
  ∀ P s,St Amb B env μ σ P s → wpAny (model prog w) A (spliced (es.map fun e => (false,eval e env))) (AP Amb B env μ P R) nofail s
theorem WAs.nil {R:List V → Sg → Prop} (h:R [] σ):WAs prog w Amb A B env μ σ [] R:=fun P s S => Calls.spliced_nil ⟨[],σ,rfl,S,h⟩
theorem WAs.cons {e:PySem.Expr} {es:List PySem.Expr} {R:List V → Sg → Prop} (h:WE prog w Amb A B env μ σ e (fun y σ1 => WAs prog w Amb A B env μ σ1 es (fun ys σ2 => R (y :: ys) σ2))) :
    WAs prog w Amb A B env μ σ (e :: es) R:=by
  intro P s S
  refine Calls.spliced_cons (wpAny_mono (h P s S) (fun v s1 qq => ?_) fun _ _ x => x)
  obtain ⟨y,σ1,S1,h1⟩:=qq
  refine wpAny_mono (h1 _ s1 S1) (fun vs s2 qq => ?_) fun _ _ x => x
  obtain ⟨ys,σ2,hl,S2,r⟩:=qq
  refine ⟨y :: ys,σ2,by simp [hl],S2.drop ?_,r⟩
  intro q hq
  rw [rels_cons] at hq
  simp only [List.cons_append,List.mem_cons,List.mem_append] at hq ⊢
  rcases hq with e | e | e
  · exact .inr (.inl e)
  · exact .inl e
  · exact .inr (.inr e)
variable (prog w Amb A B env) in
noncomputable def WC (μ:Mu) (σ:Sg) (f:Value) (ys:List V) (R:V → Sg → Prop):Prop :=
  ∀ P vs s,vs.length = ys.length → St Amb B env μ σ (rels vs ys ++ P) s → wpAny (model prog w) A (call f vs) (VP Amb B env μ P R) nofail s
structure FnIs (Amb:Fz → Prop) (a:Addr) (fd:FuncData) (body:List Stmt):Prop where
  has:∀ F,Amb F → ∃ o,F a = some o ∧ o.data = .func fd
  code:∀ (F:Fz) (h:Heap),Amb F → (∀ a o,F a = some o → h.get? a = some o) → h.CodeRec fd.code fd.qualname
  body:fd.body = .stmts body
  closure:fd.closure = []
  kind:fd.scope.kind = .function
  co:fd.scope.isCoroutine = false
  globals:fd.globals = mainGlobals
  builtins:fd.builtins = builtinsNs
inductive Callee (Amb:Fz → Prop):V → Value → Prop
  | bi (id:String):Callee Amb (.bi id) (.builtin id)
  | ty (n:String):Callee Amb (.ty n) (.type n)
  | fn {a:Addr} {fd:FuncData} {body:List Stmt}:FnIs Amb a fd body → Callee Amb (.adr a) (.ref a)
theorem WE.call {f:PySem.Expr} {args:List PySem.Expr} {p:Pos} {R:V → Sg → Prop}
    (h:WE prog w Amb A B env μ σ f (fun y σ1 => ∃ fv,Callee Amb y fv ∧ WAs prog w Amb A B env μ σ1 args (fun ys σ2 => WC prog w Amb A B env μ σ2 fv ys R)))
    (he:eval (.Call f args [] p) env = (do callWith p (← eval f env) [] (args.map fun e => (false,eval e env)) []):=by rfl):WE prog w Amb A B env μ σ (.Call f args [] p) R:=by
  intro P s S
  rw [he]
  refine wpAny_bind (wpAny_mono (h P s S) (fun v s1 qq => ?_) fun _ _ x => x)
  obtain ⟨y,σ1,S1,fv,hc,h1⟩:=qq
  have hv:v = fv:=by
    obtain ⟨F,φ,m,ow,S1⟩:=S1
    cases hc <;> exact S1.top.inv
  subst hv
  have S1':St Amb B env μ σ1 P s1:=S1.drop fun _ h => List.mem_cons_of_mem _ h
  have:=callWith_plain (prog:=prog) (w:=w) (A:=A) (pos:=p) (f:=v) (first:=[]) (ts:=args.map fun e => eval e env) (ks:=[]) (s:=s1) (Q:=VP Amb B env μ P R) (E:=nofail)
    (by cases hc <;> simp) ?_
  · simpa [Function.comp_def] using this
  · rw [List.map_map]
    refine wpAny_mono (h1 P s1 S1') (fun vs s2 qq => ?_) fun _ _ x => x
    obtain ⟨ys,σ2,hl,S2,h2⟩:=qq
    refine wpAny_evalAll_nil ⟨?_,?_⟩
    · intro a e
      subst e
      obtain ⟨F,φ,m,ow,S2⟩:=S2
      cases hc with
      | fn k => obtain ⟨o,ho,hd⟩:=k.has F S2.amb; exact ⟨o,_,S2.sub _ _ ho,hd⟩
    · exact h2 P vs s2 hl S2
theorem cells_has {n:Str}:∀ (names:List (Str × NameKind)) (L:Nat) (acc:List (Str × Addr)),((∃ c,acc.lookup n = some c) ∨ (n,NameKind.cell) ∈ names) → ∃ c,(cellsFrom L names acc).lookup n = some c
  | [],L,acc,h => by
    rcases h with h | h
    · exact h
    · cases h
  | (x,kd) :: r,L,acc,h => by
    unfold cellsFrom
    have lk:∀ c:Addr,∃ c',List.lookup n ((x,c) :: acc) = some c' ∨ (n ≠ x ∧ List.lookup n ((x,c) :: acc) = acc.lookup n):=fun c => by
      by_cases e:n = x
      · subst e; exact ⟨c,.inl (by simp [List.lookup])⟩
      · exact ⟨c,.inr ⟨e,by simp [List.lookup,beq_eq_false_iff_ne.mpr e]⟩⟩
    set_option tactic.hygienic true in split
    · rename_i hk
      refine cells_has r _ _ ?_
      rcases h with ⟨c,h⟩ | h
      · by_cases e:n = x
        · subst e; exact .inl ⟨L,by simp [List.lookup]⟩
        · exact .inl ⟨c,by simp [List.lookup,beq_eq_false_iff_ne.mpr e,h]⟩
      · rcases List.mem_cons.mp h with e | h
        · cases e; exact .inl ⟨L,by simp [List.lookup]⟩
        · exact .inr h
    · rename_i hk
      refine cells_has r _ _ ?_
      rcases h with h | h
      · exact .inl h
      · rcases List.mem_cons.mp h with e | h
        · cases e; exact absurd rfl hk
        · exact .inr h
theorem fn_raw {s s₁:Shared} {F:Fz} {a:Addr} {fd:FuncData} {body:List Stmt} {us:List Value} {names:List Str} {k:Nat} {args:Args} {Q:Result → Shared → Prop} (H:AmbOk prog w Amb mg mb) (K:FnIs Amb a fd body) (hr:Room A (k + 1)) (hgen:fd.scope.isGenerator = false)
    (hA:Amb F) (hs:∀ a o,F a = some o → s.heap.get? a = some o) (hs₁:∀ a o,F a = some o → s₁.heap.get? a = some o)
    (hb:∀ (Q:List (Str × Value) → Shared → Prop) (E:Value → Shared → Prop),Q (names.zip us) s₁ → wpAny (model prog w) A.in1 (bindArgs fd args) Q E s)
    (hk:∀ n ∈ names,fd.scope.names.lookup n = some .local ∨ fd.scope.names.lookup n = some .cell)
    (h:∀ (env':Env) s',env' = callEnvC fd s₁.heap.objs.size a → EnvOk env' → Room (A.deeper env') k → InCallC s₁ env'.locals (bindL env'.kindOf (names.zip us) fun _ => none) env'.cells (bindC env'.kindOf (names.zip us) fun _ => none) s' → (∀ n,env'.kindOf n = some .cell → ∃ c,env'.cells.lookup n = some c) →
      wpAny (model prog w) (A.deeper env') (execs body env') (fun f s'' => Q (.ok (.ret (match f with | .ret v => v | _ => .none))) s'') nofail s') :
    codeAny (model prog w) A (.call (.ref a) args) Q s:=by
  obtain ⟨o,ho,hd⟩:=K.has F hA
  have hcells:∀ (L:Nat) (n:Str),fd.scope.names.lookup n = some .cell → ∃ c,(cellsFrom L fd.scope.names []).lookup n = some c:=by
    intro L n hn
    exact cells_has _ _ _ (.inr (mem_of_lookup hn))
  refine codeAny_call_function hr.deep (hs _ _ ho) hd K.co hgen K.body (K.code F _ hA hs) (hb _ _ ?_)
  rw [K.closure]
  refine wpAny_newFunctionEnv_cells K.kind ?_ fun env he s' x => ?_
  · intro x hx
    rcases hk x.1 (List.of_mem_zip hx).1 with e | e
    · exact .inl e
    · obtain ⟨c,hc⟩:=hcells (s₁.heap.objs.size + 1) x.1 e
      exact .inr ⟨e,by rw [hc]; rfl⟩
  · have he':env = callEnvC fd s₁.heap.objs.size a:=he
    have x':=x
    subst he'
    have E':EnvOk (callEnvC fd s₁.heap.objs.size a):=⟨K.kind,K.globals,K.builtins,fun n hn => hcells _ n hn,fun _ n1 n2 c h1 h2 q1 q2 => name_of_addr x.apart (mem_of_lookup q1) (mem_of_lookup q2)⟩
    have hr':Room (A.deeper (callEnvC fd s₁.heap.objs.size a)) k:=⟨hr.handled,by have:=hr.depth; show A.depth + 1 + k < 900; lia,by have:=hr.units; show A.units + 3 + 8 * k < 9000; lia⟩
    exact ⟨(H.nolimit F _ hA hs₁).keeps x'.toInCall.keep,codeAny_func (wpAny_mono (h _ s' rfl E' hr' x' fun n hn => hcells _ n hn) (fun _ _ z => z) fun _ _ z => z.elim)⟩
theorem frame_run {A':Around} {s₁ s':Shared} {F:Fz} {φ:List Addr} {m:Str → Option Value} {ow:List (Str × Addr)} {P:List Pend} {body:List Stmt} {us:List Value} {ys:List V} {names rest:List Str} {R:V → Sg → Prop} (S:StF Amb B env μ σ (rels us ys ++ P) s₁ F φ m ow) (hl:us.length = ys.length) (hnd:names.Nodup)
    (hL:env'.locals = s₁.heap.objs.size) (hfn:env'.func.isSome = true) (hk:∀ n ∈ names,env'.kindOf n = some .local ∨ env'.kindOf n = some .cell) (hc:∀ n,env'.kindOf n = some .cell → ∃ c,env'.cells.lookup n = some c)
    (x:InCallC s₁ env'.locals (bindL env'.kindOf (names.zip us) fun _ => none) env'.cells (bindC env'.kindOf (names.zip us) fun _ => none) s')
    (h:∀ B':Base,B'.φ0 = φ → WS prog w Amb A' B' env' (mu0 names ys rest) σ body (fun f μ' σ' => ∃ y,(f = .ret y ∨ (f = .next ∧ y = .none)) ∧ R y σ')) :
    wpAny (model prog w) A' (execs body env') (fun f s'' => VP Amb B env μ P R (match f with | .ret v => v | _ => .none) s'') nofail s':=by
  have S':=S.enter (env':=env') (names:=names) (rest:=rest) hl rfl hL x (fun n v hm hn => bindL_get hnd hm hn) (fun n v hm hn => bindC_get hnd hm hn) hfn hk hc
  refine wpAny_mono (h _ rfl [] s' ⟨F,φ,_,[],S'⟩) (fun f s' q => ?_) fun _ _ x => x.elim
  cases f with
  | ret v =>
    obtain ⟨y,μ',σ',⟨F',φ',m',ow',T⟩,y',hy,r⟩:=q
    rcases hy with hy | ⟨hy,_⟩
    · cases hy
      refine ⟨y,σ',⟨F',φ',m,ow,S.leave T (fun u z hu => ?_) fun b o mi hb => ?_⟩,r⟩
      · rcases List.mem_cons.mp hu with e | hu
        · cases e; exact .inr (by simp)
        · exact .inl (by simp [hu])
      · rcases List.mem_cons.mp hb with e | hb
        · cases e
        · simp [hb]
    · cases hy
  | next =>
    obtain ⟨μ',σ',⟨F',φ',m',ow',T⟩,y',hy,r⟩:=q
    rcases hy with hy | ⟨_,hy⟩
    · cases hy
    · subst hy
      refine ⟨.none,σ',⟨F',φ',m,ow,(S.leave (P'':=P) T (fun u z hu => .inl (by simp [hu])) fun b o mi hb => by simp [hb]).add .none⟩,r⟩
  | brk =>
    obtain ⟨μ',σ',_,y',hy,r⟩:=q
    rcases hy with hy | ⟨hy,_⟩ <;> cases hy
  | cont =>
    obtain ⟨μ',σ',_,y',hy,r⟩:=q
    rcases hy with hy | ⟨hy,_⟩ <;> cases hy
theorem fn_core {s s₁:Shared} {F₀ F:Fz} {φ:List Addr} {m:Str → Option Value} {ow:List (Str × Addr)} {P:List Pend} {a:Addr} {fd:FuncData} {body:List Stmt} {us:List Value} {ys:List V} {names rest:List Str} {k:Nat} {args:Args} {R:V → Sg → Prop} (H:AmbOk prog w Amb mg mb) (K:FnIs Amb a fd body) (hr:Room A (k + 1)) (hgen:fd.scope.isGenerator = false)
    (hA:Amb F₀) (hs:∀ a o,F₀ a = some o → s.heap.get? a = some o) (hs₁:∀ a o,F₀ a = some o → s₁.heap.get? a = some o) (S:StF Amb B env μ σ (rels us ys ++ P) s₁ F φ m ow) (hl:us.length = ys.length) (hnd:names.Nodup)
    (hb:∀ (Q:List (Str × Value) → Shared → Prop) (E:Value → Shared → Prop),Q (names.zip us) s₁ → wpAny (model prog w) A.in1 (bindArgs fd args) Q E s)
    (hk:∀ n ∈ names,fd.scope.names.lookup n = some .local ∨ fd.scope.names.lookup n = some .cell)
    (h:∀ (A':Around) (B':Base) (env':Env),Room A' k → EnvOk env' → env'.scope = fd.scope → env'.func.isSome = true → WS prog w Amb A' B' env' (mu0 names ys rest) σ body (fun f μ' σ' => ∃ y,(f = .ret y ∨ (f = .next ∧ y = .none)) ∧ R y σ')) :
    codeAny (model prog w) A (.call (.ref a) args) (fun r s' => match r with | .ok (.ret v) => VP Amb B env μ P R v s' | .ok _ => False | .error e => nofail e s') s:=by
  refine fn_raw H K hr hgen hA hs hs₁ hb hk fun env' s' he E' hr' x hc => ?_
  exact frame_run S hl hnd (by rw [he]; rfl) (by rw [he]; rfl) (fun n hn => by rw [he]; exact hk n hn) hc x fun B' _ => h _ B' env' hr' E' (by rw [he]; rfl) (by rw [he]; rfl)
theorem WC.fn {a:Addr} {fd:FuncData} {body:List Stmt} {ys:List V} {names rest:List Str} {k:Nat} {R:V → Sg → Prop} (H:AmbOk prog w Amb mg mb) (K:FnIs Amb a fd body) (hr:Room A (k + 1)) (hgen:fd.scope.isGenerator = false)
    (hlen:names.length = ys.length) (hnd:names.Nodup) (hbind:∀ vs:List Value,vs.length = names.length → bindArgs fd ⟨vs,[]⟩ = pure (names.zip vs))
    (hk:∀ n ∈ names,fd.scope.names.lookup n = some .local ∨ fd.scope.names.lookup n = some .cell)
    (h:∀ (A':Around) (B':Base) (env':Env),Room A' k → EnvOk env' → env'.scope = fd.scope → env'.func.isSome = true → WS prog w Amb A' B' env' (mu0 names ys rest) σ body (fun f μ' σ' => ∃ y,(f = .ret y ∨ (f = .next ∧ y = .none)) ∧ R y σ')) :
    WC prog w Amb A B env μ σ (.ref a) ys R:=by
  rintro P vs s hl ⟨F,φ,m,ow,S⟩
  exact wpAny_call (fn_core H K hr hgen S.amb S.sub S.sub S hl hnd (fun Q E q => by rw [hbind vs (by rw [hl,hlen])]; exact wpAny_pure q) hk h)
end
noncomputable def relabelS (scope sc:Scope):Scope:={ scope with names:=scope.names.map fun (n,k) => if (k == .free && sc.kind == .function && sc.names.lookup n == some .cell) then (n,.cell) else (n,k) }
theorem relabel_eq (scope:Scope) (env:Env):relabel scope env = relabelS scope env.scope:=rfl
noncomputable def compMu (names:List (Str × NameKind)) (μ:Mu):Mu:=names.map fun p => (p.1,if p.2 = .free then mget μ p.1 else none)
theorem mget_compMu {μ:Mu} {x:Str} {lv:LV}:∀ {names:List (Str × NameKind)},mget (compMu names μ) x = some lv → (x,NameKind.free) ∈ names ∧ mget μ x = some lv
  | [],h => by cases h
  | (n,k) :: r,h => by
    simp only [compMu,List.map_cons,mget] at h
    set_option tactic.hygienic true in split at h
    · rename_i e
      subst e
      set_option tactic.hygienic true in split at h
      · rename_i e; subst e; exact ⟨List.mem_cons_self ..,h⟩
      · cases h
    · obtain ⟨a,b⟩:=mget_compMu (names:=r) h
      exact ⟨List.mem_cons_of_mem _ a,b⟩
theorem closure_go (env:Env) (f:Str × NameKind → List (Str × Addr) → Sem (ForInStep (List (Str × Addr))))
    (hf:∀ n k c,f (n,k) c = if k == .free then (do let a ← cellOf env n; pure (.yield ((n,a) :: c))) else pure (.yield c)) :
    ∀ (names:List (Str × NameKind)) (acc:List (Str × Addr)),(∀ x,(x,NameKind.free) ∈ names → ∃ c,env.cells.lookup x = some c) →
    ∃ cl,forIn names acc f = pure cl ∧ ∀ x,((x,NameKind.free) ∈ names → cl.lookup x = env.cells.lookup x) ∧ ((x,NameKind.free) ∉ names → cl.lookup x = acc.lookup x)
  | [],acc,_ => ⟨acc,by rw [List.forIn_nil],fun x => ⟨(fun h => nomatch h),(fun _ => rfl)⟩⟩
  | (n,k) :: r,acc,h => by
    have hr:∀ x,(x,NameKind.free) ∈ r → ∃ c,env.cells.lookup x = some c:=fun x hx => h x (List.mem_cons_of_mem _ hx)
    by_cases hk:k = .free
    · subst hk
      obtain ⟨c,hc⟩:=h n (List.mem_cons_self ..)
      obtain ⟨cl,e,q⟩:=closure_go env f hf r ((n,c) :: acc) hr
      refine ⟨cl,?_,fun x => ⟨(fun hx => ?_),(fun hx => ?_)⟩⟩
      · rw [List.forIn_cons,hf]
        have:cellOf env n = pure c:=by unfold cellOf; rw [hc]
        rw [this]
        exact e
      · by_cases hm:(x,NameKind.free) ∈ r
        · exact (q x).1 hm
        · rcases List.mem_cons.mp hx with e' | e'
          · cases e'
            rw [(q _).2 hm]
            simp [List.lookup,hc]
          · exact absurd e' hm
      · have h1:(x,NameKind.free) ∉ r:=fun hm => hx (List.mem_cons_of_mem _ hm)
        have h2:x ≠ n:=fun e => hx (e ▸ List.mem_cons_self ..)
        rw [(q x).2 h1]
        simp [List.lookup,beq_eq_false_iff_ne.mpr h2]
    · obtain ⟨cl,e,q⟩:=closure_go env f hf r acc hr
      refine ⟨cl,?_,fun x => ⟨(fun hx => ?_),(fun hx => ?_)⟩⟩
      · rw [List.forIn_cons,hf]
        have:(k == NameKind.free) = false:=by simpa using hk
        rw [this]
        exact e
      · rcases List.mem_cons.mp hx with e' | e'
        · cases e'; exact absurd rfl hk
        · exact (q x).1 e'
      · exact (q x).2 (fun hm => hx (List.mem_cons_of_mem _ hm))
theorem closure_of {scope:Scope} {env:Env} (h:∀ x,(x,NameKind.free) ∈ scope.names → ∃ c,env.cells.lookup x = some c) :
    ∃ cl,closureFor scope env = pure cl ∧ ∀ x,(x,NameKind.free) ∈ scope.names → cl.lookup x = env.cells.lookup x:=by
  obtain ⟨cl,e,q⟩:=closure_go env (fun x cs => match x with
    | (name,kind) => if (kind == NameKind.free) = true then (do let c ← cellOf env name; pure (ForInStep.yield ((name,c) :: cs))) else pure (ForInStep.yield cs)) (fun n k c => rfl) scope.names [] h
  refine ⟨cl,?_,fun x hx => (q x).1 hx⟩
  unfold closureFor
  show (forIn scope.names [] (fun x cs => match x with
    | (name,kind) => if (kind == NameKind.free) = true then (do let c ← cellOf env name; pure (ForInStep.yield ((name,c) :: cs))) else pure (ForInStep.yield cs)) >>= fun cs => pure cs) = _
  rw [e]; rfl
section
variable {prog:Program} {w:World} {Amb:Fz → Prop} {A:Around} {B:Base} {env env':Env} {μ μ':Mu} {σ σ':Sg} {mg mb:Str → Option Value}
variable {P P':List Pend} {s s' s₁:Shared} {F F':Fz} {φ φ':List Addr} {m m':Str → Option Value} {ow ow':List (Str × Addr)}
theorem StF.enterComp {scope:Scope} {cl:List (Str × Addr)} {C:Addr} {m':Str → Option Value} (S:StF Amb B env μ σ P s F φ m ow) (hfn:env.func.isSome = true) (G:Grow s s₁) (hC:s.heap.get? C = none) (hns:s₁.heap.Ns C m')
    (hcl:∀ x,(x,NameKind.free) ∈ scope.names → cl.lookup x = env.cells.lookup x) (hfree:∀ x,(x,NameKind.free) ∈ scope.names → env.kindOf x = some .cell)
    (hloc:∀ x,(x,NameKind.free) ∈ scope.names → scope.names.lookup x = some .free) :
    StF Amb ⟨s.heap,F,φ,s.os,s.gens⟩ (compEnvC scope cl C env) (compMu scope.names μ) σ [] s₁ F φ m' []:=by
  obtain ⟨f1,f2,f3,f4,f5,f6⟩:=S.free hC
  have T:=S.grow G
  have hrl:∀ {names:List (Str × NameKind)} {x:Str},names.lookup x = some .free → (names.map fun (n,k) => if (k == NameKind.free && env.scope.kind == .function && env.kindOf n == some .cell) then (n,NameKind.cell) else (n,k)).lookup x ≠ some .local:=by
    intro names
    induction names with
    | nil => intro x h; simp at h
    | cons q r ih =>
      obtain ⟨n,k⟩:=q
      intro x h
      show List.lookup x ((if (k == NameKind.free && env.scope.kind == .function && env.kindOf n == some .cell) = true then (n,NameKind.cell) else (n,k)) :: _) ≠ _
      cases hx:x == n with
      | true =>
        simp only [List.lookup_cons,hx] at h
        cases h
        split <;> simp [List.lookup_cons,hx]
      | false =>
        simp only [List.lookup_cons,hx] at h
        split <;> (simp only [List.lookup_cons,hx]; exact ih h)
  exact {
    amb:=S.amb,sub:=T.sub,ext:=fun _ _ h => h,new:=fun _ _ h => .inl h,phi:=fun _ _ h => h,phin:=fun _ h => .inl h
    phi0:=fun l hl => by
      obtain ⟨i,hi,e⟩:=List.getElem_of_mem hl
      obtain ⟨es,he⟩:∃ es,σ[i]? = some es:=⟨_,List.getElem?_eq_getElem (S.len ▸ hi)⟩
      obtain ⟨_,q,_⟩:=S.sto i l es (by rw [List.getElem?_eq_getElem hi,e]) he
      exact ⟨_,q⟩
    keep:=fun b o h _ => G.keep _ _ h
    os:=G.os,gens:=T.gens,gkeep:=G.gens.keep,nodup:=S.nodup,phiF:=S.phiF,len:=S.len,sto:=T.sto
    ns:=hns
    locF:=⟨f1,f2,hC⟩
    loc:=fun x lv h1 h2 => absurd h2 (hrl (hloc x (mget_compMu h1).1))
    cel:=fun x lv h1 h2 h3 => nomatch h3
    fre:=fun x lv h1 h2 => by
      obtain ⟨hx,hm⟩:=mget_compMu h1
      obtain ⟨c,v,a,b,d⟩:=S.cel x lv hm (hfree x hx) hfn
      exact ⟨c,v,(hcl x hx).trans a,b,(S.cells c ⟨hfn,x,hfree x hx,a⟩).2.2.1,d⟩
    cells:=fun c h => nomatch h.1
    own:=fun n a h => nomatch h
    ownk:=fun n y a h => nomatch h
    ownf:=fun n a b h => nomatch h
    pend:=fun v y h => nomatch h
    held:=fun a o mi h => nomatch h }
variable (prog w Amb A) in
noncomputable def WTs (B:Base) (env:Env) (μ:Mu) (σ:Sg) (ifs:List PySem.Expr) (R:Bool → Sg → Prop):Prop :=
  ∀ P s,St Amb B env μ σ P s → wpAny (model prog w) A (forIn ifs true fun c r => if r = true then do let ok ← isTrue c env (eval c env); pure (ForInStep.yield ok) else pure (ForInStep.yield r))
    (BP Amb B env μ P R) nofail s
theorem WTs.nil {R:Bool → Sg → Prop} (h:R true σ):WTs prog w Amb A B env μ σ [] R:=fun P s S => by
  rw [List.forIn_nil]; exact wpAny_pure ⟨σ,S,h⟩
theorem WTs.one {c:PySem.Expr} {R:Bool → Sg → Prop} (h:WB prog w Amb A B env μ σ c R):WTs prog w Amb A B env μ σ [c] R:=fun P s S => by
  rw [List.forIn_cons,if_pos rfl]
  refine wpAny_bind (wpAny_bind (wpAny_mono (h P s S) (fun b s' qq => ?_) fun _ _ x => x))
  obtain ⟨σ',S',r⟩:=qq
  refine wpAny_pure ?_
  show wpAny (model prog w) A (forIn [] b _) _ _ s'
  rw [List.forIn_nil]
  exact wpAny_pure ⟨σ',S',r⟩
inductive CompI (prog:Program) (w:World) (Amb:Fz → Prop) (A:Around) (B':Base) (env':Env) (μ0:Mu) (elt tgt:PySem.Expr) (ifs:List PySem.Expr) (y:V) (xs:List V) (σ1:Sg) (R:List V → Sg → Prop):Prop
  | mk (J:Nat → Mu → Sg → List V → Prop) (J0:J 0 μ0 σ1 []) (Jy:∀ i μ' σ' acc,J i μ' σ' acc → iterS σ' y = some xs)
      (Jt:∀ i x μ' σ' acc,xs[i]? = some x → J i μ' σ' acc → AT prog w Amb A B' env' tgt x μ' σ' (fun μ2 => WTs prog w Amb A B' env' μ2 σ' ifs (fun b σ3 =>
          if b = true then WE prog w Amb A B' env' μ2 σ3 elt (fun z σ4 => J (i + 1) μ2 σ4 (acc ++ [z])) else J (i + 1) μ2 σ3 acc)))
      (Je:∀ μ' σ' acc,J xs.length μ' σ' acc → R acc σ')
noncomputable def CompJ (prog:Program) (w:World) (Amb:Fz → Prop) (A:Around) (env:Env) (μ:Mu) (elt tgt:PySem.Expr) (ifs:List PySem.Expr) (scope:Scope) (y:V) (xs:List V) (σ1:Sg) (R:List V → Sg → Prop):Prop :=
  ∀ (B':Base) (env':Env),EnvOk env' → env'.scope = relabelS scope env.scope → env'.func = Option.none →
      CompI prog w Amb A B' env' (compMu scope.names μ) elt tgt ifs y xs σ1 R
theorem compLoop_any {elt target iter:PySem.Expr} {ifs:List PySem.Expr} {scope:Scope} {pos:Pos} {it acc:Value} {R:Result → Shared → Prop} (I:Nat → Shared → Prop)
    (turn:∀ n s,I n s → wpAny (model prog w) A (pyNext it) (fun r s₁ => match r with
      | none => R (.ok .next) s₁
      | some v => wpAny (model prog w) A (letOwnedTupleGo target it v) (fun _ s₁ => wpAny (model prog w) A (assign target env v) (fun _ s₂ =>
          wpAny (model prog w) A (forIn ifs true fun c r => if r = true then do let ok ← isTrue c env (eval c env); pure (ForInStep.yield ok) else pure (ForInStep.yield r)) (fun ok s₃ =>
            if ok = true then wpAny (model prog w) A (eval elt env) (fun x s₄ =>
              wpAny (model prog w) A (call (.builtin "list.append") [acc,x]) (fun _ s₅ => ∃ m,m < n ∧ I m s₅) nofail s₄) nofail s₃
            else ∃ m,m < n ∧ I m s₃) nofail s₂) nofail s₁) nofail s₁) nofail s)
    (n:Nat) (h:I n s) :
    codeAny (model prog w) A (.compLoop (.ListComp elt [⟨target,iter,ifs,0⟩] scope pos) 0 it acc env) R s:=by
  refine codeAny_loop rfl I (fun n s hI => ?_) n h
  show wpAny _ A ((compTurn (.ListComp elt [⟨target,iter,ifs,0⟩] scope pos) 0 it acc env).onRaise (fun x => do noteFrame x env; theTreesLotGoes x)) _ _ s
  refine wpAny_noted ?_
  rw [compTurn_list]
  refine wpAny_bind (wpAny_standAt (wpAny_bind (wpAny_mono (turn n s hI) (fun r s₁ h₁ => ?_) fun _ _ h' => h'.elim)))
  cases r with
  | none => exact wpAny_pure h₁
  | some v =>
    refine wpAny_bind (wpAny_mono h₁ (fun _ s₁ h₁ => ?_) fun _ _ h' => h'.elim)
    refine wpAny_bind (wpAny_mono h₁ (fun _ s₂ h₂ => wpAny_bind (wpAny_mono h₂ (fun ok s₃ h₃ => ?_) fun _ _ h' => h'.elim)) fun _ _ h' => h'.elim)
    cases ok with
    | false => exact wpAny_pure ⟨rfl,h₃⟩
    | true =>
      exact wpAny_bind (wpAny_bind (wpAny_mono h₃ (fun x s₄ h₄ => wpAny_bind (wpAny_mono h₄ (fun _ s₅ h₅ => wpAny_pure (wpAny_pure ⟨rfl,h₅⟩)) fun _ _ h' => h'.elim)) fun _ _ h' => h'.elim))
inductive LInv (Amb:Fz → Prop) (B:Base) (env:Env) (J:Nat → Mu → Sg → List V → Prop) (K:Nat → Heap → Prop) (I D:Addr) (v:Value) (y:V) (N:Nat) (k:Nat) (s:Shared):Prop
  | mk (i:Nat) (μ:Mu) (σ:Sg) (acc:List V) (us:Array Value) (z:Nat) (oI:Obj) (hk:k + i = N) (hl:us.size = acc.length) (hle:acc.length ≤ i) (hJ:J i μ σ acc) (hK:K i s.heap)
      (S:St Amb B env μ σ (.held I oI true :: .held D (listO us z) true :: .rel v y :: rels us.toList acc) s)
theorem comp_loop {elt tgt it:PySem.Expr} {ifs:List PySem.Expr} {scope:Scope} {p:Pos} {I D:Addr} {Kt:Nat → Heap → Prop} {v:Value} {y:V} {xs:List V} {RR:List V → Sg → Prop} {Res:Result → Shared → Prop} {oI:Obj} {nD:Nat}
    (T:Itr prog w A I xs.length Kt v y) (hID:I ≠ D) (hz:xs.length ≤ sizeLine) (hb:CompI prog w Amb A B env μ elt tgt ifs y xs σ RR) (hst:Kt 0 s.heap)
    (S:StF Amb B env μ σ (.held I oI true :: .held D (listO #[] nD) true :: [.rel v y]) s F φ m ow)
    (fin:∀ s' μ' σ' acc us n F' φ' m' ow',us.size = acc.length → RR acc σ' → StF Amb B env μ' σ' (.held D (listO us n) true :: .rel v y :: rels us.toList acc) s' F' φ' m' ow' → Res (.ok .next) s') :
    codeAny (model prog w) A (.compLoop (.ListComp elt [⟨tgt,it,ifs,0⟩] scope p) 0 (.ref I) (.ref D) env) Res s:=by
  obtain ⟨J,J0,Jy,Jt,Je⟩:=hb
  refine compLoop_any (LInv Amb B env J Kt I D v y xs.length) ?_ xs.length ⟨0,μ,σ,[],#[],nD,oI,Nat.add_zero _,rfl,Nat.le_refl _,J0,hst,F,φ,m,ow,S⟩
  rintro k s' ⟨i,μ',σ',acc,us,n,oI',hk,hlen,hle,hJ,hst',F',φ',m',ow',S'⟩
  by_cases hi:i < xs.length
  · refine T.item S' (S'.pend v y mem3) (Jy i μ' σ' acc hJ) rfl hi hst' fun u x h' tk hx rx hst2 hk2 => ?_
    obtain ⟨o2,T2,ho2,hc2,hT2⟩:=T.alive _ _ hst2
    refine letOwned_quiet ho2 hc2 hT2 (wpAny_mono (Jt i x μ' σ' acc hx hJ _ _ u ⟨F',φ',m',ow',(S'.turnIt (s':={ s' with heap:=h',toks:=tk }) (nin_held hID (nin_rel fun _ _ => held_rels)) hk2 rfl .rfl ho2).add rx⟩) (fun _ s3 qq => ?_) fun _ _ x => x.elim)
    obtain ⟨μ3,S5,hb⟩:=qq
    refine wpAny_mono (hb _ s3 S5) (fun ok s4 qq => ?_) fun _ _ x => x.elim
    obtain ⟨σ4,S6,h6⟩:=qq
    have again:∀ s5 σ5 acc5 us5 n5,St Amb B env μ3 σ5 (.held I o2 true :: .held D (listO us5 n5) true :: .rel v y :: rels us5.toList acc5) s5 → us5.size = acc5.length → acc5.length ≤ i + 1 → J (i + 1) μ3 σ5 acc5 →
        ∃ k',k' < k ∧ LInv Amb B env J Kt I D v y xs.length k' s5:=by
      rintro s5 σ5 acc5 us5 n5 ⟨F5,φ5,m5,ow5,S7⟩ h1 h2 h3
      exact ⟨k - 1,(turn_ar hk hi).1,i + 1,μ3,σ5,acc5,us5,n5,o2,(turn_ar hk hi).2,h1,h2,h3,T.frame _ _ _ hst2 fun o ho => Option.some.inj (ho2.symm.trans ho) ▸ (S7.held _ _ true (.head _)).1,F5,φ5,m5,ow5,S7⟩
    cases ok with
    | false => exact again s4 σ4 acc us n S6 hlen (Nat.le_succ_of_le hle) h6
    | true =>
      refine wpAny_mono (h6 _ s4 S6) (fun t s5 qq => ?_) fun _ _ x => x.elim
      obtain ⟨z,σ5,⟨F7,φ7,m7,ow7,S7⟩,h7⟩:=qq
      refine wpAny_list_append_plain ⟨n,(S7.held D (listO us n) true mem3).1⟩ (fun h8 qq hs8 => ?_) (by lia)
      obtain ⟨n8,hl8⟩:=qq
      exact again { s5 with heap:=h8 } σ5 (acc ++ [z]) (us.push t) n8 ⟨F7,φ7,m7,ow7,((S7.drop subs1).turnIt (s':={ s5 with heap:=h8 })
        (nin_rel (nin_held hID.symm (nin_rel fun _ _ => held_rels))) (fun b o hb e => hs8.extBut b o (fun e' => hb (e' ▸ List.mem_singleton_self _)) e) rfl .rfl hl8).drop (by rw [rels_push hlen]; exact subs2)⟩ (by simp [hlen]) (by simp; lia) h7
  · obtain rfl:i = xs.length:=end_at hk hi
    exact T.done S' (S'.pend v y mem3) (Jy _ μ' σ' acc hJ) rfl hst' fun h' tk hk2 =>
      fin _ μ' σ' acc us n F' φ' m' ow' hlen (Je _ _ _ hJ) (S'.turnGone (s':={ s' with heap:=h',toks:=tk }) (nin_held hID (nin_rel fun _ _ => held_rels)) hk2 rfl .rfl)
theorem listcomp_core {elt tgt it:PySem.Expr} {ifs:List PySem.Expr} {scope:Scope} {p:Pos} {use:Option (Value → Sem Unit)} {Q:Value → Shared → Prop} {s0:Shared} (H:AmbOk prog w Amb mg mb) (K:EnvOk env) (hfn:env.func.isSome = true) (hh:A.handled = Option.none)
    (hcell:∀ y ∈ scope.names,y.2 ≠ .cell) (hkind:scope.kind = .function) (hnames:∀ y ∈ scope.names,scope.names.lookup y.1 = some y.2)
    (hfree:∀ x,(x,NameKind.free) ∈ scope.names → env.kindOf x = some .cell)
    (hs:∀ x:Value,foldedSetIterable it env x = pure x) (h0:St Amb B env μ σ P s0) {R:List V → Sg → Prop}
    (h:WE prog w Amb A B env μ σ it (fun y σ1 => ∃ xs,iterS σ1 y = some xs ∧ iterFits y ∧ xs.length ≤ sizeLine ∧ CompJ prog w Amb A env μ elt tgt ifs scope y xs σ1 R))
    (hfin:∀ (s':Shared) (F':Fz) (φ':List Addr) (m':Str → Option Value) (ow':List (Str × Addr)) (D C:Addr) (us:Array Value) (n:Nat) (oC:Obj) (mC:Str → Option Value) (acc:List V) (σ':Sg),D ≠ C → (∀ o mi,Pend.held D o mi ∉ P) → (∀ o mi,Pend.held C o mi ∉ P) → us.size = acc.length → s'.heap.Ns C mC →
      StF Amb B env μ σ' (.held C oC true :: .held D (listO us n) true :: (rels us.toList acc ++ P)) s' F' φ' m' ow' → R acc σ' → ∀ r,compPost (model prog w) A nofail use Q (.ref D) C (.ok r) s') :
    wpAny (model prog w) A (comprehension (.ListComp elt [⟨tgt,it,ifs,0⟩] scope p) scope env (firstIterPos [⟨tgt,it,ifs,0⟩] p) (newList []) false (eval it env) use) Q nofail s0:=by
  obtain ⟨F0,φ0,m0,ow0,S0⟩:=h0
  obtain ⟨cl,hclos,hcl⟩:=closure_of (scope:=scope) (env:=env) fun x hx => K.has x (hfree x hx)
  refine wpAny_comprehension_free (use:=use) rfl hs hclos hkind (fun y hy e => (hnames y hy).trans (by rw [e])) (wpAny_mono (h P s0 ⟨F0,φ0,m0,ow0,S0⟩) (fun v s1 qq => ?_) fun _ _ x => x.elim)
  obtain ⟨y,σ1,⟨F,φ,m,ow,S1⟩,xs,hy,hf,hsz,hb⟩:=qq
  refine iter_of hh hy hf S1 fun s2 I Kt oI hn hG T hst hI S2 => ?_
  refine wpAny_newObj_type (wpAny_newFunctionEnv hcell (by intro y hy; simp at hy) (fun h₁ hns₁ hsb₁ => ?_) hkind)
  dsimp only at hns₁ hsb₁ ⊢
  generalize hH2:s2.heap.push { cls:=.type "list",dict:=Option.none,data:=.seq ([]:List Value).toArray } = H2 at hns₁ hsb₁ ⊢
  have hCz:H2.objs.size = s2.heap.objs.size + 1:=by rw [← hH2,Heap.size_push]
  have fresh2:∀ a,s2.heap.objs.size ≤ a → s2.heap.get? a = Option.none:=fun a ha => by
    cases e:s2.heap.get? a with
    | none => rfl
    | some o' => exact absurd (Heap.lt_size e) (Nat.not_lt.mpr ha)
  have fresh1:∀ a,s2.heap.objs.size ≤ a → s1.heap.get? a = Option.none:=fun a ha => by
    cases e:s1.heap.get? a with
    | none => rfl
    | some o' => have:=hG.keep _ _ e; rw [fresh2 a ha] at this; cases this
  have hDC:s2.heap.objs.size ≠ H2.objs.size:=by lia
  have old:∀ b o,s2.heap.get? b = some o → h₁.get? b = some o:=fun b o e =>
    hsb₁.extBut b o (show b ≠ H2.objs.size from Nat.ne_of_lt (by rw [hCz]; exact Nat.lt_succ_of_lt (Heap.lt_size e))) (Heap.get?_push_of_some _ (hH2 ▸ Heap.get?_push_of_some _ e))
  have hD:h₁.get? s2.heap.objs.size = some (listO #[] 0):=hsb₁.extBut _ _ hDC (Heap.get?_push_of_some _ (hH2 ▸ Heap.get?_push_size _ rfl))
  have hID:I ≠ s2.heap.objs.size:=fun e => by rw [e,fresh2 _ (Nat.le_refl _)] at hI; cases hI
  have hIC:I ≠ H2.objs.size:=fun e => by rw [e,fresh2 H2.objs.size (by lia)] at hI; cases hI
  have G4:Grow s1 { s2 with heap:=h₁,toks:=s2.toks + ([]:List (Str × Value)).length }:=⟨fun b o e => old b o (hG.keep b o e),hG.os,hG.gens⟩
  have K':EnvOk (compEnvC scope cl H2.objs.size env):=by
    refine ⟨hkind,K.globals,K.builtins,fun x hx => ?_,fun h => nomatch h⟩
    have key:∀ {names:List (Str × NameKind)},(names.map fun (n,k) => if (k == NameKind.free && env.scope.kind == .function && env.kindOf n == some .cell) then (n,NameKind.cell) else (n,k)).lookup x = some .cell →
        (∀ y ∈ names,y.2 ≠ NameKind.cell) → (x,NameKind.free) ∈ names:=by
      intro names
      induction names with
      | nil => intro h; simp at h
      | cons q r ih =>
        obtain ⟨n,k⟩:=q
        intro h hc
        change List.lookup x ((if (k == NameKind.free && env.scope.kind == .function && env.kindOf n == some .cell) = true then (n,NameKind.cell) else (n,k)) :: _) = _ at h
        have hr:=fun y hy => hc y (List.mem_cons_of_mem _ hy)
        cases hx:x == n with
        | true =>
          have:x = n:=beq_iff_eq.mp hx
          subst this
          set_option tactic.hygienic true in split at h
          · rename_i hk
            simp only [Bool.and_eq_true,beq_iff_eq] at hk
            rw [hk.1.1]; exact List.mem_cons_self ..
          · simp only [List.lookup_cons,hx] at h
            cases h
            exact absurd rfl (hc _ (List.mem_cons_self ..))
        | false =>
          split at h <;> (simp only [List.lookup_cons,hx] at h; exact List.mem_cons_of_mem _ (ih h hr))
    have hm:=key hx hcell
    obtain ⟨c,hc⟩:=K.has x (hfree x hm)
    exact ⟨c,(hcl x hm).trans hc⟩
  have E0:=S1.enterComp (scope:=scope) (cl:=cl) (C:=H2.objs.size) hfn G4 (fresh1 _ (by lia)) hns₁ hcl hfree (fun x hx => hnames _ hx)
  have hb:=hb ⟨s1.heap,F,φ,s1.os,s1.gens⟩ (compEnvC scope cl H2.objs.size env) K' rfl rfl
  have hst1:Kt 0 h₁:=T.frame _ _ _ hst fun o e => old _ o e
  have notOwn:∀ a,¬ Env.isOwnCell (compEnvC scope cl H2.objs.size env) a:=fun a h => nomatch h.1
  have hi2:=(S1.free hn).2.1
  have hi1:=(S1.free hn).1
  generalize hDD:s2.heap.objs.size = D at *
  have c:=S1.free (fresh1 H2.objs.size (by lia))
  have d:=S1.free (fresh1 D (by lia))
  have E2:=(((E0.hold (a:=D) (o:=listO #[] 0) (mi:=true) hD d.2.1 hDC (notOwn _) (fun x h => nomatch h) fun _ => ⟨d.1,fresh1 _ (by lia)⟩).hold (a:=I) (o:=oI) (mi:=true) (old _ _ hI) hi2 hIC (notOwn _) (fun x h => nomatch h)
    fun _ => ⟨hi1,hn⟩).add (S1.pend v y (.head _)))
  have held_no:∀ a,D ≤ a → ∀ o mi,Pend.held a o mi ∉ P:=fun a ha o mi hm => by
    have:=(S1.held _ o mi (List.mem_cons_of_mem _ hm)).1
    rw [fresh1 a ha] at this; cases this
  have loop:=comp_loop (elt:=elt) (tgt:=tgt) (it:=it) (ifs:=ifs) (scope:=scope) (p:=p) (Res:=compPost (model prog w) A nofail use Q (.ref D) H2.objs.size) T hID hsz hb hst1 (E2.drop subs3) fun s' μ' σ' acc us n F' φ' m' ow' hlen hR S3 => by
    obtain ⟨oC,esC,epC,hC,restC⟩:=S3.ns
    have hd:=S3.held D (listO us n) true (.head _)
    have S7:=S1.leave (P'':=rels us.toList acc ++ P) S3 (fun u z hu => (List.mem_append.mp hu).elim (fun e => .inr (.tail _ (.tail _ e))) fun hu => .inl (.tail _ hu)) (fun b o mi hb => (List.mem_append.mp hb).elim (fun e => absurd e held_rels) fun hb => .tail _ hb)
    exact hfin s' F' φ' m ow D H2.objs.size us n oC m' acc σ' hDC (held_no _ (by lia)) (held_no _ (by lia)) hlen ⟨oC,esC,epC,hC,restC⟩ ((S7.hold (mi:=true) hd.1 hd.2.1 d.2.2.1 d.2.2.2.1 d.2.2.2.2.1 fun _ => ⟨(hd.2.2.2.2.2 rfl).1,d.2.2.2.2.2⟩).hold (mi:=true) hC S3.locF.2.1 c.2.2.1 c.2.2.2.1 c.2.2.2.2.1 fun _ => ⟨S3.locF.1,c.2.2.2.2.2⟩) hR _
  exact codeAny_compStart_list loop (T.self hst1 loop)
theorem relL_of:∀ {vs:List Value} {ys:List V},vs.length = ys.length → (∀ v y,(v,y) ∈ vs.zip ys → Rel F φ v y) → RelL F φ vs ys
  | [],[],_,_ => .nil
  | [],_ :: _,h,_ => by cases h
  | _ :: _,[],h,_ => by cases h
  | v :: vs,y :: ys,h,hr => .cons (hr v y (by simp)) (relL_of (by simpa using h) fun v y h => hr v y (by simp [h]))
theorem StF.relsL {vs:List Value} {ys:List V} (S:StF Amb B env μ σ (rels vs ys ++ P) s F φ m ow) (hl:vs.length = ys.length):RelL F φ vs ys :=
  relL_of hl fun v y h => S.pend v y (List.mem_append_left _ (List.mem_map.mpr ⟨(v,y),h,rfl⟩))
theorem StF.dropRels {vs:List Value} {ys:List V} (S:StF Amb B env μ σ (rels vs ys ++ P) s F φ m ow):StF Amb B env μ σ P s F φ m ow:=S.drop fun q hq => List.mem_append_right _ hq
theorem StF.freezeList {D:Addr} {us:Array Value} {n:Nat} {acc:List V} (H:AmbOk prog w Amb mg mb) (S:StF Amb B env μ σ (.held D (listO us n) true :: (rels us.toList acc ++ P)) s F φ m ow) (hl:us.size = acc.length) (hP:∀ o mi,Pend.held D o mi ∉ P) :
    ∃ F',StF Amb B env μ σ (.rel (.ref D) (.list acc) :: P) s F' φ m ow:=by
  have S5:=S.freezeMine H.mono (fun o mi hm => by
    rcases List.mem_append.mp hm with e | e
    · exact held_rels e
    · exact hP o mi e)
  exact ⟨_,S5.dropRels.add (.list updF_self (S5.relsL (by simp [hl])))⟩
theorem WE.listcomp {elt tgt it:PySem.Expr} {ifs:List PySem.Expr} {scope:Scope} {p:Pos} {R:V → Sg → Prop} (H:AmbOk prog w Amb mg mb) (K:EnvOk env) (hfn:env.func.isSome = true) (hh:A.handled = Option.none)
    (hcell:∀ y ∈ scope.names,y.2 ≠ .cell) (hkind:scope.kind = .function) (hnames:∀ y ∈ scope.names,scope.names.lookup y.1 = some y.2)
    (hfree:∀ x,(x,NameKind.free) ∈ scope.names → env.kindOf x = some .cell)
    (h:WE prog w Amb A B env μ σ it (fun y σ1 => ∃ xs,iterS σ1 y = some xs ∧ iterFits y ∧ xs.length ≤ sizeLine ∧ CompJ prog w Amb A env μ elt tgt ifs scope y xs σ1 (fun acc σ' => R (.list acc) σ')))
    (hs:∀ x:Value,foldedSetIterable it env x = pure x:=by intro x; rfl):WE prog w Amb A B env μ σ (.ListComp elt [⟨tgt,it,ifs,0⟩] scope p) R:=by
  rintro P s0 S0
  rw [eval_ListComp]
  refine listcomp_core (use:=Option.none) H K hfn hh hcell hkind hnames hfree hs S0 h fun s' F' φ' m' ow' D C us n oC mC acc σ' hDC hD hC hl hns S9 hR r => ?_
  refine ⟨mC,hns,fun h' hs' => ?_⟩
  have S10:=S9.goneBut (nin_held hDC.symm fun o mi hm => (List.mem_append.mp hm).elim held_rels (hC o mi)) hs'
  obtain ⟨F'',S11⟩:=S10.freezeList H hl hD
  exact ⟨_,σ',⟨F'',φ',m',ow',S11⟩,hR⟩
theorem W1.assignComp {x:Str} {xp p q:Pos} {elt tgt it:PySem.Expr} {ifs:List PySem.Expr} {scope:Scope} {R:Fl → Mu → Sg → Prop} (H:AmbOk prog w Amb mg mb) (K:EnvOk env) (hfn:env.func.isSome = true) (hh:A.handled = Option.none) (hk:env.kindOf x = some .local)
    (hcell:∀ y ∈ scope.names,y.2 ≠ .cell) (hkind:scope.kind = .function) (hnames:∀ y ∈ scope.names,scope.names.lookup y.1 = some y.2)
    (hfree:∀ x,(x,NameKind.free) ∈ scope.names → env.kindOf x = some .cell)
    (h:WE prog w Amb A B env μ σ it (fun y σ1 => ∃ xs,iterS σ1 y = some xs ∧ iterFits y ∧ xs.length ≤ sizeLine ∧ CompJ prog w Amb A env μ elt tgt ifs scope y xs σ1 (fun acc σ' => R .next (mset μ x (.v (.list acc))) σ')))
    (hsw:swapsWith (.ListComp elt [⟨tgt,it,ifs,0⟩] scope p) (some (.Name x xp)) q.line env = pure true)
    (hs:∀ x:Value,foldedSetIterable it env x = pure x:=by intro x; rfl):W1 prog w Amb A B env μ σ (.Assign [.Name x xp] (.ListComp elt [⟨tgt,it,ifs,0⟩] scope p) q) R:=by
  intro P s0 S0
  rw [arm_exec_Assign]
  refine wpAny_bind (wpAny_standAt ?_)
  have e:swapsWithSole [.Name x xp] (.ListComp elt [⟨tgt,it,ifs,0⟩] scope p) q.line env = pure true:=hsw
  rw [e]
  refine wpAny_bind (wpAny_pure ?_)
  rw [if_pos rfl,arm_evalThenUse_ListComp]
  have hst:Stor env x:=.inl hk
  have hAE:(assignEach [PySem.Expr.Name x xp] env).map (·.2) = [PySem.assign (PySem.Expr.Name x xp) env]:=by rfl
  have core:∀ (u:Value → Sem Unit),(∀ v,u v = PySem.assign (PySem.Expr.Name x xp) env v) → wpAny (model prog w) A (comprehension (.ListComp elt [⟨tgt,it,ifs,0⟩] scope p) scope env (firstIterPos [⟨tgt,it,ifs,0⟩] p) (newList []) false (eval it env) (some u)) (fun _ s' => FlSt Amb B env P R .next s') nofail s0:=by
    intro u hu
    refine listcomp_core H K hfn hh hcell hkind hnames hfree hs S0 h fun s' F' φ' m' ow' D C us n oC mC acc σ' hDC hD hC hl hns S9 hR r => ?_
    unfold compPost
    dsimp only
    rw [hu]
    have S10:StF Amb B env μ σ' (.held D (listO us n) true :: (rels us.toList acc ++ (.held C oC true :: P))) s' F' φ' m' ow':=S9.drop fun q hq => by
      simp only [List.mem_cons,List.mem_append] at hq ⊢
      rcases hq with e | e | e | e <;> simp [e]
    obtain ⟨F'',S11⟩:=S10.freezeList H hl (fun o mi hm => by
      rcases List.mem_cons.mp hm with e | e
      · cases e; exact hDC rfl
      · exact hD o mi e)
    refine wpAny_assign_Name (store_name K hst ⟨F'',φ',m',ow',S11⟩ fun s'' S12 => ?_)
    obtain ⟨F3,φ3,m3,ow3,S12⟩:=S12
    exact ⟨mC,hns.at' fun o e => Option.some.inj ((S9.held C oC true (.head _)).1.symm.trans e) ▸ (S12.held C oC true (.head _)).1,fun h' hs' => ⟨_,σ',⟨F3,φ3,m3,ow3,S12.goneBut hC hs'⟩,hR⟩⟩
  have core2:=core (fun v => assignAll v ((assignEach [.Name x xp] env).map (·.2))) (fun v => by rw [hAE]; rfl)
  clear core
  have g1:firstAsync [(⟨tgt,it,ifs,0⟩:Comprehension)] = false:=by rfl
  have g2:firstIter [(⟨tgt,it,ifs,0⟩:Comprehension)] env = eval it env:=by rfl
  rw [g1,g2]
  refine wpAny_bind (wpAny_bind (wpAny_mono core2 ?_ ?_))
  · intro _ s' q
    exact wpAny_pure (wpAny_pure q)
  · intro _ _ x
    exact x
end
section
variable {prog:Program} {w:World} {Amb:Fz → Prop} {A:Around} {B:Base} {env env':Env} {μ μ':Mu} {σ σ':Sg} {mg mb:Str → Option Value}
variable {P P':List Pend} {s s' s₁:Shared} {F F':Fz} {φ φ':List Addr} {m m':Str → Option Value} {ow ow':List (Str × Addr)}
theorem none_at_size (h:Heap):h.get? h.objs.size = none:=by
  cases e:h.get? h.objs.size with
  | none => rfl
  | some o => exact absurd (Heap.lt_size e) (Nat.lt_irrefl _)
theorem StF.newList {vs:List Value} {ys:List V} {tk:Nat} (H:AmbOk prog w Amb mg mb) (S:StF Amb B env μ σ P s F φ m ow) (r:RelL F φ vs ys) (n:Nat) :
    ∃ F',StF Amb B env μ σ (.rel (.ref s.heap.objs.size) (.list ys) :: P) { s with heap:=s.heap.push (listO vs.toArray n),toks:=tk } F' φ m ow:=by
  have T:=S.freeze (s':={ s with heap:=s.heap.push (listO vs.toArray n),toks:=tk }) H.mono (Grow.push _ _) (none_at_size _) (Heap.get?_push_size _ rfl)
  have hF:=updF_keep (o:=listO vs.toArray n) (S.free (none_at_size _)).1
  exact ⟨_,T.add (.list updF_self (by simpa using r.mono hF fun _ _ h => h))⟩
theorem StF.newTup {vs:List Value} {ys:List V} {tk:Nat} (H:AmbOk prog w Amb mg mb) (S:StF Amb B env μ σ P s F φ m ow) (r:RelL F φ vs ys) (n:Nat) :
    ∃ F',StF Amb B env μ σ (.rel (.ref s.heap.objs.size) (.tup ys) :: P) { s with heap:=s.heap.push (tupO vs.toArray n),toks:=tk } F' φ m ow:=by
  have T:=S.freeze (s':={ s with heap:=s.heap.push (tupO vs.toArray n),toks:=tk }) H.mono (Grow.push _ _) (none_at_size _) (Heap.get?_push_size _ rfl)
  have hF:=updF_keep (o:=tupO vs.toArray n) (S.free (none_at_size _)).1
  exact ⟨_,T.add (.tup updF_self (by simpa using r.mono hF fun _ _ h => h))⟩
theorem WE.list {es:List PySem.Expr} {p:Pos} {R:V → Sg → Prop} (H:AmbOk prog w Amb mg mb) (h:WAs prog w Amb A B env μ σ es (fun ys σ' => ys.length ≤ sizeLine ∧ R (.list ys) σ'))
    (he:backTo p (starEach es env) = es.map fun e => (false,eval e env):=by rfl):WE prog w Amb A B env μ σ (.List es p) R:=by
  intro P s S
  refine wpAny_List ?_
  rw [he]
  refine wpAny_mono (h P s S) (fun vs s1 qq => ?_) fun _ _ x => x
  obtain ⟨ys,σ',hl,⟨F,φ,m,ow,S1⟩,hz,r⟩:=qq
  refine ⟨by lia,?_⟩
  obtain ⟨F',S2⟩:=S1.dropRels.newList (tk:=s1.toks) H (S1.relsL hl) 0
  exact ⟨.list ys,σ',⟨F',φ,m,ow,S2⟩,r⟩
theorem WE.tuple {es:List PySem.Expr} {k:Nat} {p:Pos} {R:V → Sg → Prop} (H:AmbOk prog w Amb mg mb) (h:WAs prog w Amb A B env μ σ es (fun ys σ' => ys.length ≤ sizeLine ∧ R (.tup ys) σ'))
    (he:backTo p (starEach es env) = es.map fun e => (false,eval e env):=by rfl):WE prog w Amb A B env μ σ (.Tuple es k p) R:=by
  intro P s S
  refine wpAny_Tuple ?_
  rw [he]
  refine wpAny_mono (h P s S) (fun vs s1 qq => ?_) fun _ _ x => x
  obtain ⟨ys,σ',hl,⟨F,φ,m,ow,S1⟩,hz,r⟩:=qq
  refine ⟨by lia,?_⟩
  obtain ⟨F',S2⟩:=S1.dropRels.newTup (tk:=s1.toks) H (S1.relsL hl) 0
  exact ⟨.tup ys,σ',⟨F',φ,m,ow,S2⟩,r⟩
variable (prog w Amb A B env) in
noncomputable def OpS (μ:Mu) (σ:Sg) (value slice:PySem.Expr) (x y:V) (R:V → Sg → Prop):Prop:=∀ a b P,WT prog w Amb A B env μ σ (.rel b y :: .rel a x :: P) (subscriptTail value slice a b) P R
theorem WE.sub {value slice:PySem.Expr} {p:Pos} {R:V → Sg → Prop}
    (h:WE prog w Amb A B env μ σ value (fun x σ1 => WE prog w Amb A B env μ σ1 slice (fun y σ2 => OpS prog w Amb A B env μ σ2 value slice x y R))):WE prog w Amb A B env μ σ (.Subscript value slice p) R:=by
  intro P s S
  refine PyProof.Rows.Subscript_ (wpAny_mono (h P s S) (fun a s1 qq => ?_) fun _ _ x => x)
  obtain ⟨x,σ1,S1,h1⟩:=qq
  refine wpAny_mono (h1 _ s1 S1) (fun b s2 qq => ?_) fun _ _ x => x
  obtain ⟨y,σ2,S2,h2⟩:=qq
  exact h2 a b P s2 S2
noncomputable def plainSlice:PySem.Expr → Bool
  | .Slice .. => false
  | _ => true
theorem subscripted_plain {slice:PySem.Expr} (h:plainSlice slice = true) (o i:Value):subscripted slice false o i = operate [o,i] (getItem o i):=by
  cases slice <;> first | rfl | cases h
theorem OpS.list {value slice:PySem.Expr} {xs:List V} {k:Int} {j:Nat} {y:V} {R:V → Sg → Prop} (hs:plainSlice slice = true) (hj:(0 ≤ k ∧ j = k.toNat) ∨ (k < 0 ∧ -(xs.length:Int) ≤ k ∧ j = (k + xs.length).toNat)) (hk:-(2 ^ 62) ≤ k ∧ k ≤ 2 ^ 62)
    (hx:xs[j]? = some y) (h:R y σ):OpS prog w Amb A B env μ σ value slice (.list xs) (.int k) R:=by
  rintro a b P s ⟨F,φ,m,ow,S⟩
  obtain ⟨_,rfl⟩:=S.top.inv
  obtain ⟨l,vs,n,rfl,hF,hL⟩:=S.top2.inv
  have hl:s.heap.IsList l vs:=⟨_,S.sub _ _ hF,rfl,_,rfl⟩
  have hz:vs.size = xs.length:=by have:=hL.length; simpa using this
  obtain ⟨v,hv,r⟩:=hL.get' hx
  have hv':vs[j]? = some v:=by simpa using hv
  refine tail_any hl.typeIs slot_list_getitem.lookup ?_ (subscripted_plain hs _ _)
  rcases hj with ⟨h0,rfl⟩ | ⟨h0,h1,rfl⟩
  · exact wpAny_getItem_list hl h0 (by lia) hv' ⟨y,σ,⟨F,φ,m,ow,S.pop2.add r⟩,h⟩
  · exact wpAny_getItem_list_neg hl h0 (by rw [hz]; exact h1) (by lia) (by rw [hz]; exact hv') ⟨y,σ,⟨F,φ,m,ow,S.pop2.add r⟩,h⟩
theorem OpS.tup {value slice:PySem.Expr} {xs:List V} {k:Int} {j:Nat} {y:V} {R:V → Sg → Prop} (hs:plainSlice slice = true) (hj:seqIndex? k xs.length = some j) (hk:-(2 ^ 62) ≤ k ∧ k ≤ 2 ^ 62)
    (hx:xs[j]? = some y) (h:R y σ):OpS prog w Amb A B env μ σ value slice (.tup xs) (.int k) R:=by
  rintro a b P s ⟨F,φ,m,ow,S⟩
  obtain ⟨_,rfl⟩:=S.top.inv
  obtain ⟨l,vs,n,rfl,hF,hL⟩:=S.top2.inv
  have hl:IsTup s.heap l vs:=⟨_,S.sub _ _ hF,rfl,_,rfl⟩
  have hz:vs.size = xs.length:=by have:=hL.length; simpa using this
  obtain ⟨v,hv,r⟩:=hL.get' hx
  have hv':vs[j]? = some v:=by simpa using hv
  refine tail_any hl.typeIs slot_tuple_getitem.lookup ?_ (subscripted_plain hs _ _)
  exact getItem_tuple hl (by lia) (by lia) (by rw [hz]; exact hj) hv' ⟨y,σ,⟨F,φ,m,ow,S.pop2.add r⟩,h⟩
theorem OpS.str {value slice:PySem.Expr} {x:Str} {k:Int} {c:Nat} {R:V → Sg → Prop} (hs:plainSlice slice = true) (hk:-(2 ^ 62) ≤ k ∧ k ≤ 2 ^ 62)
    (hx:(Option.bind (seqIndex? k x.length) fun j => x.cps[j]?) = some c) (h:R (.str ⟨#[c]⟩) σ):OpS prog w Amb A B env μ σ value slice (.str x) (.int k) R:=by
  rintro a b P s ⟨F,φ,m,ow,S⟩
  obtain ⟨_,rfl⟩:=S.top.inv
  obtain ⟨_,rfl⟩:=S.top2.inv
  refine tail_any (T:="str") rfl slot_str_getitem.lookup ?_ (subscripted_plain hs _ _)
  exact getItem_str (by simp; lia) hx ⟨_,σ,⟨F,φ,m,ow,(S.pop2.grow (Grow.toks _)).add (.str _ _)⟩,h⟩
theorem WC.len_list {xs:List V} {R:V → Sg → Prop} (hz:(xs.length:Int) < 2 ^ 62) (h:R (.int xs.length) σ):WC prog w Amb A B env μ σ (.builtin "len") [.list xs] R:=by
  rintro P vs s hl ⟨F,φ,m,ow,S⟩
  obtain ⟨v,rfl⟩:=len_one hl
  have S':=S.dropRels
  have hr:Rel F φ v (.list xs):=S.pend _ _ (by simp [rels])
  obtain ⟨l,us,n,rfl,hF,hL⟩:=hr.inv
  have hz':us.size = xs.length:=by have:=hL.length; simpa using this
  refine call_len_list ⟨_,S.sub _ _ hF,rfl,_,rfl⟩ (by lia) ⟨_,σ,⟨F,φ,m,ow,(S'.grow (Grow.toks _)).add (.int _ _)⟩,?_⟩
  rw [hz']; exact h
theorem WC.range1 {n:Int} {R:V → Sg → Prop} (H:AmbOk prog w Amb mg mb) (h:R (.rng 0 n) σ):WC prog w Amb A B env μ σ (.type "range") [.int n] R:=by
  rintro P vs s hl ⟨F,φ,m,ow,S⟩
  obtain ⟨v,rfl⟩:=len_one hl
  have hr:Rel F φ v (.int n):=S.pend _ _ (by simp [rels])
  obtain ⟨t,rfl⟩:=hr.inv
  refine call_range_1 ⟨_,σ,⟨_,φ,m,ow,(S.dropRels.freeze (s':=⟨s.heap.push (rngO 0 n s.toks t (s.toks + 1)),_,_,_,_⟩) H.mono (Grow.push _ _) (none_at_size _) (Heap.get?_push_size _ rfl)).add (.rng (t:=s.toks) (u:=t) (v:=s.toks + 1) updF_self)⟩,h⟩
theorem WC.range2 {a n:Int} {R:V → Sg → Prop} (H:AmbOk prog w Amb mg mb) (h:R (.rng a n) σ):WC prog w Amb A B env μ σ (.type "range") [.int a,.int n] R:=by
  rintro P vs s hl ⟨F,φ,m,ow,S⟩
  obtain ⟨v,u,rfl⟩:=len_two hl
  have hr:Rel F φ v (.int a):=S.pend _ _ (by simp [rels])
  have hr':Rel F φ u (.int n):=S.pend _ _ (by simp [rels])
  obtain ⟨t,rfl⟩:=hr.inv
  obtain ⟨t',rfl⟩:=hr'.inv
  refine call_range_2 ⟨_,σ,⟨_,φ,m,ow,(S.dropRels.freeze (s':=⟨s.heap.push (rngO a n t t' s.toks),_,_,_,_⟩) H.mono (Grow.push _ _) (none_at_size _) (Heap.get?_push_size _ rfl)).add (.rng (t:=t) (u:=t') (v:=s.toks) updF_self)⟩,h⟩
end
noncomputable def pw:Program:=PySem.Challenge.pw_ta0065_01
noncomputable def fnBody (i:Nat):List Stmt:=match pw.main.body[i]? with | some (.FunctionDef _ _ b _ _ _ _ _ _ _) => b | _ => []
noncomputable def fnScope (i:Nat):Scope:=match pw.main.body[i]? with | some (.FunctionDef _ _ _ _ _ _ s _ _ _) => s | _ => default
noncomputable def fnParams (i:Nat):Arguments:=match pw.main.body[i]? with | some (.FunctionDef _ a _ _ _ _ _ _ _ _) => a | _ => default
structure TopOk (mg mb:Str → Option Value) (at_:Str → Addr):Prop where
  len:mg "len" = none ∧ mb "len" = some (.builtin "len")
  range:mg "range" = none ∧ mb "range" = some (.type "range")
  list:mg "list" = none ∧ mb "list" = some (.type "list")
  str:mg "str" = none ∧ mb "str" = some (.type "str")
  sum:mg "sum" = none ∧ mb "sum" = some (.builtin "sum")
  sorted:mg "sorted" = none ∧ mb "sorted" = some (.builtin "sorted")
  chr:mg "chr" = none ∧ mb "chr" = some (.builtin "chr")
  ord:mg "ord" = none ∧ mb "ord" = some (.builtin "ord")
  own:∀ x ∈ (["in_table_c6","in_table_c7","in_table_c8","in_table_c9","c6_set","c7_set","c8_set","c9_set","_ellipsis_match","_check_parenthesis","_strip_quoted_realnames","_iter_escaped_chars",
    "Headers","_law_codes","_law_read","_law_known","_law_wished","_law_granted","_law_takes","_law_can","_name_disallowed_re","_value_disallowed_re"]:List Str),mg x = some (.ref (at_ x))
  dots:∃ t,mg "ELLIPSIS_MARKER" = some (.str "..." t)
noncomputable def varKind:Option NameKind → Bool
  | some .local | some .cell | some .free => true
  | _ => false
noncomputable def storKind:Option NameKind → Bool
  | some .local | some .cell => true
  | _ => false
section
variable {prog:Program} {w:World} {Amb:Fz → Prop} {A:Around} {B:Base} {env env':Env} {μ μ':Mu} {σ σ':Sg} {mg mb:Str → Option Value} {at_:Str → Addr} {sc:Scope}
theorem kindOf_of (hs:env.scope = sc) (x:Str):env.kindOf x = sc.names.lookup x:=by rw [← hs]; rfl
theorem WE.nm {x:Str} {p:Pos} {y:V} {R:V → Sg → Prop} (K:EnvOk env) (hs:env.scope = sc) (hk:varKind (sc.names.lookup x) = true) (hm:mget μ x = some (.v y)) (h:R y σ)
    (hd:(x == ("__debug__":Str)) = false:=by kernel_rfl) (hd':(x == ("__classdict__":Str)) = false:=by kernel_rfl):WE prog w Amb A B env μ σ (.Name x p) R:=by
  refine WE.name K ?_ hm h hd hd'
  rw [kindOf_of hs]
  revert hk
  cases sc.names.lookup x with
  | none => intro h; cases h
  | some k => cases k <;> simp [varKind]
theorem stor_of {x:Str} (hs:env.scope = sc) (hfn:env.func.isSome = true) (hk:storKind (sc.names.lookup x) = true):Stor env x:=by
  unfold Stor
  rw [kindOf_of hs]
  revert hk
  cases sc.names.lookup x with
  | none => intro h; cases h
  | some k => cases k <;> simp [storKind,hfn]
theorem stor_loc {x:Str} (hs:env.scope = sc) (hk:sc.names.lookup x = some .local):Stor env x:=.inl (by rw [kindOf_of hs]; exact hk)
theorem WE.bl {x:Str} {p:Pos} {v:Value} {y:V} {R:V → Sg → Prop} (H:AmbOk prog w Amb mg mb) (K:EnvOk env) (hs:env.scope = sc) (hk:sc.names.lookup x = some .globalImplicit) (hv:mg x = Option.none ∧ mb x = some v) (hy:Flat v y) (h:R y σ)
    (hd:(x == ("__debug__":Str)) = false:=by kernel_rfl):WE prog w Amb A B env μ σ (.Name x p) R:=WE.blt H K (by rw [kindOf_of hs]; exact hk) hv.1 hv.2 hy h hd
theorem WE.gl {x:Str} {p:Pos} {v:Value} {y:V} {R:V → Sg → Prop} (H:AmbOk prog w Amb mg mb) (K:EnvOk env) (hs:env.scope = sc) (hk:sc.names.lookup x = some .globalImplicit) (hv:mg x = some v) (hy:Flat v y) (h:R y σ)
    (hd:(x == ("__debug__":Str)) = false:=by kernel_rfl):WE prog w Amb A B env μ σ (.Name x p) R:=WE.glob H K (by rw [kindOf_of hs]; exact hk) hv hy h hd
theorem WE.cmp' {l r:PySem.Expr} {op:PySem.CmpOp} {p:Pos} {R:V → Sg → Prop}
    (h:WE prog w Amb A B env μ σ l (fun x σ1 => WE prog w Amb A B env μ σ1 r (fun y σ2 => OpC prog w Amb A B env μ σ2 op x y R))) (hb:behindInMarks op r = false:=by rfl):WE prog w Amb A B env μ σ (.Compare l [op] [r] p) R:=WE.cmp hb h
theorem WB.cmp' {l r:PySem.Expr} {op:PySem.CmpOp} {p:Pos} {R:Bool → Sg → Prop}
    (h:WE prog w Amb A B env μ σ l (fun x σ1 => WE prog w Amb A B env μ σ1 r (fun y σ2 => OpC prog w Amb A B env μ σ2 op x y (fun z σ3 => ∃ b,Truth z b ∧ R b σ3)))) (hb:behindInMarks op r = false:=by rfl):WB prog w Amb A B env μ σ (.Compare l [op] [r] p) R:=WB.cmp hb h
theorem WE.callb {f:PySem.Expr} {args:List PySem.Expr} {p:Pos} {R:V → Sg → Prop}
    (h:WE prog w Amb A B env μ σ f (fun y σ1 => ∃ fv,Callee Amb y fv ∧ WAs prog w Amb A B env μ σ1 args (fun ys σ2 => WC prog w Amb A B env μ σ2 fv ys R)))
    (he:eval (.Call f args [] p) env = (do callWith p (← eval f env) [] (args.map fun e => (false,eval e env)) []):=by rfl):WE prog w Amb A B env μ σ (.Call f args [] p) R:=WE.call h he
end
noncomputable def xo (bs:List Bool):Str:=⟨(bs.map fun b => if b then 120 else 111).toArray⟩
theorem xo_nil:xo [] = ("":Str):=by decide +kernel
theorem xo_snoc (bs:List Bool) (b:Bool):xo bs ++ (if b then ("x":Str) else ("o":Str)) = xo (bs ++ [b]):=by
  have h1:("x":Str) = ⟨#[120]⟩:=by decide +kernel
  have h2:("o":Str) = ⟨#[111]⟩:=by decide +kernel
  rw [h1,h2]
  show Str.mk _ = Str.mk _
  cases b <;> simp [xo,Str.append]
theorem xo_length (bs:List Bool):(xo bs).length = bs.length:=by simp [xo,Str.length]
noncomputable def lowOf:Nat → List Int
  | 0 => [65529] | 1 => [12272] | 2 => [832,8206,8234,8298] | _ => [917505,917536]
noncomputable def highOf:Nat → List Int
  | 0 => [65533] | 1 => [12283] | 2 => [833,8207,8238,8303] | _ => [917505,917631]
noncomputable def isX (k:Nat) (c:Int):Bool:=decide (((highOf k).filter fun e => decide (e < c)).length < ((lowOf k).filter fun e => decide (e ≤ c)).length)
mutual
noncomputable def toP:V → Option PyData
  | .none => some .none
  | .bool b => some (.bool b)
  | .int i => some (.int i)
  | .str x => some (.str x)
  | .list xs => (toPs xs).map .list
  | .tup xs => (toPs xs).map .tuple
  | _ => none
noncomputable def toPs:List V → Option (List PyData)
  | [] => some []
  | x :: xs => (toP x).bind fun d => (toPs xs).map fun ds => d :: ds
end
section
variable {F:Fz} {φ:List Addr} {h:Heap}
theorem Rel.reads (hs:∀ a o,F a = some o → h.get? a = some o) {v:Value} {y:V} {d:PyData} (r:Rel F φ v y):toP y = some d → ∃ as,Reads h v d as :=
  Rel.rec (motive_1:=fun v y _ => ∀ d,toP y = some d → ∃ as,Reads h v d as) (motive_2:=fun vs ys _ => ∀ ds,toPs ys = some ds → ∃ as,ReadsAll h vs ds as)
    (fun d e => Option.some.inj e ▸ ⟨_,.none⟩) (fun b d e => Option.some.inj e ▸ ⟨_,.bool b⟩) (fun i t d e => Option.some.inj e ▸ ⟨_,.int i t⟩) (fun x t d e => Option.some.inj e ▸ ⟨_,.str x t⟩)
    (fun hF r ih d e => by
      obtain ⟨ds,hd,rfl⟩:=Option.map_eq_some_iff.mp e
      obtain ⟨as,q⟩:=ih ds hd
      exact ⟨_,.list (hs _ _ hF) rfl rfl q⟩)
    (fun hF r ih d e => by
      obtain ⟨ds,hd,rfl⟩:=Option.map_eq_some_iff.mp e
      obtain ⟨as,q⟩:=ih ds hd
      exact ⟨_,.tuple (hs _ _ hF) rfl rfl q⟩)
    (fun _ _ e => (none_ne rfl e).elim) (fun _ _ e => (none_ne rfl e).elim) (fun _ _ e => (none_ne rfl e).elim) (fun _ _ e => (none_ne rfl e).elim) (fun _ _ _ _ e => (none_ne rfl e).elim) (fun _ _ e => (none_ne rfl e).elim) (fun _ _ e => (none_ne rfl e).elim)
    (fun d e => Option.some.inj e ▸ ⟨_,.nil⟩)
    (fun r rs ih1 ih2 ds e => by
      obtain ⟨d,hd,e⟩:=Option.bind_eq_some_iff.mp e
      obtain ⟨ds,hds,rfl⟩:=Option.map_eq_some_iff.mp e
      obtain ⟨as,q⟩:=ih1 d hd
      obtain ⟨bs,q'⟩:=ih2 ds hds
      exact ⟨_,.cons q q'⟩) r d
theorem RelL.reads (hs:∀ a o,F a = some o → h.get? a = some o) {vs:List Value} {ys:List V} {ds:List PyData} (r:RelL F φ vs ys):toPs ys = some ds → ∃ as,ReadsAll h vs ds as :=
  r.ind (M:=fun vs ys => ∀ ds,toPs ys = some ds → ∃ as,ReadsAll h vs ds as) (fun d e => Option.some.inj e ▸ ⟨_,.nil⟩) (fun r rs ih2 ds e => by
      obtain ⟨d,hd,e⟩:=Option.bind_eq_some_iff.mp e
      obtain ⟨ds,hds,rfl⟩:=Option.map_eq_some_iff.mp e
      obtain ⟨as,q⟩:=r.reads hs hd
      obtain ⟨bs,q'⟩:=ih2 ds hds
      exact ⟨_,.cons q q'⟩) ds
end
section
variable {prog:Program} {w:World} {Amb:Fz → Prop} {A:Around} {B:Base} {env env':Env} {μ μ':Mu} {σ σ':Sg} {mg mb:Str → Option Value}
variable {P P':List Pend} {s s' s₁:Shared} {F F':Fz} {φ φ':List Addr} {m m':Str → Option Value} {ow ow':List (Str × Addr)}
theorem OpC.eq_data {x y:V} {dx dy:PyData} {R:V → Sg → Prop} (hu:A.units + 64 < cLine) (hx:toP x = some dx) (hy:toP y = some dy) (h1:SeqAt.shaped dx = true) (h2:SeqAt.shaped dy = true) (h:R (.bool (PyData.eqv dx dy)) σ) :
    OpC prog w Amb A B env μ σ .Eq x y R:=by
  rintro a b P s ⟨F,φ,m,ow,S⟩
  obtain ⟨as,r1⟩:=S.top2.reads S.sub hx
  obtain ⟨bs,r2⟩:=S.top.reads S.sub hy
  exact eq_dataH r1 r2 h1 h2 hu ⟨_,σ,⟨F,φ,m,ow,S.pop2.add (.bool _)⟩,h⟩
theorem OpC.ne_data {x y:V} {dx dy:PyData} {R:V → Sg → Prop} (hu:A.units + 64 < cLine) (hx:toP x = some dx) (hy:toP y = some dy) (h1:SeqAt.shaped dx = true) (h2:SeqAt.shaped dy = true) (h:R (.bool (!PyData.eqv dx dy)) σ) :
    OpC prog w Amb A B env μ σ .NotEq x y R:=by
  rintro a b P s ⟨F,φ,m,ow,S⟩
  obtain ⟨as,r1⟩:=S.top2.reads S.sub hx
  obtain ⟨bs,r2⟩:=S.top.reads S.sub hy
  exact ne_dataH r1 r2 h1 h2 hu ⟨_,σ,⟨F,φ,m,ow,S.pop2.add (.bool _)⟩,h⟩
theorem OpC.in_data {x y:V} {dx:PyData} {dys:List PyData} {R:V → Sg → Prop} (hx:toP x = some dx) (hy:toP y = some (.list dys)) (h1:dx.canLay0 = true) (h2:PyData.canLayAll0 dys = true) (hu:A.units + 1 + min (PyData.depthAll dys) dx.depth < cLine)
    (h:R (.bool (dys.any fun d => PyData.eqv d dx)) σ):OpC prog w Amb A B env μ σ .In x y R:=by
  rintro a b P s ⟨F,φ,m,ow,S⟩
  obtain ⟨as,r1⟩:=S.top2.reads S.sub hx
  obtain ⟨bs,r2⟩:=S.top.reads S.sub hy
  exact SeqAt.in_list_reads r2 r1 h2 h1 hu ⟨_,σ,⟨F,φ,m,ow,S.pop2.add (.bool _)⟩,h⟩
theorem OpC.notIn_data {x y:V} {dx:PyData} {dys:List PyData} {R:V → Sg → Prop} (hx:toP x = some dx) (hy:toP y = some (.list dys)) (h1:dx.canLay0 = true) (h2:PyData.canLayAll0 dys = true) (hu:A.units + 1 + min (PyData.depthAll dys) dx.depth < cLine)
    (h:R (.bool (!dys.any fun d => PyData.eqv d dx)) σ):OpC prog w Amb A B env μ σ .NotIn x y R:=by
  rintro a b P s ⟨F,φ,m,ow,S⟩
  obtain ⟨as,r1⟩:=S.top2.reads S.sub hx
  obtain ⟨bs,r2⟩:=S.top.reads S.sub hy
  exact SeqAt.notIn_list_reads r2 r1 h2 h1 hu ⟨_,σ,⟨F,φ,m,ow,S.pop2.add (.bool _)⟩,h⟩
theorem OpC.ne_str {x y:Str} {R:V → Sg → Prop} (h:R (.bool (x != y)) σ):OpC prog w Amb A B env μ σ .NotEq (.str x) (.str y) R:=by
  rintro a b P s ⟨F,φ,m,ow,S⟩
  obtain ⟨_,_,rfl,rfl⟩:=S.two_str
  exact PyProof.Rows.ne_str ⟨_,σ,⟨F,φ,m,ow,S.pop2.add (.bool _)⟩,h⟩
theorem toPs_int:∀ ns:List Int,toPs (ns.map .int) = some (ns.map .int)
  | [] => by simp [toPs]
  | n :: r => by simp [toPs,toP,toPs_int r]
theorem toP_ints (ns:List Int):toP (.list (ns.map .int)) = some (.list (ns.map .int)):=by simp [toP,toPs_int]
theorem toPs_str:∀ ns:List Str,toPs (ns.map .str) = some (ns.map .str)
  | [] => by simp [toPs]
  | n :: r => by simp [toPs,toP,toPs_str r]
theorem toP_strs (ns:List Str):toP (.list (ns.map .str)) = some (.list (ns.map .str)):=by simp [toP,toPs_str]
theorem toPs_intss:∀ ns:List (List Int),toPs (ns.map fun n => .list (n.map .int)) = some (ns.map fun n => .list (n.map .int))
  | [] => by simp [toPs]
  | n :: r => by simp [toPs,toP_ints,toPs_intss r]
theorem toPs_strss:∀ ns:List (List Str),toPs (ns.map fun n => .list (n.map .str)) = some (ns.map fun n => .list (n.map .str))
  | [] => by simp [toPs]
  | n :: r => by simp [toPs,toP_strs,toPs_strss r]
theorem toP_intss (ns:List (List Int)):toP (.list (ns.map fun n => .list (n.map .int))) = some (.list (ns.map fun n => .list (n.map .int))):=by simp [toP,toPs_intss]
theorem toP_strss (ns:List (List Str)):toP (.list (ns.map fun n => .list (n.map .str))) = some (.list (ns.map fun n => .list (n.map .str))):=by simp [toP,toPs_strss]
theorem eqv_ints:∀ ns ms:List Int,PyData.eqvAll (ns.map .int) (ms.map .int) = decide (ns = ms)
  | [],[] => by simp [PyData.eqvAll]
  | [],_ :: _ => by simp [PyData.eqvAll]
  | _ :: _,[] => by simp [PyData.eqvAll]
  | a :: r,b :: t => by
    simp only [List.map_cons,PyData.eqvAll,PyData.eqv,eqv_ints r t,List.cons.injEq]
    by_cases h:a = b <;> by_cases h':r = t <;> simp [h,h']
theorem eqv_strs:∀ ns ms:List Str,PyData.eqvAll (ns.map .str) (ms.map .str) = decide (ns = ms)
  | [],[] => by simp [PyData.eqvAll]
  | [],_ :: _ => by simp [PyData.eqvAll]
  | _ :: _,[] => by simp [PyData.eqvAll]
  | a :: r,b :: t => by
    simp only [List.map_cons,PyData.eqvAll,PyData.eqv,eqv_strs r t,List.cons.injEq]
    by_cases h:a = b <;> by_cases h':r = t <;> simp [h,h']
theorem eqv_strss:∀ ns ms:List (List Str),PyData.eqvAll (ns.map fun n => .list (n.map .str)) (ms.map fun n => .list (n.map .str)) = decide (ns = ms)
  | [],[] => by simp [PyData.eqvAll]
  | [],_ :: _ => by simp [PyData.eqvAll]
  | _ :: _,[] => by simp [PyData.eqvAll]
  | a :: r,b :: t => by
    simp only [List.map_cons,PyData.eqvAll,PyData.eqv,eqv_strs,eqv_strss r t,List.cons.injEq]
    by_cases h:a = b <;> by_cases h':r = t <;> simp [h,h']
theorem any_intss (ns:List (List Int)) (m:List Int):((ns.map fun n => PyData.list (n.map .int)).any fun d => PyData.eqv d (.list (m.map .int))) = decide (m ∈ ns):=by
  induction ns with
  | nil => simp
  | cons n r ih =>
    rw [List.map_cons,List.any_cons,ih]
    simp only [PyData.eqv,eqv_ints,List.mem_cons]
    by_cases h:n = m
    · subst h; simp
    · have h':¬ m = n:=fun e => h e.symm
      simp [h,h']
theorem lay_ints:∀ ns:List Int,PyData.canLayAll0 (ns.map .int) = true ∧ PyData.depthAll (ns.map .int) = 0
  | [] => ⟨rfl,rfl⟩
  | n :: r => by have:=lay_ints r; simp [PyData.canLayAll0,PyData.canLay0,PyData.depthAll,PyData.depth,this]
theorem lay_strs:∀ ns:List Str,(∀ n ∈ ns,PyData.strOk n = true) → PyData.canLayAll0 (ns.map .str) = true ∧ PyData.depthAll (ns.map .str) = 0
  | [],_ => ⟨rfl,rfl⟩
  | n :: r,h => by
    have:=lay_strs r fun x hx => h x (List.mem_cons_of_mem _ hx)
    simp [PyData.canLayAll0,PyData.canLay0,PyData.depthAll,PyData.depth,this,h n (List.mem_cons_self ..)]
theorem lay_intss:∀ ns:List (List Int),PyData.canLayAll0 (ns.map fun n => .list (n.map .int)) = true ∧ PyData.depthAll (ns.map fun n => .list (n.map .int)) ≤ 1
  | [] => ⟨rfl,by simp [PyData.depthAll]⟩
  | n :: r => by
    obtain ⟨a,b⟩:=lay_intss r
    obtain ⟨c,d⟩:=lay_ints n
    simp only [List.map_cons,PyData.canLayAll0,PyData.canLay0,PyData.depthAll,PyData.depth,c,d,a,Bool.and_self,true_and]
    lia
theorem lay_strss:∀ ns:List (List Str),(∀ n ∈ ns,∀ x ∈ n,PyData.strOk x = true) → PyData.canLayAll0 (ns.map fun n => .list (n.map .str)) = true ∧ PyData.depthAll (ns.map fun n => .list (n.map .str)) ≤ 1
  | [],_ => ⟨rfl,by simp [PyData.depthAll]⟩
  | n :: r,h => by
    obtain ⟨a,b⟩:=lay_strss r fun x hx => h x (List.mem_cons_of_mem _ hx)
    obtain ⟨c,d⟩:=lay_strs n (h n (List.mem_cons_self ..))
    simp only [List.map_cons,PyData.canLayAll0,PyData.canLay0,PyData.depthAll,PyData.depth,c,d,a,Bool.and_self,true_and]
    lia
theorem shaped_of {d:PyData} (h1:d.canLay0 = true) (h2:d.depth ≤ 64):SeqAt.shaped d = true:=by
  unfold SeqAt.shaped; rw [h1,Bool.true_and]; exact decide_eq_true h2
theorem shaped_ints (ns:List Int):SeqAt.shaped (.list (ns.map .int)) = true:=shaped_of (by simp [PyData.canLay0,lay_ints]) (by simp [PyData.depth,lay_ints])
theorem shaped_strs (ns:List Str) (h:∀ n ∈ ns,PyData.strOk n = true):SeqAt.shaped (.list (ns.map .str)) = true:=shaped_of (by simp [PyData.canLay0,lay_strs ns h]) (by simp [PyData.depth,lay_strs ns h])
theorem shaped_strss (ns:List (List Str)) (h:∀ n ∈ ns,∀ x ∈ n,PyData.strOk x = true):SeqAt.shaped (.list (ns.map fun n => .list (n.map .str))) = true:=by
  obtain ⟨a,b⟩:=lay_strss ns h
  exact shaped_of (by simpa [PyData.canLay0] using a) (by simp only [PyData.depth]; lia)
theorem OpC.eq_ints {ns ms:List Int} {R:V → Sg → Prop} (hu:A.units + 64 < cLine) (h:R (.bool (decide (ns = ms))) σ):OpC prog w Amb A B env μ σ .Eq (.list (ns.map .int)) (.list (ms.map .int)) R :=
  OpC.eq_data hu (toP_ints ns) (toP_ints ms) (shaped_ints _) (shaped_ints _) (by simp only [PyData.eqv,eqv_ints]; exact h)
theorem OpC.ne_ints {ns ms:List Int} {R:V → Sg → Prop} (hu:A.units + 64 < cLine) (h:R (.bool (!decide (ns = ms))) σ):OpC prog w Amb A B env μ σ .NotEq (.list (ns.map .int)) (.list (ms.map .int)) R :=
  OpC.ne_data hu (toP_ints ns) (toP_ints ms) (shaped_ints _) (shaped_ints _) (by simp only [PyData.eqv,eqv_ints]; exact h)
theorem OpC.ne_strs {ns ms:List Str} {R:V → Sg → Prop} (hu:A.units + 64 < cLine) (h1:∀ n ∈ ns,PyData.strOk n = true) (h2:∀ n ∈ ms,PyData.strOk n = true) (h:R (.bool (!decide (ns = ms))) σ) :
    OpC prog w Amb A B env μ σ .NotEq (.list (ns.map .str)) (.list (ms.map .str)) R :=
  OpC.ne_data hu (toP_strs ns) (toP_strs ms) (shaped_strs _ h1) (shaped_strs _ h2) (by simp only [PyData.eqv,eqv_strs]; exact h)
theorem OpC.ne_strss {ns ms:List (List Str)} {R:V → Sg → Prop} (hu:A.units + 64 < cLine) (h1:∀ n ∈ ns,∀ x ∈ n,PyData.strOk x = true) (h2:∀ n ∈ ms,∀ x ∈ n,PyData.strOk x = true) (h:R (.bool (!decide (ns = ms))) σ) :
    OpC prog w Amb A B env μ σ .NotEq (.list (ns.map fun n => .list (n.map .str))) (.list (ms.map fun n => .list (n.map .str))) R :=
  OpC.ne_data hu (toP_strss ns) (toP_strss ms) (shaped_strss _ h1) (shaped_strss _ h2) (by simp only [PyData.eqv,eqv_strss]; exact h)
theorem OpC.in_intss {ns:List (List Int)} {m:List Int} {R:V → Sg → Prop} (hu:A.units + 64 < cLine) (h:R (.bool (decide (m ∈ ns))) σ):OpC prog w Amb A B env μ σ .In (.list (m.map .int)) (.list (ns.map fun n => .list (n.map .int))) R:=by
  obtain ⟨a,b⟩:=lay_intss ns
  refine OpC.in_data (toP_ints m) (toP_intss ns) (SeqAt.canLay_of_shaped (shaped_ints m)) a (by lia) ?_
  rw [any_intss]; exact h
theorem OpC.notIn_intss {ns:List (List Int)} {m:List Int} {R:V → Sg → Prop} (hu:A.units + 64 < cLine) (h:R (.bool (!decide (m ∈ ns))) σ):OpC prog w Amb A B env μ σ .NotIn (.list (m.map .int)) (.list (ns.map fun n => .list (n.map .int))) R:=by
  obtain ⟨a,b⟩:=lay_intss ns
  refine OpC.notIn_data (toP_ints m) (toP_intss ns) (SeqAt.canLay_of_shaped (shaped_ints m)) a (by lia) ?_
  rw [any_intss]; exact h
theorem any_strs (ns:List Str) (m:Str):((ns.map PyData.str).any fun d => PyData.eqv d (.str m)) = decide (m ∈ ns):=by
  induction ns with
  | nil => simp
  | cons n r ih =>
    rw [List.map_cons,List.any_cons,ih]
    simp only [PyData.eqv,List.mem_cons]
    by_cases h:n = m
    · subst h; simp
    · have h':¬ m = n:=fun e => h e.symm
      simp [h,h']
theorem OpC.in_strs {ns:List Str} {m:Str} {R:V → Sg → Prop} (hu:A.units + 64 < cLine) (h1:∀ n ∈ ns,PyData.strOk n = true) (h2:PyData.strOk m = true) (h:R (.bool (decide (m ∈ ns))) σ) :
    OpC prog w Amb A B env μ σ .In (.str m) (.list (ns.map .str)) R:=by
  obtain ⟨a,b⟩:=lay_strs ns h1
  refine OpC.in_data (dx:=.str m) rfl (toP_strs ns) h2 a (by lia) ?_
  rw [any_strs]; exact h
end
section
variable {prog:Program} {w:World} {Amb:Fz → Prop} {A:Around} {B:Base} {env env':Env} {μ μ':Mu} {σ σ':Sg} {mg mb:Str → Option Value}
variable {P P':List Pend} {s s' s₁:Shared} {F F':Fz} {φ φ':List Addr} {m m':Str → Option Value} {ow ow':List (Str × Addr)}
theorem StF.fresh {a:Addr} {vs:Array Value} {n:Nat} {ys:List V} (H:AmbOk prog w Amb mg mb) (S:StF Amb B env μ σ P s F φ m ow) (G:Grow s s') (hn:s.heap.get? a = none) (ho:s'.heap.get? a = some (listO vs n)) (r:RelL F φ vs.toList ys) :
    ∃ F',StF Amb B env μ σ (.rel (.ref a) (.list ys) :: P) s' F' φ m ow:=by
  have T:=S.freeze H.mono G hn ho
  have hF:=updF_keep (o:=listO vs n) (S.free hn).1
  exact ⟨_,T.add (.list updF_self (r.mono hF fun _ _ h => h))⟩
theorem none_above {h:Heap} {a:Addr} (ha:h.objs.size ≤ a):h.get? a = none:=by
  cases e:h.get? a with
  | none => rfl
  | some o => exact absurd (Heap.lt_size e) (Nat.not_lt.mpr ha)
theorem relL_ints:∀ {vs:List Value} {ns:List Int},RelL F φ vs (ns.map .int) → IntsAre vs ns
  | _,[],h => by cases h; exact .nil
  | _,n :: ns,h => by
    cases h with
    | cons r rs => obtain ⟨_,rfl⟩:=r.inv; exact .cons _ _ (relL_ints rs)
theorem relL_of_ints {vs:List Value} {ns:List Int} (h:IntsAre vs ns):RelL F φ vs (ns.map .int):=by
  induction h with
  | nil => exact .nil
  | cons n t r ih => exact .cons (.int n t) ih
theorem OpB.add_list {xs ys:List V} {R:V → Sg → Prop} (H:AmbOk prog w Amb mg mb) (hz:xs.length + ys.length ≤ sizeLine) (h:R (.list (xs ++ ys)) σ):OpB prog w Amb A B env μ σ .Add (.list xs) (.list ys) R:=by
  rintro a b P s ⟨F,φ,m,ow,S⟩
  obtain ⟨l,vs,n,rfl,hF,hL⟩:=S.top2.inv
  obtain ⟨l2,vs2,n2,rfl,hF2,hL2⟩:=S.top.inv
  have h1:=S.sub _ _ hF
  have h2:=S.sub _ _ hF2
  have e1:=hL.length
  have e2:=hL2.length
  simp only [Array.length_toList] at e1 e2
  refine concat_meets ⟨_,h1,rfl⟩ ⟨_,h2,rfl⟩ noFill_list_add seq_list_add PySem.F.slot_list_add PySem.F.entry_list_add (PySem.F.args_list_add_2 _ _) (list_addW l l2 vs vs2 n n2 none none #[] #[] (by lia)) ⟨h1,h2,?_⟩
  obtain ⟨F',T⟩:=S.pop2.fresh (vs:=vs ++ vs2) (n:=0) (s':={ s with heap:=s.heap.push (listO (vs ++ vs2) 0) }) H (Grow.push _ _) (none_at_size _) (Heap.get?_push_size _ rfl) (by rw [Array.toList_append]; exact hL.append hL2)
  exact ⟨_,σ,⟨F',φ,m,ow,T⟩,h⟩
theorem relL_rep {vs:List Value} {xs:List V} (r:RelL F φ vs xs):∀ k:Nat,RelL F φ (List.replicate k vs).flatten (List.replicate k xs).flatten
  | 0 => by simp; exact .nil
  | k + 1 => by simp only [List.replicate_succ,List.flatten_cons]; exact r.append (relL_rep r k)
theorem foldl_app:∀ (l:List (Array Value)) (a:Array Value),(l.foldl (fun x y => x ++ y) a).toList = a.toList ++ (l.map (·.toList)).flatten
  | [],a => by simp
  | b :: l,a => by rw [List.foldl_cons,foldl_app l]; simp [List.append_assoc]
theorem OpB.mul_list {xs:List V} {i:Int} {R:V → Sg → Prop} (H:AmbOk prog w Amb mg mb) (h0:0 ≤ i ∧ i ≤ 1000) (hz:xs.length ≤ 1000) (hne:xs ≠ []) (h:R (.list (List.replicate i.toNat xs).flatten) σ):OpB prog w Amb A B env μ σ .Mult (.list xs) (.int i) R:=by
  rintro a b P s ⟨F,φ,m,ow,S⟩
  obtain ⟨u,rfl⟩:=S.top.inv
  obtain ⟨l,vs,n,rfl,hF,hL⟩:=S.top2.inv
  have hl:=S.sub _ _ hF
  have e1:=hL.length
  simp only [Array.length_toList] at e1
  have hb:vs.size * i.toNat ≤ 1000 * 1000:=Nat.mul_le_mul (by lia) (by lia)
  have hne':vs.isEmpty = false:=by
    cases xs with
    | nil => exact absurd rfl hne
    | cons x xs => cases hv:vs.isEmpty with
      | false => rfl
      | true => rw [Array.isEmpty_iff_size_eq_zero] at hv; simp at e1; lia
  refine wpAny_binaryOp_repeat_ref (T:="list") (U:="int") (by decide) ⟨_,hl,rfl⟩ (fun s' => typeIs_int s' i u) noFill_list_mul PySem.F.fills_int_mul PySem.F.slot_int_rmul repeat_list PySem.F.slot_int_index.lookup
    (call_meets PySem.F.slot_int_rmul (typeIs_int s i u) PySem.F.entry_int_rmul (PySem.F.args_int_rmul_2 _ _) (int___rmul___int_list i u l vs n)
      ⟨hl,rfl,⟨_,hl,rfl⟩,call_meets PySem.F.slot_list_mul ⟨_,hl,rfl⟩ PySem.F.entry_list_mul (PySem.F.args_list_mul_2 _ _)
        (AutoListH.list___mul___list_int_3 l vs n i u (by simp [Builtin.List.listFitsIndex]; lia) (by lia) (by simp [Builtin.List.listTooLong,sizeLine]; lia))
        ⟨hl,?_⟩⟩)
  obtain ⟨F',T⟩:=S.pop2.fresh (vs:=List.foldl (fun x1 x2 => x1 ++ x2) #[] (List.replicate (if vs.isEmpty = true then 0 else i.toNat) vs)) (n:=0) (ys:=(List.replicate i.toNat xs).flatten)
    (s':={ s with heap:=s.heap.push (listO (List.foldl (fun x1 x2 => x1 ++ x2) #[] (List.replicate (if vs.isEmpty = true then 0 else i.toNat) vs)) 0) }) H (Grow.push _ _) (none_at_size _) (Heap.get?_push_size _ rfl)
    (by rw [foldl_app,hne',if_neg (by simp),List.map_replicate]; simpa using relL_rep hL i.toNat)
  exact ⟨_,σ,⟨F',φ,m,ow,T⟩,h⟩
theorem WC.sorted_ints {ns:List Int} {R:V → Sg → Prop} (H:AmbOk prog w Amb mg mb) (hz:ns.length < 64) (h:∀ ns':List Int,ns'.Perm ns → ns'.Pairwise (· ≤ ·) → R (.list (ns'.map .int)) σ) :
    WC prog w Amb A B env μ σ (.builtin "sorted") [.list (ns.map .int)] R:=by
  rintro P vs s hl ⟨F,φ,m,ow,S⟩
  obtain ⟨v,rfl⟩:=len_one hl
  have S':=S.dropRels
  have hr:Rel F φ v (.list (ns.map .int)):=S.pend _ _ (by simp [rels])
  obtain ⟨l,us,n,rfl,hF,hL⟩:=hr.inv
  have hI:=relL_ints hL
  have e1:=hL.length
  simp only [List.length_map] at e1
  refine PyProof.Rows.sorted_ints (vs:=us.toList) ⟨_,S.sub _ _ hF,rfl,n,by simp [listO]⟩ hI (by lia) fun out ns' a1 a2 a3 => ?_
  obtain ⟨e,he⟩:=sortedAll_at s.heap us.toList out
  obtain ⟨F',T⟩:=S'.fresh (vs:=out) (n:=e) (ys:=ns'.map .int) (s':={ s with heap:=sortedAll s.heap us.toList out }) H ⟨fun _ _ => sortedAll_old,rfl,.rfl⟩ (none_above (Nat.le_succ _)) he (relL_of_ints a1)
  exact ⟨_,σ,⟨F',φ,m,ow,T⟩,h ns' a2 a3⟩
theorem preSum_eq (ns:List Int) (val:Nat → Int) (h:∀ i x,ns[i]? = some x → val i = x):∀ j,j ≤ ns.length → preSum val j = (ns.take j).sum
  | 0,_ => by simp [preSum]
  | j + 1,hj => by
    rw [preSum,preSum_eq ns val h j (by lia),List.take_succ_eq_append_getElem (by lia:j < ns.length),List.sum_append,h j _ (List.getElem?_eq_getElem (by lia))]
    simp
theorem WC.sum_ints {ns:List Int} {R:V → Sg → Prop} (hh:A.handled = Option.none) (h:R (.int ns.sum) σ):WC prog w Amb A B env μ σ (.builtin "sum") [.list (ns.map .int)] R:=by
  rintro P vs s hl ⟨F,φ,m,ow,S⟩
  obtain ⟨v,rfl⟩:=len_one hl
  have S':=S.dropRels
  have hr:Rel F φ v (.list (ns.map .int)):=S.pend _ _ (by simp [rels])
  obtain ⟨l,us,n,rfl,hF,hL⟩:=hr.inv
  have hI:=relL_ints hL
  have e1:=hL.length
  simp only [List.length_map,Array.length_toList] at e1
  have hl':s.heap.IsList l us:=⟨_,S.sub _ _ hF,rfl,_,rfl⟩
  have hlt:l ≠ s.heap.objs.size:=Nat.ne_of_lt (Heap.lt_size (S.sub _ _ hF))
  have hn:=none_at_size s.heap
  obtain ⟨f1,f2,f3,f4,f5,f6⟩:=S'.free hn
  refine call_sum_walkG (wpAny_pyIter_list hl' ?_)
  refine ⟨s.heap.objs.size,_,_,_,_,_,fun i => (ns[i]?).getD 0,rfl,Walks.list (A:=A.in1) hh s.heap.objs.size l hlt us,⟨⟨_,Heap.get?_push_size _ rfl,rfl,rfl⟩,⟨_,Heap.get?_push_of_some _ (S.sub _ _ hF),rfl,_,rfl⟩⟩,?_,?_,?_⟩
  · intro b hb
    simp only [List.mem_cons,List.mem_nil_iff,or_false] at hb
    have hlt2:=Heap.lt_size (S.sub _ _ hF)
    show b < (s.heap.push _).objs.size
    rw [Heap.size_push]
    rcases hb with rfl | rfl
    · exact Nat.lt_succ_self _
    · exact Nat.lt_succ_of_lt hlt2
  · intro i u hu
    have:us.toList[i]? = some u:=by simpa using hu
    obtain ⟨x,hx,r⟩:=hL.get this
    rw [List.getElem?_map] at hx
    obtain ⟨k,hk,rfl⟩:=Option.map_eq_some_iff.mp hx
    obtain ⟨_,rfl⟩:=r.inv
    have ek:(ns[i]?).getD 0 = k:=by rw [hk]; rfl
    dsimp only
    rw [ek]
    exact ⟨_,rfl⟩
  · intro h' tk t' hk
    have e:preSum (fun i => (ns[i]?).getD 0) us.size = ns.sum:=by
      rw [e1,preSum_eq ns _ (fun i x hx => by simp [hx]) _ (Nat.le_refl _),List.take_length]
    rw [e]
    refine ⟨.int ns.sum,σ,⟨F,φ,m,ow,?_⟩,h⟩
    refine (S'.grow (s':={ s with heap:=h',toks:=tk }) ⟨fun b o hb => ?_,rfl,.rfl⟩).add (.int _ _)
    refine hk b o (fun hm => ?_) (Heap.get?_push_of_some _ hb)
    simp only [List.mem_singleton] at hm
    subst hm
    rw [hn] at hb; cases hb
end
section
variable {prog:Program} {w:World} {Amb:Fz → Prop} {A:Around} {B:Base} {env env':Env} {μ μ':Mu} {σ σ':Sg} {mg mb:Str → Option Value}
variable {P P':List Pend} {s s' s₁:Shared} {F F':Fz} {φ φ':List Addr} {m m':Str → Option Value} {ow ow':List (Str × Addr)}
structure Meth (y:V) (name:Str) (id:String):Prop where
  ty:typeOf (.builtin id) = pure (.type "method_descriptor")
  at_:∃ T,PlainAttrs T ∧ Slot T name id ∧ ((∃ x,y = .str x ∧ T = "str") ∨ (∃ xs,y = .list xs ∧ T = "list"))
theorem WE.meth {o:PySem.Expr} {name:Str} {apos pos:Pos} {args:List PySem.Expr} {R:V → Sg → Prop}
    (h:WE prog w Amb A B env μ σ o (fun y σ1 => ∃ id,Meth y name id ∧ WAs prog w Amb A B env μ σ1 args (fun ys σ2 => WC prog w Amb A B env μ σ2 (.builtin id) (y :: ys) R)))
    (hbase:attributeBase o name env (eval o env) = eval o env:=by rfl)
    (hargs:backTo pos (starEach args env) = args.map fun e => (false,eval e env):=by rfl)
    (hfew:decide (args.length < 30) = true:=by rfl)
    (hline:(apos.endLine == pos.line) = true:=by rfl):WE prog w Amb A B env μ σ (.Call (.Attribute o name apos) args [] pos) R:=by
  intro P s S
  have hall:∀ l:List PySem.Expr,(l.map fun e => (false,eval e env)).all (fun x => !x.1) = true:=fun l => by induction l <;> simp_all
  refine wpAny_Call_method_lateS hbase ?_ hline (wpAny_mono (h P s S) (fun v s1 ⟨y,σ1,S1,id,hM,h1⟩ => ?_) fun _ _ x => x)
  · rw [hargs,hall]
    have:=of_decide_eq_true hfew
    show (true && _ && decide (args.length + 0 + 0 < 30)) = true
    simp only [Nat.add_zero]
    rw [hfew]
    rfl
  · obtain ⟨T,pa,slot,hT⟩:=hM.at_
    have hty:s1.TypeIs v T ∧ ∀ a,v = .ref a → ∃ ob,s1.heap.get? a = some ob ∧ ob.dict = Option.none:=by
      obtain ⟨F,φ,m,ow,S1⟩:=S1
      rcases hT with ⟨x,rfl,rfl⟩ | ⟨xs,rfl,rfl⟩
      · obtain ⟨_,rfl⟩:=S1.top.inv
        exact ⟨typeIs_str _ _ _,fun a e => nomatch e⟩
      · obtain ⟨_,_,_,rfl,hF,_⟩:=S1.top.inv
        exact ⟨⟨_,S1.sub _ _ hF,rfl⟩,fun a e => by cases e; exact ⟨_,S1.sub _ _ hF,rfl⟩⟩
    refine ⟨T,id,pa,slot,hM.ty,hty.1,hty.2,?_⟩
    rw [hargs]
    have:=callWith_plain (prog:=prog) (w:=w) (A:=A) (pos:=pos) (f:=.builtin id) (first:=[v]) (ts:=args.map fun e => eval e env) (ks:=[]) (s:=s1) (Q:=VP Amb B env μ P R) (E:=nofail)
      (.inl ⟨_,rfl⟩) ?_
    · simpa [Function.comp_def] using this
    · rw [List.map_map]
      refine wpAny_mono (h1 _ s1 S1) (fun vs s2 qq => ?_) fun _ _ x => x
      obtain ⟨ys,σ2,hl,S2,h2⟩:=qq
      refine wpAny_evalAll_nil ⟨(fun a e => nomatch e),?_⟩
      refine h2 P (v :: vs) s2 (by simp [hl]) (S2.drop fun q hq => ?_)
      rw [rels_cons] at hq
      simp only [List.cons_append,List.mem_cons,List.mem_append] at hq ⊢
      rcases hq with e | e | e
      · exact .inr (.inl e)
      · exact .inl e
      · exact .inr (.inr e)
theorem meth_str {x:Str} {name:Str} {id:String} (slot:Slot "str" name id) (ty:typeOf (.builtin id) = pure (.type "method_descriptor")):Meth (.str x) name id:=⟨ty,"str",PySem.F.plainAttrs_str,slot,.inl ⟨x,rfl,rfl⟩⟩
theorem meth_list {xs:List V} {name:Str} {id:String} (slot:Slot "list" name id) (ty:typeOf (.builtin id) = pure (.type "method_descriptor")):Meth (.list xs) name id:=⟨ty,"list",PySem.F.plainAttrs_list,slot,.inr ⟨xs,rfl,rfl⟩⟩
theorem WC.one {f:Value} {y:V} {R:V → Sg → Prop} (h:∀ v P s F φ m ow,StF Amb B env μ σ P s F φ m ow → Rel F φ v y → wpAny (model prog w) A (call f [v]) (VP Amb B env μ P R) nofail s) :
    WC prog w Amb A B env μ σ f [y] R:=by
  rintro P vs s hl ⟨F,φ,m,ow,S⟩
  obtain ⟨v,rfl⟩:=len_one hl
  exact h v P s F φ m ow S.dropRels (S.pend _ _ (by simp [rels]))
theorem WC.two {f:Value} {y z:V} {R:V → Sg → Prop} (h:∀ v u P s F φ m ow,StF Amb B env μ σ P s F φ m ow → Rel F φ v y → Rel F φ u z → wpAny (model prog w) A (call f [v,u]) (VP Amb B env μ P R) nofail s) :
    WC prog w Amb A B env μ σ f [y,z] R:=by
  rintro P vs s hl ⟨F,φ,m,ow,S⟩
  obtain ⟨v,u,rfl⟩:=len_two hl
  exact h v u P s F φ m ow S.dropRels (S.pend _ _ (by simp [rels])) (S.pend _ _ (by simp [rels]))
theorem WC.len_str {x:Str} {R:V → Sg → Prop} (hz:(x.length:Int) < 2 ^ 63) (h:R (.int x.length) σ):WC prog w Amb A B env μ σ (.builtin "len") [.str x] R :=
  WC.one fun v P s F φ m ow S r => by
    obtain ⟨_,rfl⟩:=r.inv
    exact PyProof.Rows.len_str (by lia) ⟨_,σ,⟨F,φ,m,ow,(S.grow (Grow.toks _)).add (.int _ _)⟩,h⟩
theorem WC.chr {i:Int} {R:V → Sg → Prop} (h0:0 ≤ i) (h1:i ≤ 1114111) (h:R (.str ⟨#[i.toNat]⟩) σ):WC prog w Amb A B env μ σ (.builtin "chr") [.int i] R :=
  WC.one fun v P s F φ m ow S r => by
    obtain ⟨_,rfl⟩:=r.inv
    exact chr_of_range h0 h1 ⟨_,σ,⟨F,φ,m,ow,(S.grow (Grow.toks _)).add (.str _ _)⟩,h⟩
theorem WC.ord {x:Str} {R:V → Sg → Prop} (h1:x.length = 1) (h:R (.int (x.cps.getD 0 0:Nat)) σ):WC prog w Amb A B env μ σ (.builtin "ord") [.str x] R :=
  WC.one fun v P s F φ m ow S r => by
    obtain ⟨_,rfl⟩:=r.inv
    exact ord_of_one h1 ⟨_,σ,⟨F,φ,m,ow,(S.grow (Grow.toks _)).add (.int _ _)⟩,h⟩
theorem WC.str_int {i:Int} {R:V → Sg → Prop} (hi:i.natAbs.log2 < 1920) (h:R (.str (Str.ofString (toString i))) σ):WC prog w Amb A B env μ σ (.type "str") [.int i] R :=
  WC.one fun v P s F φ m ow S r => by
    obtain ⟨_,rfl⟩:=r.inv
    exact PySem.P.str_of_int hi ⟨_,σ,⟨F,φ,m,ow,(S.grow (Grow.toks _)).add (.str _ _)⟩,h⟩
theorem WC.str_lower {x:Str} {R:V → Sg → Prop} (hz:x.length ≤ 1000) (h:R (.str (Txt.lower x)) σ):WC prog w Amb A B env μ σ (.builtin "str.lower") [.str x] R :=
  WC.one fun v P s F φ m ow S r => by
    obtain ⟨_,rfl⟩:=r.inv
    exact PyProof.Rows.SCL.lower (by lia) fun _ => ⟨_,σ,⟨F,φ,m,ow,(S.grow (Grow.toks _)).add (.str _ _)⟩,h⟩
theorem WC.str_upper {x:Str} {R:V → Sg → Prop} (hz:x.length ≤ 1000) (h:R (.str (Txt.upper x)) σ):WC prog w Amb A B env μ σ (.builtin "str.upper") [.str x] R :=
  WC.one fun v P s F φ m ow S r => by
    obtain ⟨_,rfl⟩:=r.inv
    exact PyProof.Rows.SCL.upper (by lia) fun _ => ⟨_,σ,⟨F,φ,m,ow,(S.grow (Grow.toks _)).add (.str _ _)⟩,h⟩
theorem WC.str_count {x y:Str} {R:V → Sg → Prop} (h:R (.int (Txt.count x y)) σ):WC prog w Amb A B env μ σ (.builtin "str.count") [.str x,.str y] R :=
  WC.two fun v u P s F φ m ow S r r' => by
    obtain ⟨_,rfl⟩:=r.inv; obtain ⟨_,rfl⟩:=r'.inv
    exact PySem.SC.count ⟨_,σ,⟨F,φ,m,ow,(S.grow (Grow.toks _)).add (.int _ _)⟩,h⟩
theorem WC.str_startswith {x y:Str} {R:V → Sg → Prop} (h:R (.bool (Txt.startswith x y)) σ):WC prog w Amb A B env μ σ (.builtin "str.startswith") [.str x,.str y] R :=
  WC.two fun v u P s F φ m ow S r r' => by
    obtain ⟨_,rfl⟩:=r.inv; obtain ⟨_,rfl⟩:=r'.inv
    exact PySem.SC.startswith ⟨_,σ,⟨F,φ,m,ow,S.add (.bool _)⟩,h⟩
theorem WC.str_endswith {x y:Str} {R:V → Sg → Prop} (h:R (.bool (Txt.endswith x y)) σ):WC prog w Amb A B env μ σ (.builtin "str.endswith") [.str x,.str y] R :=
  WC.two fun v u P s F φ m ow S r r' => by
    obtain ⟨_,rfl⟩:=r.inv; obtain ⟨_,rfl⟩:=r'.inv
    exact PySem.SC.endswith ⟨_,σ,⟨F,φ,m,ow,S.add (.bool _)⟩,h⟩
noncomputable def find4 (x y:Str) (i j:Nat):Int:=match Builtin.Str.occurrences x y i (min j x.length) 1 with | k :: _ => (k:Int) | [] => -1
theorem gives_find4 (x y:Str) (i j:Nat) (t u v z:Tok):Gives (Builtin.«str.find» ⟨[.str x t,.str y u,.int i v,.int j z],[]⟩) (.int (find4 x y i j)):=by
  have e1:∀ k:Nat,(max 0 (if (k:Int) < 0 then (k:Int) + (x.length:Int) else (k:Int))).toNat = k:=fun k => by
    rw [if_neg (by lia)]; lia
  show Gives (match Builtin.Str.occurrences x y (max 0 (if (i:Int) < 0 then (i:Int) + (x.length:Int) else (i:Int))).toNat (min (max 0 (if (j:Int) < 0 then (j:Int) + (x.length:Int) else (j:Int))).toNat x.length) 1 with | k :: _ => retInt k | [] => (do rule "str.find.not-found"; retInt (-1))) _
  rw [e1,e1]
  unfold find4
  cases Builtin.Str.occurrences x y i (min j x.length) 1 with
  | nil => exact .rule (.of_eq rfl)
  | cons k _ => exact .of_eq rfl
theorem WC.str_find4 {x y:Str} {i j:Nat} {R:V → Sg → Prop} (h:R (.int (find4 x y i j)) σ):WC prog w Amb A B env μ σ (.builtin "str.find") [.str x,.str y,.int i,.int j] R:=by
  rintro P vs s hl ⟨F,φ,m,ow,S⟩
  obtain ⟨a,b,c,d,rfl⟩:=len_four hl
  have r1:Rel F φ a (.str x):=S.pend _ _ (by simp [rels])
  have r2:Rel F φ b (.str y):=S.pend _ _ (by simp [rels])
  have r3:Rel F φ c (.int i):=S.pend _ _ (by simp [rels])
  have r4:Rel F φ d (.int j):=S.pend _ _ (by simp [rels])
  obtain ⟨_,rfl⟩:=r1.inv; obtain ⟨_,rfl⟩:=r2.inv; obtain ⟨_,rfl⟩:=r3.inv; obtain ⟨_,rfl⟩:=r4.inv
  exact PySem.call_gives PySem.F.slot_str_find (typeIs_str _ _ _) PySem.F.entry_str_find (PySem.F.args_str_find_4 _ _ _ _) (gives_find4 _ _ _ _ _ _ _ _) ⟨_,σ,⟨F,φ,m,ow,(S.dropRels.grow (Grow.toks _)).add (.int _ _)⟩,h⟩
theorem WC.count_ints {ns:List Int} {k:Int} {R:V → Sg → Prop} (h:R (.int (ns.count k:Nat)) σ):WC prog w Amb A B env μ σ (.builtin "list.count") [.list (ns.map V.int),.int k] R :=
  WC.two fun v u P s F φ m ow S r r' => by
    obtain ⟨_,rfl⟩:=r'.inv
    obtain ⟨l,us,n,rfl,hF,hL⟩:=r.inv
    exact count_list_ints (vs:=us.toList) ⟨_,S.sub _ _ hF,rfl,n,by simp [listO]⟩ (relL_ints hL) ⟨_,σ,⟨F,φ,m,ow,(S.grow (Grow.toks _)).add (.int _ _)⟩,h⟩
theorem small_of {a b:Int} (h:iterFits (.rng a b)):Builtin.Range.small a b 1 = true:=(small_fits h).1
theorem WC.list_range {a b:Int} {R:V → Sg → Prop} (H:AmbOk prog w Amb mg mb) (hh:A.handled = Option.none) (hf:iterFits (.rng a b)) (hz:(b - a).toNat ≤ 2 ^ 24) (h:R (.list (((List.range (b - a).toNat).map fun i => a + (i:Nat)).map V.int)) σ) :
    WC prog w Amb A B env μ σ (.type "list") [.rng a b] R :=
  WC.one fun v P s F φ m ow S r => by
    obtain ⟨r,t,u,k,rfl,hF⟩:=r.inv
    obtain ⟨h1,h2⟩:=small_fits hf
    refine call_list_range hh (S.sub _ _ hF) h1 h2 hz fun h' tk acc c hk hS hit => ?_
    have hI:IntsAre acc.toList ((List.range (b - a).toNat).map fun i => a + (i:Nat)):=by
      obtain ⟨e1,e2⟩:=hit
      have:∀ (l:List Value) (ns:List Int),l.length = ns.length → (∀ (i:Nat) (v:Value) (n:Int),l[i]? = some v → ns[i]? = some n → ∃ t,v = Value.int n t) → IntsAre l ns:=by
        intro l
        induction l with
        | nil => intro ns hl _; cases ns with
          | nil => exact .nil
          | cons _ _ => cases hl
        | cons v l ih => intro ns hl hv; cases ns with
          | nil => cases hl
          | cons n ns =>
            obtain ⟨t,rfl⟩:=hv 0 v n rfl rfl
            exact .cons n t (ih ns (by simpa using hl) fun i v m h1 h2 => hv (i + 1) v m h1 h2)
      refine this _ _ (by simp [e1]) fun i v n g1 g2 => ?_
      have g1':acc[i]? = some v:=by simpa using g1
      obtain ⟨t,rfl⟩:=e2 i v g1'
      have hi:i < (b - a).toNat:=by
        have:=(Array.getElem?_eq_some_iff.mp g1').1
        lia
      rw [List.getElem?_map,List.getElem?_range hi] at g2
      simp only [Option.map_some,Option.some.injEq] at g2
      subst g2
      exact ⟨t,by rw [Int.mul_one]⟩
    obtain ⟨F',T⟩:=S.fresh (s':={ s with heap:=h',toks:=tk }) H ⟨hk,rfl,.rfl⟩ (none_at_size _) hS (relL_of_ints hI)
    exact ⟨_,σ,⟨F',φ,m,ow,T⟩,h⟩
end
section
variable {prog:Program} {w:World} {Amb:Fz → Prop} {A:Around} {B:Base} {env env':Env} {μ μ':Mu} {σ σ':Sg} {mg mb:Str → Option Value} {sc:Scope}
variable {P P':List Pend} {s s' s₁:Shared} {F F':Fz} {φ φ':List Addr} {m m':Str → Option Value} {ow ow':List (Str × Addr)}
theorem WB.or2 {a b:PySem.Expr} {p:Pos} {R:Bool → Sg → Prop} (h:WB prog w Amb A B env μ σ a (fun c σ1 => if c = true then R true σ1 else WB prog w Amb A B env μ σ1 b R)):WB prog w Amb A B env μ σ (.BoolOp .Or [a,b] p) R:=by
  intro P s S
  refine wpAny_isTrue_BoolOp (wpAny_allTrue_Or_cons (wpAny_mono (h P s S) (fun c s1 qq => ?_) fun _ _ x => x))
  obtain ⟨σ1,S1,h1⟩:=qq
  cases c
  · simp only [Bool.false_eq_true,if_false] at h1 ⊢
    refine wpAny_allTrue_Or_cons (wpAny_mono (h1 P s1 S1) (fun c s2 qq => ?_) fun _ _ x => x)
    obtain ⟨σ2,S2,h2⟩:=qq
    cases c
    · exact wpAny_allTrue_Or_nil ⟨σ2,S2,h2⟩
    · exact ⟨σ2,S2,h2⟩
  · exact ⟨σ1,S1,h1⟩
theorem WB.and2 {a b:PySem.Expr} {p:Pos} {R:Bool → Sg → Prop} (h:WB prog w Amb A B env μ σ a (fun c σ1 => if c = true then WB prog w Amb A B env μ σ1 b R else R false σ1)):WB prog w Amb A B env μ σ (.BoolOp .And [a,b] p) R:=by
  intro P s S
  refine wpAny_isTrue_BoolOp (wpAny_allTrue_And_cons (wpAny_mono (h P s S) (fun c s1 qq => ?_) fun _ _ x => x))
  obtain ⟨σ1,S1,h1⟩:=qq
  cases c
  · exact ⟨σ1,S1,h1⟩
  · simp only [if_true] at h1 ⊢
    refine wpAny_allTrue_And_cons (wpAny_mono (h1 P s1 S1) (fun c s2 qq => ?_) fun _ _ x => x)
    obtain ⟨σ2,S2,h2⟩:=qq
    cases c
    · exact ⟨σ2,S2,h2⟩
    · exact wpAny_allTrue_And_nil ⟨σ2,S2,h2⟩
inductive NoneIs:V → Bool → Prop
  | none:NoneIs .none true
  | bool (b:Bool):NoneIs (.bool b) false
  | int (i:Int):NoneIs (.int i) false
  | str (x:Str):NoneIs (.str x) false
  | list (x:List V):NoneIs (.list x) false
  | hdr (i:Nat):NoneIs (.hdr i) false
theorem NoneIs.beq {v:Value} {y:V} {b:Bool} (h:NoneIs y b) (r:Rel F φ v y):(v == Value.none) = b:=by
  cases h with
  | none => obtain rfl:=r.inv; rfl
  | bool => obtain rfl:=r.inv; rfl
  | int => obtain ⟨_,rfl⟩:=r.inv; rfl
  | str => obtain ⟨_,rfl⟩:=r.inv; rfl
  | list => obtain ⟨_,_,_,rfl,_⟩:=r.inv; rfl
  | hdr => obtain ⟨_,_,_,_,_,_,rfl,_⟩:=r.inv; rfl
theorem OpC.is_none {y:V} {b:Bool} {R:V → Sg → Prop} (hb:NoneIs y b) (h:R (.bool b) σ):OpC prog w Amb A B env μ σ .Is y .none R:=by
  rintro v u P s ⟨F,φ,m,ow,S⟩
  obtain rfl:=S.top.inv
  exact is_none_gen ⟨_,σ,⟨F,φ,m,ow,S.pop2.add (.bool _)⟩,by rw [hb.beq S.top2]; exact h⟩
theorem OpC.isnot_none {y:V} {b:Bool} {R:V → Sg → Prop} (hb:NoneIs y b) (h:R (.bool (!b)) σ):OpC prog w Amb A B env μ σ .IsNot y .none R:=by
  rintro v u P s ⟨F,φ,m,ow,S⟩
  obtain rfl:=S.top.inv
  exact isnot_none_gen ⟨_,σ,⟨F,φ,m,ow,S.pop2.add (.bool _)⟩,by rw [hb.beq S.top2]; exact h⟩
theorem OpC.in_str {x y:Str} {R:V → Sg → Prop} (h:R (.bool (Txt.contains x y)) σ):OpC prog w Amb A B env μ σ .In (.str y) (.str x) R:=by
  rintro a b P s ⟨F,φ,m,ow,S⟩
  obtain ⟨_,_,rfl,rfl⟩:=S.two_str
  exact PySem.SB.contains ⟨_,σ,⟨F,φ,m,ow,S.pop2.add (.bool _)⟩,h⟩
theorem OpC.notIn_str {x y:Str} {R:V → Sg → Prop} (h:R (.bool (!Txt.contains x y)) σ):OpC prog w Amb A B env μ σ .NotIn (.str y) (.str x) R:=by
  rintro a b P s ⟨F,φ,m,ow,S⟩
  obtain ⟨_,_,rfl,rfl⟩:=S.two_str
  exact PySem.SB.notContains ⟨_,σ,⟨F,φ,m,ow,S.pop2.add (.bool _)⟩,h⟩
theorem OpC.ne_bool {a b:Bool} {R:V → Sg → Prop} (h:R (.bool (a != b)) σ):OpC prog w Amb A B env μ σ .NotEq (.bool a) (.bool b) R:=by
  rintro u v P s ⟨F,φ,m,ow,S⟩
  obtain ⟨rfl,rfl⟩:=S.two_bool
  exact PyProof.Rows.ne_bool ⟨_,σ,⟨F,φ,m,ow,S.pop2.add (.bool _)⟩,h⟩
variable (prog w Amb A B env) in
noncomputable def WPt (μ:Mu) (σ:Sg) (p:Option PySem.Expr) (R:Option Int → Sg → Prop):Prop :=
  ∀ P s,St Amb B env μ σ P s → wpAny (model prog w) A (evalPart p env) (fun v s' => ∃ i σ',IsPart v i ∧ St Amb B env μ σ' P s' ∧ R i σ') nofail s
theorem WPt.none {R:Option Int → Sg → Prop} (h:R Option.none σ):WPt prog w Amb A B env μ σ Option.none R:=fun P s S => wpAny_pure ⟨_,σ,.none,S,h⟩
theorem WPt.some {e:PySem.Expr} {R:Option Int → Sg → Prop} (h:WE prog w Amb A B env μ σ e (fun y σ1 => ∃ i,y = .int i ∧ R (some i) σ1)):WPt prog w Amb A B env μ σ (some e) R:=by
  intro P s S
  rw [evalPart_some]
  refine wpAny_mono (h P s S) (fun v s1 qq => ?_) fun _ _ x => x
  obtain ⟨y,σ1,⟨F,φ,m,ow,S1⟩,i,e,r⟩:=qq
  subst e
  obtain ⟨_,rfl⟩:=S1.top.inv
  exact ⟨_,σ1,.int _ _,⟨F,φ,m,ow,S1.pop⟩,r⟩
noncomputable def slPick (xs:List V):Option Int → Option Int → Option (List V)
  | .none,.none => .some xs
  | .some i,.none => if 0 ≤ i then .some (xs.drop i.toNat) else .none
  | .none,.some j => if 0 ≤ j then .some (xs.take j.toNat) else .none
  | _,_ => .none
theorem RelL.drop {vs:List Value} {xs:List V} (h:RelL F φ vs xs):∀ k,RelL F φ (vs.drop k) (xs.drop k) :=
  h.ind (M:=fun vs xs => ∀ k,RelL F φ (vs.drop k) (xs.drop k)) (fun k => by cases k <;> exact .nil) fun r rs ih k => by
    cases k with
    | zero => exact .cons r rs
    | succ k => exact ih k
theorem RelL.take {vs:List Value} {xs:List V} (h:RelL F φ vs xs):∀ k,RelL F φ (vs.take k) (xs.take k) :=
  h.ind (M:=fun vs xs => ∀ k,RelL F φ (vs.take k) (xs.take k)) (fun k => by cases k <;> exact .nil) fun r rs ih k => by
    cases k with
    | zero => exact .nil
    | succ k => exact .cons r (ih k)
theorem RelL.reverse {vs:List Value} {xs:List V} (h:RelL F φ vs xs):RelL F φ vs.reverse xs.reverse:=by
  induction h using RelL.rec (motive_1:=fun _ _ _ => True) with
  | nil => exact .nil
  | cons r _ _ ih => rw [List.reverse_cons,List.reverse_cons]; exact ih.append (.cons r .nil)
  | _ => trivial
theorem slPick_rel {us:Array Value} {xs ys:List V} {lo hi:Option Int} (hL:RelL F φ us.toList xs) (hp:slPick xs lo hi = .some ys):RelL F φ (slicePick us lo hi Option.none).toList ys:=by
  match lo,hi,hp with
  | .none,.none,hp => simp only [slPick,Option.some.injEq] at hp; subst hp; rw [slicePick_all]; exact hL
  | .some i,.none,hp =>
    simp only [slPick] at hp
    set_option tactic.hygienic true in split at hp
    · rename_i h0
      cases hp
      obtain ⟨n,rfl⟩:=Int.eq_ofNat_of_zero_le h0
      rw [slicePick_from',Int.toNat_natCast]; exact hL.drop n
    · cases hp
  | .none,.some j,hp =>
    simp only [slPick] at hp
    set_option tactic.hygienic true in split at hp
    · rename_i h0
      cases hp
      obtain ⟨n,rfl⟩:=Int.eq_ofNat_of_zero_le h0
      rw [slicePick_upto',Int.toNat_natCast]; exact hL.take n
    · cases hp
theorem WE.lslice {value:PySem.Expr} {lower upper:Option PySem.Expr} {p pos:Pos} {R:V → Sg → Prop} (H:AmbOk prog w Amb mg mb)
    (h:WE prog w Amb A B env μ σ value (fun x σ1 => WPt prog w Amb A B env μ σ1 lower (fun lo σ2 => WPt prog w Amb A B env μ σ2 upper (fun hi σ3 => ∃ xs ys,x = .list xs ∧ xs.length ≤ sizeLine ∧ slPick xs lo hi = .some ys ∧ R (.list ys) σ3))))
    (ht:∀ o r,letTemporaryGo value o r = pure ():=by intro _ _; rfl):WE prog w Amb A B env μ σ (.Subscript value (.Slice lower upper Option.none p) pos) R:=by
  intro P s S
  refine wpAny_Subscript_list_slice (wpAny_mono (h P s S) (fun o s1 qq => ?_) fun _ _ x => x) ht
  obtain ⟨x,σ1,S1,h1⟩:=qq
  refine wpAny_mono (h1 _ s1 S1) (fun vl s2 qq => ?_) fun _ _ x => x
  obtain ⟨lo,σ2,pl,S2,h2⟩:=qq
  refine wpAny_mono (h2 _ s2 S2) (fun vu s3 qq => ?_) fun _ _ x => x
  obtain ⟨hi,σ3,pu,S3,xs,ys,e,hz,hp,hR⟩:=qq
  subst e
  obtain ⟨F,φ,m,ow,S3⟩:=S3
  obtain ⟨l,us,n,rfl,hF,hL⟩:=S3.top.inv
  have e1:=hL.length
  simp only [Array.length_toList] at e1
  refine ⟨l,us,lo,hi,rfl,⟨_,S3.sub _ _ hF,rfl,_,rfl⟩,by lia,pl,pu,?_⟩
  obtain ⟨F',T⟩:=S3.pop.fresh (a:=s3.heap.objs.size + 1) (vs:=slicePick us lo hi Option.none) (n:=0) (s':={ s3 with heap:=(s3.heap.push { cls:=.type "slice",data:=.fields #[vl,vu,.none] }).push (listO (slicePick us lo hi Option.none) 0) }) H
    ⟨fun b o hb => Heap.get?_push_of_some _ (Heap.get?_push_of_some _ hb),rfl,.rfl⟩ (none_above (Nat.le_succ _)) (by
      have:=Heap.get?_push_size (s3.heap.push { cls:=.type "slice",data:=.fields #[vl,vu,.none] }) (o:=listO (slicePick us lo hi Option.none) 0) rfl
      rw [Heap.size_push] at this
      exact this) (slPick_rel hL hp)
  exact ⟨_,σ3,⟨F',φ,m,ow,T⟩,hR⟩
theorem isPart_part {v:Value} {i:Option Int} (h:IsPart v i):∃ l:Option (Int × Tok),v = partValue l ∧ l.map (·.1) = i:=by
  cases h with
  | none => exact ⟨Option.none,rfl,rfl⟩
  | int i t => exact ⟨Option.some (i,t),rfl,rfl⟩
theorem WE.sslice {value:PySem.Expr} {lower upper:Option PySem.Expr} {p pos:Pos} {R:V → Sg → Prop}
    (h:WE prog w Amb A B env μ σ value (fun x σ1 => WPt prog w Amb A B env μ σ1 lower (fun lo σ2 => WPt prog w Amb A B env μ σ2 upper (fun hi σ3 => ∃ y,x = .str y ∧ y.length ≤ sizeLine ∧ R (.str (Txt.slice y lo hi)) σ3))))
    (ht:∀ o r,letTemporaryGo value o r = pure ():=by intro _ _; rfl):WE prog w Amb A B env μ σ (.Subscript value (.Slice lower upper Option.none p) pos) R:=by
  intro P s S
  refine wpAny_Subscript_str_slice (wpAny_mono (h P s S) (fun o s1 qq => ?_) fun _ _ x => x) ht
  obtain ⟨x,σ1,S1,h1⟩:=qq
  refine wpAny_mono (h1 _ s1 S1) (fun vl s2 qq => ?_) fun _ _ x => x
  obtain ⟨lo,σ2,pl,S2,h2⟩:=qq
  refine wpAny_mono (h2 _ s2 S2) (fun vu s3 qq => ?_) fun _ _ x => x
  obtain ⟨hi,σ3,pu,S3,y,e,hz,hR⟩:=qq
  subst e
  obtain ⟨F,φ,m,ow,S3⟩:=S3
  obtain ⟨l,e1,e2⟩:=isPart_part pl
  obtain ⟨u,e3,e4⟩:=isPart_part pu
  obtain ⟨t,rfl⟩:=S3.top.inv
  refine ⟨y,t,l,u,rfl,e1,e3,?_⟩
  subst e2 e4
  refine post_val_or_str ⟨Nat.le_trans (Txt.slice_le y _ _) hz,fun t' k => ?_⟩
  exact ⟨_,σ3,⟨F,φ,m,ow,(S3.pop.grow (s':={ s3 with heap:=s3.heap.push _,toks:=k }) ⟨fun b o hb => Heap.get?_push_of_some _ hb,rfl,.rfl⟩).add (.str _ _)⟩,hR⟩
theorem WE.rslice {value st:PySem.Expr} {p pos:Pos} {R:V → Sg → Prop} (H:AmbOk prog w Amb mg mb)
    (h:WE prog w Amb A B env μ σ value (fun x σ1 => WE prog w Amb A B env μ σ1 st (fun y σ2 => ∃ xs,x = .list xs ∧ y = .int (-1) ∧ xs.length ≤ sizeLine ∧ R (.list xs.reverse) σ2)))
    (ht:∀ o r,letTemporaryGo value o r = pure ():=by intro _ _; rfl):WE prog w Amb A B env μ σ (.Subscript value (.Slice Option.none Option.none (some st) p) pos) R:=by
  intro P s S
  refine wpAny_Subscript_Slice_step (T:="list") list_getitem_lookup (wpAny_mono (h P s S) (fun o s1 qq => ?_) fun _ _ x => x) ht
  obtain ⟨x,σ1,S1,h1⟩:=qq
  refine wpAny_Slice (wpAny_pure (wpAny_pure ?_))
  rw [evalPart_some]
  refine wpAny_mono (h1 _ s1 S1) (fun vs s3 qq => ?_) fun _ _ x => x
  obtain ⟨y,σ3,S3,xs,e,e',hz,hR⟩:=qq
  subst e e'
  obtain ⟨F,φ,m,ow,S3⟩:=S3
  have rt:=S3.top
  have rl:=S3.top2
  obtain ⟨tk,rfl⟩:=rt.inv
  obtain ⟨l,us,n,rfl,hF,hL⟩:=rl.inv
  have e1:=hL.length
  simp only [Array.length_toList] at e1
  have ho:(s3.heap.push { cls:=.type "slice",data:=.fields #[.none,.none,.int (-1) tk] }).get? l = some (listO us n):=Heap.get?_push_of_some _ (S3.sub _ _ hF)
  have hsl:(s3.heap.push { cls:=.type "slice",data:=.fields #[.none,.none,.int (-1) tk] }).get? s3.heap.objs.size = some { cls:=.type "slice",data:=.fields #[.none,.none,.int (-1) tk] }:=Heap.get?_push_size _ rfl
  refine ⟨⟨_,ho,rfl⟩,?_⟩
  refine wpAny_getItem_list_slice (lo:=Option.none) (hi:=Option.none) (st:=some (-1)) ⟨_,ho,rfl,_,rfl⟩ ⟨_,hsl,rfl,rfl⟩ .none .none (.int _ _) (by decide) ?_ (by lia)
  rw [krv_pick]
  obtain ⟨F',T⟩:=S3.pop2.fresh (a:=s3.heap.objs.size + 1) (vs:=us.toList.reverse.toArray) (n:=0) (ys:=xs.reverse) (s':={ s3 with heap:=(s3.heap.push { cls:=.type "slice",data:=.fields #[.none,.none,.int (-1) tk] }).push (listO us.toList.reverse.toArray 0) }) H
    ⟨fun b o hb => Heap.get?_push_of_some _ (Heap.get?_push_of_some _ hb),rfl,.rfl⟩ (none_above (Nat.le_succ _)) (by
      have:=Heap.get?_push_size (s3.heap.push { cls:=.type "slice",data:=.fields #[.none,.none,.int (-1) tk] }) (o:=listO us.toList.reverse.toArray 0) rfl
      rw [Heap.size_push] at this
      exact this) hL.reverse
  refine ⟨.list xs.reverse,σ3,?_,hR⟩
  simp only [Heap.size_push]
  exact ⟨F',φ,m,ow,T⟩
end
theorem mset_mset:∀ (μ:Mu) (x:Str) (a b:LV),mset (mset μ x a) x b = mset μ x b
  | [],x,a,b => by simp [mset]
  | (y,u) :: r,x,a,b => by
    simp only [mset]
    set_option tactic.hygienic true in split
    · rename_i e; simp [mset,e]
    · rename_i e; simp only [mset,e,if_false]; rw [mset_mset r x a b]
section
variable {prog:Program} {w:World} {Amb:Fz → Prop} {A:Around} {B:Base} {env env':Env} {μ μ':Mu} {σ σ':Sg} {mg mb:Str → Option Value} {sc:Scope}
variable {P P':List Pend} {s s' s₁:Shared} {F F':Fz} {φ φ':List Addr} {m m':Str → Option Value} {ow ow':List (Str × Addr)}
noncomputable abbrev loose (D:Addr) (us:Array Value) (n:Nat) (acc:List V) (P:List Pend):List Pend:=.held D (listO us n) true :: (rels us.toList acc ++ P)
theorem StF.give {x:Str} {D:Addr} {us:Array Value} {n:Nat} {acc:List V} (S:StF Amb B env μ σ (loose D us n acc P) s F φ m ow) (hl:us.size = acc.length) (hP:∀ o mi,Pend.held D o mi ∉ P) (hk:env.kindOf x = some .local) (hm:m x = some (.ref D)) :
    StF Amb B env (mset μ x (.own acc)) σ P s F φ m ((x,D) :: ow.filter fun p => decide (p.1 ≠ x)):=by
  obtain ⟨ho,h1,h2,h3,h4,h5⟩:=S.held D _ true (List.mem_cons_self ..)
  obtain ⟨h5,h6⟩:=h5 rfl
  have hin:∀ z a,(z,a) ∈ (x,D) :: ow.filter (fun p => decide (p.1 ≠ x)) ↔ (z = x ∧ a = D) ∨ ((z,a) ∈ ow ∧ z ≠ x):=fun z a => by simp
  have rl:=(S.drop (P':=rels us.toList acc ++ P) fun q hq => List.mem_cons_of_mem _ hq).relsL (by simp [hl])
  have lv:∀ z u l,z ≠ x → RelLV s.heap F φ ow z u l → RelLV s.heap F φ ((x,D) :: ow.filter fun p => decide (p.1 ≠ x)) z u l:=by
    intro z u l hz q
    cases l with
    | v _ => exact q
    | own xs =>
      obtain ⟨a,vs,n,e1,e2,e3,e4⟩:=q
      exact ⟨a,vs,n,e1,(hin _ _).mpr (.inr ⟨e2,hz⟩),e3,e4⟩
  exact { S with
    loc:=fun z l e1 e2 => by
      rw [mget_mset] at e1
      by_cases e:z = x
      · subst e
        rw [if_pos rfl] at e1
        cases e1
        exact ⟨_,hm,D,us,n,rfl,(hin _ _).mpr (.inl ⟨rfl,rfl⟩),ho,rl⟩
      · rw [if_neg e] at e1
        obtain ⟨u,a,b⟩:=S.loc z l e1 e2
        exact ⟨u,a,lv _ _ _ e b⟩
    cel:=fun z l e1 e2 e3 => by
      have e:z ≠ x:=fun e => by rw [e] at e2; rw [hk] at e2; cases e2
      rw [mget_mset_other _ _ _ _ e] at e1
      exact S.cel z l e1 e2 e3
    fre:=fun z l e1 e2 => by
      have e:z ≠ x:=fun e => by rw [e] at e2; rcases e2 with e2 | ⟨e2,_⟩ <;> (rw [hk] at e2; cases e2)
      rw [mget_mset_other _ _ _ _ e] at e1
      exact S.fre z l e1 e2
    own:=fun z a h => by
      rcases (hin _ _).mp h with ⟨rfl,rfl⟩ | ⟨h,_⟩
      · exact ⟨⟨_,ho⟩,h5,h1,h2,h3,h6⟩
      · exact S.own z a h
    ownk:=fun z y a g1 g2 => by
      have a1:=(hin _ _).mp g1
      have a2:=(hin _ _).mp g2
      rcases a1 with ⟨ez,ea⟩ | ⟨b1,_⟩ <;> rcases a2 with ⟨ey,ea'⟩ | ⟨b2,_⟩
      · exact ez.trans ey.symm
      · exact absurd (ea ▸ b2) (h4 y)
      · exact absurd (ea' ▸ b1) (h4 z)
      · exact S.ownk z y a b1 b2
    ownf:=fun z a b g1 g2 => by
      have a1:=(hin _ _).mp g1
      have a2:=(hin _ _).mp g2
      rcases a1 with ⟨ez,ea⟩ | ⟨b1,hz⟩ <;> rcases a2 with ⟨ey,ea'⟩ | ⟨b2,hz'⟩
      · exact ea.trans ea'.symm
      · exact absurd ez hz'
      · exact absurd ey hz
      · exact S.ownf z a b b1 b2
    pend:=fun v y h => S.pend v y (List.mem_cons_of_mem _ (List.mem_append_right _ h))
    held:=fun a o mi h => by
      obtain ⟨q,b1,b2,b3,b4,b5⟩:=S.held a o mi (List.mem_cons_of_mem _ (List.mem_append_right _ h))
      refine ⟨q,b1,b2,b3,fun z hz => ?_,b5⟩
      rcases (hin _ _).mp hz with ⟨rfl,rfl⟩ | ⟨hz,_⟩
      · exact hP _ _ h
      · exact b4 z hz }
theorem StF.take {x:Str} {xs:List V} (S:StF Amb B env μ σ P s F φ m ow) (hk:env.kindOf x = some .local) (hm:mget μ x = some (.own xs)) :
    ∃ D us n,us.size = xs.length ∧ m x = some (.ref D) ∧ (∀ o mi,Pend.held D o mi ∉ P) ∧ StF Amb B env (mset μ x (.v (.adr D))) σ (loose D us n xs P) s F φ m (ow.filter fun p => decide (p.1 ≠ x)):=by
  obtain ⟨v,hv,D,us,n,rfl,hin0,ho,rl⟩:=S.loc x _ hm hk
  obtain ⟨_,g1,g2,g3,g4,g5⟩:=S.own x D hin0
  have hl:=rl.length
  simp only [Array.length_toList] at hl
  have hin:∀ z a,(z,a) ∈ ow.filter (fun p => decide (p.1 ≠ x)) ↔ (z,a) ∈ ow ∧ z ≠ x:=fun z a => by simp
  refine ⟨D,us,n,hl,hv,fun o mi h => (S.held D o mi h).2.2.2.2.1 x hin0,?_⟩
  have lv:∀ z u l,z ≠ x → RelLV s.heap F φ ow z u l → RelLV s.heap F φ (ow.filter fun p => decide (p.1 ≠ x)) z u l:=by
    intro z u l hz q
    cases l with
    | v _ => exact q
    | own xs =>
      obtain ⟨a,vs,n,e1,e2,e3,e4⟩:=q
      exact ⟨a,vs,n,e1,(hin _ _).mpr ⟨e2,hz⟩,e3,e4⟩
  exact { S with
    loc:=fun z l e1 e2 => by
      rw [mget_mset] at e1
      by_cases e:z = x
      · subst e
        rw [if_pos rfl] at e1
        cases e1
        exact ⟨_,hv,.adr D⟩
      · rw [if_neg e] at e1
        obtain ⟨u,a,b⟩:=S.loc z l e1 e2
        exact ⟨u,a,lv _ _ _ e b⟩
    cel:=fun z l e1 e2 e3 => by
      have e:z ≠ x:=fun e => by rw [e] at e2; rw [hk] at e2; cases e2
      rw [mget_mset_other _ _ _ _ e] at e1
      exact S.cel z l e1 e2 e3
    fre:=fun z l e1 e2 => by
      have e:z ≠ x:=fun e => by rw [e] at e2; rcases e2 with e2 | ⟨e2,_⟩ <;> (rw [hk] at e2; cases e2)
      rw [mget_mset_other _ _ _ _ e] at e1
      exact S.fre z l e1 e2
    own:=fun z a h => S.own z a ((hin _ _).mp h).1
    ownk:=fun z y a g1 g2 => S.ownk z y a ((hin _ _).mp g1).1 ((hin _ _).mp g2).1
    ownf:=fun z a b g1 g2 => S.ownf z a b ((hin _ _).mp g1).1 ((hin _ _).mp g2).1
    pend:=fun v y h => by
      rcases List.mem_cons.mp h with e | h
      · cases e
      rcases List.mem_append.mp h with h | h
      · have hz:=mem_rels h
        have:∀ {vs:List Value} {ys:List V},RelL F φ vs ys → (v,y) ∈ vs.zip ys → Rel F φ v y:=by
          intro vs
          induction vs with
          | nil => intro ys _ h; simp at h
          | cons u vs ih =>
            intro ys r h
            cases r with
            | cons r rs =>
              simp only [List.zip_cons_cons,List.mem_cons] at h
              rcases h with e | h
              · cases e; exact r
              · exact ih rs h
        exact this rl hz
      · exact S.pend v y h
    held:=fun a o mi h => by
      rcases List.mem_cons.mp h with e | h
      · cases e
        exact ⟨ho,g2,g3,g4,fun z hz => ((hin _ _).mp hz).2 (S.ownk z x D ((hin _ _).mp hz).1 hin0),fun _ => ⟨g1,g5⟩⟩
      rcases List.mem_append.mp h with h | h
      · exact absurd h held_rels
      · obtain ⟨q,b1,b2,b3,b4,b5⟩:=S.held a o mi h
        exact ⟨q,b1,b2,b3,fun z hz => b4 z ((hin _ _).mp hz).1,b5⟩ }
theorem StF.freezeName {x:Str} {xs:List V} (H:AmbOk prog w Amb mg mb) (S:StF Amb B env μ σ P s F φ m ow) (hk:env.kindOf x = some .local) (hm:mget μ x = some (.own xs)) :
    ∃ F',StF Amb B env (mset μ x (.v (.list xs))) σ P s F' φ m (ow.filter fun p => decide (p.1 ≠ x)):=by
  obtain ⟨D,us,n,hl,hv,hP,T⟩:=S.take hk hm
  obtain ⟨F',T'⟩:=T.freezeList H hl hP
  refine ⟨F',?_⟩
  have rD:=T'.top
  have T'':=T'.pop
  have e2:∀ z,mget (mset μ x (.v (.list xs))) z = if z = x then some (.v (.list xs)) else mget μ z:=fun z => mget_mset ..
  have e3:∀ z,mget (mset μ x (.v (.adr D))) z = if z = x then some (.v (.adr D)) else mget μ z:=fun z => mget_mset ..
  exact { T'' with
    loc:=fun z l h1 h2 => by
      rw [e2] at h1
      by_cases e:z = x
      · subst e
        rw [if_pos rfl] at h1
        cases h1
        exact ⟨_,hv,rD⟩
      · rw [if_neg e] at h1
        exact T''.loc z l (by rw [e3,if_neg e]; exact h1) h2
    cel:=fun z l h1 h2 h3 => by
      have e:z ≠ x:=fun e => by rw [e] at h2; rw [hk] at h2; cases h2
      rw [e2,if_neg e] at h1
      exact T''.cel z l (by rw [e3,if_neg e]; exact h1) h2 h3
    fre:=fun z l h1 h2 => by
      have e:z ≠ x:=fun e => by rw [e] at h2; rcases h2 with h2 | ⟨h2,_⟩ <;> (rw [hk] at h2; cases h2)
      rw [e2,if_neg e] at h1
      exact T''.fre z l (by rw [e3,if_neg e]; exact h1) h2 }
theorem WS.freeze {x:Str} {xs:List V} {b:List Stmt} {R:Fl → Mu → Sg → Prop} (H:AmbOk prog w Amb mg mb) (hk:env.kindOf x = some .local) (hm:mget μ x = some (.own xs)) (h:WS prog w Amb A B env (mset μ x (.v (.list xs))) σ b R):WS prog w Amb A B env μ σ b R:=by
  rintro P s ⟨F,φ,m,ow,S⟩
  obtain ⟨F',T⟩:=S.freezeName H hk hm
  exact h P s ⟨F',φ,m,_,T⟩
theorem W1.assignEmpty {x:Str} {xp p q:Pos} {R:Fl → Mu → Sg → Prop} (K:EnvOk env) (hk:env.kindOf x = some .local) (h:R .next (mset μ x (.own [])) σ)
    (he:backTo q (starEach [] env) = []:=by rfl) (hs:swapsWith (.List [] q) (some (.Name x xp)) p.line env = pure false:=by rfl):W1 prog w Amb A B env μ σ (.Assign [.Name x xp] (.List [] q) p) R:=by
  rintro P s ⟨F,φ,m,ow,S⟩
  refine wpAny_Assign_Name (wpAny_List ?_) hs
  rw [he]
  refine Calls.spliced_nil ⟨by simp,?_⟩
  obtain ⟨f1,f2,f3,f4,f5,f6⟩:=S.free (none_at_size s.heap)
  have T:=((S.grow (Grow.push (listO #[] 0) s.toks)).hold (a:=s.heap.objs.size) (o:=listO #[] 0) (mi:=true) (Heap.get?_push_size _ rfl) f2 f3 f4 f5 fun _ => ⟨f1,f6⟩).add (.adr s.heap.objs.size)
  refine store_name K (.inl hk) ⟨F,φ,m,ow,T⟩ fun s' qq => ?_
  obtain ⟨F2,φ2,m2,ow2,T2⟩:=qq
  obtain ⟨v,hv,r⟩:=T2.loc x _ (mget_mset_self ..) hk
  obtain rfl:=Rel.inv r
  have T3:StF Amb B env (mset μ x (.v (.adr s.heap.objs.size))) σ (loose s.heap.objs.size #[] 0 [] P) s' F2 φ2 m2 ow2:=T2.drop fun q hq => by
    simp only [List.mem_cons,List.mem_append,rels] at hq ⊢
    rcases hq with e | e | e
    · exact .inl e
    · simp at e
    · exact .inr e
  have T4:=T3.give rfl (fun o mi hm => by
    have:=(S.held _ o mi hm).1
    rw [none_at_size] at this; cases this) hk hv
  exact ⟨_,σ,⟨F2,φ2,_,_,by rw [mset_mset] at T4; exact T4⟩,h⟩
end
section
variable {prog:Program} {w:World} {Amb:Fz → Prop} {A:Around} {B:Base} {env env':Env} {μ μ':Mu} {σ σ':Sg} {mg mb:Str → Option Value} {sc:Scope}
variable {P P':List Pend} {s s' s₁:Shared} {F F':Fz} {φ φ':List Addr} {m m':Str → Option Value} {ow ow':List (Str × Addr)}
theorem StF.turnHeld {D:Addr} {o o':Obj} (S:StF Amb B env μ σ (.held D o true :: P) s F φ m ow) (hP:∀ o mi,Pend.held D o mi ∉ P) {h':Heap} {tk:Nat} (hs:Heap.SameBut D s.heap h') (ho:h'.get? D = some o') :
    StF Amb B env μ σ (.held D o' true :: P) { s with heap:=h',toks:=tk } F φ m ow :=
  S.turnIt (s':={ s with heap:=h',toks:=tk }) hP (fun b o hb e => hs.extBut b o (fun e' => hb (e' ▸ List.mem_singleton_self _)) e) rfl .rfl ho
theorem rels_snoc {us:List Value} {xs:List V} {v:Value} {y:V} (hl:us.length = xs.length):rels (us ++ [v]) (xs ++ [y]) = rels us xs ++ [.rel v y]:=by
  unfold rels
  rw [List.zip_append hl]
  simp
theorem rels_append {us vs:List Value} {xs ys:List V} (hl:us.length = xs.length):rels (us ++ vs) (xs ++ ys) = rels us xs ++ rels vs ys:=by
  unfold rels
  rw [List.zip_append hl]
  simp
theorem StF.back {x:Str} {D:Addr} {us:Array Value} {n:Nat} {acc:List V} (S:StF Amb B env (mset μ x (.v (.adr D))) σ (loose D us n acc P) s F φ m ow) (hl:us.size = acc.length) (hP:∀ o mi,Pend.held D o mi ∉ P) (hk:env.kindOf x = some .local) :
    ∃ ow',StF Amb B env (mset μ x (.own acc)) σ P s F φ m ow':=by
  obtain ⟨v,hv,r⟩:=S.loc x _ (mget_mset_self ..) hk
  obtain rfl:=Rel.inv r
  have:=S.give hl hP hk hv
  rw [mset_mset] at this
  exact ⟨_,this⟩
theorem W1.append {x:Str} {px apos pos p:Pos} {e:PySem.Expr} {xs:List V} {R:Fl → Mu → Sg → Prop} (K:EnvOk env) (hk:env.kindOf x = some .local) (hm:mget μ x = some (.own xs)) (hz:xs.length ≤ sizeLine)
    (h:∀ D,WE prog w Amb A B env (mset μ x (.v (.adr D))) σ e (fun y σ1 => R .next (mset μ x (.own (xs ++ [y]))) σ1))
    (hbase:attributeBase (.Name x px) "append" env (eval (.Name x px) env) = eval (.Name x px) env:=by rfl) (hs1:starEach [e] env = [(false,eval e env)]:=by rfl) (hline:(apos.endLine == pos.line) = true:=by rfl)
    (hs:swapsWith (.Call (.Attribute (.Name x px) "append" apos) [e] [] pos) Option.none p.line env = pure false:=by rfl) (hi:interactive env = false:=by rfl)
    (hd:(x == ("__debug__":Str)) = false:=by kernel_rfl) (hd':(x == ("__classdict__":Str)) = false:=by kernel_rfl) :
    W1 prog w Amb A B env μ σ (.Expr (.Call (.Attribute (.Name x px) "append" apos) [e] [] pos) p) R:=by
  rintro P s ⟨F,φ,m,ow,S⟩
  obtain ⟨D,us,n,hl,hv,hP,T⟩:=S.take hk hm
  refine wpAny_Expr_any ?_ hi hs
  refine Call_method1 hbase hs1 hline (wpAny_Name (load_name K T (.inl hk) (mget_mset_self ..) hd' fun v r => ?_) hd)
  obtain rfl:=r.inv
  have ho:=(T.held D _ true (List.mem_cons_self ..)).1
  refine ⟨"list","list.append",PySem.F.plainAttrs_list,slot_list_append,PySem.F.type_list_append,⟨_,ho,rfl⟩,fun a e => by cases e; exact ⟨_,ho,rfl⟩,?_⟩
  refine callWith_plain (f:=.builtin "list.append") (first:=[.ref D]) (ts:=[eval e env]) (ks:=[]) (.inl ⟨_,rfl⟩) ?_
  refine Calls.spliced_cons (wpAny_mono (h D _ s ⟨F,φ,_,_,T⟩) (fun v s1 qq => ?_) fun _ _ x => x)
  obtain ⟨y,σ1,⟨F1,φ1,m1,ow1,S1⟩,hR⟩:=qq
  refine Calls.spliced_nil (wpAny_evalAll_nil ⟨(fun a e => nomatch e),?_⟩)
  have ho1:=(S1.held D (listO us n) true (by simp)).1
  refine wpAny_list_append_plain ⟨n,ho1⟩ (fun h' qq hs' => ?_) (by lia)
  obtain ⟨n',hl'⟩:=qq
  have S2:StF Amb B env (mset μ x (.v (.adr D))) σ1 (.held D (listO us n) true :: (.rel v y :: (rels us.toList xs ++ P))) s1 F1 φ1 m1 ow1:=S1.drop fun q hq => by
    simp only [List.mem_cons,List.mem_append] at hq ⊢
    rcases hq with e | e | e | e <;> simp [e]
  have S3:=S2.turnHeld (o':=listO (us.push v) n') (tk:=s1.toks) (fun o mi hm => by
    simp only [List.mem_cons,List.mem_append] at hm
    rcases hm with e | e | e
    · cases e
    · exact held_rels e
    · exact hP o mi e) hs' hl'
  have S4:StF Amb B env (mset μ x (.v (.adr D))) σ1 (loose D (us.push v) n' (xs ++ [y]) P) { s1 with heap:=h' } F1 φ1 m1 ow1:=S3.drop fun q hq => by
    unfold loose at hq
    rw [Array.toList_push,rels_snoc (by simp [hl])] at hq
    simp only [List.mem_cons,List.mem_append,List.mem_nil_iff,or_false] at hq ⊢
    rcases hq with e | (e | e) | e <;> simp [e]
  obtain ⟨ow2,S5⟩:=S4.back (by simp [hl]) hP hk
  exact ⟨_,σ1,⟨F1,φ1,m1,ow2,S5⟩,hR⟩
theorem WB.notIn_own {x y:Str} {px py p:Pos} {ns:List (List Int)} {mm:List Int} {R:Bool → Sg → Prop} (K:EnvOk env) (hk:env.kindOf x = some .local) (hm:mget μ x = some (.own (ns.map fun n => .list (n.map .int)))) (hu:A.units + 64 < cLine)
    (hky:env.kindOf y = some .local ∨ env.kindOf y = some .cell ∨ env.kindOf y = some .free) (hmy:mget μ y = some (.v (.list (mm.map .int)))) (hyx:y ≠ x) (h:R (!decide (mm ∈ ns)) σ)
    (hb:behindInMarks .NotIn (.Name x px) = false:=by rfl)
    (hd:(x == ("__debug__":Str)) = false:=by kernel_rfl) (hd':(x == ("__classdict__":Str)) = false:=by kernel_rfl)
    (hdy:(y == ("__debug__":Str)) = false:=by kernel_rfl) (hdy':(y == ("__classdict__":Str)) = false:=by kernel_rfl):WB prog w Amb A B env μ σ (.Compare (.Name y py) [.NotIn] [.Name x px] p) R:=by
  rintro P s ⟨F,φ,m,ow,S⟩
  obtain ⟨D,us,n,hl,hv,hP,T⟩:=S.take hk hm
  have hmy':mget (mset μ x (.v (.adr D))) y = some (.v (.list (mm.map .int))):=by rw [mget_mset_other _ _ _ _ hyx]; exact hmy
  refine wpAny_isTrue_Compare1 (wpAny_Name (load_name K T hky hmy' hdy' fun v r => wpAny_Name (load_name K T (.inl hk) (mget_mset_self ..) hd' fun v' r' => ?_) hd) hdy) hb
  obtain rfl:=r'.inv
  obtain ⟨as,r1⟩:=r.reads T.sub (toP_ints mm)
  have rl:=(T.drop (P':=rels us.toList (ns.map fun n => V.list (n.map V.int)) ++ P) fun q hq => List.mem_cons_of_mem _ hq).relsL (by simpa using hl)
  obtain ⟨bs,r2⟩:=rl.reads T.sub (toPs_intss ns)
  have ho:=(T.held D _ true (List.mem_cons_self ..)).1
  obtain ⟨a,b⟩:=lay_intss ns
  refine SeqAt.notIn_list_reads (.list ho rfl rfl r2) r1 a (SeqAt.canLay_of_shaped (shaped_ints mm)) (by lia) ?_
  rw [any_intss]
  exact wpAny_truthy_bool ⟨σ,⟨F,φ,m,ow,S⟩,h⟩
end
section
variable {prog:Program} {w:World} {Amb:Fz → Prop} {A:Around} {B:Base} {env env':Env} {μ μ':Mu} {σ σ':Sg} {mg mb:Str → Option Value} {sc:Scope}
variable {P P':List Pend} {s s' s₁:Shared} {F F':Fz} {φ φ':List Addr} {m m':Str → Option Value} {ow ow':List (Str × Addr)}
theorem relL_two {vs:List Value} {a b:V} (h:RelL F φ vs [a,b]):∃ v u,vs = [v,u] ∧ Rel F φ v a ∧ Rel F φ u b:=by
  cases h with
  | cons r h => cases h with
    | cons r' h => cases h; exact ⟨_,_,rfl,r,r'⟩
theorem AT.pair {e1 e2:PySem.Expr} {k:Nat} {p:Pos} {a b:V} {R:Mu → Prop} (hh:A.handled = none) (h:AT prog w Amb A B env e1 a μ σ (fun μ1 => AT prog w Amb A B env e2 b μ1 σ R))
    (he:assignEach [e1,e2] env = [(false,PySem.assign e1 env),(false,PySem.assign e2 env)]:=by rfl):AT prog w Amb A B env (.Tuple [e1,e2] k p) (.tup [a,b]) μ σ R:=by
  rintro P s u ⟨F,φ,m,ow,S⟩
  obtain ⟨t,vs,n,rfl,hF,hL⟩:=S.top.inv
  obtain ⟨v1,v2,e,r1,r2⟩:=relL_two hL
  have hsz:vs.size = 2:=by rw [← Array.length_toList,e]; rfl
  refine PySem.wpAny_assign_Tuple hh ⟨_,S.sub _ _ hF,rfl,_,rfl⟩ (by rw [he,hsz]; rfl) (by rw [he]; rfl) fun h' hs => ?_
  rw [he,e]
  have G:Grow s { s with heap:=h' }:=⟨fun b o hb => hs b o (Nat.ne_of_lt (Heap.lt_size hb)) hb,rfl,.rfl⟩
  have S1:=(((S.pop.grow G).add r2).add r1)
  refine PyProof.Rows.assignInOrder_cons (wpAny_mono (h _ _ v1 ⟨F,φ,m,ow,S1⟩) (fun _ s1 qq => ?_) fun _ _ x => x)
  obtain ⟨μ1,S2,h2⟩:=qq
  refine PyProof.Rows.assignInOrder_cons (wpAny_mono (h2 _ _ v2 S2) (fun _ s2 qq => ?_) fun _ _ x => x)
  obtain ⟨μ2,S3,h3⟩:=qq
  exact PyProof.Rows.assignInOrder_nil ⟨μ2,S3,h3⟩
theorem W1.assignPair {elts:List PySem.Expr} {x y:Str} {k:Nat} {tp p:Pos} {e:PySem.Expr} {R:Fl → Mu → Sg → Prop} (K:EnvOk env) (hh:A.handled = none) (hx:Stor env x) (hy:Stor env y)
    (h:WE prog w Amb A B env μ σ e (fun z σ1 => ∃ a b,z = .tup [a,b] ∧ R .next (mset (mset μ y (.v b)) x (.v a)) σ1))
    (hs:swapsWithSole [.Tuple elts k tp] e p.line env = pure false) (hw:swappedStores [.Tuple elts k tp] e env = pure (some [x,y])):W1 prog w Amb A B env μ σ (.Assign [.Tuple elts k tp] e p) R:=by
  intro P s S
  refine Assign_Tuple_swapped (names:=[x,y]) (wpAny_mono (h P s S) (fun v s1 qq => ?_) fun _ _ x => x) hs hw
  obtain ⟨z,σ1,⟨F,φ,m,ow,S1⟩,a,b,ez,hR⟩:=qq
  subst ez
  obtain ⟨t,vs,n,rfl,hF,hL⟩:=S1.top.inv
  obtain ⟨v1,v2,ev,r1,r2⟩:=relL_two hL
  have hsz:vs.size = 2:=by rw [← Array.length_toList,ev]; rfl
  have:=wpAny_unpackItems_tuple (prog:=prog) (w:=w) (A:=A) (E:=nofail) (s:=s1) (t:=t) (items:=vs) (Q:=fun items s₂ => wpAny (model prog w) A (assignInOrder ([x,y].reverse.map fun n => bindName env n) items.reverse) (fun _ => FlSt Amb B env P R .next) nofail s₂)
    hh ⟨_,S1.sub _ _ hF,rfl,_,rfl⟩ (fun h' hs' => ?_)
  · rw [hsz] at this; exact this
  · rw [ev]
    have G:Grow s1 { s1 with heap:=h' }:=⟨fun b o hb => hs' b o (Nat.ne_of_lt (Heap.lt_size hb)) hb,rfl,.rfl⟩
    have S2:=(((S1.pop.grow G).add r1).add r2)
    refine PyProof.Rows.assignInOrder_cons (bindName_ (store_name K hy ⟨F,φ,m,ow,S2⟩ fun s2 S3 => ?_))
    refine PyProof.Rows.assignInOrder_cons (bindName_ (store_name K hx S3 fun s3 S4 => ?_))
    exact PyProof.Rows.assignInOrder_nil ⟨_,σ1,S4,hR⟩
theorem W1.assert_ {t:PySem.Expr} {msg:Option PySem.Expr} {p:Pos} {R:Fl → Mu → Sg → Prop} (h:WB prog w Amb A B env μ σ t (fun c σ1 => c = true ∧ R .next μ σ1)):W1 prog w Amb A B env μ σ (.Assert t msg p) R:=by
  intro P s S
  refine wpAny_Assert_holds (wpAny_mono (h P s S) (fun c s1 qq => ?_) fun _ _ x => x)
  obtain ⟨σ1,S1,e,r⟩:=qq
  exact ⟨e,μ,σ1,S1,r⟩
theorem take_filter_snoc {α:Type} {xs:List α} {i:Nat} {x:α} {p:α → Bool} (h:xs[i]? = some x):(xs.take (i + 1)).filter p = (xs.take i).filter p ++ (if p x then [x] else []):=by
  have hi:i < xs.length:=(List.getElem?_eq_some_iff.mp h).1
  have hx:xs[i] = x:=(List.getElem?_eq_some_iff.mp h).2
  rw [List.take_succ_eq_append_getElem hi,List.filter_append,hx]
  cases e:p x <;> simp [e]
theorem compJ_pure {elt:PySem.Expr} {x:Str} {px:Pos} {ifs:List PySem.Expr} {scope:Scope} {y0:V} {xs:List V} {σ1:Sg} {t:V → Bool} {g:V → V} {R:List V → Sg → Prop} (hs:env.scope = sc) (hx:scope.names.lookup x = some .local) (hy0:iterS σ1 y0 = some xs)
    (hb:∀ (B':Base) (env':Env) (y:V),EnvOk env' → env'.scope = relabelS scope sc → env'.func = Option.none → y ∈ xs →
        WTs prog w Amb A B' env' (mset (compMu scope.names μ) x (.v y)) σ1 ifs (fun b σ3 => σ3 = σ1 ∧ b = t y) ∧
        (t y = true → WE prog w Amb A B' env' (mset (compMu scope.names μ) x (.v y)) σ1 elt (fun z σ4 => z = g y ∧ σ4 = σ1))) (hR:R ((xs.filter t).map g) σ1) :
    CompJ prog w Amb A env μ elt (.Name x px) ifs scope y0 xs σ1 R:=by
  intro B' env' K' hs' hf'
  rw [hs] at hs'
  refine ⟨fun i μ' σ' acc => (μ' = compMu scope.names μ ∨ ∃ z,μ' = mset (compMu scope.names μ) x (.v z)) ∧ σ' = σ1 ∧ acc = ((xs.take i).filter t).map g,⟨.inl rfl,rfl,by simp⟩,fun _ _ σ' _ h => h.2.1 ▸ hy0,?_,?_⟩
  · rintro i y μ' σ' acc hi ⟨hμ,rfl,rfl⟩
    have e:mset μ' x (.v y) = mset (compMu scope.names μ) x (.v y):=by
      rcases hμ with rfl | ⟨z,rfl⟩
      · rfl
      · exact mset_mset ..
    have hxk:env'.kindOf x = some .local:=by
      rw [kindOf_of hs']
      exact lookup_relabel_local (env:={ env with scope:=sc }) hx
    refine AT.name K' (.inl hxk) ?_
    rw [e]
    obtain ⟨h1,h2⟩:=hb B' env' y K' hs' hf' (List.mem_of_getElem? hi)
    intro P s S
    refine wpAny_mono (h1 P s S) (fun ok s' qq => ?_) fun _ _ x => x
    obtain ⟨σ3,S3,e1,e2⟩:=qq
    refine ⟨σ3,S3,?_⟩
    subst e1 e2
    set_option tactic.hygienic true in split
    · rename_i ht
      refine (h2 ht).mono fun z σ4 qq => ?_
      obtain ⟨e3,e4⟩:=qq
      refine ⟨.inr ⟨y,rfl⟩,e4,?_⟩
      subst e3
      rw [take_filter_snoc hi,ht]
      simp
    · rename_i ht
      refine ⟨.inr ⟨y,rfl⟩,rfl,?_⟩
      rw [take_filter_snoc hi]
      simp [ht]
  · rintro μ' σ' acc ⟨_,rfl,rfl⟩
    rw [List.take_length]; exact hR
structure CompOk (sc scope:Scope) (x:Str):Prop where
  cell:(scope.names.all fun y => decide (y.2 ≠ .cell)) = true
  kind:scope.kind = .function
  names:(scope.names.all fun y => decide (scope.names.lookup y.1 = some y.2)) = true
  free:(scope.names.all fun y => decide (y.2 = .free → sc.names.lookup y.1 = some .cell)) = true
  x:scope.names.lookup x = some .local
theorem CompOk.lk {scope:Scope} {x:Str} (C:CompOk sc scope x) (hs:env.scope = sc):∀ y,(y,NameKind.free) ∈ scope.names → env.kindOf y = some .cell:=fun y hy => by
  have:=List.all_eq_true.mp C.free _ hy
  rw [kindOf_of hs]
  exact of_decide_eq_true this rfl
theorem WE.lc {elt it:PySem.Expr} {x:Str} {px:Pos} {ifs:List PySem.Expr} {scope:Scope} {p:Pos} {R:V → Sg → Prop} (H:AmbOk prog w Amb mg mb) (K:EnvOk env) (hs:env.scope = sc) (hfn:env.func.isSome = true) (hh:A.handled = Option.none) (C:CompOk sc scope x)
    (h:WE prog w Amb A B env μ σ it (fun y σ1 => ∃ xs,iterS σ1 y = some xs ∧ iterFits y ∧ xs.length ≤ sizeLine ∧ ∃ (t:V → Bool) (g:V → V),
      (∀ (B':Base) (env':Env) (y:V),EnvOk env' → env'.scope = relabelS scope sc → env'.func = Option.none → y ∈ xs →
        WTs prog w Amb A B' env' (mset (compMu scope.names μ) x (.v y)) σ1 ifs (fun b σ3 => σ3 = σ1 ∧ b = t y) ∧
        (t y = true → WE prog w Amb A B' env' (mset (compMu scope.names μ) x (.v y)) σ1 elt (fun z σ4 => z = g y ∧ σ4 = σ1))) ∧
      R (.list ((xs.filter t).map g)) σ1))
    (hf:∀ x:Value,foldedSetIterable it env x = pure x:=by intro x; rfl):WE prog w Amb A B env μ σ (.ListComp elt [⟨.Name x px,it,ifs,0⟩] scope p) R:=by
  refine WE.listcomp H K hfn hh (fun y hy => of_decide_eq_true (List.all_eq_true.mp C.cell y hy)) C.kind (fun y hy => of_decide_eq_true (List.all_eq_true.mp C.names y hy)) (C.lk hs)
    (h.mono fun y σ1 qq => ?_) hf
  obtain ⟨xs,hy,hfit,hz,t,g,hb,hR⟩:=qq
  exact ⟨xs,hy,hfit,hz,compJ_pure hs C.x hy hb hR⟩
theorem W1.lc {elt it:PySem.Expr} {x:Str} {px:Pos} {ifs:List PySem.Expr} {scope:Scope} {p q xp:Pos} {z:Str} {R:Fl → Mu → Sg → Prop} (H:AmbOk prog w Amb mg mb) (K:EnvOk env) (hs:env.scope = sc) (hfn:env.func.isSome = true) (hh:A.handled = Option.none) (C:CompOk sc scope x) (hk:env.kindOf z = some .local)
    (h:WE prog w Amb A B env μ σ it (fun y σ1 => ∃ xs,iterS σ1 y = some xs ∧ iterFits y ∧ xs.length ≤ sizeLine ∧ ∃ (t:V → Bool) (g:V → V),
      (∀ (B':Base) (env':Env) (y:V),EnvOk env' → env'.scope = relabelS scope sc → env'.func = Option.none → y ∈ xs →
        WTs prog w Amb A B' env' (mset (compMu scope.names μ) x (.v y)) σ1 ifs (fun b σ3 => σ3 = σ1 ∧ b = t y) ∧
        (t y = true → WE prog w Amb A B' env' (mset (compMu scope.names μ) x (.v y)) σ1 elt (fun z σ4 => z = g y ∧ σ4 = σ1))) ∧
      R .next (mset μ z (.v (.list ((xs.filter t).map g)))) σ1))
    (hsw:swapsWith (.ListComp elt [⟨.Name x px,it,ifs,0⟩] scope p) (some (.Name z xp)) q.line env = pure true)
    (hf:∀ x:Value,foldedSetIterable it env x = pure x:=by intro x; rfl):W1 prog w Amb A B env μ σ (.Assign [.Name z xp] (.ListComp elt [⟨.Name x px,it,ifs,0⟩] scope p) q) R:=by
  refine W1.assignComp H K hfn hh hk (fun y hy => of_decide_eq_true (List.all_eq_true.mp C.cell y hy)) C.kind (fun y hy => of_decide_eq_true (List.all_eq_true.mp C.names y hy)) (C.lk hs)
    (h.mono fun y σ1 qq => ?_) hsw hf
  obtain ⟨xs,hy,hfit,hz,t,g,hb,hR⟩:=qq
  exact ⟨xs,hy,hfit,hz,compJ_pure hs C.x hy hb hR⟩
end
section
variable {prog:Program} {w:World} {Amb:Fz → Prop} {A:Around} {B:Base} {env env':Env} {μ μ':Mu} {σ σ':Sg} {mg mb:Str → Option Value} {sc:Scope}
variable {P P':List Pend} {s s' s₁:Shared} {F F':Fz} {φ φ':List Addr} {m m':Str → Option Value} {ow ow':List (Str × Addr)}
theorem W1.assignCompOwn {x:Str} {xp p q:Pos} {elt tgt it:PySem.Expr} {ifs:List PySem.Expr} {scope:Scope} {R:Fl → Mu → Sg → Prop} (H:AmbOk prog w Amb mg mb) (K:EnvOk env) (hfn:env.func.isSome = true) (hh:A.handled = Option.none) (hk:env.kindOf x = some .local)
    (hcell:∀ y ∈ scope.names,y.2 ≠ .cell) (hkind:scope.kind = .function) (hnames:∀ y ∈ scope.names,scope.names.lookup y.1 = some y.2)
    (hfree:∀ x,(x,NameKind.free) ∈ scope.names → env.kindOf x = some .cell)
    (h:WE prog w Amb A B env μ σ it (fun y σ1 => ∃ xs,iterS σ1 y = some xs ∧ iterFits y ∧ xs.length ≤ sizeLine ∧ CompJ prog w Amb A env μ elt tgt ifs scope y xs σ1 (fun acc σ' => R .next (mset μ x (.own acc)) σ')))
    (hsw:swapsWith (.ListComp elt [⟨tgt,it,ifs,0⟩] scope p) (some (.Name x xp)) q.line env = pure true)
    (hs:∀ x:Value,foldedSetIterable it env x = pure x:=by intro x; rfl):W1 prog w Amb A B env μ σ (.Assign [.Name x xp] (.ListComp elt [⟨tgt,it,ifs,0⟩] scope p) q) R:=by
  intro P s0 S0
  rw [arm_exec_Assign]
  refine wpAny_bind (wpAny_standAt ?_)
  have e:swapsWithSole [.Name x xp] (.ListComp elt [⟨tgt,it,ifs,0⟩] scope p) q.line env = pure true:=hsw
  rw [e]
  refine wpAny_bind (wpAny_pure ?_)
  rw [if_pos rfl,arm_evalThenUse_ListComp]
  have hst:Stor env x:=.inl hk
  have hAE:(assignEach [PySem.Expr.Name x xp] env).map (·.2) = [PySem.assign (PySem.Expr.Name x xp) env]:=by rfl
  have core:∀ (u:Value → Sem Unit),(∀ v,u v = PySem.assign (PySem.Expr.Name x xp) env v) → wpAny (model prog w) A (comprehension (.ListComp elt [⟨tgt,it,ifs,0⟩] scope p) scope env (firstIterPos [⟨tgt,it,ifs,0⟩] p) (newList []) false (eval it env) (some u)) (fun _ s' => FlSt Amb B env P R .next s') nofail s0:=by
    intro u hu
    refine listcomp_core H K hfn hh hcell hkind hnames hfree hs S0 h fun s' F' φ' m' ow' D C us n oC mC acc σ' hDC hD hC hl hns S9 hR r => ?_
    unfold compPost
    dsimp only
    rw [hu]
    have S11:StF Amb B env μ σ' (.rel (.ref D) (.adr D) :: loose D us n acc (.held C oC true :: P)) s' F' φ' m' ow':=(S9.add (.adr D)).drop fun q hq => by
      simp only [List.mem_cons,List.mem_append] at hq ⊢
      rcases hq with e | e | e | e | e <;> simp [e]
    refine wpAny_assign_Name (store_name K hst ⟨F',φ',m',ow',S11⟩ fun s'' S12 => ?_)
    obtain ⟨F3,φ3,m3,ow3,S12⟩:=S12
    obtain ⟨ow4,S12⟩:=S12.back hl (fun o mi hm => by
      rcases List.mem_cons.mp hm with e | e
      · cases e; exact hDC rfl
      · exact hD o mi e) hk
    exact ⟨mC,hns.at' fun o e => Option.some.inj ((S9.held C oC true (.head _)).1.symm.trans e) ▸ (S12.held C oC true (.head _)).1,fun h' hs' => ⟨_,σ',⟨F3,φ3,m3,ow4,S12.goneBut hC hs'⟩,hR⟩⟩
  have core2:=core (fun v => assignAll v ((assignEach [.Name x xp] env).map (·.2))) (fun v => by rw [hAE]; rfl)
  clear core
  have g1:firstAsync [(⟨tgt,it,ifs,0⟩:Comprehension)] = false:=by rfl
  have g2:firstIter [(⟨tgt,it,ifs,0⟩:Comprehension)] env = eval it env:=by rfl
  rw [g1,g2]
  refine wpAny_bind (wpAny_bind (wpAny_mono core2 ?_ ?_))
  · intro _ s' q
    exact wpAny_pure (wpAny_pure q)
  · intro _ _ x
    exact x
theorem W1.lcOwn {elt it:PySem.Expr} {x:Str} {px:Pos} {ifs:List PySem.Expr} {scope:Scope} {p q xp:Pos} {z:Str} {R:Fl → Mu → Sg → Prop} (H:AmbOk prog w Amb mg mb) (K:EnvOk env) (hs:env.scope = sc) (hfn:env.func.isSome = true) (hh:A.handled = Option.none) (C:CompOk sc scope x) (hk:env.kindOf z = some .local)
    (h:WE prog w Amb A B env μ σ it (fun y σ1 => ∃ xs,iterS σ1 y = some xs ∧ iterFits y ∧ xs.length ≤ sizeLine ∧ ∃ (t:V → Bool) (g:V → V),
      (∀ (B':Base) (env':Env) (y:V),EnvOk env' → env'.scope = relabelS scope sc → env'.func = Option.none → y ∈ xs →
        WTs prog w Amb A B' env' (mset (compMu scope.names μ) x (.v y)) σ1 ifs (fun b σ3 => σ3 = σ1 ∧ b = t y) ∧
        (t y = true → WE prog w Amb A B' env' (mset (compMu scope.names μ) x (.v y)) σ1 elt (fun z σ4 => z = g y ∧ σ4 = σ1))) ∧
      R .next (mset μ z (.own ((xs.filter t).map g))) σ1))
    (hsw:swapsWith (.ListComp elt [⟨.Name x px,it,ifs,0⟩] scope p) (some (.Name z xp)) q.line env = pure true)
    (hf:∀ x:Value,foldedSetIterable it env x = pure x:=by intro x; rfl):W1 prog w Amb A B env μ σ (.Assign [.Name z xp] (.ListComp elt [⟨.Name x px,it,ifs,0⟩] scope p) q) R:=by
  refine W1.assignCompOwn H K hfn hh hk (fun y hy => of_decide_eq_true (List.all_eq_true.mp C.cell y hy)) C.kind (fun y hy => of_decide_eq_true (List.all_eq_true.mp C.names y hy)) (C.lk hs)
    (h.mono fun y σ1 qq => ?_) hsw hf
  obtain ⟨xs,hy,hfit,hz,t,g,hb,hR⟩:=qq
  exact ⟨xs,hy,hfit,hz,compJ_pure hs C.x hy hb hR⟩
theorem rels_mem_of {vs:List Value} {ys:List V} (r:RelL F φ vs ys) {v:Value} {y:V} (h:Pend.rel v y ∈ rels vs ys):Rel F φ v y:=by
  have hz:=mem_rels h
  have:∀ {vs:List Value} {ys:List V},RelL F φ vs ys → (v,y) ∈ vs.zip ys → Rel F φ v y:=by
    intro vs
    induction vs with
    | nil => intro ys _ h; simp at h
    | cons u vs ih =>
      intro ys r h
      cases r with
      | cons r rs =>
        simp only [List.zip_cons_cons,List.mem_cons] at h
        rcases h with e | h
        · cases e; exact r
        · exact ih rs h
  exact this r hz
theorem StF.addRels {vs:List Value} {ys:List V} (S:StF Amb B env μ σ P s F φ m ow) (r:RelL F φ vs ys):StF Amb B env μ σ (rels vs ys ++ P) s F φ m ow :=
  { S with
    pend:=fun v y h => by
      rcases List.mem_append.mp h with h | h
      · exact rels_mem_of r h
      · exact S.pend v y h
    held:=fun a o mi h => by
      rcases List.mem_append.mp h with h | h
      · exact absurd h held_rels
      · exact S.held a o mi h }
theorem W1.extend {x:Str} {px apos pos p:Pos} {e:PySem.Expr} {xs:List V} {R:Fl → Mu → Sg → Prop} (K:EnvOk env) (hk:env.kindOf x = some .local) (hm:mget μ x = some (.own xs))
    (h:∀ D,WE prog w Amb A B env (mset μ x (.v (.adr D))) σ e (fun y σ1 => ∃ ys,y = .list ys ∧ xs.length + ys.length ≤ sizeLine ∧ R .next (mset μ x (.own (xs ++ ys))) σ1))
    (hbase:attributeBase (.Name x px) "extend" env (eval (.Name x px) env) = eval (.Name x px) env:=by rfl) (hs1:starEach [e] env = [(false,eval e env)]:=by rfl) (hline:(apos.endLine == pos.line) = true:=by rfl)
    (hs:swapsWith (.Call (.Attribute (.Name x px) "extend" apos) [e] [] pos) Option.none p.line env = pure false:=by rfl) (hi:interactive env = false:=by rfl)
    (hd:(x == ("__debug__":Str)) = false:=by kernel_rfl) (hd':(x == ("__classdict__":Str)) = false:=by kernel_rfl) :
    W1 prog w Amb A B env μ σ (.Expr (.Call (.Attribute (.Name x px) "extend" apos) [e] [] pos) p) R:=by
  rintro P s ⟨F,φ,m,ow,S⟩
  obtain ⟨D,us,n,hl,hv,hP,T⟩:=S.take hk hm
  refine wpAny_Expr_any ?_ hi hs
  refine Call_method1 hbase hs1 hline (wpAny_Name (load_name K T (.inl hk) (mget_mset_self ..) hd' fun v r => ?_) hd)
  obtain rfl:=r.inv
  have ho:=(T.held D _ true (List.mem_cons_self ..)).1
  refine ⟨"list","list.extend",PySem.F.plainAttrs_list,PySem.F.slot_list_extend,PySem.F.type_list_extend,⟨_,ho,rfl⟩,fun a e => by cases e; exact ⟨_,ho,rfl⟩,?_⟩
  refine PySem.P.extend_list (wpAny_mono (h D _ s ⟨F,φ,_,_,T⟩) (fun v s1 qq => ?_) fun _ _ x => x)
  obtain ⟨y,σ1,⟨F1,φ1,m1,ow1,S1⟩,ys,ey,hz,hR⟩:=qq
  subst ey
  have ho1:=(S1.held D (listO us n) true (by simp)).1
  obtain ⟨b,us2,n2,rfl,hF,hL⟩:=S1.top.inv
  have e2:=hL.length
  simp only [Array.length_toList] at e2
  refine ⟨b,us,us2,n,n2,by lia,by lia,?_,rfl,ho1,S1.sub _ _ hF,?_⟩
  · simp only [Builtin.List.listTooLong,Bool.and_eq_true,decide_eq_true_eq,not_and]
    intro _
    lia
  have S2:StF Amb B env (mset μ x (.v (.adr D))) σ1 (.held D (listO us n) true :: (rels us2.toList ys ++ (rels us.toList xs ++ P))) s1 F1 φ1 m1 ow1:=(S1.addRels hL).drop fun q hq => by
    simp only [List.mem_cons,List.mem_append] at hq ⊢
    rcases hq with e | e | e | e <;> simp [e]
  have S3:=S2.turnHeld (o':=listO (us ++ us2) (if (us ++ us2).size == us.size then n else n + 1)) (tk:=s1.toks) (h':=s1.heap.update D (Obj.mapSeq fun xs => xs ++ us2)) (fun o mi hm => by
    simp only [List.mem_append] at hm
    rcases hm with e | e | e
    · exact held_rels e
    · exact held_rels e
    · exact hP o mi e) (Heap.SameBut.update ..) (Heap.get?_update_self (Obj.mapSeq fun xs => xs ++ us2) ho1 rfl)
  have S4:StF Amb B env (mset μ x (.v (.adr D))) σ1 (loose D (us ++ us2) (if (us ++ us2).size == us.size then n else n + 1) (xs ++ ys) P) { s1 with heap:=s1.heap.update D (Obj.mapSeq fun xs => xs ++ us2) } F1 φ1 m1 ow1:=S3.drop fun q hq => by
    unfold loose at hq
    rw [Array.toList_append,rels_append (by simp [hl])] at hq
    simp only [List.mem_cons,List.mem_append] at hq ⊢
    rcases hq with e | (e | e) | e <;> simp [e]
  obtain ⟨ow2,S5⟩:=S4.back (by simp [hl,e2]) hP hk
  exact ⟨_,σ1,⟨F1,φ1,m1,ow2,S5⟩,hR⟩
end
section
variable {prog:Program} {w:World} {Amb:Fz → Prop} {A:Around} {B:Base} {env env':Env} {μ μ':Mu} {σ σ':Sg} {mg mb:Str → Option Value} {at_:Str → Addr} {sc:Scope}
theorem inter (hs:env.scope = sc) (h:(sc.kind == .function) = true):interactive env = false:=by
  subst hs
  have e:env.scope.kind = .function:=by simpa using h
  unfold interactive
  rw [e]
  rfl
theorem W1.freeze {x:Str} {xs:List V} {b:Stmt} {R:Fl → Mu → Sg → Prop} (H:AmbOk prog w Amb mg mb) (hk:env.kindOf x = some .local) (hm:mget μ x = some (.own xs)) (h:W1 prog w Amb A B env (mset μ x (.v (.list xs))) σ b R):W1 prog w Amb A B env μ σ b R:=by
  rintro P s ⟨F,φ,m,ow,S⟩
  obtain ⟨F',T⟩:=S.freezeName H hk hm
  exact h P s ⟨F',φ,m,_,T⟩
theorem W1.retOwn {x:Str} {px p:Pos} {xs:List V} {R:Fl → Mu → Sg → Prop} (H:AmbOk prog w Amb mg mb) (K:EnvOk env) (hs:env.scope = sc) (hk:sc.names.lookup x = some .local) (hm:mget μ x = some (.own xs)) (h:R (.ret (.list xs)) (mset μ x (.v (.list xs))) σ)
    (hd:(x == ("__debug__":Str)) = false:=by kernel_rfl) (hd':(x == ("__classdict__":Str)) = false:=by kernel_rfl):W1 prog w Amb A B env μ σ (.Return (some (.Name x px)) p) R :=
  W1.freeze H (by rw [kindOf_of hs]; exact hk) hm (W1.ret (WE.name K (.inl (by rw [kindOf_of hs]; exact hk)) (mget_mset_self ..) h hd hd'))
end
set_option compiler.extract_closed false in
local macro_rules | `(tactic| walk_at "we") => `(tactic| first
  | with_reducible first
    | refine WS.cons ?_ | refine WS.nil ?_ | refine WE.int ?_ | refine WE.str ?_ | refine WE.none ?_ | refine WE.bool ?_ | refine WAs.cons ?_ | refine WAs.nil ?_ | refine WE.bin ?_ | refine WE.un ?_ | refine WE.ifexp ?_
    | ((fail_if_success refine WE.sslice ?_ ?_); refine WE.sub ?_)
    | refine W1.if_ ?_ | refine OpB.add_int ?_ | refine OpB.sub_int ?_ | refine WC.range1 (by assumption) ?_ | refine WC.range2 (by assumption) ?_ | refine OpI.add_int ?_
    | refine OpC.eq_int ?_ | refine OpC.ne_int ?_ | refine OpC.lt_int ?_ | refine OpC.gt_int ?_ | refine OpC.le_int ?_ | refine OpC.ge_int ?_ | refine OpC.eq_str ?_ | refine OpC.ne_str ?_ | refine OpC.ne_bool ?_
    | refine WB.or2 ?_ | refine WB.and2 ?_ | refine WPt.none ?_ | refine WPt.some (WE.int ⟨_,rfl,?_⟩) | refine WPt.some ?_
    | refine OpC.is_none (by first | exact NoneIs.none | exact NoneIs.hdr _) ?_ | refine OpC.isnot_none (by first | exact NoneIs.none | exact NoneIs.hdr _) ?_
    | refine W1.assert_ ?_ | refine OpU.neg_int ?_ | refine And.intro (Nat.le_of_ble_eq_true (by kernel_rfl)) ?_
  | ((with_reducible refine WE.cmp' ?_ ?hb); (case hb => rfl))
  | ((with_reducible refine WB.cmp' ?_ ?hb); (case hb => rfl))
  | ((with_reducible refine WE.list (by assumption) ?_ ?he); (case he => rfl))
  | ((with_reducible refine WE.tuple (by assumption) ?_ ?he); (case he => rfl))
  | ((with_reducible refine WE.nm (y:=?y) (by assumption) (by assumption) (by kernel_rfl) ?hm ?_); (case hm => rfl))
  | ((with_reducible refine W1.assign (by assumption) (stor_of (by assumption) (by assumption) (by kernel_rfl)) ?_ ?hs); (case hs => rfl))
  | ((with_reducible refine W1.aug (y:=?y) (by assumption) (stor_of (by assumption) (by assumption) (by kernel_rfl)) ?hm ?_); (case hm => rfl))
  | ((with_reducible refine W1.retOwn (xs:=?xs) (by assumption) (by assumption) (by assumption) (by kernel_rfl) ?hm ?_); (case hm => rfl))
  | ((with_reducible refine W1.expr ?_ ?hs ?hi); (case hs => rfl); (case hi => exact inter (by assumption) (by kernel_rfl)))
  | ((with_reducible refine WE.callb ?_ ?he); (case he => rfl))
  | ((with_reducible refine W1.assignEmpty (by assumption) (by rw [kindOf_of (by assumption)]; kernel_rfl) ?_ ?he ?hs); (case he => rfl); (case hs => rfl))
  | with_reducible first
    | refine W1.ret ?_
    | refine WE.bl (by assumption) (by assumption) (by assumption) (by kernel_rfl) (by first | exact TopOk.len (by assumption) | exact TopOk.sum (by assumption) | exact TopOk.sorted (by assumption) | exact TopOk.chr (by assumption) | exact TopOk.ord (by assumption)) (Flat.bi _) ⟨_,Callee.bi _,?_⟩
    | refine WE.bl (by assumption) (by assumption) (by assumption) (by kernel_rfl) (by first | exact TopOk.range (by assumption) | exact TopOk.list (by assumption) | exact TopOk.str (by assumption)) (Flat.ty _) ⟨_,Callee.ty _,?_⟩)
section
variable {prog:Program} {w:World} {Amb:Fz → Prop} {A:Around} {B:Base} {env env':Env} {μ μ':Mu} {σ σ':Sg} {mg mb:Str → Option Value} {at_:Str → Addr} {sc:Scope}
structure Def (Amb:Fz → Prop) (a:Addr) (i:Nat) (params:List Str):Prop where
  ex:∃ fd,FnIs Amb a fd (fnBody i) ∧ fd.scope = fnScope i ∧ ∀ vs:List Value,vs.length = params.length → bindArgs fd ⟨vs,[]⟩ = pure (params.zip vs)
theorem WC.def_ {a:Addr} {i:Nat} {params rest:List Str} {ys:List V} {k:Nat} {R:V → Sg → Prop} (H:AmbOk prog w Amb mg mb) (D:Def Amb a i params) (hr:Room A (k + 1)) (hgen:(fnScope i).isGenerator = false) (hlen:params.length = ys.length) (hnd:params.Nodup)
    (hk:(params.all fun n => storKind ((fnScope i).names.lookup n)) = true)
    (h:∀ (A':Around) (B':Base) (env':Env),Room A' k → EnvOk env' → env'.scope = fnScope i → env'.func.isSome = true → WS prog w Amb A' B' env' (mu0 params ys rest) σ (fnBody i) (fun f μ' σ' => ∃ y,(f = .ret y ∨ (f = .next ∧ y = .none)) ∧ R y σ')) :
    WC prog w Amb A B env μ σ (.ref a) ys R:=by
  obtain ⟨fd,K,hs,hb⟩:=D.ex
  refine WC.fn H K hr (by rw [hs]; exact hgen) hlen hnd hb (fun n hn => ?_) fun A' B' env' r' K' s' f' => h A' B' env' r' K' (s'.trans hs) f'
  rw [hs]
  have:=List.all_eq_true.mp hk n hn
  revert this
  cases (fnScope i).names.lookup n with
  | none => intro h; cases h
  | some q => cases q <;> simp [storKind]
noncomputable def swapsB (sc scope:Scope) (x:Str) (xp p:Pos):Bool :=
  (if sc.kind.isAnnotationScope then ScopeKind.function else sc.kind) == .function && sc.names.lookup x == some .local && xp.line == p.line && !(scope.names.any fun (n,k) => n == x && (k == .local || k == .cell))
theorem swaps_lc {elt:PySem.Expr} {gens:List Comprehension} {scope:Scope} {x:Str} {xp p:Pos} {line:Nat} {b:Bool} (hs:env.scope = sc) (h:swapsB sc scope x xp p = b):swapsWith (.ListComp elt gens scope p) (some (.Name x xp)) line env = pure b:=by
  subst hs
  subst h
  rfl
noncomputable def takesP:List Int → Int → List (List Int)
  | [],m => if 0 < m then [] else [[]]
  | w :: r,m => if (r.length:Int) + 1 < m then [] else (takesP r m).map (w :: ·) ++ (if 0 < m ∧ 0 < w then (takesP r (m - 1)).map ((w - 1) :: ·) else [])
theorem takesP_cons (w:Int) (r:List Int) (m:Int):takesP (w :: r) m = if (r.length:Int) + 1 < m then [] else (takesP r m).map (w :: ·) ++ (if 0 < m ∧ 0 < w then (takesP r (m - 1)).map ((w - 1) :: ·) else []):=by rw [takesP]
noncomputable def lists (ns:List (List Int)):V:=.list (ns.map fun n => .list (n.map .int))
theorem takesP_len:∀ (ws:List Int) (m:Int),(takesP ws m).length ≤ 2 ^ ws.length
  | [],m => by unfold takesP; split <;> simp
  | w :: r,m => by
    unfold takesP
    have h1:=takesP_len r m
    have h2:=takesP_len r (m - 1)
    split
    · simp
    · rw [List.length_append,List.length_map,List.length_cons,Nat.pow_succ]
      split
      · rw [List.length_map]; lia
      · simp; lia
theorem takesP_mem:∀ (ws:List Int) (m:Int) (n:List Int),n ∈ takesP ws m → n.length = ws.length
  | [],m,n,h => by
    unfold takesP at h
    split at h
    · cases h
    · simp at h; subst h; rfl
  | w :: r,m,n,h => by
    unfold takesP at h
    split at h
    · cases h
    · rcases List.mem_append.mp h with h | h
      · obtain ⟨q,hq,rfl⟩:=List.mem_map.mp h
        simp [takesP_mem r m q hq]
      · split at h
        · obtain ⟨q,hq,rfl⟩:=List.mem_map.mp h
          simp [takesP_mem r (m - 1) q hq]
        · cases h
theorem filter_tt {α:Type} (xs:List α):xs.filter (fun _ => true) = xs:=List.filter_eq_self.mpr (by simp)
theorem pow_le_16 {n:Nat} (h:n ≤ 4):2 ^ n ≤ 16:=by
  match n,h with
  | 0,_ | 1,_ | 2,_ | 3,_ | 4,_ => decide
noncomputable def consV (w:Int):V → V
  | .list xs => .list (.int w :: xs)
  | y => y
theorem lists_cons (w:Int) (ns:List (List Int)):(ns.map fun n => V.list (n.map .int)).map (consV w) = (ns.map (w :: ·)).map fun n => V.list (n.map .int):=by
  rw [List.map_map,List.map_map]; rfl
theorem takes_body (H:AmbOk prog w Amb mg mb) (T:TopOk mg mb at_) (K:EnvOk env) (hs:env.scope = fnScope 29) (hfn:env.func.isSome = true) {k:Nat} (hr:Room A k) (D:Def Amb (at_ "_law_takes") 29 ["wishes","many"]) (ws:List Int) (hz:ws.length ≤ 4) (many:Int)
    (rec:∀ (μ:Mu) (v:Int) (r:List Int) (m:Int) (R:V → Sg → Prop),ws = v :: r → R (lists (takesP r m)) σ → WC prog w Amb A B env μ σ (.ref (at_ "_law_takes")) [.list (r.map .int),.int m] R) :
    WS prog w Amb A B env (mu0 ["wishes","many"] [.list (ws.map .int),.int many] ["rests"]) σ (fnBody 29)
      (fun f μ' σ' => ∃ y,(f = .ret y ∨ (f = .next ∧ y = .none)) ∧ (y = lists (takesP ws many) ∧ σ' = σ)):=by
  with_reducible refine WS.ans fun R hR => ?_
  have hh:=hr.handled
  have hzz:sizeLine = 16777216:=by decide
  have hu:A.units + 64 < cLine:=by have:=hr.units; show A.units + 64 < 9900; lia
  refine WS.cons ?_
  repeat walk_at "we"
  refine WC.len_list (by simp; lia) ?_
  repeat walk_at "we"
  refine ⟨_,.bool _,?_⟩
  have hl0:((ws.map V.int).length:Int) = ws.length:=by simp
  by_cases h0:(ws.length:Int) < many
  · first | refine iteT (by rw [hl0]; exact decide_eq_true h0) ?_ | rw [if_pos (by rw [hl0]; exact decide_eq_true h0)]
    repeat walk_at "we"
    refine hR _ _ ?_
    cases ws with
    | nil => unfold takesP lists; rw [if_pos (by simpa using h0)]; rfl
    | cons v r => unfold takesP lists; rw [if_pos (by simpa using h0)]; rfl
  first | refine iteF (by rw [hl0]; simpa using h0) ?_ | rw [if_neg (by rw [hl0]; simpa using h0)]
  repeat walk_at "we"
  refine OpC.eq_ints (ns:=ws) (ms:=[]) hu ?_
  refine ⟨_,.bool _,?_⟩
  cases ws with
  | nil =>
    first | refine iteT (by simp) ?_ | rw [if_pos (by simp)]
    repeat walk_at "we"
    refine hR _ _ ?_
    unfold takesP lists
    first | refine iteF (by simpa using h0) ?_ | rw [if_neg (by simpa using h0)]
    rfl
  | cons v r =>
    first | refine iteF (by simp) ?_ | rw [if_neg (by simp)]
    repeat walk_at "we"
    have hr1:r.length ≤ 3:=by simp only [List.length_cons] at hz; lia
    have htl:∀ m,(takesP r m).length ≤ 16:=fun m => Nat.le_trans (takesP_len r m) (pow_le_16 (by lia))
    refine W1.lcOwn H K hs hfn hh ⟨by kernel_rfl,rfl,by kernel_rfl,by kernel_rfl,by kernel_rfl⟩ (by rw [kindOf_of hs]; kernel_rfl) ?_ (swaps_lc hs (by kernel_rfl))
    refine WE.callb ?_ (by rfl)
    refine WE.gl H K hs (by kernel_rfl) (T.own _ (by decide +kernel)) (.adr _) ⟨_,.fn D.ex.choose_spec.1,?_⟩
    repeat walk_at "we"
    refine WE.lslice H ?_
    repeat walk_at "we"
    refine ⟨_,r.map V.int,rfl,by simp; lia,rfl,?_⟩
    repeat walk_at "we"
    refine rec _ v r many _ rfl ?_
    refine ⟨_,rfl,trivial,by rw [List.length_map]; have:=htl many; lia,fun _ => true,consV v,fun B' env' y K' hs' hf' hy => ?_,?_⟩
    · obtain ⟨n,hn,rfl⟩:=List.mem_map.mp hy
      refine ⟨WTs.nil ⟨rfl,rfl⟩,fun _ => ?_⟩
      repeat walk_at "we"
      refine OpS.list (j:=0) (y:=.int v) rfl (.inl ⟨by lia,rfl⟩) (by lia) rfl ?_
      try dsimp only
      repeat walk_at "we"
      refine OpB.add_list H (by have:=takesP_mem r many n hn; simp; lia) ⟨rfl,rfl⟩
    · rw [filter_tt,lists_cons]
      try dsimp only
      refine WS.cons ?_
      repeat walk_at "we"
      refine ⟨_,.bool _,?_⟩
      by_cases hm:0 < many
      · first | refine iteT (by simpa using hm) ?_ | rw [if_pos (by simpa using hm)]
        repeat walk_at "we"
        refine OpS.list (j:=0) (y:=.int v) rfl (.inl ⟨by lia,rfl⟩) (by lia) rfl ?_
        try dsimp only
        repeat walk_at "we"
        refine ⟨_,.bool _,?_⟩
        by_cases hv:0 < v
        · first | refine iteT (by simpa using hv) ?_ | rw [if_pos (by simpa using hv)]
          refine WS.cons ?_
          refine W1.extend K (by rw [kindOf_of hs]; kernel_rfl) rfl (fun D' => ?_) (hi:=inter hs (by kernel_rfl))
          refine WE.lc H K hs hfn hh ⟨by kernel_rfl,rfl,by kernel_rfl,by kernel_rfl,by kernel_rfl⟩ ?_
          refine WE.callb ?_ (by rfl)
          refine WE.gl H K hs (by kernel_rfl) (T.own _ (by decide +kernel)) (.adr _) ⟨_,.fn D.ex.choose_spec.1,?_⟩
          repeat walk_at "we"
          refine WE.lslice H ?_
          repeat walk_at "we"
          refine ⟨_,r.map V.int,rfl,by simp; lia,rfl,?_⟩
          repeat walk_at "we"
          refine rec _ v r (many - 1) _ rfl ?_
          refine ⟨_,rfl,trivial,by rw [List.length_map]; have:=htl (many - 1); lia,fun _ => true,consV (v - 1),fun B' env' y K' hs' hf' hy => ?_,?_⟩
          · obtain ⟨n,hn,rfl⟩:=List.mem_map.mp hy
            refine ⟨WTs.nil ⟨rfl,rfl⟩,fun _ => ?_⟩
            repeat walk_at "we"
            refine OpS.list (j:=0) (y:=.int v) rfl (.inl ⟨by lia,rfl⟩) (by lia) rfl ?_
            try dsimp only
            repeat walk_at "we"
            refine OpB.add_list H (by have:=takesP_mem r (many - 1) n hn; simp; lia) ⟨rfl,rfl⟩
          · rw [filter_tt,lists_cons]
            refine ⟨_,rfl,by have h1:=htl many; have h2:=htl (many - 1); simp only [List.length_map]; lia,?_⟩
            try dsimp only
            repeat walk_at "we"
            refine hR _ _ ?_
            rw [takesP_cons]
            unfold lists
            rw [if_neg (by simpa using h0),if_pos ⟨hm,hv⟩,List.map_append]
        · first | refine iteF (by simpa using hv) ?_ | rw [if_neg (by simpa using hv)]
          repeat walk_at "we"
          refine hR _ _ ?_
          rw [takesP_cons]
          unfold lists
          rw [if_neg (by simpa using h0),if_neg (fun h => hv h.2),List.append_nil]
      · first | refine iteF (by simpa using hm) ?_ | rw [if_neg (by simpa using hm)]
        first | refine iteF (by nofun) ?_ | rw [if_neg (by nofun)]
        repeat walk_at "we"
        refine hR _ _ ?_
        rw [takesP_cons]
        unfold lists
        rw [if_neg (by simpa using h0),if_neg (fun h => hm h.1),List.append_nil]
end
noncomputable def onInt (p:Int → Bool):V → Bool
  | .int e => p e
  | _ => false
theorem filter_onInt (p:Int → Bool) (ns:List Int):(ns.map V.int).filter (onInt p) = (ns.filter p).map V.int:=by
  rw [List.filter_map]; rfl
@[reducible] noncomputable def muK (codes:List Int) (k:Nat) (text:Str) (code begun over:Option LV):Mu:=[("codes",some (.v (.list (codes.map .int)))),("k",some (.v (.int k))),("low",some (.v (.list ((lowOf k).map .int)))),
  ("high",some (.v (.list ((highOf k).map .int)))),("text",some (.v (.str text))),("code",code),("begun",begun),("over",over)]
theorem len_lowHigh (k:Nat):(lowOf k).length ≤ 4 ∧ (highOf k).length ≤ 4:=by
  unfold lowOf highOf
  constructor <;> (split <;> simp)
section
variable {prog:Program} {w:World} {Amb:Fz → Prop} {A:Around} {B:Base} {env env':Env} {μ μ':Mu} {σ σ':Sg} {mg mb:Str → Option Value} {at_:Str → Addr} {sc:Scope}
theorem known_body (H:AmbOk prog w Amb mg mb) (T:TopOk mg mb at_) (K:EnvOk env) (hs:env.scope = fnScope 26) (hfn:env.func.isSome = true) (hr:Room A 2) (codes:List Int) (k:Nat) (hk:k < 4) (hz:codes.length ≤ 100) :
    WS prog w Amb A B env (mu0 ["codes","k"] [.list (codes.map .int),.int k] ["low","high","text","code","begun","over"]) σ (fnBody 26)
      (fun f μ' σ' => ∃ y,(f = .ret y ∨ (f = .next ∧ y = .none)) ∧ (y = .str (xo (codes.map (isX k))) ∧ σ' = σ)):=by
  have hh:=hr.handled
  have hl:=len_lowHigh k
  have hzz:sizeLine = 16777216:=by decide
  with_reducible refine WS.ans fun R hR => ?_
  refine WS.cons ?_
  with_reducible refine W1.assign (by assumption) (stor_of (by assumption) (by assumption) (by kernel_rfl)) ?_ ?hs
  case hs => rfl
  repeat walk_at "we"
  refine OpS.list (j:=k) (y:=.list ((lowOf k).map .int)) rfl (.inl ⟨by lia,by simp⟩) (by lia) (by obtain rfl | rfl | rfl | rfl:=four hk <;> rfl) ?_
  try dsimp only
  repeat walk_at "we"
  refine OpS.list (j:=k) (y:=.list ((highOf k).map .int)) rfl (.inl ⟨by lia,by simp⟩) (by lia) (by obtain rfl | rfl | rfl | rfl:=four hk <;> rfl) ?_
  try dsimp only
  repeat walk_at "we"
  try dsimp only
  repeat walk_at "we"
  refine W1.forR hh (WE.nm (y:=.list (codes.map .int)) K hs (by kernel_rfl) rfl ⟨_,rfl,trivial,fun i μ' σ' => ∃ c b o:Option LV,μ' = muK codes k (xo ((codes.take i).map (isX k))) c b o ∧ σ' = σ,?_,?_,?_⟩)
  · exact ⟨none,none,none,by rw [List.take_zero,List.map_nil,xo_nil]; rfl,rfl⟩
  · rintro R1 i x μ' σ' k1 _ hx ⟨c,b,o,rfl,rfl⟩
    rw [List.getElem?_map] at hx
    obtain ⟨e,he,rfl⟩:=Option.map_eq_some_iff.mp hx
    have hi:i < codes.length:=(List.getElem?_eq_some_iff.mp he).1
    refine AT.name K (stor_of hs hfn (by kernel_rfl)) ?_
    repeat walk_at "we"
    refine WE.lc H K hs hfn hh ⟨by kernel_rfl,rfl,by kernel_rfl,by kernel_rfl,by kernel_rfl⟩ ?_
    repeat walk_at "we"
    refine ⟨_,rfl,trivial,by simp; lia,onInt fun a => decide (a ≤ e),id,fun B' env' y K' hs' hf' hy => ?_,?_⟩
    · obtain ⟨a,ha,rfl⟩:=List.mem_map.mp hy
      refine ⟨WTs.one ?_,fun _ => ?_⟩
      · repeat walk_at "we"
        exact ⟨_,.bool _,rfl,rfl⟩
      · repeat walk_at "we"
        exact ⟨rfl,rfl⟩
    repeat walk_at "we"
    refine WC.len_list (by rw [filter_onInt]; have:=List.length_filter_le (fun a => decide (a ≤ e)) (lowOf k); simp; lia) ?_
    try dsimp only
    repeat walk_at "we"
    refine WE.lc H K hs hfn hh ⟨by kernel_rfl,rfl,by kernel_rfl,by kernel_rfl,by kernel_rfl⟩ ?_
    repeat walk_at "we"
    refine ⟨_,rfl,trivial,by simp; lia,onInt fun a => decide (a < e),id,fun B' env' y K' hs' hf' hy => ?_,?_⟩
    · obtain ⟨a,ha,rfl⟩:=List.mem_map.mp hy
      refine ⟨WTs.one ?_,fun _ => ?_⟩
      · repeat walk_at "we"
        exact ⟨_,.bool _,rfl,rfl⟩
      · repeat walk_at "we"
        exact ⟨rfl,rfl⟩
    repeat walk_at "we"
    refine WC.len_list (by rw [filter_onInt]; have:=List.length_filter_le (fun a => decide (a < e)) (highOf k); simp; lia) ?_
    try dsimp only
    repeat walk_at "we"
    refine ⟨_,.bool _,?_⟩
    generalize hb:decide ((_:Int) < (_:Int)) = bb
    have hbb:isX k e = bb:=by
      rw [← hb,isX]
      simp only [filter_onInt,List.map_id,List.length_map,Int.ofNat_lt]
    have ht:(codes.take (i + 1)).map (isX k) = (codes.take i).map (isX k) ++ [bb]:=by
      rw [List.take_succ_eq_append_getElem hi,List.map_append,(List.getElem?_eq_some_iff.mp he).2]; simp [hbb]
    have hxl:(xo (List.map (isX k) (List.take i codes))).length ≤ 100:=by rw [xo_length,List.length_map,List.length_take]; lia
    cases bb
    · first | refine iteF (by nofun) ?_ | rw [if_neg (by nofun)]
      repeat walk_at "we"
      refine OpI.add_str (by rw [hzz,show (("o":Str)).length = 1 from by decide +kernel]; lia) ?_
      try dsimp only
      repeat walk_at "we"
      exact k1 _ _ ⟨_,_,_,by rw [ht,← xo_snoc]; rfl,rfl⟩
    · first | refine iteT rfl ?_ | rw [if_pos rfl]
      repeat walk_at "we"
      refine OpI.add_str (by rw [hzz,show (("x":Str)).length = 1 from by decide +kernel]; lia) ?_
      try dsimp only
      repeat walk_at "we"
      exact k1 _ _ ⟨_,_,_,by rw [ht,← xo_snoc]; rfl,rfl⟩
  · rintro μ' σ' ⟨c,b,o,rfl,rfl⟩
    try dsimp only
    repeat walk_at "we"
    exact hR _ _ (by rw [List.length_map,List.take_length])
end
noncomputable def srt (ns:List Int):List Int:=ns.mergeSort fun a b => decide (a ≤ b)
theorem srt_perm (ns:List Int):(srt ns).Perm ns:=List.mergeSort_perm ..
theorem srt_sorted (ns:List Int):(srt ns).Pairwise (· ≤ ·):=by
  have:=List.pairwise_mergeSort (le:=fun a b:Int => decide (a ≤ b)) (by intro a b c; simp; lia) (by intro a b; simp; lia) ns
  exact this.imp fun h => of_decide_eq_true h
theorem srt_unique {ns ms:List Int} (hp:ms.Perm ns) (hs:ms.Pairwise (· ≤ ·)):ms = srt ns :=
  List.Perm.eq_of_pairwise (fun a b _ _ h1 h2 => Int.le_antisymm h1 h2) hs (srt_sorted ns) (hp.trans (srt_perm ns).symm)
theorem srt_length (ns:List Int):(srt ns).length = ns.length:=(srt_perm ns).length_eq
section
variable {prog:Program} {w:World} {Amb:Fz → Prop} {A:Around} {B:Base} {env env':Env} {μ μ':Mu} {σ σ':Sg} {mg mb:Str → Option Value} {at_:Str → Addr} {sc:Scope}
theorem takes_call (H:AmbOk prog w Amb mg mb) (T:TopOk mg mb at_) (D:Def Amb (at_ "_law_takes") 29 ["wishes","many"]):∀ (ws:List Int),ws.length ≤ 4 → ∀ {A:Around} {B:Base} {env:Env} {μ:Mu} {many:Int} {R:V → Sg → Prop},Room A (ws.length + 2) →
    R (lists (takesP ws many)) σ → WC prog w Amb A B env μ σ (.ref (at_ "_law_takes")) [.list (ws.map .int),.int many] R:=by
  intro ws
  induction ws with
  | nil =>
    intro hz A B env μ many R hr hR
    refine WC.def_ (rest:=["rests"]) H D hr (by kernel_rfl) rfl (by decide +kernel) (by kernel_rfl) fun A' B' env' hr' K' hs' hf' => ?_
    refine (takes_body H T K' hs' hf' hr' D [] hz many fun μ v r m R e => by cases e).mono fun f μ' σ' qq => ?_
    obtain ⟨y,h1,h2,h3⟩:=qq
    refine ⟨y,h1,?_⟩
    subst h2 h3
    exact hR
  | cons v r ih =>
    intro hz A B env μ many R hr hR
    refine WC.def_ (rest:=["rests"]) H D hr (by kernel_rfl) rfl (by decide +kernel) (by kernel_rfl) fun A' B' env' hr' K' hs' hf' => ?_
    refine (takes_body H T K' hs' hf' hr' D (v :: r) hz many fun μ v' r' m R e hR' => ?_).mono fun f μ' σ' qq => ?_
    · cases e
      exact ih (by simp only [List.length_cons] at hz; lia) hr' hR'
    · obtain ⟨y,h1,h2,h3⟩:=qq
      refine ⟨y,h1,?_⟩
      subst h2 h3
      exact hR
noncomputable def addOne (fresh:List (List Int)) (rest:List Int):List (List Int):=if srt rest ∈ fresh then fresh else fresh ++ [srt rest]
noncomputable def canIn (many:Int) (fresh:List (List Int)) (now:List Int):List (List Int):=(takesP now many).foldl addOne fresh
noncomputable def canStep (left:List (List Int)) (many:Int):List (List Int):=left.foldl (canIn many) []
noncomputable def canAll (marks wishes:List Int):List (List Int):=marks.foldl canStep [srt wishes]
noncomputable def canP (marks wishes:List Int):Bool:=decide (List.replicate wishes.length 0 ∈ canAll marks wishes)
theorem foldl_take_succ {α β:Type} {f:β → α → β} {b:β} {xs:List α} {i:Nat} {x:α} (h:xs[i]? = some x):(xs.take (i + 1)).foldl f b = f ((xs.take i).foldl f b) x:=by
  have hi:i < xs.length:=(List.getElem?_eq_some_iff.mp h).1
  have hx:xs[i] = x:=(List.getElem?_eq_some_iff.mp h).2
  rw [List.take_succ_eq_append_getElem hi,List.foldl_append,hx]; rfl
theorem addOne_len (fresh:List (List Int)) (r:List Int):(addOne fresh r).length ≤ fresh.length + 1:=by unfold addOne; split <;> simp
theorem addAll_len:∀ (rs fresh:List (List Int)),(rs.foldl addOne fresh).length ≤ fresh.length + rs.length
  | [],fresh => by simp
  | r :: rs,fresh => by
    rw [List.foldl_cons,List.length_cons]
    have:=addAll_len rs (addOne fresh r)
    have:=addOne_len fresh r
    lia
theorem addOne_mem {fresh:List (List Int)} {r n:List Int} (h:n ∈ addOne fresh r):n ∈ fresh ∨ n = srt r:=by
  unfold addOne at h
  split at h
  · exact .inl h
  · simpa using h
theorem addAll_mem:∀ {rs fresh:List (List Int)} {n:List Int},n ∈ rs.foldl addOne fresh → n ∈ fresh ∨ ∃ r ∈ rs,n = srt r
  | [],fresh,n,h => .inl h
  | r :: rs,fresh,n,h => by
    rw [List.foldl_cons] at h
    rcases addAll_mem h with h | ⟨q,hq,e⟩
    · rcases addOne_mem h with h | h
      · exact .inl h
      · exact .inr ⟨r,List.mem_cons_self ..,h⟩
    · exact .inr ⟨q,List.mem_cons_of_mem _ hq,e⟩
noncomputable def AllLen (k:Nat) (l:List (List Int)):Prop:=∀ n ∈ l,n.length = k
theorem canIn_all {k:Nat} {many:Int} {fresh:List (List Int)} {now:List Int} (hf:AllLen k fresh) (hn:now.length = k):AllLen k (canIn many fresh now):=by
  intro n h
  rcases addAll_mem h with h | ⟨r,hr,e⟩
  · exact hf n h
  · rw [e,srt_length,takesP_mem _ _ _ hr,hn]
theorem canIns_all {k:Nat} {many:Int}:∀ {left fresh:List (List Int)},AllLen k fresh → AllLen k left → AllLen k (left.foldl (canIn many) fresh)
  | [],_,hf,_ => hf
  | n :: left,fresh,hf,hl => canIns_all (left:=left) (canIn_all hf (hl n (List.mem_cons_self ..))) fun m hm => hl m (List.mem_cons_of_mem _ hm)
theorem canIns_len {k:Nat} (hk:k ≤ 4) {many:Int}:∀ {left fresh:List (List Int)},AllLen k left → (left.foldl (canIn many) fresh).length ≤ fresh.length + left.length * 16
  | [],fresh,hl => by simp
  | n :: left,fresh,hl => by
    rw [List.foldl_cons,List.length_cons]
    have h1:=canIns_len hk (many:=many) (left:=left) (fresh:=canIn many fresh n) fun m hm => hl m (List.mem_cons_of_mem _ hm)
    have h2:(canIn many fresh n).length ≤ fresh.length + 16:=by
      have h3:=addAll_len (takesP n many) fresh
      have h4:=takesP_len n many
      have h5:=pow_le_16 (n:=n.length) (by rw [hl n (List.mem_cons_self ..)]; exact hk)
      unfold canIn
      lia
    have:(left.length + 1) * 16 = left.length * 16 + 16:=by lia
    lia
theorem canSteps {k:Nat} (hk:k ≤ 4):∀ (marks:List Int) (left:List (List Int)),AllLen k left → AllLen k (marks.foldl canStep left) ∧ (marks.foldl canStep left).length ≤ left.length * 16 ^ marks.length
  | [],left,hl => ⟨hl,by simp⟩
  | m :: marks,left,hl => by
    rw [List.foldl_cons,List.length_cons]
    obtain ⟨h1,h2⟩:=canSteps hk marks (canStep left m) (canIns_all (fun n hn => nomatch hn) hl)
    refine ⟨h1,Nat.le_trans h2 ?_⟩
    have h3:(canStep left m).length ≤ left.length * 16:=by
      have:=canIns_len hk (many:=m) (fresh:=[]) hl
      simpa [canStep] using this
    rw [Nat.pow_succ,← Nat.mul_assoc,Nat.mul_right_comm]
    exact Nat.mul_le_mul_right _ h3
end
section
variable {prog:Program} {w:World} {Amb:Fz → Prop} {A:Around} {B:Base} {env env':Env} {μ μ':Mu} {σ σ':Sg} {mg mb:Str → Option Value} {at_:Str → Addr} {sc:Scope}
theorem canLeft {wishes marks:List Int} (hz:wishes.length ≤ 4) (hm:marks.length ≤ 4) (i:Nat):AllLen wishes.length ((marks.take i).foldl canStep [srt wishes]) ∧ ((marks.take i).foldl canStep [srt wishes]).length ≤ 65536:=by
  obtain ⟨h1,h2⟩:=canSteps hz (marks.take i) [srt wishes] (fun n hn => by simp at hn; subst hn; exact srt_length _)
  refine ⟨h1,Nat.le_trans h2 ?_⟩
  have:16 ^ (marks.take i).length ≤ 16 ^ 4:=Nat.pow_le_pow_right (by decide) (by rw [List.length_take]; lia)
  simpa using this
@[reducible] noncomputable def muC (marks wishes:List Int) (left many fresh now rest one:Option LV):Mu:=[("marks",some (.v (.list (marks.map .int)))),("wishes",some (.v (.list (wishes.map .int)))),("left",left),("many",many),("fresh",fresh),("now",now),("rest",rest),("one",one)]
theorem lists_len (l:List (List Int)):(l.map fun n => V.list (n.map .int)).length = l.length:=by simp
theorem can_body (H:AmbOk prog w Amb mg mb) (T:TopOk mg mb at_) (K:EnvOk env) (hs:env.scope = fnScope 30) (hfn:env.func.isSome = true) (hr:Room A 6) (D:Def Amb (at_ "_law_takes") 29 ["wishes","many"]) (marks wishes:List Int) (hz:wishes.length ≤ 4) (hmz:marks.length ≤ 4) :
    WS prog w Amb A B env (mu0 ["marks","wishes"] [.list (marks.map .int),.list (wishes.map .int)] ["left","many","fresh","now","rest","one"]) σ (fnBody 30)
      (fun f μ' σ' => ∃ y,(f = .ret y ∨ (f = .next ∧ y = .none)) ∧ (y = .bool (canP marks wishes) ∧ σ' = σ)):=by
  have hh:=hr.handled
  have hzz:sizeLine = 16777216:=by decide
  have hu:A.units + 64 < cLine:=by have:=hr.units; show A.units + 64 < 9900; lia
  with_reducible refine WS.ans fun R hR => ?_
  refine WS.cons ?_
  repeat walk_at "we"
  refine WC.sorted_ints H (by lia) fun ns' q1 q2 => ?_
  obtain rfl:=srt_unique q1 q2
  repeat walk_at "we"
  try dsimp only
  refine W1.forR hh (WE.nm (y:=.list (marks.map .int)) K hs (by kernel_rfl) rfl ⟨_,rfl,trivial,fun i μ' σ' => ∃ a b c d e:Option LV,μ' = muC marks wishes (some (.v (lists ((marks.take i).foldl canStep [srt wishes])))) a b c d e ∧ σ' = σ,?_,?_,?_⟩)
  · exact ⟨none,none,none,none,none,rfl,rfl⟩
  · rintro R1 i x μ' σ' k1 _ hx ⟨a,b,c,d,e,rfl,rfl⟩
    rw [List.getElem?_map] at hx
    obtain ⟨many,he,rfl⟩:=Option.map_eq_some_iff.mp hx
    obtain ⟨hA,hL⟩:=canLeft hz hmz (marks:=marks) (wishes:=wishes) i
    have hnext:=foldl_take_succ (f:=canStep) (b:=[srt wishes]) he
    generalize (marks.take i).foldl canStep [srt wishes] = left at hA hL hnext ⊢
    refine AT.name K (stor_of hs hfn (by kernel_rfl)) ?_
    refine WS.cons ?_
    refine W1.assignEmpty K (by rw [kindOf_of hs]; kernel_rfl) ?_
    refine WS.cons ?_
    refine W1.forR hh (WE.nm (y:=lists left) K hs (by kernel_rfl) rfl ⟨left.map fun n => .list (n.map .int),rfl,trivial,fun i μ' τ => ∃ c d e:Option LV,μ' = muC marks wishes (some (.v (lists left))) (some (.v (.int many))) (some (.own (((left.take i).foldl (canIn many) []).map fun n => .list (n.map .int)))) c d e ∧ τ = σ',?_,?_,?_⟩)
    · exact ⟨_,_,_,rfl,rfl⟩
    · rintro R2 i x μ' σ' k2 _ hx ⟨c,d,e,rfl,rfl⟩
      rw [List.getElem?_map] at hx
      obtain ⟨now,hn,rfl⟩:=Option.map_eq_some_iff.mp hx
      have hi:i < left.length:=(List.getElem?_eq_some_iff.mp hn).1
      have hnl:now.length = wishes.length:=hA now (List.mem_of_getElem? hn)
      have hfl:((left.take i).foldl (canIn many) []).length ≤ 1048576:=by
        have:=canIns_len hz (many:=many) (fresh:=[]) (left:=left.take i) fun n hn => hA n (List.mem_of_mem_take hn)
        rw [List.length_take] at this
        simp only [List.length_nil,Nat.zero_add] at this
        have h2:min i left.length * 16 ≤ 65536 * 16:=Nat.mul_le_mul_right _ (by lia)
        lia
      have hnext2:=foldl_take_succ (f:=canIn many) (b:=[]) hn
      generalize (left.take i).foldl (canIn many) [] = fresh0 at hfl hnext2 ⊢
      refine AT.name K (stor_of hs hfn (by kernel_rfl)) ?_
      refine WS.cons ?_
      refine W1.forR hh (WE.callb (WE.gl H K hs (by kernel_rfl) (T.own _ (by decide +kernel)) (.adr _) ⟨_,.fn D.ex.choose_spec.1,?_⟩) (by rfl))
      repeat walk_at "we"
      refine takes_call H T D now (by lia) (hr.less (by lia)) ?_
      have htl:(takesP now many).length ≤ 16:=Nat.le_trans (takesP_len now many) (pow_le_16 (by lia))
      refine ⟨(takesP now many).map fun n => .list (n.map .int),rfl,trivial,fun i μ' τ => ∃ d e:Option LV,μ' = muC marks wishes (some (.v (lists left))) (some (.v (.int many))) (some (.own ((((takesP now many).take i).foldl addOne fresh0).map fun n => .list (n.map .int)))) (some (.v (.list (now.map .int)))) d e ∧ τ = σ',?_,?_,?_⟩
      · exact ⟨_,_,rfl,rfl⟩
      · rintro R3 i x μ' σ' k3 _ hx ⟨d,e,rfl,rfl⟩
        rw [List.getElem?_map] at hx
        obtain ⟨rest,hrest,rfl⟩:=Option.map_eq_some_iff.mp hx
        have hrl:rest.length = now.length:=takesP_mem _ _ _ (List.mem_of_getElem? hrest)
        have hfl2:(((takesP now many).take i).foldl addOne fresh0).length ≤ 1048600:=by
          have:=addAll_len ((takesP now many).take i) fresh0
          rw [List.length_take] at this
          lia
        have hnext3:=foldl_take_succ (f:=addOne) (b:=fresh0) hrest
        generalize ((takesP now many).take i).foldl addOne fresh0 = fresh at hfl2 hnext3 ⊢
        refine AT.name K (stor_of hs hfn (by kernel_rfl)) ?_
        refine WS.cons ?_
        repeat walk_at "we"
        refine WC.sorted_ints H (by lia) fun ns' q1 q2 => ?_
        obtain rfl:=srt_unique q1 q2
        try dsimp only
        refine WS.cons (W1.if_ ?_)
        refine WB.notIn_own (ns:=fresh) (mm:=srt rest) K (by rw [kindOf_of hs]; kernel_rfl) rfl hu (.inl (by rw [kindOf_of hs]; kernel_rfl)) rfl (by decide +kernel) ?_
        by_cases hin:srt rest ∈ fresh
        · first | refine iteF (by simpa using hin) ?_ | rw [if_neg (by simpa using hin)]
          refine WS.nil (WS.nil ?_)
          exact k3 _ _ ⟨_,_,by rw [hnext3,addOne,if_pos hin]; rfl,rfl⟩
        · first | refine iteT (by simpa using hin) ?_ | rw [if_pos (by simpa using hin)]
          refine WS.cons ?_
          refine W1.append K (by rw [kindOf_of hs]; kernel_rfl) rfl (by simp; lia) (fun D' => ?_) (hi:=inter hs (by kernel_rfl))
          repeat walk_at "we"
          exact k3 _ _ ⟨_,_,by rw [hnext3,addOne,if_neg hin,List.map_append]; rfl,rfl⟩
      · rintro μ' σ' ⟨d,e,rfl,rfl⟩
        exact WS.nil (k2 _ _ ⟨_,_,_,by rw [hnext2,List.length_map,List.take_length]; rfl,rfl⟩)
    · rintro μ' σ' ⟨c,d,e,rfl,rfl⟩
      rw [List.length_map,List.take_length]
      refine WS.freeze H (x:="fresh") (by rw [kindOf_of hs]; kernel_rfl) rfl ?_
      refine WS.cons ?_
      repeat walk_at "we"
      exact k1 _ _ ⟨_,_,_,_,_,by rw [hnext]; rfl,rfl⟩
  · rintro μ' σ' ⟨a,b,c,d,e,rfl,rfl⟩
    rw [List.length_map,List.take_length]
    refine WS.cons ?_
    repeat walk_at "we"
    refine WC.len_list (by simp; lia) ?_
    refine OpB.mul_list H ⟨by lia,by simp; lia⟩ (by simp) (by simp) ?_
    repeat walk_at "we"
    have e0:(List.replicate ((List.map V.int wishes).length:Int).toNat [V.int 0]).flatten = (List.replicate wishes.length 0).map V.int:=by
      rw [List.length_map,Int.toNat_natCast]
      induction wishes.length with
      | zero => rfl
      | succ n ih => rw [List.replicate_succ,List.flatten_cons,ih,List.replicate_succ]; rfl
    rw [e0]
    refine OpC.in_intss hu ?_
    exact hR _ _ rfl
end
section
variable {prog:Program} {w:World} {Amb:Fz → Prop} {A:Around} {B:Base} {env env':Env} {μ μ':Mu} {σ σ':Sg} {mg mb:Str → Option Value} {at_:Str → Addr} {sc:Scope}
structure SetIs (prog:Program) (w:World) (Amb:Fz → Prop) (a:Addr) (p:Int → Bool):Prop where
  has:∀ (F:Fz) (h:Heap),Amb F → (∀ a o,F a = some o → h.get? a = some o) → ∃ n,h.SetOf (intKind prog w) a p n
theorem OpC.in_set {a:Addr} {p:Int → Bool} {i:Int} {R:V → Sg → Prop} (D:SetIs prog w Amb a p) (h:R (.bool (p i)) σ):OpC prog w Amb A B env μ σ .In (.int i) (.adr a) R:=by
  rintro u v P s ⟨F,φ,m,ow,S⟩
  obtain rfl:=S.top.inv
  obtain ⟨t,rfl⟩:=S.top2.inv
  obtain ⟨n,hS⟩:=D.has F _ S.amb S.sub
  exact wpAny_inSet_of (k:=i) (by simp [intKind,Value.isInt]) rfl hS ⟨_,σ,⟨F,φ,m,ow,(S.pop2.grow (Grow.toks _)).add (.bool _)⟩,h⟩
theorem divOk {x y:Int} (h:y.natAbs < 2 ^ 64):Builtin.divisionGoesByPylong x y = false:=by
  have:y.natAbs = 0 ∨ y.natAbs.log2 < 64:=by
    by_cases h0:y.natAbs = 0
    · exact .inl h0
    · exact .inr ((Nat.log2_lt h0).mpr h)
  unfold Builtin.divisionGoesByPylong
  simp only [Bool.and_eq_false_imp,decide_eq_true_eq,decide_eq_false_iff_not]
  intro h1
  exfalso
  revert h1
  set_option tactic.hygienic true in split
  · lia
  · rename_i hn
    have hn':y ≠ 0:=by simpa using hn
    rcases this with h | h
    · lia
    · lia
theorem mulOk {x y:Int} (h:x.natAbs < 2 ^ 63):IntMulOk x y:=by
  refine IntMulOk.of_left ?_
  unfold Builtin.Int.intBits
  set_option tactic.hygienic true in split
  · lia
  · rename_i hn
    have hn':x ≠ 0:=by simpa using hn
    have:=(Nat.log2_lt (n:=x.natAbs) (k:=63) (by lia)).mpr h
    lia
noncomputable def setName:Nat → Str
  | 0 => "c6_set" | 1 => "c7_set" | 2 => "c8_set" | _ => "c9_set"
noncomputable def tabName:Nat → Str
  | 0 => "in_table_c6" | 1 => "in_table_c7" | 2 => "in_table_c8" | _ => "in_table_c9"
noncomputable def tabBody (k:Nat):Nat:=10 + 2 * k
theorem tab_body (H:AmbOk prog w Amb mg mb) (T:TopOk mg mb at_) (K:EnvOk env) (k:Nat) (hk:k < 4) (hs:env.scope = fnScope (tabBody k)) (hfn:env.func.isSome = true) (hr:Room A 1) (D:SetIs prog w Amb (at_ (setName k)) (isX k)) (c:Int) (h0:0 ≤ c) :
    WS prog w Amb A B env (mu0 ["code"] [.str ⟨#[c.toNat]⟩] []) σ (fnBody (tabBody k))
      (fun f μ' σ' => ∃ y,(f = .ret y ∨ (f = .next ∧ y = .none)) ∧ (y = .bool (isX k c) ∧ σ' = σ)):=by
  with_reducible refine WS.ans fun R hR => ?_
  obtain rfl | rfl | rfl | rfl:=four hk
  · skip
    refine WS.cons ?_
    repeat walk_at "we"
    refine WC.ord rfl ?_
    refine WE.gl H K hs (by kernel_rfl) (T.own _ (by decide +kernel)) (.adr _) ?_
    refine OpC.in_set D ?_
    refine hR _ _ (by rw [show ((Str.mk #[c.toNat]).cps.getD 0 0:Nat) = (c.toNat:Nat) from rfl,Int.toNat_of_nonneg h0])
  · skip
    refine WS.cons ?_
    repeat walk_at "we"
    refine WC.ord rfl ?_
    refine WE.gl H K hs (by kernel_rfl) (T.own _ (by decide +kernel)) (.adr _) ?_
    refine OpC.in_set D ?_
    refine hR _ _ (by rw [show ((Str.mk #[c.toNat]).cps.getD 0 0:Nat) = (c.toNat:Nat) from rfl,Int.toNat_of_nonneg h0])
  · skip
    refine WS.cons ?_
    repeat walk_at "we"
    refine WC.ord rfl ?_
    refine WE.gl H K hs (by kernel_rfl) (T.own _ (by decide +kernel)) (.adr _) ?_
    refine OpC.in_set D ?_
    refine hR _ _ (by rw [show ((Str.mk #[c.toNat]).cps.getD 0 0:Nat) = (c.toNat:Nat) from rfl,Int.toNat_of_nonneg h0])
  · skip
    refine WS.cons ?_
    repeat walk_at "we"
    refine WC.ord rfl ?_
    refine WE.gl H K hs (by kernel_rfl) (T.own _ (by decide +kernel)) (.adr _) ?_
    refine OpC.in_set D ?_
    refine hR _ _ (by rw [show ((Str.mk #[c.toNat]).cps.getD 0 0:Nat) = (c.toNat:Nat) from rfl,Int.toNat_of_nonneg h0])
theorem tab_ok:∀ k,k < 4 → (fnScope (tabBody k)).isGenerator = false ∧ ((["code"]:List Str).all fun n => storKind ((fnScope (tabBody k)).names.lookup n)) = true
 :=fun k hk => by obtain rfl | rfl | rfl | rfl:=four hk <;> exact ⟨by kernel_rfl,by kernel_rfl⟩
theorem tab_call (H:AmbOk prog w Amb mg mb) (T:TopOk mg mb at_) (k:Nat) (hk:k < 4) (Df:Def Amb (at_ (tabName k)) (tabBody k) ["code"]) (D:SetIs prog w Amb (at_ (setName k)) (isX k)) (hr:Room A 2) (c:Int) (h0:0 ≤ c) {R:V → Sg → Prop} (h:R (.bool (isX k c)) σ) :
    WC prog w Amb A B env μ σ (.ref (at_ (tabName k))) [.str ⟨#[c.toNat]⟩] R:=by
  refine WC.def_ (rest:=[]) H Df hr (tab_ok k hk).1 rfl (by decide +kernel) (tab_ok k hk).2
    fun A' B' env' hr' K' hs' hf' => (tab_body H T K' k hk hs' hf' hr' D c h0).mono fun f μ' σ' qq => ?_
  obtain ⟨y,h1,h2,h3⟩:=qq
  refine ⟨y,h1,?_⟩
  subst h2 h3
  exact h
end
section
variable {prog:Program} {w:World} {Amb:Fz → Prop} {A:Around} {B:Base} {env env':Env} {μ μ':Mu} {σ σ':Sg} {mg mb:Str → Option Value} {at_:Str → Addr} {sc:Scope}
@[reducible] noncomputable def muR (codes:List Int) (k:Nat) (text:Str) (code held:Option LV):Mu:=[("codes",some (.v (.list (codes.map .int)))),("k",some (.v (.int k))),("text",some (.v (.str text))),("code",code),("held",held)]
theorem read_body (H:AmbOk prog w Amb mg mb) (T:TopOk mg mb at_) (K:EnvOk env) (hs:env.scope = fnScope 25) (hfn:env.func.isSome = true) (hr:Room A 3)
    (Df:∀ k,k < 4 → Def Amb (at_ (tabName k)) (tabBody k) ["code"]) (Ds:∀ k,k < 4 → SetIs prog w Amb (at_ (setName k)) (isX k)) (codes:List Int) (k:Nat) (hk:k < 4) (hz:codes.length ≤ 100) (hcs:∀ c ∈ codes,0 ≤ c ∧ c ≤ 1114111) :
    WS prog w Amb A B env (mu0 ["codes","k"] [.list (codes.map .int),.int k] ["text","code","held"]) σ (fnBody 25)
      (fun f μ' σ' => ∃ y,(f = .ret y ∨ (f = .next ∧ y = .none)) ∧ (y = .str (xo (codes.map (isX k))) ∧ σ' = σ)):=by
  with_reducible refine WS.ans fun R hR => ?_
  have hh:=hr.handled
  have hzz:sizeLine = 16777216:=by decide
  have hr2:Room A 2:=hr.less (by decide)
  refine WS.cons ?_
  repeat walk_at "we"
  refine W1.forR hh (WE.nm (y:=.list (codes.map .int)) K hs (by kernel_rfl) rfl ⟨_,rfl,trivial,fun i μ' τ => ∃ a b:Option LV,μ' = muR codes k (xo ((codes.take i).map (isX k))) a b ∧ τ = σ,?_,?_,?_⟩)
  · exact ⟨none,none,by rw [List.take_zero,List.map_nil,xo_nil]; rfl,rfl⟩
  · rintro R1 i x μ' σ' k1 _ hx ⟨a,b,rfl,rfl⟩
    rw [List.getElem?_map] at hx
    obtain ⟨c,he,rfl⟩:=Option.map_eq_some_iff.mp hx
    have hi:i < codes.length:=(List.getElem?_eq_some_iff.mp he).1
    have hc:=hcs c (List.mem_of_getElem? he)
    have ht:(codes.take (i + 1)).map (isX k) = (codes.take i).map (isX k) ++ [isX k c]:=by
      rw [List.take_succ_eq_append_getElem hi,List.map_append,(List.getElem?_eq_some_iff.mp he).2]; simp
    have hxl:(xo (List.map (isX k) (List.take i codes))).length ≤ 100:=by rw [xo_length,List.length_map,List.length_take]; lia
    generalize hg:xo ((codes.take i).map (isX k)) = tx at hxl ⊢
    refine AT.name K (stor_of hs hfn (by kernel_rfl)) ?_
    refine WS.cons ?_
    refine W1.mono (R:=fun f μ2 σ2 => f = .next ∧ μ2 = mset (mset (muR codes k tx a b) "code" (.v (.int c))) "held" (.v (.bool (isX k c))) ∧ σ2 = σ') ?_ ?_
    · obtain rfl | rfl | rfl | rfl:=four hk
      · refine W1.if_ ?_
        repeat walk_at "we"
        refine ⟨_,.bool _,?_⟩
        first | refine iteT (by decide) ?_ | rw [if_pos (by decide)]
        refine WS.cons ?_
        refine W1.assign K (stor_of hs hfn (by kernel_rfl)) ?_ (by rfl)
        refine WE.callb ?_ (by rfl)
        refine WE.gl H K hs (by kernel_rfl) (T.own _ (by decide +kernel)) (.adr _) ⟨_,.fn (Df 0 (by lia)).ex.choose_spec.1,?_⟩
        repeat walk_at "we"
        refine WC.chr hc.1 hc.2 ?_
        repeat walk_at "we"
        refine tab_call H T 0 (by lia) (Df 0 (by lia)) (Ds 0 (by lia)) hr2 c hc.1 ?_
        repeat (first | exact ⟨rfl,rfl,rfl⟩ | refine WS.nil ?_)
      · refine W1.if_ ?_
        repeat walk_at "we"
        refine ⟨_,.bool _,?_⟩
        first | refine iteF (by decide) ?_ | rw [if_neg (by decide)]
        refine WS.cons ?_
        refine W1.if_ ?_
        repeat walk_at "we"
        refine ⟨_,.bool _,?_⟩
        first | refine iteT (by decide) ?_ | rw [if_pos (by decide)]
        refine WS.cons ?_
        refine W1.assign K (stor_of hs hfn (by kernel_rfl)) ?_ (by rfl)
        refine WE.callb ?_ (by rfl)
        refine WE.gl H K hs (by kernel_rfl) (T.own _ (by decide +kernel)) (.adr _) ⟨_,.fn (Df 1 (by lia)).ex.choose_spec.1,?_⟩
        repeat walk_at "we"
        refine WC.chr hc.1 hc.2 ?_
        repeat walk_at "we"
        refine tab_call H T 1 (by lia) (Df 1 (by lia)) (Ds 1 (by lia)) hr2 c hc.1 ?_
        repeat (first | exact ⟨rfl,rfl,rfl⟩ | refine WS.nil ?_)
      · refine W1.if_ ?_
        repeat walk_at "we"
        refine ⟨_,.bool _,?_⟩
        first | refine iteF (by decide) ?_ | rw [if_neg (by decide)]
        refine WS.cons ?_
        refine W1.if_ ?_
        repeat walk_at "we"
        refine ⟨_,.bool _,?_⟩
        first | refine iteF (by decide) ?_ | rw [if_neg (by decide)]
        refine WS.cons ?_
        refine W1.if_ ?_
        repeat walk_at "we"
        refine ⟨_,.bool _,?_⟩
        first | refine iteT (by decide) ?_ | rw [if_pos (by decide)]
        refine WS.cons ?_
        refine W1.assign K (stor_of hs hfn (by kernel_rfl)) ?_ (by rfl)
        refine WE.callb ?_ (by rfl)
        refine WE.gl H K hs (by kernel_rfl) (T.own _ (by decide +kernel)) (.adr _) ⟨_,.fn (Df 2 (by lia)).ex.choose_spec.1,?_⟩
        repeat walk_at "we"
        refine WC.chr hc.1 hc.2 ?_
        repeat walk_at "we"
        refine tab_call H T 2 (by lia) (Df 2 (by lia)) (Ds 2 (by lia)) hr2 c hc.1 ?_
        repeat (first | exact ⟨rfl,rfl,rfl⟩ | refine WS.nil ?_)
      · refine W1.if_ ?_
        repeat walk_at "we"
        refine ⟨_,.bool _,?_⟩
        first | refine iteF (by decide) ?_ | rw [if_neg (by decide)]
        refine WS.cons ?_
        refine W1.if_ ?_
        repeat walk_at "we"
        refine ⟨_,.bool _,?_⟩
        first | refine iteF (by decide) ?_ | rw [if_neg (by decide)]
        refine WS.cons ?_
        refine W1.if_ ?_
        repeat walk_at "we"
        refine ⟨_,.bool _,?_⟩
        first | refine iteF (by decide) ?_ | rw [if_neg (by decide)]
        refine WS.cons ?_
        refine W1.assign K (stor_of hs hfn (by kernel_rfl)) ?_ (by rfl)
        refine WE.callb ?_ (by rfl)
        refine WE.gl H K hs (by kernel_rfl) (T.own _ (by decide +kernel)) (.adr _) ⟨_,.fn (Df 3 (by lia)).ex.choose_spec.1,?_⟩
        repeat walk_at "we"
        refine WC.chr hc.1 hc.2 ?_
        repeat walk_at "we"
        refine tab_call H T 3 (by lia) (Df 3 (by lia)) (Ds 3 (by lia)) hr2 c hc.1 ?_
        repeat (first | exact ⟨rfl,rfl,rfl⟩ | refine WS.nil ?_)
    · rintro f μ2 σ2 ⟨rfl,rfl,rfl⟩
      generalize isX k c = hb at ht
      try dsimp only
      refine WS.cons ?_
      repeat walk_at "we"
      refine WB.val ?_ (fun _ => rfl)
      repeat walk_at "we"
      refine ⟨_,.bool _,?_⟩
      cases hb
      · first | refine iteF (by nofun) ?_ | rw [if_neg (by nofun)]
        repeat walk_at "we"
        refine OpI.add_str (by rw [hzz,show (("o":Str)).length = 1 from by decide +kernel]; lia) ?_
        try dsimp only
        repeat walk_at "we"
        exact k1 _ _ ⟨_,_,by rw [ht,← xo_snoc,hg]; rfl,rfl⟩
      · first | refine iteT rfl ?_ | rw [if_pos rfl]
        repeat walk_at "we"
        refine OpI.add_str (by rw [hzz,show (("x":Str)).length = 1 from by decide +kernel]; lia) ?_
        try dsimp only
        repeat walk_at "we"
        exact k1 _ _ ⟨_,_,by rw [ht,← xo_snoc,hg]; rfl,rfl⟩
  · rintro μ' σ' ⟨a,b,rfl,rfl⟩
    refine WS.cons ?_
    repeat walk_at "we"
    exact hR _ _ (by rw [List.length_map,List.take_length])
end
noncomputable def sq (a:Int) (n:Nat):List Int:=(List.range n).map fun i => a + (i:Nat)
noncomputable def nearOf:Nat → List Int
  | 0 => sq 65524 16
  | 1 => sq 12268 20
  | 2 => sq 8226 16 ++ sq 8295 12 ++ sq 830 6 ++ sq 8204 6
  | _ => sq 917528 160 ++ [917504,917505,917506]
noncomputable def codeAt (number:Int) (k:Nat) (p:Int):Int:=((nearOf k)[(Int.fmod (Int.fdiv number (256 ^ p.toNat) + 5 * p) (nearOf k).length).toNat]?).getD 0
noncomputable def codesP (number:Int) (k size:Nat):List Int:=(List.range size).map fun i => codeAt number k (i:Nat)
theorem near_len:∀ k,k < 4 → 0 < (nearOf k).length ∧ (nearOf k).length ≤ 200
  | 0,_ => by decide +kernel
  | 1,_ => by decide +kernel
  | 2,_ => by decide +kernel
  | 3,_ => by decide +kernel
theorem near_mem:∀ k,k < 4 → ∀ c ∈ nearOf k,0 ≤ c ∧ c ≤ 1114111
  | 0,_ => by decide +kernel
  | 1,_ => by decide +kernel
  | 2,_ => by decide +kernel
  | 3,_ => by decide +kernel
theorem codeAt_at (number:Int) (k:Nat) (hk:k < 4) (p:Int):(nearOf k)[(Int.fmod (Int.fdiv number (256 ^ p.toNat) + 5 * p) (nearOf k).length).toNat]? = some (codeAt number k p):=by
  obtain ⟨h1,h2⟩:=near_len k hk
  have a:=Int.fmod_lt_of_pos (Int.fdiv number (256 ^ p.toNat) + 5 * p) (b:=(nearOf k).length) (by lia)
  have b:=Int.fmod_nonneg_of_pos (Int.fdiv number (256 ^ p.toNat) + 5 * p) (b:=(nearOf k).length) (by lia)
  have hlt:(Int.fmod (Int.fdiv number (256 ^ p.toNat) + 5 * p) (nearOf k).length).toNat < (nearOf k).length:=by lia
  unfold codeAt
  rw [List.getElem?_eq_getElem hlt]
  rfl
theorem codes_mem {number:Int} {k size:Nat} (hk:k < 4):∀ c ∈ codesP number k size,0 ≤ c ∧ c ≤ 1114111:=by
  intro c hc
  obtain ⟨i,_,rfl⟩:=List.mem_map.mp hc
  exact near_mem k hk _ (List.mem_of_getElem? (codeAt_at number k hk _))
theorem codesP_len (number:Int) (k size:Nat):(codesP number k size).length = size:=by simp [codesP]
theorem pow256:∀ i:Nat,i < 4 → (256:Int) ^ i ≠ 0 ∧ ((256:Int) ^ i).natAbs < 2 ^ 64
  | 0,_ => by decide
  | 1,_ => by decide
  | 2,_ => by decide
  | 3,_ => by decide
theorem zero_add_toNat (i:Nat):(0 + (i:Int)).toNat = i:=by lia
noncomputable def atCode (number:Int) (k:Nat):V → V
  | .int p => .int (codeAt number k p)
  | y => y
section
variable {prog:Program} {w:World} {Amb:Fz → Prop} {A:Around} {B:Base} {env env':Env} {μ μ':Mu} {σ σ':Sg} {mg mb:Str → Option Value} {at_:Str → Addr} {sc:Scope}
theorem codes_body (H:AmbOk prog w Amb mg mb) (T:TopOk mg mb at_) (K:EnvOk env) (hs:env.scope = fnScope 24) (hfn:env.func.isSome = true) (hr:Room A 1) (number:Int) (k size:Nat) (hk:k < 4) (hz:size ≤ 4) :
    WS prog w Amb A B env (mu0 ["number","k","size"] [.int number,.int k,.int size] ["near"]) σ (fnBody 24)
      (fun f μ' σ' => ∃ y,(f = .ret y ∨ (f = .next ∧ y = .none)) ∧ (y = .list ((codesP number k size).map .int) ∧ σ' = σ)):=by
  with_reducible refine WS.ans fun R hR => ?_
  have hh:=hr.handled
  have hzz:sizeLine = 16777216:=by decide
  refine WS.cons ?_
  refine W1.mono (R:=fun f μ2 σ2 => f = .next ∧ μ2 = mset (mu0 ["number","k","size"] [.int number,.int k,.int size] ["near"]) "near" (.v (.list ((nearOf k).map .int))) ∧ σ2 = σ) ?_ ?_
  · obtain rfl | rfl | rfl | rfl:=four hk
    · refine W1.if_ ?_
      repeat walk_at "we"
      refine ⟨_,.bool _,?_⟩
      first | refine iteT (by decide) ?_ | rw [if_pos (by decide)]
      refine WS.cons ?_
      refine W1.assign K (stor_of hs hfn (by kernel_rfl)) ?_ (by rfl)
      repeat walk_at "we"
      refine WC.list_range H hh (by refine ⟨?_,?_,?_,?_⟩ <;> decide) (by decide) ?_
      repeat (first | exact ⟨rfl,by simp only [nearOf,sq,List.map_append,List.map_map]; rfl,rfl⟩ | refine WS.nil ?_)
    · refine W1.if_ ?_
      repeat walk_at "we"
      refine ⟨_,.bool _,?_⟩
      first | refine iteF (by decide) ?_ | rw [if_neg (by decide)]
      refine WS.cons ?_
      refine W1.if_ ?_
      repeat walk_at "we"
      refine ⟨_,.bool _,?_⟩
      first | refine iteT (by decide) ?_ | rw [if_pos (by decide)]
      refine WS.cons ?_
      refine W1.assign K (stor_of hs hfn (by kernel_rfl)) ?_ (by rfl)
      repeat walk_at "we"
      refine WC.list_range H hh (by refine ⟨?_,?_,?_,?_⟩ <;> decide) (by decide) ?_
      repeat (first | exact ⟨rfl,by simp only [nearOf,sq,List.map_append,List.map_map]; rfl,rfl⟩ | refine WS.nil ?_)
    · refine W1.if_ ?_
      repeat walk_at "we"
      refine ⟨_,.bool _,?_⟩
      first | refine iteF (by decide) ?_ | rw [if_neg (by decide)]
      refine WS.cons ?_
      refine W1.if_ ?_
      repeat walk_at "we"
      refine ⟨_,.bool _,?_⟩
      first | refine iteF (by decide) ?_ | rw [if_neg (by decide)]
      refine WS.cons ?_
      refine W1.if_ ?_
      repeat walk_at "we"
      refine ⟨_,.bool _,?_⟩
      first | refine iteT (by decide) ?_ | rw [if_pos (by decide)]
      refine WS.cons ?_
      refine W1.assign K (stor_of hs hfn (by kernel_rfl)) ?_ (by rfl)
      repeat walk_at "we"
      refine WC.list_range H hh (by refine ⟨?_,?_,?_,?_⟩ <;> decide) (by decide) ?_
      repeat walk_at "we"
      refine WC.list_range H hh (by refine ⟨?_,?_,?_,?_⟩ <;> decide) (by decide) ?_
      refine OpB.add_list H (by simp; lia) ?_
      repeat walk_at "we"
      refine WC.list_range H hh (by refine ⟨?_,?_,?_,?_⟩ <;> decide) (by decide) ?_
      refine OpB.add_list H (by simp; lia) ?_
      repeat walk_at "we"
      refine WC.list_range H hh (by refine ⟨?_,?_,?_,?_⟩ <;> decide) (by decide) ?_
      refine OpB.add_list H (by simp; lia) ?_
      repeat (first | exact ⟨rfl,by simp only [nearOf,sq,List.map_append,List.map_map]; rfl,rfl⟩ | refine WS.nil ?_)
    · refine W1.if_ ?_
      repeat walk_at "we"
      refine ⟨_,.bool _,?_⟩
      first | refine iteF (by decide) ?_ | rw [if_neg (by decide)]
      refine WS.cons ?_
      refine W1.if_ ?_
      repeat walk_at "we"
      refine ⟨_,.bool _,?_⟩
      first | refine iteF (by decide) ?_ | rw [if_neg (by decide)]
      refine WS.cons ?_
      refine W1.if_ ?_
      repeat walk_at "we"
      refine ⟨_,.bool _,?_⟩
      first | refine iteF (by decide) ?_ | rw [if_neg (by decide)]
      refine WS.cons ?_
      refine W1.assign K (stor_of hs hfn (by kernel_rfl)) ?_ (by rfl)
      repeat walk_at "we"
      refine WC.list_range H hh (by refine ⟨?_,?_,?_,?_⟩ <;> decide) (by decide) ?_
      repeat walk_at "we"
      refine OpB.add_list H (by simp; lia) ?_
      repeat (first | exact ⟨rfl,by simp only [nearOf,sq,List.map_append,List.map_map]; rfl,rfl⟩ | refine WS.nil ?_)
  · rintro f μ2 σ2 ⟨rfl,rfl,rfl⟩
    obtain ⟨hl1,hl2⟩:=near_len k hk
    have hat:=codeAt_at number k hk
    have hco:codesP number k size = (List.range size).map fun i => codeAt number k (i:Nat):=rfl
    refine WS.cons ?_
    refine W1.ret ?_
    refine WE.lc H K hs hfn hh ⟨by kernel_rfl,rfl,by kernel_rfl,by kernel_rfl,by kernel_rfl⟩ ?_
    repeat walk_at "we"
    refine ⟨_,rfl,fits0 (by lia),by simp; lia,fun _ => true,atCode number k,fun B' env' y K' hs' hf' hy => ?_,?_⟩
    · obtain ⟨i,hi,rfl⟩:=List.mem_map.mp hy
      have hi4:i < 4:=by have:=List.mem_range.mp hi; lia
      refine ⟨WTs.nil ⟨rfl,rfl⟩,fun _ => ?_⟩
      repeat walk_at "we"
      have hb:(Builtin.Int.intBits 256:Int) * (0 + (i:Int)) ≤ 2 ^ 27:=by
        have:(Builtin.Int.intBits 256:Int) = 9:=by decide +kernel
        rw [this]; lia
      refine OpB.pow_int (by lia) hb ?_
      have e1:(0 + (i:Int)).toNat = i:=zero_add_toNat i
      have hp0:(256:Int) ^ (0 + (i:Int)).toNat ≠ 0:=by rw [e1]; exact (pow256 i hi4).1
      have hp1:((256:Int) ^ (0 + (i:Int)).toNat).natAbs < 2 ^ 64:=by rw [e1]; exact (pow256 i hi4).2
      refine OpB.div_int hp0 (divOk hp1) ?_
      repeat walk_at "we"
      refine OpB.mul_int (mulOk (by decide)) ?_
      repeat walk_at "we"
      refine WC.len_list (by simp; lia) ?_
      have hl0:(((nearOf k).map V.int).length:Int) = (nearOf k).length:=by simp
      rw [hl0]
      refine OpB.mod_int hh (by lia) ?_
      have a:=Int.fmod_lt_of_pos (Int.fdiv number (256 ^ (0 + (i:Int)).toNat) + 5 * (0 + (i:Int))) (b:=(nearOf k).length) (by lia)
      have b:=Int.fmod_nonneg_of_pos (Int.fdiv number (256 ^ (0 + (i:Int)).toNat) + 5 * (0 + (i:Int))) (b:=(nearOf k).length) (by lia)
      refine OpS.list (j:=(Int.fmod (Int.fdiv number (256 ^ (0 + (i:Int)).toNat) + 5 * (0 + (i:Int))) (nearOf k).length).toNat) (y:=.int (codeAt number k (0 + (i:Int)))) rfl (.inl ⟨b,rfl⟩) (by lia) ?_ ⟨rfl,rfl⟩
      rw [List.getElem?_map,hat (0 + (i:Int))]
      rfl
    · rw [filter_tt]
      refine hR _ _ ?_
      rw [hco,List.map_map,List.map_map,show ((size:Int) - 0).toNat = size by lia]
      congr 1
      refine List.map_congr_left fun i _ => ?_
      show V.int (codeAt number k (0 + (i:Int))) = _
      rw [Int.zero_add]
      rfl
end
section
variable {prog:Program} {w:World} {Amb:Fz → Prop} {A:Around} {B:Base} {env env':Env} {μ μ':Mu} {σ σ':Sg} {mg mb:Str → Option Value} {at_:Str → Addr} {sc:Scope}
variable {F:Fz} {φ:List Addr}
theorem relL_strs:∀ l:List (Str × Tok),RelL F φ (strValues l) ((l.map (·.1)).map .str)
  | [] => .nil
  | (x,t) :: l => .cons (.str x t) (relL_strs l)
theorem WC.str_split {x y:Str} {R:V → Sg → Prop} (H:AmbOk prog w Amb mg mb) (h1:(decide (x.length < y.length) || decide (Builtin.Str.strKind x < Builtin.Str.strKind y)) = false) (hy:(y.length == 0) = false)
    (hf:(Builtin.Str.occurrences x y 0 x.length (x.length + 1)).isEmpty = false) (hx:x.length ≤ sizeLine) (hn:(Builtin.Str.partsBetween x (Builtin.Str.occurrences x y 0 x.length (x.length + 1)) y.length).length ≤ sizeLine)
    (h:R (.list ((Builtin.Str.partsBetween x (Builtin.Str.occurrences x y 0 x.length (x.length + 1)) y.length).map .str)) σ):WC prog w Amb A B env μ σ (.builtin "str.split") [.str x,.str y] R :=
  WC.two fun v u P s F φ m ow S r r' => by
    obtain ⟨t,rfl⟩:=r.inv
    cases r' with
    | str _ t' =>
    refine PySem.call_meets PySem.F.slot_str_split (typeIs_str _ _ _) PySem.F.entry_str_split (PySem.F.args_str_split_2 _ _) (meets_str_split_sep x y t t' h1 hy hf hx hn) ?_
    rw [strsFrom_eq]
    generalize hp:Builtin.Str.partsBetween x (Builtin.Str.occurrences x y 0 x.length (x.length + 1)) y.length = parts at h ⊢
    obtain ⟨F',T⟩:=S.fresh (vs:=(strValues (numbered s.toks parts)).toArray) (n:=0) (ys:=parts.map .str) (s':={ s with heap:=s.heap.push (listO (strValues (numbered s.toks parts)).toArray 0),toks:=s.toks + parts.length }) H (Grow.push _ _) (none_at_size _) (Heap.get?_push_size _ rfl)
      (by have:=relL_strs (F:=F) (φ:=φ) (numbered s.toks parts); rw [numbered_texts] at this; simpa using this)
    exact ⟨_,σ,⟨F',φ,m,ow,T⟩,h⟩
theorem swStores {ts:List PySem.Expr} {v:PySem.Expr} (hs:env.scope = sc):swappedStores ts v env = swappedStores ts v { scope:=sc,locals:=0,globals:=0,cells:=[] }:=by subst hs; rfl
noncomputable def emGo (got:Str) (n:Nat):List Str → Nat → Bool
  | [],_ => true
  | w :: r,i => if find4 got w i n < 0 then false else emGo got n r ((find4 got w i n).toNat + w.length)
structure WantOk (want:Str) (parts:List Str):Prop where
  has:Txt.contains want "..." = true
  h1:(decide (want.length < ("...":Str).length) || decide (Builtin.Str.strKind want < Builtin.Str.strKind "...")) = false
  hf:(Builtin.Str.occurrences want "..." 0 want.length (want.length + 1)).isEmpty = false
  hx:want.length ≤ 1000
  eq:Builtin.Str.partsBetween want (Builtin.Str.occurrences want "..." 0 want.length (want.length + 1)) ("...":Str).length = parts
  len:2 ≤ parts.length ∧ parts.length ≤ 100
  first:parts[0]? = some ("":Str)
  last:parts[parts.length - 1]? = some ("":Str)
  small:∀ x ∈ parts,x.length ≤ 1000
@[reducible] noncomputable def muE (want got:Str) (parts:List Str) (st:Nat) (wv:Option LV):Mu:=[("want",some (.v (.str want))),("got",some (.v (.str got))),("ws",some (.v (.list (parts.map .str)))),("startpos",some (.v (.int st))),("endpos",some (.v (.int got.length))),("w",wv)]
theorem ell_body (H:AmbOk prog w Amb mg mb) (T:TopOk mg mb at_) (K:EnvOk env) (hs:env.scope = fnScope 7) (hfn:env.func.isSome = true) (hr:Room A 1) (want got:Str) (parts:List Str) (W:WantOk want parts) (hg:got.length ≤ 1000) :
    WS prog w Amb A B env (mu0 ["want","got"] [.str want,.str got] ["ws","startpos","endpos","w"]) σ (fnBody 7)
      (fun f μ' σ' => ∃ y,(f = .ret y ∨ (f = .next ∧ y = .none)) ∧ (y = .bool (emGo got got.length parts 0) ∧ σ' = σ)):=by
  have hh:=hr.handled
  have hzz:sizeLine = 16777216:=by decide
  obtain ⟨t0,hdots⟩:=T.dots
  have hW:=W.len
  with_reducible refine WS.ans fun R hR => ?_
  refine WS.cons ?_
  repeat walk_at "we"
  refine WE.gl H K hs (by kernel_rfl) hdots (.str _ _) ?_
  repeat walk_at "we"
  refine OpC.notIn_str ?_
  refine ⟨_,.bool _,?_⟩
  rw [W.has,if_neg (by decide)]
  repeat walk_at "we"
  refine WE.meth ?_ (by rfl) (by rfl) (by rfl) (by rfl)
  repeat walk_at "we"
  refine ⟨_,meth_str PySem.F.slot_str_split PySem.F.type_str_split,?_⟩
  repeat walk_at "we"
  refine WE.gl H K hs (by kernel_rfl) hdots (.str _ _) ?_
  repeat walk_at "we"
  refine WC.str_split H W.h1 (by decide +kernel) W.hf (by have:=W.hx; lia) (by rw [W.eq]; lia) ?_
  rw [W.eq]
  try dsimp only
  repeat walk_at "we"
  refine WC.len_list (by simp; lia) ?_
  repeat walk_at "we"
  refine ⟨_,.bool _,by simp; lia,?_⟩
  repeat walk_at "we"
  refine W1.assignPair (x:="startpos") (y:="endpos") K hh (stor_of hs hfn (by kernel_rfl)) (stor_of hs hfn (by kernel_rfl)) ?_ (by rfl) ((swStores hs).trans (by kernel_rfl))
  repeat walk_at "we"
  refine WC.len_str (by lia) ?_
  repeat walk_at "we"
  refine ⟨_,_,rfl,?_⟩
  try dsimp only
  refine WS.cons ?_
  repeat walk_at "we"
  refine OpS.list (j:=0) (y:=.str "") rfl (.inl ⟨by lia,rfl⟩) (by lia) (by rw [List.getElem?_map,W.first]; rfl) ?_
  try dsimp only
  repeat walk_at "we"
  refine WB.val ?_ (fun _ => rfl)
  repeat walk_at "we"
  refine ⟨_,.str _ (by decide +kernel),?_⟩
  first | refine iteF (by decide +kernel) ?_ | rw [if_neg (by decide +kernel)]
  repeat walk_at "we"
  refine OpS.list (j:=parts.length - 1) (y:=.str "") rfl (.inr ⟨by lia,by simp; lia,by simp; lia⟩) (by lia) (by rw [List.getElem?_map,W.last]; rfl) ?_
  try dsimp only
  repeat walk_at "we"
  refine WB.val ?_ (fun _ => rfl)
  repeat walk_at "we"
  refine ⟨_,.str _ (by decide +kernel),?_⟩
  first | refine iteF (by decide +kernel) ?_ | rw [if_neg (by decide +kernel)]
  repeat walk_at "we"
  refine ⟨_,.bool _,?_⟩
  first | refine iteF (by simp) ?_ | rw [if_neg (by simp)]
  repeat walk_at "we"
  refine W1.forR hh (WE.nm (y:=.list (parts.map .str)) K hs (by kernel_rfl) rfl ⟨_,rfl,trivial,fun i μ' τ => ∃ (wv:Option LV) (st:Nat),μ' = muE want got parts st wv ∧ τ = σ ∧ emGo got got.length parts 0 = emGo got got.length (parts.drop i) st,?_,?_,?_⟩)
  · exact ⟨_,0,rfl,rfl,rfl⟩
  · rintro R1 i x μ' σ' k1 k2 hx ⟨wv,st,rfl,rfl,he⟩
    rw [List.getElem?_map] at hx
    obtain ⟨p,hp,rfl⟩:=Option.map_eq_some_iff.mp hx
    have hi:i < parts.length:=(List.getElem?_eq_some_iff.mp hp).1
    have hpl:=W.small p (List.mem_of_getElem? hp)
    have hd:parts.drop i = p :: parts.drop (i + 1):=by rw [List.drop_eq_getElem_cons hi,(List.getElem?_eq_some_iff.mp hp).2]
    rw [hd,emGo] at he
    refine AT.name K (stor_of hs hfn (by kernel_rfl)) ?_
    refine WS.cons ?_
    refine W1.assign K (stor_of hs hfn (by kernel_rfl)) ?_ (by rfl)
    refine WE.meth ?_ (by rfl) (by rfl) (by rfl) (by rfl)
    repeat walk_at "we"
    refine ⟨_,meth_str PySem.F.slot_str_find PySem.F.type_str_find,?_⟩
    repeat walk_at "we"
    refine WC.str_find4 ?_
    try dsimp only
    refine WS.cons ?_
    repeat walk_at "we"
    refine ⟨_,.bool _,?_⟩
    by_cases hf:find4 got p st got.length < 0
    · first | refine iteT (by simpa using hf) ?_ | rw [if_pos (by simpa using hf)]
      rw [if_pos hf] at he
      repeat walk_at "we"
      exact k2 _ _ _ (hR _ _ (by rw [he]))
    · first | refine iteF (by simpa using hf) ?_ | rw [if_neg (by simpa using hf)]
      rw [if_neg hf] at he
      repeat walk_at "we"
      refine WC.len_str (by lia) ?_
      repeat walk_at "we"
      have e:find4 got p st got.length + (p.length:Int) = (((find4 got p st got.length).toNat + p.length:Nat):Int):=by lia
      exact k1 _ _ ⟨_,(find4 got p st got.length).toNat + p.length,by rw [e]; rfl,rfl,he⟩
  · rintro μ' σ' ⟨wv,st,rfl,rfl,he⟩
    rw [List.length_map,List.drop_length] at he
    refine WS.cons ?_
    repeat walk_at "we"
    exact hR _ _ (by rw [he]; rfl)
end
noncomputable def wantOf (j:Nat):Str:=("...":Str) ++ Txt.mul "x..." ((j:Int) + 1)
noncomputable def partsOf (j:Nat):List Str:="" :: (List.replicate (j + 1) ("x":Str) ++ [("":Str)])
theorem wantOk:∀ j,j < 4 → WantOk (wantOf j) (partsOf j)
  | 0,_ => ⟨by decide +kernel,by decide +kernel,by decide +kernel,by decide +kernel,by decide +kernel,by decide +kernel,by decide +kernel,by decide +kernel,by decide +kernel⟩
  | 1,_ => ⟨by decide +kernel,by decide +kernel,by decide +kernel,by decide +kernel,by decide +kernel,by decide +kernel,by decide +kernel,by decide +kernel,by decide +kernel⟩
  | 2,_ => ⟨by decide +kernel,by decide +kernel,by decide +kernel,by decide +kernel,by decide +kernel,by decide +kernel,by decide +kernel,by decide +kernel,by decide +kernel⟩
  | 3,_ => ⟨by decide +kernel,by decide +kernel,by decide +kernel,by decide +kernel,by decide +kernel,by decide +kernel,by decide +kernel,by decide +kernel,by decide +kernel⟩
noncomputable def allRows:Nat → List (List Bool)
  | 0 => [[]]
  | n + 1 => (allRows n).flatMap fun r => [true :: r,false :: r]
theorem mem_allRows:∀ bs:List Bool,bs ∈ allRows bs.length
  | [] => by simp [allRows]
  | b :: bs => by
    simp only [List.length_cons,allRows,List.mem_flatMap]
    exact ⟨bs,mem_allRows bs,by cases b <;> simp⟩
theorem em_all:∀ j,j < 4 → ∀ n,n < 5 → (allRows n).all (fun bs => emGo (xo bs) (xo bs).length (partsOf j) 0 == decide (j < bs.count true)) = true
 :=fun j hj n hn =>
  have h:((List.range 4).all fun j => (List.range 5).all fun n => (allRows n).all (fun bs => emGo (xo bs) (xo bs).length (partsOf j) 0 == decide (j < bs.count true))) = true:=by decide +kernel
  List.all_eq_true.mp (List.all_eq_true.mp h j (List.mem_range.mpr hj)) n (List.mem_range.mpr hn)
theorem em_count (j:Nat) (hj:j < 4) (bs:List Bool) (hb:bs.length ≤ 4):emGo (xo bs) (xo bs).length (partsOf j) 0 = decide (j < bs.count true) :=
  eq_of_beq (List.all_eq_true.mp (em_all j hj bs.length (by lia)) bs (mem_allRows bs))
theorem count_all:∀ n,n < 5 → (allRows n).all (fun bs => Txt.count (xo bs) "x" == bs.count true) = true
 :=fun n hn =>
  have h:((List.range 5).all fun n => (allRows n).all (fun bs => Txt.count (xo bs) "x" == bs.count true)) = true:=by decide +kernel
  List.all_eq_true.mp h n (List.mem_range.mpr hn)
theorem count_x (bs:List Bool) (hb:bs.length ≤ 4):Txt.count (xo bs) "x" = bs.count true :=
  eq_of_beq (List.all_eq_true.mp (count_all bs.length (by lia)) bs (mem_allRows bs))
section
variable {prog:Program} {w:World} {Amb:Fz → Prop} {A:Around} {B:Base} {env env':Env} {μ μ':Mu} {σ σ':Sg} {mg mb:Str → Option Value} {at_:Str → Addr} {sc:Scope}
theorem codes_call (H:AmbOk prog w Amb mg mb) (T:TopOk mg mb at_) (D:Def Amb (at_ "_law_codes") 24 ["number","k","size"]) (hr:Room A 2) (number:Int) (k size:Nat) (hk:k < 4) (hz:size ≤ 4) {R:V → Sg → Prop}
    (h:R (.list ((codesP number k size).map .int)) σ):WC prog w Amb A B env μ σ (.ref (at_ "_law_codes")) [.int number,.int k,.int size] R:=by
  refine WC.def_ (rest:=["near"]) H D hr (by kernel_rfl) rfl (by decide +kernel) (by kernel_rfl) fun A' B' env' hr' K' hs' hf' => ?_
  refine (codes_body H T K' hs' hf' hr' number k size hk hz).mono fun f μ' σ' qq => ?_
  obtain ⟨y,h1,h2,h3⟩:=qq
  refine ⟨y,h1,?_⟩
  subst h2 h3
  exact h
theorem read_call (H:AmbOk prog w Amb mg mb) (T:TopOk mg mb at_) (D:Def Amb (at_ "_law_read") 25 ["codes","k"]) (hr:Room A 4)
    (Df:∀ k,k < 4 → Def Amb (at_ (tabName k)) (tabBody k) ["code"]) (Ds:∀ k,k < 4 → SetIs prog w Amb (at_ (setName k)) (isX k)) (codes:List Int) (k:Nat) (hk:k < 4) (hz:codes.length ≤ 100) (hcs:∀ c ∈ codes,0 ≤ c ∧ c ≤ 1114111) {R:V → Sg → Prop}
    (h:R (.str (xo (codes.map (isX k)))) σ):WC prog w Amb A B env μ σ (.ref (at_ "_law_read")) [.list (codes.map .int),.int k] R:=by
  refine WC.def_ (rest:=["text","code","held"]) H D hr (by kernel_rfl) rfl (by decide +kernel) (by kernel_rfl) fun A' B' env' hr' K' hs' hf' => ?_
  have hb:=read_body (B:=B') (σ:=σ) H T K' hs' hf' hr' Df Ds codes k hk hz hcs
  refine WS.mono hb ?_
  intro f μ' τ q
  obtain ⟨y,h1,h2,h3⟩:=q
  refine ⟨y,h1,?_⟩
  rw [h2,h3]
  exact h
theorem can_call (H:AmbOk prog w Amb mg mb) (T:TopOk mg mb at_) (D:Def Amb (at_ "_law_can") 30 ["marks","wishes"]) (Dt:Def Amb (at_ "_law_takes") 29 ["wishes","many"]) (hr:Room A 7) (marks wishes:List Int) (hz:wishes.length ≤ 4) (hmz:marks.length ≤ 4) {R:V → Sg → Prop}
    (h:R (.bool (canP marks wishes)) σ):WC prog w Amb A B env μ σ (.ref (at_ "_law_can")) [.list (marks.map .int),.list (wishes.map .int)] R:=by
  refine WC.def_ (rest:=["left","many","fresh","now","rest","one"]) H D hr (by kernel_rfl) rfl (by decide +kernel) (by kernel_rfl) fun A' B' env' hr' K' hs' hf' => ?_
  refine (can_body H T K' hs' hf' hr' Dt marks wishes hz hmz).mono fun f μ' σ' qq => ?_
  obtain ⟨y,h1,h2,h3⟩:=qq
  refine ⟨y,h1,?_⟩
  subst h2 h3
  exact h
theorem ell_call (H:AmbOk prog w Amb mg mb) (T:TopOk mg mb at_) (D:Def Amb (at_ "_ellipsis_match") 7 ["want","got"]) (hr:Room A 2) (j:Nat) (hj:j < 4) (bs:List Bool) (hb:bs.length ≤ 4) {R:V → Sg → Prop}
    (h:R (.bool (decide (j < bs.count true))) σ):WC prog w Amb A B env μ σ (.ref (at_ "_ellipsis_match")) [.str (wantOf j),.str (xo bs)] R:=by
  refine WC.def_ (rest:=["ws","startpos","endpos","w"]) H D hr (by kernel_rfl) rfl (by decide +kernel) (by kernel_rfl) fun A' B' env' hr' K' hs' hf' => ?_
  refine (ell_body H T K' hs' hf' hr' (wantOf j) (xo bs) (partsOf j) (wantOk j hj) (by rw [xo_length]; lia)).mono fun f μ' σ' qq => ?_
  obtain ⟨y,h1,h2,h3⟩:=qq
  refine ⟨y,h1,?_⟩
  subst h2 h3
  rw [em_count j hj bs hb]
  exact h
end
section
variable {prog:Program} {w:World} {Amb:Fz → Prop} {A:Around} {B:Base} {env env':Env} {μ μ':Mu} {σ σ':Sg} {mg mb:Str → Option Value} {at_:Str → Addr} {sc:Scope}
theorem known_call (H:AmbOk prog w Amb mg mb) (T:TopOk mg mb at_) (D:Def Amb (at_ "_law_known") 26 ["codes","k"]) (hr:Room A 3) (codes:List Int) (k:Nat) (hk:k < 4) (hz:codes.length ≤ 100) {R:V → Sg → Prop}
    (h:R (.str (xo (codes.map (isX k)))) σ):WC prog w Amb A B env μ σ (.ref (at_ "_law_known")) [.list (codes.map .int),.int k] R:=by
  refine WC.def_ (rest:=["low","high","text","code","begun","over"]) H D hr (by kernel_rfl) rfl (by decide +kernel) (by kernel_rfl) fun A' B' env' hr' K' hs' hf' => ?_
  have hb:=@known_body prog w Amb A' B' env' σ mg mb at_ H T K' hs' hf' hr' codes k hk hz
  generalize mu0 ["codes","k"] [V.list (codes.map V.int),V.int k] ["low","high","text","code","begun","over"] = m0 at hb ⊢
  generalize fnBody 26 = bd at hb ⊢
  generalize xo (codes.map (isX k)) = tx at hb h
  refine WS.mono hb ?_
  rintro f μ' τ ⟨y,h1,h2,h3⟩
  refine ⟨y,h1,?_⟩
  rw [h2,h3]
  exact h
end
section
variable {M:Model} {A:Around} {R:GenEnd} {Y:Protocol} {n:Nat} {s₀:Shared} {c:Code} {fs:List Frame} {s:Shared} {env:Env}
  {K:Flow → Sem PySem.Fin} {H:Value → Sem PySem.Fin} {gd:Bool → Bool} {lv:List Value → List Value}
theorem seg_stmt {st:Stmt} (h:wpAny M (A.over c fs) (exec st env) (fun f s' => Seg M A R Y n s₀ c (K f) fs s') (fun x s' => Seg M A R Y n s₀ c (H x) fs s') s) :
    Seg M A R Y n s₀ c ((exec st env).wrap K H gd lv) fs s:=seg_wrap h
theorem seg_If {test:PySem.Expr} {body orelse:List Stmt} {pos:Pos}
    (h:wpAny M (A.over c fs) (isTrue test env (eval test env)) (fun b s' => if b = true then Seg M A R Y n s₀ c ((execs body env).wrap K H gd lv) fs s' else Seg M A R Y n s₀ c ((execs orelse env).wrap K H gd lv) fs s')
      (fun x s' => Seg M A R Y n s₀ c (H x) fs s') s):Seg M A R Y n s₀ c ((exec (.If test body orelse pos) env).wrap K H gd lv) fs s:=by
  rw [arm_exec_If]
  show Seg M A R Y n s₀ c (.at pos fun _ => ((isTrue test env (eval test env)).bind fun b => if b = true then execs body env else execs orelse env).wrap K H gd lv) fs s
  refine seg_at ?_
  rw [Sem.bind_eq_wrap,Sem.wrap_wrap]
  refine seg_wrap (wpAny_mono h (fun b s' h' => ?_) fun _ _ x => x)
  cases b
  · exact h'
  · exact h'
theorem seg_For {target iter:PySem.Expr} {body orelse:List Stmt} {pos:Pos}
    (h:wpAny M (A.over c fs) (eval iter env) (fun x s1 => wpAny M (A.over c fs) (pyIter x) (fun it s2 => ∀ p,Seg M A R Y n s₀ (.forLoop target it body orelse env) (M.den (.forLoop target it body orelse env))
      (.ret (fun r => ((match r with | .ok f => (.pure f:Sem Flow) | .error e => .raise e).onRaise fun (x:Value) => do
        if (← field x 1) == Value.none then unsupported "frame.own-activation:exception-without-traceback"
        setFlight x env.frame).wrap K H gd lv) none (gd false) (lv []) c p [] :: fs) s2) (fun x s' => Seg M A R Y n s₀ c (H x) fs s') s1) (fun x s' => Seg M A R Y n s₀ c (H x) fs s') s)
    (hs:∀ x,foldedSetIterable iter env x = pure x):Seg M A R Y n s₀ c ((exec (.For target iter body orelse pos) env).wrap K H gd lv) fs s:=by
  have e:exec (.For target iter body orelse pos) env = ((do standAt pos; let x ← foldedSetIterable iter env (← eval iter env); standAt iter.pos; holding [x] (pyIter x)) >>= fun it => runOwn (.forLoop target it body orelse env) env):=by
    rw [arm_exec_For]; simp only [bind_assoc]
  rw [e,Sem.bind_eq_wrap',Sem.wrap_wrap]
  refine seg_wrap ?_
  refine wpAny_bind (wpAny_standAt (wpAny_bind (wpAny_mono h (fun x s1 h1 => ?_) fun _ _ x => x)))
  rw [hs]
  refine wpAny_bind (wpAny_pure (wpAny_bind (wpAny_standAt (wpAny_holding (wpAny_mono h1 (fun it s2 h2 => ?_) fun _ _ x => x)))))
  exact seg_call h2
end
section
variable {prog:Program} {w:World} {A:Around} {R:GenEnd} {Y:Protocol} {n:Nat} {s₀:Shared} {fs:List Frame} {s:Shared} {env:Env}
theorem seg_forLoop {target:PySem.Expr} {it:Value} {body orelse:List Stmt}
    (h:wpAny (model prog w) (A.over (.forLoop target it body orelse env) fs) (pyNext it) (fun o s1 => match o with
      | none => Seg (model prog w) A R Y n s₀ (.forLoop target it body orelse env) (.pure (.again (.block orelse env))) fs s1
      | some v => wpAny (model prog w) (A.over (.forLoop target it body orelse env) fs) (letOwnedTupleGo target it v) (fun _ s2 => wpAny (model prog w) (A.over (.forLoop target it body orelse env) fs) (PySem.assign target env v) (fun _ s3 =>
          Seg (model prog w) A R Y n s₀ (.forLoop target it body orelse env) ((execs body env).wrap (fun f => match f with
            | .next | .cont => .pure (.again (.forLoop target it body orelse env))
            | .brk => .pure (.done .next)
            | .ret v => .pure (.done (.ret v))) (fun e => (do noteFrame e env; theTreesLotGoes e:Sem Unit).wrap (fun _ => .raise e) .raise id id) id id) fs s3) (fun _ _ => False) s2) (fun _ _ => False) s1) (fun _ _ => False) s) :
    Seg (model prog w) A R Y n s₀ (.forLoop target it body orelse env) ((model prog w).den (.forLoop target it body orelse env)) fs s:=by
  show Seg _ A R Y n s₀ _ ((forTurn target it body orelse env).onRaise (fun x => do noteFrame x env; theTreesLotGoes x)) fs s
  unfold forTurn
  rw [Sem.onRaise_eq_wrap,Sem.bind_eq_wrap',Sem.wrap_wrap]
  refine seg_wrap (wpAny_standAt ?_)
  dsimp only
  rw [Sem.bind_eq_wrap',Sem.wrap_wrap]
  refine seg_wrap (wpAny_onRaise (wpAny_mono h (fun o s1 h1 => ?_) fun _ _ x => x.elim))
  cases o with
  | none => exact h1
  | some v =>
    try dsimp only
    rw [Sem.bind_eq_wrap',Sem.wrap_wrap]
    refine seg_wrap (wpAny_mono h1 (fun _ s2 h2 => ?_) fun _ _ x => x.elim)
    try dsimp only
    rw [Sem.bind_eq_wrap',Sem.wrap_wrap]
    refine seg_wrap (wpAny_mono h2 (fun _ s3 h3 => ?_) fun _ _ x => x.elim)
    try dsimp only
    rw [Sem.bind_eq_wrap',Sem.wrap_wrap]
    rw [Sem.wrap_congr (execs body env) _ _ (K':=fun f => match f with
            | .next | .cont => .pure (.again (.forLoop target it body orelse env))
            | .brk => .pure (.done .next)
            | .ret v => .pure (.done (.ret v))) (H':=(fun e => (do noteFrame e env; theTreesLotGoes e:Sem Unit).wrap (fun _ => .raise e) .raise id id))
        (fun f => by cases f <;> rfl)
        (fun e => by first | exact Sem.bind_eq_wrap _ _ | (show (do noteFrame e env; theTreesLotGoes e:Sem Unit).bind (fun _ => .raise e) = _; rw [Sem.bind_eq_wrap]))]
    exact h3
end
noncomputable def erase (h:Heap) (W:List Addr):Heap:=⟨h.objs.mapIdx fun i o => if i ∈ W then { o with data:=.freed } else o,h.life⟩
theorem erase_get (h:Heap) (W:List Addr) (b:Addr):(erase h W).get? b = if b ∈ W then none else h.get? b:=by
  unfold Heap.get? erase
  dsimp only
  rw [Array.getElem?_mapIdx]
  cases e:h.objs[b]? with
  | none => simp
  | some o =>
    obtain ⟨c,d,x,s⟩:=o
    simp only [Option.map_some]
    by_cases hb:b ∈ W
    · simp only [hb,if_true]
    · simp only [hb,if_false]
noncomputable def Fz0 (h:Heap) (W:List Addr):Fz:=fun a => if a ∈ W then none else h.get? a
noncomputable def Bg (s:Shared) (W:List Addr):Base:=⟨erase s.heap W,Fz0 s.heap W,[],s.os,s.gens⟩
theorem Fz0_some {h:Heap} {W:List Addr} {a:Addr} {o:Obj}:Fz0 h W a = some o ↔ a ∉ W ∧ h.get? a = some o:=by
  unfold Fz0
  split <;> simp_all
theorem lookup_ne {names:List (Str × NameKind)} {k:NameKind} (h:(names.all fun p => !(p.2 == k)) = true) (x:Str):names.lookup x ≠ some k:=by
  intro e
  have:=List.all_eq_true.mp h _ (mem_of_lookup e)
  simp at this
section
variable {prog:Program} {w:World} {Amb:Fz → Prop} {A:Around} {env:Env} {μ:Mu} {mg mb:Str → Option Value} {s s₀:Shared} {m:Str → Option Value}
theorem StF.wake {W:List Addr} {hp:List Pend} (hc:∀ x,env.kindOf x ≠ some .cell) (hf:∀ x,env.kindOf x ≠ some .free) (hA:Amb (Fz0 s.heap W)) (hL:env.locals ∈ W) (hb:AllBare s.gens) (ns:s.heap.Ns env.locals m)
    (hμ:∀ x lv,mget μ x = some lv → ∃ y v,lv = .v y ∧ m x = some v ∧ Flat v y) (hh:∀ q ∈ hp,∃ a o,q = .held a o true ∧ a ∈ W ∧ a ≠ env.locals ∧ s.heap.get? a = some o) :
    StF Amb (Bg s W) env μ [] hp s (Fz0 s.heap W) [] m [] where
  amb:=hA
  sub:=fun a o h => (Fz0_some.mp h).2
  ext:=fun _ _ h => h
  new:=fun _ _ h => .inl h
  phi:=fun _ _ h => h
  phin:=fun _ h => nomatch h
  phi0:=fun _ h => nomatch h
  keep:=fun b o h _ => by
    show s.heap.get? b = some o
    have h':(erase s.heap W).get? b = some o:=h
    rw [erase_get] at h'
    split at h'
    · cases h'
    · exact h'
  os:=rfl
  gens:=hb
  gkeep:=fun _ _ h => h
  nodup:=.nil
  phiF:=fun _ h => nomatch h
  len:=rfl
  sto:=fun i l es h _ => by simp at h
  ns:=ns
  locF:=⟨by simp [Fz0,hL],(fun h => nomatch h),by show (erase s.heap W).get? _ = none; rw [erase_get,if_pos hL]⟩
  loc:=fun x lv h1 _ => by
    obtain ⟨y,v,rfl,hv,r⟩:=hμ x lv h1
    exact ⟨v,hv,r.rel _ _⟩
  cel:=fun x _ _ h2 _ => absurd h2 (hc x)
  fre:=fun x _ _ h2 => h2.elim (fun h => absurd h (hf x)) fun h => absurd h.1 (hc x)
  cells:=fun c ⟨_,x,h,_⟩ => absurd h (hc x)
  own:=fun _ _ h => nomatch h
  ownk:=fun _ _ _ h => nomatch h
  ownf:=fun _ _ _ h => nomatch h
  pend:=fun v x h => by obtain ⟨a,o,e,_⟩:=hh _ h; cases e
  held:=fun a o mi h => by
    obtain ⟨a',o',e,h1,h2,h3⟩:=hh _ h
    cases e
    refine ⟨h3,(fun h => nomatch h),h2,(fun qq => ?_),(fun _ h => nomatch h),fun _ => ⟨by simp [Fz0,h1],by show (erase s.heap W).get? _ = none; rw [erase_get,if_pos h1]⟩⟩
    obtain ⟨_,x,h,_⟩:=qq
    exact absurd h (hc x)
structure Kept (W:List Addr) (s₀ s:Shared):Prop where
  keep:∀ b o,b ∉ W → s₀.heap.get? b = some o → s.heap.get? b = some o
  os:s.os = s₀.os
  gens:GK s₀.gens s.gens
theorem StF.kept {W:List Addr} {σ:Sg} {P:List Pend} {F:Fz} {φ:List Addr} {ow:List (Str × Addr)} (S:StF Amb (Bg s₀ W) env μ σ P s F φ m ow):Kept W s₀ s where
  keep:=fun b o h1 h2 => S.keep b o (by show (erase s₀.heap W).get? b = _; rw [erase_get,if_neg h1]; exact h2) (fun h => nomatch h)
  os:=S.os
  gens:=⟨fun _ => S.gens,S.gkeep⟩
inductive YdI (Amb:Fz → Prop) (W:List Addr) (items:List (Int × Str)) (k:Nat) (s₀:Shared) (v:Value) (s₁:Shared) (kap:Resume → Shared → Prop):Prop
  | mk (kept:Kept W s₀ s₁) (t:Addr) (tk tk':Tok) (n:Nat) (p:Int) (c:Str) (hv:v = .ref t) (ht:t ∉ W) (h0:s₀.heap.get? t = none) (h1:s₁.heap.get? t = some (tupO #[.int p tk,.str c tk'] n)) (hk:k < items.length)
      (hi:items[items.length - 1 - k]? = some (p,c)) (hex:∀ b ∈ W,∃ o,s₁.heap.get? b = some o)
      (hkap:∀ s'',(∀ b ∈ W,∀ o,s₁.heap.get? b = some o → s''.heap.get? b = some o) → Amb (Fz0 s''.heap W) → AllBare s''.gens → kap (.send .none) s'')
noncomputable def Yd (Amb:Fz → Prop) (W:List Addr) (items:List (Int × Str)):Protocol:=fun k s₀ v s₁ kap => YdI Amb W items k s₀ v s₁ kap
noncomputable def Rd (W:List Addr):GenEnd:=fun n s₀ r s => r = .ok (.ret .none) ∧ (n = 0 ∧ Kept W s₀ s)
theorem Draws.strU (hh:A.handled = none) (it:Addr) (x:Str) (t:Tok) :
    Draws prog w A it [it] x.cps.size (fun i v => ∃ c u,x.cps[i]? = some c ∧ v = .str ⟨#[c]⟩ u) (fun i h => h.IsStrIter it (strIterType x) x t i):=by
  unfold strIterType
  split
  · exact Draws.strAscii hh it x t
  · exact Draws.strWide hh it x t
theorem strIter_obj {h:Heap} {it:Addr} {T:String} {x:Str} {t:Tok} {i:Nat} (y:h.IsStrIter it T x t i):∃ o,h.get? it = some o:=let ⟨o,ho,_⟩:=y; ⟨o,ho⟩
end
noncomputable def escGo:List Nat → Nat → Bool → Int → List (Int × Str)
  | [],_,esc,pos => if esc then [(pos,"\\")] else []
  | c :: r,i,true,_ => (i,"\\" ++ ⟨#[c]⟩) :: escGo r (i + 1) false i
  | c :: r,i,false,_ => if (⟨#[c]⟩:Str) = "\\" then escGo r (i + 1) true i else (i,⟨#[c]⟩) :: escGo r (i + 1) false i
noncomputable def escP (x:Str):List (Int × Str):=escGo x.cps.toList 0 false 0
section
variable {prog:Program} {w:World} {Amb:Fz → Prop} {A:Around} {B:Base} {env:Env} {μ:Mu} {σ:Sg} {mg mb:Str → Option Value} {s s₀:Shared} {m:Str → Option Value} {sc:Scope}
variable {R:GenEnd} {Y:Protocol} {n:Nat} {c:Code} {fs:List Frame} {K:Flow → Sem PySem.Fin} {H':Value → Sem PySem.Fin} {gd:Bool → Bool} {lv:List Value → List Value}
theorem seg_W1 {P:List Pend} {st:Stmt} {R1:Fl → Mu → Sg → Prop} (S:St Amb B env μ σ P s) (h:W1 prog w Amb (A.over c fs) B env μ σ st R1) (hn:∀ f μ' σ',R1 f μ' σ' → f = .next)
    (k:∀ μ' σ' s',R1 .next μ' σ' → St Amb B env μ' σ' P s' → Seg (model prog w) A R Y n s₀ c (K .next) fs s'):Seg (model prog w) A R Y n s₀ c ((exec st env).wrap K H' gd lv) fs s:=by
  refine seg_stmt (wpAny_mono (h P s S) (fun f s' q => ?_) fun _ _ x => x.elim)
  cases f with
  | next => obtain ⟨μ',σ',S',r⟩:=q; exact k μ' σ' s' r S'
  | brk => obtain ⟨μ',σ',S',r⟩:=q; cases hn _ _ _ r
  | cont => obtain ⟨μ',σ',S',r⟩:=q; cases hn _ _ _ r
  | ret v => obtain ⟨y,μ',σ',S',r⟩:=q; cases hn _ _ _ r
theorem seg_WB {P:List Pend} {t:PySem.Expr} {b o:List Stmt} {p:Pos} {R1:Bool → Sg → Prop} (S:St Amb B env μ σ P s) (h:WB prog w Amb (A.over c fs) B env μ σ t R1)
    (k:∀ b' σ' s',R1 b' σ' → St Amb B env μ σ' P s' → if b' = true then Seg (model prog w) A R Y n s₀ c ((execs b env).wrap K H' gd lv) fs s' else Seg (model prog w) A R Y n s₀ c ((execs o env).wrap K H' gd lv) fs s') :
    Seg (model prog w) A R Y n s₀ c ((exec (.If t b o p) env).wrap K H' gd lv) fs s :=
  seg_If (wpAny_mono (h P s S) (fun b' s' ⟨σ',S',r⟩ => k b' σ' s' r S') fun _ _ x => x.elim)
theorem seg_yieldPair {P:List Pend} {W:List Addr} {items pre post:List (Int × Str)} {e1 e2:PySem.Expr} {k:Nat} {tp yp p:Pos} {i:Int} {x:Str} (hs₀:B = Bg s₀ W) (hW:∀ b ∈ W,b = env.locals ∨ ∃ o mi,Pend.held b o mi ∈ P) (S:St Amb B env μ σ P s)
    (h:WAs prog w Amb (A.over c fs) B env μ σ [e1,e2] (fun ys σ' => ys = [.int i,.str x] ∧ σ' = σ)) (hit:items = pre ++ (i,x) :: post) (hn:n = post.length)
    (hfs:splitAtGen fs = none) (hgd:gd false = false) (hfg:fs.any Frame.guarded = false)
    (next:∀ s₁ s'',St Amb B env μ σ P s₁ → (∀ b ∈ W,∀ o,s₁.heap.get? b = some o → s''.heap.get? b = some o) → Amb (Fz0 s''.heap W) → AllBare s''.gens → Seg (model prog w) A R (Yd Amb W items) n s'' c (K .next) fs s'')
    (he:backTo tp (starEach [e1,e2] env) = [e1,e2].map fun e => (false,eval e env):=by rfl) (hco:env.scope.isCoroutine = false:=by rfl) (hi:interactive env = false:=by rfl) :
    Seg (model prog w) A R (Yd Amb W items) (n + 1) s₀ c ((exec (.Expr (.Yield (some (.Tuple [e1,e2] k tp)) yp) p) env).wrap K H' gd lv) fs s:=by
  subst hs₀
  refine seg_Expr_Yield hfs hgd hfg ?_ hco hi
  refine wpAny_Tuple ?_
  rw [he]
  refine wpAny_mono (h P s S) (fun vs s1 qq => ?_) fun _ _ x => x.elim
  obtain ⟨ys,σ',hl,⟨F,φ,m,ow,S1⟩,ey,eσ⟩:=qq
  subst ey eσ
  obtain ⟨v1,v2,rfl⟩:=len_two hl
  obtain ⟨t1,rfl⟩:∃ t1,v1 = .int i t1:=(S1.pend v1 (.int i) (by simp [rels])).int_inv
  obtain ⟨t2,rfl⟩:∃ t2,v2 = .str x t2:=(S1.pend v2 (.str x) (by simp [rels])).str_inv
  refine ⟨Nat.le_of_ble_eq_true (by kernel_rfl),?_⟩
  obtain ⟨f1,f2,f3,f4,f5,f6⟩:=S1.free (none_at_size s1.heap)
  have S2:=S1.dropRels.grow (Grow.push (tupO #[.int i t1,.str x t2] 0) s1.toks)
  have hall:∀ b ∈ W,∃ o,s1.heap.get? b = some o:=fun b hb => by
    rcases hW b hb with e | ⟨o,mi,hm⟩
    · obtain ⟨o,es,ep,q,_⟩:=S1.ns; exact ⟨o,e ▸ q⟩
    · exact ⟨o,(S1.dropRels.held b o mi hm).1⟩
  have hnW:s1.heap.objs.size ∉ W:=fun hm => by
    obtain ⟨o,ho⟩:=hall _ hm
    rw [none_at_size] at ho; cases ho
  have f6':(erase s₀.heap W).get? s1.heap.objs.size = none:=f6
  rw [erase_get,if_neg hnW] at f6'
  intro kap hkap
  refine ⟨S2.kept,_,t1,t2,0,i,x,rfl,hnW,f6',Heap.get?_push_size _ rfl,by rw [hit,hn]; simp; lia,?_,fun b hb => let ⟨o,ho⟩:=hall b hb; ⟨o,Heap.get?_push_of_some _ ho⟩,fun s'' h1 h2 h3 => hkap .none s'' (next _ s'' ⟨F,φ,m,ow,S2⟩ h1 h2 h3)⟩
  have:items.length - 1 - n = pre.length:=by rw [hit,hn]; simp
  show items[items.length - 1 - n]? = _
  rw [this,hit]; simp
end
noncomputable def gTgt:PySem.Expr:=match (fnBody 2)[(2:Nat)]? with | some (.For t _ _ _ _) => t | _ => .Constant .none 0 default
noncomputable def gTurn:List Stmt:=match (fnBody 2)[(2:Nat)]? with | some (.For _ _ b _ _) => b | _ => []
noncomputable def gMu (pos:Int) (esc:Bool) (ch:Option LV):Mu:=[("addr",none),("pos",some (.v (.int pos))),("escape",some (.v (.bool esc))),("ch",ch)]
theorem gMu_get {pos:Int} {esc:Bool} {x:Str} {lv:LV} (h:mget (gMu pos esc none) x = some lv):(x = "pos" ∧ lv = .v (.int pos)) ∨ (x = "escape" ∧ lv = .v (.bool esc)):=by
  unfold gMu at h
  simp only [mget] at h
  by_cases h1:x = "addr"
  · rw [if_pos h1] at h; cases h
  rw [if_neg h1] at h
  by_cases h2:x = "pos"
  · rw [if_pos h2] at h; cases h; exact .inl ⟨h2,rfl⟩
  rw [if_neg h2] at h
  by_cases h3:x = "escape"
  · rw [if_pos h3] at h; cases h; exact .inr ⟨h3,rfl⟩
  rw [if_neg h3] at h
  split at h <;> cases h
theorem gKinds:((fnScope 2).names.all fun p => !(p.2 == NameKind.cell)) = true:=by kernel_rfl
theorem gKinds':((fnScope 2).names.all fun p => !(p.2 == NameKind.free)) = true:=by kernel_rfl
section
variable {prog:Program} {w:World} {Amb:Fz → Prop} {A:Around} {B:Base} {env:Env} {μ:Mu} {σ:Sg} {mg mb:Str → Option Value} {s s₀ s₁ s₂:Shared} {m:Str → Option Value} {P:List Pend} {F:Fz} {φ:List Addr} {ow:List (Str × Addr)}
theorem StF.forget {μ':Mu} (S:StF Amb B env μ σ P s F φ m ow) (h:∀ x lv,mget μ' x = some lv → mget μ x = some lv):StF Amb B env μ' σ P s F φ m ow :=
  { S with loc:=fun x lv e => S.loc x lv (h x lv e),cel:=fun x lv e => S.cel x lv (h x lv e),fre:=fun x lv e => S.fre x lv (h x lv e) }
theorem gen_wake {W:List Addr} {pos:Int} {esc:Bool} {ch:Option LV} {hp:List Pend} (hs:env.scope = fnScope 2) (S:St Amb B env (gMu pos esc ch) σ P s₁) (hL:env.locals ∈ W) (h1:∀ b ∈ W,∀ o,s₁.heap.get? b = some o → s₂.heap.get? b = some o)
    (h2:Amb (Fz0 s₂.heap W)) (h3:AllBare s₂.gens) (hh:∀ q ∈ hp,∃ a o,q = .held a o true ∧ a ∈ W ∧ a ≠ env.locals ∧ s₂.heap.get? a = some o) :
    ∃ F m,StF Amb (Bg s₂ W) env (gMu pos esc none) [] hp s₂ F [] m []:=by
  obtain ⟨F,φ,m,ow,S⟩:=S
  have hk:∀ x,env.kindOf x = (fnScope 2).names.lookup x:=fun x => kindOf_of hs x
  refine ⟨Fz0 s₂.heap W,m,StF.wake (fun x => by rw [hk]; exact lookup_ne gKinds x) (fun x => by rw [hk]; exact lookup_ne gKinds' x) h2 hL h3 (S.ns.at' fun o e => h1 _ hL o e) (fun x lv h => ?_) hh⟩
  rcases gMu_get h with ⟨rfl,rfl⟩ | ⟨rfl,rfl⟩
  · obtain ⟨v,hv,r⟩:=S.loc "pos" (.v (.int pos)) rfl (by rw [hk]; kernel_rfl)
    obtain ⟨t,rfl⟩:=Rel.int_inv r
    exact ⟨_,_,rfl,hv,.int _ _⟩
  · obtain ⟨v,hv,r⟩:=S.loc "escape" (.v (.bool esc)) rfl (by rw [hk]; kernel_rfl)
    obtain rfl:=Rel.bool_inv r
    exact ⟨_,_,rfl,hv,.bool _⟩
noncomputable def enumO (it:Addr) (i:Int) (old:Value):Obj:={ cls:=.type "enumerate",dict:=none,data:=.fields #[.none,.bool false,.ref it,rawInt i,.none,old],slots:=#[] }
variable (Amb env) in
noncomputable def GAt (x:Str) (t:Tok) (e it:Addr) (s₀ s:Shared) (i:Nat) (esc:Bool) (pos:Int):Prop :=
  ∃ old oi,St Amb (Bg s₀ [env.locals,e,it]) env (gMu pos esc none) [] [.held e (enumO it i old) true,.held it oi true] s ∧ s.heap.IsStrIter it (strIterType x) x t i
end
open PySem.Builtin PySem.Builtin.Str
section
variable {prog:Program} {w:World} {A:Around} {E:Value → Shared → Prop} {s:Shared}
theorem ascii_end {it:Addr} {x:PySem.Str} {t:Tok} {i:Nat} {Q:Value → Shared → Prop} (hh:A.handled = none) (hit:s.heap.IsStrIter it "str_ascii_iterator" x t i) (hx:x.cps[i]? = none)
    (hE:∀ h' a,Heap.ExtBut it s.heap h' → (∃ o,h'.get? it = some o) → (∃ o,h'.get? a = some o ∧ o.cls = .type "StopIteration") → E (.ref a) { s with heap:=h' }):wpAny (model prog w) A (Builtin.SmallTypes.nextOf (.ref it)) Q E s:=by
  obtain ⟨o,ho,hc,hd⟩:=id hit
  unfold Builtin.SmallTypes.nextOf
  refine wpAny_bind (wpAny_callSpecial?_slot (name:=Str.ofString "__next__") hit.typeIs F.slot_str_ascii_iterator_next (wpAny_call_entry F.slot_str_ascii_iterator_next hit.typeIs F.entry_str_ascii_iterator_next ?_ (F.args_str_ascii_iterator_next_1 _)))
  show wpAny _ _ (field (.ref it) 0 >>= _) _ _ s
  refine wpAny_bind (wpAny_field ho hd (x:=.str x t) rfl ?_)
  show wpAny _ _ (field (.ref it) 1 >>= _) _ _ s
  refine wpAny_bind (wpAny_field ho hd (x:=.int i 0) rfl ?_)
  simp only [Int.toNat_natCast,hx]
  refine wpAny_bind (wpAny_rule (wpAny_bind (wpAny_setField ho hd (by simp) (wpAny_bind (wpAny_letGo ?_)))))
  show wpAny _ _ (newExc (.type "StopIteration") [] >>= _) _ _ _
  refine wpAny_bind ?_
  simp only [newExc,newTuple]
  refine wpAny_bind (wpAny_newObj_type ?_ (by size_fits))
  refine wpAny_bind (m:=firstArgMember _ _) (wpAny_of_eq (a:=Value.none) (by first | rfl | (simp only [firstArgMember]; rfl)) ?_)
  refine wpAny_newObj_type ?_ (by size_fits)
  simp only [raiseNew]
  refine wpAny_bind (wpAny_handled ?_)
  first | rw [show A.in1.handled = none from hh] | rw [hh]
  refine wpAny_bind (wpAny_pure (wpAny_throw ?_))
  refine hE _ _ (((Heap.SameBut.update ..).extBut.push _).push _) ⟨_,Heap.get?_push_of_some _ (Heap.get?_push_of_some _ (Heap.get?_update_self _ ho (Obj.isFreed_of_fields (Obj.data_mapFields hd _))))⟩ ⟨_,Heap.get?_push_size _ rfl,rfl⟩
theorem enum_end {e it:Addr} {i:Int} {old:Value} {x:PySem.Str} {t:Tok} {j:Nat} {Q:Option Value → Shared → Prop} (hh:A.handled = none) (he:IsEnum s.heap e it i old) (hit:s.heap.IsStrIter it "str_ascii_iterator" x t j) (hx:x.cps[j]? = none)
    (hQ:∀ h',Heap.ExtBut it s.heap h' → (∃ o,h'.get? it = some o) → Q none { s with heap:=h' }):wpAny (model prog w) A (pyNext (.ref e)) Q E s:=by
  have hT:s.TypeIs (.ref e) "enumerate":=⟨_,he,rfl⟩
  unfold pyNext
  refine wpAny_bind (wpAny_attempt (wpAny_callSpecial?_slot (name:=Str.ofString "__next__") hT F.slot_enumerate_next (wpAny_call_entry F.slot_enumerate_next hT F.entry_enumerate_next ?_ (F.args_enumerate_next_1 _))))
  show wpAny _ _ (field (.ref e) 2 >>= _) _ _ _
  refine wpAny_bind (wpAny_field he rfl (x:=.ref it) rfl ?_)
  refine wpAny_bind (ascii_end (show (Around.in1 _).handled = none from hh) hit hx fun h' a he' hi' ha => ?_)
  obtain ⟨o,ho,hc⟩:=ha
  refine wpAny_bind (wpAny_isInstance (T:="StopIteration") (b:=true) ⟨o,ho,hc⟩ isSubtype_stop ?_)
  exact wpAny_pure (hQ _ he' hi')
end
section
variable {prog:Program} {w:World} {Amb:Fz → Prop} {A:Around} {B:Base} {env:Env} {μ:Mu} {σ:Sg} {mg mb:Str → Option Value} {s s₀ s₁ s₂:Shared} {m:Str → Option Value} {P:List Pend} {F:Fz} {φ:List Addr} {ow:List (Str × Addr)}
theorem GAt.taken (H:AmbOk prog w Amb mg mb) {x:Str} {t:Tok} {e it:Addr} {i:Nat} {esc:Bool} {pos:Int} (G:GAt Amb env x t e it s₀ s i esc pos) (hne:e ≠ it) {c:Nat} {tk tk':Nat} {u:Tok} {h₂:Heap}
    (hT:h₂.get? s.heap.objs.size = some (tupO #[.int i u,.str ⟨#[c]⟩ tk'] 0)) (hk:∀ b o,b ≠ e → b ≠ it → s.heap.get? b = some o → h₂.get? b = some o) (he:h₂.get? e = some (enumO it ((i:Int) + 1) (.str ⟨#[c]⟩ tk'))) (hi:h₂.IsStrIter it (strIterType x) x t (i + 1)) :
    ∃ oi,h₂.get? it = some oi ∧ St Amb (Bg s₀ [env.locals,e,it]) env (gMu pos esc none) [] (.rel (.ref s.heap.objs.size) (.tup [.int i,.str ⟨#[c]⟩]) :: [.held e (enumO it ((i:Int) + 1) (.str ⟨#[c]⟩ tk')) true,.held it oi true]) { s with heap:=h₂,toks:=tk }:=by
  obtain ⟨old,oi,⟨F,φ,m,ow,S⟩,hit⟩:=G
  have me:=S.mine (P':=[]) (a:=e) (.head _) fun _ _ h => nomatch h
  have mi:=S.mine (P':=[]) (a:=it) mem2 fun _ _ h => nomatch h
  have mt:=S.freeMn (P':=[]) (none_at_size s.heap) fun _ _ h => nomatch h
  obtain ⟨oi',hoi'⟩:=strIter_obj hi
  have S1:StF Amb (Bg s₀ [env.locals,e,it]) env (gMu pos esc none) [] [] { s with heap:=h₂,toks:=tk } F φ m ow:=(S.drop (P':=[]) (fun _ h => nomatch h)).turn (wr:=[e,it])
    (fun b o hb h => hk b o (fun q => hb (q ▸ .head _)) (fun q => hb (q ▸ mem2)) h) rfl .rfl (all2 me mi)
  exact ⟨oi',hoi',_,φ,m,ow,((((S1.holdMn mi hoi').holdMn me he).holdMn mt hT).freezeMine H.mono (nin_held (fun q => none_ne (none_at_size s.heap) ((congrArg s.heap.get? q).trans (S.held e _ true (.head _)).1)) (nin_held (fun q => none_ne (none_at_size s.heap) ((congrArg s.heap.get? q).trans (S.held it _ true mem2).1)) fun _ _ h => nomatch h))).add
    (.tup (n:=0) (vs:=#[.int i u,.str ⟨#[c]⟩ tk']) updF_self (.cons (.int _ _) (.cons (.str _ _) .nil)))⟩
theorem held_two {L a b:Addr} {oa ob:Obj}:∀ c ∈ [L,a,b],c = L ∨ ∃ o mi,Pend.held c o mi ∈ [Pend.held a oa true,.held b ob true]:=all3 (.inl rfl) (.inr ⟨_,_,.head _⟩) (.inr ⟨_,_,mem2⟩)
theorem gen_awake (hs:env.scope = fnScope 2) {e it:Addr} (heL:e ≠ env.locals) (hiL:it ≠ env.locals) {o1 o2:Obj} {pos:Int} {esc:Bool} {ch:Option LV} (S:St Amb (Bg s₀ [env.locals,e,it]) env (gMu pos esc ch) [] [.held e o1 true,.held it o2 true] s₁)
    (h1:∀ b ∈ [env.locals,e,it],∀ o,s₁.heap.get? b = some o → s₂.heap.get? b = some o) (h2:Amb (Fz0 s₂.heap [env.locals,e,it])) (h3:AllBare s₂.gens) :
    St Amb (Bg s₂ [env.locals,e,it]) env (gMu pos esc none) [] [.held e o1 true,.held it o2 true] s₂:=by
  obtain ⟨F0,φ0,m0,ow0,T⟩:=S
  obtain ⟨F,m,S⟩:=gen_wake (hp:=[.held e o1 true,.held it o2 true]) hs ⟨F0,φ0,m0,ow0,T⟩ (.head _) h1 h2 h3 fun q hq => (List.mem_cons.mp hq).elim
    (fun h => ⟨e,o1,h,mem2,heL,h1 e mem2 _ (T.held e _ true (.head _)).1⟩) fun h => ⟨it,o2,List.mem_singleton.mp h,mem3,hiL,h1 it mem3 _ (T.held it _ true mem2).1⟩
  exact ⟨F,[],m,[],S⟩
theorem gen_head {x:Str} {t:Tok} {e it:Addr} {i:Nat} {pos:Int} {esc:Bool} {ch:Option LV} {old:Value} {o2:Obj} (S:St Amb (Bg s₀ [env.locals,e,it]) env (gMu pos esc ch) [] [.held e (enumO it ((i:Int) + 1) old) true,.held it o2 true] s)
    (hi:∀ s':Shared,s'.heap.get? it = some o2 → s'.heap.IsStrIter it (strIterType x) x t (i + 1)):GAt Amb env x t e it s₀ s (i + 1) esc pos:=by
  obtain ⟨F,φ,m,ow,S⟩:=S
  exact ⟨old,o2,⟨F,φ,m,ow,StF.forget (μ:=gMu pos esc ch) S fun z l h => by rcases gMu_get h with ⟨rfl,rfl⟩ | ⟨rfl,rfl⟩ <;> rfl⟩,hi s (S.held it _ true mem2).1⟩
noncomputable def GSeg (prog:Program) (w:World) (Amb:Fz → Prop) (A:Around) (env:Env) (items:List (Int × Str)) (e it:Addr) (fr:Frame) (n:Nat) (s₀:Shared) (c:Sem PySem.Fin) (s:Shared):Prop :=
  Seg (model prog w) A (Rd [env.locals,e,it]) (Yd Amb [env.locals,e,it] items) n s₀ (.forLoop gTgt (.ref e) gTurn [] env) c [fr] s
noncomputable def gDen (prog:Program) (w:World) (env:Env) (e:Addr):Sem PySem.Fin:=(model prog w).den (.forLoop gTgt (.ref e) gTurn [] env)
theorem gen_code {items:List (Int × Str)} {e it:Addr} {fr:Frame} {n:Nat} (h:GSeg prog w Amb A env items e it fr n s₀ (gDen prog w env e) s):GSeg prog w Amb A env items e it fr n s₀ (.pure (.again (.forLoop gTgt (.ref e) gTurn [] env))) s :=
  seg_again (by rfl) h
theorem gen_done {x:Str} {t:Tok} {items:List (Int × Str)} {e it:Addr} {fr:Frame} (hne:e ≠ it) (hasc:x.cps.all (· < 128) = true) (hh:(A.over (.forLoop gTgt (.ref e) gTurn [] env) [fr]).handled = none) {n:Nat} {pos:Int} {esc:Bool}
    (hend:∀ s old oi,St Amb (Bg s₀ [env.locals,e,it]) env (gMu pos esc none) [] [.held e old true,.held it oi true] s → GSeg prog w Amb A env items e it fr n s₀ (.pure (.again (.block [] env))) s)
    (G:GAt Amb env x t e it s₀ s x.cps.size esc pos):GSeg prog w Amb A env items e it fr n s₀ (gDen prog w env e) s:=by
  obtain ⟨old,oi,⟨F,φ,m,ow,S⟩,hsi⟩:=G
  have qe:=S.held e (enumO it x.cps.size old) true (.head _)
  refine seg_forLoop ?_
  have hty:strIterType x = "str_ascii_iterator":=by unfold strIterType; rw [hasc]; rfl
  rw [hty] at hsi
  refine enum_end hh qe.1 hsi (by simp) fun h' hx' qq => ?_
  obtain ⟨oi',hoi'⟩:=qq
  have mi:=S.mine (P':=[]) (a:=it) mem2 fun _ _ h => nomatch h
  have S1:=(S.drop (P':=[]) (fun _ h => nomatch h)).turn (s':={ s with heap:=h' }) (wr:=[it]) (fun b o hb h => hx' b o (fun q => hb (q ▸ .head _)) h) rfl .rfl fun b hb => List.mem_singleton.mp hb ▸ mi
  exact hend _ (enumO it x.cps.size old) oi' ⟨F,φ,m,ow,(S1.holdMn mi hoi').holdMn (S.mine (P':=[]) (a:=e) (.head _) fun _ _ h => nomatch h) (hx' _ _ hne qe.1)⟩
theorem gen_step (H:AmbOk prog w Amb mg mb) (K:EnvOk env) (hs:env.scope = fnScope 2) (hfn:env.func.isSome = true) {x:Str} {t:Tok} {items:List (Int × Str)} {e it:Addr} {fr:Frame} (hne:e ≠ it) (heL:e ≠ env.locals) (hiL:it ≠ env.locals)
    (hfs:splitAtGen [fr] = none) (hfg:[fr].any Frame.guarded = false) (hh:(A.over (.forLoop gTgt (.ref e) gTurn [] env) [fr]).handled = none) {c i:Nat} {r:List Nat}
    (ih:∀ (esc:Bool) (pos:Int) (pre:List (Int × Str)) (n:Nat) (s₀ s:Shared),items = pre ++ escGo r (i + 1) esc pos → n = (escGo r (i + 1) esc pos).length → GAt Amb env x t e it s₀ s (i + 1) esc pos → GSeg prog w Amb A env items e it fr n s₀ (gDen prog w env e) s)
    {esc:Bool} {pos:Int} {pre:List (Int × Str)} {n:Nat} (hi:x.cps[i]? = some c) (hlt:i < x.cps.size) (hit:items = pre ++ escGo (c :: r) i esc pos) (hn:n = (escGo (c :: r) i esc pos).length) (G:GAt Amb env x t e it s₀ s i esc pos) :
    GSeg prog w Amb A env items e it fr n s₀ (gDen prog w env e) s:=by
  have D:Draws prog w (A.over (.forLoop gTgt (.ref e) gTurn [] env) [fr]).in1 it [it] x.cps.size (fun i v => ∃ c u,x.cps[i]? = some c ∧ v = .str ⟨#[c]⟩ u) (fun i h => h.IsStrIter it (strIterType x) x t i):=Draws.strU (show (Around.in1 _).handled = none from hh) it x t
  have G0:=G
  obtain ⟨old,oi,⟨F,φ,m,ow,S⟩,hsi⟩:=G
  have he:=(S.held e (enumO it i old) true (.head _)).1
  refine seg_forLoop ?_
  refine wpAny_pyNext_enum_itemD D he hsi hlt hne (by simpa using hne) fun v h₁ tk qq ho hs₁ hT hsz hkeep => ?_
  obtain ⟨c',u,hc',rfl⟩:=qq
  obtain rfl:=Option.some.inj (hi.symm.trans hc')
  refine wpAny_letOwnedTupleGo_enum ho fun h₂ he₂ hs₂ => ?_
  replace hs₂:Heap.SameBut e h₁ h₂:=hs₂
  have hs₃:=hs₁.extBut hs₂.extBut (Ne.symm hne)
  obtain ⟨oi₂,hoi₂,S2⟩:=G0.taken H hne (c:=c) (tk:=tk + 1) (h₂:=h₂) (tk':=u) (u:=tk) ((hs₂.2 _ (Nat.ne_of_gt (Heap.lt_size he))).trans hT) (fun b o h1 h2 h3 => (hs₂.2 b h1).trans (hkeep b o h1 h2 h3)) he₂ hs₃
  have iter:∀ s':Shared,s'.heap.get? it = some oi₂ → s'.heap.IsStrIter it (strIterType x) x t (i + 1):=fun s' q => let ⟨o,ho,r⟩:=hs₃; ⟨_,q,Option.some.inj (ho.symm.trans hoi₂) ▸ r⟩
  clear hs₃ hs₁ hs₂ he₂ hT hsz hkeep ho hoi₂ hsi he S G0 D F φ m ow
  generalize ({ s with heap:=h₂,toks:=tk + 1 }:Shared) = s at S2
  have AT0:AT prog w Amb (A.over (.forLoop gTgt (.ref e) gTurn [] env) [fr]) (Bg s₀ [env.locals,e,it]) env gTgt (.tup [.int i,.str ⟨#[c]⟩]) (gMu pos esc none) [] (fun μ' => μ' = gMu i esc (some (.v (.str ⟨#[c]⟩)))) :=
    AT.pair hh (AT.name K (stor_of hs hfn (by kernel_rfl)) (AT.name K (stor_of hs hfn (by kernel_rfl)) rfl)) (by rfl)
  refine wpAny_mono (AT0 _ _ _ S2) (fun _ s3 qq => ?_) fun _ _ x => x.elim
  obtain ⟨μ3,S3,rfl⟩:=qq
  have hco:env.scope.isCoroutine = false:=by rw [hs]; kernel_rfl
  have hia:interactive env = false:=inter hs (by kernel_rfl)
  refine seg_execs_cons ?_
  refine seg_WB S3 (R1:=fun b σ' => b = esc ∧ σ' = []) (WB.val (WE.nm K hs (by kernel_rfl) rfl ⟨esc,.bool _,rfl,rfl⟩) (by intro whole; rfl)) ?_
  rintro b σ' s4 ⟨rfl,rfl⟩ S4
  cases b with
  | true =>
    first | refine iteT rfl ?_ | rw [if_pos rfl]
    refine seg_execs_cons ?_
    obtain rfl:n = (escGo r (i + 1) false i).length + 1:=hn
    refine seg_yieldPair (W:=[env.locals,e,it]) (pre:=pre) (post:=escGo r (i + 1) false i) rfl held_two S4 ?_ hit rfl hfs rfl hfg ?_ (by rfl) hco hia
    · refine WAs.cons (WE.nm K hs (by kernel_rfl) rfl (WAs.cons (WE.bin (WE.str (WE.nm K hs (by kernel_rfl) rfl (OpB.add_str ?_ (WAs.nil ⟨rfl,rfl⟩)))))))
      exact Nat.le_of_ble_eq_true (by kernel_rfl)
    · intro s₁ s'' S5 h1 h2 h3
      refine seg_execs_cons ?_
      refine seg_W1 (R1:=fun f μ' σ' => f = .next ∧ μ' = gMu i false none ∧ σ' = []) (gen_awake hs heL hiL S5 h1 h2 h3) (W1.assign K (stor_of hs hfn (by kernel_rfl)) (WE.bool ⟨rfl,rfl,rfl⟩) (by rfl)) (fun _ _ _ h => h.1) ?_
      rintro μ' σ' s5 ⟨_,rfl,rfl⟩ S7
      exact gen_code (ih false i (pre ++ [((i:Int),("\\":Str) ++ (⟨#[c]⟩:Str))]) _ _ _ (by rw [hit]; simp [escGo]) rfl (gen_head S7 iter))
  | false =>
    first | refine iteF Bool.false_ne_true ?_ | rw [if_neg Bool.false_ne_true]
    refine seg_execs_cons ?_
    refine seg_WB S4 (R1:=fun b σ' => b = ((⟨#[c]⟩:Str) == "\\") ∧ σ' = []) (WB.cmp' (WE.nm K hs (by kernel_rfl) rfl (WE.str (OpC.eq_str ⟨_,.bool _,rfl,rfl⟩))) (by rfl)) ?_
    rintro b σ' s5 ⟨rfl,rfl⟩ S5
    by_cases hc:(⟨#[c]⟩:Str) = "\\"
    · have hg:escGo (c :: r) i false pos = escGo r (i + 1) true i:=if_pos hc
      rw [hg] at hit hn
      first | refine iteT (beq_iff_eq.mpr hc) ?_ | rw [if_pos (beq_iff_eq.mpr hc)]
      refine seg_execs_cons ?_
      refine seg_W1 (R1:=fun f μ' σ' => f = .next ∧ μ' = gMu i true (some (.v (.str ⟨#[c]⟩))) ∧ σ' = []) S5 (W1.assign K (stor_of hs hfn (by kernel_rfl)) (WE.bool ⟨rfl,rfl,rfl⟩) (by rfl)) (fun _ _ _ h => h.1) ?_
      rintro μ' σ' s6 ⟨_,rfl,rfl⟩ S6
      exact gen_code (ih true i pre n s₀ s6 hit hn (gen_head S6 iter))
    · have hg:escGo (c :: r) i false pos = ((i:Int),(⟨#[c]⟩:Str)) :: escGo r (i + 1) false i:=if_neg hc
      rw [hg] at hit hn
      first | refine iteF (fun h => hc (beq_iff_eq.mp h)) ?_ | rw [if_neg (fun h => hc (beq_iff_eq.mp h))]
      refine seg_execs_cons ?_
      obtain rfl:n = (escGo r (i + 1) false i).length + 1:=hn
      refine seg_yieldPair (W:=[env.locals,e,it]) (pre:=pre) (i:=(i:Int)) (x:=⟨#[c]⟩) (post:=escGo r (i + 1) false i) rfl held_two S5 ?_ hit rfl hfs rfl hfg ?_ (by rfl) hco hia
      · exact WAs.cons (WE.nm K hs (by kernel_rfl) rfl (WAs.cons (WE.nm K hs (by kernel_rfl) rfl (WAs.nil ⟨rfl,rfl⟩))))
      · intro s₁ s'' S6 h1 h2 h3
        exact gen_code (ih false i (pre ++ [((i:Int),(⟨#[c]⟩:Str))]) _ _ _ (by rw [hit]; simp) rfl (gen_head (gen_awake hs heL hiL S6 h1 h2 h3) iter))
theorem gen_loop (H:AmbOk prog w Amb mg mb) (K:EnvOk env) (hs:env.scope = fnScope 2) (hfn:env.func.isSome = true) {x:Str} {t:Tok} {items:List (Int × Str)} {e it:Addr} {fr:Frame} (hne:e ≠ it) (heL:e ≠ env.locals) (hiL:it ≠ env.locals)
    (hasc:x.cps.all (· < 128) = true) (hfs:splitAtGen [fr] = none) (hfg:[fr].any Frame.guarded = false) (hh:(A.over (.forLoop gTgt (.ref e) gTurn [] env) [fr]).handled = none)
    (hend:∀ s₀ s pos esc n pre,items = pre ++ escGo [] 0 esc pos → n = (escGo [] 0 esc pos).length → (∃ old oi,St Amb (Bg s₀ [env.locals,e,it]) env (gMu pos esc none) [] [.held e old true,.held it oi true] s) →
      GSeg prog w Amb A env items e it fr n s₀ (.pure (.again (.block [] env))) s) :
    ∀ (rest:List Nat) (i:Nat) (esc:Bool) (pos:Int) (pre:List (Int × Str)) (n:Nat) (s₀ s:Shared),x.cps.toList.drop i = rest → i ≤ x.cps.size → items = pre ++ escGo rest i esc pos → n = (escGo rest i esc pos).length → GAt Amb env x t e it s₀ s i esc pos →
      GSeg prog w Amb A env items e it fr n s₀ (gDen prog w env e) s:=by
  intro rest
  induction rest with
  | nil =>
    intro i esc pos pre n s₀ s hx hle hit hn G
    obtain rfl:i = x.cps.size:=Nat.le_antisymm hle (by simpa using hx)
    exact gen_done hne hasc hh (fun s old oi S => hend _ _ pos esc n pre hit hn ⟨old,oi,S⟩) G
  | cons c r ih =>
    intro i esc pos pre n s₀ s hx hle hit hn G
    have hi:x.cps[i]? = some c:=by
      have:(x.cps.toList.drop i)[0]? = some c:=by rw [hx]; rfl
      simpa using this
    have hlt:i < x.cps.size:=(Array.getElem?_eq_some_iff.mp hi).1
    exact gen_step H K hs hfn hne heL hiL hfs hfg hh (fun esc pos pre n s₀ s => ih (i + 1) esc pos pre n s₀ s (by rw [← List.drop_drop,hx]; rfl) hlt) hi hlt hit hn G
end
section
variable {prog:Program} {w:World} {Amb:Fz → Prop} {A:Around} {B:Base} {env:Env} {μ:Mu} {σ:Sg} {mg mb:Str → Option Value} {s s₀ s₁ s₂:Shared} {m:Str → Option Value} {P:List Pend} {F:Fz} {φ:List Addr} {ow:List (Str × Addr)}
theorem Kept.refl {W:List Addr} (s:Shared):Kept W s s:=⟨fun _ _ _ h => h,rfl,.rfl⟩
theorem gen_tail (K:EnvOk env) (hs:env.scope = fnScope 2) (hfn:env.func.isSome = true) {items:List (Int × Str)} {e it:Addr} (hne:e ≠ it) (heL:e ≠ env.locals) (hiL:it ≠ env.locals) (hh:A.handled = none) {K1:Flow → Sem PySem.Fin} {H1:Value → Sem PySem.Fin}
    {st:Stmt} (hst:(fnBody 2)[(3:Nat)]? = some st) (hK:K1 .next = .pure (.done (.ret .none)))
    {s₀ s:Shared} {pos:Int} {esc:Bool} {n:Nat} {pre:List (Int × Str)} (hit:items = pre ++ escGo [] 0 esc pos) (hn:n = (escGo [] 0 esc pos).length) {old oi:Obj} (S:St Amb (Bg s₀ [env.locals,e,it]) env (gMu pos esc none) [] [.held e old true,.held it oi true] s) :
    Seg (model prog w) A (Rd [env.locals,e,it]) (Yd Amb [env.locals,e,it] items) n s₀ (.func (fnBody 2) env) ((execs [st] env).wrap K1 H1 id id) [] s:=by
  have hW:∀ b ∈ [env.locals,e,it],b = env.locals ∨ ∃ o mi,Pend.held b o mi ∈ [Pend.held e old true,Pend.held it oi true]:=by
    intro b hb
    simp only [List.mem_cons,List.mem_nil_iff,or_false] at hb
    rcases hb with rfl | rfl | rfl
    · exact .inl rfl
    · exact .inr ⟨_,_,List.mem_cons_self ..⟩
    · exact .inr ⟨_,_,List.mem_cons_of_mem _ (List.mem_cons_self ..)⟩
  have hco:env.scope.isCoroutine = false:=by rw [hs]; kernel_rfl
  have hia:interactive env = false:=inter hs (by kernel_rfl)
  have hend:∀ s₀ s:Shared,Kept [env.locals,e,it] s₀ s → Seg (model prog w) A (Rd [env.locals,e,it]) (Yd Amb [env.locals,e,it] items) 0 s₀ (.func (fnBody 2) env) (K1 .next) [] s:=by
    intro s₀ s k
    rw [hK]
    exact seg_end (.ok (.ret .none)) ⟨rfl,rfl,k⟩
  have e3:(fnBody 2)[(3:Nat)]? = _:=rfl
  rw [e3] at hst
  cases hst
  refine seg_execs_cons ?_
  refine seg_WB S (R1:=fun b σ' => b = esc ∧ σ' = []) (WB.val (WE.nm K hs (by kernel_rfl) rfl ⟨esc,.bool _,rfl,rfl⟩) (by intro whole; rfl)) ?_
  rintro b σ' s4 ⟨rfl,rfl⟩ S4
  cases b with
  | true =>
    first | refine iteT rfl ?_ | rw [if_pos rfl]
    refine seg_execs_cons ?_
    obtain rfl:n = 0 + 1:=hn
    refine seg_yieldPair (W:=[env.locals,e,it]) (pre:=pre) (post:=[]) rfl hW S4 ?_ hit rfl rfl rfl rfl ?_ (by rfl) hco hia
    · exact WAs.cons (WE.nm K hs (by kernel_rfl) rfl (WAs.cons (WE.str (WAs.nil ⟨rfl,rfl⟩))))
    · intro s₁ s'' S5 h1 h2 h3
      exact hend s'' s'' (Kept.refl _)
  | false =>
    first | refine iteF Bool.false_ne_true ?_ | rw [if_neg Bool.false_ne_true]
    obtain rfl:n = 0:=hn
    obtain ⟨_,_,_,_,S4⟩:=S4
    exact hend _ _ S4.kept
end
section
variable {prog:Program} {w:World} {Amb:Fz → Prop} {A:Around} {B:Base} {env:Env} {μ:Mu} {σ:Sg} {mg mb:Str → Option Value} {s s₀ s₁ s₂:Shared} {m:Str → Option Value} {P:List Pend} {F:Fz} {φ:List Addr} {ow:List (Str × Addr)}
theorem call_type1 {f a:PySem.Expr} {p:Pos} {n:String} {Q:Value → Shared → Prop} {E:Value → Shared → Prop}
    (h:wpAny (model prog w) A (eval f env) (fun fv s1 => fv = .type n ∧ wpAny (model prog w) A (eval a env) (fun v s2 => wpAny (model prog w) A (call (.type n) [v]) Q E s2) E s1) E s)
    (he:eval (.Call f [a] [] p) env = (do callWith p (← eval f env) [] ([a].map fun e => (false,eval e env)) []):=by rfl):wpAny (model prog w) A (eval (.Call f [a] [] p) env) Q E s:=by
  rw [he]
  refine wpAny_bind (wpAny_mono h (fun fv s1 qq => ?_) fun _ _ x => x)
  obtain ⟨e,h1⟩:=qq
  subst e
  refine callWith_plain (f:=.type n) (first:=[]) (ts:=[eval a env]) (ks:=[]) (.inr (.inl ⟨_,rfl⟩)) ?_
  exact Calls.spliced_cons (wpAny_mono h1 (fun v s2 h2 => Calls.spliced_nil (wpAny_evalAll_nil ⟨(fun a e => nomatch e),h2⟩)) fun _ _ x => x)
theorem gen_all (H:AmbOk prog w Amb mg mb) (hen:mg "enumerate" = none ∧ mb "enumerate" = some (.type "enumerate")) (K:EnvOk env) (hs:env.scope = fnScope 2) (hfn:env.func.isSome = true) (hh:A.handled = none) {x:Str} {t:Tok} (hasc:x.cps.all (· < 128) = true)
    (hns:s.heap.Ns env.locals m) (hm:m "addr" = some (.str x t)) (hA:Amb (Fz0 s.heap [env.locals])) (hb:AllBare s.gens) :
    Seg (model prog w) A (Rd [env.locals,s.heap.objs.size + 1,s.heap.objs.size]) (Yd Amb [env.locals,s.heap.objs.size + 1,s.heap.objs.size] (escP x)) (escP x).length s (.func (fnBody 2) env) ((model prog w).den (.func (fnBody 2) env)) [] s:=by
  have hk:∀ x,env.kindOf x = (fnScope 2).names.lookup x:=fun x => kindOf_of hs x
  have hkn:K.kind = K.kind:=rfl
  have hcl:(env.scope.kind == .class || (env.scope.kind == .module && env.locals != env.globals)) = false:=by rw [K.kind]; rfl
  refine seg_func ?_
  refine seg_execs_cons ?_
  refine seg_stmt (wpAny_Assign_Name (wpAny_Constant_int ?_) (by rfl))
  refine wpAny_storeName_local (by rw [hk]; kernel_rfl) hns (fun h₁ hn₁ hs₁ => ?_) hcl
  refine seg_execs_cons ?_
  refine seg_stmt (wpAny_Assign_Name (wpAny_Constant_bool ?_) (by rfl))
  refine wpAny_storeName_local (by rw [hk]; kernel_rfl) hn₁ (fun h₂ hn₂ hs₂ => ?_) hcl
  replace hs₁:Heap.SameBut env.locals s.heap h₁:=hs₁
  replace hs₂:Heap.SameBut env.locals h₁ h₂:=hs₂
  have hs12:Heap.SameBut env.locals s.heap h₂:=⟨hs₂.1.trans hs₁.1,fun b hb => (hs₂.2 b hb).trans (hs₁.2 b hb)⟩
  have hz₂:h₂.objs.size = s.heap.objs.size:=hs12.1
  have hsub:∀ a o,Fz0 s.heap [env.locals] a = some o → h₂.get? a = some o:=fun a o h => by
    obtain ⟨h1,h2⟩:=Fz0_some.mp h
    exact (hs12.2 a fun e => h1 (by simp [e])).trans h2
  refine seg_execs_cons ?_
  refine seg_For ?_ (by intro x; rfl)
  refine call_type1 (n:="enumerate") ?_ (by rfl)
  refine Calls.Name_function_global K.kind (by rw [hk]; kernel_rfl) (Calls.loadGlobal_builtin (K.globals ▸ H.gns _ h₂ hA hsub) hen.1 (K.builtins ▸ H.bns _ h₂ hA hsub) hen.2 ⟨rfl,?_⟩) (by kernel_rfl)
  refine wpAny_Name (wpAny_loadName_local K.kind (by rw [hk]; kernel_rfl) hn₂ (v:=.str x t) ?_ ?_) (by kernel_rfl)
  · show (if ("addr":Str) = "escape" then _ else if ("addr":Str) = "pos" then _ else m "addr") = _
    rw [if_neg (by decide +kernel),if_neg (by decide +kernel),hm]
  refine call_enumerate_str fun h₃ he₃ hi₃ hz₃ hk₃ => ?_
  dsimp only at he₃ hi₃ hz₃ hk₃
  rw [hz₂] at he₃ hi₃ hz₃
  have key:∀ (k:Nat) (Q:Value → Shared → Prop) (E:Value → Shared → Prop) (s':Shared),k = s.heap.objs.size → wpAny (model prog w) (A.over (.func (fnBody 2) env) []) (pyIter (.ref (s.heap.objs.size + 1))) Q E s' → wpAny (model prog w) (A.over (.func (fnBody 2) env) []) (pyIter (.ref (k + 1))) Q E s':=fun k Q E s' e h => by rw [e]; exact h
  refine key _ _ _ _ hz₂ ?_
  refine wpAny_pyIter_enum he₃ fun p => ?_
  have hL:env.locals < s.heap.objs.size:=by
    obtain ⟨o,es,ep,q,_⟩:=hns
    exact Heap.lt_size q
  obtain ⟨oi,hoi⟩:=strIter_obj hi₃
  refine gen_loop H K hs hfn (x:=x) (t:=t) (e:=s.heap.objs.size + 1) (it:=s.heap.objs.size) (items:=escP x) (Nat.succ_ne_self _) (Nat.ne_of_gt (Nat.lt_succ_of_lt hL)) (Nat.ne_of_gt hL) hasc (by rfl) (by rfl) (by exact hh) (fun s₀ s' pos esc n pre h1 h2 ⟨old,oi,S⟩ => ?_) x.cps.toList 0 false 0 [] _ s _ rfl (Nat.zero_le _) rfl rfl ⟨.none,oi,?_,hi₃⟩
  · refine seg_again (by rfl) ?_
    show Seg _ _ _ _ _ _ _ (leafOf (.ok .next)) _ _
    refine seg_leaf (.ok .next) ?_
    exact gen_tail K hs hfn (Nat.succ_ne_self _) (Nat.ne_of_gt (Nat.lt_succ_of_lt hL)) (Nat.ne_of_gt hL) hh rfl rfl h1 h2 S
  · -- the state at the loop's head
    have hn0:∀ c,s.heap.objs.size ≤ c → s.heap.get? c = none:=fun c hc => by
      cases e:s.heap.get? c with
      | none => rfl
      | some o => exact absurd (Heap.lt_size e) (Nat.not_lt.mpr hc)
    have hW:∀ a o,Fz0 s.heap [env.locals] a = some o → Fz0 s.heap [env.locals,s.heap.objs.size + 1,s.heap.objs.size] a = some o:=fun a o h => by
      obtain ⟨h1,h2⟩:=Fz0_some.mp h
      refine Fz0_some.mpr ⟨fun hm => ?_,h2⟩
      simp only [List.mem_cons,List.mem_nil_iff,or_false] at hm h1
      rcases hm with rfl | rfl | rfl
      · exact h1 rfl
      · rw [hn0 _ (Nat.le_succ _)] at h2; cases h2
      · rw [hn0 _ (Nat.le_refl _)] at h2; cases h2
    have T:=StF.wake (Amb:=Amb) (env:=env) (W:=[env.locals,s.heap.objs.size + 1,s.heap.objs.size]) (hp:=[]) (s:=s) (m:=m) (μ:=[]) (fun x => by rw [hk]; exact lookup_ne gKinds x) (fun x => by rw [hk]; exact lookup_ne gKinds' x) (H.mono _ _ hW hA) (List.mem_cons_self ..) hb hns (fun x lv h => by cases h) (fun q hq => nomatch hq)
    have T1:=T.setLocal (x:="pos") (v:=.int 0 s.toks) (y:=.int 0) (tk:=s.toks + 1) (h':=h₁) (by rw [hk]; kernel_rfl) (.int _ _) hn₁ hs₁
    have T2:=T1.setLocal (x:="escape") (v:=.bool false) (y:=.bool false) (tk:=s.toks + 1) (h':=h₂) (by rw [hk]; kernel_rfl) (.bool _) hn₂ hs₂
    have T3:=fun tk => T2.grow (s':={ s with heap:=h₃,toks:=tk }) ⟨hk₃,rfl,.rfl⟩
    obtain ⟨i1,i2,i3,i4,i5,i6⟩:=T.free (hn0 s.heap.objs.size (Nat.le_refl _))
    obtain ⟨e1,e2,e3,e4,e5,e6⟩:=T.free (hn0 (s.heap.objs.size + 1) (Nat.le_succ _))
    have T4:=fun tk => ((T3 tk).hold (a:=s.heap.objs.size) (mi:=true) hoi i2 i3 i4 (fun _ h => nomatch h) fun _ => ⟨i1,i6⟩).hold (a:=s.heap.objs.size + 1) (mi:=true) he₃ e2 e3 e4 (fun _ h => nomatch h) fun _ => ⟨e1,e6⟩
    refine ⟨_,_,_,_,(T4 _).forget fun z l h => ?_⟩
    rcases gMu_get h with ⟨rfl,rfl⟩ | ⟨rfl,rfl⟩ <;> rfl
end
section
variable {prog:Program} {w:World} {Amb:Fz → Prop} {A:Around} {B:Base} {env:Env} {μ:Mu} {σ:Sg} {mg mb:Str → Option Value} {s s' s₀ s₁ s₂:Shared} {m:Str → Option Value} {P:List Pend} {F:Fz} {φ:List Addr} {ow:List (Str × Addr)} {E:Value → Shared → Prop}
theorem next_gen {a:Addr} {g n:Nat} {gs:GenState} {Pe:Nat → Shared → Shared → Prop} {Y:Protocol} {Q:Option Value → Shared → Prop} (hh:A.handled = none) (hl:s.heap.NoLimit) (hroom:A.depth < recursionLimit) (hg:s.heap.IsGen a g) (hgs:s.gens[g]? = some gs)
    (hgo:gs.Goes (model prog w) A.in1 (fun n s₀ r s₁ => r = .ok (.ret .none) ∧ Pe n s₀ s₁) Y n (.send .none) (s.setGen g .running))
    (hY:∀ v s₁ gs',gs'.bare = true → Y (n - 1) (s.setGen g .running) v s₁ (fun r' s'' => match n with
        | 0 => False
        | m + 1 => gs'.Goes (model prog w) A.in1 (fun n s₀ r s₁ => r = .ok (.ret .none) ∧ Pe n s₀ s₁) Y m r' s'') → Q (some v) (s₁.setGen g gs'))
    (hP:∀ s₁,Pe n (s.setGen g .running) s₁ → ∀ h',(∀ b o,s₁.heap.get? b = some o → h'.get? b = some o) → Q none { s₁.setGen g .finished with heap:=h' }):wpAny (model prog w) A (pyNext (.ref a)) Q E s:=by
  unfold pyNext
  refine wpAny_bind (wpAny_attempt (wpAny_callSpecial?_slot (name:=Str.ofString "__next__") hg.typeIs slot_gen_next (wpAny_call_entry slot_gen_next hg.typeIs entry_gen_next ?_ (args_gen_next _))))
  show wpAny _ A.in1 (Builtin.Generator.genWake (.ref a) (.send .none)) _ _ s
  unfold Builtin.Generator.genWake
  refine wpAny_bind (wpAny_holding (wpAny_genNumber hg (wpAny_bind (wpAny_genState hgs ?_))))
  cases gs with
  | running => exact hgo.elim
  | finished => exact hgo.elim
  | _ =>
    refine wpAny_bind (wpAny_roomToWake hl hroom ?_)
    show wpAny _ A.in1 (.resume g (.send .none) [] _) _ _ s
    refine wpAny_resumeQ hgs hgo (fun x s₁ hx => ?_) (fun v s₁ gs' hb hv => ?_)
    · obtain ⟨rfl,hp⟩:=hx
      show wpAny _ A.in1 (newExc (.type "StopIteration") [] >>= _) _ _ _
      refine wpAny_bind ?_
      simp only [newExc,newTuple]
      refine wpAny_bind (wpAny_newObj_type ?_ (by size_fits))
      refine wpAny_bind (m:=firstArgMember _ _) (wpAny_of_eq (a:=Value.none) (by first | rfl | (simp only [firstArgMember]; rfl)) ?_)
      refine wpAny_newObj_type ?_ (by size_fits)
      simp only [raiseNew]
      refine wpAny_bind (wpAny_bind (wpAny_handled ?_))
      first | rw [show A.in1.handled = none from hh] | rw [hh]
      refine wpAny_throw ?_
      refine wpAny_bind (wpAny_isInstance (T:="StopIteration") (b:=true) ⟨_,Heap.get?_push_size _ rfl,rfl⟩ isSubtype_stop ?_)
      exact wpAny_pure (hP s₁ hp _ fun b o hb => Heap.get?_push_of_some _ (Heap.get?_push_of_some _ hb))
    · exact wpAny_pure ⟨v,rfl,wpAny_pure (hY v s₁ gs' hb hv)⟩
end
section
variable {prog:Program} {w:World} {Amb:Fz → Prop} {A:Around} {B:Base} {env:Env} {μ:Mu} {σ:Sg} {mg mb:Str → Option Value} {s s' s₀ s₁ s₂:Shared} {m:Str → Option Value} {P:List Pend} {F:Fz} {φ:List Addr} {ow:List (Str × Addr)}
theorem GK.push {gens:Array GenState} {x:GenState} (h:x.bare = true):GK gens (gens.push x) :=
  ⟨fun a => a.push h,fun g y e => by
    rw [Array.getElem?_push]
    set_option tactic.hygienic true in split
    · rename_i q; rw [q,Array.getElem?_eq_none (Nat.le_refl _)] at e; cases e
    · exact e⟩
structure GenMade (Amb:Fz → Prop) (B:Base) (env:Env) (μ:Mu) (σ:Sg) (P:List Pend) (x:Str) (t:Tok) (s:Shared) (g:Addr) (gi:Nat) (envG:Env) (oL og:Obj):Prop where
  gen:s.heap.IsGen g gi
  cls:og.cls = .type "generator"
  state:s.gens[gi]? = some (.fresh (.func (fnBody 2) envG))
  out:B.g0[gi]? = none
  K:EnvOk envG
  scope:envG.scope = fnScope 2
  func:envG.func.isSome = true
  ne:envG.locals ≠ g
  notP:∀ o mi,Pend.held envG.locals o mi ∉ P
  ns:∃ m,s.heap.Ns envG.locals m ∧ m "addr" = some (.str x t)
  st:St Amb B env μ σ (.held envG.locals oL true :: .held g og true :: P) s
theorem gen_call {a:Addr} {fd:FuncData} (H:AmbOk prog w Amb mg mb) (hr:Room A 1) (Kf:FnIs Amb a fd (fnBody 2)) (hsc:fd.scope = fnScope 2) (hbind:∀ v:Value,bindArgs fd ⟨[v],[]⟩ = pure [(("addr":Str),v)]) {x:Str} {t:Tok} {Q:Value → Shared → Prop} {E:Value → Shared → Prop}
    (S:StF Amb B env μ σ P s F φ m ow) (h:∀ s' g gi envG oL og,GenMade Amb B env μ σ P x t s' g gi envG oL og → Q (.ref g) s'):wpAny (model prog w) A (call (.ref a) [.str x t]) Q E s:=by
  obtain ⟨o,ho,hd⟩:=Kf.has F S.amb
  have hgen:fd.scope.isGenerator = true:=by rw [hsc]; kernel_rfl
  refine wpAny_call (codeAny_call_generator hr.deep (S.sub _ _ ho) hd Kf.co hgen Kf.body (Kf.code F _ S.amb S.sub) ?_)
  rw [hbind,Kf.closure]
  refine wpAny_pure ?_
  refine wpAny_newFunctionEnv (fun y hy => ?_) (fun y hy => ?_) (fun h' hn' hs' => ⟨?_,?_⟩) Kf.kind
  · rw [hsc] at hy
    have:=List.all_eq_true.mp gKinds y hy
    simpa using this
  · simp only [List.mem_singleton] at hy
    subst hy
    rw [hsc]; kernel_rfl
  · refine (H.nolimit F s.heap S.amb S.sub).keeps fun b o hb => ?_
    exact (hs'.2 b (Nat.ne_of_lt (Heap.lt_size hb))).trans (Heap.get?_push_of_some _ hb)
  · obtain ⟨oL,esL,epL,hL,rest⟩:=id hn'
    have hz:h'.objs.size = s.heap.objs.size + 1:=by rw [hs'.1,Heap.size_push]
    have above:∀ c,s.heap.objs.size ≤ c → s.heap.get? c = none:=fun c hc => by
      cases e:s.heap.get? c with
      | none => rfl
      | some o => exact absurd (Heap.lt_size e) (Nat.not_lt.mpr hc)
    have keep:∀ b o,s.heap.get? b = some o → h'.get? b = some o:=fun b o hb => (hs'.2 b (Nat.ne_of_lt (Heap.lt_size hb))).trans (Heap.get?_push_of_some _ hb)
    obtain ⟨f1,f2,f3,f4,f5,f6⟩:=S.free (above s.heap.objs.size (Nat.le_refl _))
    obtain ⟨g1,g2,g3,g4,g5,g6⟩:=S.free (above h'.objs.size (by rw [hz]; exact Nat.le_succ _))
    refine h _ _ s.gens.size (newEnv fd.scope s.heap.objs.size fd.globals [] (fd.qualname ++ ".<locals>.") (some a) fd.code none fd.builtins) oL
      { cls:=.type "generator",data:=.fields #[.int s.gens.size 0,.str fd.name (s.toks + 1),.str fd.qualname (s.toks + 1 + 1)] } ⟨⟨_,_,_,Heap.get?_push_size _ rfl,rfl,rfl,rfl⟩,rfl,Array.getElem?_push_size ..,?_,⟨?_,Kf.globals,Kf.builtins,fun y hy => ?_,fun _ y z c hy => ?_⟩,hsc,rfl,?_,fun o mi hm => ?_,⟨_,hn'.push _,?_⟩,?_⟩
    · cases e:B.g0[s.gens.size]? with
      | none => rfl
      | some y =>
        have:=S.gkeep _ _ e
        rw [Array.getElem?_eq_none (Nat.le_refl _)] at this; cases this
    · exact Kf.kind
    · have:(fnScope 2).names.lookup y = some .cell:=by rw [← hsc]; exact hy
      exact absurd this (lookup_ne gKinds y)
    · have:(fnScope 2).names.lookup y = some .cell:=by rw [← hsc]; exact hy
      exact absurd this (lookup_ne gKinds y)
    · show s.heap.objs.size ≠ h'.objs.size
      rw [hz]; exact (Nat.succ_ne_self _).symm
    · have q:s.heap.get? s.heap.objs.size = some o:=(S.held _ o mi hm).1
      rw [above s.heap.objs.size (Nat.le_refl _)] at q; cases q
    · simp [List.lookup]
    · have S1:=S.grow (s':={ s with gens:=s.gens.push (.fresh (.func (fnBody 2) (newEnv fd.scope s.heap.objs.size fd.globals [] (fd.qualname ++ ".<locals>.") (some a) fd.code none fd.builtins))),toks:=s.toks + 1 + 1 + 1,heap:=h'.push { cls:=.type "generator",data:=.fields #[.int s.gens.size 0,.str fd.name (s.toks + 1),.str fd.qualname (s.toks + 1 + 1)] } })
        ⟨fun b o hb => Heap.get?_push_of_some _ (keep b o hb),rfl,GK.push rfl⟩
      exact ⟨F,φ,m,ow,(S1.hold (a:=h'.objs.size) (mi:=true) (Heap.get?_push_size _ rfl) g2 g3 g4 g5 fun _ => ⟨g1,g6⟩).hold (a:=s.heap.objs.size) (mi:=true) (Heap.get?_push_of_some _ hL) f2 f3 f4 f5 fun _ => ⟨f1,f6⟩⟩
end
section
variable {prog:Program} {w:World} {Amb:Fz → Prop} {A:Around} {B:Base} {env:Env} {μ:Mu} {σ:Sg} {mg mb:Str → Option Value} {s s' s₀ s₁ s₂:Shared} {m:Str → Option Value} {P:List Pend} {F:Fz} {φ:List Addr} {ow:List (Str × Addr)}
noncomputable def Base.re (B:Base) (g:Array GenState):Base:=⟨B.h0,B.F0,B.φ0,B.os0,g⟩
theorem StF.regen {gs:Array GenState} (S:StF Amb B env μ σ P s F φ m ow) (h1:AllBare gs) (h2:∀ (j:Nat) x,B.g0[j]? = some x → gs[j]? = some x):StF Amb B env μ σ P { s with gens:=gs } F φ m ow :=
  ⟨S.amb,S.sub,S.ext,S.new,S.phi,S.phin,S.phi0,S.keep,S.os,h1,h2,S.nodup,S.phiF,S.len,S.sto,S.ns,S.locF,S.loc,S.cel,S.fre,S.cells,S.own,S.ownk,S.ownf,S.pend,S.held⟩
theorem StF.rebase (S:StF Amb B env μ σ P s F φ m ow):StF Amb (B.re s.gens) env μ σ P s F φ m ow :=
  ⟨S.amb,S.sub,S.ext,S.new,S.phi,S.phin,S.phi0,S.keep,S.os,S.gens,fun _ _ h => h,S.nodup,S.phiF,S.len,S.sto,S.ns,S.locF,S.loc,S.cel,S.fre,S.cells,S.own,S.ownk,S.ownf,S.pend,S.held⟩
theorem StF.unbase {gs:Array GenState} (S:StF Amb (B.re gs) env μ σ P s F φ m ow) (h:∀ (j:Nat) x,B.g0[j]? = some x → gs[j]? = some x):StF Amb B env μ σ P s F φ m ow :=
  ⟨S.amb,S.sub,S.ext,S.new,S.phi,S.phin,S.phi0,S.keep,S.os,S.gens,fun j x e => S.gkeep j x (h j x e),S.nodup,S.phiF,S.len,S.sto,S.ns,S.locF,S.loc,S.cel,S.fre,S.cells,S.own,S.ownk,S.ownf,S.pend,S.held⟩
theorem AllBare.setGen {g:Nat} {x:GenState} (h:AllBare s.gens) (hx:x.bare = true):AllBare (s.setGen g x).gens:=fun y hy => by
  unfold Shared.setGen at hy
  rcases Array.mem_or_eq_of_mem_setIfInBounds hy with h' | h'
  · exact h y h'
  · rw [h']; exact hx
theorem setGen_other {g j:Nat} {x y:GenState} (hj:j ≠ g) (h:s.gens[j]? = some y):(s.setGen g x).gens[j]? = some y:=by
  show (s.gens.setIfInBounds g x)[j]? = _
  rw [Array.getElem?_setIfInBounds_ne (fun e => hj e.symm)]; exact h
inductive GInv (prog:Program) (w:World) (Amb:Fz → Prop) (A:Around) (B:Base) (env:Env) (P:List Pend) (W:List Addr) (items:List (Int × Str)) (g:Addr) (gi:Nat) (og:Obj) (J:Nat → Mu → Sg → Prop) (k:Nat) (s:Shared):Prop
  | mk (i:Nat) (μ:Mu) (σ:Sg) (hp:List Pend) (gs:GenState) (hk:k + i = items.length) (hJ:J i μ σ) (hgs:s.gens[gi]? = some gs) (hgo:gs.Goes (model prog w) A.in1 (Rd W) (Yd Amb W items) (items.length - i) (.send .none) (s.setGen gi .running))
      (hW:∀ b ∈ W,(∃ o,Pend.held b o true ∈ hp) ∨ s.heap.get? b = none) (S:St Amb B env μ σ (hp ++ (.held g og true :: P)) s)
theorem gen_after {W:List Addr} {gi:Nat} {x:GenState} {h':Heap} (S0:StF Amb B env μ σ P s F φ m ow) (hw:∀ b ∈ W,Mn B env F φ ow P b) (hout:B.g0[gi]? = none) (K:Kept W (s.setGen gi .running) s₁) (hh':∀ b o,s₁.heap.get? b = some o → h'.get? b = some o)
    (hx:x.bare = true) (hb:AllBare s₁.gens):StF Amb B env μ σ P { s₁.setGen gi x with heap:=h' } F φ m ow:=by
  refine (S0.turn (s':={ s₁.setGen gi x with heap:=h',gens:=s.gens }) (wr:=W) (fun b o hbW h => hh' _ _ (K.keep b o hbW h)) K.os .rfl hw).regen (gs:=(s₁.setGen gi x).gens) (AllBare.setGen hb hx) fun j y hj => ?_
  have hne:j ≠ gi:=fun e => nomatch hout.symm.trans (show B.g0[gi]? = some y from e ▸ hj)
  exact setGen_other hne (K.gens.keep j y (setGen_other hne (S0.gkeep j y hj)))
theorem end_ar {k i N M:Nat} (hk:k + i = N) (h0:M = 0) (hn:M = N - i):i = N :=
  Nat.le_antisymm (hk ▸ Nat.le_add_left i k) (Nat.le_of_sub_eq_zero (hn.symm.trans h0))
theorem idx_ar {N i n':Nat} (hn:n' + 1 = N - i):N - 1 - (n' + 1 - 1) = i:=by
  obtain rfl:N = i + (n' + 1):=(Nat.add_sub_cancel' (Nat.le_of_lt (Nat.lt_of_sub_eq_succ hn.symm))).symm.trans (congrArg (i + ·) hn.symm)
  exact Nat.add_sub_cancel i n'
theorem gen_again (H:AmbOk prog w Amb mg mb) {items:List (Int × Str)} {g L e it:Addr} {gi k i n':Nat} {og oL oe oi:Obj} {J:Nat → Mu → Sg → Prop} {gs':GenState} {gns:Array GenState}
    (hL:s₁.heap.get? L = some oL) (he:s₁.heap.get? e = some oe) (hi:s₁.heap.get? it = some oi)
    (kap:∀ s'',(∀ b ∈ [L,e,it],∀ o,s₁.heap.get? b = some o → s''.heap.get? b = some o) → Amb (Fz0 s''.heap [L,e,it]) → AllBare s''.gens → gs'.Goes (model prog w) A.in1 (Rd [L,e,it]) (Yd Amb [L,e,it] items) n' (.send .none) s'')
    (hk:k + i = items.length) (hn:items.length - i = n' + 1) (back:∀ (j:Nat) x,B.g0[j]? = some x → gns[j]? = some x) (hgn:gns[gi]? = some gs')
    (q:NP Amb (B.re gns) env (.held L oL true :: .held e oe true :: .held it oi true :: .held g og true :: P) (J (i + 1)) s):∃ m,m < k ∧ GInv prog w Amb A B env P [L,e,it] items g gi og J m s:=by
  obtain ⟨μ4,σ4,⟨F4,φ4,m4,ow4,T⟩,hJ4⟩:=q
  have tL:=T.held L oL true (.head _)
  have te:=T.held e oe true mem2
  have ti:=T.held it oi true mem3
  have hF:∀ b ∈ [L,e,it],F4 b = none:=all3 (tL.2.2.2.2.2 rfl).1 (te.2.2.2.2.2 rfl).1 (ti.2.2.2.2.2 rfl).1
  have en:items.length - (i + 1) = n':=by rw [Nat.sub_add_eq,hn]; rfl
  have ar:=turn_ar hk (Nat.lt_of_sub_eq_succ hn)
  exact ⟨k - 1,ar.1,i + 1,μ4,σ4,[.held L oL true,.held e oe true,.held it oi true],gs',ar.2,hJ4,T.gkeep gi gs' hgn,
    en ▸ kap (s.setGen gi .running) (all3 (fun o ho => Option.some.inj (hL.symm.trans ho) ▸ tL.1) (fun o ho => Option.some.inj (he.symm.trans ho) ▸ te.1) fun o ho => Option.some.inj (hi.symm.trans ho) ▸ ti.1)
      (H.mono _ _ (fun a o h => Fz0_some.mpr ⟨(fun hm => nomatch (hF a hm).symm.trans h),T.sub a o h⟩) T.amb) (AllBare.setGen T.gens rfl),
    all3 (.inl ⟨_,.head _⟩) (.inl ⟨_,mem2⟩) (.inl ⟨_,mem3⟩),F4,φ4,m4,ow4,T.unbase back⟩
theorem gen_item (H:AmbOk prog w Amb mg mb) {g L e it t:Addr} {og oL oe oi:Obj} {p:Int} {c:Str} {tk tk':Tok} {n:Nat} (S:StF Amb B env μ σ (.held g og true :: P) s F φ m ow) (hw:∀ b ∈ [L,e,it],Mn B env F φ ow (.held g og true :: P) b)
    (mt:Mn B env F φ ow (.held g og true :: P) t) (ht:t ∉ [L,e,it]) (hL:s.heap.get? L = some oL) (he:s.heap.get? e = some oe) (hi:s.heap.get? it = some oi) (hto:s.heap.get? t = some (tupO #[.int p tk,.str c tk'] n)) :
    ∃ F',StF Amb B env μ σ (.rel (.ref t) (.tup [.int p,.str c]) :: .held L oL true :: .held e oe true :: .held it oi true :: .held g og true :: P) s F' φ m ow :=
  ⟨_,(((((S.holdMn (hw it (.tail _ (.tail _ (.head _)))) hi).holdMn (hw e (.tail _ (.head _))) he).holdMn (hw L (.head _)) hL).holdMn mt hto).freezeMine H.mono
    (nin_held (fun e => ht (e ▸ .head _)) (nin_held (fun e => ht (e ▸ .tail _ (.head _))) (nin_held (fun e => ht (e ▸ .tail _ (.tail _ (.head _)))) mt.pend)))).add (.tup (n:=n) (vs:=#[.int p tk,.str c tk']) updF_self (.cons (.int _ _) (.cons (.str _ _) .nil)))⟩
noncomputable def GErr (prog:Program) (w:World) (A:Around) (env:Env) (Rr:Result → Shared → Prop):Value → Shared → Prop:=notedBy (model prog w) A env fun e s' => Rr (.error e) s'
noncomputable def GPost (prog:Program) (w:World) (A:Around) (env:Env) (tgt:PySem.Expr) (body:List Stmt) (g:Addr) (L:Shared → Prop) (Rr:Result → Shared → Prop) (r:Option Value) (s₁:Shared):Prop:=match r with
  | none => wpAny (model prog w) A (execs [] env) (fun f s₃ => Rr (.ok f) s₃) (GErr prog w A env Rr) s₁
  | some v => wpAny (model prog w) A (letOwnedTupleGo tgt (.ref g) v) (fun _ s₁' => wpAny (model prog w) A (PySem.assign tgt env v) (fun _ s₂ => wpAny (model prog w) A (execs body env) (fun f s₃ => match f with
            | .next | .cont => L s₃
            | .brk => Rr (.ok .next) s₃
            | .ret v => Rr (.ok (.ret v)) s₃) (GErr prog w A env Rr) s₂) (GErr prog w A env Rr) s₁') (GErr prog w A env Rr) s₁
theorem gen_turn (H:AmbOk prog w Amb mg mb) (hr:Room A 1) {items:List (Int × Str)} {g L e it:Addr} {gi:Nat} {og:Obj} {J:Nat → Mu → Sg → Prop} {tgt:PySem.Expr} {body:List Stmt} {R:Fl → Mu → Sg → Prop} (hg:g ∉ [L,e,it]) (hog:og.cls = .type "generator")
    (hgen:∃ nm qn,og.data = .fields #[.int gi 0,nm,qn] ∧ og.slots = #[]) (hout:B.g0[gi]? = none) (hPW:∀ b ∈ [L,e,it],∀ o mi,Pend.held b o mi ∉ P)
    (Jt:∀ i q μ' σ',items[i]? = some q → J i μ' σ' → ∀ B',AT prog w Amb A B' env tgt (.tup [.int q.1,.str q.2]) μ' σ' (fun μ2 => WS prog w Amb A B' env μ2 σ' body (fun f μ3 σ3 => match f with
        | .next | .cont => J (i + 1) μ3 σ3
        | .brk => R .next μ3 σ3
        | .ret y => R (.ret y) μ3 σ3)))
    (Je:∀ μ' σ',J items.length μ' σ' → R .next μ' σ') {Rr:Result → Shared → Prop} (hRr:∀ f s',FlSt Amb B env P R f s' → (∃ v,f = .ret v) ∨ f = .next → Rr (.ok f) s') (k:Nat) (hI:GInv prog w Amb A B env P [L,e,it] items g gi og J k s) :
    wpAny (model prog w) A (pyNext (.ref g)) (GPost prog w A env tgt body g (fun s₃ => ∃ m,m < k ∧ GInv prog w Amb A B env P [L,e,it] items g gi og J m s₃) Rr) (GErr prog w A env Rr) s:=by
  obtain ⟨i,μ',σ',hp,gs,hk,hJ,hgs,hgo,hWs,F,φ,m,ow,S⟩:=hI
  have qg:=(S.held g og true (List.mem_append_right _ (.head _))).1
  obtain ⟨nm,qn,hd,hsl⟩:=hgen
  have hw:∀ b ∈ [L,e,it],Mn B env F φ ow (.held g og true :: P) b:=fun b hb =>
    (hWs b hb).elim (fun ⟨o,ho⟩ => S.mine (List.mem_append_left _ ho) (nin_held (fun e => hg (e ▸ hb)) (hPW b hb))) fun hn => S.freeMn hn (nin_held (fun e => hg (e ▸ hb)) (hPW b hb))
  have S0:=S.drop (P':=.held g og true :: P) fun q hq => List.mem_append_right _ hq
  have bare0:AllBare (s.setGen gi .running).gens:=AllBare.setGen S.gens rfl
  obtain ⟨N,hN⟩:∃ N,N = items.length - i:=⟨_,rfl⟩
  rw [← hN] at hgo
  refine next_gen (Pe:=fun n s₀ s => n = 0 ∧ Kept [L,e,it] s₀ s) hr.handled (H.nolimit F _ S.amb S.sub) hr.deep ⟨og,nm,qn,qg,hog,hd,hsl⟩ hgs hgo (fun v s₁ gs' hbare hy => ?_) fun s₁ hp h' hh' => ?_
  · obtain ⟨kept,t,tk,tk',nn,p,c,rfl,htW,htn,hto,hlt,hitem,hex,kap⟩:=hy
    have hb1:AllBare s₁.gens:=kept.gens.bare bare0
    cases N with
    | zero => exact (kap s₁ (fun _ _ _ h => h) (H.mono _ _ (fun a o h => have hm:=fun hm => nomatch (hw a hm).f.symm.trans h; Fz0_some.mpr ⟨hm,kept.keep a o hm (S.sub a o h)⟩) S.amb) hb1).elim
    | succ n' =>
    have hidx:items.length - 1 - (n' + 1 - 1) = i:=idx_ar hN
    rw [hidx] at hitem
    have S5:StF Amb B env μ' σ' (.held g og true :: P) (s₁.setGen gi gs') F φ m ow:=gen_after S0 hw hout kept (fun _ _ h => h) hbare hb1
    obtain ⟨oL,hoL⟩:=hex L (.head _)
    obtain ⟨oe,hoe⟩:=hex e (.tail _ (.head _))
    obtain ⟨oi,hoi⟩:=hex it (.tail _ (.tail _ (.head _)))
    have htg:t ≠ g:=fun e => nomatch (e ▸ htn:s.heap.get? g = none).symm.trans qg
    obtain ⟨F',S8⟩:=gen_item H S5 hw (S.freeMn htn (nin_held htg fun o mi hm => S.notHeld htn o mi (List.mem_append_right _ (.tail _ hm)))) htW hoL hoe hoi hto
    refine letOwned_quiet (S8.held g og true (.tail _ (.tail _ (.tail _ (.tail _ (.head _)))))).1 hog (by decide) (wpAny_mono (Jt i (p,c) μ' σ' hitem hJ (B.re (s₁.setGen gi gs').gens) _ _ _ ⟨_,_,_,_,S8.rebase⟩) (fun _ s3 qq => ?_) fun _ _ x => x.elim)
    obtain ⟨μ3,S9,hb⟩:=qq
    refine wpAny_mono (hb _ s3 S9) (fun f s4 q => ?_) fun _ _ x => x.elim
    have back:∀ (j:Nat) x,B.g0[j]? = some x → (s₁.setGen gi gs').gens[j]? = some x:=S5.gkeep
    have again:=fun q => gen_again (A:=A) (B:=B) (env:=env) (g:=g) (og:=og) (J:=J) (P:=P) (k:=k) (s:=s4) H hoL hoe hoi kap hk hN.symm back (setGen_self (kept.gens.keep gi _ (setGen_self hgs))) q
    cases f with
    | next => exact again q
    | cont => exact again q
    | brk => obtain ⟨μ4,σ4,⟨F4,φ4,m4,ow4,T⟩,r⟩:=q; exact hRr .next _ ⟨μ4,σ4,⟨F4,φ4,m4,ow4,(T.unbase back).drop fun _ h => .tail _ (.tail _ (.tail _ (.tail _ h)))⟩,r⟩ (.inr rfl)
    | ret u => obtain ⟨z,μ4,σ4,⟨F4,φ4,m4,ow4,T⟩,r⟩:=q; exact hRr (.ret u) _ ⟨z,μ4,σ4,⟨F4,φ4,m4,ow4,(T.unbase back).drop subs5⟩,r⟩ (.inl ⟨_,rfl⟩)
  · obtain ⟨h0,kept⟩:=hp
    obtain rfl:i = items.length:=end_ar hk h0 hN
    exact wpAny_execs_nil (hRr .next _ ⟨μ',σ',⟨F,φ,m,ow,(gen_after S0 hw hout kept hh' rfl (kept.gens.bare bare0)).pop⟩,Je μ' σ' hJ⟩ (.inr rfl))
end
section
variable {prog:Program} {w:World} {Amb:Fz → Prop} {A:Around} {B:Base} {env:Env} {μ:Mu} {σ:Sg} {mg mb:Str → Option Value} {s s' s₀ s₁ s₂:Shared} {m:Str → Option Value} {P:List Pend} {F:Fz} {φ:List Addr} {ow:List (Str × Addr)}
theorem W1.forGen {f arg tgt:PySem.Expr} {body:List Stmt} {p pc:Pos} {a:Addr} {fd:FuncData} {R:Fl → Mu → Sg → Prop} (H:AmbOk prog w Amb mg mb) (hen:mg "enumerate" = none ∧ mb "enumerate" = some (.type "enumerate")) (hr:Room A 2)
    (Kf:FnIs Amb a fd (fnBody 2)) (hsc:fd.scope = fnScope 2) (hbind:∀ v:Value,bindArgs fd ⟨[v],[]⟩ = pure [(("addr":Str),v)])
    (h:WE prog w Amb A B env μ σ f (fun y σ1 => y = .adr a ∧ WE prog w Amb A B env μ σ1 arg (fun z σ2 => ∃ x,z = .str x ∧ x.cps.all (· < 128) = true ∧ ∃ J:Nat → Mu → Sg → Prop,J 0 μ σ2 ∧
      (∀ i q μ' σ',(escP x)[i]? = some q → J i μ' σ' → ∀ B',AT prog w Amb A B' env tgt (.tup [.int q.1,.str q.2]) μ' σ' (fun μ2 => WS prog w Amb A B' env μ2 σ' body (fun f μ3 σ3 => match f with
        | .next | .cont => J (i + 1) μ3 σ3
        | .brk => R .next μ3 σ3
        | .ret y => R (.ret y) μ3 σ3))) ∧ (∀ μ' σ',J (escP x).length μ' σ' → R .next μ' σ'))))
    (hs:∀ x:Value,foldedSetIterable (.Call f [arg] [] pc) env x = pure x:=by intro x; rfl)
    (he:eval (.Call f [arg] [] pc) env = (do callWith pc (← eval f env) [] ([arg].map fun e => (false,eval e env)) []):=by rfl):W1 prog w Amb A B env μ σ (.For tgt (.Call f [arg] [] pc) body [] p) R:=by
  intro P s S
  have hh:=hr.handled
  refine wpAny_For ?_ hs
  rw [he]
  refine wpAny_bind (wpAny_mono (h P s S) (fun v s1 qq => ?_) fun _ _ x => x.elim)
  obtain ⟨y,σ1,⟨F1,φ1,m1,ow1,S1⟩,ey,h1⟩:=qq
  subst ey
  obtain rfl:v = .ref a:=S1.top.inv
  refine callWith_plain (f:=.ref a) (first:=[]) (ts:=[eval arg env]) (ks:=[]) (.inr (.inr ⟨_,rfl⟩)) ?_
  refine Calls.spliced_cons (wpAny_mono (h1 P s1 ⟨F1,φ1,m1,ow1,S1.pop⟩) (fun v s2 qq => ?_) fun _ _ x => x.elim)
  obtain ⟨z,σ2,⟨F2,φ2,m2,ow2,S2⟩,x,ez,hasc,J,J0,Jt,Je⟩:=qq
  refine Calls.spliced_nil (wpAny_evalAll_nil ⟨fun b e => ?_,?_⟩)
  · cases e
    obtain ⟨o,ho,hd⟩:=Kf.has F2 S2.amb
    exact ⟨o,_,S2.sub _ _ ho,hd⟩
  subst ez
  obtain ⟨t,rfl⟩:=S2.top.str_inv
  refine gen_call H (hr.less (by lia)) Kf hsc hbind S2.pop fun s3 g gi envG oL og G => ?_
  refine wpAny_pyIter_gen G.gen ?_
  obtain ⟨F3,φ3,m3,ow3,S3⟩:=G.st
  obtain ⟨mG,nsG,hmG⟩:=G.ns
  have qL:=(S3.held envG.locals oL true (by simp)).1
  have qg:=(S3.held g og true (by simp)).1
  have above:∀ c,s3.heap.objs.size ≤ c → s3.heap.get? c = none:=fun c hc => by
    cases e:s3.heap.get? c with
    | none => rfl
    | some o => exact absurd (Heap.lt_size e) (Nat.not_lt.mpr hc)
  have hgW:g ∉ [envG.locals,s3.heap.objs.size + 1,s3.heap.objs.size]:=fun hm => by
    simp only [List.mem_cons,List.mem_nil_iff,or_false] at hm
    rcases hm with e | e | e
    · exact G.ne e.symm
    · rw [e,above _ (Nat.le_succ _)] at qg; cases qg
    · rw [e,above _ (Nat.le_refl _)] at qg; cases qg
  have FL:F3 envG.locals = none:=((S3.held envG.locals oL true (by simp)).2.2.2.2.2 rfl).1
  obtain ⟨og',nm,qn,e1,e2,e3,e4⟩:=G.gen
  rw [qg] at e1
  cases e1
  refine codeAny_forLoop_any (GInv prog w Amb A B env P [envG.locals,s3.heap.objs.size + 1,s3.heap.objs.size] (escP x) g gi og J)
    (fun k s4 hI => gen_turn (Rr:=fun r s' => match r with | .ok f => FlSt Amb B env P R f s' | .error e => cameBackBy (model prog w) A env (fun _ _ => False) e s') H (hr.less (by lia)) hgW G.cls ⟨nm,qn,e3,e4⟩ G.out (fun b hb o mi hm => ?_) Jt Je (fun f s' q hf => ?_) k hI) (escP x).length
    ⟨0,μ,σ2,[.held envG.locals oL true],_,by lia,J0,G.state,⟨rfl,?_⟩,fun b hb => ?_,F3,φ3,m3,ow3,S3⟩
  · simp only [List.mem_cons,List.mem_nil_iff,or_false] at hb
    have q:=(S3.held b o mi (List.mem_cons_of_mem _ (List.mem_cons_of_mem _ hm))).1
    rcases hb with rfl | rfl | rfl
    · exact G.notP o mi hm
    · rw [above _ (Nat.le_succ _)] at q; cases q
    · rw [above _ (Nat.le_refl _)] at q; cases q
  · rcases hf with ⟨v,rfl⟩ | rfl
    · exact q
    · exact q
  · exact gen_all (A:=A.in1) (s:=s3.setGen gi .running) H hen G.K G.scope G.func hh hasc nsG hmG (H.mono _ _ (fun a o h => Fz0_some.mpr ⟨(fun hm => by simp only [List.mem_singleton] at hm; subst hm; rw [FL] at h; cases h),S3.sub a o h⟩) S3.amb) (AllBare.setGen S3.gens rfl)
  · simp only [List.mem_cons,List.mem_nil_iff,or_false] at hb
    rcases hb with rfl | rfl | rfl
    · exact .inl ⟨oL,List.mem_cons_self ..⟩
    · exact .inr (above _ (Nat.le_succ _))
    · exact .inr (above _ (Nat.le_refl _))
theorem W1.forGenR {f arg tgt:PySem.Expr} {body:List Stmt} {p pc:Pos} {a:Addr} {fd:FuncData} {R:Fl → Mu → Sg → Prop} (H:AmbOk prog w Amb mg mb) (hen:mg "enumerate" = none ∧ mb "enumerate" = some (.type "enumerate")) (hr:Room A 2)
    (Kf:FnIs Amb a fd (fnBody 2)) (hsc:fd.scope = fnScope 2) (hbind:∀ v:Value,bindArgs fd ⟨[v],[]⟩ = pure [(("addr":Str),v)])
    (h:WE prog w Amb A B env μ σ f (fun y σ1 => y = .adr a ∧ WE prog w Amb A B env μ σ1 arg (fun z σ2 => ∃ x,z = .str x ∧ x.cps.all (· < 128) = true ∧ ∃ J:Nat → Mu → Sg → Prop,J 0 μ σ2 ∧
      (∀ (R':Fl → Mu → Sg → Prop) i q μ' σ',(∀ μ3 σ3,J (i + 1) μ3 σ3 → R' .next μ3 σ3) → (∀ y μ3 σ3,R (.ret y) μ3 σ3 → R' (.ret y) μ3 σ3) → (escP x)[i]? = some q → J i μ' σ' → ∀ B',AT prog w Amb A B' env tgt (.tup [.int q.1,.str q.2]) μ' σ' (fun μ2 => WS prog w Amb A B' env μ2 σ' body R')) ∧
      (∀ μ' σ',J (escP x).length μ' σ' → R .next μ' σ'))))
    (hs:∀ x:Value,foldedSetIterable (.Call f [arg] [] pc) env x = pure x:=by intro x; rfl)
    (he:eval (.Call f [arg] [] pc) env = (do callWith pc (← eval f env) [] ([arg].map fun e => (false,eval e env)) []):=by rfl):W1 prog w Amb A B env μ σ (.For tgt (.Call f [arg] [] pc) body [] p) R:=by
  refine W1.forGen H hen hr Kf hsc hbind (h.mono fun y σ1 qq => ?_) hs he
  obtain ⟨e,h1⟩:=qq
  refine ⟨e,h1.mono fun z σ2 qq => ?_⟩
  obtain ⟨x,ez,hx,J,J0,Jt,Je⟩:=qq
  exact ⟨x,ez,hx,J,J0,fun i q μ' σ' hi hj B' => Jt (fun f μ3 σ3 => match f with
        | .next | .cont => J (i + 1) μ3 σ3
        | .brk => R .next μ3 σ3
        | .ret y => R (.ret y) μ3 σ3) i q μ' σ' (fun _ _ h => h) (fun _ _ _ h => h) hi hj B',Je⟩
end
noncomputable def stripStep (x:Str) (st:Int × Option Int × List Str) (q:Int × Str):Int × Option Int × List Str :=
  if q.2 = "\"" then (match st.2.1 with
    | none => (st.1,some q.1,st.2.2)
    | some o => (q.1 + 1,none,if st.1 = o then st.2.2 else st.2.2 ++ [Txt.slice x (some st.1) (some o)])) else st
noncomputable def stripSt (x:Str) (i:Nat):Int × Option Int × List Str:=((escP x).take i).foldl (stripStep x) (0,none,[])
noncomputable def stripEnd (x:Str) (st:Int × Option Int × List Str):List Str:=if st.1 < (x.length:Int) then st.2.2 ++ [Txt.slice x (some st.1) none] else st.2.2
noncomputable def stripP (x:Str):Str:=if Txt.contains x "\"" then Txt.join "" (stripEnd x ((escP x).foldl (stripStep x) (0,none,[]))) else x
noncomputable def checkGo:List (Int × Str) → Int → Bool
  | [],o => o == 0
  | q :: r,o => if q.2 = "(" then checkGo r (o + 1) else if q.2 = ")" then (if o - 1 < 0 then false else checkGo r (o - 1)) else checkGo r o
noncomputable def checkP (x:Str):Bool:=checkGo (escP (stripP x)) 0
theorem escGo_len:∀ (cs:List Nat) (i:Nat) (esc:Bool) (pos:Int),(escGo cs i esc pos).length ≤ cs.length + (if esc then 1 else 0)
  | [],i,true,pos => by simp [escGo]
  | [],i,false,pos => by simp [escGo]
  | c :: r,i,true,pos => by
    have:=escGo_len r (i + 1) false i
    simp only [escGo,List.length_cons] at this ⊢
    simp at this ⊢; lia
  | c :: r,i,false,pos => by
    have h1:=escGo_len r (i + 1) false i
    have h2:=escGo_len r (i + 1) true i
    simp only [escGo]
    split
    · simp at h2 ⊢; lia
    · simp at h1 ⊢; lia
theorem escP_len (x:Str):(escP x).length ≤ x.cps.size:=by
  have:=escGo_len x.cps.toList 0 false 0
  simpa [escP] using this
structure StripOk (x:Str) (st:Int × Option Int × List Str) (i:Nat):Prop where
  len:st.2.2.length ≤ i
  small:∀ y ∈ st.2.2,y.length ≤ x.length
theorem strip_step {x:Str} {st:Int × Option Int × List Str} {i:Nat} (h:StripOk x st i) (q:Int × Str):StripOk x (stripStep x st q) (i + 1):=by
  unfold stripStep
  split
  · obtain ⟨a,o,l⟩:=st
    cases o with
    | none => exact ⟨Nat.le_succ_of_le h.len,h.small⟩
    | some o =>
      dsimp only
      split
      · exact ⟨Nat.le_succ_of_le h.len,h.small⟩
      · refine ⟨by have:=h.len; simp at this ⊢; lia,fun y hy => ?_⟩
        rcases List.mem_append.mp hy with hy | hy
        · exact h.small y hy
        · rw [List.mem_singleton] at hy
          subst hy
          exact Txt.slice_le x _ _
  · exact ⟨Nat.le_succ_of_le h.len,h.small⟩
theorem strip_ok (x:Str) (i:Nat) (hi:i ≤ (escP x).length):StripOk x (stripSt x i) i:=by
  induction i with
  | zero => exact ⟨Nat.le_refl _,fun y h => nomatch h⟩
  | succ i ih =>
    have hx:(escP x)[i]? = some (escP x)[i]:=List.getElem?_eq_getElem hi
    unfold stripSt
    rw [foldl_take_succ hx]
    exact strip_step (ih (by lia)) _
theorem sum_le (x:Nat):∀ l:List Str,(∀ y ∈ l,y.length ≤ x) → (l.map (·.length)).sum ≤ l.length * x
  | [],_ => by simp
  | y :: l,h => by
    have:=sum_le x l fun z hz => h z (List.mem_cons_of_mem _ hz)
    have h1:=h y (List.mem_cons_self ..)
    simp only [List.map_cons,List.sum_cons,List.length_cons,Nat.add_mul]
    lia
noncomputable def optV:Option Int → V
  | none => .none
  | some o => .int o
theorem strsAre_of {F:Fz} {φ:List Addr}:∀ {vs:List Value} {ys:List Str},RelL F φ vs (ys.map .str) → StrsAre vs ys
  | _,[],h => by cases h; exact .nil
  | _,y :: ys,h => by
    cases h with
    | cons r rs =>
      obtain ⟨t,rfl⟩:=Rel.str_inv r
      exact .cons _ _ (strsAre_of rs)
section
variable {prog:Program} {w:World} {Amb:Fz → Prop} {A:Around} {B:Base} {env env':Env} {μ μ':Mu} {σ σ':Sg} {mg mb:Str → Option Value} {at_:Str → Addr} {sc:Scope}
theorem WC.str_join {x:Str} {ys:List Str} {R:V → Sg → Prop} (hx:x.length ≤ 16) (hw:(ys.map (·.length)).sum + ys.length ≤ 1048576) (h:R (.str (Txt.join x ys)) σ):WC prog w Amb A B env μ σ (.builtin "str.join") [.str x,.list (ys.map .str)] R :=
  WC.two fun v u P s F φ m ow S r r' => by
    obtain ⟨t,rfl⟩:=Rel.str_inv r
    obtain ⟨l,us,n,rfl,hF,hL⟩:=r'.inv
    exact join_listW ⟨_,S.sub _ _ hF,rfl,_,rfl⟩ (strsAre_of hL) hx hw fun t' k => ⟨_,σ,⟨F,φ,m,ow,(S.grow (Grow.toks _)).add (.str _ _)⟩,h⟩
end
@[reducible] noncomputable def muP (x:Str) (S:Int × Option Int × List Str) (pos ch:Option LV):Mu:=[("addr",some (.v (.str x))),("start",some (.v (.int S.1))),("open_pos",some (.v (optV S.2.1))),("result",some (.own (S.2.2.map .str))),("pos",pos),("ch",ch)]
section
variable {prog:Program} {w:World} {Amb:Fz → Prop} {A:Around} {B:Base} {env env':Env} {μ μ':Mu} {σ σ':Sg} {mg mb:Str → Option Value} {at_:Str → Addr} {sc:Scope}
set_option maxRecDepth 10000 in
set_option maxHeartbeats 1000000 in
theorem strip_body (H:AmbOk prog w Amb mg mb) (T:TopOk mg mb at_) (hen:mg "enumerate" = none ∧ mb "enumerate" = some (.type "enumerate")) (K:EnvOk env) (hs:env.scope = fnScope 3) (hfn:env.func.isSome = true) (hr:Room A 2) (D:Def Amb (at_ "_iter_escaped_chars") 2 ["addr"])
    (x:Str) (hasc:x.cps.all (· < 128) = true) (hz:x.length ≤ 200) :
    WS prog w Amb A B env (mu0 ["addr"] [.str x] ["start","open_pos","result","pos","ch"]) σ (fnBody 3)
      (fun f μ' σ' => ∃ y,(f = .ret y ∨ (f = .next ∧ y = .none)) ∧ (y = .str (stripP x) ∧ σ' = σ)):=by
  with_reducible refine WS.ans fun R hR => ?_
  have hh:=hr.handled
  have hzz:sizeLine = 16777216:=by decide
  refine WS.cons ?_
  refine W1.if_ (WB.cmp' (WE.str (WE.nm K hs (by kernel_rfl) rfl (OpC.notIn_str ⟨_,.bool _,?_⟩))) (by rfl))
  by_cases hq:Txt.contains x "\"" = true
  · first | refine iteF (by simpa using hq) ?_ | rw [if_neg (by simpa using hq)]
    refine WS.nil ?_
    refine WS.cons (W1.assign K (stor_of hs hfn (by kernel_rfl)) (WE.int ?_) (by rfl))
    refine WS.cons (W1.assign K (stor_of hs hfn (by kernel_rfl)) (WE.none ?_) (by rfl))
    refine WS.cons (W1.assignEmpty K (by rw [kindOf_of hs]; kernel_rfl) ?_ (by rfl) (by rfl))
    refine WS.cons ?_
    obtain ⟨fd,Kf,hsc,hb⟩:=D.ex
    refine W1.forGenR H hen hr Kf hsc (fun v => hb [v] rfl) ?_ (by intro x; rfl) (by rfl)
    refine WE.gl H K hs (by kernel_rfl) (T.own _ (by decide +kernel)) (.adr _) ⟨rfl,?_⟩
    refine WE.nm K hs (by kernel_rfl) rfl ⟨x,rfl,hasc,fun i μ' τ => ∃ p c:Option LV,μ' = muP x (stripSt x i) p c ∧ τ = σ,?_,?_,?_⟩
    · exact ⟨_,_,rfl,rfl⟩
    · rintro R1 i q μ' σ' k1 _ hi ⟨p,c,rfl,rfl⟩ B'
      have hlt:i < (escP x).length:=(List.getElem?_eq_some_iff.mp hi).1
      have hst:stripSt x (i + 1) = stripStep x (stripSt x i) q:=by unfold stripSt; rw [foldl_take_succ hi]
      have hok:=strip_ok x i (Nat.le_of_lt hlt)
      have hle:=escP_len x
      have hxl:x.length = x.cps.size:=rfl
      generalize hS:stripSt x i = S at hst hok ⊢
      obtain ⟨st,op,res⟩:=S
      refine AT.pair hh ?_ (by rfl)
      refine AT.name K (stor_of hs hfn (by kernel_rfl)) ?_
      refine AT.name K (stor_of hs hfn (by kernel_rfl)) ?_
      refine WS.cons ?_
      repeat walk_at "we"
      refine ⟨_,.bool _,?_⟩
      by_cases hc:q.2 = "\""
      · first | refine iteT (by simpa using hc) ?_ | rw [if_pos (by simpa using hc)]
        unfold stripStep at hst
        rw [if_pos hc] at hst
        refine WS.cons ?_
        cases op with
        | none =>
          repeat walk_at "we"
          refine OpC.is_none (b:=true) .none ?_
          refine ⟨_,.bool _,?_⟩
          first | refine iteT rfl ?_ | rw [if_pos rfl]
          repeat walk_at "we"
          exact k1 _ _ ⟨_,_,by rw [hst]; rfl,rfl⟩
        | some o =>
          repeat walk_at "we"
          refine OpC.is_none (b:=false) (.int _) ?_
          refine ⟨_,.bool _,?_⟩
          first | refine iteF (by nofun) ?_ | rw [if_neg (by nofun)]
          refine WS.cons ?_
          repeat walk_at "we"
          refine OpC.ne_int (i:=st) (j:=o) ?_
          refine ⟨_,.bool _,?_⟩
          by_cases hne:st = o
          · first | refine iteF (by simpa using hne) ?_ | rw [if_neg (by simpa using hne)]
            dsimp only at hst
            rw [if_pos hne] at hst
            refine WS.nil ?_
            refine WS.cons ?_
            repeat walk_at "we"
            exact k1 _ _ ⟨some (.v (.int q.1)),some (.v (.str q.2)),by rw [hst]; rfl,rfl⟩
          · first | refine iteT (by simpa using hne) ?_ | rw [if_pos (by simpa using hne)]
            dsimp only at hst
            rw [if_neg hne] at hst
            refine WS.cons ?_
            refine W1.append K (by rw [kindOf_of hs]; kernel_rfl) rfl (by have:=hok.len; rw [List.length_map]; dsimp only at this ⊢; lia) (fun D' => ?_) (by rfl) (by rfl) (by rfl) (by rfl) (inter hs (by kernel_rfl))
            refine WE.sslice ?_ (by intro _ _; rfl)
            refine WE.nm K hs (by kernel_rfl) rfl ?_
            refine WPt.some (WE.nm K hs (by kernel_rfl) rfl ⟨_,rfl,?_⟩)
            refine WPt.some (WE.nm K hs (by kernel_rfl) rfl ⟨_,rfl,?_⟩)
            refine ⟨x,rfl,by lia,?_⟩
            refine WS.nil ?_
            refine WS.cons ?_
            repeat walk_at "we"
            exact k1 _ _ ⟨some (.v (.int q.1)),some (.v (.str q.2)),by rw [hst]; dsimp only; unfold muP; rw [List.map_append]; rfl,rfl⟩
      · first | refine iteF (by simpa using hc) ?_ | rw [if_neg (by simpa using hc)]
        unfold stripStep at hst
        rw [if_neg hc] at hst
        repeat walk_at "we"
        exact k1 _ _ ⟨_,_,by rw [hst]; rfl,rfl⟩
    · rintro μ' σ' ⟨p,c,rfl,rfl⟩
      have hok:=strip_ok x (escP x).length (Nat.le_refl _)
      have hle:=escP_len x
      have hxl:x.length = x.cps.size:=rfl
      have hP:stripP x = Txt.join "" (stripEnd x (stripSt x (escP x).length)):=by
        unfold stripP stripSt
        rw [if_pos hq,List.take_length]
      generalize stripSt x (escP x).length = S at hok hP ⊢
      obtain ⟨st,op,res⟩:=S
      have hsum:=sum_le x.length res hok.small
      have hlen:res.length ≤ 200:=by have:=hok.len; dsimp only at this; lia
      have hmul:res.length * x.length ≤ 200 * 200:=Nat.mul_le_mul hlen hz
      refine WS.cons ?_
      repeat walk_at "we"
      refine WC.len_str (by lia) ?_
      repeat walk_at "we"
      refine ⟨_,.bool _,?_⟩
      by_cases hlt:st < (x.length:Int)
      · first | refine iteT (by simpa using hlt) ?_ | rw [if_pos (by simpa using hlt)]
        have hE:stripEnd x (st,op,res) = res ++ [Txt.slice x (some st) none]:=if_pos hlt
        have hs1:=Txt.slice_le x (some st) none
        refine WS.cons ?_
        refine W1.append K (by rw [kindOf_of hs]; kernel_rfl) rfl (by rw [List.length_map]; dsimp only; lia) (fun D' => ?_) (by rfl) (by rfl) (by rfl) (by rfl) (inter hs (by kernel_rfl))
        refine WE.sslice ?_ (by intro _ _; rfl)
        refine WE.nm K hs (by kernel_rfl) rfl ?_
        refine WPt.some (WE.nm K hs (by kernel_rfl) rfl ⟨_,rfl,?_⟩)
        refine WPt.none ?_
        refine ⟨x,rfl,by lia,?_⟩
        refine WS.nil ?_
        dsimp only
        have q0:env.kindOf "result" = some .local:=by rw [kindOf_of hs]; kernel_rfl
        with_reducible refine WS.freeze (x:="result") (xs:=res.map V.str ++ [V.str (Txt.slice x (some st) none)]) H q0 (by kernel_rfl) ?_
        rw [show res.map V.str ++ [V.str (Txt.slice x (some st) none)] = (res ++ [Txt.slice x (some st) none]).map V.str by rw [List.map_append]; rfl]
        refine WS.cons ?_
        refine W1.ret ?_
        refine WE.meth ?_ (by rfl) (by rfl) (by rfl) (by rfl)
        repeat walk_at "we"
        refine ⟨_,meth_str PySem.F.slot_str_join PySem.F.type_str_join,?_⟩
        repeat walk_at "we"
        refine WC.str_join (by decide +kernel) (by simp only [List.map_append,List.sum_append,List.length_append,List.map_cons,List.map_nil,List.sum_cons,List.sum_nil,List.length_cons,List.length_nil]; lia) ?_
        exact hR _ _ (by rw [hP,hE])
      · first | refine iteF (by simpa using hlt) ?_ | rw [if_neg (by simpa using hlt)]
        have hE:stripEnd x (st,op,res) = res:=if_neg hlt
        refine WS.nil ?_
        dsimp only
        have q0:env.kindOf "result" = some .local:=by rw [kindOf_of hs]; kernel_rfl
        with_reducible refine WS.freeze (x:="result") (xs:=res.map V.str) H q0 (by kernel_rfl) ?_
        refine WS.cons ?_
        refine W1.ret ?_
        refine WE.meth ?_ (by rfl) (by rfl) (by rfl) (by rfl)
        repeat walk_at "we"
        refine ⟨_,meth_str PySem.F.slot_str_join PySem.F.type_str_join,?_⟩
        repeat walk_at "we"
        refine WC.str_join (by decide +kernel) (by lia) ?_
        exact hR _ _ (by rw [hP,hE])
  · first | refine iteT (by simpa using hq) ?_ | rw [if_pos (by simpa using hq)]
    repeat walk_at "we"
    refine hR _ _ ?_
    unfold stripP
    first | refine iteF hq ?_ | rw [if_neg hq]
end
section
variable {prog:Program} {w:World} {Amb:Fz → Prop} {A:Around} {B:Base} {env env':Env} {μ μ':Mu} {σ σ':Sg} {mg mb:Str → Option Value} {at_:Str → Addr} {sc:Scope}
theorem OpI.sub_int {i j:Int} {R:V → Sg → Prop} (h:R (.int (i - j)) σ):OpI prog w Amb A B env μ σ .Sub (.int i) (.int j) R:=by
  rintro a b P s ⟨F,φ,m,ow,S⟩
  obtain ⟨_,_,rfl,rfl⟩:=S.two_int
  exact PyProof.Rows.isub_int ⟨_,σ,⟨F,φ,m,ow,(S.pop2.grow (Grow.toks _)).add (.int _ _)⟩,h⟩
theorem strip_call (H:AmbOk prog w Amb mg mb) (T:TopOk mg mb at_) (hen:mg "enumerate" = none ∧ mb "enumerate" = some (.type "enumerate")) (D:Def Amb (at_ "_strip_quoted_realnames") 3 ["addr"]) (Dg:Def Amb (at_ "_iter_escaped_chars") 2 ["addr"]) (hr:Room A 3)
    (x:Str) (hasc:x.cps.all (· < 128) = true) (hz:x.length ≤ 200) {R:V → Sg → Prop} (h:R (.str (stripP x)) σ):WC prog w Amb A B env μ σ (.ref (at_ "_strip_quoted_realnames")) [.str x] R:=by
  refine WC.def_ (rest:=["start","open_pos","result","pos","ch"]) H D hr (by kernel_rfl) rfl (by decide +kernel) (by kernel_rfl) fun A' B' env' hr' K' hs' hf' => ?_
  have hb:=strip_body (B:=B') (σ:=σ) H T hen K' hs' hf' hr' Dg x hasc hz
  refine WS.mono hb ?_
  rintro f μ' τ ⟨y,h1,h2,h3⟩
  refine ⟨y,h1,?_⟩
  rw [h2,h3]
  exact h
theorem checkGo_step (q:Int × Str) (r:List (Int × Str)) (o:Int):checkGo (q :: r) o = if q.2 = "(" then checkGo r (o + 1) else if q.2 = ")" then (if o - 1 < 0 then false else checkGo r (o - 1)) else checkGo r o:=rfl
@[reducible] noncomputable def muB (z:Str) (o:Int) (pos ch:Option LV):Mu:=[("addr",some (.v (.str z))),("opens",some (.v (.int o))),("pos",pos),("ch",ch)]
theorem check_body (H:AmbOk prog w Amb mg mb) (T:TopOk mg mb at_) (hen:mg "enumerate" = none ∧ mb "enumerate" = some (.type "enumerate")) (K:EnvOk env) (hs:env.scope = fnScope 4) (hfn:env.func.isSome = true) (hr:Room A 3) (D:Def Amb (at_ "_strip_quoted_realnames") 3 ["addr"]) (Dg:Def Amb (at_ "_iter_escaped_chars") 2 ["addr"])
    (x:Str) (hasc:x.cps.all (· < 128) = true) (hz:x.length ≤ 200) (hasc':(stripP x).cps.all (· < 128) = true) :
    WS prog w Amb A B env (mu0 ["addr"] [.str x] ["opens","pos","ch"]) σ (fnBody 4)
      (fun f μ' σ' => ∃ y,(f = .ret y ∨ (f = .next ∧ y = .none)) ∧ (y = .bool (checkP x) ∧ σ' = σ)):=by
  with_reducible refine WS.ans fun R hR => ?_
  have hh:=hr.handled
  refine WS.cons ?_
  refine W1.assign K (stor_of hs hfn (by kernel_rfl)) ?_ (by rfl)
  refine WE.callb ?_ (by rfl)
  refine WE.gl H K hs (by kernel_rfl) (T.own _ (by decide +kernel)) (.adr _) ⟨_,.fn D.ex.choose_spec.1,?_⟩
  refine WAs.cons (WE.nm K hs (by kernel_rfl) rfl (WAs.nil ?_))
  refine strip_call H T hen D Dg hr x hasc hz ?_
  unfold checkP at hR
  generalize stripP x = z at hasc' hR ⊢
  refine WS.cons (W1.assign K (stor_of hs hfn (by kernel_rfl)) (WE.int ?_) (by rfl))
  refine WS.cons ?_
  obtain ⟨fd,Kf,hsc,hb⟩:=Dg.ex
  refine W1.forGenR H hen (hr.less (by lia)) Kf hsc (fun v => hb [v] rfl) ?_ (by intro x; rfl) (by rfl)
  refine WE.gl H K hs (by kernel_rfl) (T.own _ (by decide +kernel)) (.adr _) ⟨rfl,?_⟩
  refine WE.nm K hs (by kernel_rfl) rfl ⟨z,rfl,hasc',fun i μ' τ => ∃ (o:Int) (p c:Option LV),μ' = muB z o p c ∧ τ = σ ∧ checkGo (escP z) 0 = checkGo ((escP z).drop i) o,?_,?_,?_⟩
  · exact ⟨0,none,none,rfl,rfl,rfl⟩
  · rintro R1 i q μ' σ' k1 k2 hi ⟨o,p,c,rfl,rfl,he⟩ B'
    have hd:(escP z).drop i = q :: (escP z).drop (i + 1):=by
      rw [List.drop_eq_getElem_cons (List.getElem?_eq_some_iff.mp hi).1,(List.getElem?_eq_some_iff.mp hi).2]
    rw [hd,checkGo_step] at he
    refine AT.pair hh ?_ (by rfl)
    refine AT.name K (stor_of hs hfn (by kernel_rfl)) ?_
    refine AT.name K (stor_of hs hfn (by kernel_rfl)) ?_
    refine WS.cons ?_
    repeat walk_at "we"
    refine ⟨_,.bool _,?_⟩
    by_cases h1:q.2 = "("
    · first | refine iteT (by simpa using h1) ?_ | rw [if_pos (by simpa using h1)]
      rw [if_pos h1] at he
      repeat walk_at "we"
      exact k1 _ _ ⟨o + 1,some (.v (.int q.1)),some (.v (.str q.2)),rfl,rfl,he⟩
    · first | refine iteF (by simpa using h1) ?_ | rw [if_neg (by simpa using h1)]
      rw [if_neg h1] at he
      refine WS.cons ?_
      repeat walk_at "we"
      refine ⟨_,.bool _,?_⟩
      by_cases h2:q.2 = ")"
      · first | refine iteT (by simpa using h2) ?_ | rw [if_pos (by simpa using h2)]
        rw [if_pos h2] at he
        refine WS.cons ?_
        refine W1.aug K (stor_of hs hfn (by kernel_rfl)) rfl (WE.int (OpI.sub_int ?_)) (by kernel_rfl)
        refine WS.cons ?_
        repeat walk_at "we"
        refine ⟨_,.bool _,?_⟩
        by_cases h3:o - 1 < 0
        · first | refine iteT (by simpa using h3) ?_ | rw [if_pos (by simpa using h3)]
          rw [if_pos h3] at he
          repeat walk_at "we"
          exact k2 _ _ _ (hR _ _ (by rw [he]))
        · first | refine iteF (by simpa using h3) ?_ | rw [if_neg (by simpa using h3)]
          rw [if_neg h3] at he
          repeat walk_at "we"
          exact k1 _ _ ⟨o - 1,some (.v (.int q.1)),some (.v (.str q.2)),rfl,rfl,he⟩
      · first | refine iteF (by simpa using h2) ?_ | rw [if_neg (by simpa using h2)]
        rw [if_neg h2] at he
        repeat walk_at "we"
        exact k1 _ _ ⟨o,some (.v (.int q.1)),some (.v (.str q.2)),rfl,rfl,he⟩
  · rintro μ' σ' ⟨o,p,c,rfl,rfl,he⟩
    rw [List.drop_length] at he
    refine WS.cons ?_
    repeat walk_at "we"
    exact hR _ _ (by rw [he]; rfl)
theorem check_call (H:AmbOk prog w Amb mg mb) (T:TopOk mg mb at_) (hen:mg "enumerate" = none ∧ mb "enumerate" = some (.type "enumerate")) (Dc:Def Amb (at_ "_check_parenthesis") 4 ["addr"]) (D:Def Amb (at_ "_strip_quoted_realnames") 3 ["addr"]) (Dg:Def Amb (at_ "_iter_escaped_chars") 2 ["addr"]) (hr:Room A 4)
    (x:Str) (hasc:x.cps.all (· < 128) = true) (hz:x.length ≤ 200) (hasc':(stripP x).cps.all (· < 128) = true) {R:V → Sg → Prop} (h:R (.bool (checkP x)) σ):WC prog w Amb A B env μ σ (.ref (at_ "_check_parenthesis")) [.str x] R:=by
  refine WC.def_ (rest:=["opens","pos","ch"]) H Dc hr (by kernel_rfl) rfl (by decide +kernel) (by kernel_rfl) fun A' B' env' hr' K' hs' hf' => ?_
  have hb:=check_body (B:=B') (σ:=σ) H T hen K' hs' hf' hr' D Dg x hasc hz hasc'
  refine WS.mono hb ?_
  rintro f μ' τ ⟨y,h1,h2,h3⟩
  refine ⟨y,h1,?_⟩
  rw [h2,h3]
  exact h
end
section
set_option maxRecDepth 100000
noncomputable def clsBody:List Stmt:=match pw.main.body[(22:Nat)]? with | some (.ClassDef _ _ _ b _ _ _ _ _ _ _) => b | _ => []
noncomputable def fnBodyM (i:Nat):List Stmt:=match clsBody[i]? with | some (.FunctionDef _ _ b _ _ _ _ _ _ _) => b | _ => []
noncomputable def fnScopeM (i:Nat):Scope:=match clsBody[i]? with | some (.FunctionDef _ _ _ _ _ _ s _ _ _) => s | _ => default
noncomputable def fnParamsM (i:Nat):Arguments:=match clsBody[i]? with | some (.FunctionDef _ a _ _ _ _ _ _ _ _) => a | _ => default
noncomputable def hs (x:String) (t:Nat):Value:=.str (.ofString x) t
noncomputable def hd (P:Params) (x:String) (t:Nat) (v:Value):DictEntry:=⟨PyData.keyHash P (.ofString x),.str (.ofString x) t,v⟩
noncomputable def hf (n q:String) (a:Arguments) (b:List Stmt) (s:Scope) (g:Addr) (d k o m c:Value):FuncData:={ name:=.ofString n,qualname:=.ofString q,params:=a,body:=.stmts b,scope:=s,globals:=g,closure:=[],defaults:=d,kwdefaults:=k,doc:=o,pyModule:=m,code:=c }
noncomputable def hl (o:Obj):BT:=.node o .nil .nil
noncomputable def ho0 (P:Params):Obj:=⟨.type "dict",none,.dict #[hd P "__name__" 1 (hs "builtins" 160),hd P "__doc__" 2 (.builtin "builtins.__doc__:str#opaque"),hd P "__package__" 3 (.builtin "builtins.__package__:str#opaque"),hd P "__loader__" 4 (.builtin "builtins.__loader__:shared#opaque"),hd P "__spec__" 5 (.builtin "builtins.__spec__#opaque"),hd P "__build_class__" 6 (.builtin "__build_class__"),hd P "__import__" 7 (.builtin "__import__"),hd P "abs" 8 (.builtin "abs"),hd P "all" 9 (.builtin "all"),hd P "any" 10 (.builtin "any"),hd P "ascii" 11 (.builtin "ascii"),hd P "bin" 12 (.builtin "bin"),hd P "breakpoint" 13 (.builtin "breakpoint"),hd P "callable" 14 (.builtin "callable"),hd P "chr" 15 (.builtin "chr"),hd P "compile" 16 (.builtin "compile"),hd P "delattr" 17 (.builtin "delattr"),hd P "dir" 18 (.builtin "dir"),hd P "divmod" 19 (.builtin "divmod"),hd P "eval" 20 (.builtin "eval"),hd P "exec" 21 (.builtin "exec"),hd P "format" 22 (.builtin "format"),hd P "getattr" 23 (.builtin "getattr"),hd P "globals" 24 (.builtin "globals"),hd P "hasattr" 25 (.builtin "hasattr"),hd P "hash" 26 (.builtin "hash"),hd P "hex" 27 (.builtin "hex"),hd P "id" 28 (.builtin "id"),hd P "input" 29 (.builtin "input"),hd P "isinstance" 30 (.builtin "isinstance"),hd P "issubclass" 31 (.builtin "issubclass"),hd P "iter" 32 (.builtin "iter"),hd P "aiter" 33 (.builtin "aiter"),hd P "len" 34 (.builtin "len"),hd P "locals" 35 (.builtin "locals"),hd P "max" 36 (.builtin "max"),hd P "min" 37 (.builtin "min"),hd P "next" 38 (.builtin "next"),hd P "anext" 39 (.builtin "anext"),hd P "oct" 40 (.builtin "oct"),hd P "ord" 41 (.builtin "ord"),hd P "pow" 42 (.builtin "pow"),hd P "print" 43 (.builtin "print"),hd P "repr" 44 (.builtin "repr"),hd P "round" 45 (.builtin "round"),hd P "setattr" 46 (.builtin "setattr"),hd P "sorted" 47 (.builtin "sorted"),hd P "sum" 48 (.builtin "sum"),hd P "vars" 49 (.builtin "vars"),hd P "None" 50 .none,hd P "Ellipsis" 51 .ellipsis,hd P "NotImplemented" 52 .notImplemented,hd P "False" 53 (.bool false),hd P "True" 54 (.bool true),hd P "bool" 55 (.type "bool"),hd P "memoryview" 56 (.type "memoryview"),hd P "bytearray" 57 (.type "bytearray"),hd P "bytes" 58 (.type "bytes"),hd P "classmethod" 59 (.type "classmethod"),hd P "complex" 60 (.type "complex"),hd P "dict" 61 (.type "dict"),hd P "enumerate" 62 (.type "enumerate"),hd P "filter" 63 (.type "filter"),hd P "float" 64 (.type "float"),hd P "frozenset" 65 (.type "frozenset"),hd P "property" 66 (.type "property"),hd P "int" 67 (.type "int"),hd P "list" 68 (.type "list"),hd P "map" 69 (.type "map"),hd P "object" 70 (.type "object"),hd P "range" 71 (.type "range"),hd P "reversed" 72 (.type "reversed"),hd P "set" 73 (.type "set"),hd P "slice" 74 (.type "slice"),hd P "staticmethod" 75 (.type "staticmethod"),hd P "str" 76 (.type "str"),hd P "super" 77 (.type "super"),hd P "tuple" 78 (.type "tuple"),hd P "type" 79 (.type "type"),hd P "zip" 80 (.type "zip"),hd P "__debug__" 81 (.bool true),hd P "BaseException" 82 (.type "BaseException"),hd P "BaseExceptionGroup" 83 (.type "BaseExceptionGroup"),hd P "Exception" 84 (.type "Exception"),hd P "GeneratorExit" 85 (.type "GeneratorExit"),hd P "KeyboardInterrupt" 86 (.type "KeyboardInterrupt"),hd P "SystemExit" 87 (.type "SystemExit"),hd P "ArithmeticError" 88 (.type "ArithmeticError"),hd P "AssertionError" 89 (.type "AssertionError"),hd P "AttributeError" 90 (.type "AttributeError"),hd P "BufferError" 91 (.type "BufferError"),hd P "EOFError" 92 (.type "EOFError"),hd P "ImportError" 93 (.type "ImportError"),hd P "LookupError" 94 (.type "LookupError"),hd P "MemoryError" 95 (.type "MemoryError"),hd P "NameError" 96 (.type "NameError"),hd P "OSError" 97 (.type "OSError"),hd P "ReferenceError" 98 (.type "ReferenceError"),hd P "RuntimeError" 99 (.type "RuntimeError"),hd P "StopAsyncIteration" 100 (.type "StopAsyncIteration"),hd P "StopIteration" 101 (.type "StopIteration"),hd P "SyntaxError" 102 (.type "SyntaxError"),hd P "SystemError" 103 (.type "SystemError"),hd P "TypeError" 104 (.type "TypeError"),hd P "ValueError" 105 (.type "ValueError"),hd P "Warning" 106 (.type "Warning"),hd P "FloatingPointError" 107 (.type "FloatingPointError"),hd P "OverflowError" 108 (.type "OverflowError"),hd P "ZeroDivisionError" 109 (.type "ZeroDivisionError"),hd P "BytesWarning" 110 (.type "BytesWarning"),hd P "DeprecationWarning" 111 (.type "DeprecationWarning"),hd P "EncodingWarning" 112 (.type "EncodingWarning"),hd P "FutureWarning" 113 (.type "FutureWarning"),hd P "ImportWarning" 114 (.type "ImportWarning"),hd P "PendingDeprecationWarning" 115 (.type "PendingDeprecationWarning"),hd P "ResourceWarning" 116 (.type "ResourceWarning"),hd P "RuntimeWarning" 117 (.type "RuntimeWarning"),hd P "SyntaxWarning" 118 (.type "SyntaxWarning"),hd P "UnicodeWarning" 119 (.type "UnicodeWarning"),hd P "UserWarning" 120 (.type "UserWarning"),hd P "BlockingIOError" 121 (.type "BlockingIOError"),hd P "ChildProcessError" 122 (.type "ChildProcessError"),hd P "ConnectionError" 123 (.type "ConnectionError"),hd P "FileExistsError" 124 (.type "FileExistsError"),hd P "FileNotFoundError" 125 (.type "FileNotFoundError"),hd P "InterruptedError" 126 (.type "InterruptedError"),hd P "IsADirectoryError" 127 (.type "IsADirectoryError"),hd P "NotADirectoryError" 128 (.type "NotADirectoryError"),hd P "PermissionError" 129 (.type "PermissionError"),hd P "ProcessLookupError" 130 (.type "ProcessLookupError"),hd P "TimeoutError" 131 (.type "TimeoutError"),hd P "IndentationError" 132 (.type "IndentationError"),hd P "_IncompleteInputError" 133 (.type "_IncompleteInputError"),hd P "IndexError" 134 (.type "IndexError"),hd P "KeyError" 135 (.type "KeyError"),hd P "ModuleNotFoundError" 136 (.type "ModuleNotFoundError"),hd P "NotImplementedError" 137 (.type "NotImplementedError"),hd P "PythonFinalizationError" 138 (.type "PythonFinalizationError"),hd P "RecursionError" 139 (.type "RecursionError"),hd P "UnboundLocalError" 140 (.type "UnboundLocalError"),hd P "UnicodeError" 141 (.type "UnicodeError"),hd P "BrokenPipeError" 142 (.type "BrokenPipeError"),hd P "ConnectionAbortedError" 143 (.type "ConnectionAbortedError"),hd P "ConnectionRefusedError" 144 (.type "ConnectionRefusedError"),hd P "ConnectionResetError" 145 (.type "ConnectionResetError"),hd P "TabError" 146 (.type "TabError"),hd P "UnicodeDecodeError" 147 (.type "UnicodeDecodeError"),hd P "UnicodeEncodeError" 148 (.type "UnicodeEncodeError"),hd P "UnicodeTranslateError" 149 (.type "UnicodeTranslateError"),hd P "ExceptionGroup" 150 (.type "ExceptionGroup"),hd P "EnvironmentError" 151 (.type "OSError"),hd P "IOError" 152 (.type "OSError"),hd P "open" 153 (.builtin "open"),hd P "quit" 154 (.builtin "builtins.quit#opaque"),hd P "exit" 155 (.builtin "builtins.exit#opaque"),hd P "copyright" 156 (.builtin "builtins.copyright#opaque"),hd P "credits" 157 (.builtin "builtins.credits#opaque"),hd P "license" 158 (.builtin "builtins.license#opaque"),hd P "help" 159 (.builtin "builtins.help#opaque")] 159,#[]⟩
noncomputable def ho1 (P:Params):Obj:=⟨.type "dict",none,.dict #[hd P "builtins" 162 (.ref 4),hd P "__main__" 163 (.ref 5),hd P "_sre" 244 (.ref 12)] 3,#[]⟩
noncomputable def ho2 (P:Params):Obj:=⟨.none,none,.dict #[hd P "im\x70ort.loaded._sre" 183 (.bool true),hd P "class._frozen_importlib.BuiltinImporter" 185 (.ref 14),hd P "watched.im\x70ort" 206 (.ref 18),hd P "class._frozen_importlib.ModuleSpec" 216 (.ref 22),hd P "sys.modules.booked-epoch" 245 (.int 3 0),hd P "im\x70ort.later-laid._sre" 270 (.bool true),hd P "watched.library" 272 (.ref 27),hd P "watched.library-objects" 0 (.str ⟨#[12]⟩ 0),hd P "watched.library-deep._sre" 273 (.str ⟨#[4,0,0,11,4,0,0,11,4,0,0,3,4,0,0,11,8,4,100,105,99,116,2]⟩ 0)] 9,#[]⟩
noncomputable def ho3 (P:Params):Obj:=⟨.type "dict",none,.dict #[hd P "__name__" 165 (hs "__main__" 164),hd P "__doc__" 166 .none,hd P "__package__" 167 .none,hd P "__loader__" 168 (.builtin "__main__.__loader__#opaque"),hd P "__spec__" 169 .none,hd P "__annotations__" 170 (.ref 6),hd P "__builtins__" 171 (.ref 4),hd P "__file__" 173 (hs "/claim/cut.py" 172),hd P "__cached__" 174 .none,hd P "_sre" 275 (.ref 12)] 10,#[]⟩
noncomputable def ho4:Obj:=⟨.type "module",(some 0),.plain,#[]⟩
noncomputable def ho5:Obj:=⟨.type "module",(some 3),.plain,#[]⟩
noncomputable def ho6:Obj:=⟨.type "dict",none,.dict #[] 0,#[]⟩
noncomputable def ho7:Obj:=⟨.type "tuple",none,.seq #[] 0,#[]⟩
noncomputable def ho8:Obj:=⟨.none,none,.fields #[],#[]⟩
noncomputable def ho9:Obj:=⟨.type "code",none,.fields #[hs "<module>" 176,hs "<module>" 177,hs "/claim/cut.py" 178,.int 1 0,.int 0 0,.int 0 0,.int 0 0,.int 0 0,.ref 7,.bool false,.int 175 0,.ref 8,.none,.none,.none,.none,.int 179 0,.int 1 0,hs "/claim/cut.py" 180],#[]⟩
noncomputable def ho10:Obj:=⟨.type "frame",none,.plain,#[some (.ref 9),some (.ref 3),some (.ref 3),none,some (hs "__main__" 164),none,some (.ref 0)]⟩
noncomputable def ho11 (P:Params):Obj:=⟨.type "dict",none,.dict #[hd P "__name__" 247 (hs "_sre" 246),hd P "__doc__" 248 .none,hd P "__package__" 250 (hs "" 249),hd P "__loader__" 251 (.ref 14),hd P "__spec__" 252 (.ref 26),hd P "compile" 253 (.builtin "_sre.compile"),hd P "template" 254 (.builtin "_sre.template"),hd P "getcodesize" 255 (.builtin "_sre.getcodesize"),hd P "ascii_iscased" 256 (.builtin "_sre.ascii_iscased"),hd P "unicode_iscased" 257 (.builtin "_sre.unicode_iscased"),hd P "ascii_tolower" 258 (.builtin "_sre.ascii_tolower"),hd P "unicode_tolower" 259 (.builtin "_sre.unicode_tolower"),hd P "MAGIC" 261 (.int 20230612 260),hd P "CODESIZE" 263 (.int 4 262),hd P "MAXREPEAT" 265 (.int 4294967295 264),hd P "MAXGROUPS" 267 (.int 1073741823 266),hd P "copyright" 269 (hs " SRE 2.2.2 Copyright (c) 1997-2002 by Secret Labs AB " 268)] 17,#[]⟩
noncomputable def ho12:Obj:=⟨.type "module",(some 11),.plain,#[]⟩
noncomputable def ho13 (P:Params):Obj:=⟨.type "dict",none,.dict #[hd P "__module__" 189 (hs "_frozen_importlib" 186),hd P "__firstlineno__" 190 (.int 971 187),hd P "__doc__" 191 (.builtin "_frozen_importlib.BuiltinImporter.__doc__:str#opaque"),hd P "_ORIGIN" 192 (hs "built-in" 188),hd P "find_spec" 193 (.builtin "_frozen_importlib.BuiltinImporter.find_spec#opaque"),hd P "create_module" 194 (.builtin "_frozen_importlib.BuiltinImporter.create_module#opaque"),hd P "exec_module" 195 (.builtin "_frozen_importlib.BuiltinImporter.exec_module#opaque"),hd P "get_code" 196 (.builtin "_frozen_importlib.BuiltinImporter.get_code#opaque"),hd P "get_source" 197 (.builtin "_frozen_importlib.BuiltinImporter.get_source#opaque"),hd P "is_package" 198 (.builtin "_frozen_importlib.BuiltinImporter.is_package#opaque"),hd P "load_module" 199 (.builtin "_frozen_importlib.BuiltinImporter.load_module#opaque"),hd P "__static_attributes__" 200 (.ref 15),hd P "__dict__" 202 (.ref 16),hd P "__weakref__" 204 (.ref 17)] 14,#[]⟩
noncomputable def ho14:Obj:=⟨.type "type",none,.cls { name:=(.ofString "BuiltinImporter"),bases:=[.type "object"],mro:=[.ref 14,.type "object"],ns:=13,qualname:=(.ofString "BuiltinImporter"),hasDict:=true,slotNames:=[] },#[]⟩
noncomputable def ho15:Obj:=⟨.type "tuple",none,.seq #[] 0,#[]⟩
noncomputable def ho16:Obj:=⟨.type "getset_descriptor",none,.fields #[hs "__dict__" 201,.ref 14,.builtin "function.__dict__",.builtin "function.__dict__#set"],#[]⟩
noncomputable def ho17:Obj:=⟨.type "getset_descriptor",none,.fields #[hs "__weakref__" 203,.ref 14,.builtin "ExceptionGroup.__weakref__",.none],#[]⟩
noncomputable def ho18:Obj:=⟨.none,none,.seq #[.int 13 0,.str ⟨#[6,189,10,95,95,109,111,100,117,108,101,95,95,6,186,17,95,102,114,111,122,101,110,95,105,109,112,111,114,116,108,105,98,6,190,15,95,95,102,105,114,115,116,108,105,110,101,110,111,95,95,4,187,0,971,6,191,7,95,95,100,111,99,95,95,9,52,95,102,114,111,122,101,110,95,105,109,112,111,114,116,108,105,98,46,66,117,105,108,116,105,110,73,109,112,111,114,116,101,114,46,95,95,100,111,99,95,95,58,115,116,114,35,111,112,97,113,117,101,6,192,7,95,79,82,73,71,73,78,6,188,8,98,117,105,108,116,45,105,110,6,193,9,102,105,110,100,95,115,112,101,99,9,50,95,102,114,111,122,101,110,95,105,109,112,111,114,116,108,105,98,46,66,117,105,108,116,105,110,73,109,112,111,114,116,101,114,46,102,105,110,100,95,115,112,101,99,35,111,112,97,113,117,101,6,194,13,99,114,101,97,116,101,95,109,111,100,117,108,101,9,54,95,102,114,111,122,101,110,95,105,109,112,111,114,116,108,105,98,46,66,117,105,108,116,105,110,73,109,112,111,114,116,101,114,46,99,114,101,97,116,101,95,109,111,100,117,108,101,35,111,112,97,113,117,101,6,195,11,101,120,101,99,95,109,111,100,117,108,101,9,52,95,102,114,111,122,101,110,95,105,109,112,111,114,116,108,105,98,46,66,117,105,108,116,105,110,73,109,112,111,114,116,101,114,46,101,120,101,99,95,109,111,100,117,108,101,35,111,112,97,113,117,101,6,196,8,103,101,116,95,99,111,100,101,9,49,95,102,114,111,122,101,110,95,105,109,112,111,114,116,108,105,98,46,66,117,105,108,116,105,110,73,109,112,111,114,116,101,114,46,103,101,116,95,99,111,100,101,35,111,112,97,113,117,101,6,197,10,103,101,116,95,115,111,117,114,99,101,9,51,95,102,114,111,122,101,110,95,105,109,112,111,114,116,108,105,98,46,66,117,105,108,116,105,110,73,109,112,111,114,116,101,114,46,103,101,116,95,115,111,117,114,99,101,35,111,112,97,113,117,101,6,198,10,105,115,95,112,97,99,107,97,103,101,9,51,95,102,114,111,122,101,110,95,105,109,112,111,114,116,108,105,98,46,66,117,105,108,116,105,110,73,109,112,111,114,116,101,114,46,105,115,95,112,97,99,107,97,103,101,35,111,112,97,113,117,101,6,199,11,108,111,97,100,95,109,111,100,117,108,101,9,52,95,102,114,111,122,101,110,95,105,109,112,111,114,116,108,105,98,46,66,117,105,108,116,105,110,73,109,112,111,114,116,101,114,46,108,111,97,100,95,109,111,100,117,108,101,35,111,112,97,113,117,101,6,200,21,95,95,115,116,97,116,105,99,95,97,116,116,114,105,98,117,116,101,115,95,95,4,0,0,15,6,202,8,95,95,100,105,99,116,95,95,4,0,0,16,6,204,11,95,95,119,101,97,107,114,101,102,95,95,4,0,0,17]⟩ 0,.bool true,.bool true,hs "" 205,.int 21 0,.str ⟨#[6,227,10,95,95,109,111,100,117,108,101,95,95,6,217,17,95,102,114,111,122,101,110,95,105,109,112,111,114,116,108,105,98,6,228,15,95,95,102,105,114,115,116,108,105,110,101,110,111,95,95,4,218,0,562,6,229,7,95,95,100,111,99,95,95,9,47,95,102,114,111,122,101,110,95,105,109,112,111,114,116,108,105,98,46,77,111,100,117,108,101,83,112,101,99,46,95,95,100,111,99,95,95,58,115,116,114,35,111,112,97,113,117,101,6,230,8,95,95,105,110,105,116,95,95,9,44,95,102,114,111,122,101,110,95,105,109,112,111,114,116,108,105,98,46,77,111,100,117,108,101,83,112,101,99,46,95,95,105,110,105,116,95,95,35,111,112,97,113,117,101,6,231,8,95,95,114,101,112,114,95,95,9,44,95,102,114,111,122,101,110,95,105,109,112,111,114,116,108,105,98,46,77,111,100,117,108,101,83,112,101,99,46,95,95,114,101,112,114,95,95,35,111,112,97,113,117,101,6,232,6,95,95,101,113,95,95,9,42,95,102,114,111,122,101,110,95,105,109,112,111,114,116,108,105,98,46,77,111,100,117,108,101,83,112,101,99,46,95,95,101,113,95,95,35,111,112,97,113,117,101,6,233,6,99,97,99,104,101,100,9,42,95,102,114,111,122,101,110,95,105,109,112,111,114,116,108,105,98,46,77,111,100,117,108,101,83,112,101,99,46,99,97,99,104,101,100,35,111,112,97,113,117,101,6,234,6,112,97,114,101,110,116,9,42,95,102,114,111,122,101,110,95,105,109,112,111,114,116,108,105,98,46,77,111,100,117,108,101,83,112,101,99,46,112,97,114,101,110,116,35,111,112,97,113,117,101,6,235,12,104,97,115,95,108,111,99,97,116,105,111,110,9,48,95,102,114,111,122,101,110,95,105,109,112,111,114,116,108,105,98,46,77,111,100,117,108,101,83,112,101,99,46,104,97,115,95,108,111,99,97,116,105,111,110,35,111,112,97,113,117,101,6,236,21,95,95,115,116,97,116,105,99,95,97,116,116,114,105,98,117,116,101,115,95,95,4,0,0,23,6,238,8,95,95,100,105,99,116,95,95,4,0,0,24,6,240,11,95,95,119,101,97,107,114,101,102,95,95,4,0,0,25,6,241,8,95,95,104,97,115,104,95,95,0]⟩ 0,.bool true,.bool true,hs "" 242] 1,#[]⟩
noncomputable def ho19:Obj:=⟨.type "list",none,.seq #[] 0,#[]⟩
noncomputable def ho20 (P:Params):Obj:=⟨.type "dict",none,.dict #[hd P "name" 208 (hs "_sre" 207),hd P "loader" 209 (.ref 14),hd P "origin" 210 (hs "built-in" 184),hd P "loader_state" 211 .none,hd P "submodule_search_locations" 212 .none,hd P "_uninitialized_submodules" 213 (.ref 19),hd P "_set_fileattr" 214 (.bool false),hd P "_cached" 215 .none,hd P "_initializing" 243 (.bool false)] 9,#[]⟩
noncomputable def ho21 (P:Params):Obj:=⟨.type "dict",none,.dict #[hd P "__module__" 227 (hs "_frozen_importlib" 217),hd P "__firstlineno__" 228 (.int 562 218),hd P "__doc__" 229 (.builtin "_frozen_importlib.ModuleSpec.__doc__:str#opaque"),hd P "__init__" 230 (.builtin "_frozen_importlib.ModuleSpec.__init__#opaque"),hd P "__repr__" 231 (.builtin "_frozen_importlib.ModuleSpec.__repr__#opaque"),hd P "__eq__" 232 (.builtin "_frozen_importlib.ModuleSpec.__eq__#opaque"),hd P "cached" 233 (.builtin "_frozen_importlib.ModuleSpec.cached#opaque"),hd P "parent" 234 (.builtin "_frozen_importlib.ModuleSpec.parent#opaque"),hd P "has_location" 235 (.builtin "_frozen_importlib.ModuleSpec.has_location#opaque"),hd P "__static_attributes__" 236 (.ref 23),hd P "__dict__" 238 (.ref 24),hd P "__weakref__" 240 (.ref 25),hd P "__hash__" 241 .none] 13,#[]⟩
noncomputable def ho22:Obj:=⟨.type "type",none,.cls { name:=(.ofString "ModuleSpec"),bases:=[.type "object"],mro:=[.ref 22,.type "object"],ns:=21,qualname:=(.ofString "ModuleSpec"),hasDict:=true,slotNames:=[] },#[]⟩
noncomputable def ho23:Obj:=⟨.type "tuple",none,.seq #[hs "_cached" 219,hs "_set_fileattr" 220,hs "_uninitialized_submodules" 221,hs "loader" 222,hs "loader_state" 223,hs "name" 224,hs "origin" 225,hs "submodule_search_locations" 226] 0,#[]⟩
noncomputable def ho24:Obj:=⟨.type "getset_descriptor",none,.fields #[hs "__dict__" 237,.ref 22,.builtin "function.__dict__",.builtin "function.__dict__#set"],#[]⟩
noncomputable def ho25:Obj:=⟨.type "getset_descriptor",none,.fields #[hs "__weakref__" 239,.ref 22,.builtin "ExceptionGroup.__weakref__",.none],#[]⟩
noncomputable def ho26:Obj:=⟨.ref 22,(some 20),.plain,#[]⟩
noncomputable def ho27:Obj:=⟨.none,none,.seq #[.int 11 0,.str ⟨#[6,247,8,95,95,110,97,109,101,95,95,6,246,4,95,115,114,101,6,248,7,95,95,100,111,99,95,95,0,6,250,11,95,95,112,97,99,107,97,103,101,95,95,6,249,0,6,251,10,95,95,108,111,97,100,101,114,95,95,4,0,0,14,6,252,8,95,95,115,112,101,99,95,95,4,0,0,26,6,253,7,99,111,109,112,105,108,101,9,12,95,115,114,101,46,99,111,109,112,105,108,101,6,254,8,116,101,109,112,108,97,116,101,9,13,95,115,114,101,46,116,101,109,112,108,97,116,101,6,255,11,103,101,116,99,111,100,101,115,105,122,101,9,16,95,115,114,101,46,103,101,116,99,111,100,101,115,105,122,101,6,256,13,97,115,99,105,105,95,105,115,99,97,115,101,100,9,18,95,115,114,101,46,97,115,99,105,105,95,105,115,99,97,115,101,100,6,257,15,117,110,105,99,111,100,101,95,105,115,99,97,115,101,100,9,20,95,115,114,101,46,117,110,105,99,111,100,101,95,105,115,99,97,115,101,100,6,258,13,97,115,99,105,105,95,116,111,108,111,119,101,114,9,18,95,115,114,101,46,97,115,99,105,105,95,116,111,108,111,119,101,114,6,259,15,117,110,105,99,111,100,101,95,116,111,108,111,119,101,114,9,20,95,115,114,101,46,117,110,105,99,111,100,101,95,116,111,108,111,119,101,114,6,261,5,77,65,71,73,67,4,260,0,20230612,6,263,8,67,79,68,69,83,73,90,69,4,262,0,4,6,265,9,77,65,88,82,69,80,69,65,84,4,264,0,4294967295,6,267,9,77,65,88,71,82,79,85,80,83,4,266,0,1073741823,6,269,9,99,111,112,121,114,105,103,104,116,6,268,53,32,83,82,69,32,50,46,50,46,50,32,67,111,112,121,114,105,103,104,116,32,40,99,41,32,49,57,57,55,45,50,48,48,50,32,98,121,32,83,101,99,114,101,116,32,76,97,98,115,32,65,66,32]⟩ 0,.bool true,.bool false,hs "_sre" 271] 0,#[]⟩
noncomputable def ht0 (P:Params):BT:=(.node (ho3 P) (.node ho7 (hl ho15) (hl ho23)) (.node (ho11 P) (hl ho19) (hl ho27)))
noncomputable def ht1 (P:Params):BT:=(.node ho5 (.node ho9 (hl ho17) (hl ho25)) (.node (ho13 P) (hl (ho21 P)) .nil))
noncomputable def ht2 (P:Params):BT:=(.node (ho1 P) (ht0 P) (ht1 P))
noncomputable def ht3 (P:Params):BT:=(.node ho4 (.node ho8 (hl ho16) (hl ho24)) (.node ho12 (hl (ho20 P)) .nil))
noncomputable def ht4:BT:=(.node ho6 (.node ho10 (hl ho18) (hl ho26)) (.node ho14 (hl ho22) .nil))
noncomputable def ht5 (P:Params):BT:=(.node (ho2 P) (ht3 P) ht4)
noncomputable def ht6 (P:Params):BT:=(.node (ho0 P) (ht2 P) (ht5 P))
noncomputable def ho28 (P:Params):Obj:=⟨.type "dict",none,.dict #[hd P "__name__" 247 (hs "_sre" 246),hd P "__doc__" 248 .none,hd P "__package__" 250 (hs "" 249),hd P "__loader__" 251 (.builtin "off-the-table:_sre.__loader__:shared#opaque"),hd P "__spec__" 252 (.builtin "off-the-table:_sre.__spec__:shared#opaque"),hd P "compile" 253 (.builtin "_sre.compile"),hd P "template" 254 (.builtin "off-the-table:_sre.template:shared#opaque"),hd P "getcodesize" 255 (.builtin "off-the-table:_sre.getcodesize:shared#opaque"),hd P "ascii_iscased" 256 (.builtin "off-the-table:_sre.ascii_iscased:shared#opaque"),hd P "unicode_iscased" 257 (.builtin "off-the-table:_sre.unicode_iscased:shared#opaque"),hd P "ascii_tolower" 258 (.builtin "off-the-table:_sre.ascii_tolower:shared#opaque"),hd P "unicode_tolower" 259 (.builtin "off-the-table:_sre.unicode_tolower:shared#opaque"),hd P "MAGIC" 261 (.int 20230612 260),hd P "CODESIZE" 263 (.int 4 262),hd P "MAXREPEAT" 265 (.int 4294967295 264),hd P "MAXGROUPS" 267 (.int 1073741823 266),hd P "copyright" 269 (hs " SRE 2.2.2 Copyright (c) 1997-2002 by Secret Labs AB " 268)] 17,#[]⟩
noncomputable def ht7 (P:Params):BT:=(.node (ho3 P) (.node ho7 (hl ho15) (hl ho23)) (.node (ho28 P) (hl ho19) (hl ho27)))
noncomputable def ht8 (P:Params):BT:=(.node (ho1 P) (ht7 P) (ht1 P))
noncomputable def ht9 (P:Params):BT:=(.node (ho0 P) (ht8 P) (ht5 P))
noncomputable def tE (P:Params) (b:Bool):BT:=(ht6 P)
noncomputable def tS (P:Params) (b:Bool):BT:=(ht9 P)
noncomputable def ho29:Obj:=⟨.type "tuple",none,.seq #[] 0,#[]⟩
noncomputable def ho30:Obj:=⟨.none,none,.fields #[],#[]⟩
noncomputable def ho31:Obj:=⟨.type "code",none,.fields #[hs "<module>" 277,hs "<module>" 278,hs "/claim/cut.py" 279,.int 1 0,.int 0 0,.int 0 0,.int 0 0,.int 0 0,.ref 28,.bool false,.int 276 0,.ref 29,.none,.none,.none,.none,.int 280 0,.int 1 0,hs "/claim/cut.py" 281],#[]⟩
noncomputable def ho32:Obj:=⟨.type "frame",none,.plain,#[some (.ref 30),some (.ref 3),some (.ref 3),none,some (hs "__main__" 164),none,some (.ref 0)]⟩
noncomputable def ht10 (P:Params):BT:=(.node (ho3 P) (.node ho7 (.node ho15 (hl ho32) .nil) (hl ho23)) (.node (ho28 P) (hl ho19) (hl ho27)))
noncomputable def ht11 (P:Params):BT:=(.node ho5 (.node ho9 (hl ho17) (hl ho25)) (.node (ho13 P) (hl (ho21 P)) (hl ho30)))
noncomputable def ht12 (P:Params):BT:=(.node (ho1 P) (ht10 P) (ht11 P))
noncomputable def ht13 (P:Params):BT:=(.node ho4 (.node ho8 (hl ho16) (hl ho24)) (.node ho12 (hl (ho20 P)) (hl ho29)))
noncomputable def ht14:BT:=(.node ho6 (.node ho10 (hl ho18) (hl ho26)) (.node ho14 (hl ho22) (hl ho31)))
noncomputable def ht15 (P:Params):BT:=(.node (ho2 P) (ht13 P) ht14)
noncomputable def ht16 (P:Params):BT:=(.node (ho0 P) (ht12 P) (ht15 P))
noncomputable def tA (P:Params) (b:Bool):BT:=(ht16 P)
noncomputable def tB (P:Params) (b:Bool):BT:=(ht16 P)
noncomputable def ho33 (P:Params):Obj:=⟨.type "dict",none,.dict #[hd P "__name__" 165 (hs "cpy313.stringprep" 332),hd P "__doc__" 166 .none,hd P "__package__" 167 .none,hd P "__loader__" 168 (.builtin "__main__.__loader__#opaque"),hd P "__spec__" 169 .none,hd P "__annotations__" 170 (.ref 6),hd P "__builtins__" 171 (.ref 4),hd P "__file__" 173 (hs "/claim/cut.py" 172),hd P "__cached__" 174 .none,hd P "_sre" 275 (.ref 12),hd P "_iter_escaped_chars" 293 (.ref 38),hd P "_strip_quoted_realnames" 305 (.ref 45),hd P "_check_parenthesis" 315 (.ref 52),hd P "ELLIPSIS_MARKER" 319 (hs "..." 318),hd P "_ellipsis_match" 331 (.ref 59)] 15,#[]⟩
noncomputable def ho34:Obj:=⟨.none,none,.fields #[.int 3 0,.int 0 0,.ref 37,.int 16 0,.int 0 0,.ref 44,.int 34 0,.int 0 0,.ref 51,.int 47 0,.int 0 0,.ref 58],#[]⟩
noncomputable def ho35:Obj:=⟨.type "tuple",none,.seq #[] 0,#[]⟩
noncomputable def ho36:Obj:=⟨.none,none,.fields #[],#[]⟩
noncomputable def ho37:Obj:=⟨.type "tuple",none,.seq #[hs "addr" 287,hs "pos" 288,hs "escape" 289,hs "ch" 290] 0,#[]⟩
noncomputable def ho38:Obj:=⟨.type "tuple",none,.seq #[] 0,#[]⟩
noncomputable def ho39:Obj:=⟨.none,none,.func (hf "_iter_escaped_chars" "_iter_escaped_chars" (fnParams 2) (fnBody 2) (fnScope 2) 0 .none .none .none .none .none),#[]⟩
noncomputable def ho40:Obj:=⟨.type "code",none,.fields #[hs "_iter_escaped_chars" 284,hs "_iter_escaped_chars" 285,hs "/claim/cut.py" 286,.int 3 0,.int 1 0,.int 0 0,.int 0 0,.int 35 0,.ref 32,.bool true,.int 276 0,.ref 33,.none,.ref 34,.ref 35,.ref 36,.int 291 0,.int 3 0,hs "/claim/cut.py" 292],#[]⟩
noncomputable def ho41:Obj:=⟨.type "function",none,.func (hf "_iter_escaped_chars" "_iter_escaped_chars" (fnParams 2) (fnBody 2) (fnScope 2) 3 .none .none .none (hs "cpy313.email.utils" 282) (.ref 37)),#[]⟩
noncomputable def ho42:Obj:=⟨.type "tuple",none,.seq #[] 0,#[]⟩
noncomputable def ho43:Obj:=⟨.none,none,.fields #[],#[]⟩
noncomputable def ho44:Obj:=⟨.type "tuple",none,.seq #[hs "addr" 297,hs "start" 298,hs "open_pos" 299,hs "result" 300,hs "pos" 301,hs "ch" 302] 0,#[]⟩
noncomputable def ho45:Obj:=⟨.type "tuple",none,.seq #[] 0,#[]⟩
noncomputable def ho46:Obj:=⟨.none,none,.func (hf "_strip_quoted_realnames" "_strip_quoted_realnames" (fnParams 3) (fnBody 3) (fnScope 3) 0 .none .none .none .none .none),#[]⟩
noncomputable def ho47:Obj:=⟨.type "code",none,.fields #[hs "_strip_quoted_realnames" 294,hs "_strip_quoted_realnames" 295,hs "/claim/cut.py" 296,.int 16 0,.int 1 0,.int 0 0,.int 0 0,.int 3 0,.ref 39,.bool true,.int 276 0,.ref 40,.none,.ref 41,.ref 42,.ref 43,.int 303 0,.int 16 0,hs "/claim/cut.py" 304],#[]⟩
noncomputable def ho48:Obj:=⟨.type "function",none,.func (hf "_strip_quoted_realnames" "_strip_quoted_realnames" (fnParams 3) (fnBody 3) (fnScope 3) 3 .none .none .none (hs "cpy313.email.utils" 282) (.ref 44)),#[]⟩
noncomputable def ho49:Obj:=⟨.type "tuple",none,.seq #[] 0,#[]⟩
noncomputable def ho50:Obj:=⟨.none,none,.fields #[],#[]⟩
noncomputable def ho51:Obj:=⟨.type "tuple",none,.seq #[hs "addr" 309,hs "opens" 310,hs "pos" 311,hs "ch" 312] 0,#[]⟩
noncomputable def ho52:Obj:=⟨.type "tuple",none,.seq #[] 0,#[]⟩
noncomputable def ho53:Obj:=⟨.none,none,.func (hf "_check_parenthesis" "_check_parenthesis" (fnParams 4) (fnBody 4) (fnScope 4) 0 .none .none .none .none .none),#[]⟩
noncomputable def ho54:Obj:=⟨.type "code",none,.fields #[hs "_check_parenthesis" 306,hs "_check_parenthesis" 307,hs "/claim/cut.py" 308,.int 34 0,.int 1 0,.int 0 0,.int 0 0,.int 3 0,.ref 46,.bool true,.int 276 0,.ref 47,.none,.ref 48,.ref 49,.ref 50,.int 313 0,.int 34 0,hs "/claim/cut.py" 314],#[]⟩
noncomputable def ho55:Obj:=⟨.type "function",none,.func (hf "_check_parenthesis" "_check_parenthesis" (fnParams 4) (fnBody 4) (fnScope 4) 3 .none .none .none (hs "cpy313.email.utils" 282) (.ref 51)),#[]⟩
noncomputable def ho56:Obj:=⟨.type "tuple",none,.seq #[] 0,#[]⟩
noncomputable def ho57:Obj:=⟨.none,none,.fields #[],#[]⟩
noncomputable def ho58:Obj:=⟨.type "tuple",none,.seq #[hs "want" 323,hs "got" 324,hs "ws" 325,hs "startpos" 326,hs "endpos" 327,hs "w" 328] 0,#[]⟩
noncomputable def ho59:Obj:=⟨.type "tuple",none,.seq #[] 0,#[]⟩
noncomputable def ho60:Obj:=⟨.none,none,.func (hf "_ellipsis_match" "_ellipsis_match" (fnParams 7) (fnBody 7) (fnScope 7) 0 .none .none .none .none .none),#[]⟩
noncomputable def ho61:Obj:=⟨.type "code",none,.fields #[hs "_ellipsis_match" 320,hs "_ellipsis_match" 321,hs "/claim/cut.py" 322,.int 47 0,.int 2 0,.int 0 0,.int 0 0,.int 3 0,.ref 53,.bool true,.int 276 0,.ref 54,.none,.ref 55,.ref 56,.ref 57,.int 329 0,.int 47 0,hs "/claim/cut.py" 330],#[]⟩
noncomputable def ho62:Obj:=⟨.type "function",none,.func (hf "_ellipsis_match" "_ellipsis_match" (fnParams 7) (fnBody 7) (fnScope 7) 3 .none .none .none (hs "cpy313.doctest" 316) (.ref 58)),#[]⟩
noncomputable def ht17:BT:=(.node ho7 (.node ho15 (hl ho32) (hl ho50)) (.node ho23 (hl ho42) (hl ho58)))
noncomputable def ht18 (P:Params):BT:=(.node (ho28 P) (.node ho19 (hl ho38) (hl ho54)) (.node ho27 (hl ho46) (hl ho62)))
noncomputable def ht19 (P:Params):BT:=(.node (ho33 P) ht17 (ht18 P))
noncomputable def ht20:BT:=(.node ho9 (.node ho17 (hl ho36) (hl ho52)) (.node ho25 (hl ho44) (hl ho60)))
noncomputable def ht21 (P:Params):BT:=(.node (ho13 P) (.node (ho21 P) (hl ho40) (hl ho56)) (.node ho34 (hl ho48) .nil))
noncomputable def ht22 (P:Params):BT:=(.node ho5 ht20 (ht21 P))
noncomputable def ht23 (P:Params):BT:=(.node (ho1 P) (ht19 P) (ht22 P))
noncomputable def ht24:BT:=(.node ho8 (.node ho16 (hl ho35) (hl ho51)) (.node ho24 (hl ho43) (hl ho59)))
noncomputable def ht25 (P:Params):BT:=(.node ho12 (.node (ho20 P) (hl ho39) (hl ho55)) (.node ho29 (hl ho47) .nil))
noncomputable def ht26 (P:Params):BT:=(.node ho4 ht24 (ht25 P))
noncomputable def ht27:BT:=(.node ho10 (.node ho18 (hl ho37) (hl ho53)) (.node ho26 (hl ho45) (hl ho61)))
noncomputable def ht28:BT:=(.node ho14 (.node ho22 (hl ho41) (hl ho57)) (.node ho31 (hl ho49) .nil))
noncomputable def ht29:BT:=(.node ho6 ht27 ht28)
noncomputable def ht30 (P:Params):BT:=(.node (ho2 P) (ht26 P) ht29)
noncomputable def ht31 (P:Params):BT:=(.node (ho0 P) (ht23 P) (ht30 P))
noncomputable def tG0 (P:Params) (b:Bool):BT:=(ht31 P)
noncomputable def ho63 (P:Params):Obj:=⟨.type "dict",none,.dict #[hd P "__name__" 165 (hs "cpy313.stringprep" 332),hd P "__doc__" 166 .none,hd P "__package__" 167 .none,hd P "__loader__" 168 (.builtin "__main__.__loader__#opaque"),hd P "__spec__" 169 .none,hd P "__annotations__" 170 (.ref 6),hd P "__builtins__" 171 (.ref 4),hd P "__file__" 173 (hs "/claim/cut.py" 172),hd P "__cached__" 174 .none,hd P "_sre" 275 (.ref 12),hd P "_iter_escaped_chars" 293 (.ref 38),hd P "_strip_quoted_realnames" 305 (.ref 45),hd P "_check_parenthesis" 315 (.ref 52),hd P "ELLIPSIS_MARKER" 319 (hs "..." 318),hd P "_ellipsis_match" 331 (.ref 59),hd P "c6_set" 347 (.ref 61),hd P "in_table_c6" 354 (.ref 71)] 17,#[]⟩
noncomputable def ho64:Obj:=⟨.none,none,.fields #[.int 3 0,.int 0 0,.ref 37,.int 16 0,.int 0 0,.ref 44,.int 34 0,.int 0 0,.ref 51,.int 47 0,.int 0 0,.ref 58,.int 77 0,.int 0 0,.ref 70],#[]⟩
noncomputable def ho65:Obj:=⟨.type "range",none,.fields #[.int 65529 334,.int 65534 335,.int 1 336],#[]⟩
noncomputable def ho66 (b:Bool):Obj:=⟨.type "set",none,.set #[(65529,.int 65529 337),(65530,.int 65530 339),(65531,.int 65531 341),(65532,.int 65532 343),(65533,.int 65533 345)] 6 ⟨31,#[25,26,27,28,29],#[],0,b,1,true⟩,#[]⟩
noncomputable def ho67:Obj:=⟨.type "range_iterator",none,.fields #[.int 65534 0,.int 0 0,.int 1 0],#[]⟩
noncomputable def ho68:Obj:=⟨.type "tuple",none,.seq #[] 0,#[]⟩
noncomputable def ho69:Obj:=⟨.type "StopIteration",none,.fields #[.ref 63,.none,.none,.none,.bool false,.none],#[]⟩
noncomputable def ho70:Obj:=⟨.type "tuple",none,.seq #[] 0,#[]⟩
noncomputable def ho71:Obj:=⟨.none,none,.fields #[],#[]⟩
noncomputable def ho72:Obj:=⟨.type "tuple",none,.seq #[hs "code" 351] 0,#[]⟩
noncomputable def ho73:Obj:=⟨.type "tuple",none,.seq #[] 0,#[]⟩
noncomputable def ho74:Obj:=⟨.none,none,.func (hf "in_table_c6" "in_table_c6" (fnParams 10) (fnBody 10) (fnScope 10) 0 .none .none .none .none .none),#[]⟩
noncomputable def ho75:Obj:=⟨.type "code",none,.fields #[hs "in_table_c6" 348,hs "in_table_c6" 349,hs "/claim/cut.py" 350,.int 77 0,.int 1 0,.int 0 0,.int 0 0,.int 3 0,.ref 65,.bool true,.int 276 0,.ref 66,.none,.ref 67,.ref 68,.ref 69,.int 352 0,.int 77 0,hs "/claim/cut.py" 353],#[]⟩
noncomputable def ho76:Obj:=⟨.type "function",none,.func (hf "in_table_c6" "in_table_c6" (fnParams 10) (fnBody 10) (fnScope 10) 3 .none .none .none (hs "cpy313.stringprep" 332) (.ref 70)),#[]⟩
noncomputable def ht32:BT:=(.node ho7 (.node ho15 (.node ho32 (hl ho68) .nil) (hl ho50)) (.node ho23 (.node ho42 (hl ho76) .nil) (hl ho58)))
noncomputable def ht33 (P:Params):BT:=(.node (ho28 P) (.node ho19 (.node ho38 (hl ho72) .nil) (hl ho54)) (.node ho27 (hl ho46) (hl ho62)))
noncomputable def ht34 (P:Params):BT:=(.node (ho63 P) ht32 (ht33 P))
noncomputable def ht35:BT:=(.node ho9 (.node ho17 (.node ho36 (hl ho70) .nil) (hl ho52)) (.node ho25 (hl ho44) (hl ho60)))
noncomputable def ht36 (P:Params) (b:Bool):BT:=(.node (ho13 P) (.node (ho21 P) (.node ho40 (hl ho74) .nil) (hl ho56)) (.node ho64 (hl ho48) (hl (ho66 b))))
noncomputable def ht37 (P:Params) (b:Bool):BT:=(.node ho5 ht35 (ht36 P b))
noncomputable def ht38 (P:Params) (b:Bool):BT:=(.node (ho1 P) (ht34 P) (ht37 P b))
noncomputable def ht39:BT:=(.node ho8 (.node ho16 (.node ho35 (hl ho69) .nil) (hl ho51)) (.node ho24 (hl ho43) (hl ho59)))
noncomputable def ht40 (P:Params):BT:=(.node ho12 (.node (ho20 P) (.node ho39 (hl ho73) .nil) (hl ho55)) (.node ho29 (hl ho47) (hl ho65)))
noncomputable def ht41 (P:Params):BT:=(.node ho4 ht39 (ht40 P))
noncomputable def ht42:BT:=(.node ho10 (.node ho18 (.node ho37 (hl ho71) .nil) (hl ho53)) (.node ho26 (hl ho45) (hl ho61)))
noncomputable def ht43:BT:=(.node ho14 (.node ho22 (.node ho41 (hl ho75) .nil) (hl ho57)) (.node ho31 (hl ho49) (hl ho67)))
noncomputable def ht44:BT:=(.node ho6 ht42 ht43)
noncomputable def ht45 (P:Params):BT:=(.node (ho2 P) (ht41 P) ht44)
noncomputable def ht46 (P:Params) (b:Bool):BT:=(.node (ho0 P) (ht38 P b) (ht45 P))
noncomputable def tG1 (P:Params) (b:Bool):BT:=(ht46 P b)
noncomputable def ho77 (P:Params):Obj:=⟨.type "dict",none,.dict #[hd P "__name__" 165 (hs "cpy313.stringprep" 332),hd P "__doc__" 166 .none,hd P "__package__" 167 .none,hd P "__loader__" 168 (.builtin "__main__.__loader__#opaque"),hd P "__spec__" 169 .none,hd P "__annotations__" 170 (.ref 6),hd P "__builtins__" 171 (.ref 4),hd P "__file__" 173 (hs "/claim/cut.py" 172),hd P "__cached__" 174 .none,hd P "_sre" 275 (.ref 12),hd P "_iter_escaped_chars" 293 (.ref 38),hd P "_strip_quoted_realnames" 305 (.ref 45),hd P "_check_parenthesis" 315 (.ref 52),hd P "ELLIPSIS_MARKER" 319 (hs "..." 318),hd P "_ellipsis_match" 331 (.ref 59),hd P "c6_set" 347 (.ref 61),hd P "in_table_c6" 354 (.ref 71),hd P "c7_set" 382 (.ref 73),hd P "in_table_c7" 389 (.ref 83)] 19,#[]⟩
noncomputable def ho78:Obj:=⟨.none,none,.fields #[.int 3 0,.int 0 0,.ref 37,.int 16 0,.int 0 0,.ref 44,.int 34 0,.int 0 0,.ref 51,.int 47 0,.int 0 0,.ref 58,.int 77 0,.int 0 0,.ref 70,.int 80 0,.int 0 0,.ref 82],#[]⟩
noncomputable def ho79:Obj:=⟨.type "range",none,.fields #[.int 12272 355,.int 12284 356,.int 1 357],#[]⟩
noncomputable def ho80 (b:Bool):Obj:=⟨.type "set",none,.set #[(12272,.int 12272 358),(12273,.int 12273 360),(12274,.int 12274 362),(12275,.int 12275 364),(12276,.int 12276 366),(12277,.int 12277 368),(12278,.int 12278 370),(12279,.int 12279 372),(12280,.int 12280 374),(12281,.int 12281 376),(12282,.int 12282 378),(12283,.int 12283 380)] 13 ⟨31,#[16,17,18,19,20,21,22,23,24,25,26,27],#[],0,b,1,true⟩,#[]⟩
noncomputable def ho81:Obj:=⟨.type "range_iterator",none,.fields #[.int 12284 0,.int 0 0,.int 1 0],#[]⟩
noncomputable def ho82:Obj:=⟨.type "tuple",none,.seq #[] 0,#[]⟩
noncomputable def ho83:Obj:=⟨.type "StopIteration",none,.fields #[.ref 75,.none,.none,.none,.bool false,.none],#[]⟩
noncomputable def ho84:Obj:=⟨.type "tuple",none,.seq #[] 0,#[]⟩
noncomputable def ho85:Obj:=⟨.none,none,.fields #[],#[]⟩
noncomputable def ho86:Obj:=⟨.type "tuple",none,.seq #[hs "code" 386] 0,#[]⟩
noncomputable def ho87:Obj:=⟨.type "tuple",none,.seq #[] 0,#[]⟩
noncomputable def ho88:Obj:=⟨.none,none,.func (hf "in_table_c7" "in_table_c7" (fnParams 12) (fnBody 12) (fnScope 12) 0 .none .none .none .none .none),#[]⟩
noncomputable def ho89:Obj:=⟨.type "code",none,.fields #[hs "in_table_c7" 383,hs "in_table_c7" 384,hs "/claim/cut.py" 385,.int 80 0,.int 1 0,.int 0 0,.int 0 0,.int 3 0,.ref 77,.bool true,.int 276 0,.ref 78,.none,.ref 79,.ref 80,.ref 81,.int 387 0,.int 80 0,hs "/claim/cut.py" 388],#[]⟩
noncomputable def ho90:Obj:=⟨.type "function",none,.func (hf "in_table_c7" "in_table_c7" (fnParams 12) (fnBody 12) (fnScope 12) 3 .none .none .none (hs "cpy313.stringprep" 332) (.ref 82)),#[]⟩
noncomputable def ht47:BT:=(.node ho7 (.node ho15 (.node ho32 (hl ho68) .nil) (.node ho50 (hl ho86) .nil)) (.node ho23 (.node ho42 (hl ho76) .nil) (hl ho58)))
noncomputable def ht48 (P:Params):BT:=(.node (ho28 P) (.node ho19 (.node ho38 (hl ho72) .nil) (.node ho54 (hl ho90) .nil)) (.node ho27 (.node ho46 (hl ho82) .nil) (hl ho62)))
noncomputable def ht49 (P:Params):BT:=(.node (ho77 P) ht47 (ht48 P))
noncomputable def ht50 (b:Bool):BT:=(.node ho9 (.node ho17 (.node ho36 (hl ho70) .nil) (.node ho52 (hl ho88) .nil)) (.node ho25 (.node ho44 (hl (ho80 b)) .nil) (hl ho60)))
noncomputable def ht51 (P:Params) (b:Bool):BT:=(.node (ho13 P) (.node (ho21 P) (.node ho40 (hl ho74) .nil) (hl ho56)) (.node ho78 (.node ho48 (hl ho84) .nil) (hl (ho66 b))))
noncomputable def ht52 (P:Params) (b:Bool):BT:=(.node ho5 (ht50 b) (ht51 P b))
noncomputable def ht53 (P:Params) (b:Bool):BT:=(.node (ho1 P) (ht49 P) (ht52 P b))
noncomputable def ht54:BT:=(.node ho8 (.node ho16 (.node ho35 (hl ho69) .nil) (.node ho51 (hl ho87) .nil)) (.node ho24 (.node ho43 (hl ho79) .nil) (hl ho59)))
noncomputable def ht55 (P:Params):BT:=(.node ho12 (.node (ho20 P) (.node ho39 (hl ho73) .nil) (hl ho55)) (.node ho29 (.node ho47 (hl ho83) .nil) (hl ho65)))
noncomputable def ht56 (P:Params):BT:=(.node ho4 ht54 (ht55 P))
noncomputable def ht57:BT:=(.node ho10 (.node ho18 (.node ho37 (hl ho71) .nil) (.node ho53 (hl ho89) .nil)) (.node ho26 (.node ho45 (hl ho81) .nil) (hl ho61)))
noncomputable def ht58:BT:=(.node ho14 (.node ho22 (.node ho41 (hl ho75) .nil) (hl ho57)) (.node ho31 (.node ho49 (hl ho85) .nil) (hl ho67)))
noncomputable def ht59:BT:=(.node ho6 ht57 ht58)
noncomputable def ht60 (P:Params):BT:=(.node (ho2 P) (ht56 P) ht59)
noncomputable def ht61 (P:Params) (b:Bool):BT:=(.node (ho0 P) (ht53 P b) (ht60 P))
noncomputable def tG2 (P:Params) (b:Bool):BT:=(ht61 P b)
noncomputable def ho91 (P:Params):Obj:=⟨.type "dict",none,.dict #[hd P "__name__" 165 (hs "cpy313.stringprep" 332),hd P "__doc__" 166 .none,hd P "__package__" 167 .none,hd P "__loader__" 168 (.builtin "__main__.__loader__#opaque"),hd P "__spec__" 169 .none,hd P "__annotations__" 170 (.ref 6),hd P "__builtins__" 171 (.ref 4),hd P "__file__" 173 (hs "/claim/cut.py" 172),hd P "__cached__" 174 .none,hd P "_sre" 275 (.ref 12),hd P "_iter_escaped_chars" 293 (.ref 38),hd P "_strip_quoted_realnames" 305 (.ref 45),hd P "_check_parenthesis" 315 (.ref 52),hd P "ELLIPSIS_MARKER" 319 (hs "..." 318),hd P "_ellipsis_match" 331 (.ref 59),hd P "c6_set" 347 (.ref 61),hd P "in_table_c6" 354 (.ref 71),hd P "c7_set" 382 (.ref 73),hd P "in_table_c7" 389 (.ref 83),hd P "c8_set" 430 (.ref 97),hd P "in_table_c8" 437 (.ref 107)] 21,#[]⟩
noncomputable def ho92:Obj:=⟨.none,none,.fields #[.int 3 0,.int 0 0,.ref 37,.int 16 0,.int 0 0,.ref 44,.int 34 0,.int 0 0,.ref 51,.int 47 0,.int 0 0,.ref 58,.int 77 0,.int 0 0,.ref 70,.int 80 0,.int 0 0,.ref 82,.int 83 0,.int 0 0,.ref 106],#[]⟩
noncomputable def ho93:Obj:=⟨.type "list",none,.seq #[.int 832 390,.int 833 391,.int 8206 392,.int 8207 393] 0,#[]⟩
noncomputable def ho94:Obj:=⟨.type "range",none,.fields #[.int 8234 394,.int 8239 395,.int 1 396],#[]⟩
noncomputable def ho95:Obj:=⟨.type "list",none,.seq #[.int 8234 399,.int 8235 400,.int 8236 401,.int 8237 402,.int 8238 403] 7,#[]⟩
noncomputable def ho96:Obj:=⟨.type "range_iterator",none,.fields #[.int 8239 0,.int 0 0,.int 1 0],#[]⟩
noncomputable def ho97:Obj:=⟨.type "tuple",none,.seq #[] 0,#[]⟩
noncomputable def ho98:Obj:=⟨.type "StopIteration",none,.fields #[.ref 88,.none,.none,.none,.bool false,.none],#[]⟩
noncomputable def ho99:Obj:=⟨.type "list",none,.seq #[.int 832 390,.int 833 391,.int 8206 392,.int 8207 393,.int 8234 399,.int 8235 400,.int 8236 401,.int 8237 402,.int 8238 403] 0,#[]⟩
noncomputable def ho100:Obj:=⟨.type "range",none,.fields #[.int 8298 404,.int 8304 405,.int 1 406],#[]⟩
noncomputable def ho101:Obj:=⟨.type "list",none,.seq #[.int 8298 409,.int 8299 410,.int 8300 411,.int 8301 412,.int 8302 413,.int 8303 414] 8,#[]⟩
noncomputable def ho102:Obj:=⟨.type "range_iterator",none,.fields #[.int 8304 0,.int 0 0,.int 1 0],#[]⟩
noncomputable def ho103:Obj:=⟨.type "tuple",none,.seq #[] 0,#[]⟩
noncomputable def ho104:Obj:=⟨.type "StopIteration",none,.fields #[.ref 94,.none,.none,.none,.bool false,.none],#[]⟩
noncomputable def ho105:Obj:=⟨.type "list",none,.seq #[.int 832 390,.int 833 391,.int 8206 392,.int 8207 393,.int 8234 399,.int 8235 400,.int 8236 401,.int 8237 402,.int 8238 403,.int 8298 409,.int 8299 410,.int 8300 411,.int 8301 412,.int 8302 413,.int 8303 414] 0,#[]⟩
noncomputable def ho106 (b:Bool):Obj:=⟨.type "set",none,.set #[(832,.int 832 390),(833,.int 833 391),(8234,.int 8234 399),(8235,.int 8235 400),(8236,.int 8236 401),(8237,.int 8237 402),(8206,.int 8206 392),(8207,.int 8207 393),(8238,.int 8238 403),(8298,.int 8298 409),(8299,.int 8299 410),(8300,.int 8300 411),(8301,.int 8301 412),(8302,.int 8302 413),(8303,.int 8303 414)] 16 ⟨31,#[0,1,10,11,12,13,14,15,16,17,18,19,20,21,22],#[],0,b,1,true⟩,#[]⟩
noncomputable def ho107:Obj:=⟨.type "list_iterator",none,.fields #[.none,.int 15 0],#[]⟩
noncomputable def ho108:Obj:=⟨.type "tuple",none,.seq #[] 0,#[]⟩
noncomputable def ho109:Obj:=⟨.type "StopIteration",none,.fields #[.ref 99,.none,.none,.none,.bool false,.none],#[]⟩
noncomputable def ho110:Obj:=⟨.type "tuple",none,.seq #[] 0,#[]⟩
noncomputable def ho111:Obj:=⟨.none,none,.fields #[],#[]⟩
noncomputable def ho112:Obj:=⟨.type "tuple",none,.seq #[hs "code" 434] 0,#[]⟩
noncomputable def ho113:Obj:=⟨.type "tuple",none,.seq #[] 0,#[]⟩
noncomputable def ho114:Obj:=⟨.none,none,.func (hf "in_table_c8" "in_table_c8" (fnParams 14) (fnBody 14) (fnScope 14) 0 .none .none .none .none .none),#[]⟩
noncomputable def ho115:Obj:=⟨.type "code",none,.fields #[hs "in_table_c8" 431,hs "in_table_c8" 432,hs "/claim/cut.py" 433,.int 83 0,.int 1 0,.int 0 0,.int 0 0,.int 3 0,.ref 101,.bool true,.int 276 0,.ref 102,.none,.ref 103,.ref 104,.ref 105,.int 435 0,.int 83 0,hs "/claim/cut.py" 436],#[]⟩
noncomputable def ho116:Obj:=⟨.type "function",none,.func (hf "in_table_c8" "in_table_c8" (fnParams 14) (fnBody 14) (fnScope 14) 3 .none .none .none (hs "cpy313.stringprep" 332) (.ref 106)),#[]⟩
noncomputable def ht62:BT:=(.node ho15 (.node ho32 (hl ho68) (hl ho104)) (.node ho50 (hl ho86) .nil))
noncomputable def ht63:BT:=(.node ho23 (.node ho42 (hl ho76) (hl ho112)) (.node ho58 (hl ho96) .nil))
noncomputable def ht64:BT:=(.node ho7 ht62 ht63)
noncomputable def ht65:BT:=(.node ho19 (.node ho38 (hl ho72) (hl ho108)) (.node ho54 (hl ho90) .nil))
noncomputable def ht66:BT:=(.node ho27 (.node ho46 (hl ho82) (hl ho116)) (.node ho62 (hl ho100) .nil))
noncomputable def ht67 (P:Params):BT:=(.node (ho28 P) ht65 ht66)
noncomputable def ht68 (P:Params):BT:=(.node (ho91 P) ht64 (ht67 P))
noncomputable def ht69 (b:Bool):BT:=(.node ho17 (.node ho36 (hl ho70) (hl (ho106 b))) (.node ho52 (hl ho88) .nil))
noncomputable def ht70 (b:Bool):BT:=(.node ho25 (.node ho44 (hl (ho80 b)) (hl ho114)) (.node ho60 (hl ho98) .nil))
noncomputable def ht71 (b:Bool):BT:=(.node ho9 (ht69 b) (ht70 b))
noncomputable def ht72 (P:Params):BT:=(.node (ho21 P) (.node ho40 (hl ho74) (hl ho110)) (.node ho56 (hl ho94) .nil))
noncomputable def ht73 (P:Params) (b:Bool):BT:=(.node (ho13 P) (ht72 P) (.node ho92 (.node ho48 (hl ho84) .nil) (.node (ho66 b) (hl ho102) .nil)))
noncomputable def ht74 (P:Params) (b:Bool):BT:=(.node ho5 (ht71 b) (ht73 P b))
noncomputable def ht75 (P:Params) (b:Bool):BT:=(.node (ho1 P) (ht68 P) (ht74 P b))
noncomputable def ht76:BT:=(.node ho16 (.node ho35 (hl ho69) (hl ho105)) (.node ho51 (hl ho87) .nil))
noncomputable def ht77:BT:=(.node ho24 (.node ho43 (hl ho79) (hl ho113)) (.node ho59 (hl ho97) .nil))
noncomputable def ht78:BT:=(.node ho8 ht76 ht77)
noncomputable def ht79 (P:Params):BT:=(.node (ho20 P) (.node ho39 (hl ho73) (hl ho109)) (.node ho55 (hl ho93) .nil))
noncomputable def ht80 (P:Params):BT:=(.node ho12 (ht79 P) (.node ho29 (.node ho47 (hl ho83) .nil) (.node ho65 (hl ho101) .nil)))
noncomputable def ht81 (P:Params):BT:=(.node ho4 ht78 (ht80 P))
noncomputable def ht82:BT:=(.node ho18 (.node ho37 (hl ho71) (hl ho107)) (.node ho53 (hl ho89) .nil))
noncomputable def ht83:BT:=(.node ho26 (.node ho45 (hl ho81) (hl ho115)) (.node ho61 (hl ho99) .nil))
noncomputable def ht84:BT:=(.node ho10 ht82 ht83)
noncomputable def ht85:BT:=(.node ho22 (.node ho41 (hl ho75) (hl ho111)) (.node ho57 (hl ho95) .nil))
noncomputable def ht86:BT:=(.node ho14 ht85 (.node ho31 (.node ho49 (hl ho85) .nil) (.node ho67 (hl ho103) .nil)))
noncomputable def ht87:BT:=(.node ho6 ht84 ht86)
noncomputable def ht88 (P:Params):BT:=(.node (ho2 P) (ht81 P) ht87)
noncomputable def ht89 (P:Params) (b:Bool):BT:=(.node (ho0 P) (ht75 P b) (ht88 P))
noncomputable def tG3 (P:Params) (b:Bool):BT:=(ht89 P b)
noncomputable def ho117:Obj:=⟨.type "list",none,.seq #[.int 917505 438] 0,#[]⟩
noncomputable def ho118:Obj:=⟨.type "range",none,.fields #[.int 917536 439,.int 917632 440,.int 1 441],#[]⟩
noncomputable def ho119:Obj:=⟨.type "list",none,.seq #[] 2,#[]⟩
noncomputable def ho120:Obj:=⟨.type "range_iterator",none,.fields #[.int 917536 0,.int 96 0,.int 1 0],#[]⟩
noncomputable def ht90:BT:=(.node ho15 (.node ho32 (hl ho68) (hl ho104)) (.node ho50 (hl ho86) (hl ho120)))
noncomputable def ht91:BT:=(.node ho7 ht90 ht63)
noncomputable def ht92 (P:Params):BT:=(.node (ho91 P) ht91 (ht67 P))
noncomputable def ht93 (b:Bool):BT:=(.node ho92 (.node ho48 (hl ho84) (hl ho118)) (.node (ho66 b) (hl ho102) .nil))
noncomputable def ht94 (P:Params) (b:Bool):BT:=(.node (ho13 P) (ht72 P) (ht93 b))
noncomputable def ht95 (P:Params) (b:Bool):BT:=(.node ho5 (ht71 b) (ht94 P b))
noncomputable def ht96 (P:Params) (b:Bool):BT:=(.node (ho1 P) (ht92 P) (ht95 P b))
noncomputable def ht97:BT:=(.node ho29 (.node ho47 (hl ho83) (hl ho117)) (.node ho65 (hl ho101) .nil))
noncomputable def ht98 (P:Params):BT:=(.node ho12 (ht79 P) ht97)
noncomputable def ht99 (P:Params):BT:=(.node ho4 ht78 (ht98 P))
noncomputable def ht100:BT:=(.node ho31 (.node ho49 (hl ho85) (hl ho119)) (.node ho67 (hl ho103) .nil))
noncomputable def ht101:BT:=(.node ho14 ht85 ht100)
noncomputable def ht102:BT:=(.node ho6 ht84 ht101)
noncomputable def ht103 (P:Params):BT:=(.node (ho2 P) (ht99 P) ht102)
noncomputable def ht104 (P:Params) (b:Bool):BT:=(.node (ho0 P) (ht96 P b) (ht103 P))
noncomputable def tX0 (P:Params) (b:Bool):BT:=(ht104 P b)
noncomputable def ho121:Obj:=⟨.type "list",none,.seq #[.int 917536 444,.int 917537 445,.int 917538 446,.int 917539 447,.int 917540 448,.int 917541 449,.int 917542 450,.int 917543 451,.int 917544 452,.int 917545 453,.int 917546 454,.int 917547 455,.int 917548 456,.int 917549 457,.int 917550 458,.int 917551 459] 18,#[]⟩
noncomputable def ho122:Obj:=⟨.type "range_iterator",none,.fields #[.int 917552 0,.int 80 0,.int 1 0],#[]⟩
noncomputable def ht105:BT:=(.node ho15 (.node ho32 (hl ho68) (hl ho104)) (.node ho50 (hl ho86) (hl ho122)))
noncomputable def ht106:BT:=(.node ho7 ht105 ht63)
noncomputable def ht107 (P:Params):BT:=(.node (ho91 P) ht106 (ht67 P))
noncomputable def ht108 (P:Params) (b:Bool):BT:=(.node (ho1 P) (ht107 P) (ht95 P b))
noncomputable def ht109:BT:=(.node ho31 (.node ho49 (hl ho85) (hl ho121)) (.node ho67 (hl ho103) .nil))
noncomputable def ht110:BT:=(.node ho14 ht85 ht109)
noncomputable def ht111:BT:=(.node ho6 ht84 ht110)
noncomputable def ht112 (P:Params):BT:=(.node (ho2 P) (ht99 P) ht111)
noncomputable def ht113 (P:Params) (b:Bool):BT:=(.node (ho0 P) (ht108 P b) (ht112 P))
noncomputable def tX1 (P:Params) (b:Bool):BT:=(ht113 P b)
noncomputable def ho123:Obj:=⟨.type "list",none,.seq #[.int 917536 444,.int 917537 445,.int 917538 446,.int 917539 447,.int 917540 448,.int 917541 449,.int 917542 450,.int 917543 451,.int 917544 452,.int 917545 453,.int 917546 454,.int 917547 455,.int 917548 456,.int 917549 457,.int 917550 458,.int 917551 459,.int 917552 460,.int 917553 461,.int 917554 462,.int 917555 463,.int 917556 464,.int 917557 465,.int 917558 466,.int 917559 467,.int 917560 468,.int 917561 469,.int 917562 470,.int 917563 471,.int 917564 472,.int 917565 473,.int 917566 474,.int 917567 475] 34,#[]⟩
noncomputable def ho124:Obj:=⟨.type "range_iterator",none,.fields #[.int 917568 0,.int 64 0,.int 1 0],#[]⟩
noncomputable def ht114:BT:=(.node ho15 (.node ho32 (hl ho68) (hl ho104)) (.node ho50 (hl ho86) (hl ho124)))
noncomputable def ht115:BT:=(.node ho7 ht114 ht63)
noncomputable def ht116 (P:Params):BT:=(.node (ho91 P) ht115 (ht67 P))
noncomputable def ht117 (P:Params) (b:Bool):BT:=(.node (ho1 P) (ht116 P) (ht95 P b))
noncomputable def ht118:BT:=(.node ho31 (.node ho49 (hl ho85) (hl ho123)) (.node ho67 (hl ho103) .nil))
noncomputable def ht119:BT:=(.node ho14 ht85 ht118)
noncomputable def ht120:BT:=(.node ho6 ht84 ht119)
noncomputable def ht121 (P:Params):BT:=(.node (ho2 P) (ht99 P) ht120)
noncomputable def ht122 (P:Params) (b:Bool):BT:=(.node (ho0 P) (ht117 P b) (ht121 P))
noncomputable def tX2 (P:Params) (b:Bool):BT:=(ht122 P b)
noncomputable def ho125:Obj:=⟨.type "list",none,.seq #[.int 917536 444,.int 917537 445,.int 917538 446,.int 917539 447,.int 917540 448,.int 917541 449,.int 917542 450,.int 917543 451,.int 917544 452,.int 917545 453,.int 917546 454,.int 917547 455,.int 917548 456,.int 917549 457,.int 917550 458,.int 917551 459,.int 917552 460,.int 917553 461,.int 917554 462,.int 917555 463,.int 917556 464,.int 917557 465,.int 917558 466,.int 917559 467,.int 917560 468,.int 917561 469,.int 917562 470,.int 917563 471,.int 917564 472,.int 917565 473,.int 917566 474,.int 917567 475,.int 917568 476,.int 917569 477,.int 917570 478,.int 917571 479,.int 917572 480,.int 917573 481,.int 917574 482,.int 917575 483,.int 917576 484,.int 917577 485,.int 917578 486,.int 917579 487,.int 917580 488,.int 917581 489,.int 917582 490,.int 917583 491] 50,#[]⟩
noncomputable def ho126:Obj:=⟨.type "range_iterator",none,.fields #[.int 917584 0,.int 48 0,.int 1 0],#[]⟩
noncomputable def ht123:BT:=(.node ho15 (.node ho32 (hl ho68) (hl ho104)) (.node ho50 (hl ho86) (hl ho126)))
noncomputable def ht124:BT:=(.node ho7 ht123 ht63)
noncomputable def ht125 (P:Params):BT:=(.node (ho91 P) ht124 (ht67 P))
noncomputable def ht126 (P:Params) (b:Bool):BT:=(.node (ho1 P) (ht125 P) (ht95 P b))
noncomputable def ht127:BT:=(.node ho31 (.node ho49 (hl ho85) (hl ho125)) (.node ho67 (hl ho103) .nil))
noncomputable def ht128:BT:=(.node ho14 ht85 ht127)
noncomputable def ht129:BT:=(.node ho6 ht84 ht128)
noncomputable def ht130 (P:Params):BT:=(.node (ho2 P) (ht99 P) ht129)
noncomputable def ht131 (P:Params) (b:Bool):BT:=(.node (ho0 P) (ht126 P b) (ht130 P))
noncomputable def tX3 (P:Params) (b:Bool):BT:=(ht131 P b)
noncomputable def ho127:Obj:=⟨.type "list",none,.seq #[.int 917536 444,.int 917537 445,.int 917538 446,.int 917539 447,.int 917540 448,.int 917541 449,.int 917542 450,.int 917543 451,.int 917544 452,.int 917545 453,.int 917546 454,.int 917547 455,.int 917548 456,.int 917549 457,.int 917550 458,.int 917551 459,.int 917552 460,.int 917553 461,.int 917554 462,.int 917555 463,.int 917556 464,.int 917557 465,.int 917558 466,.int 917559 467,.int 917560 468,.int 917561 469,.int 917562 470,.int 917563 471,.int 917564 472,.int 917565 473,.int 917566 474,.int 917567 475,.int 917568 476,.int 917569 477,.int 917570 478,.int 917571 479,.int 917572 480,.int 917573 481,.int 917574 482,.int 917575 483,.int 917576 484,.int 917577 485,.int 917578 486,.int 917579 487,.int 917580 488,.int 917581 489,.int 917582 490,.int 917583 491,.int 917584 492,.int 917585 493,.int 917586 494,.int 917587 495,.int 917588 496,.int 917589 497,.int 917590 498,.int 917591 499,.int 917592 500,.int 917593 501,.int 917594 502,.int 917595 503,.int 917596 504,.int 917597 505,.int 917598 506,.int 917599 507] 66,#[]⟩
noncomputable def ho128:Obj:=⟨.type "range_iterator",none,.fields #[.int 917600 0,.int 32 0,.int 1 0],#[]⟩
noncomputable def ht132:BT:=(.node ho15 (.node ho32 (hl ho68) (hl ho104)) (.node ho50 (hl ho86) (hl ho128)))
noncomputable def ht133:BT:=(.node ho7 ht132 ht63)
noncomputable def ht134 (P:Params):BT:=(.node (ho91 P) ht133 (ht67 P))
noncomputable def ht135 (P:Params) (b:Bool):BT:=(.node (ho1 P) (ht134 P) (ht95 P b))
noncomputable def ht136:BT:=(.node ho31 (.node ho49 (hl ho85) (hl ho127)) (.node ho67 (hl ho103) .nil))
noncomputable def ht137:BT:=(.node ho14 ht85 ht136)
noncomputable def ht138:BT:=(.node ho6 ht84 ht137)
noncomputable def ht139 (P:Params):BT:=(.node (ho2 P) (ht99 P) ht138)
noncomputable def ht140 (P:Params) (b:Bool):BT:=(.node (ho0 P) (ht135 P b) (ht139 P))
noncomputable def tX4 (P:Params) (b:Bool):BT:=(ht140 P b)
noncomputable def ho129:Obj:=⟨.type "list",none,.seq #[.int 917536 444,.int 917537 445,.int 917538 446,.int 917539 447,.int 917540 448,.int 917541 449,.int 917542 450,.int 917543 451,.int 917544 452,.int 917545 453,.int 917546 454,.int 917547 455,.int 917548 456,.int 917549 457,.int 917550 458,.int 917551 459,.int 917552 460,.int 917553 461,.int 917554 462,.int 917555 463,.int 917556 464,.int 917557 465,.int 917558 466,.int 917559 467,.int 917560 468,.int 917561 469,.int 917562 470,.int 917563 471,.int 917564 472,.int 917565 473,.int 917566 474,.int 917567 475,.int 917568 476,.int 917569 477,.int 917570 478,.int 917571 479,.int 917572 480,.int 917573 481,.int 917574 482,.int 917575 483,.int 917576 484,.int 917577 485,.int 917578 486,.int 917579 487,.int 917580 488,.int 917581 489,.int 917582 490,.int 917583 491,.int 917584 492,.int 917585 493,.int 917586 494,.int 917587 495,.int 917588 496,.int 917589 497,.int 917590 498,.int 917591 499,.int 917592 500,.int 917593 501,.int 917594 502,.int 917595 503,.int 917596 504,.int 917597 505,.int 917598 506,.int 917599 507,.int 917600 508,.int 917601 509,.int 917602 510,.int 917603 511,.int 917604 512,.int 917605 513,.int 917606 514,.int 917607 515,.int 917608 516,.int 917609 517,.int 917610 518,.int 917611 519,.int 917612 520,.int 917613 521,.int 917614 522,.int 917615 523] 82,#[]⟩
noncomputable def ho130:Obj:=⟨.type "range_iterator",none,.fields #[.int 917616 0,.int 16 0,.int 1 0],#[]⟩
noncomputable def ht141:BT:=(.node ho15 (.node ho32 (hl ho68) (hl ho104)) (.node ho50 (hl ho86) (hl ho130)))
noncomputable def ht142:BT:=(.node ho7 ht141 ht63)
noncomputable def ht143 (P:Params):BT:=(.node (ho91 P) ht142 (ht67 P))
noncomputable def ht144 (P:Params) (b:Bool):BT:=(.node (ho1 P) (ht143 P) (ht95 P b))
noncomputable def ht145:BT:=(.node ho31 (.node ho49 (hl ho85) (hl ho129)) (.node ho67 (hl ho103) .nil))
noncomputable def ht146:BT:=(.node ho14 ht85 ht145)
noncomputable def ht147:BT:=(.node ho6 ht84 ht146)
noncomputable def ht148 (P:Params):BT:=(.node (ho2 P) (ht99 P) ht147)
noncomputable def ht149 (P:Params) (b:Bool):BT:=(.node (ho0 P) (ht144 P b) (ht148 P))
noncomputable def tX5 (P:Params) (b:Bool):BT:=(ht149 P b)
noncomputable def ho131:Obj:=⟨.type "list",none,.seq #[.int 917536 444,.int 917537 445,.int 917538 446,.int 917539 447,.int 917540 448,.int 917541 449,.int 917542 450,.int 917543 451,.int 917544 452,.int 917545 453,.int 917546 454,.int 917547 455,.int 917548 456,.int 917549 457,.int 917550 458,.int 917551 459,.int 917552 460,.int 917553 461,.int 917554 462,.int 917555 463,.int 917556 464,.int 917557 465,.int 917558 466,.int 917559 467,.int 917560 468,.int 917561 469,.int 917562 470,.int 917563 471,.int 917564 472,.int 917565 473,.int 917566 474,.int 917567 475,.int 917568 476,.int 917569 477,.int 917570 478,.int 917571 479,.int 917572 480,.int 917573 481,.int 917574 482,.int 917575 483,.int 917576 484,.int 917577 485,.int 917578 486,.int 917579 487,.int 917580 488,.int 917581 489,.int 917582 490,.int 917583 491,.int 917584 492,.int 917585 493,.int 917586 494,.int 917587 495,.int 917588 496,.int 917589 497,.int 917590 498,.int 917591 499,.int 917592 500,.int 917593 501,.int 917594 502,.int 917595 503,.int 917596 504,.int 917597 505,.int 917598 506,.int 917599 507,.int 917600 508,.int 917601 509,.int 917602 510,.int 917603 511,.int 917604 512,.int 917605 513,.int 917606 514,.int 917607 515,.int 917608 516,.int 917609 517,.int 917610 518,.int 917611 519,.int 917612 520,.int 917613 521,.int 917614 522,.int 917615 523,.int 917616 524,.int 917617 525,.int 917618 526,.int 917619 527,.int 917620 528,.int 917621 529,.int 917622 530,.int 917623 531,.int 917624 532,.int 917625 533,.int 917626 534,.int 917627 535,.int 917628 536,.int 917629 537,.int 917630 538,.int 917631 539] 98,#[]⟩
noncomputable def ho132:Obj:=⟨.type "range_iterator",none,.fields #[.int 917632 0,.int 0 0,.int 1 0],#[]⟩
noncomputable def ht150:BT:=(.node ho15 (.node ho32 (hl ho68) (hl ho104)) (.node ho50 (hl ho86) (hl ho132)))
noncomputable def ht151:BT:=(.node ho7 ht150 ht63)
noncomputable def ht152 (P:Params):BT:=(.node (ho91 P) ht151 (ht67 P))
noncomputable def ht153 (P:Params) (b:Bool):BT:=(.node (ho1 P) (ht152 P) (ht95 P b))
noncomputable def ht154:BT:=(.node ho31 (.node ho49 (hl ho85) (hl ho131)) (.node ho67 (hl ho103) .nil))
noncomputable def ht155:BT:=(.node ho14 ht85 ht154)
noncomputable def ht156:BT:=(.node ho6 ht84 ht155)
noncomputable def ht157 (P:Params):BT:=(.node (ho2 P) (ht99 P) ht156)
noncomputable def ht158 (P:Params) (b:Bool):BT:=(.node (ho0 P) (ht153 P b) (ht157 P))
noncomputable def tX6 (P:Params) (b:Bool):BT:=(ht158 P b)
noncomputable def ho133:Obj:=⟨.type "tuple",none,.seq #[] 0,#[]⟩
noncomputable def ho134:Obj:=⟨.type "StopIteration",none,.fields #[.ref 112,.none,.none,.none,.bool false,.none],#[]⟩
noncomputable def ho135:Obj:=⟨.type "list",none,.seq #[.int 917505 438,.int 917536 444,.int 917537 445,.int 917538 446,.int 917539 447,.int 917540 448,.int 917541 449,.int 917542 450,.int 917543 451,.int 917544 452,.int 917545 453,.int 917546 454,.int 917547 455,.int 917548 456,.int 917549 457,.int 917550 458,.int 917551 459,.int 917552 460,.int 917553 461,.int 917554 462,.int 917555 463,.int 917556 464,.int 917557 465,.int 917558 466,.int 917559 467,.int 917560 468,.int 917561 469,.int 917562 470,.int 917563 471,.int 917564 472,.int 917565 473,.int 917566 474,.int 917567 475,.int 917568 476,.int 917569 477,.int 917570 478,.int 917571 479,.int 917572 480,.int 917573 481,.int 917574 482,.int 917575 483,.int 917576 484,.int 917577 485,.int 917578 486,.int 917579 487,.int 917580 488,.int 917581 489,.int 917582 490,.int 917583 491,.int 917584 492,.int 917585 493,.int 917586 494,.int 917587 495,.int 917588 496,.int 917589 497,.int 917590 498,.int 917591 499,.int 917592 500,.int 917593 501,.int 917594 502,.int 917595 503,.int 917596 504,.int 917597 505,.int 917598 506,.int 917599 507,.int 917600 508,.int 917601 509,.int 917602 510,.int 917603 511,.int 917604 512,.int 917605 513,.int 917606 514,.int 917607 515,.int 917608 516,.int 917609 517,.int 917610 518,.int 917611 519,.int 917612 520,.int 917613 521,.int 917614 522,.int 917615 523,.int 917616 524,.int 917617 525,.int 917618 526,.int 917619 527,.int 917620 528,.int 917621 529,.int 917622 530,.int 917623 531,.int 917624 532,.int 917625 533,.int 917626 534,.int 917627 535,.int 917628 536,.int 917629 537,.int 917630 538,.int 917631 539] 0,#[]⟩
noncomputable def ho136 (b:Bool):Obj:=⟨.type "set",none,.set #[] 0 ⟨7,#[],#[],0,b,0,true⟩,#[]⟩
noncomputable def ho137:Obj:=⟨.type "list_iterator",none,.fields #[.ref 114,.int 0 0],#[]⟩
noncomputable def ht159 (b:Bool):BT:=(.node ho19 (.node ho38 (hl ho72) (hl ho108)) (.node ho54 (hl ho90) (hl (ho136 b))))
noncomputable def ht160 (P:Params) (b:Bool):BT:=(.node (ho28 P) (ht159 b) ht66)
noncomputable def ht161 (P:Params) (b:Bool):BT:=(.node (ho91 P) ht151 (ht160 P b))
noncomputable def ht162 (b:Bool):BT:=(.node ho17 (.node ho36 (hl ho70) (hl (ho106 b))) (.node ho52 (hl ho88) (hl ho134)))
noncomputable def ht163 (b:Bool):BT:=(.node ho9 (ht162 b) (ht70 b))
noncomputable def ht164 (P:Params) (b:Bool):BT:=(.node ho5 (ht163 b) (ht94 P b))
noncomputable def ht165 (P:Params) (b:Bool):BT:=(.node (ho1 P) (ht161 P b) (ht164 P b))
noncomputable def ht166:BT:=(.node ho16 (.node ho35 (hl ho69) (hl ho105)) (.node ho51 (hl ho87) (hl ho133)))
noncomputable def ht167:BT:=(.node ho8 ht166 ht77)
noncomputable def ht168 (P:Params):BT:=(.node (ho20 P) (.node ho39 (hl ho73) (hl ho109)) (.node ho55 (hl ho93) (hl ho137)))
noncomputable def ht169 (P:Params):BT:=(.node ho12 (ht168 P) ht97)
noncomputable def ht170 (P:Params):BT:=(.node ho4 ht167 (ht169 P))
noncomputable def ht171:BT:=(.node ho18 (.node ho37 (hl ho71) (hl ho107)) (.node ho53 (hl ho89) (hl ho135)))
noncomputable def ht172:BT:=(.node ho10 ht171 ht83)
noncomputable def ht173:BT:=(.node ho6 ht172 ht155)
noncomputable def ht174 (P:Params):BT:=(.node (ho2 P) (ht170 P) ht173)
noncomputable def ht175 (P:Params) (b:Bool):BT:=(.node (ho0 P) (ht165 P b) (ht174 P))
noncomputable def tX7 (P:Params) (b:Bool):BT:=(ht175 P b)
noncomputable def ho138 (b:Bool):Obj:=⟨.type "set",none,.set #[(917536,.int 917536 444),(917505,.int 917505 438),(917538,.int 917538 446),(917539,.int 917539 447),(917537,.int 917537 445),(917540,.int 917540 448),(917541,.int 917541 449),(917542,.int 917542 450),(917543,.int 917543 451),(917544,.int 917544 452),(917545,.int 917545 453),(917546,.int 917546 454),(917547,.int 917547 455),(917548,.int 917548 456),(917549,.int 917549 457),(917550,.int 917550 458),(917551,.int 917551 459)] 18 ⟨31,#[0,1,2,3,4,5,6,7,8,9,10,11,12,13,14,15,16],#[],0,b,1,true⟩,#[]⟩
noncomputable def ho139:Obj:=⟨.type "list_iterator",none,.fields #[.ref 114,.int 17 0],#[]⟩
noncomputable def ht176 (b:Bool):BT:=(.node ho19 (.node ho38 (hl ho72) (hl ho108)) (.node ho54 (hl ho90) (hl (ho138 b))))
noncomputable def ht177 (P:Params) (b:Bool):BT:=(.node (ho28 P) (ht176 b) ht66)
noncomputable def ht178 (P:Params) (b:Bool):BT:=(.node (ho91 P) ht151 (ht177 P b))
noncomputable def ht179 (P:Params) (b:Bool):BT:=(.node (ho1 P) (ht178 P b) (ht164 P b))
noncomputable def ht180 (P:Params):BT:=(.node (ho20 P) (.node ho39 (hl ho73) (hl ho109)) (.node ho55 (hl ho93) (hl ho139)))
noncomputable def ht181 (P:Params):BT:=(.node ho12 (ht180 P) ht97)
noncomputable def ht182 (P:Params):BT:=(.node ho4 ht167 (ht181 P))
noncomputable def ht183 (P:Params):BT:=(.node (ho2 P) (ht182 P) ht173)
noncomputable def ht184 (P:Params) (b:Bool):BT:=(.node (ho0 P) (ht179 P b) (ht183 P))
noncomputable def tX8 (P:Params) (b:Bool):BT:=(ht184 P b)
noncomputable def ho140 (b:Bool):Obj:=⟨.type "set",none,.set #[(917505,.int 917505 438),(917536,.int 917536 444),(917537,.int 917537 445),(917538,.int 917538 446),(917539,.int 917539 447),(917540,.int 917540 448),(917541,.int 917541 449),(917542,.int 917542 450),(917543,.int 917543 451),(917544,.int 917544 452),(917545,.int 917545 453),(917546,.int 917546 454),(917547,.int 917547 455),(917548,.int 917548 456),(917549,.int 917549 457),(917550,.int 917550 458),(917551,.int 917551 459),(917552,.int 917552 460),(917553,.int 917553 461),(917554,.int 917554 462),(917555,.int 917555 463),(917556,.int 917556 464),(917557,.int 917557 465),(917558,.int 917558 466),(917559,.int 917559 467),(917560,.int 917560 468),(917561,.int 917561 469),(917562,.int 917562 470),(917563,.int 917563 471),(917564,.int 917564 472),(917565,.int 917565 473),(917566,.int 917566 474),(917567,.int 917567 475)] 35 ⟨127,#[1,32,33,34,35,36,37,38,39,40,41,42,43,44,45,46,47,48,49,50,51,52,53,54,55,56,57,58,59,60,61,62,63],#[],0,b,2,true⟩,#[]⟩
noncomputable def ho141:Obj:=⟨.type "list_iterator",none,.fields #[.ref 114,.int 33 0],#[]⟩
noncomputable def ht185 (b:Bool):BT:=(.node ho19 (.node ho38 (hl ho72) (hl ho108)) (.node ho54 (hl ho90) (hl (ho140 b))))
noncomputable def ht186 (P:Params) (b:Bool):BT:=(.node (ho28 P) (ht185 b) ht66)
noncomputable def ht187 (P:Params) (b:Bool):BT:=(.node (ho91 P) ht151 (ht186 P b))
noncomputable def ht188 (P:Params) (b:Bool):BT:=(.node (ho1 P) (ht187 P b) (ht164 P b))
noncomputable def ht189 (P:Params):BT:=(.node (ho20 P) (.node ho39 (hl ho73) (hl ho109)) (.node ho55 (hl ho93) (hl ho141)))
noncomputable def ht190 (P:Params):BT:=(.node ho12 (ht189 P) ht97)
noncomputable def ht191 (P:Params):BT:=(.node ho4 ht167 (ht190 P))
noncomputable def ht192 (P:Params):BT:=(.node (ho2 P) (ht191 P) ht173)
noncomputable def ht193 (P:Params) (b:Bool):BT:=(.node (ho0 P) (ht188 P b) (ht192 P))
noncomputable def tX9 (P:Params) (b:Bool):BT:=(ht193 P b)
noncomputable def ho142 (b:Bool):Obj:=⟨.type "set",none,.set #[(917505,.int 917505 438),(917536,.int 917536 444),(917537,.int 917537 445),(917538,.int 917538 446),(917539,.int 917539 447),(917540,.int 917540 448),(917541,.int 917541 449),(917542,.int 917542 450),(917543,.int 917543 451),(917544,.int 917544 452),(917545,.int 917545 453),(917546,.int 917546 454),(917547,.int 917547 455),(917548,.int 917548 456),(917549,.int 917549 457),(917550,.int 917550 458),(917551,.int 917551 459),(917552,.int 917552 460),(917553,.int 917553 461),(917554,.int 917554 462),(917555,.int 917555 463),(917556,.int 917556 464),(917557,.int 917557 465),(917558,.int 917558 466),(917559,.int 917559 467),(917560,.int 917560 468),(917561,.int 917561 469),(917562,.int 917562 470),(917563,.int 917563 471),(917564,.int 917564 472),(917565,.int 917565 473),(917566,.int 917566 474),(917567,.int 917567 475),(917568,.int 917568 476),(917569,.int 917569 477),(917570,.int 917570 478),(917571,.int 917571 479),(917572,.int 917572 480),(917573,.int 917573 481),(917574,.int 917574 482),(917575,.int 917575 483),(917576,.int 917576 484),(917577,.int 917577 485),(917578,.int 917578 486),(917579,.int 917579 487),(917580,.int 917580 488),(917581,.int 917581 489),(917582,.int 917582 490),(917583,.int 917583 491)] 51 ⟨127,#[1,32,33,34,35,36,37,38,39,40,41,42,43,44,45,46,47,48,49,50,51,52,53,54,55,56,57,58,59,60,61,62,63,64,65,66,67,68,69,70,71,72,73,74,75,76,77,78,79],#[],0,b,2,true⟩,#[]⟩
noncomputable def ho143:Obj:=⟨.type "list_iterator",none,.fields #[.ref 114,.int 49 0],#[]⟩
noncomputable def ht194 (b:Bool):BT:=(.node ho19 (.node ho38 (hl ho72) (hl ho108)) (.node ho54 (hl ho90) (hl (ho142 b))))
noncomputable def ht195 (P:Params) (b:Bool):BT:=(.node (ho28 P) (ht194 b) ht66)
noncomputable def ht196 (P:Params) (b:Bool):BT:=(.node (ho91 P) ht151 (ht195 P b))
noncomputable def ht197 (P:Params) (b:Bool):BT:=(.node (ho1 P) (ht196 P b) (ht164 P b))
noncomputable def ht198 (P:Params):BT:=(.node (ho20 P) (.node ho39 (hl ho73) (hl ho109)) (.node ho55 (hl ho93) (hl ho143)))
noncomputable def ht199 (P:Params):BT:=(.node ho12 (ht198 P) ht97)
noncomputable def ht200 (P:Params):BT:=(.node ho4 ht167 (ht199 P))
noncomputable def ht201 (P:Params):BT:=(.node (ho2 P) (ht200 P) ht173)
noncomputable def ht202 (P:Params) (b:Bool):BT:=(.node (ho0 P) (ht197 P b) (ht201 P))
noncomputable def tX10 (P:Params) (b:Bool):BT:=(ht202 P b)
noncomputable def ho144 (b:Bool):Obj:=⟨.type "set",none,.set #[(917505,.int 917505 438),(917536,.int 917536 444),(917537,.int 917537 445),(917538,.int 917538 446),(917539,.int 917539 447),(917540,.int 917540 448),(917541,.int 917541 449),(917542,.int 917542 450),(917543,.int 917543 451),(917544,.int 917544 452),(917545,.int 917545 453),(917546,.int 917546 454),(917547,.int 917547 455),(917548,.int 917548 456),(917549,.int 917549 457),(917550,.int 917550 458),(917551,.int 917551 459),(917552,.int 917552 460),(917553,.int 917553 461),(917554,.int 917554 462),(917555,.int 917555 463),(917556,.int 917556 464),(917557,.int 917557 465),(917558,.int 917558 466),(917559,.int 917559 467),(917560,.int 917560 468),(917561,.int 917561 469),(917562,.int 917562 470),(917563,.int 917563 471),(917564,.int 917564 472),(917565,.int 917565 473),(917566,.int 917566 474),(917567,.int 917567 475),(917568,.int 917568 476),(917569,.int 917569 477),(917570,.int 917570 478),(917571,.int 917571 479),(917572,.int 917572 480),(917573,.int 917573 481),(917574,.int 917574 482),(917575,.int 917575 483),(917576,.int 917576 484),(917577,.int 917577 485),(917578,.int 917578 486),(917579,.int 917579 487),(917580,.int 917580 488),(917581,.int 917581 489),(917582,.int 917582 490),(917583,.int 917583 491),(917584,.int 917584 492),(917585,.int 917585 493),(917586,.int 917586 494),(917587,.int 917587 495),(917588,.int 917588 496),(917589,.int 917589 497),(917590,.int 917590 498),(917591,.int 917591 499),(917592,.int 917592 500),(917593,.int 917593 501),(917594,.int 917594 502),(917595,.int 917595 503),(917596,.int 917596 504),(917597,.int 917597 505),(917598,.int 917598 506),(917599,.int 917599 507)] 67 ⟨127,#[1,32,33,34,35,36,37,38,39,40,41,42,43,44,45,46,47,48,49,50,51,52,53,54,55,56,57,58,59,60,61,62,63,64,65,66,67,68,69,70,71,72,73,74,75,76,77,78,79,80,81,82,83,84,85,86,87,88,89,90,91,92,93,94,95],#[],0,b,2,true⟩,#[]⟩
noncomputable def ho145:Obj:=⟨.type "list_iterator",none,.fields #[.ref 114,.int 65 0],#[]⟩
noncomputable def ht203 (b:Bool):BT:=(.node ho19 (.node ho38 (hl ho72) (hl ho108)) (.node ho54 (hl ho90) (hl (ho144 b))))
noncomputable def ht204 (P:Params) (b:Bool):BT:=(.node (ho28 P) (ht203 b) ht66)
noncomputable def ht205 (P:Params) (b:Bool):BT:=(.node (ho91 P) ht151 (ht204 P b))
noncomputable def ht206 (P:Params) (b:Bool):BT:=(.node (ho1 P) (ht205 P b) (ht164 P b))
noncomputable def ht207 (P:Params):BT:=(.node (ho20 P) (.node ho39 (hl ho73) (hl ho109)) (.node ho55 (hl ho93) (hl ho145)))
noncomputable def ht208 (P:Params):BT:=(.node ho12 (ht207 P) ht97)
noncomputable def ht209 (P:Params):BT:=(.node ho4 ht167 (ht208 P))
noncomputable def ht210 (P:Params):BT:=(.node (ho2 P) (ht209 P) ht173)
noncomputable def ht211 (P:Params) (b:Bool):BT:=(.node (ho0 P) (ht206 P b) (ht210 P))
noncomputable def tX11 (P:Params) (b:Bool):BT:=(ht211 P b)
noncomputable def ho146 (b:Bool):Obj:=⟨.type "set",none,.set #[(917505,.int 917505 438),(917536,.int 917536 444),(917537,.int 917537 445),(917538,.int 917538 446),(917539,.int 917539 447),(917540,.int 917540 448),(917541,.int 917541 449),(917542,.int 917542 450),(917543,.int 917543 451),(917544,.int 917544 452),(917545,.int 917545 453),(917546,.int 917546 454),(917547,.int 917547 455),(917548,.int 917548 456),(917549,.int 917549 457),(917550,.int 917550 458),(917551,.int 917551 459),(917552,.int 917552 460),(917553,.int 917553 461),(917554,.int 917554 462),(917555,.int 917555 463),(917556,.int 917556 464),(917557,.int 917557 465),(917558,.int 917558 466),(917559,.int 917559 467),(917560,.int 917560 468),(917561,.int 917561 469),(917562,.int 917562 470),(917563,.int 917563 471),(917564,.int 917564 472),(917565,.int 917565 473),(917566,.int 917566 474),(917567,.int 917567 475),(917568,.int 917568 476),(917569,.int 917569 477),(917570,.int 917570 478),(917571,.int 917571 479),(917572,.int 917572 480),(917573,.int 917573 481),(917574,.int 917574 482),(917575,.int 917575 483),(917576,.int 917576 484),(917577,.int 917577 485),(917578,.int 917578 486),(917579,.int 917579 487),(917580,.int 917580 488),(917581,.int 917581 489),(917582,.int 917582 490),(917583,.int 917583 491),(917584,.int 917584 492),(917585,.int 917585 493),(917586,.int 917586 494),(917587,.int 917587 495),(917588,.int 917588 496),(917589,.int 917589 497),(917590,.int 917590 498),(917591,.int 917591 499),(917592,.int 917592 500),(917593,.int 917593 501),(917594,.int 917594 502),(917595,.int 917595 503),(917596,.int 917596 504),(917597,.int 917597 505),(917598,.int 917598 506),(917599,.int 917599 507),(917600,.int 917600 508),(917601,.int 917601 509),(917602,.int 917602 510),(917603,.int 917603 511),(917604,.int 917604 512),(917605,.int 917605 513),(917606,.int 917606 514),(917607,.int 917607 515),(917608,.int 917608 516),(917609,.int 917609 517),(917610,.int 917610 518)] 78 ⟨127,#[1,32,33,34,35,36,37,38,39,40,41,42,43,44,45,46,47,48,49,50,51,52,53,54,55,56,57,58,59,60,61,62,63,64,65,66,67,68,69,70,71,72,73,74,75,76,77,78,79,80,81,82,83,84,85,86,87,88,89,90,91,92,93,94,95,96,97,98,99,100,101,102,103,104,105,106],#[],0,b,2,true⟩,#[]⟩
noncomputable def ho147:Obj:=⟨.type "list_iterator",none,.fields #[.ref 114,.int 76 0],#[]⟩
noncomputable def ht212 (b:Bool):BT:=(.node ho19 (.node ho38 (hl ho72) (hl ho108)) (.node ho54 (hl ho90) (hl (ho146 b))))
noncomputable def ht213 (P:Params) (b:Bool):BT:=(.node (ho28 P) (ht212 b) ht66)
noncomputable def ht214 (P:Params) (b:Bool):BT:=(.node (ho91 P) ht151 (ht213 P b))
noncomputable def ht215 (P:Params) (b:Bool):BT:=(.node (ho1 P) (ht214 P b) (ht164 P b))
noncomputable def ht216 (P:Params):BT:=(.node (ho20 P) (.node ho39 (hl ho73) (hl ho109)) (.node ho55 (hl ho93) (hl ho147)))
noncomputable def ht217 (P:Params):BT:=(.node ho12 (ht216 P) ht97)
noncomputable def ht218 (P:Params):BT:=(.node ho4 ht167 (ht217 P))
noncomputable def ht219 (P:Params):BT:=(.node (ho2 P) (ht218 P) ht173)
noncomputable def ht220 (P:Params) (b:Bool):BT:=(.node (ho0 P) (ht215 P b) (ht219 P))
noncomputable def tX12 (P:Params) (b:Bool):BT:=(ht220 P b)
noncomputable def ho148 (b:Bool):Obj:=⟨.type "set",none,.set #[(917505,.int 917505 438),(917536,.int 917536 444),(917537,.int 917537 445),(917538,.int 917538 446),(917539,.int 917539 447),(917540,.int 917540 448),(917541,.int 917541 449),(917542,.int 917542 450),(917543,.int 917543 451),(917544,.int 917544 452),(917545,.int 917545 453),(917546,.int 917546 454),(917547,.int 917547 455),(917548,.int 917548 456),(917549,.int 917549 457),(917550,.int 917550 458),(917551,.int 917551 459),(917552,.int 917552 460),(917553,.int 917553 461),(917554,.int 917554 462),(917555,.int 917555 463),(917556,.int 917556 464),(917557,.int 917557 465),(917558,.int 917558 466),(917559,.int 917559 467),(917560,.int 917560 468),(917561,.int 917561 469),(917562,.int 917562 470),(917563,.int 917563 471),(917564,.int 917564 472),(917565,.int 917565 473),(917566,.int 917566 474),(917567,.int 917567 475),(917568,.int 917568 476),(917569,.int 917569 477),(917570,.int 917570 478),(917571,.int 917571 479),(917572,.int 917572 480),(917573,.int 917573 481),(917574,.int 917574 482),(917575,.int 917575 483),(917576,.int 917576 484),(917577,.int 917577 485),(917578,.int 917578 486),(917579,.int 917579 487),(917580,.int 917580 488),(917581,.int 917581 489),(917582,.int 917582 490),(917583,.int 917583 491),(917584,.int 917584 492),(917585,.int 917585 493),(917586,.int 917586 494),(917587,.int 917587 495),(917588,.int 917588 496),(917589,.int 917589 497),(917590,.int 917590 498),(917591,.int 917591 499),(917592,.int 917592 500),(917593,.int 917593 501),(917594,.int 917594 502),(917595,.int 917595 503),(917596,.int 917596 504),(917597,.int 917597 505),(917598,.int 917598 506),(917599,.int 917599 507),(917600,.int 917600 508),(917601,.int 917601 509),(917602,.int 917602 510),(917603,.int 917603 511),(917604,.int 917604 512),(917605,.int 917605 513),(917606,.int 917606 514),(917607,.int 917607 515),(917608,.int 917608 516),(917609,.int 917609 517),(917610,.int 917610 518),(917611,.int 917611 519)] 80 ⟨511,#[1,32,33,34,35,36,37,38,39,40,41,42,43,44,45,46,47,48,49,50,51,52,53,54,55,56,57,58,59,60,61,62,63,64,65,66,67,68,69,70,71,72,73,74,75,76,77,78,79,80,81,82,83,84,85,86,87,88,89,90,91,92,93,94,95,96,97,98,99,100,101,102,103,104,105,106,107],#[],0,b,3,true⟩,#[]⟩
noncomputable def ho149:Obj:=⟨.type "list_iterator",none,.fields #[.ref 114,.int 77 0],#[]⟩
noncomputable def ht221 (b:Bool):BT:=(.node ho19 (.node ho38 (hl ho72) (hl ho108)) (.node ho54 (hl ho90) (hl (ho148 b))))
noncomputable def ht222 (P:Params) (b:Bool):BT:=(.node (ho28 P) (ht221 b) ht66)
noncomputable def ht223 (P:Params) (b:Bool):BT:=(.node (ho91 P) ht151 (ht222 P b))
noncomputable def ht224 (P:Params) (b:Bool):BT:=(.node (ho1 P) (ht223 P b) (ht164 P b))
noncomputable def ht225 (P:Params):BT:=(.node (ho20 P) (.node ho39 (hl ho73) (hl ho109)) (.node ho55 (hl ho93) (hl ho149)))
noncomputable def ht226 (P:Params):BT:=(.node ho12 (ht225 P) ht97)
noncomputable def ht227 (P:Params):BT:=(.node ho4 ht167 (ht226 P))
noncomputable def ht228 (P:Params):BT:=(.node (ho2 P) (ht227 P) ht173)
noncomputable def ht229 (P:Params) (b:Bool):BT:=(.node (ho0 P) (ht224 P b) (ht228 P))
noncomputable def tX13 (P:Params) (b:Bool):BT:=(ht229 P b)
noncomputable def ho150 (b:Bool):Obj:=⟨.type "set",none,.set #[(917505,.int 917505 438),(917536,.int 917536 444),(917537,.int 917537 445),(917538,.int 917538 446),(917539,.int 917539 447),(917540,.int 917540 448),(917541,.int 917541 449),(917542,.int 917542 450),(917543,.int 917543 451),(917544,.int 917544 452),(917545,.int 917545 453),(917546,.int 917546 454),(917547,.int 917547 455),(917548,.int 917548 456),(917549,.int 917549 457),(917550,.int 917550 458),(917551,.int 917551 459),(917552,.int 917552 460),(917553,.int 917553 461),(917554,.int 917554 462),(917555,.int 917555 463),(917556,.int 917556 464),(917557,.int 917557 465),(917558,.int 917558 466),(917559,.int 917559 467),(917560,.int 917560 468),(917561,.int 917561 469),(917562,.int 917562 470),(917563,.int 917563 471),(917564,.int 917564 472),(917565,.int 917565 473),(917566,.int 917566 474),(917567,.int 917567 475),(917568,.int 917568 476),(917569,.int 917569 477),(917570,.int 917570 478),(917571,.int 917571 479),(917572,.int 917572 480),(917573,.int 917573 481),(917574,.int 917574 482),(917575,.int 917575 483),(917576,.int 917576 484),(917577,.int 917577 485),(917578,.int 917578 486),(917579,.int 917579 487),(917580,.int 917580 488),(917581,.int 917581 489),(917582,.int 917582 490),(917583,.int 917583 491),(917584,.int 917584 492),(917585,.int 917585 493),(917586,.int 917586 494),(917587,.int 917587 495),(917588,.int 917588 496),(917589,.int 917589 497),(917590,.int 917590 498),(917591,.int 917591 499),(917592,.int 917592 500),(917593,.int 917593 501),(917594,.int 917594 502),(917595,.int 917595 503),(917596,.int 917596 504),(917597,.int 917597 505),(917598,.int 917598 506),(917599,.int 917599 507),(917600,.int 917600 508),(917601,.int 917601 509),(917602,.int 917602 510),(917603,.int 917603 511),(917604,.int 917604 512),(917605,.int 917605 513),(917606,.int 917606 514),(917607,.int 917607 515),(917608,.int 917608 516),(917609,.int 917609 517),(917610,.int 917610 518),(917611,.int 917611 519),(917612,.int 917612 520),(917613,.int 917613 521),(917614,.int 917614 522),(917615,.int 917615 523),(917616,.int 917616 524),(917617,.int 917617 525),(917618,.int 917618 526),(917619,.int 917619 527),(917620,.int 917620 528),(917621,.int 917621 529)] 90 ⟨511,#[1,32,33,34,35,36,37,38,39,40,41,42,43,44,45,46,47,48,49,50,51,52,53,54,55,56,57,58,59,60,61,62,63,64,65,66,67,68,69,70,71,72,73,74,75,76,77,78,79,80,81,82,83,84,85,86,87,88,89,90,91,92,93,94,95,96,97,98,99,100,101,102,103,104,105,106,107,108,109,110,111,112,113,114,115,116,117],#[],0,b,3,true⟩,#[]⟩
noncomputable def ho151:Obj:=⟨.type "list_iterator",none,.fields #[.ref 114,.int 87 0],#[]⟩
noncomputable def ht230 (b:Bool):BT:=(.node ho19 (.node ho38 (hl ho72) (hl ho108)) (.node ho54 (hl ho90) (hl (ho150 b))))
noncomputable def ht231 (P:Params) (b:Bool):BT:=(.node (ho28 P) (ht230 b) ht66)
noncomputable def ht232 (P:Params) (b:Bool):BT:=(.node (ho91 P) ht151 (ht231 P b))
noncomputable def ht233 (P:Params) (b:Bool):BT:=(.node (ho1 P) (ht232 P b) (ht164 P b))
noncomputable def ht234 (P:Params):BT:=(.node (ho20 P) (.node ho39 (hl ho73) (hl ho109)) (.node ho55 (hl ho93) (hl ho151)))
noncomputable def ht235 (P:Params):BT:=(.node ho12 (ht234 P) ht97)
noncomputable def ht236 (P:Params):BT:=(.node ho4 ht167 (ht235 P))
noncomputable def ht237 (P:Params):BT:=(.node (ho2 P) (ht236 P) ht173)
noncomputable def ht238 (P:Params) (b:Bool):BT:=(.node (ho0 P) (ht233 P b) (ht237 P))
noncomputable def tX14 (P:Params) (b:Bool):BT:=(ht238 P b)
noncomputable def ho152 (b:Bool):Obj:=⟨.type "set",none,.set #[(917505,.int 917505 438),(917536,.int 917536 444),(917537,.int 917537 445),(917538,.int 917538 446),(917539,.int 917539 447),(917540,.int 917540 448),(917541,.int 917541 449),(917542,.int 917542 450),(917543,.int 917543 451),(917544,.int 917544 452),(917545,.int 917545 453),(917546,.int 917546 454),(917547,.int 917547 455),(917548,.int 917548 456),(917549,.int 917549 457),(917550,.int 917550 458),(917551,.int 917551 459),(917552,.int 917552 460),(917553,.int 917553 461),(917554,.int 917554 462),(917555,.int 917555 463),(917556,.int 917556 464),(917557,.int 917557 465),(917558,.int 917558 466),(917559,.int 917559 467),(917560,.int 917560 468),(917561,.int 917561 469),(917562,.int 917562 470),(917563,.int 917563 471),(917564,.int 917564 472),(917565,.int 917565 473),(917566,.int 917566 474),(917567,.int 917567 475),(917568,.int 917568 476),(917569,.int 917569 477),(917570,.int 917570 478),(917571,.int 917571 479),(917572,.int 917572 480),(917573,.int 917573 481),(917574,.int 917574 482),(917575,.int 917575 483),(917576,.int 917576 484),(917577,.int 917577 485),(917578,.int 917578 486),(917579,.int 917579 487),(917580,.int 917580 488),(917581,.int 917581 489),(917582,.int 917582 490),(917583,.int 917583 491),(917584,.int 917584 492),(917585,.int 917585 493),(917586,.int 917586 494),(917587,.int 917587 495),(917588,.int 917588 496),(917589,.int 917589 497),(917590,.int 917590 498),(917591,.int 917591 499),(917592,.int 917592 500),(917593,.int 917593 501),(917594,.int 917594 502),(917595,.int 917595 503),(917596,.int 917596 504),(917597,.int 917597 505),(917598,.int 917598 506),(917599,.int 917599 507),(917600,.int 917600 508),(917601,.int 917601 509),(917602,.int 917602 510),(917603,.int 917603 511),(917604,.int 917604 512),(917605,.int 917605 513),(917606,.int 917606 514),(917607,.int 917607 515),(917608,.int 917608 516),(917609,.int 917609 517),(917610,.int 917610 518),(917611,.int 917611 519),(917612,.int 917612 520),(917613,.int 917613 521),(917614,.int 917614 522),(917615,.int 917615 523),(917616,.int 917616 524),(917617,.int 917617 525),(917618,.int 917618 526),(917619,.int 917619 527),(917620,.int 917620 528),(917621,.int 917621 529),(917622,.int 917622 530),(917623,.int 917623 531),(917624,.int 917624 532),(917625,.int 917625 533),(917626,.int 917626 534),(917627,.int 917627 535),(917628,.int 917628 536),(917629,.int 917629 537),(917630,.int 917630 538),(917631,.int 917631 539)] 100 ⟨511,#[1,32,33,34,35,36,37,38,39,40,41,42,43,44,45,46,47,48,49,50,51,52,53,54,55,56,57,58,59,60,61,62,63,64,65,66,67,68,69,70,71,72,73,74,75,76,77,78,79,80,81,82,83,84,85,86,87,88,89,90,91,92,93,94,95,96,97,98,99,100,101,102,103,104,105,106,107,108,109,110,111,112,113,114,115,116,117,118,119,120,121,122,123,124,125,126,127],#[],0,b,3,true⟩,#[]⟩
noncomputable def ho153:Obj:=⟨.type "list_iterator",none,.fields #[.ref 114,.int 97 0],#[]⟩
noncomputable def ht239 (b:Bool):BT:=(.node ho19 (.node ho38 (hl ho72) (hl ho108)) (.node ho54 (hl ho90) (hl (ho152 b))))
noncomputable def ht240 (P:Params) (b:Bool):BT:=(.node (ho28 P) (ht239 b) ht66)
noncomputable def ht241 (P:Params) (b:Bool):BT:=(.node (ho91 P) ht151 (ht240 P b))
noncomputable def ht242 (P:Params) (b:Bool):BT:=(.node (ho1 P) (ht241 P b) (ht164 P b))
noncomputable def ht243 (P:Params):BT:=(.node (ho20 P) (.node ho39 (hl ho73) (hl ho109)) (.node ho55 (hl ho93) (hl ho153)))
noncomputable def ht244 (P:Params):BT:=(.node ho12 (ht243 P) ht97)
noncomputable def ht245 (P:Params):BT:=(.node ho4 ht167 (ht244 P))
noncomputable def ht246 (P:Params):BT:=(.node (ho2 P) (ht245 P) ht173)
noncomputable def ht247 (P:Params) (b:Bool):BT:=(.node (ho0 P) (ht242 P b) (ht246 P))
noncomputable def tX15 (P:Params) (b:Bool):BT:=(ht247 P b)
noncomputable def ho154 (P:Params):Obj:=⟨.type "dict",none,.dict #[hd P "__name__" 165 (hs "cpy313.stringprep" 332),hd P "__doc__" 166 .none,hd P "__package__" 167 .none,hd P "__loader__" 168 (.builtin "__main__.__loader__#opaque"),hd P "__spec__" 169 .none,hd P "__annotations__" 170 (.ref 6),hd P "__builtins__" 171 (.ref 4),hd P "__file__" 173 (hs "/claim/cut.py" 172),hd P "__cached__" 174 .none,hd P "_sre" 275 (.ref 12),hd P "_iter_escaped_chars" 293 (.ref 38),hd P "_strip_quoted_realnames" 305 (.ref 45),hd P "_check_parenthesis" 315 (.ref 52),hd P "ELLIPSIS_MARKER" 319 (hs "..." 318),hd P "_ellipsis_match" 331 (.ref 59),hd P "c6_set" 347 (.ref 61),hd P "in_table_c6" 354 (.ref 71),hd P "c7_set" 382 (.ref 73),hd P "in_table_c7" 389 (.ref 83),hd P "c8_set" 430 (.ref 97),hd P "in_table_c8" 437 (.ref 107),hd P "c9_set" 637 (.ref 115)] 22,#[]⟩
noncomputable def ho155:Obj:=⟨.type "list_iterator",none,.fields #[.none,.int 97 0],#[]⟩
noncomputable def ho156:Obj:=⟨.type "tuple",none,.seq #[] 0,#[]⟩
noncomputable def ho157:Obj:=⟨.type "StopIteration",none,.fields #[.ref 117,.none,.none,.none,.bool false,.none],#[]⟩
noncomputable def ht248 (P:Params) (b:Bool):BT:=(.node (ho154 P) ht151 (ht240 P b))
noncomputable def ht249 (P:Params):BT:=(.node (ho21 P) (.node ho40 (hl ho74) (hl ho110)) (.node ho56 (hl ho94) (hl ho156)))
noncomputable def ht250 (P:Params) (b:Bool):BT:=(.node (ho13 P) (ht249 P) (ht93 b))
noncomputable def ht251 (P:Params) (b:Bool):BT:=(.node ho5 (ht163 b) (ht250 P b))
noncomputable def ht252 (P:Params) (b:Bool):BT:=(.node (ho1 P) (ht248 P b) (ht251 P b))
noncomputable def ht253 (P:Params):BT:=(.node (ho20 P) (.node ho39 (hl ho73) (hl ho109)) (.node ho55 (hl ho93) (hl ho155)))
noncomputable def ht254 (P:Params):BT:=(.node ho12 (ht253 P) ht97)
noncomputable def ht255 (P:Params):BT:=(.node ho4 ht167 (ht254 P))
noncomputable def ht256:BT:=(.node ho22 (.node ho41 (hl ho75) (hl ho111)) (.node ho57 (hl ho95) (hl ho157)))
noncomputable def ht257:BT:=(.node ho14 ht256 ht154)
noncomputable def ht258:BT:=(.node ho6 ht172 ht257)
noncomputable def ht259 (P:Params):BT:=(.node (ho2 P) (ht255 P) ht258)
noncomputable def ht260 (P:Params) (b:Bool):BT:=(.node (ho0 P) (ht252 P b) (ht259 P))
noncomputable def tG4 (P:Params) (b:Bool):BT:=(ht260 P b)
noncomputable def ho158 (P:Params):Obj:=⟨.type "dict",none,.dict #[hd P "__name__" 165 (hs "cpy313.wsgiref.headers" 645),hd P "__doc__" 166 .none,hd P "__package__" 167 .none,hd P "__loader__" 168 (.builtin "__main__.__loader__#opaque"),hd P "__spec__" 169 .none,hd P "__annotations__" 170 (.ref 6),hd P "__builtins__" 171 (.ref 4),hd P "__file__" 173 (hs "/claim/cut.py" 172),hd P "__cached__" 174 .none,hd P "_sre" 275 (.ref 12),hd P "_iter_escaped_chars" 293 (.ref 38),hd P "_strip_quoted_realnames" 305 (.ref 45),hd P "_check_parenthesis" 315 (.ref 52),hd P "ELLIPSIS_MARKER" 319 (hs "..." 318),hd P "_ellipsis_match" 331 (.ref 59),hd P "c6_set" 347 (.ref 61),hd P "in_table_c6" 354 (.ref 71),hd P "c7_set" 382 (.ref 73),hd P "in_table_c7" 389 (.ref 83),hd P "c8_set" 430 (.ref 97),hd P "in_table_c8" 437 (.ref 107),hd P "c9_set" 637 (.ref 115),hd P "in_table_c9" 644 (.ref 125),hd P "tspecials" 680 (.ref 130),hd P "_name_disallowed_re" 706 (.ref 135),hd P "_value_disallowed_re" 740 (.ref 140),hd P "_formatparam" 750 (.ref 148)] 27,#[]⟩
noncomputable def ho159:Obj:=⟨.none,none,.fields #[.int 3 0,.int 0 0,.ref 37,.int 16 0,.int 0 0,.ref 44,.int 34 0,.int 0 0,.ref 51,.int 47 0,.int 0 0,.ref 58,.int 77 0,.int 0 0,.ref 70,.int 80 0,.int 0 0,.ref 82,.int 83 0,.int 0 0,.ref 106,.int 86 0,.int 0 0,.ref 124,.int 92 0,.int 0 0,.ref 147],#[]⟩
noncomputable def ho160:Obj:=⟨.type "tuple",none,.seq #[] 0,#[]⟩
noncomputable def ho161:Obj:=⟨.none,none,.fields #[],#[]⟩
noncomputable def ho162:Obj:=⟨.type "tuple",none,.seq #[hs "code" 641] 0,#[]⟩
noncomputable def ho163:Obj:=⟨.type "tuple",none,.seq #[] 0,#[]⟩
noncomputable def ho164:Obj:=⟨.none,none,.func (hf "in_table_c9" "in_table_c9" (fnParams 16) (fnBody 16) (fnScope 16) 0 .none .none .none .none .none),#[]⟩
noncomputable def ho165:Obj:=⟨.type "code",none,.fields #[hs "in_table_c9" 638,hs "in_table_c9" 639,hs "/claim/cut.py" 640,.int 86 0,.int 1 0,.int 0 0,.int 0 0,.int 3 0,.ref 119,.bool true,.int 276 0,.ref 120,.none,.ref 121,.ref 122,.ref 123,.int 642 0,.int 86 0,hs "/claim/cut.py" 643],#[]⟩
noncomputable def ho166:Obj:=⟨.type "function",none,.func (hf "in_table_c9" "in_table_c9" (fnParams 16) (fnBody 16) (fnScope 16) 3 .none .none .none (hs "cpy313.stringprep" 332) (.ref 124)),#[]⟩
noncomputable def ho167:Obj:=⟨.type "list",none,.seq #[.int 14 650,.int 14 651,.int 4 652,.int 1 653,.int 1 654,.int 9 655,.int 0 656,.int 4227896069 657,.int 939524097 658,.int 0 659,.int 0 660,.int 0 661,.int 0 662,.int 0 663,.int 0 664,.int 13 665,.int 11 666,.int 9 667,.int 0 668,.int 4227896069 669,.int 939524097 670,.int 0 671,.int 0 672,.int 0 673,.int 0 674,.int 0 675,.int 0 676,.int 1 677] 0,#[]⟩
noncomputable def ho168:Obj:=⟨.type "dict",none,.dict #[] 0,#[]⟩
noncomputable def ho169:Obj:=⟨.type "tuple",none,.seq #[.none] 0,#[]⟩
noncomputable def ho170:Obj:=⟨.type "tuple",none,.seq #[.int 14 0,.int 14 0,.int 4 0,.int 1 0,.int 1 0,.int 9 0,.int 0 0,.int 4227896069 0,.int 939524097 0,.int 0 0,.int 0 0,.int 0 0,.int 0 0,.int 0 0,.int 0 0,.int 13 0,.int 11 0,.int 9 0,.int 0 0,.int 4227896069 0,.int 939524097 0,.int 0 0,.int 0 0,.int 0 0,.int 0 0,.int 0 0,.int 0 0,.int 1 0] 0,#[]⟩
noncomputable def ho171:Obj:=⟨.type "re.Pattern",none,.fields #[hs "[ \\(\\)<>@,;:\\\\\"/\\[\\]\\?=]" 648,.int 32 679,.int 0 0,.none,.none,.ref 129,.int 0 0],#[]⟩
noncomputable def ho172:Obj:=⟨.type "list",none,.seq #[.int 14 684,.int 10 685,.int 4 686,.int 1 687,.int 1 688,.int 22 689,.int 0 690,.int 31 691,.int 16 692,.int 127 693,.int 0 694,.int 13 695,.int 7 696,.int 22 697,.int 0 698,.int 31 699,.int 16 700,.int 127 701,.int 0 702,.int 1 703] 0,#[]⟩
noncomputable def ho173:Obj:=⟨.type "dict",none,.dict #[] 0,#[]⟩
noncomputable def ho174:Obj:=⟨.type "tuple",none,.seq #[.none] 0,#[]⟩
noncomputable def ho175:Obj:=⟨.type "tuple",none,.seq #[.int 14 0,.int 10 0,.int 4 0,.int 1 0,.int 1 0,.int 22 0,.int 0 0,.int 31 0,.int 16 0,.int 127 0,.int 0 0,.int 13 0,.int 7 0,.int 22 0,.int 0 0,.int 31 0,.int 16 0,.int 127 0,.int 0 0,.int 1 0] 0,#[]⟩
noncomputable def ho176:Obj:=⟨.type "re.Pattern",none,.fields #[hs "[\\x00-\\x1F\\x7F]" 682,.int 32 705,.int 0 0,.none,.none,.ref 134,.int 0 0],#[]⟩
noncomputable def ho177:Obj:=⟨.type "list",none,.seq #[.int 14 710,.int 14 711,.int 4 712,.int 1 713,.int 1 714,.int 9 715,.int 4294966783 716,.int 0 717,.int 0 718,.int 2147483648 719,.int 0 720,.int 0 721,.int 0 722,.int 0 723,.int 0 724,.int 13 725,.int 11 726,.int 9 727,.int 4294966783 728,.int 0 729,.int 0 730,.int 2147483648 731,.int 0 732,.int 0 733,.int 0 734,.int 0 735,.int 0 736,.int 1 737] 0,#[]⟩
noncomputable def ho178:Obj:=⟨.type "dict",none,.dict #[] 0,#[]⟩
noncomputable def ho179:Obj:=⟨.type "tuple",none,.seq #[.none] 0,#[]⟩
noncomputable def ho180:Obj:=⟨.type "tuple",none,.seq #[.int 14 0,.int 14 0,.int 4 0,.int 1 0,.int 1 0,.int 9 0,.int 4294966783 0,.int 0 0,.int 0 0,.int 2147483648 0,.int 0 0,.int 0 0,.int 0 0,.int 0 0,.int 0 0,.int 13 0,.int 11 0,.int 9 0,.int 4294966783 0,.int 0 0,.int 0 0,.int 2147483648 0,.int 0 0,.int 0 0,.int 0 0,.int 0 0,.int 0 0,.int 1 0] 0,#[]⟩
noncomputable def ho181:Obj:=⟨.type "re.Pattern",none,.fields #[hs "[\\x00-\\x08\\x0A-\\x1F\\x7F]" 708,.int 32 739,.int 0 0,.none,.none,.ref 139,.int 0 0],#[]⟩
noncomputable def ho182:Obj:=⟨.type "tuple",none,.seq #[.none,.int 1 741] 0,#[]⟩
noncomputable def ho183:Obj:=⟨.type "tuple",none,.seq #[] 0,#[]⟩
noncomputable def ho184:Obj:=⟨.none,none,.fields #[],#[]⟩
noncomputable def ho185:Obj:=⟨.type "tuple",none,.seq #[hs "param" 745,hs "value" 746,hs "quote" 747] 0,#[]⟩
noncomputable def ho186:Obj:=⟨.type "tuple",none,.seq #[] 0,#[]⟩
noncomputable def ho187:Obj:=⟨.none,none,.func (hf "_formatparam" "_formatparam" (fnParams 21) (fnBody 21) (fnScope 21) 0 .none .none .none .none .none),#[]⟩
noncomputable def ho188:Obj:=⟨.type "code",none,.fields #[hs "_formatparam" 742,hs "_formatparam" 743,hs "/claim/cut.py" 744,.int 92 0,.int 3 0,.int 0 0,.int 0 0,.int 3 0,.ref 142,.bool true,.int 276 0,.ref 143,.none,.ref 144,.ref 145,.ref 146,.int 748 0,.int 92 0,hs "/claim/cut.py" 749],#[]⟩
noncomputable def ho189:Obj:=⟨.type "function",none,.func (hf "_formatparam" "_formatparam" (fnParams 21) (fnBody 21) (fnScope 21) 3 (.ref 141) .none .none (hs "cpy313.wsgiref.headers" 645) (.ref 147)),#[]⟩
noncomputable def ht261:BT:=(.node ho15 (.node ho32 (.node ho68 (hl ho168) .nil) (hl ho104)) (.node ho50 (.node ho86 (hl ho184) .nil) (hl ho132)))
noncomputable def ht262:BT:=(.node ho23 (.node ho42 (.node ho76 (hl ho176) .nil) (hl ho112)) (.node ho58 (hl ho96) (hl ho160)))
noncomputable def ht263:BT:=(.node ho7 ht261 ht262)
noncomputable def ht264 (b:Bool):BT:=(.node ho19 (.node ho38 (.node ho72 (hl ho172) .nil) (hl ho108)) (.node ho54 (.node ho90 (hl ho188) .nil) (hl (ho152 b))))
noncomputable def ht265:BT:=(.node ho27 (.node ho46 (.node ho82 (hl ho180) .nil) (hl ho116)) (.node ho62 (hl ho100) (hl ho164)))
noncomputable def ht266 (P:Params) (b:Bool):BT:=(.node (ho28 P) (ht264 b) ht265)
noncomputable def ht267 (P:Params) (b:Bool):BT:=(.node (ho158 P) ht263 (ht266 P b))
noncomputable def ht268 (b:Bool):BT:=(.node ho17 (.node ho36 (.node ho70 (hl ho170) .nil) (hl (ho106 b))) (.node ho52 (.node ho88 (hl ho186) .nil) (hl ho134)))
noncomputable def ht269 (b:Bool):BT:=(.node ho25 (.node ho44 (.node (ho80 b) (hl ho178) .nil) (hl ho114)) (.node ho60 (hl ho98) (hl ho162)))
noncomputable def ht270 (b:Bool):BT:=(.node ho9 (ht268 b) (ht269 b))
noncomputable def ht271 (P:Params):BT:=(.node (ho21 P) (.node ho40 (.node ho74 (hl ho174) .nil) (hl ho110)) (.node ho56 (hl ho94) (hl ho156)))
noncomputable def ht272 (b:Bool):BT:=(.node ho159 (.node ho48 (.node ho84 (hl ho182) .nil) (hl ho118)) (.node (ho66 b) (hl ho102) (hl ho166)))
noncomputable def ht273 (P:Params) (b:Bool):BT:=(.node (ho13 P) (ht271 P) (ht272 b))
noncomputable def ht274 (P:Params) (b:Bool):BT:=(.node ho5 (ht270 b) (ht273 P b))
noncomputable def ht275 (P:Params) (b:Bool):BT:=(.node (ho1 P) (ht267 P b) (ht274 P b))
noncomputable def ht276:BT:=(.node ho16 (.node ho35 (.node ho69 (hl ho169) .nil) (hl ho105)) (.node ho51 (.node ho87 (hl ho185) .nil) (hl ho133)))
noncomputable def ht277:BT:=(.node ho24 (.node ho43 (.node ho79 (hl ho177) .nil) (hl ho113)) (.node ho59 (hl ho97) (hl ho161)))
noncomputable def ht278:BT:=(.node ho8 ht276 ht277)
noncomputable def ht279 (P:Params):BT:=(.node (ho20 P) (.node ho39 (.node ho73 (hl ho173) .nil) (hl ho109)) (.node ho55 (.node ho93 (hl ho189) .nil) (hl ho155)))
noncomputable def ht280:BT:=(.node ho29 (.node ho47 (.node ho83 (hl ho181) .nil) (hl ho117)) (.node ho65 (hl ho101) (hl ho165)))
noncomputable def ht281 (P:Params):BT:=(.node ho12 (ht279 P) ht280)
noncomputable def ht282 (P:Params):BT:=(.node ho4 ht278 (ht281 P))
noncomputable def ht283:BT:=(.node ho18 (.node ho37 (.node ho71 (hl ho171) .nil) (hl ho107)) (.node ho53 (.node ho89 (hl ho187) .nil) (hl ho135)))
noncomputable def ht284:BT:=(.node ho26 (.node ho45 (.node ho81 (hl ho179) .nil) (hl ho115)) (.node ho61 (hl ho99) (hl ho163)))
noncomputable def ht285:BT:=(.node ho10 ht283 ht284)
noncomputable def ht286:BT:=(.node ho22 (.node ho41 (.node ho75 (hl ho175) .nil) (hl ho111)) (.node ho57 (hl ho95) (hl ho157)))
noncomputable def ht287:BT:=(.node ho31 (.node ho49 (.node ho85 (hl ho183) .nil) (hl ho131)) (.node ho67 (hl ho103) (hl ho167)))
noncomputable def ht288:BT:=(.node ho14 ht286 ht287)
noncomputable def ht289:BT:=(.node ho6 ht285 ht288)
noncomputable def ht290 (P:Params):BT:=(.node (ho2 P) (ht282 P) ht289)
noncomputable def ht291 (P:Params) (b:Bool):BT:=(.node (ho0 P) (ht275 P b) (ht290 P))
noncomputable def tG5 (P:Params) (b:Bool):BT:=(ht291 P b)
noncomputable def ho190 (P:Params):Obj:=⟨.type "dict",none,.dict #[hd P "__name__" 165 (hs "cpy313.wsgiref.headers" 645),hd P "__doc__" 166 .none,hd P "__package__" 167 .none,hd P "__loader__" 168 (.builtin "__main__.__loader__#opaque"),hd P "__spec__" 169 .none,hd P "__annotations__" 170 (.ref 6),hd P "__builtins__" 171 (.ref 4),hd P "__file__" 173 (hs "/claim/cut.py" 172),hd P "__cached__" 174 .none,hd P "_sre" 275 (.ref 12),hd P "_iter_escaped_chars" 293 (.ref 38),hd P "_strip_quoted_realnames" 305 (.ref 45),hd P "_check_parenthesis" 315 (.ref 52),hd P "ELLIPSIS_MARKER" 319 (hs "..." 318),hd P "_ellipsis_match" 331 (.ref 59),hd P "c6_set" 347 (.ref 61),hd P "in_table_c6" 354 (.ref 71),hd P "c7_set" 382 (.ref 73),hd P "in_table_c7" 389 (.ref 83),hd P "c8_set" 430 (.ref 97),hd P "in_table_c8" 437 (.ref 107),hd P "c9_set" 637 (.ref 115),hd P "in_table_c9" 644 (.ref 125),hd P "tspecials" 680 (.ref 130),hd P "_name_disallowed_re" 706 (.ref 135),hd P "_value_disallowed_re" 740 (.ref 140),hd P "_formatparam" 750 (.ref 148),hd P "Headers" 908 (.ref 269)] 28,#[]⟩
noncomputable def ho191:Obj:=⟨.none,none,.fields #[.int 3 0,.int 0 0,.ref 37,.int 16 0,.int 0 0,.ref 44,.int 34 0,.int 0 0,.ref 51,.int 47 0,.int 0 0,.ref 58,.int 77 0,.int 0 0,.ref 70,.int 80 0,.int 0 0,.ref 82,.int 83 0,.int 0 0,.ref 106,.int 86 0,.int 0 0,.ref 124,.int 92 0,.int 0 0,.ref 147,.int 101 0,.int 0 0,.ref 154],#[]⟩
noncomputable def ho192:Obj:=⟨.type "tuple",none,.seq #[] 0,#[]⟩
noncomputable def ho193:Obj:=⟨.type "builtin_function_or_method",none,.fields #[.builtin "type.__prepare__",.type "type"],#[]⟩
noncomputable def ho194 (P:Params):Obj:=⟨.type "dict",none,.dict #[hd P "__module__" 758 (hs "cpy313.wsgiref.headers" 645),hd P "__qualname__" 760 (hs "Headers" 759),hd P "__firstlineno__" 762 (.int 101 761),hd P "__init__" 772 (.ref 163),hd P "_convert_string_type" 782 (.ref 170),hd P "__len__" 789 (.ref 177),hd P "__setitem__" 798 (.ref 184),hd P "__delitem__" 804 (.ref 189),hd P "__getitem__" 812 (.ref 196),hd P "__contains__" 820 (.ref 203),hd P "get_all" 826 (.ref 208),hd P "get" 837 (.ref 216),hd P "keys" 843 (.ref 221),hd P "values" 849 (.ref 226),hd P "items" 856 (.ref 233),hd P "__repr__" 863 (.ref 240),hd P "__str__" 869 (.ref 245),hd P "__bytes__" 876 (.ref 252),hd P "setdefault" 886 (.ref 259),hd P "add_header" 899 (.ref 266),hd P "__static_attributes__" 901 (.ref 267)] 21,#[]⟩
noncomputable def ho195:Obj:=⟨.type "tuple",none,.seq #[] 0,#[]⟩
noncomputable def ho196:Obj:=⟨.none,none,.fields #[.int 103 0,.int 4 0,.ref 162,.int 113 0,.int 4 0,.ref 169,.int 121 0,.int 4 0,.ref 176,.int 124 0,.int 4 0,.ref 183,.int 128 0,.int 4 0,.ref 188,.int 132 0,.int 4 0,.ref 195,.int 135 0,.int 4 0,.ref 202,.int 138 0,.int 4 0,.ref 207,.int 142 0,.int 4 0,.ref 215,.int 149 0,.int 4 0,.ref 220,.int 152 0,.int 4 0,.ref 225,.int 155 0,.int 4 0,.ref 232,.int 158 0,.int 4 0,.ref 239,.int 161 0,.int 4 0,.ref 244,.int 164 0,.int 4 0,.ref 251,.int 167 0,.int 4 0,.ref 258,.int 175 0,.int 4 0,.ref 265],#[]⟩
noncomputable def ho197:Obj:=⟨.type "code",none,.fields #[hs "Headers" 753,hs "Headers" 754,hs "/claim/cut.py" 755,.int 101 0,.int 0 0,.int 0 0,.int 0 0,.int 0 0,.ref 152,.bool false,.int 276 0,.ref 153,.none,.none,.none,.none,.int 756 0,.int 101 0,hs "/claim/cut.py" 757],#[]⟩
noncomputable def ho198:Obj:=⟨.type "frame",none,.plain,#[some (.ref 154),some (.ref 3),some (.ref 151),none,some (hs "cpy313.wsgiref.headers" 645),none,some (.ref 0)]⟩
noncomputable def ho199:Obj:=⟨.type "tuple",none,.seq #[.none] 0,#[]⟩
noncomputable def ho200:Obj:=⟨.type "tuple",none,.seq #[] 0,#[]⟩
noncomputable def ho201:Obj:=⟨.none,none,.fields #[],#[]⟩
noncomputable def ho202:Obj:=⟨.type "tuple",none,.seq #[hs "self" 766,hs "headers" 767,hs "k" 768,hs "v" 769] 0,#[]⟩
noncomputable def ho203:Obj:=⟨.type "tuple",none,.seq #[] 0,#[]⟩
noncomputable def ho204:Obj:=⟨.none,none,.func (hf "__init__" "Headers.__init__" (fnParamsM 0) (fnBodyM 0) (fnScopeM 0) 0 .none .none .none .none .none),#[]⟩
noncomputable def ho205:Obj:=⟨.type "code",none,.fields #[hs "__init__" 763,hs "Headers.__init__" 764,hs "/claim/cut.py" 765,.int 103 0,.int 2 0,.int 0 0,.int 0 0,.int 3 0,.ref 157,.bool true,.int 276 0,.ref 158,.none,.ref 159,.ref 160,.ref 161,.int 770 0,.int 103 0,hs "/claim/cut.py" 771],#[]⟩
noncomputable def ho206:Obj:=⟨.type "function",none,.func (hf "__init__" "Headers.__init__" (fnParamsM 0) (fnBodyM 0) (fnScopeM 0) 3 (.ref 156) .none .none (hs "cpy313.wsgiref.headers" 645) (.ref 162)),#[]⟩
noncomputable def ho207:Obj:=⟨.type "tuple",none,.seq #[] 0,#[]⟩
noncomputable def ho208:Obj:=⟨.none,none,.fields #[],#[]⟩
noncomputable def ho209:Obj:=⟨.type "tuple",none,.seq #[hs "self" 776,hs "value" 777,hs "name" 778,hs "regex" 779] 0,#[]⟩
noncomputable def ho210:Obj:=⟨.type "tuple",none,.seq #[] 0,#[]⟩
noncomputable def ho211:Obj:=⟨.none,none,.func (hf "_convert_string_type" "Headers._convert_string_type" (fnParamsM 1) (fnBodyM 1) (fnScopeM 1) 0 .none .none .none .none .none),#[]⟩
noncomputable def ho212:Obj:=⟨.type "code",none,.fields #[hs "_convert_string_type" 773,hs "Headers._convert_string_type" 774,hs "/claim/cut.py" 775,.int 113 0,.int 2 0,.int 0 0,.int 1 0,.int 3 0,.ref 164,.bool true,.int 276 0,.ref 165,.none,.ref 166,.ref 167,.ref 168,.int 780 0,.int 113 0,hs "/claim/cut.py" 781],#[]⟩
noncomputable def ho213:Obj:=⟨.type "function",none,.func (hf "_convert_string_type" "Headers._convert_string_type" (fnParamsM 1) (fnBodyM 1) (fnScopeM 1) 3 .none .none .none (hs "cpy313.wsgiref.headers" 645) (.ref 169)),#[]⟩
noncomputable def ho214:Obj:=⟨.type "tuple",none,.seq #[] 0,#[]⟩
noncomputable def ho215:Obj:=⟨.none,none,.fields #[],#[]⟩
noncomputable def ho216:Obj:=⟨.type "tuple",none,.seq #[hs "self" 786] 0,#[]⟩
noncomputable def ho217:Obj:=⟨.type "tuple",none,.seq #[] 0,#[]⟩
noncomputable def ho218:Obj:=⟨.none,none,.func (hf "__len__" "Headers.__len__" (fnParamsM 2) (fnBodyM 2) (fnScopeM 2) 0 .none .none .none .none .none),#[]⟩
noncomputable def ho219:Obj:=⟨.type "code",none,.fields #[hs "__len__" 783,hs "Headers.__len__" 784,hs "/claim/cut.py" 785,.int 121 0,.int 1 0,.int 0 0,.int 0 0,.int 3 0,.ref 171,.bool true,.int 276 0,.ref 172,.none,.ref 173,.ref 174,.ref 175,.int 787 0,.int 121 0,hs "/claim/cut.py" 788],#[]⟩
noncomputable def ho220:Obj:=⟨.type "function",none,.func (hf "__len__" "Headers.__len__" (fnParamsM 2) (fnBodyM 2) (fnScopeM 2) 3 .none .none .none (hs "cpy313.wsgiref.headers" 645) (.ref 176)),#[]⟩
noncomputable def ho221:Obj:=⟨.type "tuple",none,.seq #[] 0,#[]⟩
noncomputable def ho222:Obj:=⟨.none,none,.fields #[],#[]⟩
noncomputable def ho223:Obj:=⟨.type "tuple",none,.seq #[hs "self" 793,hs "name" 794,hs "val" 795] 0,#[]⟩
noncomputable def ho224:Obj:=⟨.type "tuple",none,.seq #[] 0,#[]⟩
noncomputable def ho225:Obj:=⟨.none,none,.func (hf "__setitem__" "Headers.__setitem__" (fnParamsM 3) (fnBodyM 3) (fnScopeM 3) 0 .none .none .none .none .none),#[]⟩
noncomputable def ho226:Obj:=⟨.type "code",none,.fields #[hs "__setitem__" 790,hs "Headers.__setitem__" 791,hs "/claim/cut.py" 792,.int 124 0,.int 3 0,.int 0 0,.int 0 0,.int 3 0,.ref 178,.bool true,.int 276 0,.ref 179,.none,.ref 180,.ref 181,.ref 182,.int 796 0,.int 124 0,hs "/claim/cut.py" 797],#[]⟩
noncomputable def ho227:Obj:=⟨.type "function",none,.func (hf "__setitem__" "Headers.__setitem__" (fnParamsM 3) (fnBodyM 3) (fnScopeM 3) 3 .none .none .none (hs "cpy313.wsgiref.headers" 645) (.ref 183)),#[]⟩
noncomputable def ho228:Obj:=⟨.type "tuple",none,.seq #[] 0,#[]⟩
noncomputable def ho229:Obj:=⟨.none,none,.fields #[],#[]⟩
noncomputable def ho230:Obj:=⟨.none,none,.func (hf "__delitem__" "Headers.__delitem__" (fnParamsM 4) (fnBodyM 4) (fnScopeM 4) 0 .none .none .none .none .none),#[]⟩
noncomputable def ho231:Obj:=⟨.type "code",none,.fields #[hs "__delitem__" 799,hs "Headers.__delitem__" 800,hs "/claim/cut.py" 801,.int 128 0,.int 2 0,.int 0 0,.int 0 0,.int 3 0,.ref 185,.bool true,.int 276 0,.ref 186,.none,.none,.none,.ref 187,.int 802 0,.int 128 0,hs "/claim/cut.py" 803],#[]⟩
noncomputable def ho232:Obj:=⟨.type "function",none,.func (hf "__delitem__" "Headers.__delitem__" (fnParamsM 4) (fnBodyM 4) (fnScopeM 4) 3 .none .none .none (hs "cpy313.wsgiref.headers" 645) (.ref 188)),#[]⟩
noncomputable def ho233:Obj:=⟨.type "tuple",none,.seq #[] 0,#[]⟩
noncomputable def ho234:Obj:=⟨.none,none,.fields #[],#[]⟩
noncomputable def ho235:Obj:=⟨.type "tuple",none,.seq #[hs "self" 808,hs "name" 809] 0,#[]⟩
noncomputable def ho236:Obj:=⟨.type "tuple",none,.seq #[] 0,#[]⟩
noncomputable def ho237:Obj:=⟨.none,none,.func (hf "__getitem__" "Headers.__getitem__" (fnParamsM 5) (fnBodyM 5) (fnScopeM 5) 0 .none .none .none .none .none),#[]⟩
noncomputable def ho238:Obj:=⟨.type "code",none,.fields #[hs "__getitem__" 805,hs "Headers.__getitem__" 806,hs "/claim/cut.py" 807,.int 132 0,.int 2 0,.int 0 0,.int 0 0,.int 3 0,.ref 190,.bool true,.int 276 0,.ref 191,.none,.ref 192,.ref 193,.ref 194,.int 810 0,.int 132 0,hs "/claim/cut.py" 811],#[]⟩
noncomputable def ho239:Obj:=⟨.type "function",none,.func (hf "__getitem__" "Headers.__getitem__" (fnParamsM 5) (fnBodyM 5) (fnScopeM 5) 3 .none .none .none (hs "cpy313.wsgiref.headers" 645) (.ref 195)),#[]⟩
noncomputable def ho240:Obj:=⟨.type "tuple",none,.seq #[] 0,#[]⟩
noncomputable def ho241:Obj:=⟨.none,none,.fields #[],#[]⟩
noncomputable def ho242:Obj:=⟨.type "tuple",none,.seq #[hs "self" 816,hs "name" 817] 0,#[]⟩
noncomputable def ho243:Obj:=⟨.type "tuple",none,.seq #[] 0,#[]⟩
noncomputable def ho244:Obj:=⟨.none,none,.func (hf "__contains__" "Headers.__contains__" (fnParamsM 6) (fnBodyM 6) (fnScopeM 5) 0 .none .none .none .none .none),#[]⟩
noncomputable def ho245:Obj:=⟨.type "code",none,.fields #[hs "__contains__" 813,hs "Headers.__contains__" 814,hs "/claim/cut.py" 815,.int 135 0,.int 2 0,.int 0 0,.int 0 0,.int 3 0,.ref 197,.bool true,.int 276 0,.ref 198,.none,.ref 199,.ref 200,.ref 201,.int 818 0,.int 135 0,hs "/claim/cut.py" 819],#[]⟩
noncomputable def ho246:Obj:=⟨.type "function",none,.func (hf "__contains__" "Headers.__contains__" (fnParamsM 6) (fnBodyM 6) (fnScopeM 5) 3 .none .none .none (hs "cpy313.wsgiref.headers" 645) (.ref 202)),#[]⟩
noncomputable def ho247:Obj:=⟨.type "tuple",none,.seq #[] 0,#[]⟩
noncomputable def ho248:Obj:=⟨.none,none,.fields #[],#[]⟩
noncomputable def ho249:Obj:=⟨.none,none,.func (hf "get_all" "Headers.get_all" (fnParamsM 7) (fnBodyM 7) (fnScopeM 4) 0 .none .none .none .none .none),#[]⟩
noncomputable def ho250:Obj:=⟨.type "code",none,.fields #[hs "get_all" 821,hs "Headers.get_all" 822,hs "/claim/cut.py" 823,.int 138 0,.int 2 0,.int 0 0,.int 0 0,.int 3 0,.ref 204,.bool true,.int 276 0,.ref 205,.none,.none,.none,.ref 206,.int 824 0,.int 138 0,hs "/claim/cut.py" 825],#[]⟩
noncomputable def ho251:Obj:=⟨.type "function",none,.func (hf "get_all" "Headers.get_all" (fnParamsM 7) (fnBodyM 7) (fnScopeM 4) 3 .none .none .none (hs "cpy313.wsgiref.headers" 645) (.ref 207)),#[]⟩
noncomputable def ho252:Obj:=⟨.type "tuple",none,.seq #[.none] 0,#[]⟩
noncomputable def ho253:Obj:=⟨.type "tuple",none,.seq #[] 0,#[]⟩
noncomputable def ho254:Obj:=⟨.none,none,.fields #[],#[]⟩
noncomputable def ho255:Obj:=⟨.type "tuple",none,.seq #[hs "self" 830,hs "name" 831,hs "default" 832,hs "k" 833,hs "v" 834] 0,#[]⟩
noncomputable def ho256:Obj:=⟨.type "tuple",none,.seq #[] 0,#[]⟩
noncomputable def ho257:Obj:=⟨.none,none,.func (hf "get" "Headers.get" (fnParamsM 8) (fnBodyM 8) (fnScopeM 8) 0 .none .none .none .none .none),#[]⟩
noncomputable def ho258:Obj:=⟨.type "code",none,.fields #[hs "get" 827,hs "Headers.get" 828,hs "/claim/cut.py" 829,.int 142 0,.int 3 0,.int 0 0,.int 0 0,.int 3 0,.ref 210,.bool true,.int 276 0,.ref 211,.none,.ref 212,.ref 213,.ref 214,.int 835 0,.int 142 0,hs "/claim/cut.py" 836],#[]⟩
noncomputable def ho259:Obj:=⟨.type "function",none,.func (hf "get" "Headers.get" (fnParamsM 8) (fnBodyM 8) (fnScopeM 8) 3 (.ref 209) .none .none (hs "cpy313.wsgiref.headers" 645) (.ref 215)),#[]⟩
noncomputable def ho260:Obj:=⟨.type "tuple",none,.seq #[] 0,#[]⟩
noncomputable def ho261:Obj:=⟨.none,none,.fields #[],#[]⟩
noncomputable def ho262:Obj:=⟨.none,none,.func (hf "keys" "Headers.keys" (fnParamsM 9) (fnBodyM 9) (fnScopeM 9) 0 .none .none .none .none .none),#[]⟩
noncomputable def ho263:Obj:=⟨.type "code",none,.fields #[hs "keys" 838,hs "Headers.keys" 839,hs "/claim/cut.py" 840,.int 149 0,.int 1 0,.int 0 0,.int 0 0,.int 3 0,.ref 217,.bool true,.int 276 0,.ref 218,.none,.none,.none,.ref 219,.int 841 0,.int 149 0,hs "/claim/cut.py" 842],#[]⟩
noncomputable def ho264:Obj:=⟨.type "function",none,.func (hf "keys" "Headers.keys" (fnParamsM 9) (fnBodyM 9) (fnScopeM 9) 3 .none .none .none (hs "cpy313.wsgiref.headers" 645) (.ref 220)),#[]⟩
noncomputable def ho265:Obj:=⟨.type "tuple",none,.seq #[] 0,#[]⟩
noncomputable def ho266:Obj:=⟨.none,none,.fields #[],#[]⟩
noncomputable def ho267:Obj:=⟨.none,none,.func (hf "values" "Headers.values" (fnParamsM 10) (fnBodyM 10) (fnScopeM 9) 0 .none .none .none .none .none),#[]⟩
noncomputable def ho268:Obj:=⟨.type "code",none,.fields #[hs "values" 844,hs "Headers.values" 845,hs "/claim/cut.py" 846,.int 152 0,.int 1 0,.int 0 0,.int 0 0,.int 3 0,.ref 222,.bool true,.int 276 0,.ref 223,.none,.none,.none,.ref 224,.int 847 0,.int 152 0,hs "/claim/cut.py" 848],#[]⟩
noncomputable def ho269:Obj:=⟨.type "function",none,.func (hf "values" "Headers.values" (fnParamsM 10) (fnBodyM 10) (fnScopeM 9) 3 .none .none .none (hs "cpy313.wsgiref.headers" 645) (.ref 225)),#[]⟩
noncomputable def ho270:Obj:=⟨.type "tuple",none,.seq #[] 0,#[]⟩
noncomputable def ho271:Obj:=⟨.none,none,.fields #[],#[]⟩
noncomputable def ho272:Obj:=⟨.type "tuple",none,.seq #[hs "self" 853] 0,#[]⟩
noncomputable def ho273:Obj:=⟨.type "tuple",none,.seq #[] 0,#[]⟩
noncomputable def ho274:Obj:=⟨.none,none,.func (hf "items" "Headers.items" (fnParamsM 11) (fnBodyM 11) (fnScopeM 11) 0 .none .none .none .none .none),#[]⟩
noncomputable def ho275:Obj:=⟨.type "code",none,.fields #[hs "items" 850,hs "Headers.items" 851,hs "/claim/cut.py" 852,.int 155 0,.int 1 0,.int 0 0,.int 0 0,.int 3 0,.ref 227,.bool true,.int 276 0,.ref 228,.none,.ref 229,.ref 230,.ref 231,.int 854 0,.int 155 0,hs "/claim/cut.py" 855],#[]⟩
noncomputable def ho276:Obj:=⟨.type "function",none,.func (hf "items" "Headers.items" (fnParamsM 11) (fnBodyM 11) (fnScopeM 11) 3 .none .none .none (hs "cpy313.wsgiref.headers" 645) (.ref 232)),#[]⟩
noncomputable def ho277:Obj:=⟨.type "tuple",none,.seq #[] 0,#[]⟩
noncomputable def ho278:Obj:=⟨.none,none,.fields #[],#[]⟩
noncomputable def ho279:Obj:=⟨.type "tuple",none,.seq #[hs "self" 860] 0,#[]⟩
noncomputable def ho280:Obj:=⟨.type "tuple",none,.seq #[] 0,#[]⟩
noncomputable def ho281:Obj:=⟨.none,none,.func (hf "__repr__" "Headers.__repr__" (fnParamsM 12) (fnBodyM 12) (fnScopeM 11) 0 .none .none .none .none .none),#[]⟩
noncomputable def ho282:Obj:=⟨.type "code",none,.fields #[hs "__repr__" 857,hs "Headers.__repr__" 858,hs "/claim/cut.py" 859,.int 158 0,.int 1 0,.int 0 0,.int 0 0,.int 3 0,.ref 234,.bool true,.int 276 0,.ref 235,.none,.ref 236,.ref 237,.ref 238,.int 861 0,.int 158 0,hs "/claim/cut.py" 862],#[]⟩
noncomputable def ho283:Obj:=⟨.type "function",none,.func (hf "__repr__" "Headers.__repr__" (fnParamsM 12) (fnBodyM 12) (fnScopeM 11) 3 .none .none .none (hs "cpy313.wsgiref.headers" 645) (.ref 239)),#[]⟩
noncomputable def ho284:Obj:=⟨.type "tuple",none,.seq #[] 0,#[]⟩
noncomputable def ho285:Obj:=⟨.none,none,.fields #[],#[]⟩
noncomputable def ho286:Obj:=⟨.none,none,.func (hf "__str__" "Headers.__str__" (fnParamsM 13) (fnBodyM 13) (fnScopeM 13) 0 .none .none .none .none .none),#[]⟩
noncomputable def ho287:Obj:=⟨.type "code",none,.fields #[hs "__str__" 864,hs "Headers.__str__" 865,hs "/claim/cut.py" 866,.int 161 0,.int 1 0,.int 0 0,.int 0 0,.int 3 0,.ref 241,.bool true,.int 276 0,.ref 242,.none,.none,.none,.ref 243,.int 867 0,.int 161 0,hs "/claim/cut.py" 868],#[]⟩
noncomputable def ho288:Obj:=⟨.type "function",none,.func (hf "__str__" "Headers.__str__" (fnParamsM 13) (fnBodyM 13) (fnScopeM 13) 3 .none .none .none (hs "cpy313.wsgiref.headers" 645) (.ref 244)),#[]⟩
noncomputable def ho289:Obj:=⟨.type "tuple",none,.seq #[] 0,#[]⟩
noncomputable def ho290:Obj:=⟨.none,none,.fields #[],#[]⟩
noncomputable def ho291:Obj:=⟨.type "tuple",none,.seq #[hs "self" 873] 0,#[]⟩
noncomputable def ho292:Obj:=⟨.type "tuple",none,.seq #[] 0,#[]⟩
noncomputable def ho293:Obj:=⟨.none,none,.func (hf "__bytes__" "Headers.__bytes__" (fnParamsM 14) (fnBodyM 14) (fnScopeM 14) 0 .none .none .none .none .none),#[]⟩
noncomputable def ho294:Obj:=⟨.type "code",none,.fields #[hs "__bytes__" 870,hs "Headers.__bytes__" 871,hs "/claim/cut.py" 872,.int 164 0,.int 1 0,.int 0 0,.int 0 0,.int 3 0,.ref 246,.bool true,.int 276 0,.ref 247,.none,.ref 248,.ref 249,.ref 250,.int 874 0,.int 164 0,hs "/claim/cut.py" 875],#[]⟩
noncomputable def ho295:Obj:=⟨.type "function",none,.func (hf "__bytes__" "Headers.__bytes__" (fnParamsM 14) (fnBodyM 14) (fnScopeM 14) 3 .none .none .none (hs "cpy313.wsgiref.headers" 645) (.ref 251)),#[]⟩
noncomputable def ho296:Obj:=⟨.type "tuple",none,.seq #[] 0,#[]⟩
noncomputable def ho297:Obj:=⟨.none,none,.fields #[],#[]⟩
noncomputable def ho298:Obj:=⟨.type "tuple",none,.seq #[hs "self" 880,hs "name" 881,hs "value" 882,hs "result" 883] 0,#[]⟩
noncomputable def ho299:Obj:=⟨.type "tuple",none,.seq #[] 0,#[]⟩
noncomputable def ho300:Obj:=⟨.none,none,.func (hf "setdefault" "Headers.setdefault" (fnParamsM 15) (fnBodyM 15) (fnScopeM 15) 0 .none .none .none .none .none),#[]⟩
noncomputable def ho301:Obj:=⟨.type "code",none,.fields #[hs "setdefault" 877,hs "Headers.setdefault" 878,hs "/claim/cut.py" 879,.int 167 0,.int 3 0,.int 0 0,.int 0 0,.int 3 0,.ref 253,.bool true,.int 276 0,.ref 254,.none,.ref 255,.ref 256,.ref 257,.int 884 0,.int 167 0,hs "/claim/cut.py" 885],#[]⟩
noncomputable def ho302:Obj:=⟨.type "function",none,.func (hf "setdefault" "Headers.setdefault" (fnParamsM 15) (fnBodyM 15) (fnScopeM 15) 3 .none .none .none (hs "cpy313.wsgiref.headers" 645) (.ref 258)),#[]⟩
noncomputable def ho303:Obj:=⟨.type "tuple",none,.seq #[] 0,#[]⟩
noncomputable def ho304:Obj:=⟨.none,none,.fields #[],#[]⟩
noncomputable def ho305:Obj:=⟨.type "tuple",none,.seq #[hs "self" 890,hs "_name" 891,hs "_value" 892,hs "_params" 893,hs "parts" 894,hs "k" 895,hs "v" 896] 0,#[]⟩
noncomputable def ho306:Obj:=⟨.type "tuple",none,.seq #[] 0,#[]⟩
noncomputable def ho307:Obj:=⟨.none,none,.func (hf "add_header" "Headers.add_header" (fnParamsM 16) (fnBodyM 16) (fnScopeM 16) 0 .none .none .none .none .none),#[]⟩
noncomputable def ho308:Obj:=⟨.type "code",none,.fields #[hs "add_header" 887,hs "Headers.add_header" 888,hs "/claim/cut.py" 889,.int 175 0,.int 3 0,.int 0 0,.int 0 0,.int 11 0,.ref 260,.bool true,.int 276 0,.ref 261,.none,.ref 262,.ref 263,.ref 264,.int 897 0,.int 175 0,hs "/claim/cut.py" 898],#[]⟩
noncomputable def ho309:Obj:=⟨.type "function",none,.func (hf "add_header" "Headers.add_header" (fnParamsM 16) (fnBodyM 16) (fnScopeM 16) 3 .none .none .none (hs "cpy313.wsgiref.headers" 645) (.ref 265)),#[]⟩
noncomputable def ho310:Obj:=⟨.type "tuple",none,.seq #[hs "_headers" 900] 0,#[]⟩
noncomputable def ho311 (P:Params):Obj:=⟨.type "dict",none,.dict #[hd P "__module__" 758 (hs "cpy313.wsgiref.headers" 645),hd P "__firstlineno__" 762 (.int 101 761),hd P "__init__" 772 (.ref 163),hd P "_convert_string_type" 782 (.ref 170),hd P "__len__" 789 (.ref 177),hd P "__setitem__" 798 (.ref 184),hd P "__delitem__" 804 (.ref 189),hd P "__getitem__" 812 (.ref 196),hd P "__contains__" 820 (.ref 203),hd P "get_all" 826 (.ref 208),hd P "get" 837 (.ref 216),hd P "keys" 843 (.ref 221),hd P "values" 849 (.ref 226),hd P "items" 856 (.ref 233),hd P "__repr__" 863 (.ref 240),hd P "__str__" 869 (.ref 245),hd P "__bytes__" 876 (.ref 252),hd P "setdefault" 886 (.ref 259),hd P "add_header" 899 (.ref 266),hd P "__static_attributes__" 901 (.ref 267),hd P "__dict__" 903 (.ref 270),hd P "__weakref__" 905 (.ref 271),hd P "__doc__" 906 .none] 4,#[]⟩
noncomputable def ho312:Obj:=⟨.type "type",none,.cls { name:=(.ofString "Headers"),bases:=[.type "object"],mro:=[.ref 269,.type "object"],ns:=268,qualname:=(.ofString "Headers"),hasDict:=true,slotNames:=[] },#[none,none,some (hs "Headers" 751),some (hs "Headers" 759),some (.builtin "object.__new__"),some (.bool true)]⟩
noncomputable def ho313:Obj:=⟨.type "getset_descriptor",none,.fields #[hs "__dict__" 902,.ref 269,.builtin "function.__dict__",.builtin "function.__dict__#set"],#[]⟩
noncomputable def ho314:Obj:=⟨.type "getset_descriptor",none,.fields #[hs "__weakref__" 904,.ref 269,.builtin "ExceptionGroup.__weakref__",.none],#[]⟩
noncomputable def ho315:Obj:=⟨.type "super",none,.fields #[.ref 269,.ref 269,.ref 269],#[]⟩
noncomputable def ho316:Obj:=⟨.type "builtin_function_or_method",none,.fields #[.builtin "object.__init_subclass__",.ref 269],#[]⟩
noncomputable def ht292:BT:=(.node ho32 (.node ho68 (.node ho168 (hl ho298) .nil) (hl ho234)) (.node ho104 (hl ho202) (hl ho266)))
noncomputable def ht293:BT:=(.node ho50 (.node ho86 (.node ho184 (hl ho314) .nil) (hl ho250)) (.node ho132 (hl ho218) (hl ho282)))
noncomputable def ht294:BT:=(.node ho15 ht292 ht293)
noncomputable def ht295:BT:=(.node ho42 (.node ho76 (.node ho176 (hl ho306) .nil) (hl ho242)) (.node ho112 (hl ho210) (hl ho274)))
noncomputable def ht296 (P:Params):BT:=(.node ho58 (.node ho96 (hl (ho194 P)) (hl ho258)) (.node ho160 (hl ho226) (hl ho290)))
noncomputable def ht297 (P:Params):BT:=(.node ho23 ht295 (ht296 P))
noncomputable def ht298 (P:Params):BT:=(.node ho7 ht294 (ht297 P))
noncomputable def ht299:BT:=(.node ho38 (.node ho72 (.node ho172 (hl ho302) .nil) (hl ho238)) (.node ho108 (hl ho206) (hl ho270)))
noncomputable def ht300 (b:Bool):BT:=(.node ho54 (.node ho90 (hl ho188) (hl ho254)) (.node (ho152 b) (hl ho222) (hl ho286)))
noncomputable def ht301 (b:Bool):BT:=(.node ho19 ht299 (ht300 b))
noncomputable def ht302:BT:=(.node ho46 (.node ho82 (.node ho180 (hl ho310) .nil) (hl ho246)) (.node ho116 (hl ho214) (hl ho278)))
noncomputable def ht303:BT:=(.node ho62 (.node ho100 (hl ho198) (hl ho262)) (.node ho164 (hl ho230) (hl ho294)))
noncomputable def ht304:BT:=(.node ho27 ht302 ht303)
noncomputable def ht305 (P:Params) (b:Bool):BT:=(.node (ho28 P) (ht301 b) ht304)
noncomputable def ht306 (P:Params) (b:Bool):BT:=(.node (ho190 P) (ht298 P) (ht305 P b))
noncomputable def ht307 (b:Bool):BT:=(.node ho36 (.node ho70 (.node ho170 (hl ho300) .nil) (hl ho236)) (.node (ho106 b) (hl ho204) (hl ho268)))
noncomputable def ht308:BT:=(.node ho52 (.node ho88 (.node ho186 (hl ho316) .nil) (hl ho252)) (.node ho134 (hl ho220) (hl ho284)))
noncomputable def ht309 (b:Bool):BT:=(.node ho17 (ht307 b) ht308)
noncomputable def ht310 (b:Bool):BT:=(.node ho44 (.node (ho80 b) (.node ho178 (hl ho308) .nil) (hl ho244)) (.node ho114 (hl ho212) (hl ho276)))
noncomputable def ht311:BT:=(.node ho60 (.node ho98 (hl ho196) (hl ho260)) (.node ho162 (hl ho228) (hl ho292)))
noncomputable def ht312 (b:Bool):BT:=(.node ho25 (ht310 b) ht311)
noncomputable def ht313 (b:Bool):BT:=(.node ho9 (ht309 b) (ht312 b))
noncomputable def ht314:BT:=(.node ho40 (.node ho74 (.node ho174 (hl ho304) .nil) (hl ho240)) (.node ho110 (hl ho208) (hl ho272)))
noncomputable def ht315:BT:=(.node ho56 (.node ho94 (hl ho192) (hl ho256)) (.node ho156 (hl ho224) (hl ho288)))
noncomputable def ht316 (P:Params):BT:=(.node (ho21 P) ht314 ht315)
noncomputable def ht317:BT:=(.node ho48 (.node ho84 (.node ho182 (hl ho312) .nil) (hl ho248)) (.node ho118 (hl ho216) (hl ho280)))
noncomputable def ht318 (b:Bool):BT:=(.node (ho66 b) (.node ho102 (hl ho200) (hl ho264)) (.node ho166 (hl ho232) (hl ho296)))
noncomputable def ht319 (b:Bool):BT:=(.node ho191 ht317 (ht318 b))
noncomputable def ht320 (P:Params) (b:Bool):BT:=(.node (ho13 P) (ht316 P) (ht319 b))
noncomputable def ht321 (P:Params) (b:Bool):BT:=(.node ho5 (ht313 b) (ht320 P b))
noncomputable def ht322 (P:Params) (b:Bool):BT:=(.node (ho1 P) (ht306 P b) (ht321 P b))
noncomputable def ht323:BT:=(.node ho35 (.node ho69 (.node ho169 (hl ho299) .nil) (hl ho235)) (.node ho105 (hl ho203) (hl ho267)))
noncomputable def ht324:BT:=(.node ho51 (.node ho87 (.node ho185 (hl ho315) .nil) (hl ho251)) (.node ho133 (hl ho219) (hl ho283)))
noncomputable def ht325:BT:=(.node ho16 ht323 ht324)
noncomputable def ht326:BT:=(.node ho43 (.node ho79 (.node ho177 (hl ho307) .nil) (hl ho243)) (.node ho113 (hl ho211) (hl ho275)))
noncomputable def ht327:BT:=(.node ho59 (.node ho97 (hl ho195) (hl ho259)) (.node ho161 (hl ho227) (hl ho291)))
noncomputable def ht328:BT:=(.node ho24 ht326 ht327)
noncomputable def ht329:BT:=(.node ho8 ht325 ht328)
noncomputable def ht330:BT:=(.node ho39 (.node ho73 (.node ho173 (hl ho303) .nil) (hl ho239)) (.node ho109 (hl ho207) (hl ho271)))
noncomputable def ht331:BT:=(.node ho55 (.node ho93 (hl ho189) (hl ho255)) (.node ho155 (hl ho223) (hl ho287)))
noncomputable def ht332 (P:Params):BT:=(.node (ho20 P) ht330 ht331)
noncomputable def ht333 (P:Params):BT:=(.node ho47 (.node ho83 (.node ho181 (hl (ho311 P)) .nil) (hl ho247)) (.node ho117 (hl ho215) (hl ho279)))
noncomputable def ht334:BT:=(.node ho65 (.node ho101 (hl ho199) (hl ho263)) (.node ho165 (hl ho231) (hl ho295)))
noncomputable def ht335 (P:Params):BT:=(.node ho29 (ht333 P) ht334)
noncomputable def ht336 (P:Params):BT:=(.node ho12 (ht332 P) (ht335 P))
noncomputable def ht337 (P:Params):BT:=(.node ho4 ht329 (ht336 P))
noncomputable def ht338:BT:=(.node ho37 (.node ho71 (.node ho171 (hl ho301) .nil) (hl ho237)) (.node ho107 (hl ho205) (hl ho269)))
noncomputable def ht339:BT:=(.node ho53 (.node ho89 (hl ho187) (hl ho253)) (.node ho135 (hl ho221) (hl ho285)))
noncomputable def ht340:BT:=(.node ho18 ht338 ht339)
noncomputable def ht341:BT:=(.node ho45 (.node ho81 (.node ho179 (hl ho309) .nil) (hl ho245)) (.node ho115 (hl ho213) (hl ho277)))
noncomputable def ht342:BT:=(.node ho61 (.node ho99 (hl ho197) (hl ho261)) (.node ho163 (hl ho229) (hl ho293)))
noncomputable def ht343:BT:=(.node ho26 ht341 ht342)
noncomputable def ht344:BT:=(.node ho10 ht340 ht343)
noncomputable def ht345:BT:=(.node ho41 (.node ho75 (.node ho175 (hl ho305) .nil) (hl ho241)) (.node ho111 (hl ho209) (hl ho273)))
noncomputable def ht346:BT:=(.node ho57 (.node ho95 (hl ho193) (hl ho257)) (.node ho157 (hl ho225) (hl ho289)))
noncomputable def ht347:BT:=(.node ho22 ht345 ht346)
noncomputable def ht348:BT:=(.node ho49 (.node ho85 (.node ho183 (hl ho313) .nil) (hl ho249)) (.node ho131 (hl ho217) (hl ho281)))
noncomputable def ht349:BT:=(.node ho67 (.node ho103 (hl ho201) (hl ho265)) (.node ho167 (hl ho233) (hl ho297)))
noncomputable def ht350:BT:=(.node ho31 ht348 ht349)
noncomputable def ht351:BT:=(.node ho14 ht347 ht350)
noncomputable def ht352:BT:=(.node ho6 ht344 ht351)
noncomputable def ht353 (P:Params):BT:=(.node (ho2 P) (ht337 P) ht352)
noncomputable def ht354 (P:Params) (b:Bool):BT:=(.node (ho0 P) (ht322 P b) (ht353 P))
noncomputable def tG6 (P:Params) (b:Bool):BT:=(ht354 P b)
noncomputable def ho317 (P:Params):Obj:=⟨.type "dict",none,.dict #[hd P "__name__" 165 (hs "law_ta0065_01" 909),hd P "__doc__" 166 .none,hd P "__package__" 167 .none,hd P "__loader__" 168 (.builtin "__main__.__loader__#opaque"),hd P "__spec__" 169 .none,hd P "__annotations__" 170 (.ref 6),hd P "__builtins__" 171 (.ref 4),hd P "__file__" 173 (hs "/claim/cut.py" 172),hd P "__cached__" 174 .none,hd P "_sre" 275 (.ref 12),hd P "_iter_escaped_chars" 293 (.ref 38),hd P "_strip_quoted_realnames" 305 (.ref 45),hd P "_check_parenthesis" 315 (.ref 52),hd P "ELLIPSIS_MARKER" 319 (hs "..." 318),hd P "_ellipsis_match" 331 (.ref 59),hd P "c6_set" 347 (.ref 61),hd P "in_table_c6" 354 (.ref 71),hd P "c7_set" 382 (.ref 73),hd P "in_table_c7" 389 (.ref 83),hd P "c8_set" 430 (.ref 97),hd P "in_table_c8" 437 (.ref 107),hd P "c9_set" 637 (.ref 115),hd P "in_table_c9" 644 (.ref 125),hd P "tspecials" 680 (.ref 130),hd P "_name_disallowed_re" 706 (.ref 135),hd P "_value_disallowed_re" 740 (.ref 140),hd P "_formatparam" 750 (.ref 148),hd P "Headers" 908 (.ref 269),hd P "_law_codes" 916 (.ref 278),hd P "_law_read" 927 (.ref 285),hd P "_law_known" 933 (.ref 290),hd P "_law_wished" 944 (.ref 297),hd P "_law_granted" 956 (.ref 304),hd P "_law_takes" 962 (.ref 309),hd P "_law_can" 976 (.ref 316),hd P "law" 982 (.ref 321)] 36,#[]⟩
noncomputable def ho318:Obj:=⟨.none,none,.fields #[.int 3 0,.int 0 0,.ref 37,.int 16 0,.int 0 0,.ref 44,.int 34 0,.int 0 0,.ref 51,.int 47 0,.int 0 0,.ref 58,.int 77 0,.int 0 0,.ref 70,.int 80 0,.int 0 0,.ref 82,.int 83 0,.int 0 0,.ref 106,.int 86 0,.int 0 0,.ref 124,.int 92 0,.int 0 0,.ref 147,.int 101 0,.int 0 0,.ref 154,.int 189 0,.int 0 0,.ref 277,.int 199 0,.int 0 0,.ref 284,.int 212 0,.int 0 0,.ref 289,.int 221 0,.int 0 0,.ref 296,.int 229 0,.int 0 0,.ref 303,.int 238 0,.int 0 0,.ref 308,.int 247 0,.int 0 0,.ref 315,.int 258 0,.int 0 0,.ref 320],#[]⟩
noncomputable def ho319:Obj:=⟨.type "tuple",none,.seq #[] 0,#[]⟩
noncomputable def ho320:Obj:=⟨.none,none,.fields #[],#[]⟩
noncomputable def ho321:Obj:=⟨.none,none,.func (hf "_law_codes" "_law_codes" (fnParams 24) (fnBody 24) (fnScope 24) 0 .none .none .none .none .none),#[]⟩
noncomputable def ho322:Obj:=⟨.type "code",none,.fields #[hs "_law_codes" 911,hs "_law_codes" 912,hs "/claim/cut.py" 913,.int 189 0,.int 3 0,.int 0 0,.int 0 0,.int 3 0,.ref 274,.bool true,.int 276 0,.ref 275,.none,.none,.none,.ref 276,.int 914 0,.int 189 0,hs "/claim/cut.py" 915],#[]⟩
noncomputable def ho323:Obj:=⟨.type "function",none,.func (hf "_law_codes" "_law_codes" (fnParams 24) (fnBody 24) (fnScope 24) 3 .none .none .none (hs "law_ta0065_01" 909) (.ref 277)),#[]⟩
noncomputable def ho324:Obj:=⟨.type "tuple",none,.seq #[] 0,#[]⟩
noncomputable def ho325:Obj:=⟨.none,none,.fields #[],#[]⟩
noncomputable def ho326:Obj:=⟨.type "tuple",none,.seq #[hs "codes" 920,hs "k" 921,hs "text" 922,hs "code" 923,hs "held" 924] 0,#[]⟩
noncomputable def ho327:Obj:=⟨.type "tuple",none,.seq #[] 0,#[]⟩
noncomputable def ho328:Obj:=⟨.none,none,.func (hf "_law_read" "_law_read" (fnParams 25) (fnBody 25) (fnScope 25) 0 .none .none .none .none .none),#[]⟩
noncomputable def ho329:Obj:=⟨.type "code",none,.fields #[hs "_law_read" 917,hs "_law_read" 918,hs "/claim/cut.py" 919,.int 199 0,.int 2 0,.int 0 0,.int 0 0,.int 3 0,.ref 279,.bool true,.int 276 0,.ref 280,.none,.ref 281,.ref 282,.ref 283,.int 925 0,.int 199 0,hs "/claim/cut.py" 926],#[]⟩
noncomputable def ho330:Obj:=⟨.type "function",none,.func (hf "_law_read" "_law_read" (fnParams 25) (fnBody 25) (fnScope 25) 3 .none .none .none (hs "law_ta0065_01" 909) (.ref 284)),#[]⟩
noncomputable def ho331:Obj:=⟨.type "tuple",none,.seq #[] 0,#[]⟩
noncomputable def ho332:Obj:=⟨.none,none,.fields #[],#[]⟩
noncomputable def ho333:Obj:=⟨.none,none,.func (hf "_law_known" "_law_known" (fnParams 26) (fnBody 26) (fnScope 26) 0 .none .none .none .none .none),#[]⟩
noncomputable def ho334:Obj:=⟨.type "code",none,.fields #[hs "_law_known" 928,hs "_law_known" 929,hs "/claim/cut.py" 930,.int 212 0,.int 2 0,.int 0 0,.int 0 0,.int 3 0,.ref 286,.bool true,.int 276 0,.ref 287,.none,.none,.none,.ref 288,.int 931 0,.int 212 0,hs "/claim/cut.py" 932],#[]⟩
noncomputable def ho335:Obj:=⟨.type "function",none,.func (hf "_law_known" "_law_known" (fnParams 26) (fnBody 26) (fnScope 26) 3 .none .none .none (hs "law_ta0065_01" 909) (.ref 289)),#[]⟩
noncomputable def ho336:Obj:=⟨.type "tuple",none,.seq #[] 0,#[]⟩
noncomputable def ho337:Obj:=⟨.none,none,.fields #[],#[]⟩
noncomputable def ho338:Obj:=⟨.type "tuple",none,.seq #[hs "columns" 937,hs "size" 938,hs "table" 939,hs "letter" 940,hs "t" 941] 0,#[]⟩
noncomputable def ho339:Obj:=⟨.type "tuple",none,.seq #[] 0,#[]⟩
noncomputable def ho340:Obj:=⟨.none,none,.func (hf "_law_wished" "_law_wished" (fnParams 27) (fnBody 27) (fnScope 27) 0 .none .none .none .none .none),#[]⟩
noncomputable def ho341:Obj:=⟨.type "code",none,.fields #[hs "_law_wished" 934,hs "_law_wished" 935,hs "/claim/cut.py" 936,.int 221 0,.int 2 0,.int 0 0,.int 0 0,.int 3 0,.ref 291,.bool true,.int 276 0,.ref 292,.none,.ref 293,.ref 294,.ref 295,.int 942 0,.int 221 0,hs "/claim/cut.py" 943],#[]⟩
noncomputable def ho342:Obj:=⟨.type "function",none,.func (hf "_law_wished" "_law_wished" (fnParams 27) (fnBody 27) (fnScope 27) 3 .none .none .none (hs "law_ta0065_01" 909) (.ref 296)),#[]⟩
noncomputable def ho343:Obj:=⟨.type "tuple",none,.seq #[] 0,#[]⟩
noncomputable def ho344:Obj:=⟨.none,none,.fields #[],#[]⟩
noncomputable def ho345:Obj:=⟨.type "tuple",none,.seq #[hs "table" 948,hs "marks" 949,hs "noted" 950,hs "k" 951,hs "letter" 952,hs "left" 953] 0,#[]⟩
noncomputable def ho346:Obj:=⟨.type "tuple",none,.seq #[] 0,#[]⟩
noncomputable def ho347:Obj:=⟨.none,none,.func (hf "_law_granted" "_law_granted" (fnParams 28) (fnBody 28) (fnScope 28) 0 .none .none .none .none .none),#[]⟩
noncomputable def ho348:Obj:=⟨.type "code",none,.fields #[hs "_law_granted" 945,hs "_law_granted" 946,hs "/claim/cut.py" 947,.int 229 0,.int 2 0,.int 0 0,.int 0 0,.int 3 0,.ref 298,.bool true,.int 276 0,.ref 299,.none,.ref 300,.ref 301,.ref 302,.int 954 0,.int 229 0,hs "/claim/cut.py" 955],#[]⟩
noncomputable def ho349:Obj:=⟨.type "function",none,.func (hf "_law_granted" "_law_granted" (fnParams 28) (fnBody 28) (fnScope 28) 3 .none .none .none (hs "law_ta0065_01" 909) (.ref 303)),#[]⟩
noncomputable def ho350:Obj:=⟨.type "tuple",none,.seq #[] 0,#[]⟩
noncomputable def ho351:Obj:=⟨.none,none,.fields #[],#[]⟩
noncomputable def ho352:Obj:=⟨.none,none,.func (hf "_law_takes" "_law_takes" (fnParams 29) (fnBody 29) (fnScope 29) 0 .none .none .none .none .none),#[]⟩
noncomputable def ho353:Obj:=⟨.type "code",none,.fields #[hs "_law_takes" 957,hs "_law_takes" 958,hs "/claim/cut.py" 959,.int 238 0,.int 2 0,.int 0 0,.int 0 0,.int 3 0,.ref 305,.bool true,.int 276 0,.ref 306,.none,.none,.none,.ref 307,.int 960 0,.int 238 0,hs "/claim/cut.py" 961],#[]⟩
noncomputable def ho354:Obj:=⟨.type "function",none,.func (hf "_law_takes" "_law_takes" (fnParams 29) (fnBody 29) (fnScope 29) 3 .none .none .none (hs "law_ta0065_01" 909) (.ref 308)),#[]⟩
noncomputable def ho355:Obj:=⟨.type "tuple",none,.seq #[] 0,#[]⟩
noncomputable def ho356:Obj:=⟨.none,none,.fields #[],#[]⟩
noncomputable def ho357:Obj:=⟨.type "tuple",none,.seq #[hs "marks" 966,hs "wishes" 967,hs "left" 968,hs "many" 969,hs "fresh" 970,hs "now" 971,hs "rest" 972,hs "one" 973] 0,#[]⟩
noncomputable def ho358:Obj:=⟨.type "tuple",none,.seq #[] 0,#[]⟩
noncomputable def ho359:Obj:=⟨.none,none,.func (hf "_law_can" "_law_can" (fnParams 30) (fnBody 30) (fnScope 30) 0 .none .none .none .none .none),#[]⟩
noncomputable def ho360:Obj:=⟨.type "code",none,.fields #[hs "_law_can" 963,hs "_law_can" 964,hs "/claim/cut.py" 965,.int 247 0,.int 2 0,.int 0 0,.int 0 0,.int 3 0,.ref 310,.bool true,.int 276 0,.ref 311,.none,.ref 312,.ref 313,.ref 314,.int 974 0,.int 247 0,hs "/claim/cut.py" 975],#[]⟩
noncomputable def ho361:Obj:=⟨.type "function",none,.func (hf "_law_can" "_law_can" (fnParams 30) (fnBody 30) (fnScope 30) 3 .none .none .none (hs "law_ta0065_01" 909) (.ref 315)),#[]⟩
noncomputable def ho362:Obj:=⟨.type "tuple",none,.seq #[] 0,#[]⟩
noncomputable def ho363:Obj:=⟨.none,none,.fields #[],#[]⟩
noncomputable def ho364:Obj:=⟨.none,none,.func (hf "law" "law" (fnParams 31) (fnBody 31) (fnScope 31) 0 .none .none .none .none .none),#[]⟩
noncomputable def ho365:Obj:=⟨.type "code",none,.fields #[hs "law" 977,hs "law" 978,hs "/claim/cut.py" 979,.int 258 0,.int 1 0,.int 0 0,.int 0 0,.int 3 0,.ref 317,.bool true,.int 276 0,.ref 318,.none,.none,.none,.ref 319,.int 980 0,.int 258 0,hs "/claim/cut.py" 981],#[]⟩
noncomputable def ho366:Obj:=⟨.type "function",none,.func (hf "law" "law" (fnParams 31) (fnBody 31) (fnScope 31) 3 .none .none .none (hs "law_ta0065_01" 909) (.ref 320)),#[]⟩
noncomputable def ht355:BT:=(.node ho32 (.node ho68 (.node ho168 (hl ho298) .nil) (.node ho234 (hl ho364) .nil)) (.node ho104 (.node ho202 (hl ho332) .nil) (hl ho266)))
noncomputable def ht356:BT:=(.node ho50 (.node ho86 (.node ho184 (hl ho314) .nil) (hl ho250)) (.node ho132 (.node ho218 (hl ho348) .nil) (hl ho282)))
noncomputable def ht357:BT:=(.node ho15 ht355 ht356)
noncomputable def ht358:BT:=(.node ho42 (.node ho76 (.node ho176 (hl ho306) .nil) (hl ho242)) (.node ho112 (.node ho210 (hl ho340) .nil) (hl ho274)))
noncomputable def ht359 (P:Params):BT:=(.node ho58 (.node ho96 (.node (ho194 P) (hl ho324) .nil) (hl ho258)) (.node ho160 (.node ho226 (hl ho356) .nil) (hl ho290)))
noncomputable def ht360 (P:Params):BT:=(.node ho23 ht358 (ht359 P))
noncomputable def ht361 (P:Params):BT:=(.node ho7 ht357 (ht360 P))
noncomputable def ht362:BT:=(.node ho38 (.node ho72 (.node ho172 (hl ho302) .nil) (hl ho238)) (.node ho108 (.node ho206 (hl ho336) .nil) (hl ho270)))
noncomputable def ht363 (b:Bool):BT:=(.node ho54 (.node ho90 (.node ho188 (hl ho320) .nil) (hl ho254)) (.node (ho152 b) (.node ho222 (hl ho352) .nil) (hl ho286)))
noncomputable def ht364 (b:Bool):BT:=(.node ho19 ht362 (ht363 b))
noncomputable def ht365:BT:=(.node ho46 (.node ho82 (.node ho180 (hl ho310) .nil) (hl ho246)) (.node ho116 (.node ho214 (hl ho344) .nil) (hl ho278)))
noncomputable def ht366:BT:=(.node ho62 (.node ho100 (.node ho198 (hl ho328) .nil) (hl ho262)) (.node ho164 (.node ho230 (hl ho360) .nil) (hl ho294)))
noncomputable def ht367:BT:=(.node ho27 ht365 ht366)
noncomputable def ht368 (P:Params) (b:Bool):BT:=(.node (ho28 P) (ht364 b) ht367)
noncomputable def ht369 (P:Params) (b:Bool):BT:=(.node (ho317 P) (ht361 P) (ht368 P b))
noncomputable def ht370 (b:Bool):BT:=(.node ho36 (.node ho70 (.node ho170 (hl ho300) .nil) (.node ho236 (hl ho366) .nil)) (.node (ho106 b) (.node ho204 (hl ho334) .nil) (hl ho268)))
noncomputable def ht371:BT:=(.node ho52 (.node ho88 (.node ho186 (hl ho316) .nil) (hl ho252)) (.node ho134 (.node ho220 (hl ho350) .nil) (hl ho284)))
noncomputable def ht372 (b:Bool):BT:=(.node ho17 (ht370 b) ht371)
noncomputable def ht373 (b:Bool):BT:=(.node ho44 (.node (ho80 b) (.node ho178 (hl ho308) .nil) (hl ho244)) (.node ho114 (.node ho212 (hl ho342) .nil) (hl ho276)))
noncomputable def ht374:BT:=(.node ho60 (.node ho98 (.node ho196 (hl ho326) .nil) (hl ho260)) (.node ho162 (.node ho228 (hl ho358) .nil) (hl ho292)))
noncomputable def ht375 (b:Bool):BT:=(.node ho25 (ht373 b) ht374)
noncomputable def ht376 (b:Bool):BT:=(.node ho9 (ht372 b) (ht375 b))
noncomputable def ht377:BT:=(.node ho40 (.node ho74 (.node ho174 (hl ho304) .nil) (hl ho240)) (.node ho110 (.node ho208 (hl ho338) .nil) (hl ho272)))
noncomputable def ht378:BT:=(.node ho56 (.node ho94 (.node ho192 (hl ho322) .nil) (hl ho256)) (.node ho156 (.node ho224 (hl ho354) .nil) (hl ho288)))
noncomputable def ht379 (P:Params):BT:=(.node (ho21 P) ht377 ht378)
noncomputable def ht380:BT:=(.node ho48 (.node ho84 (.node ho182 (hl ho312) .nil) (hl ho248)) (.node ho118 (.node ho216 (hl ho346) .nil) (hl ho280)))
noncomputable def ht381 (b:Bool):BT:=(.node (ho66 b) (.node ho102 (.node ho200 (hl ho330) .nil) (hl ho264)) (.node ho166 (.node ho232 (hl ho362) .nil) (hl ho296)))
noncomputable def ht382 (b:Bool):BT:=(.node ho318 ht380 (ht381 b))
noncomputable def ht383 (P:Params) (b:Bool):BT:=(.node (ho13 P) (ht379 P) (ht382 b))
noncomputable def ht384 (P:Params) (b:Bool):BT:=(.node ho5 (ht376 b) (ht383 P b))
noncomputable def ht385 (P:Params) (b:Bool):BT:=(.node (ho1 P) (ht369 P b) (ht384 P b))
noncomputable def ht386:BT:=(.node ho35 (.node ho69 (.node ho169 (hl ho299) .nil) (.node ho235 (hl ho365) .nil)) (.node ho105 (.node ho203 (hl ho333) .nil) (hl ho267)))
noncomputable def ht387:BT:=(.node ho51 (.node ho87 (.node ho185 (hl ho315) .nil) (hl ho251)) (.node ho133 (.node ho219 (hl ho349) .nil) (hl ho283)))
noncomputable def ht388:BT:=(.node ho16 ht386 ht387)
noncomputable def ht389:BT:=(.node ho43 (.node ho79 (.node ho177 (hl ho307) .nil) (hl ho243)) (.node ho113 (.node ho211 (hl ho341) .nil) (hl ho275)))
noncomputable def ht390:BT:=(.node ho59 (.node ho97 (.node ho195 (hl ho325) .nil) (hl ho259)) (.node ho161 (.node ho227 (hl ho357) .nil) (hl ho291)))
noncomputable def ht391:BT:=(.node ho24 ht389 ht390)
noncomputable def ht392:BT:=(.node ho8 ht388 ht391)
noncomputable def ht393:BT:=(.node ho39 (.node ho73 (.node ho173 (hl ho303) .nil) (hl ho239)) (.node ho109 (.node ho207 (hl ho337) .nil) (hl ho271)))
noncomputable def ht394:BT:=(.node ho55 (.node ho93 (.node ho189 (hl ho321) .nil) (hl ho255)) (.node ho155 (.node ho223 (hl ho353) .nil) (hl ho287)))
noncomputable def ht395 (P:Params):BT:=(.node (ho20 P) ht393 ht394)
noncomputable def ht396 (P:Params):BT:=(.node ho47 (.node ho83 (.node ho181 (hl (ho311 P)) .nil) (hl ho247)) (.node ho117 (.node ho215 (hl ho345) .nil) (hl ho279)))
noncomputable def ht397:BT:=(.node ho65 (.node ho101 (.node ho199 (hl ho329) .nil) (hl ho263)) (.node ho165 (.node ho231 (hl ho361) .nil) (hl ho295)))
noncomputable def ht398 (P:Params):BT:=(.node ho29 (ht396 P) ht397)
noncomputable def ht399 (P:Params):BT:=(.node ho12 (ht395 P) (ht398 P))
noncomputable def ht400 (P:Params):BT:=(.node ho4 ht392 (ht399 P))
noncomputable def ht401:BT:=(.node ho37 (.node ho71 (.node ho171 (hl ho301) .nil) (hl ho237)) (.node ho107 (.node ho205 (hl ho335) .nil) (hl ho269)))
noncomputable def ht402:BT:=(.node ho53 (.node ho89 (.node ho187 (hl ho319) .nil) (hl ho253)) (.node ho135 (.node ho221 (hl ho351) .nil) (hl ho285)))
noncomputable def ht403:BT:=(.node ho18 ht401 ht402)
noncomputable def ht404:BT:=(.node ho45 (.node ho81 (.node ho179 (hl ho309) .nil) (hl ho245)) (.node ho115 (.node ho213 (hl ho343) .nil) (hl ho277)))
noncomputable def ht405:BT:=(.node ho61 (.node ho99 (.node ho197 (hl ho327) .nil) (hl ho261)) (.node ho163 (.node ho229 (hl ho359) .nil) (hl ho293)))
noncomputable def ht406:BT:=(.node ho26 ht404 ht405)
noncomputable def ht407:BT:=(.node ho10 ht403 ht406)
noncomputable def ht408:BT:=(.node ho41 (.node ho75 (.node ho175 (hl ho305) .nil) (hl ho241)) (.node ho111 (.node ho209 (hl ho339) .nil) (hl ho273)))
noncomputable def ht409:BT:=(.node ho57 (.node ho95 (.node ho193 (hl ho323) .nil) (hl ho257)) (.node ho157 (.node ho225 (hl ho355) .nil) (hl ho289)))
noncomputable def ht410:BT:=(.node ho22 ht408 ht409)
noncomputable def ht411:BT:=(.node ho49 (.node ho85 (.node ho183 (hl ho313) .nil) (hl ho249)) (.node ho131 (.node ho217 (hl ho347) .nil) (hl ho281)))
noncomputable def ht412:BT:=(.node ho67 (.node ho103 (.node ho201 (hl ho331) .nil) (hl ho265)) (.node ho167 (.node ho233 (hl ho363) .nil) (hl ho297)))
noncomputable def ht413:BT:=(.node ho31 ht411 ht412)
noncomputable def ht414:BT:=(.node ho14 ht410 ht413)
noncomputable def ht415:BT:=(.node ho6 ht407 ht414)
noncomputable def ht416 (P:Params):BT:=(.node (ho2 P) (ht400 P) ht415)
noncomputable def ht417 (P:Params) (b:Bool):BT:=(.node (ho0 P) (ht385 P b) (ht416 P))
noncomputable def tG7 (P:Params) (b:Bool):BT:=(ht417 P b)
end
section
set_option maxRecDepth 100000
noncomputable def hb:List Stmt:=behindTheImports pw
noncomputable def hE:Env:={ scope:=pw.main.scope,locals:=mainNs,globals:=mainNs,cells:=[],code:=.ref 30,frame:=some 31 }
noncomputable def hC:Code:=.body hb hE
noncomputable def hq:Pos:=⟨0,0,0,0⟩
noncomputable def sts (i j:Nat):List Stmt:=(hb.drop i).take (j - i)
noncomputable def hled (w:World):Bool:=!w.params.followText "set-order"
noncomputable def hS (t:Params → Bool → BT) (n k:Nat) (w:World) (b:Bool) (os:OsState):SharedT:=⟨t w.params b,n,{},#[],{},k,os⟩
noncomputable def hP (t t':Params → Bool → BT) (n k n' k' i j m:Nat) (p p':Pos) (w:World):Prop :=
  (fun os => segRunT treeTable pw w 28 (some (.ref 6)) 1 m (hS t n k w (hled w) os) (piecesOf (sts i j) hE hC p [topFrame hq])) = fun os => some (.next,hS t' n' k' w (hled w) os,hC,p')
theorem g0 (w:World):hP tB tG0 32 282 60 334 0 8 169 ⟨0,0,0,0⟩ ⟨75,0,75,8⟩ w:=by
  unfold hP
  rw [Fast.te10110043849684766642,Fast.te14364793385576792824]
  kernel_rfl
theorem g1:∀ w,hP tG0 tG1 60 334 72 355 8 10 229 ⟨75,0,75,8⟩ ⟨77,0,78,30⟩ w:=by
  refine byRow2 "special-get-raises" (P:=hP tG0 tG1 60 334 72 355 8 10 229 ⟨75,0,75,8⟩ ⟨77,0,78,30⟩) (fun w => ?_) (fun w => ?_)
  all_goals
    unfold hP
    rw [Fast.te10110043849684766642,Fast.te14364793385576792824]
    kernel_rfl
theorem g2:∀ w,hP tG1 tG2 72 355 84 390 10 12 390 ⟨77,0,78,30⟩ ⟨80,0,81,30⟩ w:=by
  refine byRow2 "special-get-raises" (P:=hP tG1 tG2 72 355 84 390 10 12 390 ⟨77,0,78,30⟩ ⟨80,0,81,30⟩) (fun w => ?_) (fun w => ?_)
  all_goals
    unfold hP
    rw [Fast.te10110043849684766642,Fast.te14364793385576792824]
    kernel_rfl
theorem g3:∀ w,hP tG2 tG3 84 390 108 438 12 14 804 ⟨80,0,81,30⟩ ⟨83,0,84,30⟩ w:=by
  refine byRow2 "special-get-raises" (P:=hP tG2 tG3 84 390 108 438 12 14 804 ⟨80,0,81,30⟩ ⟨83,0,84,30⟩) (fun w => ?_) (fun w => ?_)
  all_goals
    unfold hP
    rw [Fast.te10110043849684766642,Fast.te14364793385576792824]
    kernel_rfl
noncomputable def hc1:Code:=.builtin "list.extend.loop" ⟨[.ref 110,.ref 111,.none],[]⟩
noncomputable def hc2:Code:=.builtin "set.update.loop" ⟨[.ref 115,.ref 116],[]⟩
noncomputable def hp1:Pos:=⟨85,24,85,51⟩
noncomputable def hp2:Pos:=⟨85,9,85,52⟩
noncomputable def hth:Thread:=piecesOf (sts 14 15) hE hC ⟨83,0,84,30⟩ [topFrame hq]
noncomputable def hgo (w:World) (m:Nat) (s:SharedT) (t:Thread):Option (SharedT × Thread):=segGoT treeTable pw w 28 (some (.ref 6)) 1 m s t
noncomputable def stkOf (r:Option (SharedT × Thread)) (i:Nat):Frame:=match r with
  | some (_,t) => t.stack.getD i (topFrame hq)
  | none => topFrame hq
noncomputable def hz1 (F G H:Frame):Thread:=⟨denote treeTable hc1,hc1,hp1,[F,G,H]⟩
noncomputable def hz2 (F G H I:Frame):Thread:=⟨denote treeTable hc2,hc2,hp2,[F,G,H,I]⟩
noncomputable def k1 (w:World) (os:OsState) (i:Nat):Frame:=stkOf (hgo w 87 (hS tG3 108 438 w (hled w) os) hth) i
noncomputable def k2 (w:World) (os:OsState) (i:Nat):Frame:=stkOf (hgo w 59 (hS tX6 112 540 w (hled w) os) (hz1 (k1 w os 0) (k1 w os 1) (k1 w os 2))) i
noncomputable def hQ0 (w:World):Prop:=(fun os => hgo w 87 (hS tG3 108 438 w (hled w) os) hth) = fun os => some ((hS tX0 112 444 w (hled w) os),hz1 (k1 w os 0) (k1 w os 1) (k1 w os 2))
noncomputable def hQ1 (t t':Params → Bool → BT) (n k n' k' m:Nat) (w:World) (b:Bool):Prop:=(fun os F G H => hgo w m (hS t n k w b os) (hz1 F G H)) = fun os F G H => some (hS t' n' k' w b os,hz1 F G H)
noncomputable def hQ2 (t t':Params → Bool → BT) (n k n' k' m:Nat) (w:World) (b:Bool):Prop:=(fun os F G H I => hgo w m (hS t n k w b os) (hz2 F G H I)) = fun os F G H I => some (hS t' n' k' w b os,hz2 F G H I)
noncomputable def hQ3 (w:World):Prop:=(fun os => hgo w 59 (hS tX6 112 540 w (hled w) os) (hz1 (k1 w os 0) (k1 w os 1) (k1 w os 2))) = fun os => some ((hS tX7 117 540 w (hled w) os),hz2 (k2 w os 0) (k2 w os 1) (k2 w os 2) (k2 w os 3))
noncomputable def hQ4 (w:World):Prop:=(fun os => segRunT treeTable pw w 28 (some (.ref 6)) 1 27 (hS tX15 117 637 w (hled w) os) (hz2 (k2 w os 0) (k2 w os 1) (k2 w os 2) (k2 w os 3))) = fun os => some (.next,hS tG4 119 638 w (hled w) os,hC,⟨85,0,85,6⟩)
theorem c0:∀ w,hQ0 w:=by
  refine byRow2 "special-get-raises" (P:=hQ0) (fun w => ?_) (fun w => ?_)
  all_goals
    unfold hQ0 k1 hz1 hgo
    rw [Fast.te10295753902157049106,Fast.te14364793385576792824,Fast.te11892475500146522536]
    kernel_rfl
theorem c7:∀ w,hQ3 w:=by
  refine byRow2 "special-get-raises" (P:=hQ3) (fun w => ?_) (fun w => ?_)
  all_goals
    unfold hQ3 k2 k1 hz1 hz2 hgo
    rw [Fast.te10295753902157049106,Fast.te14364793385576792824,Fast.te11892475500146522536]
    kernel_rfl
theorem c16:∀ w,hQ4 w:=by
  refine byRow2 "special-get-raises" (P:=hQ4) (fun w => ?_) (fun w => ?_)
  all_goals
    unfold hQ4 k2 k1 hz1 hz2 hgo
    rw [Fast.te10110043849684766642,Fast.te10295753902157049106,Fast.te14364793385576792824,Fast.te11892475500146522536]
    kernel_rfl
theorem c1 (w:World) (b:Bool):hQ1 tX0 tX1 112 444 112 460 272 w b:=by
  unfold hQ1 hgo hz1
  rw [Fast.te10295753902157049106,Fast.te14364793385576792824,Fast.te11892475500146522536]
  kernel_rfl
theorem c2 (w:World) (b:Bool):hQ1 tX1 tX2 112 460 112 476 272 w b:=by
  unfold hQ1 hgo hz1
  rw [Fast.te10295753902157049106,Fast.te14364793385576792824,Fast.te11892475500146522536]
  kernel_rfl
theorem c3 (w:World) (b:Bool):hQ1 tX2 tX3 112 476 112 492 272 w b:=by
  unfold hQ1 hgo hz1
  rw [Fast.te10295753902157049106,Fast.te14364793385576792824,Fast.te11892475500146522536]
  kernel_rfl
theorem c4 (w:World) (b:Bool):hQ1 tX3 tX4 112 492 112 508 272 w b:=by
  unfold hQ1 hgo hz1
  rw [Fast.te10295753902157049106,Fast.te14364793385576792824,Fast.te11892475500146522536]
  kernel_rfl
theorem c5 (w:World) (b:Bool):hQ1 tX4 tX5 112 508 112 524 272 w b:=by
  unfold hQ1 hgo hz1
  rw [Fast.te10295753902157049106,Fast.te14364793385576792824,Fast.te11892475500146522536]
  kernel_rfl
theorem c6 (w:World) (b:Bool):hQ1 tX5 tX6 112 524 112 540 272 w b:=by
  unfold hQ1 hgo hz1
  rw [Fast.te10295753902157049106,Fast.te14364793385576792824,Fast.te11892475500146522536]
  kernel_rfl
theorem c8 (w:World) (b:Bool):hQ2 tX7 tX8 117 540 117 557 342 w b:=by
  cases b
  · refine byRow2 "special-get-raises" (P:=fun w => hQ2 tX7 tX8 117 540 117 557 342 w false) (fun w => ?_) (fun w => ?_) w
    all_goals
      unfold hQ2 hgo hz2
      rw [Fast.te10295753902157049106,Fast.te14364793385576792824,Fast.te11892475500146522536]
      kernel_rfl
  · refine byRow2 "special-get-raises" (P:=fun w => hQ2 tX7 tX8 117 540 117 557 342 w true) (fun w => ?_) (fun w => ?_) w
    all_goals
      unfold hQ2 hgo hz2
      rw [Fast.te10295753902157049106,Fast.te14364793385576792824,Fast.te11892475500146522536]
      kernel_rfl
theorem c9 (w:World) (b:Bool):hQ2 tX8 tX9 117 557 117 573 322 w b:=by
  cases b
  · refine byRow2 "special-get-raises" (P:=fun w => hQ2 tX8 tX9 117 557 117 573 322 w false) (fun w => ?_) (fun w => ?_) w
    all_goals
      unfold hQ2 hgo hz2
      rw [Fast.te10295753902157049106,Fast.te14364793385576792824,Fast.te11892475500146522536]
      kernel_rfl
  · refine byRow2 "special-get-raises" (P:=fun w => hQ2 tX8 tX9 117 557 117 573 322 w true) (fun w => ?_) (fun w => ?_) w
    all_goals
      unfold hQ2 hgo hz2
      rw [Fast.te10295753902157049106,Fast.te14364793385576792824,Fast.te11892475500146522536]
      kernel_rfl
theorem c10 (w:World) (b:Bool):hQ2 tX9 tX10 117 573 117 589 320 w b:=by
  cases b
  · refine byRow2 "special-get-raises" (P:=fun w => hQ2 tX9 tX10 117 573 117 589 320 w false) (fun w => ?_) (fun w => ?_) w
    all_goals
      unfold hQ2 hgo hz2
      rw [Fast.te10295753902157049106,Fast.te14364793385576792824,Fast.te11892475500146522536]
      kernel_rfl
  · refine byRow2 "special-get-raises" (P:=fun w => hQ2 tX9 tX10 117 573 117 589 320 w true) (fun w => ?_) (fun w => ?_) w
    all_goals
      unfold hQ2 hgo hz2
      rw [Fast.te10295753902157049106,Fast.te14364793385576792824,Fast.te11892475500146522536]
      kernel_rfl
theorem c11 (w:World) (b:Bool):hQ2 tX10 tX11 117 589 117 605 320 w b:=by
  cases b
  · refine byRow2 "special-get-raises" (P:=fun w => hQ2 tX10 tX11 117 589 117 605 320 w false) (fun w => ?_) (fun w => ?_) w
    all_goals
      unfold hQ2 hgo hz2
      rw [Fast.te10295753902157049106,Fast.te14364793385576792824,Fast.te11892475500146522536]
      kernel_rfl
  · refine byRow2 "special-get-raises" (P:=fun w => hQ2 tX10 tX11 117 589 117 605 320 w true) (fun w => ?_) (fun w => ?_) w
    all_goals
      unfold hQ2 hgo hz2
      rw [Fast.te10295753902157049106,Fast.te14364793385576792824,Fast.te11892475500146522536]
      kernel_rfl
theorem c12 (w:World) (b:Bool):hQ2 tX11 tX12 117 605 117 616 220 w b:=by
  cases b
  · refine byRow2 "special-get-raises" (P:=fun w => hQ2 tX11 tX12 117 605 117 616 220 w false) (fun w => ?_) (fun w => ?_) w
    all_goals
      unfold hQ2 hgo hz2
      rw [Fast.te10295753902157049106,Fast.te14364793385576792824,Fast.te11892475500146522536]
      kernel_rfl
  · refine byRow2 "special-get-raises" (P:=fun w => hQ2 tX11 tX12 117 605 117 616 220 w true) (fun w => ?_) (fun w => ?_) w
    all_goals
      unfold hQ2 hgo hz2
      rw [Fast.te10295753902157049106,Fast.te14364793385576792824,Fast.te11892475500146522536]
      kernel_rfl
theorem c13 (w:World) (b:Bool):hQ2 tX12 tX13 117 616 117 617 22 w b:=by
  cases b
  · refine byRow2 "special-get-raises" (P:=fun w => hQ2 tX12 tX13 117 616 117 617 22 w false) (fun w => ?_) (fun w => ?_) w
    all_goals
      unfold hQ2 hgo hz2
      rw [Fast.te10295753902157049106,Fast.te14364793385576792824,Fast.te11892475500146522536]
      kernel_rfl
  · refine byRow2 "special-get-raises" (P:=fun w => hQ2 tX12 tX13 117 616 117 617 22 w true) (fun w => ?_) (fun w => ?_) w
    all_goals
      unfold hQ2 hgo hz2
      rw [Fast.te10295753902157049106,Fast.te14364793385576792824,Fast.te11892475500146522536]
      kernel_rfl
theorem c14 (w:World) (b:Bool):hQ2 tX13 tX14 117 617 117 627 200 w b:=by
  cases b
  · refine byRow2 "special-get-raises" (P:=fun w => hQ2 tX13 tX14 117 617 117 627 200 w false) (fun w => ?_) (fun w => ?_) w
    all_goals
      unfold hQ2 hgo hz2
      rw [Fast.te10295753902157049106,Fast.te14364793385576792824,Fast.te11892475500146522536]
      kernel_rfl
  · refine byRow2 "special-get-raises" (P:=fun w => hQ2 tX13 tX14 117 617 117 627 200 w true) (fun w => ?_) (fun w => ?_) w
    all_goals
      unfold hQ2 hgo hz2
      rw [Fast.te10295753902157049106,Fast.te14364793385576792824,Fast.te11892475500146522536]
      kernel_rfl
theorem c15 (w:World) (b:Bool):hQ2 tX14 tX15 117 627 117 637 200 w b:=by
  cases b
  · refine byRow2 "special-get-raises" (P:=fun w => hQ2 tX14 tX15 117 627 117 637 200 w false) (fun w => ?_) (fun w => ?_) w
    all_goals
      unfold hQ2 hgo hz2
      rw [Fast.te10295753902157049106,Fast.te14364793385576792824,Fast.te11892475500146522536]
      kernel_rfl
  · refine byRow2 "special-get-raises" (P:=fun w => hQ2 tX14 tX15 117 627 117 637 200 w true) (fun w => ?_) (fun w => ?_) w
    all_goals
      unfold hQ2 hgo hz2
      rw [Fast.te10295753902157049106,Fast.te14364793385576792824,Fast.te11892475500146522536]
      kernel_rfl
theorem g5 (w:World):hP tG4 tG5 119 638 149 751 15 21 295 ⟨85,0,85,6⟩ ⟨92,0,100,20⟩ w:=by
  unfold hP
  rw [Fast.te10110043849684766642,Fast.te14364793385576792824]
  kernel_rfl
theorem g6 (w:World):hP tG5 tG6 149 751 274 909 21 22 728 ⟨92,0,100,20⟩ ⟨101,0,187,93⟩ w:=by
  unfold hP
  rw [Fast.te10110043849684766642,Fast.te14364793385576792824]
  kernel_rfl
theorem g7 (w:World):hP tG6 tG7 274 909 322 983 22 31 250 ⟨101,0,187,93⟩ ⟨258,0,290,71⟩ w:=by
  unfold hP
  rw [Fast.te10110043849684766642,Fast.te14364793385576792824]
  kernel_rfl
end
section
set_option maxRecDepth 100000
noncomputable def qO:Program:=opening pw
noncomputable def sO:SharedT:=⟨.nil,(start qO).1.heap.objs.size,{},#[],{},(start qO).1.toks,(start qO).1.os⟩
theorem sO_abs:sO.abs = (start (opening pw)).1:=by kernel_rfl
noncomputable def sE (w:World):SharedT:=⟨tE w.params false,28,{},#[],{},276,(start qO).1.os⟩
noncomputable def rO (w:World):Option (SharedT × Thread):=impGoT treeTable qO w 798 sO (start qO).2
theorem rO_look (w:World):(rO w).map (fun x => (x.1,x.2.atExitBegin)) = some (sE w,some []):=by
  unfold rO
  rw [Fast.te14789777615569096658,Fast.te14364793385576792824]
  kernel_rfl
end
section
set_option maxRecDepth 100000
noncomputable def heE (P:Params):Heap:=absHeap (tE P false) 28 {}
noncomputable def he0 (P:Params):Heap:=absHeap (tS P false) 28 {}
theorem open_w (w:World):importEnds treeTable (opening pw) w 799 (start (opening pw)).1 (start (opening pw)).2 = some ⟨heE w.params,#[],{},276,(start (opening pw)).1.os⟩:=by
  obtain ⟨⟨s',t'⟩,h,e⟩:=Option.map_eq_some_iff.mp (rO_look w)
  obtain ⟨e1,e2⟩:=Prod.mk.inj e
  dsimp only at e1 e2
  subst e1
  have g:=impGo_of h
  rw [sO_abs] at g
  refine imp_go (n:=798) (N:=1) g ?_
  unfold importEnds
  rw [e2]
  rfl
theorem fence_w (w:World):(fun os => (fenceModules? pw ⟨heE w.params,#[],{},276,os⟩).map (fun s => (s.heap,s.gens,s.drawn,s.toks))) = fun _ => some (he0 w.params,#[],{},276):=by
  rw [Fast.te14289696077712309145]
  kernel_rfl
theorem open_all (w:World):(fencedOpening treeTable pw w 14000).map (fun s => (s.heap,s.gens,s.drawn,s.toks)) = some (he0 w.params,#[],{},276) :=
  open_cut (p:=pw) (N:=14000) (M:=799) open_w (by decide) fence_w w
theorem size_w (w:World):((he0 w.params).isNs mainGlobals && (#[]:Array GenState).size == 0,(he0 w.params).objs.size,(he0 w.params).nsMap mainGlobals "__annotations__") = (true,28,some (.ref 6)):=by
  kernel_rfl
end
section
set_option maxRecDepth 100000
noncomputable def heA (w:World):Heap:=absHeap (tA w.params (hled w)) 32 {}
noncomputable def he1 (w:World):Heap:=absHeap (tG7 w.params (hled w)) 322 {}
noncomputable def annA:Option Value:=some (.ref 6)
theorem pre_w (w:World):(fun os => topGo treeTable pw w 28 annA 12 ⟨he0 w.params,#[],{},276,os⟩ (topStub pw)) = fun os => some (⟨heA w,#[],{},282,os⟩,⟨denote treeTable hC,hC,hq,[topFrame hq]⟩):=by
  rw [Fast.te15667345088766844465,Fast.te14364793385576792824,Fast.te11892475500146522536]
  kernel_rfl
theorem block_w (w:World):(fun os => segRun treeTable pw w 28 annA 1 1 ⟨heA w,#[],{},282,os⟩ (blockOf hb hE hC hq [topFrame hq])) = fun os => some (.next,(hS tB 32 282 w (hled w) os).abs,hC,hq):=by
  rw [Fast.te14374325043358763698,Fast.te14364793385576792824]
  kernel_rfl
theorem fin_w (w:World):(fun os => topRun treeTable pw w 28 annA 2 (hS tG7 322 983 w (hled w) os).abs ⟨doneF .next,hC,⟨258,0,290,71⟩,[topFrame hq]⟩) = fun os => some (hS tG7 322 983 w (hled w) os).abs:=by
  rw [Fast.te14082659384304107361,Fast.te14364793385576792824]
  kernel_rfl
end
section
set_option maxRecDepth 100000
theorem piece_s {t t':Params → Bool → BT} {n k n' k' i j m:Nat} {p p':Pos} {w:World} {os:OsState} {N:Nat} {r:Shared} {rest:List Stmt}
    (h:segRun treeTable pw w 28 annA 1 m (hS t n k w (hled w) os).abs (piecesOf (sts i j) hE hC p [topFrame hq]) = some (.next,(hS t' n' k' w (hled w) os).abs,hC,p'))
    (q:topRun treeTable pw w 28 annA N (hS t' n' k' w (hled w) os).abs (restOf rest hE hC p' [topFrame hq]) = some r) :
    topRun treeTable pw w 28 annA (m + N) (hS t n k w (hled w) os).abs (restOf (sts i j ++ rest) hE hC p [topFrame hq]) = some r :=
  piece_app h q
theorem piece_w {t t':Params → Bool → BT} {n k n' k' i j m:Nat} {p p':Pos} {w:World} (h:hP t t' n k n' k' i j m p p' w) {os:OsState} {N:Nat} {r:Shared} {rest:List Stmt}
    (q:topRun treeTable pw w 28 annA N (hS t' n' k' w (hled w) os).abs (restOf rest hE hC p' [topFrame hq]) = some r) :
    topRun treeTable pw w 28 annA (m + N) (hS t n k w (hled w) os).abs (restOf (sts i j ++ rest) hE hC p [topFrame hq]) = some r :=
  piece_s (segRun_of (congrFun h os)) q
theorem go1 {t t':Params → Bool → BT} {n k n' k' m N:Nat} {w:World} {os:OsState} {F G H:Frame} {r:Flow × Shared × Code × Pos} (h:hQ1 t t' n k n' k' m w (hled w))
    (q:segRun treeTable pw w 28 annA 1 N (hS t' n' k' w (hled w) os).abs (hz1 F G H) = some r):segRun treeTable pw w 28 annA 1 (m + N) (hS t n k w (hled w) os).abs (hz1 F G H) = some r :=
  seg_go (segGo_of (congrFun (congrFun (congrFun (congrFun h os) F) G) H)) q
theorem go2 {t t':Params → Bool → BT} {n k n' k' m N:Nat} {w:World} {os:OsState} {F G H I:Frame} {r:Flow × Shared × Code × Pos} (h:hQ2 t t' n k n' k' m w (hled w))
    (q:segRun treeTable pw w 28 annA 1 N (hS t' n' k' w (hled w) os).abs (hz2 F G H I) = some r):segRun treeTable pw w 28 annA 1 (m + N) (hS t n k w (hled w) os).abs (hz2 F G H I) = some r :=
  seg_go (segGo_of (congrFun (congrFun (congrFun (congrFun (congrFun h os) F) G) H) I)) q
theorem g4 (w:World) (os:OsState):segRun treeTable pw w 28 annA 1 (87 + (272 + (272 + (272 + (272 + (272 + (272 + (59 + (342 + (322 + (320 + (320 + (220 + (22 + (200 + (200 + 27)))))))))))))))) (hS tG3 108 438 w (hled w) os).abs hth
    = some (.next,(hS tG4 119 638 w (hled w) os).abs,hC,⟨85,0,85,6⟩):=by
  refine seg_go (segGo_of (congrFun (c0 w) os)) ?_
  refine go1 (c1 w _) (go1 (c2 w _) (go1 (c3 w _) (go1 (c4 w _) (go1 (c5 w _) (go1 (c6 w _) ?_)))))
  refine seg_go (segGo_of (congrFun (c7 w) os)) ?_
  refine go2 (c8 w _) (go2 (c9 w _) (go2 (c10 w _) (go2 (c11 w _) (go2 (c12 w _) (go2 (c13 w _) (go2 (c14 w _) (go2 (c15 w _) ?_)))))))
  exact segRun_of (congrFun (c16 w) os)
noncomputable def stepsAll:Nat:=12 + (1 + (169 + (229 + (390 + (804 + ((87 + (272 + (272 + (272 + (272 + (272 + (272 + (59 + (342 + (322 + (320 + (320 + (220 + (22 + (200 + (200 + 27)))))))))))))))) + (295 + (728 + (250 + 2)))))))))
theorem hb_parts:hb = sts 0 8 ++ (sts 8 10 ++ (sts 10 12 ++ (sts 12 14 ++ (sts 14 15 ++ (sts 15 21 ++ (sts 21 22 ++ (sts 22 31 ++ []))))))):=by kernel_rfl
theorem run_w (w:World) (os:OsState):topRun treeTable pw w 28 annA stepsAll ⟨he0 w.params,#[],{},276,os⟩ (topStub pw) = some ⟨he1 w,#[],{},983,os⟩:=by
  refine go_top (congrFun (pre_w w) os) ?_
  refine piece_block (congrFun (block_w w) os) ?_
  rw [hb_parts]
  refine piece_w (g0 w) (piece_w (g1 w) (piece_w (g2 w) (piece_w (g3 w) ?_)))
  refine piece_s (g4 w os) ?_
  refine piece_w (g5 w) (piece_w (g6 w) (piece_w (g7 w) ?_))
  exact piece_nil (congrFun (fin_w w) os)
end
section
set_option maxRecDepth 100000
noncomputable def qv:Program:=view pw [0,31]
noncomputable def lse:List Str:=["_iter_escaped_chars","_strip_quoted_realnames","_check_parenthesis","ELLIPSIS_MARKER","_ellipsis_match","c6_set","in_table_c6","c7_set","in_table_c7","c8_set","in_table_c8","c9_set","in_table_c9",
  "tspecials","_name_disallowed_re","_value_disallowed_re","_formatparam","Headers","_law_codes","_law_read","_law_known","_law_wished","_law_granted","_law_takes","_law_can"]
noncomputable def heF (P:Params):Heap:=absHeap (tG7 P (!P.followText "set-order")) 322 {}
noncomputable def sF (P:Params) (os:OsState):Shared:=⟨heF P,#[],{},983,os⟩
theorem l1 (w:World):(fun os => (staticsOk (importedModules pw.main.body) (he0 w.params) (heF w.params) && namesBound pw (heF w.params) && gensDone (sF w.params os) && laidKept (he0 w.params) (heF w.params))) = fun os => true:=by
  kernel_rfl
theorem l2 (w:World):(fun os => openSeen qv lse (importedModules pw.main.body) (fun _ => true) true (sF w.params os)) = fun os => openGood qv lse:=by
  rw [Fast.te4187177175401517315]
  kernel_rfl
end
section
set_option maxRecDepth 100000
theorem left_w:LeftO pw qv lse (fun _ => true) (fun s => s.heap) (fun w => heF w.params) 14000 :=
  LeftO.of_pieces (M:=stepsAll) (H₀:=he0) (H₁:=heF) open_all size_w (fun w os => run_w w os) (by decide)
    (fun w => funext fun os => looks_pair (congrFun (l1 w) os) (looks_pair (congrFun (l2 w) os) rfl))
noncomputable def fnPos (i:Nat):Pos:=match pw.main.body[i]? with | some (.FunctionDef _ _ _ _ _ _ _ _ _ p) => p | _ => default
noncomputable def dL:DefRec:=⟨"law",fnParams 31,fnBody 31,fnScope 31,fnPos 31⟩
noncomputable def YPw (w:World) (h:Heap):Prop:=∀ b o,(heF w.params).get? b = some o → h.get? b = some o
theorem ok_w:PySem.Challenge.rw_ta0065_01.wellSaid = true:=by
  rw [Fast.te9446332074065402090]
  kernel_rfl
theorem holds_of (call:WalkO qv lse (fun _ _ => True) YPw PySem.Challenge.rw_ta0065_01.row.toRowW dL [] fun f vs => PySem.call f vs):PySem.Challenge.rw_ta0065_01.Holds:=by
  refine holds_law ok_w fun said => ?_
  refine PySem.W.holds_open (r:=PySem.Challenge.rw_ta0065_01.row) (q:=qv) (loose:=lse) (Xt:=fun _ => true) (XP:=fun _ _ => True) (Yf:=fun s => s.heap) (Ya:=fun w => heF w.params) (YP:=YPw) (N:=14000) (d:=dL) (kwd:=[])
    left_w (fun w s e => by unfold YPw; rw [← e]; exact fun _ _ h => h) (fun w h h' y k b o e => k _ _ (y b o e)) (fun _ _ => trivial) (fun _ _ _ _ _ => trivial) ?d1 ?d2 ?d3 (fun s e => recFacts_nil rfl) ?d4 (by assumption) ?d5 ?d6 ?d7 call
  case d1 => kernel_rfl
  case d2 => kernel_rfl
  case d3 => kernel_rfl
  case d4 => rfl
  case d5 => decide +kernel
  case d6 => exact ⟨rfl,rfl,rfl,rfl,rfl,by decide +kernel⟩
  case d7 => w_witness2
end
noncomputable def hdrMeths:List Str:=["__init__","_convert_string_type","setdefault","get","__setitem__","__delitem__","items","get_all","add_header","values"]
structure HdrOk (Amb:Fz → Prop) (K:Frag) (mf:Str → Addr):Prop where
  sub:∀ F,Amb F → ∀ a o,K.lookup a = some o → F a = some o
  plain:plainGet K hdrC "" = true
  dict:hasDictIn K hdrC = true
  own:findIn K (.ref hdrC) "_headers" = some none
  meth:∀ n ∈ hdrMeths,findIn K (.ref hdrC) n = some (some (.ref (mf n))) ∧ isFn K (.ref (mf n)) = true
  seq:noSeq K hdrC = true
  makes:makesIn K hdrC = true
  sets:findIn K (.ref hdrC) "__setattr__" = some (some (.builtin "object.__setattr__"))
  over:plainOver K hdrC = true
  taker:takerIn K hdrC "_headers" = some none
  keep:keepIn K (.ref hdrC) = true
structure HDef (Amb:Fz → Prop) (a:Addr) (j:Nat) (names:List Str) (us:List Value → List Value) (kw:List (Str × Value)):Prop where
  ex:∃ fd,FnIs Amb a fd (fnBodyM j) ∧ fd.scope = fnScopeM j ∧ ∀ (prog:Program) (w:World) (A:Around) (F:Fz) (s:Shared) (vs:List Value) (Q:List (Str × Value) → Shared → Prop) (E:Value → Shared → Prop),
    Amb F → (∀ a o,F a = some o → s.heap.get? a = some o) → (us vs).length = names.length → Q (names.zip (us vs)) s → wpAny (model prog w) A (bindArgs fd ⟨vs,kw⟩) Q E s
section
variable {prog:Program} {w:World} {Amb:Fz → Prop} {A:Around} {B:Base} {env env':Env} {μ μ':Mu} {σ σ':Sg} {mg mb:Str → Option Value} {sc:Scope} {K:Frag} {mf:Str → Addr}
variable {P P':List Pend} {s s' s₁:Shared} {F F':Fz} {φ φ':List Addr} {m m':Str → Option Value} {ow ow':List (Str × Addr)}
theorem HdrOk.inn (HK:HdrOk Amb K mf) (S:StF Amb B env μ σ P s F φ m ow):K.In s.heap:=fun a o e => S.sub _ _ (HK.sub F S.amb a o e)
theorem look_own (h:Int) (t:Tok) (l:Addr) (n:Nat):lookIn "_headers" (hdrD h t l n) = some (some (.ref l)):=by kernel_rfl
theorem look_not {x:Str} (hx:(("_headers":Str) == x) = false) (h:Int) (t:Tok) (l:Addr) (n:Nat):lookIn x (hdrD h t l n) = some none:=by
  unfold lookIn hdrD
  have e:(Value.str ("_headers":Str) t).isStr x = false:=hx
  simp [e,DictEntry.refKey]
theorem StF.hdrAt {v:Value} {i:Nat} (S:StF Amb B env μ σ P s F φ m ow) (r:Rel F φ v (.hdr i)):∃ x d l h t n,v = .ref x ∧ φ[i]? = some l ∧ InstAt s.heap x (hdrO d) hdrC (some (hdrD h t l n)):=by
  obtain ⟨_,_,_,_,_,_,rfl,h1,h2,h3⟩:=r.inv
  exact ⟨_,_,_,_,_,_,rfl,h1,S.sub _ _ h2,rfl,rfl,S.sub _ _ h3⟩
theorem WE.hattr {o:PySem.Expr} {pos:Pos} {R:V → Sg → Prop} (HK:HdrOk Amb K mf) (h:WE prog w Amb A B env μ σ o (fun y σ1 => ∃ i,y = .hdr i ∧ R (.hl i) σ1))
    (hbase:attributeBase o "_headers" env (eval o env) = eval o env:=by rfl) (ht:∀ a r,letTemporaryGo o a r = pure ():=by intro _ _; rfl):WE prog w Amb A B env μ σ (.Attribute o "_headers" pos) R:=by
  intro P s S
  rw [arm_eval_Attribute,hbase]
  refine wpAny_bind (wpAny_mono (h P s S) (fun v s1 qq => ?_) fun _ _ x => x)
  obtain ⟨y,σ1,⟨F,φ,m,ow,S1⟩,i,e,hR⟩:=qq
  subst e
  obtain ⟨x,d,l,hh,t,n,rfl,hl,I⟩:=S1.hdrAt S1.top
  refine wpAny_bind (wpAny_standAt (wpAny_bind (wpAny_holding (get_value (HK.inn S1) I (plainGet_of HK.plain).1 (findObj_own HK.dict HK.own rfl (look_own ..)) rfl ?_))))
  rw [ht]
  exact wpAny_bind (wpAny_pure (wpAny_pure ⟨.hl i,σ1,⟨F,φ,m,ow,(S1.pop.grow (s':={ s1 with toks:=s1.toks + 1 }) (Grow.toks _)).add (.hl hl)⟩,hR⟩))
theorem hmeth_get {o:PySem.Expr} {name:Str} {apos pos:Pos} {args:List (Bool × Sem Value)} {kws:List (Option Str × Sem Value)} {nn:Nat} {v:Value} {i:Nat} {Q:Value → Shared → Prop} {E:Value → Shared → Prop} (HK:HdrOk Amb K mf) (S:StF Amb B env μ σ P s F φ m ow) (r:Rel F φ v (.hdr i)) (hn:name ∈ hdrMeths)
    (hform:methodCallForm nn args kws = true) (hline:(apos.endLine == pos.line) = true) (hx:(("_headers":Str) == name) = false) (h:wpAny (model prog w) A (callWith pos (.ref (mf name)) [v] args kws) Q E s) :
    wpAny (model prog w) A (methodCall o name apos pos env v nn args kws) Q E s:=by
  obtain ⟨x,d,l,hh,t,n,rfl,hl,I⟩:=S.hdrAt r
  have hpos:methodCallPos true o env apos pos = pure pos:=by unfold methodCallPos; simp [hline]
  unfold methodCall
  rw [hform]
  obtain ⟨f1,f2⟩:=HK.meth name hn
  refine wpAny_bind (wpAny_holding (method_fn (HK.inn S) I (plainGet_of HK.plain).1 (plainGet_of HK.plain).2 f1 (beq_iff_eq.mp f2) ?_ ?_))
  · show (lookIn name _).map _ = _
    rw [look_not hx]; rfl
  · exact wpAny_bind (wpAny_of_eq hpos h)
theorem WE.hmeth {o:PySem.Expr} {name:Str} {apos pos:Pos} {args:List PySem.Expr} {R:V → Sg → Prop} {fd:FuncData} {body:List Stmt} (HK:HdrOk Amb K mf) (hn:name ∈ hdrMeths) (Fn:FnIs Amb (mf name) fd body)
    (h:WE prog w Amb A B env μ σ o (fun y σ1 => ∃ i,y = .hdr i ∧ WAs prog w Amb A B env μ σ1 args (fun ys σ2 => WC prog w Amb A B env μ σ2 (.ref (mf name)) (.hdr i :: ys) R)))
    (hbase:attributeBase o name env (eval o env) = eval o env:=by rfl)
    (hargs:backTo pos (starEach args env) = args.map fun e => (false,eval e env):=by rfl)
    (hfew:decide (args.length < 30) = true:=by rfl)
    (hline:(apos.endLine == pos.line) = true:=by rfl) (hx:(("_headers":Str) == name) = false:=by kernel_rfl):WE prog w Amb A B env μ σ (.Call (.Attribute o name apos) args [] pos) R:=by
  intro P s S
  have hall:∀ l:List PySem.Expr,(l.map fun e => (false,eval e env)).all (fun x => !x.1) = true:=fun l => by induction l <;> simp_all
  rw [arm_eval_Call,hbase]
  refine wpAny_bind (wpAny_mono (h P s S) (fun v s1 qq => ?_) fun _ _ x => x)
  obtain ⟨y,σ1,S1,i,e,h1⟩:=qq
  subst e
  obtain ⟨F,φ,m,ow,S1⟩:=S1
  refine wpAny_bind (wpAny_standAt (hmeth_get HK S1 S1.top hn ?_ hline hx ?_))
  · rw [hargs]
    unfold methodCallForm
    rw [hall]
    show (true && true && decide (args.length + 0 + 0 < 30)) = true
    simp only [Nat.add_zero]
    rw [hfew]
    rfl
  · rw [hargs]
    have:=callWith_plain (prog:=prog) (w:=w) (A:=A) (pos:=pos) (f:=.ref (mf name)) (first:=[v]) (ts:=args.map fun e => eval e env) (ks:=[]) (s:=s1) (Q:=VP Amb B env μ P R) (E:=nofail)
      (.inr (.inr ⟨_,rfl⟩)) ?_
    · have q:wpAny (model prog w) A (callWith pos (.ref (mf name)) [v] (args.map fun e => (false,eval e env)) []) (VP Amb B env μ P R) nofail s1:=by simpa [Function.comp_def] using this
      exact q
    · rw [List.map_map]
      refine wpAny_mono (h1 _ s1 ⟨F,φ,m,ow,S1⟩) (fun vs s2 qq => ?_) fun _ _ x => x
      obtain ⟨ys,σ2,hl,S2,h2⟩:=qq
      refine wpAny_evalAll_nil ⟨(fun a e => ?_),?_⟩
      · cases e
        obtain ⟨F2,φ2,m2,ow2,S2⟩:=S2
        obtain ⟨o,ho,hd⟩:=Fn.has F2 S2.amb
        exact ⟨o,_,S2.sub _ _ ho,hd⟩
      · refine h2 P (v :: vs) s2 (by simp [hl]) (S2.drop fun q hq => ?_)
        rw [rels_cons] at hq
        simp only [List.cons_append,List.mem_cons,List.mem_append] at hq ⊢
        rcases hq with e | e | e
        · exact .inr (.inl e)
        · exact .inl e
        · exact .inr (.inr e)
end
section
variable {prog:Program} {w:World} {Amb:Fz → Prop} {A:Around} {B:Base} {env env':Env} {μ μ':Mu} {σ σ':Sg} {mg mb:Str → Option Value} {sc:Scope} {K:Frag} {mf:Str → Addr}
variable {P P':List Pend} {s s' s₁:Shared} {F F':Fz} {φ φ':List Addr} {m m':Str → Option Value} {ow ow':List (Str × Addr)}
theorem StF.newHl {a:Addr} {n:Nat} (S:StF Amb B env μ σ P s F φ m ow) (G:Grow s s') (hn:s.heap.get? a = none) (ho:s'.heap.get? a = some (listO #[] n)):StF Amb B env μ (σ ++ [.lst []]) P s' F (φ ++ [a]) m ow:=by
  obtain ⟨f1,f2,f3,f4,f5,f6⟩:=S.free hn
  have T:=S.grow G
  have hp:∀ (i:Nat) l,φ[i]? = some l → (φ ++ [a])[i]? = some l:=fun i l h => by
    rw [List.getElem?_append_left (List.getElem?_eq_some_iff.mp h).1]; exact h
  have nin:∀ b,b ∉ φ → b ≠ a → b ∉ φ ++ [a]:=fun b h1 h2 h => by
    rcases List.mem_append.mp h with h | h
    · exact h1 h
    · exact h2 (List.mem_singleton.mp h)
  exact {
    amb:=T.amb,sub:=T.sub,ext:=T.ext,new:=T.new
    phi:=fun i l h => hp i l (T.phi i l h)
    phin:=fun l h => by
      rcases List.mem_append.mp h with h | h
      · exact T.phin l h
      · rw [List.mem_singleton.mp h]; exact .inr f6
    phi0:=T.phi0,keep:=T.keep,os:=T.os,gens:=T.gens,gkeep:=T.gkeep
    nodup:=List.nodup_append.mpr ⟨T.nodup,by simp,fun b hb c hc e => by rw [List.mem_singleton] at hc; subst hc; subst e; exact f2 hb⟩
    phiF:=fun l h => by
      rcases List.mem_append.mp h with h | h
      · exact T.phiF l h
      · rw [List.mem_singleton.mp h]; exact f1
    len:=by simp [T.len]
    sto:=fun i l es h1 h2 => by
      by_cases hi:i < φ.length
      · rw [List.getElem?_append_left hi] at h1
        rw [List.getElem?_append_left (T.len ▸ hi)] at h2
        obtain ⟨oo,q,r⟩:=T.sto i l es h1 h2
        exact ⟨oo,q,r.mono (fun _ _ h => h) hp⟩
      · have hi':i < (φ ++ [a]).length:=(List.getElem?_eq_some_iff.mp h1).1
        simp only [List.length_append,List.length_singleton] at hi'
        have e:i = φ.length:=by lia
        subst e
        simp only [List.getElem?_concat_length,Option.some.injEq] at h1
        rw [T.len,List.getElem?_concat_length] at h2
        cases h1; cases h2
        exact ⟨_,ho,_,_,rfl,.nil⟩
    ns:=T.ns
    locF:=⟨T.locF.1,nin _ T.locF.2.1 (fun e => f3 e.symm),T.locF.2.2⟩
    loc:=fun x lv h1 h2 => let ⟨v,q,r⟩:=T.loc x lv h1 h2; ⟨v,q,r.mono (fun _ _ h => h) hp⟩
    cel:=fun x lv h1 h2 h3 => let ⟨c,v,q,r,y,e,z⟩:=T.cel x lv h1 h2 h3; ⟨c,v,q,r,y,e,z.mono (fun _ _ h => h) hp⟩
    fre:=fun x lv h1 h2 => let ⟨c,v,q,r,k,y,e,z⟩:=T.fre x lv h1 h2; ⟨c,v,q,r,k,y,e,z.mono (fun _ _ h => h) hp⟩
    cells:=fun c h => let ⟨q,r1,r2,r3⟩:=T.cells c h; ⟨q,r1,nin _ r2 (fun e => f4 (e ▸ h)),r3⟩
    own:=fun x b h => let ⟨q,r1,r2,r3⟩:=T.own x b h; ⟨q,r1,nin _ r2 (fun e => f5 x (e ▸ h)),r3⟩
    ownk:=T.ownk
    ownf:=T.ownf
    pend:=fun v x h => (T.pend v x h).mono (fun _ _ h => h) hp
    held:=fun b o' mi h => by
      obtain ⟨q,r1,r2⟩:=T.held b o' mi h
      refine ⟨q,nin _ r1 (fun e => ?_),r2⟩
      obtain ⟨q',_⟩:=S.held b o' mi h
      rw [e,hn] at q'; cases q' }
theorem StF.setPhi {i:Nat} {l:Addr} {oo:Obj} {tk:Nat} {e:HL} {h':Heap} (S:StF Amb B env μ σ P s F φ m ow) (hl:φ[i]? = some l) (get:∀ b o,b ≠ l → s.heap.get? b = some o → h'.get? b = some o) (ho:h'.get? l = some oo) (r:Cont F φ oo e) :
    StF Amb B env μ (σ.set i e) P { s with heap:=h',toks:=tk } F φ m ow:=by
  have hm:l ∈ φ:=List.mem_of_getElem? hl
  exact {
    amb:=S.amb
    sub:=fun b o h => get _ _ (fun e => by rw [e,S.phiF l hm] at h; cases h) (S.sub b o h)
    ext:=S.ext,new:=S.new,phi:=S.phi,phin:=S.phin,phi0:=S.phi0
    keep:=fun b o h hb => get _ _ (fun e => by
      rcases S.phin l hm with q | q
      · exact hb (e ▸ q)
      · rw [e,q] at h; cases h) (S.keep b o h hb)
    os:=S.os,gens:=S.gens,gkeep:=S.gkeep,nodup:=S.nodup,phiF:=S.phiF
    len:=by simp [S.len]
    sto:=fun j k fs h1 h2 => by
      by_cases e:i = j
      · subst e
        rw [hl] at h1; cases h1
        have hi:i < σ.length:=S.len ▸ (List.getElem?_eq_some_iff.mp hl).1
        rw [List.getElem?_set_self hi] at h2; cases h2
        exact ⟨_,ho,r⟩
      · rw [List.getElem?_set_ne e] at h2
        obtain ⟨oo,a,b⟩:=S.sto j k fs h1 h2
        refine ⟨oo,get _ _ (fun e' => e ?_) a,b⟩
        subst e'
        have a1:=(List.getElem?_eq_some_iff.mp hl)
        have a2:=(List.getElem?_eq_some_iff.mp h1)
        exact (List.getElem_inj S.nodup).mp (a1.2.trans a2.2.symm)
    ns:=S.ns.at' fun o e => get _ _ (fun e' => S.locF.2.1 (e' ▸ hm)) e
    locF:=S.locF
    loc:=fun x lv h1 h2 => by
      obtain ⟨v,a,b⟩:=S.loc x lv h1 h2
      refine ⟨v,a,?_⟩
      cases lv with
      | v y => exact b
      | own xs =>
        obtain ⟨d,us,q,e1,e2,e3,e4⟩:=b
        exact ⟨d,us,q,e1,e2,get _ _ (fun e => (S.own x d e2).2.2.1 (e ▸ hm)) e3,e4⟩
    cel:=fun x lv h1 h2 h3 => let ⟨c,v,a,⟨o,b1,b2⟩,d⟩:=S.cel x lv h1 h2 h3; ⟨c,v,a,⟨o,get _ _ (fun e => (S.cells c ⟨h3,x,h2,a⟩).2.2.1 (e ▸ hm)) b1,b2⟩,d⟩
    fre:=S.fre
    cells:=fun c h => let ⟨⟨v,o,a1,a2⟩,b⟩:=S.cells c h; ⟨⟨v,o,get _ _ (fun e => b.2.1 (e ▸ hm)) a1,a2⟩,b⟩
    own:=fun x a h => let ⟨⟨o,q⟩,b⟩:=S.own x a h; ⟨⟨o,get _ _ (fun e => b.2.1 (e ▸ hm)) q⟩,b⟩
    ownk:=S.ownk
    ownf:=S.ownf
    pend:=S.pend
    held:=fun a o mi h => let ⟨q,b⟩:=S.held a o mi h; ⟨get _ _ (fun e => b.1 (e ▸ hm)) q,b⟩ }
theorem StF.setHl {i:Nat} {l:Addr} {vs:Array Value} {n tk:Nat} {es:List (Str × Str)} {h':Heap} (S:StF Amb B env μ σ P s F φ m ow) (hl:φ[i]? = some l) (hs:Heap.SameBut l s.heap h') (ho:h'.get? l = some (listO vs n)) (r:RelL F φ vs.toList (es.map pairV)) :
    StF Amb B env μ (σ.set i (.lst es)) P { s with heap:=h',toks:=tk } F φ m ow :=
  S.setPhi hl (fun b o hb h => (hs.2 b hb).trans h) ho ⟨vs,n,rfl,r⟩
theorem WE.newHl {q:Pos} {R:V → Sg → Prop} (h:R (.hl σ.length) (σ ++ [.lst []])) (he:backTo q (starEach [] env) = []:=by rfl):WE prog w Amb A B env μ σ (.List [] q) R:=by
  rintro P s ⟨F,φ,m,ow,S⟩
  refine wpAny_List ?_
  rw [he]
  refine Calls.spliced_nil ⟨by simp,?_⟩
  have T:=S.newHl (n:=0) (Grow.push (listO #[] 0) s.toks) (none_at_size s.heap) (Heap.get?_push_size _ rfl)
  refine ⟨.hl σ.length,_,⟨F,_,m,ow,T.add (.hl ?_)⟩,h⟩
  rw [← S.len,List.getElem?_concat_length]
theorem StF.hlAt {l:Addr} {i:Nat} {es:List (Str × Str)} (S:StF Amb B env μ σ P s F φ m ow) (r:Rel F φ (.ref l) (.hl i)) (h:σ[i]? = some (.lst es)):φ[i]? = some l ∧ ∃ vs n,s.heap.get? l = some (listO vs n) ∧ RelL F φ vs.toList (es.map pairV):=by
  obtain ⟨_,e,hl⟩:=r.inv
  cases e
  obtain ⟨_,q,vs,n,rfl,r⟩:=S.sto _ _ _ hl h
  exact ⟨hl,vs,n,q,r⟩
theorem W1.happend {o e:PySem.Expr} {apos pos p:Pos} {R:Fl → Mu → Sg → Prop}
    (h:WE prog w Amb A B env μ σ o (fun y σ1 => ∃ i es0,y = .hl i ∧ σ1[i]? = some (.lst es0) ∧ WE prog w Amb A B env μ σ1 e (fun z σ2 => ∃ a b es,z = .tup [.str a,.str b] ∧ σ2[i]? = some (.lst es) ∧ es.length ≤ sizeLine ∧ R .next μ (σ2.set i (.lst (es ++ [(a,b)]))))))
    (hbase:attributeBase o "append" env (eval o env) = eval o env:=by rfl) (hs1:starEach [e] env = [(false,eval e env)]:=by rfl) (hline:(apos.endLine == pos.line) = true:=by rfl)
    (hs:swapsWith (.Call (.Attribute o "append" apos) [e] [] pos) Option.none p.line env = pure false:=by rfl) (hi:interactive env = false:=by rfl) :
    W1 prog w Amb A B env μ σ (.Expr (.Call (.Attribute o "append" apos) [e] [] pos) p) R:=by
  rintro P s S
  refine wpAny_Expr_any ?_ hi hs
  refine Call_method1 hbase hs1 hline (wpAny_mono (h P s S) (fun v s1 qq => ?_) fun _ _ x => x)
  obtain ⟨y,σ1,⟨F,φ,m,ow,S1⟩,i,es0,ey,he0,h1⟩:=qq
  subst ey
  have hv:∃ l vs n,v = .ref l ∧ s1.heap.get? l = some (listO vs n):=by
    obtain ⟨_,e,hl⟩:=S1.top.inv
    obtain ⟨_,q,vs,n,rfl,_⟩:=S1.sto i _ _ hl he0
    exact ⟨_,vs,n,e,q⟩
  obtain ⟨l,us0,n0,rfl,ho⟩:=hv
  refine ⟨"list","list.append",PySem.F.plainAttrs_list,slot_list_append,PySem.F.type_list_append,⟨_,ho,rfl⟩,fun a e => by cases e; exact ⟨_,ho,rfl⟩,?_⟩
  refine callWith_plain (f:=.builtin "list.append") (first:=[.ref l]) (ts:=[eval e env]) (ks:=[]) (.inl ⟨_,rfl⟩) ?_
  refine Calls.spliced_cons (wpAny_mono (h1 _ s1 ⟨F,φ,m,ow,S1⟩) (fun v s2 qq => ?_) fun _ _ x => x)
  obtain ⟨z,σ2,⟨F2,φ2,m2,ow2,S2⟩,a,b,es,ez,he,hz,hR⟩:=qq
  refine Calls.spliced_nil (wpAny_evalAll_nil ⟨(fun a e => nomatch e),?_⟩)
  subst ez
  obtain ⟨hl,vs,n,hg,hL⟩:=S2.hlAt (S2.pend (.ref l) (.hl i) (by simp)) he
  have e1:=hL.length
  simp only [Array.length_toList,List.length_map] at e1
  refine wpAny_list_append_plain ⟨n,hg⟩ (fun h' qq hs' => ?_) (by lia)
  obtain ⟨n',hl'⟩:=qq
  have S3:=S2.setHl (es:=es ++ [(a,b)]) (tk:=s2.toks) hl hs' hl' (by
    rw [Array.toList_push,List.map_append]
    exact hL.append (.cons S2.top .nil))
  exact ⟨_,_,⟨F2,φ2,m2,ow2,S3.drop fun q hq => by simp [hq]⟩,hR⟩
theorem WE.hcopy {value:PySem.Expr} {p pos:Pos} {R:V → Sg → Prop} (H:AmbOk prog w Amb mg mb)
    (h:WE prog w Amb A B env μ σ value (fun x σ1 => ∃ i es,x = .hl i ∧ σ1[i]? = some (.lst es) ∧ es.length ≤ sizeLine ∧ R (.list (es.map pairV)) σ1)):WE prog w Amb A B env μ σ (.Subscript value (.Slice Option.none Option.none Option.none p) pos) R:=by
  intro P s S
  refine PyProof.Rows.Subscript_ (wpAny_mono (h P s S) (fun o s1 qq => ?_) fun _ _ x => x)
  obtain ⟨x,σ1,⟨F,φ,m,ow,S1⟩,i,es,e,he,hz,hR⟩:=qq
  refine wpAny_Slice (wpAny_evalPart_none (wpAny_evalPart_none (wpAny_evalPart_none ?_)))
  subst e
  obtain ⟨l,rfl,_⟩:=S1.top.inv
  obtain ⟨hl,us,n,hg,hL⟩:=S1.hlAt S1.top he
  have e1:=hL.length
  simp only [Array.length_toList,List.length_map] at e1
  have hli:Heap.IsList (s1.heap.push { cls:=.type "slice",data:=.fields #[.none,.none,.none] }) l us:=⟨_,Heap.get?_push_of_some _ hg,rfl,_,rfl⟩
  have T0:=S1.grow (s':={ s1 with heap:=s1.heap.push { cls:=.type "slice",data:=.fields #[.none,.none,.none] } }) (Grow.push _ _)
  refine tail_any (ops:=[.ref s1.heap.objs.size,.ref l]) hli.typeIs slot_list_getitem.lookup (wpAny_getItem_list_slice hli (Heap.IsSliceOf.new ..) .none .none .none (by simp) ?_ (by lia)) (by rfl)
  rw [slicePick_all]
  obtain ⟨F',T⟩:=T0.pop.newList (tk:=s1.toks) H hL 0
  exact ⟨_,_,⟨F',φ,m,ow,T⟩,hR⟩
end
section
variable {prog:Program} {w:World} {Amb:Fz → Prop} {A:Around} {B:Base} {env env':Env} {μ μ':Mu} {σ σ':Sg} {mg mb:Str → Option Value} {sc:Scope} {K:Frag} {mf:Str → Addr}
variable {P P':List Pend} {s s' s₁:Shared} {F F':Fz} {φ φ':List Addr} {m m':Str → Option Value} {ow ow':List (Str × Addr)}
theorem setItem_all {l sl b:Addr} {xs ys:Array Value} {n:Nat} {E:Value → Shared → Prop} {Q:Unit → Shared → Prop} (hl:s.heap.get? l = some (listO xs n)) (hb:s.heap.IsList b ys) (hne:l ≠ b) (hs:s.heap.IsSliceOf sl .none .none .none)
    (hz:xs.size + ys.size ≤ sizeLine) (h:∀ h' n',h'.get? l = some (listO ys n') → Heap.SameBut l s.heap h' → Q () { s with heap:=h' }):wpAny (model prog w) A (setItem (.ref l) (.ref sl) (.ref b)) Q E s:=by
  have hL:s.heap.IsList l xs:=⟨_,hl,rfl,_,rfl⟩
  obtain ⟨ob,hob,hcb,nb,hdb⟩:=id hb
  obtain ⟨os,hos,hcs,hds⟩:=id hs
  have hTs:s.TypeIs (.ref sl) "slice":=⟨os,hos,hcs⟩
  unfold setItem
  try with_reducible refine wpAny_holding ?_
  first | refine wpAny_bind (wpAny_pure ?_) | skip
  refine wpAny_bind (wpAny_sequenceKey hL.typeIs (by decide) ?_)
  refine wpAny_bind (wpAny_callSpecial?_slot (name:=Str.ofString "__setitem__") hL.typeIs slot_list_setitem
    (wpAny_call_entry slot_list_setitem hL.typeIs entry_list_setitem ?_ (args_list_setitem _ _ _)))
  show wpAny _ _ (Builtin.List.listSubscript? (.ref sl) >>= _) _ _ s
  refine wpAny_bind ?_
  unfold Builtin.List.listSubscript?
  refine wpAny_bind (wpAny_specialOf hTs slice_no_index ?_)
  simp only [Option.isNone_none,if_true]
  refine wpAny_pure ?_
  show wpAny _ _ (typeOf (.ref sl) >>= _) _ _ s
  refine wpAny_bind (wpAny_typeOf hTs ?_)
  first | refine iteF (by decide) ?_ | rw [if_neg (by decide)]
  rw [listSliceParts_eq]
  refine wpAny_bind (wpAny_bind (wpAny_field hos hds (x:=.none) rfl (wpAny_bind (wpAny_listPart .none ?_))))
  first | refine iteF (by decide) ?_ | rw [if_neg (by decide)]
  refine wpAny_bind (wpAny_field hos hds (x:=.none) rfl (wpAny_bind (wpAny_listPart .none ?_)))
  refine wpAny_bind (wpAny_field hos hds (x:=.none) rfl (wpAny_bind (wpAny_listPart .none (wpAny_pure ?_))))
  have hsame:Builtin.List.listSameRef (.ref l) (.ref b) = false:=by simp [Builtin.List.listSameRef,hne]
  rw [hsame]
  simp only [Bool.false_eq_true,if_false]
  refine wpAny_bind (m:=Builtin.List.listAllItems (.ref b) _) ?_
  unfold Builtin.List.listAllItems Builtin.List.listItems
  refine wpAny_bind (wpAny_typeOf hb.typeIs ?_)
  first | refine iteT (by decide) ?_ | rw [if_pos (by decide)]
  refine wpAny_bind (wpAny_seqItems hob hdb (wpAny_pure ?_))
  refine wpAny_bind (wpAny_bind (wpAny_seqItems hl rfl (wpAny_pure ?_)))
  refine wpAny_bind (wpAny_of_eq (sliceIndices_raw Option.none Option.none Option.none xs.size (by simp)) ?_)
  have hbd:sliceBounds Option.none Option.none Option.none xs.size = (0,(xs.size:Int),1):=by simp [sliceBounds]
  rw [hbd]
  have htl:Builtin.List.listTooLong (xs.size + ys.size) = false:=by simp [Builtin.List.listTooLong]; lia
  simp only [htl,Bool.false_eq_true,if_false]
  first | refine iteT (by decide) ?_ | rw [if_pos (by decide)]
  refine wpAny_bind (wpAny_rule (wpAny_bind (m:=Builtin.List.listUpdate (.ref l) _) (wpAny_updateSeq hl rfl ?_ (by lia) ?_)))
  · refine wpAny_bind (wpAny_letGo (wpAny_bind (wpAny_pure ?_)))
    have e:∀ xs ys:Array Value,xs.extract 0 (0:Int).toNat ++ ys ++ xs.extract (max 0 (xs.size:Int)).toNat xs.size = ys:=by
      intro xs ys
      have:(max 0 (xs.size:Int)).toNat = xs.size:=by lia
      rw [this]; simp
    have g:=Heap.get?_update_self (Obj.mapSeq fun zs => zs.extract 0 (0:Int).toNat ++ ys ++ zs.extract (max 0 (xs.size:Int)).toNat zs.size) hl rfl
    have g':∃ k,Heap.get? (s.heap.update l (Obj.mapSeq fun zs => zs.extract 0 (0:Int).toNat ++ ys ++ zs.extract (max 0 (xs.size:Int)).toNat zs.size)) l = some (listO ys k):=by
      refine ⟨if (xs.extract 0 (0:Int).toNat ++ ys ++ xs.extract (max 0 (xs.size:Int)).toNat xs.size).size == xs.size then n else n + 1,?_⟩
      rw [g]
      show some (Obj.mk _ _ (.seq (xs.extract 0 (0:Int).toNat ++ ys ++ xs.extract (max 0 (xs.size:Int)).toNat xs.size) (if (xs.extract 0 (0:Int).toNat ++ ys ++ xs.extract (max 0 (xs.size:Int)).toNat xs.size).size == xs.size then n else n + 1)) _) = _
      rw [e xs ys]
      rfl
    obtain ⟨k,g'⟩:=g'
    exact wpAny_pure ⟨_,rfl,wpAny_pure (h _ _ g' (Heap.SameBut.update ..))⟩
  · simp; lia
theorem W1.hslice {o e:PySem.Expr} {sp tp p:Pos} {R:Fl → Mu → Sg → Prop} (H:AmbOk prog w Amb mg mb)
    (h:WE prog w Amb A B env μ σ e (fun z σ1 => WE prog w Amb A B env μ σ1 o (fun y σ2 => ∃ i es fs,y = .hl i ∧ z = .list (fs.map pairV) ∧ σ2[i]? = some (.lst es) ∧ es.length + fs.length ≤ sizeLine ∧ R .next μ (σ2.set i (.lst fs)))))
    (hs:swapsWith e (some (.Subscript o (.Slice Option.none Option.none Option.none sp) tp)) p.line env = pure false:=by rfl):W1 prog w Amb A B env μ σ (.Assign [.Subscript o (.Slice Option.none Option.none Option.none sp) tp] e p) R:=by
  intro P s S
  refine wpAny_Assign_Subscript (wpAny_mono (h P s S) (fun v s1 qq => ?_) fun _ _ x => x) hs
  obtain ⟨z,σ1,S1,h1⟩:=qq
  refine wpAny_mono (h1 _ s1 S1) (fun u s2 qq => ?_) fun _ _ x => x
  obtain ⟨y,σ2,⟨F,φ,m,ow,S2⟩,i,es,fs,ey,ez,he,hz,hR⟩:=qq
  subst ey ez
  obtain ⟨l,rfl,_⟩:=S2.top.inv
  obtain ⟨hl,xs,n,hg,hL⟩:=S2.hlAt S2.top he
  have e1:=hL.length
  simp only [Array.length_toList,List.length_map] at e1
  cases S2.pend v (.list (fs.map pairV)) (by simp) with
  | @list b us k _ hF hL2 =>
  have e2:=hL2.length
  simp only [Array.length_toList,List.length_map] at e2
  have hne:l ≠ b:=fun e => by
    subst e
    rw [S2.phiF _ (List.mem_of_getElem? hl)] at hF; cases hF
  refine wpAny_Slice (wpAny_evalPart_none (wpAny_evalPart_none (wpAny_evalPart_none ?_)))
  have G:Grow s2 { s2 with heap:=s2.heap.push { cls:=.type "slice",data:=.fields #[.none,.none,.none] } }:=Grow.push _ _
  have S3:=S2.grow G
  refine setItem_all (G.keep _ _ hg) ⟨_,S3.sub _ _ hF,rfl,_,rfl⟩ hne (Heap.IsSliceOf.new ..) (by lia) fun h' n' hg' hs' => ?_
  have S4:=S3.setHl (es:=fs) (tk:=s2.toks) hl hs' hg' hL2
  exact ⟨_,_,⟨F,φ,m,ow,S4.drop fun q hq => by simp [hq]⟩,hR⟩
end
theorem plainAttrs_pat:PlainAttrs "re.Pattern" :=
  ⟨⟨"object.__getattribute__",by rw [typeLookup_type,builtinLookup_eq_fast]; kernel_rfl,by decide +kernel⟩,by rw [typeLookup_type,builtinLookup_eq_fast]; kernel_rfl⟩
theorem slot_pat_search:Slot "re.Pattern" "search" "re.Pattern.search" :=
  .of (owner:="re.Pattern") (n:="search") (by rw [typeLookup_type,builtinLookup_eq_fast]; kernel_rfl) (by decide +kernel) (by decide +kernel) (by decide +kernel)
    (by first | exact .inl (by decide +kernel) | exact .inr (by decide +kernel)) (by rw [isSubtype_type]; kernel_rfl)
theorem type_pat_search:typeOf (.builtin "re.Pattern.search") = pure (.type "method_descriptor"):=by show builtinType _ = _; rw [builtinType_eq_fast]; kernel_rfl
theorem entry_pat_search:entryFor table "re.Pattern.search" = some Builtin.«re.Pattern.search»:=entryFor_of_tree (by kernel_rfl)
theorem args_pat_search (a b:Value):argsOk "re.Pattern.search" ⟨[a,b],[]⟩:=by unfold argsOk; kernel_rfl
structure PatIs (Amb:Fz → Prop) (a:Addr) (ok:Str → Prop):Prop where
  obj:∀ F,Amb F → ∃ o,F a = some o ∧ o.cls = .type "re.Pattern" ∧ o.dict = none
  run:∀ (prog:Program) (w:World) (A:Around) (F:Fz) (s:Shared) (x:Str) (t:Tok) (Q:PySem.Fin → Shared → Prop) (E:Value → Shared → Prop),Amb F → (∀ a o,F a = some o → s.heap.get? a = some o) → ok x → Q (.done (.ret .none)) s →
    wpAny (model prog w) A (Builtin.«re.Pattern.search» ⟨[.ref a,.str x t],[]⟩) Q E s
section
variable {prog:Program} {w:World} {Amb:Fz → Prop} {A:Around} {B:Base} {env env':Env} {μ μ':Mu} {σ σ':Sg} {mg mb:Str → Option Value} {sc:Scope} {K:Frag} {mf:Str → Addr}
variable {P P':List Pend} {s s' s₁:Shared} {F F':Fz} {φ φ':List Addr} {m m':Str → Option Value} {ow ow':List (Str × Addr)}
theorem WE.research {o e:PySem.Expr} {apos pos:Pos} {a:Addr} {ok:Str → Prop} {R:V → Sg → Prop} (hp:PatIs Amb a ok)
    (h:WE prog w Amb A B env μ σ o (fun y σ1 => y = .adr a ∧ WE prog w Amb A B env μ σ1 e (fun z σ2 => ∃ x,z = .str x ∧ ok x ∧ R .none σ2)))
    (hbase:attributeBase o "search" env (eval o env) = eval o env:=by rfl) (hs1:starEach [e] env = [(false,eval e env)]:=by rfl) (hline:(apos.endLine == pos.line) = true:=by rfl) :
    WE prog w Amb A B env μ σ (.Call (.Attribute o "search" apos) [e] [] pos) R:=by
  intro P s S
  refine Call_method1 hbase hs1 hline (wpAny_mono (h P s S) (fun v s1 qq => ?_) fun _ _ x => x)
  obtain ⟨y,σ1,⟨F,φ,m,ow,S1⟩,ey,h1⟩:=qq
  subst ey
  obtain ⟨ob,ho,hc,hd⟩:=hp.obj F S1.amb
  obtain rfl:=S1.top.inv
  have ho1:=S1.sub _ _ ho
  refine ⟨"re.Pattern","re.Pattern.search",plainAttrs_pat,slot_pat_search,type_pat_search,⟨_,ho1,hc⟩,fun a e => by cases e; exact ⟨_,ho1,hd⟩,?_⟩
  refine callWith_plain (f:=.builtin "re.Pattern.search") (first:=[.ref a]) (ts:=[eval e env]) (ks:=[]) (.inl ⟨_,rfl⟩) ?_
  refine Calls.spliced_cons (wpAny_mono (h1 _ s1 ⟨F,φ,m,ow,S1⟩) (fun v s2 qq => ?_) fun _ _ x => x)
  obtain ⟨z,σ2,⟨F2,φ2,m2,ow2,S2⟩,x,ez,hok,hR⟩:=qq
  refine Calls.spliced_nil (wpAny_evalAll_nil ⟨(fun a e => nomatch e),?_⟩)
  subst ez
  obtain ⟨ob2,ho2,hc2,hd2⟩:=hp.obj F2 S2.amb
  obtain ⟨t,rfl⟩:=S2.top.inv
  refine wpAny_call_entry slot_pat_search ⟨_,S2.sub _ _ ho2,hc2⟩ entry_pat_search (hp.run prog w _ F2 s2 x t _ _ S2.amb S2.sub hok ⟨_,rfl,?_⟩) (args_pat_search _ _)
  exact ⟨.none,σ2,⟨F2,φ2,m2,ow2,(S2.drop fun q hq => by simp [hq]).add .none⟩,hR⟩
theorem WC.type_str {x:Str} {R:V → Sg → Prop} (h:R (.ty "str") σ):WC prog w Amb A B env μ σ (.type "type") [.str x] R:=by
  rintro P vs s hl ⟨F,φ,m,ow,S⟩
  obtain ⟨v,rfl⟩:=len_one hl
  obtain ⟨t,rfl⟩:=S.top.inv
  have hq:VP Amb B env μ P R (.type "str") s:=⟨.ty "str",σ,⟨F,φ,m,ow,(S.drop (P':=P) fun q hq => by simp [rels,hq]).add (.ty _)⟩,h⟩
  clear S
  obtain ⟨hh,g,d,tk,os⟩:=s
  refine wpAny_call (codeAny_of_tree ?_)
  show wpAny _ _ (callAny (.type "type") ⟨[.str x t],[]⟩) _ _ _
  simp only [callAny]
  refine wpAny_pure ⟨Code.quiet_builtin _ (by decide +kernel),codeAny_builtin _root_.PyProof.Rows.entry_type_call ?_⟩
  unfold Builtin.«type.__call__»
  dsimp only
  unfold shownTypeOf
  repeat wp_step
  exact hq
theorem WC.type_hl {i:Nat} {es:List (Str × Str)} {R:V → Sg → Prop} (he:σ[i]? = some (.lst es)) (h:R (.ty "list") σ):WC prog w Amb A B env μ σ (.type "type") [.hl i] R:=by
  rintro P vs s hl ⟨F,φ,m,ow,S⟩
  obtain ⟨v,rfl⟩:=len_one hl
  have hv:∃ l us n,v = .ref l ∧ s.heap.get? l = some (listO us n):=by
    obtain ⟨_,e,hl⟩:=S.top.inv
    obtain ⟨_,q,vs,n,rfl,_⟩:=S.sto i _ _ hl he
    exact ⟨_,vs,n,e,q⟩
  obtain ⟨l,us,n,rfl,ho⟩:=hv
  obtain ⟨hh,g,d,tk,os⟩:=s
  exact call_type_obj ho rfl ⟨.ty "list",σ,⟨F,φ,m,ow,(S.drop (P':=P) fun q hq => by simp [rels,hq]).add (.ty _)⟩,h⟩
theorem OpC.is_ty {a:String} {R:V → Sg → Prop} (h:R (.bool true) σ):OpC prog w Amb A B env μ σ .Is (.ty a) (.ty a) R:=by
  rintro v u P s ⟨F,φ,m,ow,S⟩
  obtain rfl:=S.top.inv
  obtain rfl:=S.top2.inv
  exact wpAny_is_self rfl ⟨_,σ,⟨F,φ,m,ow,S.pop2.add (.bool _)⟩,h⟩
theorem OpC.isnot_ty {a:String} {R:V → Sg → Prop} (h:R (.bool false) σ):OpC prog w Amb A B env μ σ .IsNot (.ty a) (.ty a) R:=by
  rintro v u P s ⟨F,φ,m,ow,S⟩
  obtain rfl:=S.top.inv
  obtain rfl:=S.top2.inv
  exact wpAny_isNot_self rfl ⟨_,σ,⟨F,φ,m,ow,S.pop2.add (.bool _)⟩,h⟩
theorem WE.hconvG {o e:PySem.Expr} {apos pos kp cp:Pos} {k:Nat} {b:Bool} {R:V → Sg → Prop} {kk:Nat} (H:AmbOk prog w Amb mg mb) (HK:HdrOk Amb K mf) (D:HDef Amb (mf "_convert_string_type") 1 ["self","value","name"] (fun vs => vs ++ [.bool b]) [("name",.bool b)]) (hr:Room A (kk + 1))
    (h:WE prog w Amb A B env μ σ o (fun y σ1 => ∃ i,y = .hdr i ∧ WE prog w Amb A B env μ σ1 e (fun z σ2 =>
      ∀ (A':Around) (B':Base) (env':Env),Room A' kk → EnvOk env' → env'.scope = fnScopeM 1 → env'.func.isSome = true → WS prog w Amb A' B' env' (mu0 ["self","value","name"] [.hdr i,z,.bool b] ["regex"]) σ2 (fnBodyM 1) (fun f μ' σ' => ∃ y,(f = .ret y ∨ (f = .next ∧ y = .none)) ∧ R y σ'))))
    (hbase:attributeBase o "_convert_string_type" env (eval o env) = eval o env:=by rfl) (hs1:starEach [e] env = [(false,eval e env)]:=by rfl) (hline:(apos.endLine == pos.line) = true:=by rfl) :
    WE prog w Amb A B env μ σ (.Call (.Attribute o "_convert_string_type" apos) [e] [⟨some "name",.Constant (.bool b) k cp,kp⟩] pos) R:=by
  intro P s S
  obtain ⟨fd,Fn,hsc,hb⟩:=D.ex
  rw [arm_eval_Call,hbase]
  refine wpAny_bind (wpAny_mono (h P s S) (fun v s1 qq => ?_) fun _ _ x => x)
  obtain ⟨y,σ1,S1,i,ey,h1⟩:=qq
  subst ey
  obtain ⟨F,φ,m,ow,S1⟩:=S1
  refine wpAny_bind (wpAny_standAt (hmeth_get HK S1 S1.top (by decide +kernel) ?_ hline (by kernel_rfl) ?_))
  · rw [hs1]; rfl
  · rw [hs1]
    refine callWith_plain (f:=.ref (mf "_convert_string_type")) (first:=[v]) (ts:=[eval e env]) (ks:=[("name",do let v ← eval (.Constant (.bool b) k cp) env; standAt pos; pure v)]) (.inr (.inr ⟨_,rfl⟩)) ?_
    refine Calls.spliced_cons (wpAny_mono (h1 _ s1 ⟨F,φ,m,ow,S1⟩) (fun u s2 qq => ?_) fun _ _ x => x)
    obtain ⟨z,σ2,⟨F2,φ2,m2,ow2,S2⟩,h2⟩:=qq
    refine Calls.spliced_nil ?_
    refine wpAny_evalAll_cons (wpAny_bind (wpAny_Constant_bool (wpAny_bind (wpAny_standAt (wpAny_pure (wpAny_evalAll_nil ⟨(fun a e => ?_),?_⟩))))))
    · cases e
      obtain ⟨o,ho,hd⟩:=Fn.has F2 S2.amb
      exact ⟨o,_,S2.sub _ _ ho,hd⟩
    · have S3:StF Amb B env μ σ2 (rels [v,u,.bool b] [.hdr i,z,.bool b] ++ P) s2 F2 φ2 m2 ow2:=(S2.add (.bool b)).drop fun q hq => by
        simp only [rels,List.zip_cons_cons,List.zip_nil_left,List.map_cons,List.map_nil,List.cons_append,List.nil_append,List.mem_cons] at hq ⊢
        rcases hq with e | e | e | e <;> simp [e]
      exact wpAny_call (fn_core (names:=["self","value","name"]) (rest:=["regex"]) H Fn hr (by rw [hsc]; kernel_rfl) S2.amb S2.sub S2.sub S3 rfl (by decide +kernel) (fun Q E q => hb prog w _ F2 s2 [v,u] Q E S2.amb S2.sub rfl q) (fun n hn => by rw [hsc]; revert n; decide +kernel) (by rw [hsc]; exact h2))
end
section
variable {prog:Program} {w:World} {Amb:Fz → Prop} {A:Around} {B:Base} {env env':Env} {μ μ':Mu} {σ σ':Sg} {mg mb:Str → Option Value} {at_:Str → Addr} {sc:Scope} {K:Frag} {mf:Str → Addr}
structure HTop (mg mb:Str → Option Value) (at_:Str → Addr) (Amb:Fz → Prop) (okN okV:Str → Prop):Prop where
  type:mg "type" = none ∧ mb "type" = some (.type "type")
  okN:PatIs Amb (at_ "_name_disallowed_re") okN
  okV:PatIs Amb (at_ "_value_disallowed_re") okV
theorem conv_body {okN okV:Str → Prop} {i:Nat} {x:Str} {b:Bool} (H:AmbOk prog w Amb mg mb) (T:TopOk mg mb at_) (HT:HTop mg mb at_ Amb okN okV) (K:EnvOk env) (hs:env.scope = fnScopeM 1) (hfn:env.func.isSome = true) (hh:A.handled = none) (ho:if b = true then okN x else okV x) :
    WS prog w Amb A B env (mu0 ["self","value","name"] [.hdr i,.str x,.bool b] ["regex"]) σ (fnBodyM 1) (fun f μ' σ' => ∃ y,(f = .ret y ∨ (f = .next ∧ y = .none)) ∧ y = .str x ∧ σ' = σ):=by
  refine WS.cons ?_
  refine W1.if_ (WB.cmp' ?_ (by rfl))
  refine WE.callb (WE.bl H K hs (by kernel_rfl) HT.type (.ty _) ⟨_,.ty _,WAs.cons (WE.nm K hs (by kernel_rfl) rfl (WAs.nil (WC.type_str ?_)))⟩) (by rfl)
  refine WE.bl H K hs (by kernel_rfl) T.str (.ty _) (OpC.is_ty ⟨true,.bool _,?_⟩)
  first | refine iteT rfl ?_ | rw [if_pos rfl]
  refine WS.cons ?_
  refine W1.assign K (stor_of hs hfn (by kernel_rfl)) (WE.ifexp ?_) (by rfl)
  refine WB.val (WE.nm K hs (by kernel_rfl) rfl ⟨_,.bool b,?_⟩) (fun _ => rfl)
  cases b with
  | true =>
    rw [if_pos rfl] at ho ⊢
    have hp:=HT.okN
    refine WE.gl H K hs (by kernel_rfl) (T.own _ (by decide +kernel)) (.adr _) ?_
    refine WS.cons ?_
    refine W1.if_ (WB.val (WE.research hp (WE.nm K hs (by kernel_rfl) rfl ⟨rfl,WE.nm K hs (by kernel_rfl) rfl ⟨x,rfl,ho,⟨_,.none,?_⟩⟩⟩)) (fun _ => rfl))
    first | refine iteF (by decide) ?_ | rw [if_neg (by decide)]
    refine WS.nil ?_
    refine WS.cons ?_
    exact W1.ret (WE.nm K hs (by kernel_rfl) rfl ⟨_,.inl rfl,rfl,rfl⟩)
  | false =>
    rw [if_neg (by decide)] at ho ⊢
    have hp:=HT.okV
    refine WE.gl H K hs (by kernel_rfl) (T.own _ (by decide +kernel)) (.adr _) ?_
    refine WS.cons ?_
    refine W1.if_ (WB.val (WE.research hp (WE.nm K hs (by kernel_rfl) rfl ⟨rfl,WE.nm K hs (by kernel_rfl) rfl ⟨x,rfl,ho,⟨_,.none,?_⟩⟩⟩)) (fun _ => rfl))
    first | refine iteF (by decide) ?_ | rw [if_neg (by decide)]
    refine WS.nil ?_
    refine WS.cons ?_
    exact W1.ret (WE.nm K hs (by kernel_rfl) rfl ⟨_,.inl rfl,rfl,rfl⟩)
theorem WE.hconv {o e:PySem.Expr} {apos pos kp cp:Pos} {k:Nat} {b:Bool} {okN okV:Str → Prop} {R:V → Sg → Prop} (H:AmbOk prog w Amb mg mb) (T:TopOk mg mb at_) (HT:HTop mg mb at_ Amb okN okV) (HK:HdrOk Amb K mf)
    (D:∀ b,HDef Amb (mf "_convert_string_type") 1 ["self","value","name"] (fun vs => vs ++ [.bool b]) [("name",.bool b)]) (hr:Room A 1)
    (h:WE prog w Amb A B env μ σ o (fun y σ1 => ∃ i,y = .hdr i ∧ WE prog w Amb A B env μ σ1 e (fun z σ2 => ∃ x,z = .str x ∧ (if b = true then okN x else okV x) ∧ R (.str x) σ2)))
    (hbase:attributeBase o "_convert_string_type" env (eval o env) = eval o env:=by rfl) (hs1:starEach [e] env = [(false,eval e env)]:=by rfl) (hline:(apos.endLine == pos.line) = true:=by rfl) :
    WE prog w Amb A B env μ σ (.Call (.Attribute o "_convert_string_type" apos) [e] [⟨some "name",.Constant (.bool b) k cp,kp⟩] pos) R:=by
  refine WE.hconvG H HK (D b) hr (h.mono fun y σ1 qq => ?_) hbase hs1 hline
  obtain ⟨i,ey,h1⟩:=qq
  refine ⟨i,ey,h1.mono fun z σ2 qq => ?_⟩
  obtain ⟨x,ez,ho,hR⟩:=qq
  subst ez
  intro A' B' env' hr' K' hs' hf'
  refine WS.mono (conv_body (B:=B') (σ:=σ2) H T HT K' hs' hf' hr'.handled ho) ?_
  rintro f μ' τ ⟨y,h1,rfl,rfl⟩
  exact ⟨_,h1,hR⟩
end
section
variable {prog:Program} {w:World} {Amb:Fz → Prop} {A:Around} {B:Base} {env env':Env} {μ μ':Mu} {σ σ':Sg} {mg mb:Str → Option Value} {at_:Str → Addr} {sc:Scope} {K:Frag} {mf:Str → Addr}
theorem WC.hdef {a:Addr} {j:Nat} {names rest:List Str} {ex:List Value} {ys eys:List V} {k:Nat} {R:V → Sg → Prop} (H:AmbOk prog w Amb mg mb) (D:HDef Amb a j names (fun vs => vs ++ ex) []) (hex:∀ F φ,RelL F φ ex eys) (hr:Room A (k + 1)) (hgen:(fnScopeM j).isGenerator = false) (hlen:names.length = (ys ++ eys).length) (hnd:names.Nodup)
    (hk:(names.all fun n => storKind ((fnScopeM j).names.lookup n)) = true)
    (h:∀ (A':Around) (B':Base) (env':Env),Room A' k → EnvOk env' → env'.scope = fnScopeM j → env'.func.isSome = true → WS prog w Amb A' B' env' (mu0 names (ys ++ eys) rest) σ (fnBodyM j) (fun f μ' σ' => ∃ y,(f = .ret y ∨ (f = .next ∧ y = .none)) ∧ R y σ')) :
    WC prog w Amb A B env μ σ (.ref a) ys R:=by
  obtain ⟨fd,Kf,hs,hb⟩:=D.ex
  rintro P vs s hl ⟨F,φ,m,ow,S⟩
  have e1:=(hex F φ).length
  have S':StF Amb B env μ σ (rels (vs ++ ex) (ys ++ eys) ++ P) s F φ m ow:=(S.addRels (hex F φ)).drop fun q hq => by
    rw [rels_append hl] at hq
    simp only [List.mem_append] at hq ⊢
    rcases hq with (e | e) | e <;> simp [e]
  refine wpAny_call (fn_core H Kf hr (by rw [hs]; exact hgen) S.amb S.sub S.sub S' (by simp [hl,e1]) hnd (fun Q E q => hb prog w _ F s vs Q E S.amb S.sub (by simp [hlen,hl,e1]) q) (fun n hn => ?_) (by rw [hs]; exact h))
  rw [hs]
  have:=List.all_eq_true.mp hk n hn
  revert this
  cases (fnScopeM j).names.lookup n with
  | none => intro h; cases h
  | some q => cases q <;> simp [storKind]
structure HAll (prog:Program) (w:World) (Amb:Fz → Prop) (mg mb:Str → Option Value) (at_ mf:Str → Addr) (K:Frag) (okN okV:Str → Prop):Prop where
  H:AmbOk prog w Amb mg mb
  T:TopOk mg mb at_
  HT:HTop mg mb at_ Amb okN okV
  HK:HdrOk Amb K mf
  conv:∀ b,HDef Amb (mf "_convert_string_type") 1 ["self","value","name"] (fun vs => vs ++ [.bool b]) [("name",.bool b)]
  init:HDef Amb (mf "__init__") 0 ["self","headers"] (fun vs => vs ++ [.none]) []
  setitem:HDef Amb (mf "__setitem__") 3 ["self","name","val"] (fun vs => vs ++ []) []
  delitem:HDef Amb (mf "__delitem__") 4 ["self","name"] (fun vs => vs ++ []) []
  getall:HDef Amb (mf "get_all") 7 ["self","name"] (fun vs => vs ++ []) []
  get:HDef Amb (mf "get") 8 ["self","name","default"] (fun vs => vs ++ [.none]) []
  values:HDef Amb (mf "values") 10 ["self"] (fun vs => vs ++ []) []
  items:HDef Amb (mf "items") 11 ["self"] (fun vs => vs ++ []) []
  setdef:HDef Amb (mf "setdefault") 15 ["self","name","value"] (fun vs => vs ++ []) []
variable {okN okV:Str → Prop}
noncomputable def getH (es:List (Str × Str)) (nm:Str):V:=match es.find? (fun p => Txt.lower p.1 == nm) with
  | some p => .str p.2
  | none => .none
noncomputable def shortE (es:List (Str × Str)):Prop:=∀ p ∈ es,p.1.length ≤ 1000
theorem hget_body (X:HAll prog w Amb mg mb at_ mf K okN okV) (E':EnvOk env) (hs:env.scope = fnScopeM 8) (hfn:env.func.isSome = true) (hr:Room A 1) {i:Nat} {es:List (Str × Str)} {x:Str} (hes:σ[i]? = some (.lst es)) (hsh:shortE es) (hx:x.length ≤ 1000) (ho:okN (Txt.lower x)) :
    WS prog w Amb A B env (mu0 ["self","name","default"] [.hdr i,.str x,.none] ["k","v"]) σ (fnBodyM 8) (fun f μ' σ' => ∃ y,(f = .ret y ∨ (f = .next ∧ y = .none)) ∧ y = getH es (Txt.lower x) ∧ σ' = σ):=by
  have hh:=hr.handled
  have H:=X.H
  have T:=X.T
  refine WS.cons ?_
  refine W1.assign E' (stor_of hs hfn (by kernel_rfl)) ?_ (by rfl)
  refine WE.hconv H T X.HT X.HK X.conv hr (WE.nm E' hs (by kernel_rfl) rfl ⟨i,rfl,?_⟩)
  refine WE.meth (WE.nm E' hs (by kernel_rfl) rfl ⟨_,meth_str PySem.F.slot_str_lower PySem.F.type_str_lower,WAs.nil (WC.str_lower hx ⟨_,rfl,ho,?_⟩)⟩) (by rfl) (by rfl) (by rfl) (by rfl)
  refine WS.cons ?_
  refine W1.forS hh (WE.hattr X.HK (WE.nm E' hs (by kernel_rfl) rfl ⟨i,rfl,es.map pairV,by simp [iterS,hes],trivial,fun j μ' σ' => σ' = σ ∧ (∀ p ∈ es.take j,(Txt.lower p.1 == Txt.lower x) = false) ∧
    ∃ k v:Option LV,μ' = ([("self",some (.v (.hdr i))),("name",some (.v (.str (Txt.lower x)))),("default",some (.v .none)),("k",k),("v",v)]:Mu),?_,?_,?_,?_⟩)) (by intro x; rfl)
  · exact ⟨rfl,by simp,none,none,rfl⟩
  · rintro j μ' σ' ⟨rfl,_⟩
    simp [iterS,hes]
  · rintro j z μ' σ' hj ⟨rfl,hn,k,v,rfl⟩
    rw [List.getElem?_map] at hj
    obtain ⟨p,hp,rfl⟩:=Option.map_eq_some_iff.mp hj
    have hi:j < es.length:=(List.getElem?_eq_some_iff.mp hp).1
    have hpm:p ∈ es:=List.mem_of_getElem? hp
    refine AT.pair hh ?_ (by rfl)
    refine AT.name E' (stor_of hs hfn (by kernel_rfl)) ?_
    refine AT.name E' (stor_of hs hfn (by kernel_rfl)) ?_
    refine WS.cons ?_
    refine W1.if_ (WB.cmp' ?_ (by rfl))
    refine WE.meth (WE.nm E' hs (by kernel_rfl) rfl ⟨_,meth_str PySem.F.slot_str_lower PySem.F.type_str_lower,WAs.nil (WC.str_lower (hsh p hpm) ?_)⟩) (by rfl) (by rfl) (by rfl) (by rfl)
    refine WE.nm E' hs (by kernel_rfl) rfl (OpC.eq_str ⟨_,.bool _,?_⟩)
    have ht:es.take (j + 1) = es.take j ++ [p]:=by
      rw [List.take_succ_eq_append_getElem hi,(List.getElem?_eq_some_iff.mp hp).2]
    cases hc:(Txt.lower p.1 == Txt.lower x) with
    | true =>
      first | refine iteT rfl ?_ | rw [if_pos rfl]
      refine WS.cons ?_
      refine W1.ret (WE.nm E' hs (by kernel_rfl) rfl ⟨_,.inl rfl,?_,rfl⟩)
      have:es.find? (fun p => Txt.lower p.1 == Txt.lower x) = some p:=by
        rw [← List.take_append_drop (j + 1) es,List.find?_append,ht,List.find?_append]
        have h0:(es.take j).find? (fun p => Txt.lower p.1 == Txt.lower x) = none:=List.find?_eq_none.mpr fun q hq => by simp only [hn q hq]; decide
        rw [h0]
        simp [hc]
      unfold getH
      rw [this]
    | false =>
      first | refine iteF (by decide) ?_ | rw [if_neg (by decide)]
      refine WS.nil ?_
      refine WS.nil ?_
      refine ⟨rfl,?_,some (.v (.str p.1)),some (.v (.str p.2)),rfl⟩
      intro q hq
      rw [ht] at hq
      rcases List.mem_append.mp hq with h | h
      · exact hn q h
      · rw [List.mem_singleton] at h; subst h; exact hc
  · rintro μ' σ' ⟨rfl,hn,k,v,rfl⟩
    refine WS.cons ?_
    refine W1.ret (WE.nm E' hs (by kernel_rfl) rfl ⟨_,.inl rfl,?_,rfl⟩)
    rw [List.length_map,List.take_length] at hn
    have:es.find? (fun p => Txt.lower p.1 == Txt.lower x) = none:=List.find?_eq_none.mpr fun q hq => by simp only [hn q hq]; decide
    unfold getH
    rw [this]
theorem hget_call (X:HAll prog w Amb mg mb at_ mf K okN okV) (hr:Room A 2) {i:Nat} {es:List (Str × Str)} {x:Str} (hes:σ[i]? = some (.lst es)) (hsh:shortE es) (hx:x.length ≤ 1000) (ho:okN (Txt.lower x)) {R:V → Sg → Prop} (h:R (getH es (Txt.lower x)) σ) :
    WC prog w Amb A B env μ σ (.ref (mf "get")) [.hdr i,.str x] R:=by
  refine WC.hdef (eys:=[.none]) (rest:=["k","v"]) X.H X.get (fun _ _ => .cons .none .nil) hr (by kernel_rfl) rfl (by decide +kernel) (by kernel_rfl) fun A' B' env' hr' K' hs' hf' => ?_
  refine WS.mono (hget_body (B:=B') X K' hs' hf' hr' hes hsh hx ho) ?_
  rintro f μ' τ ⟨y,h1,rfl,rfl⟩
  exact ⟨_,h1,h⟩
end
noncomputable def onPair (f:Str × Str → Bool):V → Bool
  | .tup [.str a,.str b] => f (a,b)
  | _ => false
noncomputable def sndV:V → V
  | .tup [_,b] => b
  | _ => .none
theorem filter_onPair (f:Str × Str → Bool):∀ es:List (Str × Str),(es.map pairV).filter (onPair f) = (es.filter f).map pairV
  | [] => rfl
  | p :: r => by
    have e:onPair f (pairV p) = f p:=rfl
    simp only [List.map_cons,List.filter_cons,e,filter_onPair f r]
    split <;> simp
theorem map_sndV (es:List (Str × Str)):(es.map pairV).map sndV = es.map fun p => .str p.2:=by
  rw [List.map_map]; rfl
noncomputable def delE (es:List (Str × Str)) (nm:Str):List (Str × Str):=es.filter fun p => Txt.lower p.1 != nm
section
variable {prog:Program} {w:World} {Amb:Fz → Prop} {A:Around} {B:Base} {env env':Env} {μ μ':Mu} {σ σ':Sg} {mg mb:Str → Option Value} {at_:Str → Addr} {sc:Scope} {K:Frag} {mf:Str → Addr}
variable {okN okV:Str → Prop}
theorem hdel_item {P:List Pend} {s:Shared} {F:Fz} {φ:List Addr} {m:Str → Option Value} {ow:List (Str × Addr)} {v iv:Value} {i:Nat} {Q:Unit → Shared → Prop} {E:Value → Shared → Prop} (HK:HdrOk Amb K mf) (S:StF Amb B env μ σ P s F φ m ow) (r:Rel F φ v (.hdr i))
    (h:wpAny (model prog w) A (call (.ref (mf "__delitem__")) [v,iv]) (fun _ s' => Q () s') E s):wpAny (model prog w) A (delItem v iv) Q E s:=by
  obtain ⟨x,d,l,hh,t,n,rfl,hl,I⟩:=S.hdrAt r
  obtain ⟨f1,f2⟩:=HK.meth "__delitem__" (by decide +kernel)
  unfold delItem sequenceKey
  refine wpAny_holding (wpAny_bind (wpAny_bind (I.type.here ?_)))
  refine wpAny_bind ((anyM_none (HK.inn S) HK.seq).here ?_)
  first | refine iteT (show (!false) = true from rfl) ?_ | rw [if_pos (show (!false) = true from rfl)]
  exact wpAny_pure (wpAny_bind (special_fn (HK.inn S) I f1 (beq_iff_eq.mp f2) (wpAny_mono h (fun _ _ z => wpAny_pure z) fun _ _ z => z)))
theorem hset_item {P:List Pend} {s:Shared} {F:Fz} {φ:List Addr} {m:Str → Option Value} {ow:List (Str × Addr)} {v iv u:Value} {i:Nat} {Q:Unit → Shared → Prop} {E:Value → Shared → Prop} (HK:HdrOk Amb K mf) (S:StF Amb B env μ σ P s F φ m ow) (r:Rel F φ v (.hdr i))
    (h:wpAny (model prog w) A (call (.ref (mf "__setitem__")) [v,iv,u]) (fun _ s' => Q () s') E s):wpAny (model prog w) A (setItem v iv u) Q E s:=by
  obtain ⟨x,d,l,hh,t,n,rfl,hl,I⟩:=S.hdrAt r
  obtain ⟨f1,f2⟩:=HK.meth "__setitem__" (by decide +kernel)
  unfold setItem sequenceKey
  refine wpAny_holding (wpAny_bind (wpAny_bind (I.type.here ?_)))
  refine wpAny_bind ((anyM_none (HK.inn S) HK.seq).here ?_)
  first | refine iteT (show (!false) = true from rfl) ?_ | rw [if_pos (show (!false) = true from rfl)]
  exact wpAny_pure (wpAny_bind (special_fn (HK.inn S) I f1 (beq_iff_eq.mp f2) (wpAny_mono h (fun _ _ z => wpAny_pure z) fun _ _ z => z)))
theorem W1.hdel {o e:PySem.Expr} {tp p:Pos} {R:Fl → Mu → Sg → Prop} (HK:HdrOk Amb K mf)
    (h:WE prog w Amb A B env μ σ o (fun y σ1 => ∃ i,y = .hdr i ∧ WE prog w Amb A B env μ σ1 e (fun z σ2 => WC prog w Amb A B env μ σ2 (.ref (mf "__delitem__")) [.hdr i,z] (fun _ σ3 => R .next μ σ3)))) :
    W1 prog w Amb A B env μ σ (.Delete [.Subscript o e tp] p) R:=by
  intro P s S
  refine wpAny_Delete (wpAny_deleteEach_cons ?_)
  rw [arm_delete_Subscript]
  refine wpAny_bind (wpAny_mono (h P s S) (fun v s1 qq => ?_) fun _ _ x => x)
  obtain ⟨y,σ1,S1,i,ey,h1⟩:=qq
  refine wpAny_bind (wpAny_holding (wpAny_mono (h1 _ s1 S1) (fun u s2 qq => ?_) fun _ _ x => x))
  obtain ⟨z,σ2,⟨F,φ,m,ow,S2⟩,h2⟩:=qq
  refine wpAny_bind (wpAny_standAt ?_)
  subst ey
  refine wpAny_bind (wpAny_holding (hdel_item HK S2 (S2.pend v (.hdr i) (by simp)) ?_))
  have S3:St Amb B env μ σ2 (rels [v,u] [.hdr i,z] ++ P) s2:=⟨F,φ,m,ow,S2.drop fun q hq => by
    simp only [rels,List.zip_cons_cons,List.zip_nil_left,List.map_cons,List.map_nil,List.cons_append,List.nil_append,List.mem_cons] at hq ⊢
    rcases hq with e | e | e <;> simp [e]⟩
  refine wpAny_mono (h2 P [v,u] s2 rfl S3) (fun _ s3 qq => ?_) fun _ _ x => x
  obtain ⟨y,σ3,⟨F3,φ3,m3,ow3,S4⟩,hR⟩:=qq
  exact wpAny_release' (wpAny_deleteEach_nil ⟨μ,σ3,⟨F3,φ3,m3,ow3,S4.pop⟩,hR⟩)
theorem W1.hset {o e j:PySem.Expr} {tp p:Pos} {R:Fl → Mu → Sg → Prop} (HK:HdrOk Amb K mf)
    (h:WE prog w Amb A B env μ σ e (fun u σ1 => WE prog w Amb A B env μ σ1 o (fun y σ2 => ∃ i,y = .hdr i ∧ WE prog w Amb A B env μ σ2 j (fun z σ3 => WC prog w Amb A B env μ σ3 (.ref (mf "__setitem__")) [.hdr i,z,u] (fun _ σ4 => R .next μ σ4)))))
    (hs:swapsWith e (some (.Subscript o j tp)) p.line env = pure false:=by rfl):W1 prog w Amb A B env μ σ (.Assign [.Subscript o j tp] e p) R:=by
  intro P s S
  refine wpAny_Assign_Subscript (wpAny_mono (h P s S) (fun u s1 qq => ?_) fun _ _ x => x) hs
  obtain ⟨yu,σ1,S1,h1⟩:=qq
  refine wpAny_mono (h1 _ s1 S1) (fun v s2 qq => ?_) fun _ _ x => x
  obtain ⟨y,σ2,S2,i,ey,h2⟩:=qq
  refine wpAny_mono (h2 _ s2 S2) (fun k s3 qq => ?_) fun _ _ x => x
  obtain ⟨z,σ3,⟨F,φ,m,ow,S3⟩,h3⟩:=qq
  subst ey
  refine hset_item HK S3 (S3.pend v (.hdr i) (by simp)) ?_
  have S4:St Amb B env μ σ3 (rels [v,k,u] [.hdr i,z,yu] ++ P) s3:=⟨F,φ,m,ow,S3.drop fun q hq => by
    simp only [rels,List.zip_cons_cons,List.zip_nil_left,List.map_cons,List.map_nil,List.cons_append,List.nil_append,List.mem_cons] at hq ⊢
    rcases hq with e | e | e | e <;> simp [e]⟩
  refine wpAny_mono (h3 P [v,k,u] s3 rfl S4) (fun _ s4 qq => ?_) fun _ _ x => x
  obtain ⟨y,σ4,⟨F4,φ4,m4,ow4,S5⟩,hR⟩:=qq
  exact ⟨μ,σ4,⟨F4,φ4,m4,ow4,S5.pop⟩,hR⟩
theorem pair_fst {value slice:PySem.Expr} {q:Str × Str} {R:V → Sg → Prop} (hs:plainSlice slice = true) (h:R (.str q.1) σ):OpS prog w Amb A B env μ σ value slice (pairV q) (.int 0) R :=
  OpS.tup (j:=0) hs (by show seqIndex? 0 2 = some 0; decide +kernel) (by decide) rfl h
theorem pair_snd {value slice:PySem.Expr} {q:Str × Str} {R:V → Sg → Prop} (hs:plainSlice slice = true) (h:R (.str q.2) σ):OpS prog w Amb A B env μ σ value slice (pairV q) (.int 1) R :=
  OpS.tup (j:=1) hs (by show seqIndex? 1 2 = some 1; decide +kernel) (by decide) rfl h
theorem hitems_call (X:HAll prog w Amb mg mb at_ mf K okN okV) (hr:Room A 1) {i:Nat} {es:List (Str × Str)} (hes:σ[i]? = some (.lst es)) (hz:es.length ≤ sizeLine) {R:V → Sg → Prop} (h:R (.list (es.map pairV)) σ) :
    WC prog w Amb A B env μ σ (.ref (mf "items")) [.hdr i] R:=by
  refine WC.hdef (eys:=[]) (rest:=[]) X.H X.items (fun _ _ => .nil) hr (by kernel_rfl) rfl (by decide +kernel) (by kernel_rfl) fun A' B' env' hr' E' hs hfn => ?_
  refine WS.cons (W1.ret (WE.hcopy X.H (WE.hattr X.HK (WE.nm E' hs (by kernel_rfl) rfl ⟨i,rfl,i,es,rfl,hes,hz,_,.inl rfl,h⟩))))
theorem hgetall_body (X:HAll prog w Amb mg mb at_ mf K okN okV) (E':EnvOk env) (hs:env.scope = fnScopeM 7) (hfn:env.func.isSome = true) (hr:Room A 1) {i:Nat} {es:List (Str × Str)} {x:Str} (hes:σ[i]? = some (.lst es)) (hz:es.length ≤ sizeLine) (hsh:shortE es) (hx:x.length ≤ 1000) (ho:okN (Txt.lower x)) :
    WS prog w Amb A B env (mu0 ["self","name"] [.hdr i,.str x] []) σ (fnBodyM 7) (fun f μ' σ' => ∃ y,(f = .ret y ∨ (f = .next ∧ y = .none)) ∧ y = .list ((es.filter fun p => Txt.lower p.1 == Txt.lower x).map fun p => .str p.2) ∧ σ' = σ):=by
  have hh:=hr.handled
  have H:=X.H
  have T:=X.T
  refine WS.cons ?_
  refine W1.assign E' (stor_of hs hfn (by kernel_rfl)) ?_ (by rfl)
  refine WE.hconv H T X.HT X.HK X.conv hr (WE.nm E' hs (by kernel_rfl) rfl ⟨i,rfl,?_⟩)
  refine WE.meth (WE.nm E' hs (by kernel_rfl) rfl ⟨_,meth_str PySem.F.slot_str_lower PySem.F.type_str_lower,WAs.nil (WC.str_lower hx ⟨_,rfl,ho,?_⟩)⟩) (by rfl) (by rfl) (by rfl) (by rfl)
  refine WS.cons ?_
  refine W1.ret ?_
  refine WE.lc H E' hs hfn hh ⟨by kernel_rfl,rfl,by kernel_rfl,by kernel_rfl,by kernel_rfl⟩ ?_
  refine WE.hattr X.HK (WE.nm E' hs (by kernel_rfl) rfl ⟨i,rfl,es.map pairV,by simp [iterS,hes],trivial,by simpa using hz,onPair fun p => Txt.lower p.1 == Txt.lower x,sndV,fun B' env' y K' hs' hf' hy => ?_,?_⟩)
  · obtain ⟨p,hp,rfl⟩:=List.mem_map.mp hy
    refine ⟨WTs.one (WB.cmp' ?_ (by rfl)),fun _ => ?_⟩
    · refine WE.meth (WE.sub (WE.nm K' hs' (by kernel_rfl) rfl (WE.int (pair_fst (by rfl) ⟨_,meth_str PySem.F.slot_str_lower PySem.F.type_str_lower,WAs.nil (WC.str_lower (hsh p hp) ?_)⟩)))) (by rfl) (by rfl) (by rfl) (by rfl)
      refine WE.nm K' hs' (by kernel_rfl) rfl (OpC.eq_str ⟨_,.bool _,rfl,rfl⟩)
    · exact WE.sub (WE.nm K' hs' (by kernel_rfl) rfl (WE.int (pair_snd (by rfl) ⟨rfl,rfl⟩)))
  · refine ⟨_,.inl rfl,?_,rfl⟩
    rw [filter_onPair,map_sndV]
theorem hgetall_call (X:HAll prog w Amb mg mb at_ mf K okN okV) (hr:Room A 2) {i:Nat} {es:List (Str × Str)} {x:Str} (hes:σ[i]? = some (.lst es)) (hz:es.length ≤ sizeLine) (hsh:shortE es) (hx:x.length ≤ 1000) (ho:okN (Txt.lower x)) {R:V → Sg → Prop}
    (h:R (.list ((es.filter fun p => Txt.lower p.1 == Txt.lower x).map fun p => .str p.2)) σ):WC prog w Amb A B env μ σ (.ref (mf "get_all")) [.hdr i,.str x] R:=by
  refine WC.hdef (eys:=[]) (rest:=[]) X.H X.getall (fun _ _ => .nil) hr (by kernel_rfl) rfl (by decide +kernel) (by kernel_rfl) fun A' B' env' hr' K' hs' hf' => ?_
  refine WS.mono (hgetall_body (B:=B') X K' hs' hf' hr' hes hz hsh hx ho) ?_
  rintro f μ' τ ⟨y,h1,rfl,rfl⟩
  exact ⟨_,h1,h⟩
theorem hdel_body (X:HAll prog w Amb mg mb at_ mf K okN okV) (E':EnvOk env) (hs:env.scope = fnScopeM 4) (hfn:env.func.isSome = true) (hr:Room A 1) {i:Nat} {es:List (Str × Str)} {x:Str} (hes:σ[i]? = some (.lst es)) (hz:es.length + es.length ≤ sizeLine) (hsh:shortE es) (hx:x.length ≤ 1000) (ho:okN (Txt.lower x)) :
    WS prog w Amb A B env (mu0 ["self","name"] [.hdr i,.str x] []) σ (fnBodyM 4) (fun f μ' σ' => ∃ y,(f = .ret y ∨ (f = .next ∧ y = .none)) ∧ σ' = σ.set i (.lst (delE es (Txt.lower x)))):=by
  have hh:=hr.handled
  have H:=X.H
  have T:=X.T
  refine WS.cons ?_
  refine W1.assign E' (stor_of hs hfn (by kernel_rfl)) ?_ (by rfl)
  refine WE.hconv H T X.HT X.HK X.conv hr (WE.nm E' hs (by kernel_rfl) rfl ⟨i,rfl,?_⟩)
  refine WE.meth (WE.nm E' hs (by kernel_rfl) rfl ⟨_,meth_str PySem.F.slot_str_lower PySem.F.type_str_lower,WAs.nil (WC.str_lower hx ⟨_,rfl,ho,?_⟩)⟩) (by rfl) (by rfl) (by rfl) (by rfl)
  refine WS.cons ?_
  refine W1.hslice H ?_ (by rfl)
  refine WE.lc H E' hs hfn hh ⟨by kernel_rfl,rfl,by kernel_rfl,by kernel_rfl,by kernel_rfl⟩ ?_
  refine WE.hattr X.HK (WE.nm E' hs (by kernel_rfl) rfl ⟨i,rfl,es.map pairV,by simp [iterS,hes],trivial,by simp; lia,onPair fun p => Txt.lower p.1 != Txt.lower x,id,fun B' env' y K' hs' hf' hy => ?_,?_⟩)
  · obtain ⟨p,hp,rfl⟩:=List.mem_map.mp hy
    refine ⟨WTs.one (WB.cmp' ?_ (by rfl)),fun _ => ?_⟩
    · refine WE.meth (WE.sub (WE.nm K' hs' (by kernel_rfl) rfl (WE.int (pair_fst (by rfl) ⟨_,meth_str PySem.F.slot_str_lower PySem.F.type_str_lower,WAs.nil (WC.str_lower (hsh p hp) ?_)⟩)))) (by rfl) (by rfl) (by rfl) (by rfl)
      refine WE.nm K' hs' (by kernel_rfl) rfl (OpC.ne_str ⟨_,.bool _,rfl,rfl⟩)
    · exact WE.nm K' hs' (by kernel_rfl) rfl ⟨rfl,rfl⟩
  · refine WE.hattr X.HK (WE.nm E' hs (by kernel_rfl) rfl ⟨i,rfl,i,es,delE es (Txt.lower x),rfl,?_,hes,?_,WS.nil ⟨_,.inr ⟨rfl,rfl⟩,rfl⟩⟩)
    · rw [filter_onPair,List.map_id]; rfl
    · have:=List.length_filter_le (fun p:Str × Str => Txt.lower p.1 != Txt.lower x) es
      unfold delE
      lia
theorem hdel_call (X:HAll prog w Amb mg mb at_ mf K okN okV) (hr:Room A 2) {i:Nat} {es:List (Str × Str)} {x:Str} (hes:σ[i]? = some (.lst es)) (hz:es.length + es.length ≤ sizeLine) (hsh:shortE es) (hx:x.length ≤ 1000) (ho:okN (Txt.lower x)) {R:V → Sg → Prop}
    (h:∀ y,R y (σ.set i (.lst (delE es (Txt.lower x))))):WC prog w Amb A B env μ σ (.ref (mf "__delitem__")) [.hdr i,.str x] R:=by
  refine WC.hdef (eys:=[]) (rest:=[]) X.H X.delitem (fun _ _ => .nil) hr (by kernel_rfl) rfl (by decide +kernel) (by kernel_rfl) fun A' B' env' hr' K' hs' hf' => ?_
  refine WS.mono (hdel_body (B:=B') X K' hs' hf' hr' hes hz hsh hx ho) ?_
  rintro f μ' τ ⟨y,h1,rfl⟩
  exact ⟨_,h1,h _⟩
end
section
variable {prog:Program} {w:World} {Amb:Fz → Prop} {A:Around} {B:Base} {env env':Env} {μ μ':Mu} {σ σ':Sg} {mg mb:Str → Option Value} {at_:Str → Addr} {sc:Scope} {K:Frag} {mf:Str → Addr}
variable {okN okV:Str → Prop}
theorem hset_body (X:HAll prog w Amb mg mb at_ mf K okN okV) (E':EnvOk env) (hs:env.scope = fnScopeM 3) (hfn:env.func.isSome = true) (hr:Room A 2) {i:Nat} {es:List (Str × Str)} {x y:Str} (hes:σ[i]? = some (.lst es)) (hz:es.length + es.length ≤ sizeLine) (hsh:shortE es) (hx:x.length ≤ 1000) (ho:okN (Txt.lower x)) (hox:okN x) (hoy:okV y) :
    WS prog w Amb A B env (mu0 ["self","name","val"] [.hdr i,.str x,.str y] []) σ (fnBodyM 3) (fun f μ' σ' => ∃ z,(f = .ret z ∨ (f = .next ∧ z = .none)) ∧ σ' = σ.set i (.lst (delE es (Txt.lower x) ++ [(x,y)]))):=by
  have hh:=hr.handled
  have H:=X.H
  have T:=X.T
  have hr1:Room A 1:=hr.less (by decide)
  have hi:i < σ.length:=(List.getElem?_eq_some_iff.mp hes).1
  have hd:(σ.set i (.lst (delE es (Txt.lower x))))[i]? = some (.lst (delE es (Txt.lower x))):=List.getElem?_set_self hi
  have hlen:(delE es (Txt.lower x)).length ≤ es.length:=List.length_filter_le _ _
  refine WS.cons ?_
  refine W1.hdel X.HK (WE.nm E' hs (by kernel_rfl) rfl ⟨i,rfl,WE.nm E' hs (by kernel_rfl) rfl (hdel_call X hr hes hz hsh hx ho fun _ => ?_)⟩)
  refine WS.cons ?_
  refine W1.happend (WE.hattr X.HK (WE.nm E' hs (by kernel_rfl) rfl ⟨i,rfl,i,_,rfl,hd,WE.tuple H ?_ (by rfl)⟩)) (by rfl) (by rfl) (by rfl) (by rfl) (inter hs (by kernel_rfl))
  refine WAs.cons ?_
  refine WE.hconv H T X.HT X.HK X.conv hr1 (WE.nm E' hs (by kernel_rfl) rfl ⟨i,rfl,WE.nm E' hs (by kernel_rfl) rfl ⟨x,rfl,hox,?_⟩⟩)
  refine WAs.cons ?_
  refine WE.hconv H T X.HT X.HK X.conv hr1 (WE.nm E' hs (by kernel_rfl) rfl ⟨i,rfl,WE.nm E' hs (by kernel_rfl) rfl ⟨y,rfl,hoy,?_⟩⟩)
  refine WAs.nil ⟨Nat.le_of_ble_eq_true (by kernel_rfl),x,y,_,rfl,hd,by lia,WS.nil ⟨_,.inr ⟨rfl,rfl⟩,?_⟩⟩
  rw [List.set_set]
theorem hset_call (X:HAll prog w Amb mg mb at_ mf K okN okV) (hr:Room A 3) {i:Nat} {es:List (Str × Str)} {x y:Str} (hes:σ[i]? = some (.lst es)) (hz:es.length + es.length ≤ sizeLine) (hsh:shortE es) (hx:x.length ≤ 1000) (ho:okN (Txt.lower x)) (hox:okN x) (hoy:okV y) {R:V → Sg → Prop}
    (h:∀ z,R z (σ.set i (.lst (delE es (Txt.lower x) ++ [(x,y)])))):WC prog w Amb A B env μ σ (.ref (mf "__setitem__")) [.hdr i,.str x,.str y] R:=by
  refine WC.hdef (eys:=[]) (rest:=[]) X.H X.setitem (fun _ _ => .nil) hr (by kernel_rfl) rfl (by decide +kernel) (by kernel_rfl) fun A' B' env' hr' K' hs' hf' => ?_
  refine WS.mono (hset_body (B:=B') X K' hs' hf' hr' hes hz hsh hx ho hox hoy) ?_
  rintro f μ' τ ⟨y,h1,rfl⟩
  exact ⟨_,h1,h _⟩
theorem hdef_body (X:HAll prog w Amb mg mb at_ mf K okN okV) (E':EnvOk env) (hs:env.scope = fnScopeM 15) (hfn:env.func.isSome = true) (hr:Room A 2) {i:Nat} {es:List (Str × Str)} {x y:Str} (hes:σ[i]? = some (.lst es)) (hz:es.length ≤ sizeLine) (hsh:shortE es) (hx:x.length ≤ 1000) (ho:okN (Txt.lower x)) (hox:okN x) (hoy:okV y) (hnone:getH es (Txt.lower x) = .none) :
    WS prog w Amb A B env (mu0 ["self","name","value"] [.hdr i,.str x,.str y] ["result"]) σ (fnBodyM 15) (fun f μ' σ' => ∃ z,(f = .ret z ∨ (f = .next ∧ z = .none)) ∧ σ' = σ.set i (.lst (es ++ [(x,y)]))):=by
  have hh:=hr.handled
  have H:=X.H
  have T:=X.T
  have hr1:Room A 1:=hr.less (by decide)
  obtain ⟨fd,Kf,_,_⟩:=X.get.ex
  refine WS.cons ?_
  refine W1.assign E' (stor_of hs hfn (by kernel_rfl)) ?_ (by rfl)
  refine WE.hmeth X.HK (by decide +kernel) Kf (WE.nm E' hs (by kernel_rfl) rfl ⟨i,rfl,WAs.cons (WE.nm E' hs (by kernel_rfl) rfl (WAs.nil (hget_call X hr hes hsh hx ho ?_)))⟩) (by rfl) (by rfl) (by rfl) (by rfl)
  rw [hnone]
  refine WS.cons ?_
  refine W1.if_ (WB.cmp' (WE.nm E' hs (by kernel_rfl) rfl (WE.none (OpC.is_none NoneIs.none ⟨_,.bool _,?_⟩))) (by rfl))
  first | refine iteT rfl ?_ | rw [if_pos rfl]
  refine WS.cons ?_
  refine W1.happend (WE.hattr X.HK (WE.nm E' hs (by kernel_rfl) rfl ⟨i,rfl,i,_,rfl,hes,WE.tuple H ?_ (by rfl)⟩)) (by rfl) (by rfl) (by rfl) (by rfl) (inter hs (by kernel_rfl))
  refine WAs.cons ?_
  refine WE.hconv H T X.HT X.HK X.conv hr1 (WE.nm E' hs (by kernel_rfl) rfl ⟨i,rfl,WE.nm E' hs (by kernel_rfl) rfl ⟨x,rfl,hox,?_⟩⟩)
  refine WAs.cons ?_
  refine WE.hconv H T X.HT X.HK X.conv hr1 (WE.nm E' hs (by kernel_rfl) rfl ⟨i,rfl,WE.nm E' hs (by kernel_rfl) rfl ⟨y,rfl,hoy,?_⟩⟩)
  refine WAs.nil ⟨Nat.le_of_ble_eq_true (by kernel_rfl),x,y,es,rfl,hes,hz,?_⟩
  refine WS.cons ?_
  exact W1.ret (WE.nm E' hs (by kernel_rfl) rfl ⟨_,.inl rfl,rfl⟩)
theorem hdef_call (X:HAll prog w Amb mg mb at_ mf K okN okV) (hr:Room A 3) {i:Nat} {es:List (Str × Str)} {x y:Str} (hes:σ[i]? = some (.lst es)) (hz:es.length ≤ sizeLine) (hsh:shortE es) (hx:x.length ≤ 1000) (ho:okN (Txt.lower x)) (hox:okN x) (hoy:okV y) (hnone:getH es (Txt.lower x) = .none) {R:V → Sg → Prop}
    (h:∀ z,R z (σ.set i (.lst (es ++ [(x,y)])))):WC prog w Amb A B env μ σ (.ref (mf "setdefault")) [.hdr i,.str x,.str y] R:=by
  refine WC.hdef (eys:=[]) (rest:=["result"]) X.H X.setdef (fun _ _ => .nil) hr (by kernel_rfl) rfl (by decide +kernel) (by kernel_rfl) fun A' B' env' hr' K' hs' hf' => ?_
  refine WS.mono (hdef_body (B:=B') X K' hs' hf' hr' hes hz hsh hx ho hox hoy hnone) ?_
  rintro f μ' τ ⟨y,h1,rfl⟩
  exact ⟨_,h1,h _⟩
theorem hvalues_call (X:HAll prog w Amb mg mb at_ mf K okN okV) (hr:Room A 1) {i:Nat} {es:List (Str × Str)} (hes:σ[i]? = some (.lst es)) (hz:es.length ≤ sizeLine) {R:V → Sg → Prop} (h:R (.list (es.map fun p => .str p.2)) σ) :
    WC prog w Amb A B env μ σ (.ref (mf "values")) [.hdr i] R:=by
  refine WC.hdef (eys:=[]) (rest:=[]) X.H X.values (fun _ _ => .nil) hr (by kernel_rfl) rfl (by decide +kernel) (by kernel_rfl) fun A' B' env' hr' E' hs hfn => ?_
  have hh:=hr'.handled
  refine WS.cons (W1.ret ?_)
  refine WE.listcomp X.H E' hfn hh (by decide +kernel) (by rfl) (by decide +kernel) (fun x hx => ?_) ?_
  · have q:∀ (l:List (Str × NameKind)),(l.all fun z => decide (z.2 ≠ .free)) = true → (x,NameKind.free) ∈ l → False:=fun l hl hm => of_decide_eq_true (List.all_eq_true.mp hl _ hm) rfl
    exact (q _ (by kernel_rfl) hx).elim
  refine WE.hattr X.HK (WE.nm E' hs (by kernel_rfl) rfl ⟨i,rfl,es.map pairV,by simp [iterS,hes],trivial,by simpa using hz,?_⟩)
  intro B2 env2 K2 hs2 hf2
  rw [hs] at hs2
  refine ⟨fun j μ' σ' acc => (∃ k v:Option LV,μ' = ([(".0",none),("k",k),("v",v)]:Mu)) ∧ σ' = σ ∧ acc = (es.take j).map fun p => .str p.2,?_,?_,?_,?_⟩
  · exact ⟨⟨none,none,by rfl⟩,rfl,by simp⟩
  · rintro j μ' σ' acc ⟨_,rfl,_⟩
    simp [iterS,hes]
  · rintro j z μ' σ' acc hj ⟨⟨k,v,rfl⟩,rfl,rfl⟩
    rw [List.getElem?_map] at hj
    obtain ⟨p,hp,rfl⟩:=Option.map_eq_some_iff.mp hj
    have hi:j < es.length:=(List.getElem?_eq_some_iff.mp hp).1
    have ht:es.take (j + 1) = es.take j ++ [p]:=by
      rw [List.take_succ_eq_append_getElem hi,(List.getElem?_eq_some_iff.mp hp).2]
    refine AT.pair hh ?_ (by rfl)
    refine AT.name K2 (stor_loc hs2 (by kernel_rfl)) ?_
    refine AT.name K2 (stor_loc hs2 (by kernel_rfl)) ?_
    refine WTs.nil ?_
    first | refine iteT rfl ?_ | rw [if_pos rfl]
    refine WE.nm K2 hs2 (by kernel_rfl) rfl ⟨⟨_,_,rfl⟩,rfl,?_⟩
    rw [ht]
    simp
  · rintro μ' σ' acc ⟨_,rfl,rfl⟩
    rw [List.length_map,List.take_length]
    exact ⟨_,.inl rfl,h⟩
end
noncomputable abbrev edO:Obj:={ cls:=.type "dict",data:=.dict #[] }
section
variable {prog:Program} {w:World} {Amb:Fz → Prop} {A:Around} {B:Base} {env env':Env} {μ μ':Mu} {σ σ':Sg} {mg mb:Str → Option Value} {at_:Str → Addr} {sc:Scope} {K:Frag} {mf:Str → Addr}
variable {okN okV:Str → Prop}
theorem W1.forNone {tgt:PySem.Expr} {body:List Stmt} {x:Str} {px apos pos p:Pos} {R:Fl → Mu → Sg → Prop} (hh:A.handled = none) (hsys:∀ F,Amb F → ∃ o,F sysModules = some o ∧ o ≠ edO) (K':EnvOk env) (hk:env.kindOf x = some .local) (hm:mget μ x = some (.v (.obj edO))) (h:R .next μ σ)
    (hs:∀ v:Value,foldedSetIterable (.Call (.Attribute (.Name x px) "items" apos) [] [] pos) env v = pure v:=by intro x; rfl)
    (hbase:attributeBase (.Name x px) "items" env (eval (.Name x px) env) = eval (.Name x px) env:=by rfl) (hline:(apos.endLine == pos.line) = true:=by rfl)
    (hd:(x == ("__debug__":Str)) = false:=by kernel_rfl) (hd':(x == ("__classdict__":Str)) = false:=by kernel_rfl) :
    W1 prog w Amb A B env μ σ (.For tgt (.Call (.Attribute (.Name x px) "items" apos) [] [] pos) body [] p) R:=by
  rintro P s ⟨F,φ,m,ow,S⟩
  refine wpAny_For (Call_method0 hbase hline (wpAny_Name (load_name K' S (.inl hk) hm hd' fun v r => ?_) hd)) hs
  obtain ⟨D,rfl,hF⟩:=r.inv
  have ho:=S.sub _ _ hF
  have hsy:(D == sysModules) = false:=beq_eq_false_iff_ne.mpr fun e => by
    obtain ⟨o,h1,h2⟩:=hsys F S.amb
    rw [← e,hF] at h1
    cases h1
    exact h2 rfl
  have hdo:∀ {h:Heap},h.get? D = some edO → h.DictOf (strKind prog w) D []:=fun e => ⟨_,#[],0,e,⟨rfl,rfl,rfl⟩,rfl,fun _ he => by simp at he,Pairs.nil,List.nodup_nil⟩
  refine ⟨"dict","dict.items",PySem.F.plainAttrs_dict,PySem.F.slot_dict_items,PySem.F.type_dict_items,⟨_,ho,rfl⟩,fun a e => by cases e; exact ⟨_,ho,rfl⟩,?_⟩
  refine callWith_plain (f:=.builtin "dict.items") (first:=[.ref D]) (ts:=[]) (ks:=[]) (.inl ⟨_,rfl⟩) (Calls.spliced_nil (wpAny_evalAll_nil ⟨(fun a e => nomatch e),?_⟩))
  refine call_meetsIn PySem.F.slot_dict_items ⟨_,ho,rfl⟩ PySem.F.entry_dict_items (PySem.F.args_dict_items_1 _) (meets_dict_items (strKind prog w) D hsy) ⟨⟨[],hdo ho⟩,?_⟩
  have G1:Grow s { s with heap:=s.heap.push { cls:=.type "dict_items",data:=.fields #[.ref D] } }:=Grow.push _ _
  have ho1:=G1.keep _ _ ho
  show wpAny (model prog w) A (pyIter (.ref s.heap.objs.size)) _ _ _
  obtain ⟨ep,hat⟩:=(hdo ho1).dictAt
  refine wpAny_pyIter_items (knd:=strKind prog w) (d:=D) (kvs:=[]) (ep:=ep) ⟨_,Heap.get?_push_size _ rfl,rfl,rfl⟩ hat ?_
  have S1:=S.grow G1
  generalize hs1:({ s with heap:=s.heap.push { cls:=.type "dict_items",data:=.fields #[.ref D] } }:Shared) = s1 at S1 ho1 hat ⊢
  have hn:s1.heap.get? s1.heap.objs.size = none:=none_at_size _
  obtain ⟨f1,f2,f3,f4,f5,f6⟩:=S1.free hn
  have S2:=(S1.grow (s':={ s1 with heap:=s1.heap.push { cls:=.type "dict_itemiterator",data:=.fields #[.none,.bool false,.ref D,.int 0 0,.int (([]:List (Str × Value)).length:Nat) 0,.int ep 0,.none,.none] } }) (Grow.push _ _))
  have hat2:=hat.at' (h':=s1.heap.push { cls:=.type "dict_itemiterator",data:=.fields #[.none,.bool false,.ref D,.int 0 0,.int (([]:List (Str × Value)).length:Nat) 0,.int ep 0,.none,.none] }) fun o e => Heap.get?_push_of_some _ e
  have hit:IsItemIter (s1.heap.push { cls:=.type "dict_itemiterator",data:=.fields #[.none,.bool false,.ref D,.int 0 0,.int (([]:List (Str × Value)).length:Nat) 0,.int ep 0,.none,.none] }) s1.heap.objs.size D 0 ([]:List (Str × Value)).length ep .none .none:=Heap.get?_push_size _ rfl
  refine codeAny_forLoop_any (fun k s' => s' = { s1 with heap:=s1.heap.push { cls:=.type "dict_itemiterator",data:=.fields #[.none,.bool false,.ref D,.int 0 0,.int (([]:List (Str × Value)).length:Nat) 0,.int ep 0,.none,.none] } }) ?_ 0 rfl
  rintro k s' rfl
  refine wpAny_pyNext_items_end (knd:=strKind prog w) (kvs:=[]) hh hit hat2 rfl fun h' he => ?_
  have hP:∀ o mi,Pend.held s1.heap.objs.size o mi ∉ P:=fun o mi hm => by
    have:=(S1.held _ o mi hm).1
    rw [hn] at this; cases this
  have S3:=S2.turn (wr:=[s1.heap.objs.size]) (s':={ s1 with heap:=h' }) (fun b o hb e => he b o (fun e' => hb (by simp [e'])) e) rfl .rfl fun b hb => List.mem_singleton.mp hb ▸ S1.freeMn hn hP
  exact wpAny_execs_nil ⟨μ,σ,⟨F,φ,m,ow,S3⟩,h⟩
end
structure HDefKw (Amb:Fz → Prop) (a:Addr):Prop where
  ex:∃ fd,FnIs Amb a fd (fnBodyM 16) ∧ fd.scope = fnScopeM 16 ∧ ∀ (prog:Program) (w:World) (A:Around) (F:Fz) (s:Shared) (v1 v2 v3:Value) (Q:List (Str × Value) → Shared → Prop) (E:Value → Shared → Prop),
    Amb F → (∀ a o,F a = some o → s.heap.get? a = some o) → Q (List.zip ["self","_name","_value","_params"] [v1,v2,v3,.ref s.heap.objs.size]) { s with heap:=s.heap.push edO } → wpAny (model prog w) A (bindArgs fd ⟨[v1,v2,v3],[]⟩) Q E s
section
variable {prog:Program} {w:World} {Amb:Fz → Prop} {A:Around} {B:Base} {env env':Env} {μ μ':Mu} {σ σ':Sg} {mg mb:Str → Option Value} {at_:Str → Addr} {sc:Scope} {K:Frag} {mf:Str → Addr}
variable {okN okV:Str → Prop}
set_option maxRecDepth 10000 in
theorem hadd_body (X:HAll prog w Amb mg mb at_ mf K okN okV) (hsys:∀ F,Amb F → ∃ o,F sysModules = some o ∧ o ≠ edO) (E':EnvOk env) (hs:env.scope = fnScopeM 16) (hfn:env.func.isSome = true) (hr:Room A 1) {i:Nat} {es:List (Str × Str)} {x y:Str} (hes:σ[i]? = some (.lst es)) (hz:es.length ≤ sizeLine) (hox:okN x) (hoy:okV y) (hy:y.length ≤ 1000) :
    WS prog w Amb A B env (mu0 ["self","_name","_value","_params"] [.hdr i,.str x,.str y,.obj edO] ["parts","k","v"]) σ (fnBodyM 16) (fun f μ' σ' => ∃ z,(f = .ret z ∨ (f = .next ∧ z = .none)) ∧ σ' = σ.set i (.lst (es ++ [(x,y)]))):=by
  have hh:=hr.handled
  have H:=X.H
  have T:=X.T
  refine WS.cons ?_
  refine W1.assignEmpty E' (by rw [kindOf_of hs]; kernel_rfl) ?_ (by rfl) (by rfl)
  refine WS.cons ?_
  refine W1.if_ (WB.cmp' (WE.nm E' hs (by kernel_rfl) rfl (WE.none (OpC.isnot_none (NoneIs.str _) ⟨_,.bool _,?_⟩))) (by rfl))
  first | refine iteT (by rfl) ?_ | rw [if_pos (by rfl)]
  refine WS.cons ?_
  refine W1.assign E' (stor_of hs hfn (by kernel_rfl)) ?_ (by rfl)
  refine WE.hconv H T X.HT X.HK X.conv hr (WE.nm E' hs (by kernel_rfl) rfl ⟨i,rfl,WE.nm E' hs (by kernel_rfl) rfl ⟨y,rfl,hoy,?_⟩⟩)
  refine WS.cons ?_
  refine W1.append (xs:=[]) E' (by rw [kindOf_of hs]; kernel_rfl) rfl (Nat.zero_le _) (fun D => ?_) (by rfl) (by rfl) (by rfl) (by rfl) (inter hs (by kernel_rfl))
  refine WE.nm E' hs (by kernel_rfl) rfl ?_
  refine WS.nil ?_
  refine WS.cons ?_
  refine W1.forNone hh hsys E' (by rw [kindOf_of hs]; kernel_rfl) rfl ?_ (by intro x; rfl) (by rfl) (by rfl)
  refine WS.cons ?_
  refine W1.freeze (x:="parts") H (by rw [kindOf_of hs]; kernel_rfl) rfl ?_
  refine W1.happend (WE.hattr X.HK (WE.nm E' hs (by kernel_rfl) rfl ⟨i,rfl,i,_,rfl,hes,WE.tuple H ?_ (by rfl)⟩)) (by rfl) (by rfl) (by rfl) (by rfl) (inter hs (by kernel_rfl))
  refine WAs.cons ?_
  refine WE.hconv H T X.HT X.HK X.conv hr (WE.nm E' hs (by kernel_rfl) rfl ⟨i,rfl,WE.nm E' hs (by kernel_rfl) rfl ⟨x,rfl,hox,?_⟩⟩)
  refine WAs.cons ?_
  refine WE.meth (WE.str ⟨_,meth_str PySem.F.slot_str_join PySem.F.type_str_join,WAs.cons (WE.nm E' hs (by kernel_rfl) rfl (WAs.nil (WC.str_join (ys:=[y]) (by decide +kernel) (by simp; lia) ?_)))⟩) (by rfl) (by rfl) (by rfl) (by rfl)
  have hj:Txt.join ("; ":Str) [y] = y:=(beq_iff_eq.mp (join_closes (sep:=("; ":Str)) (sep':="; ") (ys:=[y]) rfl)).trans rfl
  rw [hj]
  exact WAs.nil ⟨Nat.le_of_ble_eq_true (by kernel_rfl),x,y,es,rfl,hes,hz,WS.nil ⟨_,.inr ⟨rfl,rfl⟩,rfl⟩⟩
theorem hadd_call (X:HAll prog w Amb mg mb at_ mf K okN okV) (hsys:∀ F,Amb F → ∃ o,F sysModules = some o ∧ o ≠ edO) (D:HDefKw Amb (mf "add_header")) (hr:Room A 2) {i:Nat} {es:List (Str × Str)} {x y:Str} (hes:σ[i]? = some (.lst es)) (hz:es.length ≤ sizeLine) (hox:okN x) (hoy:okV y) (hy:y.length ≤ 1000) {R:V → Sg → Prop}
    (h:∀ z,R z (σ.set i (.lst (es ++ [(x,y)])))):WC prog w Amb A B env μ σ (.ref (mf "add_header")) [.hdr i,.str x,.str y] R:=by
  obtain ⟨fd,Kf,hs,hb⟩:=D.ex
  rintro P vs s hl ⟨F,φ,m,ow,S⟩
  obtain ⟨v1,v2,v3,rfl⟩:=len_three hl
  have hn:=none_at_size s.heap
  have S1:=S.freeze (s':={ s with heap:=s.heap.push edO }) X.H.mono (Grow.push _ _) hn (Heap.get?_push_size _ rfl)
  have S2:StF Amb B env μ σ (rels [v1,v2,v3,.ref s.heap.objs.size] [.hdr i,.str x,.str y,.obj edO] ++ P) _ _ φ m ow:=(S1.add (.obj (a:=s.heap.objs.size) (o:=edO) updF_self)).drop fun q hq => by
    simp only [rels,List.zip_cons_cons,List.zip_nil_left,List.map_cons,List.map_nil,List.cons_append,List.nil_append,List.mem_cons] at hq ⊢
    rcases hq with e | e | e | e | e <;> simp [e]
  refine wpAny_call (fn_core (names:=["self","_name","_value","_params"]) (rest:=["parts","k","v"]) X.H Kf hr (by rw [hs]; kernel_rfl) S.amb S.sub (fun a o e => Heap.get?_push_of_some _ (S.sub a o e)) S2 rfl (by decide +kernel) (fun Q E q => hb prog w _ F s v1 v2 v3 Q E S.amb S.sub q) (fun n hn => by rw [hs]; revert n; decide +kernel) ?_)
  intro A' B' env' hr' K' hs' hf'
  refine WS.mono (hadd_body (B:=B') X hsys K' (hs'.trans hs) hf' hr' hes hz hox hoy hy) ?_
  rintro f μ' τ ⟨y,h1,rfl⟩
  exact ⟨_,h1,h _⟩
end
section
variable {prog:Program} {w:World} {Amb:Fz → Prop} {A:Around} {B:Base} {env env':Env} {μ μ':Mu} {σ σ':Sg} {mg mb:Str → Option Value} {at_:Str → Addr} {sc:Scope} {K:Frag} {mf:Str → Addr}
variable {P P':List Pend} {s s' s₁:Shared} {F F':Fz} {φ φ':List Addr} {m m':Str → Option Value} {ow ow':List (Str × Addr)}
variable {okN okV:Str → Prop}
theorem room_under {C:Addr} {k:Nat} (hr:Room A (k + 1)):Room (A.under (.builtin "type.__call__" ⟨[.ref C],[]⟩)) k:=by
  have h1:Code.weight (.builtin "type.__call__" ⟨[.ref C],[]⟩) ≤ 1:=by
    have:Code.weight (.builtin "type.__call__" ⟨[.ref C],[]⟩) = 1:=by kernel_rfl
    lia
  have h2:Code.cUnits (.builtin "type.__call__" ⟨[.ref C],[]⟩) ≤ 8:=by
    have:Code.cUnits (.builtin "type.__call__" ⟨[.ref C],[]⟩) = 1:=by kernel_rfl
    lia
  refine ⟨hr.handled,?_,?_⟩
  · have:=hr.depth
    show A.depth + Code.weight (.builtin "type.__call__" ⟨[.ref C],[]⟩) + k < 900
    lia
  · have:=hr.units
    show A.units + Code.cUnits (.builtin "type.__call__" ⟨[.ref C],[]⟩) + 8 * k < 9000
    lia
theorem StF.rebaseH {h1:Heap} (S:StF Amb B env μ σ P s F φ m ow) (hk:∀ b o,h1.get? b = some o → B.h0.get? b = some o) (hφ:∀ l ∈ B.φ0,∃ o,h1.get? l = some o) (hf:∀ x lv,mget μ x = some lv → ¬ Env.outer env x) :
    StF Amb ⟨h1,B.F0,B.φ0,B.os0,B.g0⟩ env μ σ P s F φ m ow:=by
  have n:∀ b,B.h0.get? b = none → h1.get? b = none:=fun b h => by
    cases e:h1.get? b with
    | none => rfl
    | some o => rw [hk b o e] at h; cases h
  exact { S with
    new:=fun a o h => (S.new a o h).imp id (n a)
    phin:=fun l h => (S.phin l h).imp id (n l)
    phi0:=hφ
    keep:=fun b o h hb => S.keep b o (hk b o h) hb
    locF:=⟨S.locF.1,S.locF.2.1,n _ S.locF.2.2⟩
    fre:=fun x lv h1 h2 => absurd h2 (hf x lv h1)
    cells:=fun c h => let ⟨a,b,d,e,f⟩:=S.cells c h; ⟨a,b,d,e,n _ f⟩
    own:=fun x a h => let ⟨q,b,d,e,f,g⟩:=S.own x a h; ⟨q,b,d,e,f,n _ g⟩
    held:=fun a o mi h => let ⟨q,b,d,e,f,g⟩:=S.held a o mi h; ⟨q,b,d,e,f,fun z => ⟨(g z).1,n _ (g z).2⟩⟩ }
theorem set_hdr {x d l:Addr} {Q:Unit → Shared → Prop} {E:Value → Shared → Prop} (HK:HdrOk Amb K mf) (X:K.In s.heap) (hx:s.heap.get? x = some (hdrO d)) (hd:s.heap.get? d = some edO)
    (h:∀ h' hh t n,h'.get? d = some (hdrD hh t l n) → Heap.SameBut d s.heap h' → Q () { s with heap:=h',toks:=s.toks + 2 }):wpAny (model prog w) A (setAttr (.ref x) "_headers" (.ref l)) Q E s:=by
  have I:InstAt s.heap x (hdrO d) hdrC (some edO):=⟨hx,rfl,rfl,hd⟩
  refine set_plain X I HK.sets ?_
  refine osa_open (s:={ s with toks:=s.toks + 1 }) X I HK.over HK.taker fun b => ?_
  obtain ⟨cd,hc,hd'⟩:=any_some (show (clsIn K hdrC).any (·.hasDict) = true from HK.dict)
  refine wpAny_bind (wpAny_pure (wpAny_bind (wpAny_bind (wpAny_loadPart hx (wpAny_bind ((looks_clsIn (M:=model prog w) X hc).at ?_))))))
  rw [hd']
  refine wpAny_pure (a:=some d) (wpAny_bind (wpAny_pure (wpAny_bind ?_)))
  unfold nsSet
  refine wpAny_bind (wpAny_bind (wpAny_askSetting (wpAny_pure (wpAny_bind (wpAny_mkText (wpAny_bind (wpAny_loadPart hd ?_)))))))
  dsimp only
  rw [aRefKeyMayBeTheName_at]
  have hc0:((!(#[]:Array DictEntry).any fun x => x.key.isStr "_headers") && (#[]:Array DictEntry).any fun x => x.refKey) = false:=by simp
  first | refine iteF (by rw [hc0]; decide) ?_ | rw [if_neg (by rw [hc0]; decide)]
  have e0:=Heap.get?_update_self (h:=s.heap) (Obj.putName "_headers" (PyData.keyHash w.params "_headers") (.str "_headers" (s.toks + 1)) (.ref l)) hd rfl
  have e1:Obj.putName "_headers" (PyData.keyHash w.params "_headers") (.str "_headers" (s.toks + 1)) (.ref l) edO = hdrD (PyData.keyHash w.params "_headers") (s.toks + 1) l 1:=by
    show Obj.putName _ _ _ _ (dictOf [] 0) = _
    rw [putName_dict]; rfl
  rw [e1] at e0
  refine wpAny_updatePart hd ?_
  refine wpAny_bind (wpAny_lookBehind e0 (by exact pastItsLine_dict (by rw [sizeLine_eq]; simp)) ?_)
  exact wpAny_pure (h _ _ _ _ e0 (Heap.SameBut.update ..))
end
section
variable {prog:Program} {w:World} {Amb:Fz → Prop} {A:Around} {B:Base} {env env':Env} {μ μ':Mu} {σ σ':Sg} {mg mb:Str → Option Value} {at_:Str → Addr} {sc:Scope} {K:Frag} {mf:Str → Addr}
variable {P P':List Pend} {s s' s₁:Shared} {F F':Fz} {φ φ':List Addr} {m m':Str → Option Value} {ow ow':List (Str × Addr)}
variable {okN okV:Str → Prop}
theorem exec_cons1 {st:Stmt} {rest:List Stmt} {μ1:Mu} {σ1:Sg} {Q:Flow → Shared → Prop} (S:St Amb B env μ σ P s) (h:W1 prog w Amb A B env μ σ st (fun f μ' σ' => f = .next ∧ μ' = μ1 ∧ σ' = σ1))
    (k:∀ s',St Amb B env μ1 σ1 P s' → wpAny (model prog w) A (execs rest env) Q nofail s'):wpAny (model prog w) A (execs (st :: rest) env) Q nofail s:=by
  refine wpAny_execs_cons (wpAny_mono (h P s S) (fun f s' q => ?_) fun _ _ x => x.elim)
  cases f with
  | next => obtain ⟨μ',σ',S',-,rfl,rfl⟩:=q; exact k s' S'
  | brk => obtain ⟨μ',σ',S',e,_⟩:=q; cases e
  | cont => obtain ⟨μ',σ',S',e,_⟩:=q; cases e
  | ret v => obtain ⟨y,μ',σ',S',e,_⟩:=q; cases e
theorem init_run (X:HAll prog w Amb mg mb at_ mf K okN okV) (E':EnvOk env) (hs:env.scope = fnScopeM 0) (hfn:env.func.isSome = true) (hh:A.handled = none) {x d:Addr} (hxd:x ≠ d)
    (T:StF Amb B env (mu0 ["self","headers"] [.adr x,.none] ["k","v"]) σ [.held x (hdrO d) true,.held d edO true] s F φ m ow) {Q:Flow → Shared → Prop}
    (h:∀ s' F' φ' m' ow' μ',StF Amb B env μ' (σ ++ [.lst []]) [.rel (.ref x) (.hdr σ.length)] s' F' φ' m' ow' → Q .next s'):wpAny (model prog w) A (execs (fnBodyM 0) env) Q nofail s:=by
  have H:=X.H
  have Tp:=X.T
  refine exec_cons1 (μ1:=[("self",some (.v (.adr x))),("headers",some (.v (.hl σ.length))),("k",none),("v",none)]) (σ1:=σ ++ [.lst []]) ⟨F,φ,m,ow,T⟩ ?_ fun s1 S1 => ?_
  · refine W1.assign E' (stor_of hs hfn (by kernel_rfl)) ?_ (by rfl)
    refine WE.ifexp (WB.cmp' (WE.nm E' hs (by kernel_rfl) rfl (WE.none (OpC.isnot_none NoneIs.none ⟨_,.bool _,?_⟩))) (by rfl))
    first | refine iteF (by decide) ?_ | rw [if_neg (by decide)]
    exact WE.newHl ⟨rfl,rfl,rfl⟩ (by rfl)
  refine exec_cons1 (μ1:=[("self",some (.v (.adr x))),("headers",some (.v (.hl σ.length))),("k",none),("v",none)]) (σ1:=σ ++ [.lst []]) S1 ?_ fun s2 S2 => ?_
  · refine W1.if_ (WB.cmp' ?_ (by rfl))
    refine WE.callb (WE.bl H E' hs (by kernel_rfl) X.HT.type (.ty _) ⟨_,.ty _,WAs.cons (WE.nm E' hs (by kernel_rfl) rfl (WAs.nil (WC.type_hl (es:=[]) (by simp) ?_)))⟩) (by rfl)
    refine WE.bl H E' hs (by kernel_rfl) Tp.list (.ty _) (OpC.isnot_ty ⟨_,.bool _,?_⟩)
    first | refine iteF (by decide) ?_ | rw [if_neg (by decide)]
    exact WS.nil ⟨rfl,rfl,rfl⟩
  clear S1
  obtain ⟨F2,φ2,m2,ow2,S2⟩:=S2
  have hloc:∀ n:Str,env.kindOf n = (fnScopeM 0).names.lookup n:=fun n => kindOf_of hs n
  refine wpAny_execs_cons (plainObj_wpAny_Assign_Attribute (wpAny_Name (load_name (y:=.hl σ.length) E' S2 (.inl (by rw [hloc]; kernel_rfl)) rfl (by kernel_rfl) fun v r => wpAny_Name (load_name (y:=.adr x) E' S2 (.inl (by rw [hloc]; kernel_rfl)) rfl (by kernel_rfl) fun u r' => ?_) (by kernel_rfl)) (by kernel_rfl)) (by rfl))
  obtain rfl:=r'.inv
  obtain ⟨l,rfl,hl⟩:=r.inv
  have hx:=(S2.held x (hdrO d) true (by simp)).1
  have hd:=(S2.held d edO true (by simp)).1
  refine set_hdr X.HK (X.HK.inn S2) hx hd fun h' hv t n hd' hs' => ?_
  have S3:=(S2.drop (P':=[.held d edO true,.held x (hdrO d) true]) (by intro q hq; simp only [List.mem_cons,List.mem_nil_iff,or_false] at hq ⊢; rcases hq with e | e <;> simp [e])).turnHeld (tk:=s2.toks + 2) (by
    intro o mi hm
    simp only [List.mem_cons,List.mem_nil_iff,or_false] at hm
    cases hm
    exact hxd rfl) hs' hd'
  have S4:=S3.freezeMine H.mono (by
    intro o mi hm
    simp only [List.mem_cons,List.mem_nil_iff,or_false] at hm
    cases hm
    exact hxd rfl)
  have S5:=S4.freezeMine H.mono (fun o mi hm => by simp at hm)
  have S6:=S5.add (v:=.ref x) (x:=.hdr σ.length) (.hdr (d:=d) (l:=l) (h:=hv) (t:=t) (n:=n) hl updF_self (by simp [updF,Ne.symm hxd]))
  refine exec_cons1 (μ1:=[("self",some (.v (.adr x))),("headers",some (.v (.hl σ.length))),("k",none),("v",none)]) (σ1:=σ ++ [.lst []]) ⟨_,φ2,m2,ow2,S6⟩ ?_ fun s4 ⟨F4,φ4,m4,ow4,S7⟩ => ?_
  · refine W1.if_ (WB.val ?_ (fun _ => rfl))
    refine WE.bool ⟨_,.bool _,?_⟩
    first | refine iteT rfl ?_ | rw [if_pos rfl]
    refine WS.cons (W1.forS hh (WE.nm E' hs (by kernel_rfl) rfl ⟨[],by simp [iterS],trivial,fun i μ' σ' => i = 0 ∧ μ' = ([("self",some (.v (.adr x))),("headers",some (.v (.hl σ.length))),("k",none),("v",none)]:Mu) ∧ σ' = σ ++ [.lst []],⟨rfl,rfl,rfl⟩,?_,?_,?_⟩) (by intro x; rfl))
    · rintro i μ' σ' ⟨_,_,rfl⟩
      simp [iterS]
    · rintro i x μ' σ' hx
      simp at hx
    · rintro μ' σ' ⟨_,rfl,rfl⟩
      exact WS.nil ⟨rfl,rfl,rfl⟩
  · exact wpAny_execs_nil (h _ _ _ _ _ _ S7)
theorem WE.hnew {f:PySem.Expr} {p:Pos} {R:V → Sg → Prop} (X:HAll prog w Amb mg mb at_ mf K okN okV) (hr:Room A 3) (h:WE prog w Amb A B env μ σ f (fun y σ1 => y = .adr hdrC ∧ R (.hdr σ1.length) (σ1 ++ [.lst []])))
    (he:eval (.Call f [] [] p) env = (do callWith p (← eval f env) [] [] []):=by rfl):WE prog w Amb A B env μ σ (.Call f [] [] p) R:=by
  intro P s S
  rw [he]
  refine wpAny_bind (wpAny_mono (h P s S) (fun v s1 qq => ?_) fun _ _ x => x)
  obtain ⟨y,σ1,⟨F,φ,m,ow,S1⟩,ey,hR⟩:=qq
  subst ey
  obtain rfl:=S1.top.inv
  have S1:=S1.pop
  have XK:=X.HK.inn S1
  obtain ⟨f1,f2⟩:=X.HK.meth "__init__" (by decide +kernel)
  obtain ⟨fd,Kf,hsc,hb⟩:=X.init.ex
  refine callWith_of (P:=fun h => K.In h) rfl (keeps_K X.HK.keep) (evalArgs_nil3 ⟨XK,wpAny_call ?_⟩)
  obtain ⟨hh,g,dr,t,os⟩:=s1
  refine make_core (makes_of XK X.HK.makes) (looks_findIn XK f1) (fun self => bind_fn XK self (beq_iff_eq.mp f2)) (.inl rfl) ?_
  have hd0:hh.get? hh.objs.size = Option.none:=none_at_size hh
  have hx0:hh.get? (hh.objs.size + 1) = Option.none:=none_above (Nat.le_succ _)
  obtain ⟨d1,d2,d3,d4,d5,d6⟩:=S1.free hd0
  obtain ⟨x1,x2,x3,x4,x5,x6⟩:=S1.free hx0
  have G:Grow ⟨hh,g,dr,t,os⟩ ⟨(hh.push emptyDict).push (instObj hdrC hh.objs.size),g,dr,t,os⟩:=⟨fun b o e => Heap.get?_push_of_some _ (Heap.get?_push_of_some _ e),rfl,.rfl⟩
  have S2:=(((S1.grow G).add (.none)).add (.adr (hh.objs.size + 1)))
  have S3:StF Amb B env μ σ1 (rels [.ref (hh.objs.size + 1),.none] [.adr (hh.objs.size + 1),.none] ++ P) _ F φ m ow:=S2.drop fun q hq => by
    simp only [rels,List.zip_cons_cons,List.zip_nil_left,List.map_cons,List.map_nil,List.cons_append,List.nil_append,List.mem_cons] at hq ⊢
    rcases hq with e | e | e <;> simp [e]
  have hkn:∀ n ∈ (["self","headers"]:List Str),fd.scope.names.lookup n = some .local ∨ fd.scope.names.lookup n = some .cell:=fun n hn => by rw [hsc]; revert n; decide +kernel
  refine fn_raw (us:=[.ref (hh.objs.size + 1),.none]) (names:=["self","headers"]) (k:=1) X.H Kf (room_under hr) (by rw [hsc]; kernel_rfl) S1.amb S3.sub S3.sub (fun Q E q => hb prog w _ F _ [.ref (hh.objs.size + 1)] Q E S1.amb S3.sub rfl q) hkn fun env' s' he E' hr' x hc => ?_
  have hk':∀ n ∈ (["self","headers"]:List Str),env'.kindOf n = some .local ∨ env'.kindOf n = some .cell:=fun n hn => by rw [he]; exact hkn n hn
  have hfn:env'.func.isSome = true:=by rw [he]; rfl
  have hL:env'.locals = hh.objs.size + 2:=by rw [he]; show ((hh.push emptyDict).push (instObj hdrC hh.objs.size)).objs.size = _; rw [Heap.size_push,Heap.size_push]
  have T0:=S3.enter (env':=env') (names:=["self","headers"]) (rest:=["k","v"]) rfl rfl (by rw [he]; rfl) x (fun n v hm hn => bindL_get (by decide +kernel) hm hn) (fun n v hm hn => bindC_get (by decide +kernel) hm hn) hfn hk' hc
  have T1:=T0.rebaseH (h1:=hh) G.keep (fun l hl => by
    obtain ⟨i,hi,e⟩:=List.getElem_of_mem hl
    obtain ⟨es,he⟩:∃ es,σ1[i]? = some es:=⟨_,List.getElem?_eq_getElem (S1.len ▸ hi)⟩
    obtain ⟨_,q,_⟩:=S1.sto i l es (by rw [List.getElem?_eq_getElem hi,e]) he
    exact ⟨_,q⟩) (fun n lv h1 h2 => by
    obtain ⟨y,-,hm⟩:=mget_mu0 h1
    rcases h2 with h2 | ⟨_,h2⟩
    · rcases hk' n (List.of_mem_zip hm).1 with e | e <;> rw [h2] at e <;> cases e
    · rw [h2] at hfn; cases hfn)
  have above:∀ c,Env.isOwnCell env' c → hh.objs.size + 2 < c:=fun c ⟨_,n,h1,h2⟩ => hL ▸ x.above n c (mem_of_lookup h2)
  have gd:s'.heap.get? hh.objs.size = some edO:=x.toInCall.keep _ _ (Heap.get?_push_of_some _ (Heap.get?_push_size _ rfl))
  have gx:s'.heap.get? (hh.objs.size + 1) = some (hdrO hh.objs.size):=x.toInCall.keep _ _ (by
    have:=Heap.get?_push_size (hh.push emptyDict) (o:=instObj hdrC hh.objs.size) rfl
    rw [Heap.size_push] at this
    exact this)
  have T2:=(T1.hold (a:=hh.objs.size) (o:=edO) (mi:=true) gd d2 (by rw [hL]; exact Nat.ne_of_lt (Nat.lt_add_of_pos_right (by decide))) (fun q => by have:=above _ q; lia) (fun n h => nomatch h) fun _ => ⟨d1,hd0⟩).hold (a:=hh.objs.size + 1) (o:=hdrO hh.objs.size) (mi:=true) gx x2 (by rw [hL]; exact Nat.ne_of_lt (Nat.lt_succ_self _)) (fun q => by have:=above _ q; lia) (fun n h => nomatch h) fun _ => ⟨x1,hx0⟩
  refine init_run X E' (by rw [he]; exact hsc) hfn hr'.handled (Nat.succ_ne_self _) T2 fun s'' F' φ' m' ow' μ' T => ?_
  refine ⟨rfl,.hdr σ1.length,σ1 ++ [.lst []],⟨F',φ',m,ow,S1.leave T (fun u z hu => ?_) fun b o mi hb => ?_⟩,hR⟩
  · rcases List.mem_cons.mp hu with e | hu
    · cases e; exact .inr (by simp)
    · exact .inl hu
  · rcases List.mem_cons.mp hb with e | hb
    · cases e
    · exact hb
end
noncomputable def ltr (c:Nat) (up:Bool):Str:=⟨#[(if up then 65 else 97) + c]⟩
noncomputable def xs (n:Nat):Str:=⟨Array.replicate n 120⟩
noncomputable def dig (k:Nat):Str:=⟨#[48 + k]⟩
noncomputable def okN (x:Str):Prop:=∃ c,c < 4 ∧ ∃ up,x = ltr c up
noncomputable def okV (x:Str):Prop:=(∃ n,n ≤ 16 ∧ x = xs n) ∨ ∃ k,k < 4 ∧ x = dig k
theorem lower_ltr {c:Nat} (hc:c < 4) (up:Bool):Txt.lower (ltr c up) = ltr c false:=by
  have:∀ c,c < 4 → ∀ up,Txt.lower (ltr c up) = ltr c false:=by decide +kernel
  exact this c hc up
theorem upper_ltr {c:Nat} (hc:c < 4) (up:Bool):Txt.upper (ltr c up) = ltr c true:=by
  have:∀ c,c < 4 → ∀ up,Txt.upper (ltr c up) = ltr c true:=by decide +kernel
  exact this c hc up
theorem ltr_beq (c d:Nat) (u:Bool):(ltr c u == ltr d u) = (c == d):=by
  rw [Bool.eq_iff_iff,beq_iff_eq,beq_iff_eq]
  constructor
  · intro h
    have:=congrArg Str.cps h
    simp only [ltr,Array.mk.injEq,List.cons.injEq,and_true] at this
    lia
  · rintro rfl; rfl
theorem xs_length (n:Nat):(xs n).length = n:=by simp [xs,Str.length]
theorem xs_snoc (n:Nat):xs n ++ ("x":Str) = xs (n + 1):=by
  have h1:("x":Str) = ⟨#[120]⟩:=by decide +kernel
  rw [h1]
  show Str.mk _ = Str.mk _
  simp [xs,Str.append,Array.replicate_succ]
noncomputable def tabE (ps:List (Nat × Bool)) (f:Nat → Nat):List (Str × Str):=ps.map fun p => (ltr p.1 p.2,xs (f p.1))
structure PsOk (size:Nat) (ps:List (Nat × Bool)):Prop where
  perm:(ps.map (·.1)).Perm (List.range size)
theorem PsOk.lt {size:Nat} {ps:List (Nat × Bool)} (h:PsOk size ps) {p:Nat × Bool} (hp:p ∈ ps):p.1 < size:=List.mem_range.mp (h.perm.mem_iff.mp (List.mem_map.mpr ⟨p,hp,rfl⟩))
theorem PsOk.nodup {size:Nat} {ps:List (Nat × Bool)} (h:PsOk size ps):(ps.map (·.1)).Nodup:=h.perm.nodup_iff.mpr List.nodup_range
theorem PsOk.length {size:Nat} {ps:List (Nat × Bool)} (h:PsOk size ps):ps.length = size:=by have:=h.perm.length_eq; simpa using this
theorem tabE_short (ps:List (Nat × Bool)) (f:Nat → Nat):shortE (tabE ps f):=by
  intro p hp
  obtain ⟨q,hq,rfl⟩:=List.mem_map.mp hp
  show (1:Nat) ≤ 1000
  decide
theorem tabE_length (ps:List (Nat × Bool)) (f:Nat → Nat):(tabE ps f).length = ps.length:=by simp [tabE]
theorem getH_tabE {size:Nat} (hs:size ≤ 4) {f:Nat → Nat} {c:Nat}:∀ {ps:List (Nat × Bool)},(∀ p ∈ ps,p.1 < size) → getH (tabE ps f) (ltr c false) = if c ∈ ps.map (·.1) then .str (xs (f c)) else .none
  | [],_ => by simp [tabE,getH]
  | p :: r,h => by
    have hp:=h p (by simp)
    have e:(Txt.lower (ltr p.1 p.2) == ltr c false) = (p.1 == c):=by rw [lower_ltr (by lia),ltr_beq]
    have ih:=getH_tabE hs (f:=f) (c:=c) (ps:=r) fun q hq => h q (by simp [hq])
    by_cases hc:p.1 = c
    · subst hc
      simp only [tabE,List.map_cons,getH,List.find?_cons,e,beq_self_eq_true,List.mem_cons,true_or,if_true]
    · have hcb:(p.1 == c) = false:=by simpa using hc
      have hc':c ≠ p.1:=fun h => hc h.symm
      simp only [tabE,List.map_cons,getH,List.find?_cons,e,hcb,List.mem_cons,hc',false_or] at ih ⊢
      exact ih
theorem delE_tabE {size:Nat} (hs:size ≤ 4) {f:Nat → Nat} {c:Nat}:∀ {ps:List (Nat × Bool)},(∀ p ∈ ps,p.1 < size) → delE (tabE ps f) (ltr c false) = tabE (ps.filter fun p => p.1 != c) f
  | [],_ => rfl
  | p :: r,h => by
    have hp:=h p (by simp)
    have e:(Txt.lower (ltr p.1 p.2) != ltr c false) = (p.1 != c):=by simp only [bne,lower_ltr (show p.1 < 4 by lia),ltr_beq]
    have ih:=delE_tabE hs (f:=f) (c:=c) (ps:=r) fun q hq => h q (by simp [hq])
    simp only [tabE,delE,List.map_cons,List.filter_cons,e] at ih ⊢
    split
    · rw [List.map_cons,ih]
    · exact ih
noncomputable def movP (ps:List (Nat × Bool)) (c:Nat) (up:Bool):List (Nat × Bool):=(ps.filter fun p => p.1 != c) ++ [(c,up)]
theorem PsOk.mov {size:Nat} {ps:List (Nat × Bool)} (h:PsOk size ps) {c:Nat} (hc:c < size) (up:Bool):PsOk size (movP ps c up):=by
  refine ⟨?_⟩
  have hm:c ∈ ps.map (·.1):=h.perm.mem_iff.mpr (List.mem_range.mpr hc)
  refine List.Perm.trans ?_ h.perm
  have e:(movP ps c up).map (·.1) = (ps.map (·.1)).filter (· != c) ++ [c]:=by
    simp only [movP,List.map_append,List.map_cons,List.map_nil,List.filter_map]
    rfl
  rw [e]
  have hn:=h.nodup
  refine List.Perm.trans (List.perm_append_comm) ?_
  show (c :: (ps.map (·.1)).filter (· != c)).Perm _
  rw [show (ps.map (·.1)).filter (· != c) = (ps.map (·.1)).erase c from (hn.erase_eq_filter c).symm]
  exact (List.perm_cons_erase hm).symm
theorem mov_tabE {size:Nat} (hs:size ≤ 4) {f g:Nat → Nat} {c:Nat} {up:Bool} {n:Nat} {ps:List (Nat × Bool)} (h:∀ p ∈ ps,p.1 < size) (hg:∀ d,d ≠ c → g d = f d) (hn:g c = n) :
    delE (tabE ps f) (ltr c false) ++ [(ltr c up,xs n)] = tabE (movP ps c up) g:=by
  rw [delE_tabE hs h]
  simp only [tabE,movP,List.map_append,List.map_cons,List.map_nil,hn]
  congr 1
  refine List.map_congr_left fun p hp => ?_
  have:=(List.mem_filter.mp hp).2
  rw [hg p.1 (by simpa using this)]
section
variable {prog:Program} {w:World} {Amb:Fz → Prop} {A:Around} {B:Base} {env env':Env} {μ μ':Mu} {σ σ':Sg} {mg mb:Str → Option Value} {at_:Str → Addr} {sc:Scope} {K:Frag} {mf:Str → Addr}
theorem WE.ssliceT {value:PySem.Expr} {lower upper:Option PySem.Expr} {p pos:Pos} {R:V → Sg → Prop}
    (h:WE prog w Amb A B env μ σ value (fun x σ1 => WPt prog w Amb A B env μ σ1 lower (fun lo σ2 => WPt prog w Amb A B env μ σ2 upper (fun hi σ3 => ∃ y,x = .str y ∧ y.length ≤ sizeLine ∧ R (.str (Txt.slice y lo hi)) σ3)))):WE prog w Amb A B env μ σ (.Subscript value (.Slice lower upper Option.none p) pos) R:=by
  intro P s S
  refine PyProof.Rows.Subscript_ (wpAny_mono (h P s S) (fun o s1 qq => ?_) fun _ _ x => x)
  obtain ⟨x,σ1,S1,h1⟩:=qq
  refine wpAny_Slice (wpAny_mono (h1 _ s1 S1) (fun vl s2 qq => ?_) fun _ _ x => x)
  obtain ⟨lo,σ2,pl,S2,h2⟩:=qq
  refine wpAny_mono (h2 _ s2 S2) (fun vu s3 qq => ?_) fun _ _ x => x
  obtain ⟨hi,σ3,pu,S3,y,e,hz,hR⟩:=qq
  refine wpAny_evalPart_none ?_
  subst e
  obtain ⟨F,φ,m,ow,S3⟩:=S3
  obtain ⟨l,rfl,e2⟩:=isPart_part pl
  obtain ⟨u,rfl,e4⟩:=isPart_part pu
  obtain ⟨t,rfl⟩:=S3.top.inv
  refine tail_any (T:="str") (ops:=[.ref s3.heap.objs.size,.str y t]) (typeIs_str _ y t) slot_str_getitem.lookup (wpAny_getItem_str_slice (l:=l) (u:=u) (st:=Option.none) ⟨_,Heap.get?_push_size _ rfl,rfl,rfl⟩ rfl ?_) (by rfl)
  subst e2 e4
  refine post_val_or_str ⟨Nat.le_trans (Txt.slice_le y _ _) hz,fun t' k => ?_⟩
  exact ⟨_,σ3,⟨F,φ,m,ow,(S3.pop.grow (s':={ s3 with heap:=s3.heap.push _,toks:=k }) ⟨fun b o hb => Heap.get?_push_of_some _ hb,rfl,.rfl⟩).add (.str _ _)⟩,hR⟩
theorem WE.lsliceT {value:PySem.Expr} {lower upper:Option PySem.Expr} {p pos:Pos} {R:V → Sg → Prop} (H:AmbOk prog w Amb mg mb)
    (h:WE prog w Amb A B env μ σ value (fun x σ1 => WPt prog w Amb A B env μ σ1 lower (fun lo σ2 => WPt prog w Amb A B env μ σ2 upper (fun hi σ3 => ∃ xs ys,x = .list xs ∧ xs.length ≤ sizeLine ∧ slPick xs lo hi = .some ys ∧ R (.list ys) σ3)))):WE prog w Amb A B env μ σ (.Subscript value (.Slice lower upper Option.none p) pos) R:=by
  intro P s S
  refine PyProof.Rows.Subscript_ (wpAny_mono (h P s S) (fun o s1 qq => ?_) fun _ _ x => x)
  obtain ⟨x,σ1,S1,h1⟩:=qq
  refine wpAny_Slice (wpAny_mono (h1 _ s1 S1) (fun vl s2 qq => ?_) fun _ _ x => x)
  obtain ⟨lo,σ2,pl,S2,h2⟩:=qq
  refine wpAny_mono (h2 _ s2 S2) (fun vu s3 qq => ?_) fun _ _ x => x
  obtain ⟨hi,σ3,pu,S3,xs,ys,e,hz,hp,hR⟩:=qq
  refine wpAny_evalPart_none ?_
  subst e
  obtain ⟨F,φ,m,ow,S3⟩:=S3
  obtain ⟨l,us,n,rfl,hF,hL⟩:=S3.top.inv
  have e1:=hL.length
  simp only [Array.length_toList] at e1
  have hli:Heap.IsList (s3.heap.push { cls:=.type "slice",data:=.fields #[vl,vu,.none] }) l us:=⟨_,Heap.get?_push_of_some _ (S3.sub _ _ hF),rfl,_,rfl⟩
  have T0:=S3.grow (s':={ s3 with heap:=s3.heap.push { cls:=.type "slice",data:=.fields #[vl,vu,.none] } }) (Grow.push _ _)
  refine tail_any (ops:=[.ref s3.heap.objs.size,.ref l]) hli.typeIs slot_list_getitem.lookup (wpAny_getItem_list_slice hli (Heap.IsSliceOf.new ..) pl pu .none (by simp) ?_ (by lia)) (by rfl)
  obtain ⟨F',T⟩:=T0.pop.newList (tk:=s3.toks) H (vs:=(slicePick us lo hi Option.none).toList) (slPick_rel hL hp) 0
  exact ⟨_,_,⟨F',φ,m,ow,T⟩,hR⟩
theorem set_concat {α:Type} (l:List α) (a b:α):(l ++ [a]).set l.length b = l ++ [b]:=by simp
theorem abcd_slice {size:Nat} (hs:size = 3 ∨ size = 4):Txt.slice ("abcd":Str) Option.none (some (size:Int)) = ⟨((List.range size).map fun i => 97 + i).toArray⟩:=by
  rcases hs with rfl | rfl <;> decide +kernel
theorem ABCD_slice {size:Nat} (hs:size = 3 ∨ size = 4):Txt.slice ("ABCD":Str) Option.none (some (size:Int)) = ⟨((List.range size).map fun i => 65 + i).toArray⟩:=by
  rcases hs with rfl | rfl <;> decide +kernel
theorem abcd_at {c:Nat} (hc:c < 4) (up:Bool):(Option.bind (seqIndex? (c:Int) (if up then ("ABCD":Str) else ("abcd":Str)).length) fun j => (if up then ("ABCD":Str) else ("abcd":Str)).cps[j]?) = some ((if up then 65 else 97) + c):=by
  have:∀ c,c < 4 → ∀ up:Bool,(Option.bind (seqIndex? ((c:Nat):Int) (if up then ("ABCD":Str) else ("abcd":Str)).length) fun j => (if up then ("ABCD":Str) else ("abcd":Str)).cps[j]?) = some ((if up then 65 else 97) + c):=by decide +kernel
  exact this c hc up
theorem tabE_snoc (ps:List (Nat × Bool)) (q:Nat × Bool) (f:Nat → Nat):tabE (ps ++ [q]) f = tabE ps f ++ [(ltr q.1 q.2,xs (f q.1))]:=by simp [tabE]
theorem range_ok (size:Nat):PsOk size ((List.range size).map fun i => (i,false)):=⟨by rw [List.map_map]; simp [Function.comp_def]⟩
@[reducible] noncomputable def muW (cs:List Nat) (size n:Nat) (letter t:Option LV):Mu:=[("columns",some (.v (.list (cs.map fun c => .int (c:Nat))))),("size",some (.v (.int (size:Nat)))),("table",some (.v (.hdr n))),("letter",letter),("t",t)]
theorem wished_body (X:HAll prog w Amb mg mb at_ mf K okN okV) (hH:at_ "Headers" = hdrC) (E':EnvOk env) (hs:env.scope = fnScope 27) (hfn:env.func.isSome = true) (hr:Room A 4) {cs:List Nat} {size:Nat} {R:Fl → Mu → Sg → Prop} (hsz:size = 3 ∨ size = 4) (hcs:∀ c ∈ cs,c < size) (hlen:cs.length ≤ 16)
    (hR:∀ μ' ps,PsOk size ps → R (.ret (.hdr σ.length)) μ' (σ ++ [.lst (tabE ps fun c => cs.count c)])) :
    WS prog w Amb A B env (mu0 ["columns","size"] [.list (cs.map fun c => .int (c:Nat)),.int (size:Nat)] ["table","letter","t"]) σ (fnBody 27) R:=by
  have hh:=hr.handled
  have H:=X.H
  have T:=X.T
  have hs4:size ≤ 4:=by lia
  have hr3:Room A 3:=hr.less (by decide)
  have hr2:Room A 2:=hr.less (by decide)
  have hzz:sizeLine = 16777216:=by decide
  obtain ⟨fds,Ks,_,_⟩:=X.setdef.ex
  obtain ⟨fdg,Kg,_,_⟩:=X.get.ex
  refine WS.cons ?_
  refine W1.assign E' (stor_of hs hfn (by kernel_rfl)) ?_ (by rfl)
  refine WE.hnew X hr3 ?_ (by rfl)
  refine WE.gl H E' hs (by kernel_rfl) (T.own _ (by decide +kernel)) (.adr _) ⟨by rw [hH],?_⟩
  refine WS.cons ?_
  refine W1.forR hh (WE.ssliceT (WE.str (WPt.none (WPt.some (WE.nm E' hs (by kernel_rfl) rfl ⟨_,rfl,_,rfl,by decide +kernel,?_⟩))))) (by intro x; rfl)
  rw [abcd_slice hsz]
  refine ⟨(List.range size).map fun i => V.str (ltr i false),by simp [iterItems,ltr],trivial,fun i μ' σ' => σ' = σ ++ [.lst (tabE ((List.range i).map fun i => (i,false)) fun _ => 0)] ∧ ∃ l t:Option LV,
    μ' = muW cs size σ.length l t,⟨rfl,none,none,rfl⟩,?_,?_⟩
  · rintro R1 i x μ' σ' q1 _ hi ⟨rfl,l,t,rfl⟩
    rw [List.getElem?_map] at hi
    obtain ⟨j,hj,rfl⟩:=Option.map_eq_some_iff.mp hi
    have hij:i < size ∧ j = i:=by
      have:=List.getElem?_eq_some_iff.mp hj
      simp only [List.length_range,List.getElem_range] at this
      obtain ⟨a,b⟩:=this
      exact ⟨a,b.symm⟩
    obtain ⟨hi4,rfl⟩:=hij
    have hlt:∀ p ∈ (List.range j).map fun i => (i,false),p.1 < size:=fun p hp => by
      obtain ⟨q,hq,rfl⟩:=List.mem_map.mp hp
      have:=List.mem_range.mp hq
      show q < size
      lia
    refine AT.name E' (stor_of hs hfn (by kernel_rfl)) ?_
    refine WS.cons ?_
    refine W1.expr ?_ (by rfl) (inter hs (by kernel_rfl))
    refine WE.hmeth X.HK (by decide +kernel) Ks (WE.nm E' hs (by kernel_rfl) rfl ⟨σ.length,rfl,WAs.cons (WE.nm E' hs (by kernel_rfl) rfl (WAs.cons (WE.str (WAs.nil ?_))))⟩) (by rfl) (by rfl) (by rfl) (by rfl)
    refine hdef_call X hr3 (es:=tabE ((List.range j).map fun i => (i,false)) fun _ => 0) List.getElem?_concat_length (by rw [tabE_length]; simp; lia) (tabE_short _ _) (by show (1:Nat) ≤ 1000; decide) ⟨j,by lia,false,lower_ltr (by lia) _⟩ ⟨j,by lia,false,rfl⟩ (.inl ⟨0,by lia,by decide +kernel⟩) ?_ fun z => ?_
    · rw [lower_ltr (by lia),getH_tabE hs4 hlt,if_neg]
      simp
    · refine WS.nil (q1 _ _ ⟨?_,_,_,rfl⟩)
      rw [set_concat]
      rw [List.range_succ,List.map_append,List.map_cons,List.map_nil,tabE_snoc]
      have:(("":Str)) = xs 0:=by decide +kernel
      rw [this]
  · rintro μ' σ' ⟨rfl,l,t,rfl⟩
    rw [List.length_map,List.length_range]
    refine WS.cons ?_
    refine W1.forR hh ?_ (by intro x; rfl)
    refine WE.callb (WE.bl H E' hs (by kernel_rfl) T.range (.ty _) ⟨_,.ty _,WAs.cons ?_⟩) (by rfl)
    refine WE.callb (WE.bl H E' hs (by kernel_rfl) T.len (.bi _) ⟨_,.bi _,WAs.cons (WE.nm E' hs (by kernel_rfl) rfl (WAs.nil (WC.len_list (by simp; lia) (WAs.nil (WC.range1 H ?_)))))⟩) (by rfl)
    refine ⟨(List.range cs.length).map fun i => .int (0 + (i:Nat)),by simp [iterItems],fits0 (by simp; lia),fun i μ' σ' => ∃ ps,PsOk size ps ∧ σ' = σ ++ [.lst (tabE ps fun c => (cs.take i).count c)] ∧ ∃ l t:Option LV,
      μ' = muW cs size σ.length l t,⟨_,range_ok size,by simp,l,t,rfl⟩,?_,?_⟩
    · rintro R1 i x μ' σ' q1 _ hi ⟨ps,hps,rfl,l,t,rfl⟩
      rw [List.getElem?_map] at hi
      obtain ⟨j,hj,rfl⟩:=Option.map_eq_some_iff.mp hi
      have hij:i < cs.length ∧ j = i:=by
        have:=List.getElem?_eq_some_iff.mp hj
        simp only [List.length_range,List.getElem_range] at this
        obtain ⟨a,b⟩:=this
        exact ⟨a,b.symm⟩
      obtain ⟨hi4,rfl⟩:=hij
      obtain ⟨c,hc⟩:∃ c,cs[j]? = some c:=⟨_,List.getElem?_eq_getElem hi4⟩
      have hcm:c ∈ cs:=List.mem_of_getElem? hc
      have hcs':=hcs c hcm
      have hc4:c < 4:=by lia
      have hcol:(cs.map fun c => V.int (c:Nat))[(0 + (j:Int)).toNat]? = some (.int (c:Nat)):=by
        rw [List.getElem?_map,show (0 + (j:Int)).toNat = j by lia,hc]; rfl
      have htk:cs.take (j + 1) = cs.take j ++ [c]:=by
        rw [List.take_succ_eq_append_getElem hi4,(List.getElem?_eq_some_iff.mp hc).2]
      have hcnt:(cs.take j).count c ≤ j:=by
        have:=List.count_le_length (a:=c) (l:=cs.take j)
        rw [List.length_take] at this
        lia
      have hmem:c ∈ ps.map (·.1):=hps.perm.mem_iff.mpr (List.mem_range.mpr hcs')
      have hlt:∀ p ∈ ps,p.1 < size:=fun p hp => hps.lt hp
      refine AT.name E' (stor_of hs hfn (by kernel_rfl)) ?_
      refine WS.cons ?_
      refine W1.assign E' (stor_of hs hfn (by kernel_rfl)) (WE.mono (R:=fun y σ1 => ∃ up,y = .str (ltr c up) ∧ σ1 = σ ++ [.lst (tabE ps fun c => (cs.take j).count c)]) ?_ fun y σ1 ⟨up,ey,es⟩ => ?_) (by rfl)
      · refine WE.sub (WE.ifexp (WB.cmp' (WE.bin (WE.nm E' hs (by kernel_rfl) rfl (WE.int (OpB.mod_int hh (by decide) (WE.int (OpC.eq_int ⟨_,.bool _,?_⟩)))))) (by rfl)))
        split
        · refine WE.str (WE.sub (WE.nm E' hs (by kernel_rfl) rfl (WE.nm E' hs (by kernel_rfl) rfl (OpS.list rfl (.inl ⟨by lia,rfl⟩) (by lia) hcol (OpS.str rfl (by lia) (abcd_at hc4 false) ⟨false,rfl,rfl⟩)))))
        · refine WE.str (WE.sub (WE.nm E' hs (by kernel_rfl) rfl (WE.nm E' hs (by kernel_rfl) rfl (OpS.list rfl (.inl ⟨by lia,rfl⟩) (by lia) hcol (OpS.str rfl (by lia) (abcd_at hc4 true) ⟨true,rfl,rfl⟩)))))
      · subst ey es
        refine WS.cons ?_
        refine W1.hset X.HK ?_ (by rfl)
        refine WE.bin (WE.hmeth X.HK (by decide +kernel) Kg (WE.nm E' hs (by kernel_rfl) rfl ⟨σ.length,rfl,WAs.cons ?_⟩) (by rfl) (by rfl) (by rfl) (by rfl))
        refine WE.sub (WE.str (WE.sub (WE.nm E' hs (by kernel_rfl) rfl (WE.nm E' hs (by kernel_rfl) rfl (OpS.list rfl (.inl ⟨by lia,rfl⟩) (by lia) hcol (OpS.str rfl (by lia) (abcd_at hc4 true) (WAs.nil ?_)))))))
        refine hget_call X hr2 (x:=ltr c true) (es:=tabE ps fun c => (cs.take j).count c) List.getElem?_concat_length (tabE_short _ _) (by show (1:Nat) ≤ 1000; decide) ⟨c,hc4,false,lower_ltr hc4 _⟩ ?_
        rw [lower_ltr hc4,getH_tabE hs4 hlt,if_pos hmem]
        refine WE.str (OpB.add_str (by rw [xs_length,hzz]; show _ + 1 ≤ _; lia) ?_)
        rw [xs_snoc]
        refine WE.nm E' hs (by kernel_rfl) rfl ⟨σ.length,rfl,WE.nm E' hs (by kernel_rfl) rfl ?_⟩
        refine hset_call X hr3 (es:=tabE ps fun c => (cs.take j).count c) List.getElem?_concat_length (by rw [tabE_length,hps.length]; lia) (tabE_short _ _) (by show (1:Nat) ≤ 1000; decide) ⟨c,hc4,false,lower_ltr hc4 _⟩ ⟨c,hc4,up,rfl⟩ (.inl ⟨_,by lia,rfl⟩) fun z => ?_
        refine WS.nil (q1 _ _ ⟨movP ps c up,hps.mov hcs' up,?_,_,_,rfl⟩)
        have hmv:=mov_tabE (f:=fun c => (cs.take j).count c) (g:=fun d => (cs.take (j + 1)).count d) (c:=c) (up:=up) (n:=(cs.take j).count c + 1) (ps:=ps) hs4 hlt (fun d hne => by
          show (cs.take (j + 1)).count d = (cs.take j).count d
          rw [htk,List.count_append,List.count_cons_of_ne (Ne.symm hne)]; simp) (by
          show (cs.take (j + 1)).count c = _
          rw [htk,List.count_append]; simp)
        rw [set_concat,lower_ltr hc4,hmv]
    · rintro μ' σ' ⟨ps,hps,rfl,l,t,rfl⟩
      rw [List.length_map,List.length_range,List.take_length]
      refine WS.cons ?_
      exact W1.ret (WE.nm E' hs (by kernel_rfl) rfl (hR _ ps hps))
end
section
variable {prog:Program} {w:World} {Amb:Fz → Prop} {A:Around} {B:Base} {env env':Env} {μ μ':Mu} {σ σ':Sg} {mg mb:Str → Option Value} {at_:Str → Addr} {sc:Scope} {K:Frag} {mf:Str → Addr}
theorem wished_call (X:HAll prog w Amb mg mb at_ mf K okN okV) (hH:at_ "Headers" = hdrC) (D:Def Amb (at_ "_law_wished") 27 ["columns","size"]) (hr:Room A 5) {cs:List Nat} {size:Nat} (hsz:size = 3 ∨ size = 4) (hcs:∀ c ∈ cs,c < size) (hlen:cs.length ≤ 16) {R:V → Sg → Prop}
    (h:∀ ps,PsOk size ps → R (.hdr σ.length) (σ ++ [.lst (tabE ps fun c => cs.count c)])):WC prog w Amb A B env μ σ (.ref (at_ "_law_wished")) [.list (cs.map fun c => .int (c:Nat)),.int (size:Nat)] R:=by
  refine WC.def_ (rest:=["table","letter","t"]) X.H D hr (by kernel_rfl) rfl (by decide +kernel) (by kernel_rfl) fun A' B' env' hr' K' hs' hf' => ?_
  exact wished_body (B:=B') X hH K' hs' hf' hr' hsz hcs hlen fun _ ps hps => ⟨_,.inl rfl,h ps hps⟩
end
noncomputable def lamE (p1 p2 p3 p4 p5 p6:Pos) (k:Nat):PySem.Expr:=.UnaryOp .USub (.Call (.Name "len" p1) [.Subscript (.Name "item" p2) (.Constant (.int 1) k p3) p4] [] p5) p6
section
variable {prog:Program} {w:World} {Amb:Fz → Prop} {A:Around} {B:Base} {env env':Env} {μ μ':Mu} {σ σ':Sg} {mg mb:Str → Option Value} {at_:Str → Addr} {sc:Scope} {K:Frag} {mf:Str → Addr}
variable {P P':List Pend} {s s' s₁:Shared} {F F':Fz} {φ φ':List Addr} {m m':Str → Option Value} {ow ow':List (Str × Addr)}
theorem lam_eval {p1 p2 p3 p4 p5 p6:Pos} {k:Nat} {T:Addr} {vs:Array Value} {n:Nat} {x:Str} {t:Tok} {mm:Str → Option Value} {Q:Value → Shared → Prop} {E:Value → Shared → Prop} (hk:env.scope.kind = .function) (hg0:env.globals = mainGlobals) (hb0:env.builtins = builtinsNs)
    (hlen:env.kindOf "len" = some .globalImplicit) (hit:env.kindOf "item" = some .local) (hns:s.heap.Ns env.locals mm) (hm:mm "item" = some (.ref T)) (hT:s.heap.get? T = some (tupO vs n)) (h2:vs.size = 2) (hv:vs[1]? = some (.str x t)) (hx:x.length < 2 ^ 62)
    (hg:s.heap.Ns mainGlobals mg) (hb:s.heap.Ns builtinsNs mb) (hT1:mg "len" = none ∧ mb "len" = some (.builtin "len"))
    (h:∀ tk t',Q (.int (-(x.length:Int)) t') { s with toks:=tk }):wpAny (model prog w) A (eval (lamE p1 p2 p3 p4 p5 p6 k) env) Q E s:=by
  unfold lamE
  refine wpAny_UnaryOp ?_
  rw [show eval (.Call (.Name "len" p1) [.Subscript (.Name "item" p2) (.Constant (.int 1) k p3) p4] [] p5) env = (do callWith p5 (← eval (.Name "len" p1) env) [] [(false,eval (.Subscript (.Name "item" p2) (.Constant (.int 1) k p3) p4) env)] []) from by rfl]
  refine wpAny_bind (Calls.Name_function_global hk hlen (Calls.loadGlobal_builtin (hg0 ▸ hg) hT1.1 (hb0 ▸ hb) hT1.2 ?_) (by kernel_rfl))
  refine callWith_plain (f:=.builtin "len") (first:=[]) (ts:=[eval (.Subscript (.Name "item" p2) (.Constant (.int 1) k p3) p4) env]) (ks:=[]) (.inl ⟨_,rfl⟩) ?_
  refine Calls.spliced_cons ?_
  refine PyProof.Rows.Subscript_ (wpAny_Name (wpAny_loadName_local hk hit hns hm ?_) (by kernel_rfl))
  refine wpAny_Constant_int ?_
  have hTu:IsTup s.heap T vs:=⟨_,hT,rfl,_,rfl⟩
  refine tail_any (T:="tuple") hTu.typeIs slot_tuple_getitem.lookup ?_ (subscripted_plain (by rfl) _ _)
  refine getItem_tuple (j:=1) hTu (by lia) (by lia) (by rw [h2]; decide +kernel) hv ?_
  refine Calls.spliced_nil (wpAny_evalAll_nil ⟨(fun a e => nomatch e),?_⟩)
  refine PyProof.Rows.len_str (by lia) ?_
  exact PyProof.Rows.neg_int (h _ _)
end
section
variable {prog:Program} {w:World} {Amb:Fz → Prop} {A:Around} {B:Base} {env env':Env} {μ μ':Mu} {σ σ':Sg} {mg mb:Str → Option Value} {at_:Str → Addr} {sc:Scope} {K:Frag} {mf:Str → Addr}
variable {P P':List Pend} {s s' s₁:Shared} {F F':Fz} {φ φ':List Addr} {m m':Str → Option Value} {ow ow':List (Str × Addr)}
structure LamOk (params:Arguments) (scope:Scope):Prop where
  co:scope.isCoroutine = false
  gen:scope.isGenerator = false
  kind:scope.kind = .function
  item:scope.names.lookup ("item":Str) = some .local
  len:scope.names.lookup ("len":Str) = some .globalImplicit
  cell:∀ x ∈ scope.names,x.2 ≠ .cell
  bind:∀ (name qual:Str) (body:PySem.Expr) (pm cd ct v:Value),bindArgs (kla_fn name qual params body scope [] pm cd ct) ⟨[v],[]⟩ = pure [(("item":Str),v)]
theorem lam_call {p1 p2 p3 p4 p5 p6:Pos} {k:Nat} {f c':Addr} {name qual:Str} {params:Arguments} {scope:Scope} {pm ctv:Value} {T:Addr} {vs:Array Value} {n:Nat} {x:Str} {t:Tok} {Q:Value → Shared → Prop} {E:Value → Shared → Prop} (L:LamOk params scope)
    (hroom:A.depth < recursionLimit) (ho:s.heap.get? f = some (kla_obj name qual params (lamE p1 p2 p3 p4 p5 p6 k) scope [] pm c' ctv)) (hcd:s.heap.CodeRec (.ref c') qual) (hnl:s.heap.NoLimit)
    (hT:s.heap.get? T = some (tupO vs n)) (h2:vs.size = 2) (hv:vs[1]? = some (.str x t)) (hx:x.length < 2 ^ 62)
    (hg:s.heap.Ns mainGlobals mg) (hb:s.heap.Ns builtinsNs mb) (hT1:mg "len" = none ∧ mb "len" = some (.builtin "len"))
    (h:∀ h' tk t',(∀ b o,s.heap.get? b = some o → h'.get? b = some o) → Q (.int (-(x.length:Int)) t') { s with heap:=h',toks:=tk }):wpAny (model prog w) A (call (.ref f) [.ref T]) Q E s:=by
  refine wpAny_call (kla_callFunE hroom ho rfl L.co L.gen rfl hcd ?_)
  rw [L.bind]
  refine wpAny_pure (wpAny_newFunctionEnv L.cell (by intro y hy; rw [List.mem_singleton] at hy; subst hy; exact L.item) (fun h₁ hns hsb => ⟨hnl.fresh _ hsb,?_⟩) L.kind)
  have hk₁:∀ b o,s.heap.get? b = some o → h₁.get? b = some o:=fun b o e => hsb.extBut b o (Nat.ne_of_lt (Heap.lt_size e)) (Heap.get?_push_of_some _ e)
  show codeAny _ _ (.expr (lamE p1 p2 p3 p4 p5 p6 k) (envX qual scope s.heap.objs.size f (.ref c') [])) _ _
  refine kla_codeExpr (lam_eval (mm:=_) L.kind rfl rfl L.len L.item hns ?_ (hk₁ _ _ hT) h2 hv hx (hg.keeps hk₁) (hb.keeps hk₁) hT1 fun tk t' => ?_)
  · simp [List.lookup]
  · exact h _ _ _ hk₁
theorem perm_map_inv {α β:Type} {f:α → β} {a b:List β} (h:a.Perm b):∀ l:List α,b = l.map f → ∃ l':List α,l'.Perm l ∧ a = l'.map f:=by
  induction h with
  | nil => intro l e; exact ⟨l,.refl _,e⟩
  | cons x h ih =>
    intro l e
    cases l with
    | nil => cases e
    | cons y l =>
      simp only [List.map_cons,List.cons.injEq] at e
      obtain ⟨rfl,e⟩:=e
      obtain ⟨l',p,rfl⟩:=ih l e
      exact ⟨y :: l',p.cons y,rfl⟩
  | swap x y l0 =>
    intro l e
    match l,e with
    | [],e => cases e
    | [_],e => simp at e
    | u :: v :: l,e =>
      simp only [List.map_cons,List.cons.injEq] at e
      obtain ⟨rfl,rfl,rfl⟩:=e
      exact ⟨v :: u :: l,.swap ..,rfl⟩
  | trans h1 h2 ih1 ih2 =>
    intro l e
    obtain ⟨l1,p1,e1⟩:=ih2 l e
    obtain ⟨l2,p2,e2⟩:=ih1 l1 e1
    exact ⟨l2,p2.trans p1,e2⟩
end
noncomputable def allNews (h:Heap) (L:Addr):List (Addr × Obj):=(List.range h.objs.size).filterMap fun a => if a = L then none else (h.get? a).map fun o => (a,o)
theorem mem_allNews {h:Heap} {L a:Addr} {o:Obj}:(a,o) ∈ allNews h L ↔ a ≠ L ∧ h.get? a = some o:=by
  unfold allNews
  rw [List.mem_filterMap]
  constructor
  · rintro ⟨b,-,e⟩
    set_option tactic.hygienic true in split at e
    · cases e
    · rename_i hb
      obtain ⟨o',h1,h2⟩:=Option.map_eq_some_iff.mp e
      cases h2
      exact ⟨hb,h1⟩
  · rintro ⟨h1,h2⟩
    exact ⟨a,List.mem_range.mpr (Heap.lt_size h2),by rw [if_neg h1,h2]; rfl⟩
theorem zip_swap (g:Str × Str → Int):∀ (vs:List Value) (es:List (Str × Str)),(es.map g).zip vs = (vs.zip es).map fun q => (g q.2,q.1)
  | [],[] => rfl
  | [],_ :: _ => rfl
  | _ :: _,[] => rfl
  | v :: vs,e :: es => by simp only [List.map_cons,List.zip_cons_cons,zip_swap g vs es]
theorem relL_pairs {F:Fz} {φ:List Addr}:∀ {L:List (Value × (Str × Str))},(∀ q ∈ L,Rel F φ q.1 (pairV q.2)) → RelL F φ (L.map (·.1)) ((L.map (·.2)).map pairV)
  | [],_ => .nil
  | q :: r,h => .cons (h q (by simp)) (relL_pairs fun p hp => h p (by simp [hp]))
theorem pairs_relL {F:Fz} {φ:List Addr} {vs:List Value} {es:List (Str × Str)} (h:RelL F φ vs (es.map pairV)):∀ q ∈ vs.zip es,Rel F φ q.1 (pairV q.2):=by
  have key:=h.ind (M:=fun vs xs => ∀ es,xs = es.map pairV → ∀ q ∈ vs.zip es,Rel F φ q.1 (pairV q.2)) (fun es e q hq => nomatch hq) fun r rs ih es e q hq => by
    cases es with
    | nil => cases hq
    | cons a es =>
      cases e
      rcases List.mem_cons.mp hq with rfl | hq
      · exact r
      · exact ih es rfl q hq
  exact key es rfl
section
variable {prog:Program} {w:World} {Amb:Fz → Prop} {A:Around} {B:Base} {env env':Env} {μ μ':Mu} {σ σ':Sg} {mg mb:Str → Option Value} {at_:Str → Addr} {sc:Scope} {K:Frag} {mf:Str → Addr}
variable {P P':List Pend} {s s' s₁:Shared} {F F':Fz} {φ φ':List Addr} {m m':Str → Option Value} {ow ow':List (Str × Addr)}
theorem StF.regrow {h':Heap} {tk:Nat} (S:StF Amb B env μ σ P s F φ m ow) (k:∀ b o,b ≠ env.locals → s.heap.get? b = some o → h'.get? b = some o) (hn:h'.Ns env.locals m):StF Amb B env μ σ P { s with heap:=h',toks:=tk } F φ m ow where
  amb:=S.amb
  sub:=fun a o h => k _ _ (fun e => by rw [e,S.locF.1] at h; cases h) (S.sub a o h)
  ext:=S.ext
  new:=S.new
  phi:=S.phi
  phin:=S.phin
  phi0:=S.phi0
  keep:=fun b o h hb => k _ _ (fun e => by rw [e,S.locF.2.2] at h; cases h) (S.keep b o h hb)
  os:=S.os
  gens:=S.gens
  gkeep:=S.gkeep
  nodup:=S.nodup
  phiF:=S.phiF
  len:=S.len
  sto:=fun i l es h1 h2 => let ⟨oo,a,b⟩:=S.sto i l es h1 h2; ⟨oo,k _ _ (fun e => S.locF.2.1 (e ▸ List.mem_of_getElem? h1)) a,b⟩
  ns:=hn
  locF:=S.locF
  loc:=fun x lv h1 h2 => by
    obtain ⟨v,a,b⟩:=S.loc x lv h1 h2
    refine ⟨v,a,?_⟩
    cases lv with
    | v y => exact b
    | own xs => obtain ⟨d,us,q,e1,e2,e3,e4⟩:=b; exact ⟨d,us,q,e1,e2,k _ _ (S.own x d e2).2.2.2.1 e3,e4⟩
  cel:=fun x lv h1 h2 h3 => let ⟨c,v,a,⟨o,b1,b2⟩,d⟩:=S.cel x lv h1 h2 h3; ⟨c,v,a,⟨o,k _ _ (S.cells c ⟨h3,x,h2,a⟩).2.2.2.1 b1,b2⟩,d⟩
  fre:=S.fre
  cells:=fun c h => let ⟨⟨v,o,a1,a2⟩,b⟩:=S.cells c h; ⟨⟨v,o,k _ _ b.2.2.1 a1,a2⟩,b⟩
  own:=fun x a h => let ⟨⟨o,q⟩,b⟩:=S.own x a h; ⟨⟨o,k _ _ b.2.2.1 q⟩,b⟩
  ownk:=S.ownk
  ownf:=S.ownf
  pend:=S.pend
  held:=fun a o mi h => let ⟨q,b⟩:=S.held a o mi h; ⟨k _ _ b.2.1 q,b⟩
theorem sorted_lam {p1 p2 p3 p4 p5 p6:Pos} {k:Nat} {l f c':Addr} {name qual:Str} {params:Arguments} {scope:Scope} {pm ctv:Value} {es:List (Str × Str)} (H:AmbOk prog w Amb mg mb) (Lm:LamOk params scope) (hr:Room A 1) (hT1:mg "len" = none ∧ mb "len" = some (.builtin "len"))
    (S:StF Amb B env μ σ P s F φ m ow) (r:Rel F φ (.ref l) (.list (es.map pairV))) (h64:es.length < 64) (hx:∀ p ∈ es,p.2.length ≤ 1000)
    (hf:F f = some (kla_obj name qual params (lamE p1 p2 p3 p4 p5 p6 k) scope [] pm c' ctv)) (hc:∃ oc vs t,F c' = some oc ∧ oc.data = .fields vs ∧ vs[1]? = some (.str qual t)) :
    wpAny (model prog w) A (call (.builtin "sorted") [.ref l] [("key",.ref f)]) (fun v s' => ∃ qs:List (Str × Str),qs.Perm es ∧ qs.Pairwise (fun p q => q.2.length ≤ p.2.length) ∧ St Amb B env μ σ (.rel v (.list (qs.map pairV)) :: P) s') nofail s:=by
  obtain ⟨_,us,n,e,hF,hL⟩:=r.inv
  cases e
  have hz:=hL.length
  simp only [List.length_map] at hz
  have e0:∀ b o,(default:Heap).get? b = some o → False:=fun b o e => by have:=Heap.lt_size e; exact absurd this (Nat.not_lt_zero _)
  have F0:Fr (default:Heap) env.locals s.heap m:=⟨S.ns,fun b o e => (e0 b o e).elim,Nat.zero_le _⟩
  have n0:∀ b,(default:Heap).get? b = none:=fun b => by
    cases e:(default:Heap).get? b with
    | none => rfl
    | some o => exact (e0 b o e).elim
  have N0:News (default:Heap) env.locals s.heap (allNews s.heap env.locals):=fun p hp => by
    obtain ⟨a,b⟩:=mem_allNews.mp (show (p.1,p.2) ∈ _ from hp)
    exact ⟨b,a,n0 _⟩
  have inF:∀ {a:Addr} {o:Obj},F a = some o → (a,o) ∈ allNews s.heap env.locals:=fun {a o} e => mem_allNews.mpr ⟨fun q => (by rw [q,S.locF.1] at e; cases e),S.sub _ _ e⟩
  refine ksk_sorted (h₀:=default) (L:=env.locals) (m:=m) (news:=allNews s.heap env.locals) (b:=false) (vs:=us.toList) (kz:=es.map fun p => -(p.2.length:Int)) (f:=.ref f) (kw:=[("key",.ref f)]) F0 N0
    (by rw [Array.toArray_toList]; exact ⟨_,S.sub _ _ hF,rfl,_,rfl⟩) (by simp [hz]) (by rw [hz]; exact h64) (ksk_s1 _ _) (fun x => ksk_l1 _ _) (fun x => ksk_t1 _ _) ?_ ?_
  · intro i v kk hv hk h tk own F1 N1
    have hFh:∀ a o,F a = some o → h.get? a = some o:=fun a o e => (N1 (a,o) (List.mem_append_left _ (inF e))).1
    rw [List.getElem?_map] at hk
    obtain ⟨p,hp,rfl⟩:=Option.map_eq_some_iff.mp hk
    obtain ⟨y,hy,rv⟩:=hL.get hv
    rw [List.getElem?_map,hp] at hy
    cases hy
    obtain ⟨T,vs,n2,rfl,hT,hTL⟩:=rv.inv
    obtain ⟨u1,u2,ev,r1,r2⟩:=relL_two hTL
    obtain ⟨t,rfl⟩:=r2.inv
    have hsz:vs.size = 2:=by rw [← Array.length_toList,ev]; rfl
    have hv1:vs[1]? = some (.str p.2 t):=by rw [← Array.getElem?_toList,ev]; rfl
    obtain ⟨oc,cv,tq,hc1,hc2,hc3⟩:=hc
    have hlen:=hx p (List.mem_of_getElem? hp)
    refine lam_call (s:={ s with heap:=h,toks:=tk }) Lm hr.deep (hFh _ _ hf) ⟨c',oc,cv,tq,rfl,hFh _ _ hc1,hc2,hc3⟩ (H.nolimit F h S.amb hFh) (hFh _ _ hT) hsz hv1 (by lia) (H.gns F h S.amb hFh) (H.bns F h S.amb hFh) hT1 fun h' tk' t' hk => ?_
    exact KskEnd.intro (s₁:={ s with heap:=h,toks:=tk }) (news':=allNews s.heap env.locals ++ own) ⟨F1.ns.keeps hk,fun b o e => (e0 b o e).elim,Nat.zero_le _⟩ (fun q hq => ⟨hk _ _ (N1 q hq).1,(N1 q hq).2⟩) fun q hq => hq
  · intro D h' tk out c F2 N2 hlt ⟨ps,hp,ho,hs⟩
    have hD:=N2 (D,seqObj "list" out c) (.head _)
    have hD0:s.heap.get? D = none:=by
      cases e:s.heap.get? D with
      | none => rfl
      | some o => exact absurd (hlt (D,o) (mem_allNews.mpr ⟨hD.2.1,e⟩)) (Nat.lt_irrefl _)
    obtain ⟨f1,f2,f3,f4,f5,f6⟩:=S.free hD0
    have S1:=S.regrow (tk:=tk) (fun b o hb e => (N2 (b,o) (.tail _ (mem_allNews.mpr ⟨hb,e⟩))).1) F2.ns
    have S2:=(S1.hold (a:=D) (o:=listO out c) (mi:=true) hD.1 f2 f3 f4 f5 fun _ => ⟨f1,f6⟩).freezeMine H.mono (fun o mi hm => by
      obtain ⟨q,_⟩:=S.held D o mi hm
      rw [hD0] at q; cases q)
    rw [zip_swap] at hp
    obtain ⟨L',hL',rfl⟩:=perm_map_inv hp _ rfl
    have hFF:=updF_keep (o:=listO out c) f1
    have hout:out.toList = L'.map (·.1):=by rw [ho,List.map_map]; rfl
    refine ⟨L'.map (·.2),?_,?_,_,φ,m,ow,S2.add (.list (vs:=out) (n:=c) updF_self ?_)⟩
    · have:=hL'.map (·.2)
      rw [List.map_snd_zip (by rw [hz]; exact Nat.le_refl _)] at this
      exact this
    · rw [List.pairwise_map] at hs ⊢
      refine hs.imp fun {a b} h => ?_
      simp only [Bool.false_eq_true,if_false] at h
      lia
    · rw [hout]
      exact relL_pairs fun q hq => (pairs_relL hL q (hL'.mem_iff.mp hq)).mono hFF fun _ _ h => h
end
section
variable {prog:Program} {w:World} {Amb:Fz → Prop} {A:Around} {B:Base} {env env':Env} {μ μ':Mu} {σ σ':Sg} {mg mb:Str → Option Value} {at_:Str → Addr} {sc:Scope} {K:Frag} {mf:Str → Addr}
variable {P P':List Pend} {s s' s₁:Shared} {F F':Fz} {φ φ':List Addr} {m m':Str → Option Value} {ow ow':List (Str × Addr)}
structure TabOk (mg:Str → Option Value) (Amb:Fz → Prop) (c P0:Addr):Prop where
  code:∀ (F:Fz) (h:Heap),Amb F → (∀ a o,F a = some o → h.get? a = some o) → CodeHd h c P0
  bt:∀ (F:Fz) (h:Heap),Amb F → (∀ a o,F a = some o → h.get? a = some o) → h.BuiltinsAt mg P0
  ne:mainGlobals ≠ P0
theorem mk_lam {c P0:Addr} {name qual:Str} {params:Arguments} {scope:Scope} {body:PySem.Expr} {lpos:Pos} {fl i0:Nat} {ps0:Array Value} {Q:Value → Shared → Prop} {E:Value → Shared → Prop} (H:AmbOk prog w Amb mg mb) (K:EnvOk env) (T:TabOk mg Amb c P0) (hcode:env.code = .ref c) (hcl:closureFor scope env = pure [])
    (S:StF Amb B env μ σ P s F φ m ow) (hφ:φ[i0]? = some P0) (hσ:σ[i0]? = some (.tab lpos qual ps0))
    (h:∀ f c' ctv s' F',(∀ a o,F a = some o → F' a = some o) → StF Amb B env μ σ P s' F' φ m ow → F' f = some (kla_obj name qual params body scope [] ((mg "__name__").getD .none) c' ctv) → (∃ oc vs t,F' c' = some oc ∧ oc.data = .fields vs ∧ vs[1]? = some (.str qual t)) → Q (.ref f) s') :
    wpAny (model prog w) A (makeFunction name qual params (.expr body) scope env [] [] [] lpos fl) Q E s:=by
  obtain ⟨oo,hP,more,rfl,ht,hca⟩:=S.sto i0 P0 _ hφ hσ
  have hg:=H.gns F s.heap S.amb S.sub
  rcases hca with hnf | ⟨c',oc,cv,t,hf,hc1,hc2,hc3⟩
  · refine kla_makeFunction hcl K.globals hg hcode (T.code F s.heap S.amb S.sub) hP ht hnf T.ne (T.bt F s.heap S.amb S.sub) fun c' ctv h' tk hx hge hlt hrec htb => ?_
    obtain ⟨c2,oc,cv,tq,e,hc1,hc2,hc3⟩:=hrec
    cases e
    have hP0:P0 < s.heap.objs.size:=Heap.lt_size hP
    have hcP:c' ≠ P0:=Nat.ne_of_gt (Nat.lt_of_lt_of_le hP0 hge)
    have hfP:h'.objs.size ≠ P0:=Nat.ne_of_gt (Nat.lt_trans (Nat.lt_of_lt_of_le hP0 hge) hlt)
    have hcf:c' ≠ h'.objs.size:=Nat.ne_of_lt hlt
    have hc0:s.heap.get? c' = none:=none_above hge
    have hf0:s.heap.get? h'.objs.size = none:=none_above (Nat.le_trans hge (Nat.le_of_lt hlt))
    obtain ⟨c1,c2,c3,c4,c5,c6⟩:=S.free hc0
    obtain ⟨f1,f2,f3,f4,f5,f6⟩:=S.free hf0
    generalize hfo:kla_obj name qual params body scope [] ((mg "__name__").getD .none) c' ctv = fo at *
    have hr0:(h'.push fo).get? P0 = some (tabObj (ps0 ++ more ++ #[rawInt lpos.line,rawInt lpos.col,.ref c'])):=Heap.get?_push_of_some _ htb
    have hm0:((h'.push fo).update P0 fun _ => tabObj (ps0 ++ more)).get? P0 = some (tabObj (ps0 ++ more)):=Heap.get?_update_self (fun _ => tabObj (ps0 ++ more)) hr0 rfl
    have hm1:∀ b,b ≠ P0 → ((h'.push fo).update P0 fun _ => tabObj (ps0 ++ more)).get? b = (h'.push fo).get? b:=fun b hb => Heap.get?_update_ne _ _ _ _ hb
    have G:Grow s { s with heap:=(h'.push fo).update P0 fun _ => tabObj (ps0 ++ more),toks:=tk }:=⟨fun b o e => by
      by_cases hb:b = P0
      · subst hb; rw [hP] at e; cases e; exact hm0
      · show Heap.get? _ b = _
        rw [hm1 b hb]; exact Heap.get?_push_of_some _ (hx b o hb e),rfl,.rfl⟩
    have S1:=S.grow G
    have S2:=S1.hold (a:=c') (o:=oc) (mi:=true) (by show Heap.get? _ c' = _; rw [hm1 _ hcP]; exact Heap.get?_push_of_some _ hc1) c2 c3 c4 c5 fun _ => ⟨c1,c6⟩
    have S3:=S2.freezeMine H.mono (fun o mi hm => by
      obtain ⟨q,_⟩:=S.held _ o mi hm
      rw [hc0] at q; cases q)
    have S4:=S3.hold (a:=h'.objs.size) (o:=fo) (mi:=true) (by show Heap.get? _ _ = _; rw [hm1 _ hfP]; exact Heap.get?_push_size _ (by rw [← hfo]; rfl)) f2 f3 f4 f5 fun _ => ⟨(if_neg (Ne.symm hcf)).trans f1,f6⟩
    have S5:=S4.freezeMine H.mono (fun o mi hm => by
      obtain ⟨q,_⟩:=S.held _ o mi hm
      rw [hf0] at q; cases q)
    have hsub:∀ a o,F a = some o → updF (updF F c' oc) h'.objs.size fo a = some o:=fun a o e => updF_keep ((if_neg (Ne.symm hcf)).trans f1) _ _ (updF_keep c1 _ _ e)
    have hcF:updF (updF F c' oc) h'.objs.size fo c' = some oc:=updF_keep ((if_neg (Ne.symm hcf)).trans f1) _ _ updF_self
    have S6:=S5.setPhi (tk:=tk) (h':=h'.push fo) (oo:=tabObj (ps0 ++ (more ++ #[rawInt lpos.line,rawInt lpos.col,.ref c']))) (e:=.tab lpos qual ps0) hφ (fun b o hb e => by rw [← hm1 b hb]; exact e) (by rw [← Array.append_assoc]; exact hr0)
      ⟨_,rfl,by rw [← Array.append_assoc,Array.toList_append]; exact TriplesOk_snoc _ _ _ _ ht,.inr ⟨c',oc,cv,tq,by rw [← Array.append_assoc,Array.toList_append]; exact codeAmong_snoc _ ht hnf,hcF,hc2,hc3⟩⟩
    rw [show σ.set i0 (.tab lpos qual ps0) = σ from by
      obtain ⟨h1,h2⟩:=List.getElem?_eq_some_iff.mp hσ
      rw [← h2]; exact List.set_getElem_self h1] at S6
    exact h h'.objs.size c' ctv _ _ hsub S6 (by rw [← hfo]; exact updF_self) ⟨oc,cv,tq,hcF,hc2,hc3⟩
  · refine kla_makeFunctionHit hcl K.globals hg hcode (T.code F s.heap S.amb S.sub) hP ht hf (T.bt F s.heap S.amb S.sub) fun ctv h' tk hk hsz => ?_
    have hf0:s.heap.get? h'.objs.size = none:=none_above hsz
    have S1:=S.freeze (s':={ s with heap:=h'.push (kla_obj name qual params body scope [] ((mg "__name__").getD .none) c' ctv),toks:=tk }) H.mono ⟨fun b o e => Heap.get?_push_of_some _ (hk b o e),rfl,.rfl⟩ hf0 (Heap.get?_push_size _ rfl)
    exact h h'.objs.size c' ctv _ _ (updF_keep (S.free hf0).1) S1 updF_self ⟨oc,cv,t,updF_keep (S.free hf0).1 _ _ hc1,hc2,hc3⟩
end
section
variable {prog:Program} {w:World} {Amb:Fz → Prop} {A:Around} {B:Base} {env env':Env} {μ μ':Mu} {σ σ':Sg} {mg mb:Str → Option Value} {at_:Str → Addr} {sc:Scope} {K:Frag} {mf:Str → Addr}
theorem WE.sortedLam {e f:PySem.Expr} {params:Arguments} {scope:Scope} {p1 p2 p3 p4 p5 p6 lpos kp pos:Pos} {k i0:Nat} {c P0:Addr} {qual:Str} {ps0:Array Value} {R:V → Sg → Prop} (H:AmbOk prog w Amb mg mb) (T:TopOk mg mb at_) (E':EnvOk env) (Tb:TabOk mg Amb c P0) (hcode:env.code = .ref c) (hcl:closureFor scope env = pure []) (Lm:LamOk params scope) (hr:Room A 1)
    (hφ:B.φ0[i0]? = some P0) (hq:env.qual ++ "<lambda>" = qual)
    (hf:WE prog w Amb A B env μ σ f (fun y σ0 => y = .bi "sorted" ∧ WE prog w Amb A B env μ σ0 e (fun y σ1 => ∃ es:List (Str × Str),y = .list (es.map pairV) ∧ es.length < 64 ∧ (∀ p ∈ es,p.2.length ≤ 1000) ∧ σ1[i0]? = some (.tab lpos qual ps0) ∧
      ∀ qs:List (Str × Str),qs.Perm es → qs.Pairwise (fun p q => q.2.length ≤ p.2.length) → R (.list (qs.map pairV)) σ1)))
    (hd:defaultsOf params env = ([],[]))
    (he:eval (.Call f [e] [⟨some "key",.Lambda params (lamE p1 p2 p3 p4 p5 p6 k) scope lpos,kp⟩] pos) env = (do callWith pos (← eval f env) [] [(false,eval e env)] [(some "key",do let v ← eval (.Lambda params (lamE p1 p2 p3 p4 p5 p6 k) scope lpos) env; standAt pos; pure v)]):=by rfl) :
    WE prog w Amb A B env μ σ (.Call f [e] [⟨some "key",.Lambda params (lamE p1 p2 p3 p4 p5 p6 k) scope lpos,kp⟩] pos) R:=by
  intro P s S
  rw [he]
  refine wpAny_bind (wpAny_mono (hf P s S) (fun v s0 qq => ?_) fun _ _ x => x)
  obtain ⟨y,σ0,⟨F0,φ0,m0,ow0,S0⟩,ey,h0⟩:=qq
  subst ey
  obtain rfl:=S0.top.inv
  refine callWith_plain (f:=.builtin "sorted") (first:=[]) (ts:=[eval e env]) (ks:=[("key",do let v ← eval (.Lambda params (lamE p1 p2 p3 p4 p5 p6 k) scope lpos) env; standAt pos; pure v)]) (.inl ⟨_,rfl⟩) ?_
  refine Calls.spliced_cons (wpAny_mono (h0 P s0 ⟨F0,φ0,m0,ow0,S0.pop⟩) (fun v s1 qq => ?_) fun _ _ x => x)
  obtain ⟨y,σ1,⟨F,φ,m,ow,S1⟩,es,ey,h64,hx,hσ,hR⟩:=qq
  refine Calls.spliced_nil ?_
  subst ey
  refine wpAny_evalAll_cons (wpAny_bind (kla_eval hd ?_))
  refine mk_lam H E' Tb hcode hcl S1 (S1.phi _ _ hφ) (hq ▸ hσ) fun fa c' ctv s2 F2 hsub S2 hfo hco => wpAny_bind (wpAny_standAt (wpAny_pure (wpAny_evalAll_nil ⟨(fun a e => nomatch e),?_⟩)))
  have rv:=S2.pend v (.list (es.map pairV)) (by simp)
  have hv:∃ l,v = .ref l:=by cases rv with | list _ _ => exact ⟨_,rfl⟩
  obtain ⟨l,rfl⟩:=hv
  refine wpAny_mono (sorted_lam H Lm hr T.len S2.pop rv h64 hx hfo hco) (fun u s3 qq => ?_) fun _ _ x => x
  obtain ⟨qs,h1,h2,S3⟩:=qq
  exact ⟨_,σ1,S3,hR qs h1 h2⟩
end
structure Pick (size:Nat) (f:Nat → Nat) (mk:Nat) (cs:List Nat):Prop where
  nodup:cs.Nodup
  lt:∀ c ∈ cs,c < size
  len:cs.length = min mk size
  top:∀ c ∈ cs,∀ d,d < size → d ∉ cs → f d ≤ f c
noncomputable def dec (f:Nat → Nat) (cs:List Nat) (d:Nat):Nat:=if d ∈ cs then f d - 1 else f d
inductive Steps (size:Nat) (f0:Nat → Nat):List Nat → (Nat → Nat) → List (Nat × Bool × Nat) → Prop
  | nil:Steps size f0 [] f0 []
  | snoc {ms:List Nat} {f:Nat → Nat} {ns:List (Nat × Bool × Nat)} {mk:Nat} {ps:List (Nat × Bool)}:Steps size f0 ms f ns → Pick size f mk (ps.map (·.1)) → (∀ p ∈ ps,0 < f p.1) → Steps size f0 (ms ++ [mk]) (dec f (ps.map (·.1))) (ns ++ ps.map fun p => (p.1,p.2,ms.length))
noncomputable def noteE (ns:List (Nat × Bool × Nat)):List (Str × Str):=ns.map fun q => (ltr q.1 q.2.1,dig q.2.2)
noncomputable def Stuck (size:Nat) (f0:Nat → Nat) (marks:List Nat):Prop:=∃ k f ns cs,k < marks.length ∧ Steps size f0 (marks.take k) f ns ∧ Pick size f (marks.getD k 0) cs ∧ ∃ c ∈ cs,f c = 0
theorem sorted_pick {size:Nat} {ps:List (Nat × Bool)} {f:Nat → Nat} {qs:List (Str × Str)} (h:PsOk size ps) (hq:qs.Perm (tabE ps f)) (hs:qs.Pairwise fun p q => q.2.length ≤ p.2.length) (mk:Nat) :
    ∃ ps':List (Nat × Bool),qs.take mk = ps'.map (fun p => (ltr p.1 p.2,xs (f p.1))) ∧ Pick size f mk (ps'.map (·.1)):=by
  obtain ⟨l,hl,rfl⟩:=perm_map_inv hq ps rfl
  have hok:PsOk size l:=⟨(hl.map _).trans h.perm⟩
  have hs':l.Pairwise fun p q => f q.1 ≤ f p.1:=by
    rw [List.pairwise_map] at hs
    refine hs.imp fun {a b} h => ?_
    simpa [xs_length] using h
  refine ⟨l.take mk,by rw [List.map_take],?_,?_,?_,?_⟩
  · exact (List.Sublist.map _ (List.take_sublist mk l)).nodup hok.nodup
  · intro c hc
    obtain ⟨p,hp,rfl⟩:=List.mem_map.mp hc
    exact hok.lt (List.mem_of_mem_take hp)
  · rw [List.length_map,List.length_take,hok.length]
  · intro c hc d hd hn
    obtain ⟨p,hp,rfl⟩:=List.mem_map.mp hc
    obtain ⟨q,hqm,rfl⟩:=List.mem_map.mp (hok.perm.mem_iff.mpr (List.mem_range.mpr hd))
    have hqd:q ∈ l.drop mk:=by
      rw [← List.take_append_drop mk l] at hqm
      rcases List.mem_append.mp hqm with h1 | h1
      · exact absurd (List.mem_map.mpr ⟨q,h1,rfl⟩) hn
      · exact h1
    rw [← List.take_append_drop mk l] at hs'
    exact (List.pairwise_append.mp hs').2.2 p hp q hqd
theorem xs_tail {n:Nat} (h:n ≤ 16):Txt.slice (xs n) (some 1) Option.none = xs (n - 1):=by
  have:∀ n,n ≤ 16 → Txt.slice (xs n) (some 1) Option.none = xs (n - 1):=by decide +kernel
  exact this n h
theorem str_dig {k:Nat} (h:k < 4):Str.ofString (toString (0 + (k:Int))) = dig k:=by
  have:∀ k,k < 4 → Str.ofString (toString (0 + ((k:Nat):Int))) = dig k:=by decide +kernel
  exact this k h
theorem xs_empty (n:Nat):(xs n == ("":Str)) = decide (n = 0):=by
  rw [Bool.eq_iff_iff,beq_iff_eq,decide_eq_true_eq]
  constructor
  · intro h
    have:=congrArg Str.length h
    rw [xs_length] at this
    exact this
  · rintro rfl; decide +kernel
noncomputable def sgF (σ:Sg) (i:Nat) (T N:List (Str × Str)):Sg:=(σ.set i (.lst T)) ++ [.lst N]
section
variable {σ:Sg} {i i0:Nat} {T N T' N':List (Str × Str)}
theorem sg_i (h:i < σ.length):(sgF σ i T N)[i]? = some (.lst T):=by
  unfold sgF
  rw [List.getElem?_append_left (by simpa using h),List.getElem?_set_self h]
theorem sg_n:(sgF σ i T N)[σ.length]? = some (.lst N):=by
  unfold sgF
  rw [List.getElem?_append_right (by simp)]
  simp
theorem sg_seti (h:i < σ.length):(sgF σ i T N).set i (.lst T') = sgF σ i T' N:=by
  unfold sgF
  rw [List.set_append_left _ _ (by simpa using h),List.set_set]
theorem sg_setn:(sgF σ i T N).set σ.length (.lst N') = sgF σ i T N':=by
  unfold sgF
  rw [List.set_append_right _ _ (by simp)]
  simp
theorem sg_tab {x:HL} (h:i0 ≠ i) (hx:σ[i0]? = some x):(sgF σ i T N)[i0]? = some x:=by
  unfold sgF
  have:=(List.getElem?_eq_some_iff.mp hx).1
  rw [List.getElem?_append_left (by simpa using this),List.getElem?_set_ne (Ne.symm h),hx]
end
theorem Steps.le {size:Nat} {f0 f:Nat → Nat} {ms:List Nat} {ns:List (Nat × Bool × Nat)} (h:Steps size f0 ms f ns):∀ d,f d ≤ f0 d:=by
  induction h with
  | nil => exact fun _ => Nat.le_refl _
  | snoc _ _ _ ih =>
    intro d
    unfold dec
    split
    · exact Nat.le_trans (Nat.sub_le _ _) (ih d)
    · exact ih d
theorem Steps.len {size:Nat} {f0 f:Nat → Nat} {ms:List Nat} {ns:List (Nat × Bool × Nat)} (h:Steps size f0 ms f ns):ns.length ≤ size * ms.length:=by
  induction h with
  | nil => simp
  | @snoc ms f ns mk ps _ hp _ ih =>
    have:=hp.len
    rw [List.length_map] at this
    simp only [List.length_append,List.length_map,List.length_cons,List.length_nil,Nat.mul_add]
    have:ps.length ≤ size:=by rw [this]; exact Nat.min_le_right _ _
    lia
noncomputable def lamPos:Pos:=⟨232,54,232,80⟩
@[reducible] noncomputable def muG (i:Nat) (marks:List Nat) (n:Nat) (k letter left:Option LV):Mu:=[("table",some (.v (.hdr i))),("marks",some (.v (.list (marks.map fun n => .int (n:Nat))))),("noted",some (.v (.hdr n))),("k",k),("letter",letter),("left",left)]
section
variable {prog:Program} {w:World} {Amb:Fz → Prop} {A:Around} {B:Base} {env env':Env} {μ μ':Mu} {σ σ':Sg} {mg mb:Str → Option Value} {at_:Str → Addr} {sc:Scope} {K:Frag} {mf:Str → Addr}
theorem granted_body {c P0:Addr} {lamQ:Str} {tp0:Array Value} {i i0 size:Nat} {marks:List Nat} {ps0:List (Nat × Bool)} {f0:Nat → Nat} {R:Fl → Mu → Sg → Prop} (X:HAll prog w Amb mg mb at_ mf K okN okV) (hsys:∀ F,Amb F → ∃ o,F sysModules = some o ∧ o ≠ edO) (Dk:HDefKw Amb (mf "add_header")) (hH:at_ "Headers" = hdrC) (Tb:TabOk mg Amb c P0)
    (E':EnvOk env) (hs:env.scope = fnScope 28) (hfn:env.func.isSome = true) (hcode:env.code = .ref c) (hqual:env.qual ++ "<lambda>" = lamQ) (hr:Room A 4) (hφ:B.φ0[i0]? = some P0)
    (hi0:i0 ≠ i) (hi:i < σ.length) (hσ0:σ[i0]? = some (.tab lamPos lamQ tp0)) (hσ:σ[i]? = some (.lst (tabE ps0 f0))) (hps:PsOk size ps0) (hs4:size ≤ 4) (hf:∀ d,f0 d ≤ 16) (hml:marks.length ≤ 4) (hmk:∀ m ∈ marks,m ≤ 16)
    (hR1:∀ μ' σ',Stuck size f0 marks → σ'[i0]? = some (.tab lamPos lamQ tp0) → R (.ret .none) μ' σ') (hR2:∀ μ' ps f ns,PsOk size ps → Steps size f0 marks f ns → R (.ret (.hdr σ.length)) μ' (sgF σ i (tabE ps f) (noteE ns))) :
    WS prog w Amb A B env (mu0 ["table","marks"] [.hdr i,.list (marks.map fun n => .int (n:Nat))] ["noted","k","letter","left"]) σ (fnBody 28) R:=by
  have hh:=hr.handled
  have H:=X.H
  have T:=X.T
  have hr3:Room A 3:=hr.less (by decide)
  have hr2:Room A 2:=hr.less (by decide)
  have hr1:Room A 1:=hr.less (by decide)
  have hzz:sizeLine = 16777216:=by decide
  obtain ⟨fda,Ka,_,_⟩:=Dk.ex
  obtain ⟨fdi,Ki,_,_⟩:=X.items.ex
  refine WS.cons ?_
  refine W1.assign E' (stor_of hs hfn (by kernel_rfl)) ?_ (by rfl)
  refine WE.hnew X hr3 ?_ (by rfl)
  refine WE.gl H E' hs (by kernel_rfl) (T.own _ (by decide +kernel)) (.adr _) ⟨by rw [hH],?_⟩
  have hstart:σ ++ [HL.lst []] = sgF σ i (tabE ps0 f0) (noteE []):=by
    unfold sgF
    obtain ⟨h1,h2⟩:=List.getElem?_eq_some_iff.mp hσ
    rw [← h2,List.set_getElem_self]; rfl
  rw [hstart]
  refine WS.cons ?_
  refine W1.forR hh ?_ (by intro x; rfl)
  refine WE.callb (WE.bl H E' hs (by kernel_rfl) T.range (.ty _) ⟨_,.ty _,WAs.cons ?_⟩) (by rfl)
  refine WE.callb (WE.bl H E' hs (by kernel_rfl) T.len (.bi _) ⟨_,.bi _,WAs.cons (WE.nm E' hs (by kernel_rfl) rfl (WAs.nil (WC.len_list (by simp; lia) (WAs.nil (WC.range1 H ?_)))))⟩) (by rfl)
  refine ⟨(List.range marks.length).map fun i => .int (0 + (i:Nat)),by simp [iterItems],fits0 (by simp; lia),fun k μ' σ' => ∃ ps f ns,PsOk size ps ∧ Steps size f0 (marks.take k) f ns ∧ σ' = sgF σ i (tabE ps f) (noteE ns) ∧ ∃ v1 v2 v3:Option LV,
    μ' = muG i marks σ.length v1 v2 v3,⟨ps0,f0,[],hps,by simpa using Steps.nil,rfl,none,none,none,rfl⟩,?_,?_⟩
  · rintro R1 k x μ' σ' q1 q2 hk ⟨ps,f,ns,hp,hst,rfl,v1,v2,v3,rfl⟩
    rw [List.getElem?_map] at hk
    obtain ⟨j,hj,rfl⟩:=Option.map_eq_some_iff.mp hk
    have hij:k < marks.length ∧ j = k:=by
      have:=List.getElem?_eq_some_iff.mp hj
      simp only [List.length_range,List.getElem_range] at this
      obtain ⟨a,b⟩:=this
      exact ⟨a,b.symm⟩
    obtain ⟨hk4,rfl⟩:=hij
    obtain ⟨mk,hmk'⟩:∃ mk,marks[j]? = some mk:=⟨_,List.getElem?_eq_getElem hk4⟩
    have hmk16:=hmk mk (List.mem_of_getElem? hmk')
    have hcol:(marks.map fun n => V.int (n:Nat))[(0 + (j:Int)).toNat]? = some (.int (mk:Nat)):=by
      rw [List.getElem?_map,show (0 + (j:Int)).toNat = j by lia,hmk']; rfl
    have hf16:∀ d,f d ≤ 16:=fun d => Nat.le_trans (hst.le d) (hf d)
    refine AT.name E' (stor_of hs hfn (by kernel_rfl)) ?_
    refine WS.cons ?_
    refine W1.forR hh (WE.lsliceT H (WE.sortedLam (i0:=i0) (ps0:=tp0) H T E' Tb hcode (by rfl) ?lam hr1 hφ hqual ?_ (by rfl) (by rfl))) (by intro x; rfl)
    case lam => exact ⟨by rfl,by rfl,by rfl,by kernel_rfl,by kernel_rfl,by decide +kernel,fun _ _ _ _ _ _ _ => by rfl⟩
    refine WE.bl H E' hs (by kernel_rfl) T.sorted (.bi _) ⟨rfl,?_⟩
    refine WE.hmeth X.HK (by decide +kernel) Ki (WE.nm E' hs (by kernel_rfl) rfl ⟨i,rfl,WAs.nil (hitems_call X hr1 (sg_i hi) (by rw [tabE_length,hp.length]; lia) ⟨tabE ps f,rfl,by rw [tabE_length,hp.length]; lia,?_,sg_tab hi0 hσ0,fun qs hq hqs => ?_⟩)⟩) (by rfl) (by rfl) (by rfl) (by rfl)
    · intro p hpm
      obtain ⟨q,hq,rfl⟩:=List.mem_map.mp hpm
      show (xs (f q.1)).length ≤ 1000
      rw [xs_length]
      have:=hf16 q.1
      lia
    · obtain ⟨ps',htake,hpick⟩:=sorted_pick hp hq hqs mk
      have hqlen:qs.length = size:=by rw [hq.length_eq,tabE_length,hp.length]
      have htk:(qs.map pairV).take mk = ps'.map fun p => pairV (ltr p.1 p.2,xs (f p.1)):=by
        rw [← List.map_take,htake,List.map_map]; rfl
      refine WPt.none (WPt.some (WE.sub (WE.nm E' hs (by kernel_rfl) rfl (WE.nm E' hs (by kernel_rfl) rfl (OpS.list rfl (.inl ⟨by lia,rfl⟩) (by lia) hcol ⟨_,rfl,_,(qs.map pairV).take mk,rfl,by rw [List.length_map]; lia,by simp [slPick],?_⟩)))))
      rw [htk]
      have hps4:∀ p ∈ ps',p.1 < size:=fun p hpm => hpick.lt _ (List.mem_map.mpr ⟨p,hpm,rfl⟩)
      have hdec0:dec f [] = f:=by funext d; simp [dec]
      refine ⟨_,rfl,trivial,fun j2 μ' σ' => ∃ psj,PsOk size psj ∧ (∀ p ∈ ps'.take j2,0 < f p.1) ∧ σ' = sgF σ i (tabE psj (dec f ((ps'.take j2).map (·.1)))) (noteE (ns ++ (ps'.take j2).map fun p => (p.1,p.2,j))) ∧ ∃ v2 v3:Option LV,
        μ' = muG i marks σ.length (some (.v (.int (0 + (j:Nat))))) v2 v3,⟨ps,hp,by simp,by simp [hdec0],v2,v3,rfl⟩,?_,?_⟩
      · rintro R2 j2 x μ' σ' q3 q4 hj2 ⟨psj,hpj,hpos,rfl,v2,v3,rfl⟩
        rw [List.getElem?_map] at hj2
        obtain ⟨p,hpj2,rfl⟩:=Option.map_eq_some_iff.mp hj2
        have hj2l:j2 < ps'.length:=(List.getElem?_eq_some_iff.mp hpj2).1
        have hpm:p ∈ ps':=List.mem_of_getElem? hpj2
        have hc:=hps4 p hpm
        have hc4:p.1 < 4:=by lia
        have ht1:ps'.take (j2 + 1) = ps'.take j2 ++ [p]:=by
          rw [List.take_succ_eq_append_getElem hj2l,(List.getElem?_eq_some_iff.mp hpj2).2]
        refine AT.pair hh ?_ (by rfl)
        refine AT.name E' (stor_of hs hfn (by kernel_rfl)) ?_
        refine AT.name E' (stor_of hs hfn (by kernel_rfl)) ?_
        refine WS.cons ?_
        refine W1.if_ (WB.cmp' (WE.nm E' hs (by kernel_rfl) rfl (WE.str (OpC.eq_str ⟨_,.bool _,?_⟩))) (by rfl))
        rw [xs_empty]
        by_cases hz:f p.1 = 0
        · first | refine iteT (by simpa using hz) ?_ | rw [if_pos (by simpa using hz)]
          refine WS.cons ?_
          refine W1.ret (WE.none (q4 _ _ _ (q2 _ _ _ (hR1 _ _ ⟨j,f,ns,ps'.map (·.1),hk4,hst,?_,p.1,List.mem_map.mpr ⟨p,hpm,rfl⟩,hz⟩ (sg_tab hi0 hσ0)))))
          rw [List.getD_eq_getElem?_getD,hmk']
          exact hpick
        · first | refine iteF (by simpa using hz) ?_ | rw [if_neg (by simpa using hz)]
          have hlt:∀ q ∈ psj,q.1 < size:=fun q hq => hpj.lt hq
          refine WS.nil ?_
          refine WS.cons ?_
          refine W1.hset X.HK ?_ (by rfl)
          refine WE.ssliceT (WE.nm E' hs (by kernel_rfl) rfl (WPt.some (WE.int ⟨_,rfl,WPt.none ⟨_,rfl,by rw [xs_length]; have:=hf16 p.1; lia,?_⟩⟩)))
          rw [xs_tail (hf16 _)]
          refine WE.nm E' hs (by kernel_rfl) rfl ⟨i,rfl,?_⟩
          refine WE.mono (R:=fun z σ3 => ∃ up,z = .str (ltr p.1 up) ∧ σ3 = sgF σ i (tabE psj (dec f ((ps'.take j2).map (·.1)))) (noteE (ns ++ (ps'.take j2).map fun p => (p.1,p.2,j)))) ?_ fun z σ3 ⟨up,ez,es⟩ => ?_
          · refine WE.ifexp (WB.cmp' (WE.bin (WE.nm E' hs (by kernel_rfl) rfl (WE.int (OpB.mod_int hh (by decide) (WE.int (OpC.eq_int ⟨_,.bool _,?_⟩)))))) (by rfl))
            split
            · exact WE.meth (WE.nm E' hs (by kernel_rfl) rfl ⟨_,meth_str PySem.F.slot_str_lower PySem.F.type_str_lower,WAs.nil (WC.str_lower (by show (1:Nat) ≤ 1000; decide) ⟨false,by rw [lower_ltr hc4],rfl⟩)⟩) (by rfl) (by rfl) (by rfl) (by rfl)
            · exact WE.meth (WE.nm E' hs (by kernel_rfl) rfl ⟨_,meth_str PySem.F.slot_str_upper PySem.F.type_str_upper,WAs.nil (WC.str_upper (by show (1:Nat) ≤ 1000; decide) ⟨true,by rw [upper_ltr hc4],rfl⟩)⟩) (by rfl) (by rfl) (by rfl) (by rfl)
          · subst ez es
            refine hset_call X hr3 (x:=ltr p.1 up) (y:=xs (f p.1 - 1)) (es:=tabE psj (dec f ((ps'.take j2).map (·.1)))) (sg_i hi) (by rw [tabE_length,hpj.length]; lia) (tabE_short _ _) (by show (1:Nat) ≤ 1000; decide) ⟨p.1,hc4,false,lower_ltr hc4 _⟩ ⟨p.1,hc4,up,rfl⟩ (.inl ⟨_,by have:=hf16 p.1; lia,rfl⟩) fun z => ?_
            have hmv:=mov_tabE (f:=dec f ((ps'.take j2).map (·.1))) (g:=dec f ((ps'.take (j2 + 1)).map (·.1))) (c:=p.1) (up:=up) (n:=f p.1 - 1) (ps:=psj) hs4 hlt (fun d hne => by
              unfold dec
              rw [ht1,List.map_append]
              simp [hne]) (by
              unfold dec
              rw [ht1,List.map_append]
              simp)
            rw [sg_seti hi,lower_ltr hc4,hmv]
            refine WS.cons ?_
            refine W1.expr ?_ (by rfl) (inter hs (by kernel_rfl))
            refine WE.hmeth X.HK (by decide +kernel) Ka (WE.nm E' hs (by kernel_rfl) rfl ⟨σ.length,rfl,WAs.cons (WE.nm E' hs (by kernel_rfl) rfl (WAs.cons ?_))⟩) (by rfl) (by rfl) (by rfl) (by rfl)
            refine WE.callb (WE.bl H E' hs (by kernel_rfl) T.str (.ty _) ⟨_,.ty _,WAs.cons (WE.nm E' hs (by kernel_rfl) rfl (WAs.nil (WC.str_int ?_ ?_)))⟩) (by rfl)
            · have h4:=four (k:=j) (by lia)
              rcases h4 with rfl | rfl | rfl | rfl <;> decide
            · rw [str_dig (by lia)]
              refine WAs.nil (hadd_call X hsys Dk hr2 (es:=noteE (ns ++ (ps'.take j2).map fun p => (p.1,p.2,j))) sg_n ?_ ⟨p.1,hc4,p.2,rfl⟩ (.inr ⟨j,by lia,rfl⟩) (by show (1:Nat) ≤ 1000; decide) fun z => ?_)
              · have h1:=hst.len
                rw [List.length_take] at h1
                have h2:=hpick.len
                rw [List.length_map] at h2
                have h3:size * min j marks.length ≤ 4 * 4:=Nat.mul_le_mul hs4 (by lia)
                simp only [noteE,List.length_map,List.length_append,List.length_take]
                lia
              · rw [sg_setn]
                refine WS.nil (q3 _ _ ⟨movP psj p.1 up,hpj.mov hc up,fun q hq => ?_,?_,_,_,rfl⟩)
                · rw [ht1] at hq
                  rcases List.mem_append.mp hq with h | h
                  · exact hpos q h
                  · rw [List.mem_singleton] at h; subst h; lia
                · rw [ht1]
                  simp [noteE]
      · rintro μ' σ' ⟨psj,hpj,hpos,rfl,v2,v3,rfl⟩
        simp only [List.length_map,List.take_length] at hpos ⊢
        have htm:marks.take (j + 1) = marks.take j ++ [mk]:=by
          rw [List.take_succ_eq_append_getElem hk4,(List.getElem?_eq_some_iff.mp hmk').2]
        have hjl:(marks.take j).length = j:=by rw [List.length_take]; lia
        have hsn:=Steps.snoc hst hpick hpos
        rw [hjl,← htm] at hsn
        exact WS.nil (q1 _ _ ⟨psj,_,_,hpj,hsn,rfl,_,v2,v3,rfl⟩)
  · rintro μ' σ' ⟨ps,f,ns,hp,hst,rfl,v1,v2,v3,rfl⟩
    rw [List.length_map,List.length_range,List.take_length] at *
    refine WS.cons ?_
    exact W1.ret (WE.nm E' hs (by kernel_rfl) rfl (hR2 _ ps f ns hp hst))
end
section
variable {prog:Program} {w:World} {Amb:Fz → Prop} {A:Around} {B:Base} {env env':Env} {μ μ':Mu} {σ σ':Sg} {mg mb:Str → Option Value} {at_:Str → Addr} {sc:Scope} {K:Frag} {mf:Str → Addr}
structure GDef (Amb:Fz → Prop) (a c:Addr) (lamQ:Str):Prop where
  ex:∃ fd,FnIs Amb a fd (fnBody 28) ∧ fd.scope = fnScope 28 ∧ (∀ vs:List Value,vs.length = 2 → bindArgs fd ⟨vs,[]⟩ = pure (List.zip (["table","marks"]:List Str) vs)) ∧ fd.code = .ref c ∧ fd.qualname ++ ".<locals>." ++ "<lambda>" = lamQ
theorem granted_call {c P0:Addr} {lamQ:Str} {tp0:Array Value} {i i0 size:Nat} {marks:List Nat} {ps0:List (Nat × Bool)} {f0:Nat → Nat} {R:V → Sg → Prop} (X:HAll prog w Amb mg mb at_ mf K okN okV) (hsys:∀ F,Amb F → ∃ o,F sysModules = some o ∧ o ≠ edO) (Dk:HDefKw Amb (mf "add_header")) (hH:at_ "Headers" = hdrC) (Tb:TabOk mg Amb c P0)
    (D:GDef Amb (at_ "_law_granted") c lamQ) (hr:Room A 5) (hφ:B.φ0[i0]? = some P0)
    (hi0:i0 ≠ i) (hi:i < σ.length) (hσ0:σ[i0]? = some (.tab lamPos lamQ tp0)) (hσ:σ[i]? = some (.lst (tabE ps0 f0))) (hps:PsOk size ps0) (hs4:size ≤ 4) (hf:∀ d,f0 d ≤ 16) (hml:marks.length ≤ 4) (hmk:∀ m ∈ marks,m ≤ 16)
    (h1:∀ σ',Stuck size f0 marks → σ'[i0]? = some (.tab lamPos lamQ tp0) → R .none σ') (h2:∀ ps f ns,PsOk size ps → Steps size f0 marks f ns → R (.hdr σ.length) (sgF σ i (tabE ps f) (noteE ns))) :
    WC prog w Amb A B env μ σ (.ref (at_ "_law_granted")) [.hdr i,.list (marks.map fun n => .int (n:Nat))] R:=by
  obtain ⟨fd,Kf,hsc,hb,hcd,hqn⟩:=D.ex
  rintro P vs s hl ⟨F,φ,m,ow,S⟩
  have hkn:∀ n ∈ (["table","marks"]:List Str),fd.scope.names.lookup n = some .local ∨ fd.scope.names.lookup n = some .cell:=fun n hn => by rw [hsc]; revert n; decide +kernel
  refine wpAny_call (fn_raw (us:=vs) (names:=["table","marks"]) X.H Kf hr (by rw [hsc]; kernel_rfl) S.amb S.sub S.sub (fun Q E q => by rw [hb vs hl]; exact wpAny_pure q) hkn fun env' s' he E' hr' x hc => ?_)
  refine frame_run (rest:=["noted","k","letter","left"]) S hl (by decide +kernel) (by rw [he]; rfl) (by rw [he]; rfl) (fun n hn => by rw [he]; exact hkn n hn) hc x fun B' hB' => ?_
  exact granted_body (B:=B') X hsys Dk hH Tb E' (by rw [he]; exact hsc) (by rw [he]; rfl) (by rw [he]; exact hcd) (by rw [he]; exact hqn) hr' (by rw [hB']; exact S.phi _ _ hφ) hi0 hi hσ0 hσ hps hs4 hf hml hmk
    (fun _ _ hs ht => ⟨_,.inl rfl,h1 _ hs ht⟩) fun _ ps f ns hp hst => ⟨_,.inl rfl,h2 ps f ns hp hst⟩
end
noncomputable def patKN:Frag:=[(135,ho176),(134,ho175)]
theorem patN_run (t:Tok) (M:Model) (h:Heap) (X:Frag.In patKN h) {c:Nat} (hc:c < 4) (up:Bool):Looks M h (Builtin.«re.Pattern.search» ⟨[.ref 135,.str (ltr c up) t],[]⟩) (.done (.ret .none)):=by
  match c,hc,up with
  | 0,_,false => exact Looks.of_peek X (by kernel_rfl)
  | 0,_,true => exact Looks.of_peek X (by kernel_rfl)
  | 1,_,false => exact Looks.of_peek X (by kernel_rfl)
  | 1,_,true => exact Looks.of_peek X (by kernel_rfl)
  | 2,_,false => exact Looks.of_peek X (by kernel_rfl)
  | 2,_,true => exact Looks.of_peek X (by kernel_rfl)
  | 3,_,false => exact Looks.of_peek X (by kernel_rfl)
  | 3,_,true => exact Looks.of_peek X (by kernel_rfl)
noncomputable def patKV:Frag:=[(140,ho181),(139,ho180)]
theorem upTo {P:Nat → Prop} {k:Nat} (h:∀ n,n < k → P n) (hk:P k):∀ n,n < k + 1 → P n:=fun n hn =>
  (Nat.lt_or_eq_of_le (Nat.le_of_lt_succ hn)).elim (h n) fun e => e ▸ hk
theorem patV_xs (t:Tok) (M:Model) (h:Heap) (X:Frag.In patKV h) {n:Nat} (hn:n < 17):Looks M h (Builtin.«re.Pattern.search» ⟨[.ref 140,.str (xs n) t],[]⟩) (.done (.ret .none)):=by
  have key:∀ n,n < 17 → Looks M h (Builtin.«re.Pattern.search» ⟨[.ref 140,.str (xs n) t],[]⟩) (.done (.ret .none)):=by
    iterate 17 refine upTo ?_ (Looks.of_peek X (by kernel_rfl))
    exact fun n hn => nomatch hn
  exact key n hn
theorem patV_dig (t:Tok) (M:Model) (h:Heap) (X:Frag.In patKV h) {k:Nat} (hk:k < 4):Looks M h (Builtin.«re.Pattern.search» ⟨[.ref 140,.str (dig k) t],[]⟩) (.done (.ret .none)):=by
  match k,hk with
  | 0,_ => exact Looks.of_peek X (by kernel_rfl)
  | 1,_ => exact Looks.of_peek X (by kernel_rfl)
  | 2,_ => exact Looks.of_peek X (by kernel_rfl)
  | 3,_ => exact Looks.of_peek X (by kernel_rfl)
noncomputable def sizeP (ns:List Int):Nat:=if ns.length < 4 then 3 else 4
noncomputable def numsP (ns:List Int):List Int:=(ns.take 5).map (fun x => Int.fmod x (4 ^ 16)) ++ ([7,40,3,768,12]:List Int).drop ns.length
noncomputable def rowP (ns:List Int) (k:Nat):List Bool:=(codesP ((numsP ns).getD (k + 1) 0) k (sizeP ns)).map (isX k)
noncomputable def rowsP (ns:List Int):List (List Bool):=(List.range (sizeP ns)).map (rowP ns)
theorem sizeP_or (ns:List Int):sizeP ns = 3 ∨ sizeP ns = 4:=by unfold sizeP; split <;> simp
theorem numsP_len (ns:List Int):(numsP ns).length = 5:=by
  unfold numsP
  simp only [List.length_append,List.length_map,List.length_take,List.length_drop,List.length_cons,List.length_nil]
  lia
theorem numsP_at (ns:List Int) {i:Nat} (h:i < 5):(numsP ns)[i]? = some ((numsP ns).getD i 0):=by
  rw [List.getD_eq_getElem?_getD,List.getElem?_eq_getElem (by rw [numsP_len]; exact h)]; rfl
theorem numsP_ok (ns:List Int):∀ x ∈ numsP ns,0 ≤ x ∧ x < 4 ^ 16:=by
  intro x hx
  unfold numsP at hx
  rcases List.mem_append.mp hx with h | h
  · obtain ⟨y,_,rfl⟩:=List.mem_map.mp h
    exact ⟨Int.fmod_nonneg_of_pos _ (by decide),Int.fmod_lt_of_pos _ (by decide)⟩
  · have:=List.mem_of_mem_drop h
    clear h hx
    revert x
    decide +kernel
theorem rowP_len (ns:List Int) (k:Nat):(rowP ns k).length = sizeP ns:=by unfold rowP; rw [List.length_map,codesP_len]
section
variable (ns:List Int) (size numbers rows k codes row marks columns column wishes table most word j having hidden taken noted told:Option LV)
@[reducible] noncomputable def muL:Mu:=[("script",some (.v (.list (ns.map .int)))),("size",size),("numbers",numbers),("rows",rows),("k",k),("codes",codes),("row",row),("marks",marks),("columns",columns),("column",column),
  ("wishes",wishes),("table",table),("most",most),("word",word),("j",j),("having",having),("hidden",hidden),("taken",taken),("noted",noted),("told",told)]
end
noncomputable def lawRest:List Str:=["size","numbers","rows","k","codes","row","marks","columns","column","wishes","table","most","word","j","having","hidden","taken","noted","told"]
structure LawX (prog:Program) (w:World) (Amb:Fz → Prop) (mg mb:Str → Option Value) (at_ mf:Str → Addr) (K:Frag) (c P0:Addr) (lamQ:Str):Prop where
  X:HAll prog w Amb mg mb at_ mf K okN okV
  hsys:∀ F,Amb F → ∃ o,F sysModules = some o ∧ o ≠ edO
  Dk:HDefKw Amb (mf "add_header")
  hH:at_ "Headers" = hdrC
  Tb:TabOk mg Amb c P0
  hen:mg "enumerate" = none ∧ mb "enumerate" = some (.type "enumerate")
  D2:Def Amb (at_ "_iter_escaped_chars") 2 ["addr"]
  D3:Def Amb (at_ "_strip_quoted_realnames") 3 ["addr"]
  D4:Def Amb (at_ "_check_parenthesis") 4 ["addr"]
  D7:Def Amb (at_ "_ellipsis_match") 7 ["want","got"]
  D24:Def Amb (at_ "_law_codes") 24 ["number","k","size"]
  D25:Def Amb (at_ "_law_read") 25 ["codes","k"]
  D26:Def Amb (at_ "_law_known") 26 ["codes","k"]
  D27:Def Amb (at_ "_law_wished") 27 ["columns","size"]
  D29:Def Amb (at_ "_law_takes") 29 ["wishes","many"]
  D30:Def Amb (at_ "_law_can") 30 ["marks","wishes"]
  G:GDef Amb (at_ "_law_granted") c lamQ
  Df:∀ k,k < 4 → Def Amb (at_ (tabName k)) (tabBody k) ["code"]
  Ds:∀ k,k < 4 → SetIs prog w Amb (at_ (setName k)) (isX k)
noncomputable def modP:V → V
  | .int x => .int (Int.fmod x (4 ^ 16))
  | y => y
noncomputable def xoV (bs:List Bool):V:=.str (xo bs)
section
variable {prog:Program} {w:World} {Amb:Fz → Prop} {A:Around} {B:Base} {env env':Env} {μ μ':Mu} {σ σ':Sg} {mg mb:Str → Option Value} {at_:Str → Addr} {sc:Scope} {K:Frag} {mf:Str → Addr} {c P0:Addr} {lamQ:Str}
theorem law_s1 (L:LawX prog w Amb mg mb at_ mf K c P0 lamQ) (E':EnvOk env) (hs:env.scope = fnScope 31) (hfn:env.func.isSome = true) (hr:Room A 8) {ns:List Int} (hns:ns.length ≤ 1000) {R:Fl → Mu → Sg → Prop}
    (h:∀ k codes row:Option LV,WS prog w Amb A B env (muL ns (some (.v (.int (sizeP ns:Nat)))) (some (.v (.list ((numsP ns).map .int)))) (some (.own ((rowsP ns).map xoV))) k codes row none none none none none none none none none none none none none) σ ((fnBody 31).drop 4) R) :
    WS prog w Amb A B env (mu0 ["script"] [.list (ns.map .int)] lawRest) σ (fnBody 31) R:=by
  have hh:=hr.handled
  have H:=L.X.H
  have T:=L.X.T
  have hzz:sizeLine = 16777216:=by decide
  have hs4:sizeP ns ≤ 4:=by rcases sizeP_or ns with e | e <;> lia
  have hl:((ns.map V.int).length:Int) = ns.length:=by simp
  refine WS.cons ?_
  refine W1.mono (R:=fun f μ2 σ2 => f = .next ∧ μ2 = muL ns (some (.v (.int (sizeP ns:Nat)))) none none none none none none none none none none none none none none none none none none ∧ σ2 = σ) ?_ ?_
  · refine W1.assign E' (stor_of hs hfn (by kernel_rfl)) ?_ (by rfl)
    refine WE.ifexp (WB.cmp' ?_ (by rfl))
    refine WE.callb (WE.bl H E' hs (by kernel_rfl) T.len (.bi _) ⟨_,.bi _,WAs.cons (WE.nm E' hs (by kernel_rfl) rfl (WAs.nil (WC.len_list (by simp; lia) (WE.int (OpC.lt_int ⟨_,.bool _,?_⟩)))))⟩) (by rfl)
    rw [hl]
    by_cases h4:ns.length < 4
    · first | refine iteT (decide_eq_true (by lia)) ?_ | rw [if_pos (decide_eq_true (by lia))]
      have e:sizeP ns = 3:=by unfold sizeP; rw [if_pos h4]
      rw [e]
      exact WE.int ⟨rfl,rfl,rfl⟩
    · first | refine iteF (by rw [decide_eq_true_eq]; lia) ?_ | rw [if_neg (by rw [decide_eq_true_eq]; lia)]
      have e:sizeP ns = 4:=by unfold sizeP; rw [if_neg h4]
      rw [e]
      exact WE.int ⟨rfl,rfl,rfl⟩
  rintro f μ2 σ2 ⟨rfl,rfl,rfl⟩
  refine WS.cons ?_
  refine W1.assign E' (stor_of hs hfn (by kernel_rfl)) ?_ (by rfl)
  refine WE.bin ?_
  refine WE.lc H E' hs hfn hh ⟨by kernel_rfl,rfl,by kernel_rfl,by kernel_rfl,by kernel_rfl⟩ ?_
  refine WE.lsliceT H (WE.nm E' hs (by kernel_rfl) rfl (WPt.none (WPt.some (WE.int ⟨_,rfl,_,(ns.map V.int).take 5,rfl,by simp; lia,rfl,?_⟩))))
  refine ⟨_,rfl,trivial,by simp; lia,fun _ => true,modP,fun B' env' y K' hs' hf' hy => ?_,?_⟩
  · obtain ⟨x,hx,rfl⟩:=List.mem_map.mp (List.mem_of_mem_take hy)
    refine ⟨WTs.nil ⟨rfl,rfl⟩,fun _ => ?_⟩
    refine WE.bin (WE.nm K' hs' (by kernel_rfl) rfl (WE.bin (WE.int (WE.int (OpB.pow_int (by decide) (by decide +kernel) (OpB.mod_int hh (by decide) ⟨rfl,rfl⟩))))))
  refine WE.lsliceT H (WE.list H (WAs.cons (WE.int (WAs.cons (WE.int (WAs.cons (WE.int (WAs.cons (WE.int (WAs.cons (WE.int (WAs.nil ⟨by decide,?_⟩)))))))))))
    (by rfl))
  refine WPt.some (WE.callb (WE.bl H E' hs (by kernel_rfl) T.len (.bi _) ⟨_,.bi _,WAs.cons (WE.nm E' hs (by kernel_rfl) rfl (WAs.nil (WC.len_list (by simp; lia) ⟨_,rfl,WPt.none ⟨_,(([7,40,3,768,12]:List Int).map V.int).drop ns.length,rfl,by decide,?_,?_⟩⟩)))⟩) (by rfl))
  · rw [hl]; simp [slPick]
  refine OpB.add_list H (by rw [filter_tt]; simp; lia) ?_
  have hnum:(List.map modP ((List.take 5 (ns.map V.int)).filter fun _ => true)) ++ (([7,40,3,768,12]:List Int).map V.int).drop ns.length = (numsP ns).map V.int:=by
    rw [filter_tt,← List.map_take,List.map_map,← List.map_drop]
    unfold numsP
    rw [List.map_append,List.map_map]
    rfl
  rw [hnum]
  refine WS.cons ?_
  refine W1.assignEmpty E' (by rw [kindOf_of hs]; kernel_rfl) ?_ (by rfl) (by rfl)
  refine WS.cons ?_
  refine W1.forR hh ?_ (by intro x; rfl)
  refine WE.callb (WE.bl H E' hs (by kernel_rfl) T.range (.ty _) ⟨_,.ty _,WAs.cons (WE.nm E' hs (by kernel_rfl) rfl (WAs.nil (WC.range1 H ?_)))⟩) (by rfl)
  refine ⟨(List.range (sizeP ns)).map fun i => .int (i:Nat),by simp [iterItems],fits0 (by lia),fun i μ' τ => τ = σ2 ∧ ∃ k codes row:Option LV,
    μ' = muL ns (some (.v (.int (sizeP ns:Nat)))) (some (.v (.list ((numsP ns).map .int)))) (some (.own (((List.range i).map (rowP ns)).map xoV))) k codes row none none none none none none none none none none none none none,⟨rfl,none,none,none,rfl⟩,?_,?_⟩
  · rintro R1 i x μ' σ' q1 _ hi ⟨rfl,k,codes,row,rfl⟩
    rw [List.getElem?_map] at hi
    obtain ⟨j,hj,rfl⟩:=Option.map_eq_some_iff.mp hi
    have hij:i < sizeP ns ∧ j = i:=by
      have:=List.getElem?_eq_some_iff.mp hj
      simp only [List.length_range,List.getElem_range] at this
      obtain ⟨a,b⟩:=this
      exact ⟨a,b.symm⟩
    obtain ⟨hi4,rfl⟩:=hij
    have hj4:j < 4:=by lia
    have hnat:((numsP ns).map V.int)[((j:Int) + 1).toNat]? = some (.int ((numsP ns).getD (j + 1) 0)):=by
      rw [List.getElem?_map,show ((j:Int) + 1).toNat = j + 1 by lia,numsP_at ns (by lia)]; rfl
    refine AT.name E' (stor_of hs hfn (by kernel_rfl)) ?_
    refine WS.cons ?_
    refine W1.assign E' (stor_of hs hfn (by kernel_rfl)) ?_ (by rfl)
    refine WE.callb (WE.gl H E' hs (by kernel_rfl) (T.own _ (by decide +kernel)) (.adr _) ⟨_,.fn L.D24.ex.choose_spec.1,?_⟩) (by rfl)
    refine WAs.cons (WE.sub (WE.nm E' hs (by kernel_rfl) rfl (WE.bin (WE.nm E' hs (by kernel_rfl) rfl (WE.int (OpB.add_int (OpS.list rfl (.inl ⟨by lia,rfl⟩) (by lia) hnat ?_)))))))
    refine WAs.cons (WE.nm E' hs (by kernel_rfl) rfl (WAs.cons (WE.nm E' hs (by kernel_rfl) rfl (WAs.nil ?_))))
    refine codes_call H T L.D24 (hr.less (by lia)) _ j (sizeP ns) hj4 hs4 ?_
    refine WS.cons ?_
    refine W1.assign E' (stor_of hs hfn (by kernel_rfl)) ?_ (by rfl)
    refine WE.callb (WE.gl H E' hs (by kernel_rfl) (T.own _ (by decide +kernel)) (.adr _) ⟨_,.fn L.D25.ex.choose_spec.1,?_⟩) (by rfl)
    refine WAs.cons (WE.nm E' hs (by kernel_rfl) rfl (WAs.cons (WE.nm E' hs (by kernel_rfl) rfl (WAs.nil ?_))))
    refine read_call H T L.D25 (hr.less (by lia)) L.Df L.Ds _ j hj4 (by rw [codesP_len]; lia) (codes_mem hj4) ?_
    refine WS.cons ?_
    refine W1.if_ (WB.cmp' ?_ (by rfl))
    refine WE.nm E' hs (by kernel_rfl) rfl ?_
    refine WE.callb (WE.gl H E' hs (by kernel_rfl) (T.own _ (by decide +kernel)) (.adr _) ⟨_,.fn L.D26.ex.choose_spec.1,?_⟩) (by rfl)
    refine WAs.cons (WE.nm E' hs (by kernel_rfl) rfl (WAs.cons (WE.nm E' hs (by kernel_rfl) rfl (WAs.nil ?_))))
    refine known_call H T L.D26 (hr.less (by lia)) _ j hj4 (by rw [codesP_len]; lia) ?_
    refine OpC.ne_str ⟨_,.bool _,?_⟩
    first | refine iteF (by simp) ?_ | rw [if_neg (by simp)]
    refine WS.nil ?_
    refine WS.cons ?_
    refine W1.append E' (by rw [kindOf_of hs]; kernel_rfl) rfl (by simp; lia) (fun D => ?_) (hi:=inter hs (by kernel_rfl))
    refine WE.nm E' hs (by kernel_rfl) rfl ?_
    refine WS.nil (q1 _ _ ⟨rfl,?_⟩)
    rw [List.range_succ,List.map_append,List.map_append]
    exact ⟨_,_,_,rfl⟩
  · rintro μ' σ' ⟨rfl,k,codes,row,rfl⟩
    rw [List.length_map,List.length_range]
    exact h k codes row
end
noncomputable def marksP (ns:List Int):List Nat:=(rowsP ns).map fun r => r.count true
noncomputable def colP (n:Int) (size t:Nat):Nat:=(Int.fmod (Int.fdiv n ((size:Int) ^ t) + (t:Int)) size).toNat
noncomputable def colsP (ns:List Int):List Nat:=(List.range (marksP ns).sum).map (colP ((numsP ns).getD 0 0) (sizeP ns))
noncomputable def wishP (ns:List Int):List Nat:=(List.range (sizeP ns)).map fun c => (colsP ns).count c
noncomputable abbrev intsV (l:List Nat):V:=.list (l.map fun n => .int (n:Nat))
theorem intsV_eq (l:List Nat):intsV l = .list ((l.map fun n:Nat => (n:Int)).map .int):=by unfold intsV; rw [List.map_map]; rfl
theorem rowsP_mem {ns:List Int} {r:List Bool} (h:r ∈ rowsP ns):r.length = sizeP ns:=by
  obtain ⟨k,_,rfl⟩:=List.mem_map.mp h
  exact rowP_len ns k
theorem rowsP_len (ns:List Int):(rowsP ns).length = sizeP ns:=by unfold rowsP; simp
theorem marksP_len (ns:List Int):(marksP ns).length = sizeP ns:=by unfold marksP; rw [List.length_map,rowsP_len]
theorem marksP_mem {ns:List Int} {m:Nat} (h:m ∈ marksP ns):m ≤ sizeP ns:=by
  obtain ⟨r,hr,rfl⟩:=List.mem_map.mp h
  rw [← rowsP_mem hr]
  exact List.count_le_length
theorem sum_le_nat (x:Nat):∀ l:List Nat,(∀ y ∈ l,y ≤ x) → l.sum ≤ l.length * x
  | [],_ => by simp
  | y :: l,h => by
    have h1:=h y (List.mem_cons_self ..)
    have h2:=sum_le_nat x l fun z hz => h z (List.mem_cons_of_mem _ hz)
    rw [List.sum_cons,List.length_cons,Nat.add_mul]; lia
theorem marksP_sum (ns:List Int):(marksP ns).sum ≤ 16:=by
  have h1:=sum_le_nat (sizeP ns) (marksP ns) fun y hy => marksP_mem hy
  rw [marksP_len] at h1
  have:sizeP ns * sizeP ns ≤ 16:=by rcases sizeP_or ns with e | e <;> rw [e] <;> decide
  lia
theorem colP_lt (n:Int) {size:Nat} (hs:0 < size) (t:Nat):colP n size t < size:=by
  unfold colP
  have:=Int.fmod_lt_of_pos (Int.fdiv n ((size:Int) ^ t) + (t:Int)) (b:=size) (by lia)
  have:=Int.fmod_nonneg_of_pos (Int.fdiv n ((size:Int) ^ t) + (t:Int)) (b:=size) (by lia)
  lia
theorem colP_int (n:Int) {size:Nat} (hs:0 < size) (t:Nat):((colP n size t:Nat):Int) = Int.fmod (Int.fdiv n ((size:Int) ^ t) + (t:Int)) size:=by
  unfold colP
  have:=Int.fmod_nonneg_of_pos (Int.fdiv n ((size:Int) ^ t) + (t:Int)) (b:=size) (by lia)
  lia
theorem colsP_mem {ns:List Int} {c:Nat} (h:c ∈ colsP ns):c < sizeP ns:=by
  obtain ⟨t,_,rfl⟩:=List.mem_map.mp h
  exact colP_lt _ (by rcases sizeP_or ns with e | e <;> lia) t
theorem colsP_len (ns:List Int):(colsP ns).length = (marksP ns).sum:=by unfold colsP; simp
theorem wishP_len (ns:List Int):(wishP ns).length = sizeP ns:=by unfold wishP; simp
theorem count_le16 (ns:List Int) (c:Nat):(colsP ns).count c ≤ 16:=by
  have h1:=List.count_le_length (a:=c) (l:=colsP ns)
  rw [colsP_len] at h1
  have:=marksP_sum ns
  lia
theorem size_bits {size:Nat} (h:size = 3 ∨ size = 4):Builtin.Int.intBits (size:Int) ≤ 3:=by rcases h with rfl | rfl <;> decide +kernel
theorem size_pow {size:Nat} (h:size = 3 ∨ size = 4) {t:Nat} (ht:t < 16):((size:Int) ^ t) ≠ 0 ∧ ((size:Int) ^ t).natAbs < 2 ^ 64:=by
  have h3:∀ t,t < 16 → ((3:Int) ^ t) ≠ 0 ∧ ((3:Int) ^ t).natAbs < 2 ^ 64:=by decide +kernel
  have h4:∀ t,t < 16 → ((4:Int) ^ t) ≠ 0 ∧ ((4:Int) ^ t).natAbs < 2 ^ 64:=by decide +kernel
  rcases h with rfl | rfl
  · exact h3 t ht
  · exact h4 t ht
theorem count_nat (l:List Nat) (c:Nat):(l.map fun n:Nat => (n:Int)).count (c:Int) = l.count c:=by
  induction l with
  | nil => rfl
  | cons a l ih =>
    rw [List.map_cons,List.count_cons,List.count_cons,ih]
    by_cases h:a = c
    · subst h; simp
    · have:((a:Int)) ≠ c:=by lia
      simp [h,this]
theorem sum_nat (l:List Nat):(l.map fun n:Nat => (n:Int)).sum = (l.sum:Nat):=by
  induction l with
  | nil => rfl
  | cons a l ih => rw [List.map_cons,List.sum_cons,List.sum_cons,ih]; lia
noncomputable def cntV:V → V
  | .str x => .int (Txt.count x "x")
  | y => y
noncomputable def colV (n:Int) (size:Nat):V → V
  | .int t => .int (colP n size t.toNat:Nat)
  | y => y
noncomputable def wishV (cs:List Nat):V → V
  | .int c => .int (cs.count c.toNat:Nat)
  | y => y
section
variable {prog:Program} {w:World} {Amb:Fz → Prop} {A:Around} {B:Base} {env env':Env} {μ μ':Mu} {σ σ':Sg} {mg mb:Str → Option Value} {at_:Str → Addr} {sc:Scope} {K:Frag} {mf:Str → Addr} {c P0:Addr} {lamQ:Str}
theorem law_s2 (L:LawX prog w Amb mg mb at_ mf K c P0 lamQ) (E':EnvOk env) (hs:env.scope = fnScope 31) (hfn:env.func.isSome = true) (hr:Room A 8) {ns:List Int} {R:Fl → Mu → Sg → Prop} {k codes row:Option LV}
    (h:∀ ps,PsOk (sizeP ns) ps → WS prog w Amb A B env (muL ns (some (.v (.int (sizeP ns:Nat)))) (some (.v (.list ((numsP ns).map .int)))) (some (.v (.list ((rowsP ns).map xoV)))) k codes row (some (.v (intsV (marksP ns)))) (some (.v (intsV (colsP ns)))) none (some (.v (intsV (wishP ns)))) (some (.v (.hdr σ.length))) none none none none none none none none)
      (σ ++ [.lst (tabE ps fun c => (colsP ns).count c)]) ((fnBody 31).drop 8) R) :
    WS prog w Amb A B env (muL ns (some (.v (.int (sizeP ns:Nat)))) (some (.v (.list ((numsP ns).map .int)))) (some (.own ((rowsP ns).map xoV))) k codes row none none none none none none none none none none none none none) σ ((fnBody 31).drop 4) R:=by
  have hh:=hr.handled
  have H:=L.X.H
  have T:=L.X.T
  have hzz:sizeLine = 16777216:=by decide
  have hsz:=sizeP_or ns
  have hs4:sizeP ns ≤ 4:=by lia
  have hms:=marksP_sum ns
  have hu:A.units + 64 < cLine:=by have:=hr.units; show A.units + 64 < 9900; lia
  refine WS.freeze H (x:="rows") (xs:=(rowsP ns).map xoV) (by rw [kindOf_of hs]; kernel_rfl) rfl ?_
  refine WS.cons ?_
  refine W1.lc H E' hs hfn hh ⟨by kernel_rfl,rfl,by kernel_rfl,by kernel_rfl,by kernel_rfl⟩ (by rw [kindOf_of hs]; kernel_rfl) ?_ (swaps_lc hs (by kernel_rfl))
  refine WE.nm (y:=.list ((rowsP ns).map xoV)) E' hs (by kernel_rfl) rfl ⟨_,rfl,trivial,by simp [rowsP_len]; lia,fun _ => true,cntV,fun B' env' y K' hs' hf' hy => ?_,?_⟩
  · obtain ⟨r,hr',rfl⟩:=List.mem_map.mp hy
    refine ⟨WTs.nil ⟨rfl,rfl⟩,fun _ => ?_⟩
    exact WE.meth (WE.nm (y:=xoV r) K' hs' (by kernel_rfl) rfl ⟨_,meth_str PySem.F.slot_str_count PySem.F.type_str_count,WAs.cons (WE.str (WAs.nil (WC.str_count ⟨rfl,rfl⟩)))⟩) (by rfl) (by rfl) (by rfl) (by rfl)
  have hmk:(((rowsP ns).map xoV).filter fun _ => true).map cntV = (marksP ns).map fun n => V.int (n:Nat):=by
    rw [filter_tt]
    unfold marksP
    rw [List.map_map,List.map_map]
    refine List.map_congr_left fun r hr' => ?_
    show V.int (Txt.count (xo r) "x") = V.int ((r.count true:Nat))
    rw [count_x r (by rw [rowsP_mem hr']; exact hs4)]
  rw [hmk]
  have hmsum:(((marksP ns).map fun n:Nat => (n:Int))).sum = ((marksP ns).sum:Nat):=sum_nat _
  refine WS.cons ?_
  refine W1.assign E' (stor_of hs hfn (by kernel_rfl)) ?_ (swaps_lc hs (by kernel_rfl))
  refine WE.lc H E' hs hfn hh ⟨by kernel_rfl,rfl,by kernel_rfl,by kernel_rfl,by kernel_rfl⟩ ?_
  refine WE.callb (WE.bl H E' hs (by kernel_rfl) T.range (.ty _) ⟨_,.ty _,WAs.cons (WE.callb (WE.bl H E' hs (by kernel_rfl) T.sum (.bi _) ⟨_,.bi _,WAs.cons (WE.nm (y:=intsV (marksP ns)) E' hs (by kernel_rfl) rfl (WAs.nil ?_))⟩) (by rfl))⟩) (by rfl)
  rw [intsV_eq]
  refine WC.sum_ints hh ?_
  rw [hmsum]
  refine WAs.nil (WC.range1 H ?_)
  refine ⟨(List.range (marksP ns).sum).map fun i => .int (i:Nat),by simp [iterS,iterItems],fits0 (by lia),by simp; lia,fun _ => true,colV ((numsP ns).getD 0 0) (sizeP ns),fun B' env' y K' hs' hf' hy => ?_,?_⟩
  · obtain ⟨t,ht,rfl⟩:=List.mem_map.mp hy
    have ht16:t < 16:=by have:=List.mem_range.mp ht; lia
    have hbit:=size_bits hsz
    obtain ⟨hp0,hp1⟩:=size_pow hsz ht16
    refine ⟨WTs.nil ⟨rfl,rfl⟩,fun _ => ?_⟩
    refine WE.bin (WE.bin (WE.bin (WE.sub (WE.nm (y:=.list ((numsP ns).map .int)) K' hs' (by kernel_rfl) rfl (WE.int (OpS.list (j:=0) (y:=.int ((numsP ns).getD 0 0)) rfl (.inl ⟨by lia,rfl⟩) (by lia) (by rw [List.getElem?_map,numsP_at ns (by lia)]; rfl) ?_))))))
    refine WE.bin (WE.nm (y:=.int (sizeP ns:Nat)) K' hs' (by kernel_rfl) rfl (WE.nm (y:=.int (t:Nat)) K' hs' (by kernel_rfl) rfl (OpB.pow_int (by lia) ?_ ?_)))
    · have h3:(Builtin.Int.intBits (sizeP ns:Int):Int) ≤ 3:=by exact_mod_cast hbit
      have:(Builtin.Int.intBits (sizeP ns:Int):Int) * (t:Int) ≤ 3 * 16:=Int.mul_le_mul h3 (by lia) (by lia) (by lia)
      lia
    · rw [Int.toNat_natCast]
      refine OpB.div_int hp0 (divOk hp1) ?_
      refine WE.nm (y:=.int (t:Nat)) K' hs' (by kernel_rfl) rfl (OpB.add_int (WE.nm (y:=.int (sizeP ns:Nat)) K' hs' (by kernel_rfl) rfl (OpB.mod_int hh (by lia) ?_)))
      rw [← colP_int _ (by lia) t]
      exact ⟨rfl,rfl⟩
  have hcols:(((List.range (marksP ns).sum).map fun i => V.int (i:Nat)).filter fun _ => true).map (colV ((numsP ns).getD 0 0) (sizeP ns)) = (colsP ns).map fun n => V.int (n:Nat):=by
    rw [filter_tt]
    unfold colsP
    rw [List.map_map,List.map_map]
    rfl
  rw [hcols]
  refine WS.cons ?_
  refine W1.lc H E' hs hfn hh ⟨by kernel_rfl,rfl,by kernel_rfl,by kernel_rfl,by kernel_rfl⟩ (by rw [kindOf_of hs]; kernel_rfl) ?_ (swaps_lc hs (by kernel_rfl))
  refine WE.callb (WE.bl H E' hs (by kernel_rfl) T.range (.ty _) ⟨_,.ty _,WAs.cons (WE.nm (y:=.int (sizeP ns:Nat)) E' hs (by kernel_rfl) rfl (WAs.nil (WC.range1 H ?_)))⟩) (by rfl)
  refine ⟨(List.range (sizeP ns)).map fun i => .int (i:Nat),by simp [iterS,iterItems],fits0 (by lia),by simp; lia,fun _ => true,wishV (colsP ns),fun B' env' y K' hs' hf' hy => ?_,?_⟩
  · obtain ⟨t,ht,rfl⟩:=List.mem_map.mp hy
    refine ⟨WTs.nil ⟨rfl,rfl⟩,fun _ => ?_⟩
    refine WE.meth (WE.nm (y:=.list (((colsP ns).map fun n:Nat => (n:Int)).map .int)) K' hs' (by kernel_rfl) (by rw [← intsV_eq]; rfl) ⟨_,meth_list PySem.F.slot_list_count PySem.F.type_list_count,WAs.cons (WE.nm (y:=.int (t:Nat)) K' hs' (by kernel_rfl) rfl (WAs.nil ?_))⟩) (by rfl) (by rfl) (by rfl) (by rfl)
    refine WC.count_ints ?_
    rw [count_nat]
    exact ⟨rfl,rfl⟩
  have hwish:(((List.range (sizeP ns)).map fun i => V.int (i:Nat)).filter fun _ => true).map (wishV (colsP ns)) = (wishP ns).map fun n => V.int (n:Nat):=by
    rw [filter_tt]
    unfold wishP
    rw [List.map_map,List.map_map]
    rfl
  rw [hwish]
  refine WS.cons ?_
  refine W1.assign E' (stor_of hs hfn (by kernel_rfl)) ?_ (by rfl)
  refine WE.callb (WE.gl H E' hs (by kernel_rfl) (T.own _ (by decide +kernel)) (.adr _) ⟨_,.fn L.D27.ex.choose_spec.1,?_⟩) (by rfl)
  refine WAs.cons (WE.nm (y:=intsV (colsP ns)) E' hs (by kernel_rfl) rfl (WAs.cons (WE.nm (y:=.int (sizeP ns:Nat)) E' hs (by kernel_rfl) rfl (WAs.nil ?_))))
  refine wished_call L.X L.hH L.D27 (hr.less (by lia)) hsz (fun c hc => colsP_mem hc) (by rw [colsP_len]; exact hms) fun ps hps => ?_
  exact h ps hps
end
theorem mul_xs {n:Nat} (h:n ≤ 16):Txt.mul "x" (n:Int) = xs n:=by
  have:∀ n:Nat,n ≤ 16 → Txt.mul "x" (n:Int) = xs n:=by decide +kernel
  exact this n h
theorem mulOk_small {x:Str} {n:Int} (hx:x.length ≤ 10) (h0:0 ≤ n) (h:n ≤ 16):MulOk x n:=by
  unfold MulOk
  refine ⟨?_,fun h1 _ => ?_,fun h1 _ => ?_⟩
  · rw [Bool.or_eq_false_iff,decide_eq_false_iff_not,decide_eq_false_iff_not]
    lia
  · have h2:(x.length:Int) ≤ (2 ^ 63 - 1) / n:=by
      rw [Int.le_ediv_iff_mul_le (by lia)]
      have:(x.length:Int) * n ≤ 10 * 16:=Int.mul_le_mul (by lia) h (by lia) (by lia)
      lia
    lia
  · unfold Builtin.Str.tooLong
    have:x.length * n.toNat ≤ 10 * 16:=Nat.mul_le_mul hx (by lia)
    have hzz:sizeLine = 16777216:=by decide
    rw [decide_eq_false_iff_not]
    lia
theorem strOk_xs (n:Nat):PyData.strOk (xs n) = true:=by
  unfold PyData.strOk xs
  rw [Array.all_eq_true']
  intro c hc
  rw [(Array.mem_replicate.mp hc).2]
  decide
theorem filter_one {c:Nat}:∀ {l:List (Nat × Bool)},(l.map (·.1)).Nodup → c ∈ l.map (·.1) → ∃ u,l.filter (fun p => p.1 == c) = [(c,u)]
  | [],_,h => by cases h
  | (d,u) :: l,hn,h => by
    rw [List.map_cons,List.nodup_cons] at hn
    by_cases e:d = c
    · subst e
      refine ⟨u,?_⟩
      rw [List.filter_cons_of_pos (by simp),List.filter_eq_nil_iff.mpr]
      intro p hp hq
      exact hn.1 (List.mem_map.mpr ⟨p,hp,by simpa using hq⟩)
    · rw [List.filter_cons_of_neg (by simpa using e)]
      refine filter_one hn.2 ?_
      rw [List.map_cons] at h
      rcases List.mem_cons.mp h with h | h
      · exact absurd h.symm e
      · exact h
theorem getall_tabE {size:Nat} (hs:size ≤ 4) {ps:List (Nat × Bool)} (h:PsOk size ps) {f:Nat → Nat} {c:Nat} (hc:c < size) :
    ((tabE ps f).filter fun p => Txt.lower p.1 == ltr c false).map (fun p => V.str p.2) = [.str (xs (f c))]:=by
  obtain ⟨u,hu⟩:=filter_one (c:=c) h.nodup (h.perm.mem_iff.mpr (List.mem_range.mpr hc))
  unfold tabE
  rw [List.filter_map,List.filter_congr (q:=fun p => p.1 == c),hu]
  · rfl
  · intro p hp
    have:=h.lt hp
    show (Txt.lower (ltr p.1 p.2) == ltr c false) = _
    rw [lower_ltr (by lia),ltr_beq]
noncomputable def getV (f:Nat → Nat):V → V
  | .str s => .list [.str (xs (f (s.cps.getD 0 0 - 65)))]
  | y => y
noncomputable def manyV:V → V
  | .int n => .list [.str (xs n.toNat)]
  | y => y
theorem wishP_mem {ns:List Int} {n:Nat} (h:n ∈ wishP ns):n ≤ 16:=by
  obtain ⟨c,_,rfl⟩:=List.mem_map.mp h
  exact count_le16 ns c
section
variable {prog:Program} {w:World} {Amb:Fz → Prop} {A:Around} {B:Base} {env env':Env} {μ μ':Mu} {σ σ':Sg} {mg mb:Str → Option Value} {at_:Str → Addr} {sc:Scope} {K:Frag} {mf:Str → Addr} {c P0:Addr} {lamQ:Str}
theorem law_s3 (L:LawX prog w Amb mg mb at_ mf K c P0 lamQ) (E':EnvOk env) (hs:env.scope = fnScope 31) (hfn:env.func.isSome = true) (hr:Room A 8) {ns:List Int} {R:Fl → Mu → Sg → Prop} {numbers rows k codes row marks columns column most word j having hidden taken noted told:Option LV}
    {ps:List (Nat × Bool)} (hps:PsOk (sizeP ns) ps)
    (h:WS prog w Amb A B env (muL ns (some (.v (.int (sizeP ns:Nat)))) numbers rows k codes row marks columns column (some (.v (intsV (wishP ns)))) (some (.v (.hdr σ.length))) most word j having hidden taken noted told)
      (σ ++ [.lst (tabE ps fun c => (colsP ns).count c)]) ((fnBody 31).drop 9) R) :
    WS prog w Amb A B env (muL ns (some (.v (.int (sizeP ns:Nat)))) numbers rows k codes row marks columns column (some (.v (intsV (wishP ns)))) (some (.v (.hdr σ.length))) most word j having hidden taken noted told)
      (σ ++ [.lst (tabE ps fun c => (colsP ns).count c)]) ((fnBody 31).drop 8) R:=by
  have hh:=hr.handled
  have H:=L.X.H
  have T:=L.X.T
  have hzz:sizeLine = 16777216:=by decide
  have hsz:=sizeP_or ns
  have hs4:sizeP ns ≤ 4:=by lia
  have hu:A.units + 64 < cLine:=by have:=hr.units; show A.units + 64 < 9900; lia
  obtain ⟨fda,Ka,_,_⟩:=L.X.getall.ex
  refine WS.cons ?_
  refine W1.if_ (WB.cmp' ?_ (by rfl))
  refine WE.lc H E' hs hfn hh ⟨by kernel_rfl,rfl,by kernel_rfl,by kernel_rfl,by kernel_rfl⟩ ?_
  refine WE.ssliceT (WE.str (WPt.none (WPt.some (WE.nm (y:=.int (sizeP ns:Nat)) E' hs (by kernel_rfl) rfl ⟨_,rfl,_,rfl,by decide +kernel,?_⟩))))
  rw [ABCD_slice hsz]
  refine ⟨(List.range (sizeP ns)).map fun i => .str (ltr i true),by simp [iterS,iterItems,ltr],trivial,by simp; lia,fun _ => true,getV (fun c => (colsP ns).count c),fun B' env' y K' hs' hf' hy => ?_,?_⟩
  · obtain ⟨i,hi,rfl⟩:=List.mem_map.mp hy
    have hi4:=List.mem_range.mp hi
    refine ⟨WTs.nil ⟨rfl,rfl⟩,fun _ => ?_⟩
    refine WE.hmeth L.X.HK (by decide +kernel) Ka (WE.nm (y:=.hdr σ.length) K' hs' (by kernel_rfl) rfl ⟨_,rfl,WAs.cons (WE.nm (y:=.str (ltr i true)) K' hs' (by kernel_rfl) rfl (WAs.nil ?_))⟩) (by rfl) (by rfl) (by rfl) (by rfl)
    refine hgetall_call L.X (hr.less (by lia)) List.getElem?_concat_length (by rw [tabE_length,hps.length]; lia) (tabE_short _ _) (by show (1:Nat) ≤ 1000; decide) ⟨i,by lia,false,lower_ltr (by lia) _⟩ ?_
    rw [lower_ltr (by lia),getall_tabE hs4 hps hi4]
    refine ⟨?_,rfl⟩
    show _ = V.list [.str (xs ((colsP ns).count (65 + i - 65)))]
    rw [Nat.add_sub_cancel_left]
  refine WE.lc H E' hs hfn hh ⟨by kernel_rfl,rfl,by kernel_rfl,by kernel_rfl,by kernel_rfl⟩ ?_
  refine WE.nm (y:=intsV (wishP ns)) E' hs (by kernel_rfl) rfl ⟨(wishP ns).map fun n => .int (n:Nat),rfl,trivial,by simp [wishP_len]; lia,fun _ => true,manyV,fun B' env' y K' hs' hf' hy => ?_,?_⟩
  · obtain ⟨n,hn,rfl⟩:=List.mem_map.mp hy
    have hn16:=wishP_mem hn
    refine ⟨WTs.nil ⟨rfl,rfl⟩,fun _ => ?_⟩
    refine WE.list H (WAs.cons (WE.bin (WE.str (WE.nm (y:=.int (n:Nat)) K' hs' (by kernel_rfl) rfl (OpB.mul_str (mulOk_small (by decide) (by lia) (by lia)) (WAs.nil ⟨by show (1:Nat) ≤ sizeLine; lia,?_⟩)))))) (by rfl)
    rw [mul_xs hn16]
    exact ⟨rfl,rfl⟩
  have e1:(((List.range (sizeP ns)).map fun i => V.str (ltr i true)).filter fun _ => true).map (getV fun c => (colsP ns).count c) = ((wishP ns).map fun n => [xs n]).map fun n => .list (n.map .str):=by
    rw [filter_tt]
    unfold wishP
    rw [List.map_map,List.map_map,List.map_map]
    refine List.map_congr_left fun i _ => ?_
    show V.list [.str (xs ((colsP ns).count (65 + i - 65)))] = _
    rw [Nat.add_sub_cancel_left]
    rfl
  have e2:(((wishP ns).map fun n => V.int (n:Nat)).filter fun _ => true).map manyV = ((wishP ns).map fun n => [xs n]).map fun n => .list (n.map .str):=by
    rw [filter_tt,List.map_map,List.map_map]
    rfl
  rw [e1,e2]
  have hok:∀ n ∈ (wishP ns).map (fun n => [xs n]),∀ x ∈ n,PyData.strOk x = true:=by
    intro n hn x hx
    obtain ⟨m,_,rfl⟩:=List.mem_map.mp hn
    rw [List.mem_singleton] at hx
    subst hx
    exact strOk_xs m
  refine OpC.ne_strss hu hok hok ⟨_,.bool _,?_⟩
  first | refine iteF (by simp) ?_ | rw [if_neg (by simp)]
  exact WS.nil h
end
noncomputable def mostP (ns:List Int):List Int:=(srt ((wishP ns).map fun n:Nat => (n:Int))).reverse
noncomputable def havN (ns:List Int) (j:Nat):Nat:=((rowsP ns).filter fun r => decide (j < r.count true)).length
noncomputable def hidP:Nat → Str
  | 0 => ""
  | 1 => "\\)"
  | 2 => "\")(\""
  | _ => "\\\\"
noncomputable def hidI (ns:List Int) (j:Nat):Nat:=(Int.fmod (Int.fdiv ((numsP ns).getD 0 0) ((4:Int) ^ j)) 4).toNat
noncomputable def reps (c n:Nat):Str:=⟨Array.replicate n c⟩
noncomputable def blockP (ns:List Int) (j:Nat):Str:=reps 40 (havN ns j) ++ hidP (hidI ns j) ++ reps 41 ((mostP ns).getD j 0).toNat
noncomputable def wordP (ns:List Int):Nat → Str
  | 0 => ""
  | j + 1 => wordP ns j ++ blockP ns j
theorem reps_len (c n:Nat):(reps c n).length = n:=by simp [reps,Str.length]
theorem mul_reps40 {n:Int} (h0:0 ≤ n) (h:n ≤ 16):Txt.mul "(" n = reps 40 n.toNat:=by
  have:∀ n:Nat,n ≤ 16 → Txt.mul "(" (n:Int) = reps 40 n:=by decide +kernel
  have:=this n.toNat (by lia)
  rw [Int.toNat_of_nonneg h0] at this
  exact this
theorem mul_reps41 {n:Int} (h0:0 ≤ n) (h:n ≤ 16):Txt.mul ")" n = reps 41 n.toNat:=by
  have:∀ n:Nat,n ≤ 16 → Txt.mul ")" (n:Int) = reps 41 n:=by decide +kernel
  have:=this n.toNat (by lia)
  rw [Int.toNat_of_nonneg h0] at this
  exact this
theorem mostP_len (ns:List Int):(mostP ns).length = sizeP ns:=by unfold mostP; rw [List.length_reverse,srt_length,List.length_map,wishP_len]
theorem mostP_mem {ns:List Int} {m:Int} (h:m ∈ mostP ns):0 ≤ m ∧ m ≤ 16:=by
  unfold mostP at h
  rw [List.mem_reverse] at h
  obtain ⟨n,hn,rfl⟩:=List.mem_map.mp ((srt_perm _).mem_iff.mp h)
  have:=wishP_mem hn
  lia
theorem mostP_at (ns:List Int) {j:Nat} (h:j < sizeP ns):(mostP ns)[j]? = some ((mostP ns).getD j 0) ∧ 0 ≤ (mostP ns).getD j 0 ∧ (mostP ns).getD j 0 ≤ 16:=by
  have e:(mostP ns)[j]? = some ((mostP ns).getD j 0):=by
    rw [List.getD_eq_getElem?_getD,List.getElem?_eq_getElem (by rw [mostP_len]; exact h)]; rfl
  exact ⟨e,mostP_mem (List.mem_of_getElem? e)⟩
theorem havN_le (ns:List Int) (j:Nat):havN ns j ≤ 4:=by
  unfold havN
  have:=List.length_filter_le (fun r => decide (j < List.count true r)) (rowsP ns)
  rw [rowsP_len] at this
  rcases sizeP_or ns with e | e <;> lia
theorem hidI_lt (ns:List Int) (j:Nat):hidI ns j < 4:=by
  unfold hidI
  have:=Int.fmod_lt_of_pos (Int.fdiv ((numsP ns).getD 0 0) ((4:Int) ^ j)) (b:=4) (by lia)
  lia
theorem hidP_len {i:Nat} (h:i < 4):(hidP i).length ≤ 4:=by
  have:∀ i,i < 4 → (hidP i).length ≤ 4:=by decide +kernel
  exact this i h
theorem str_app_len (x y:Str):(x ++ y).length = x.length + y.length:=by
  show (x.cps ++ y.cps).size = _
  rw [Array.size_append]; rfl
theorem blockP_len {ns:List Int} {j:Nat} (h:j < sizeP ns):(blockP ns j).length ≤ 24:=by
  unfold blockP
  rw [str_app_len,str_app_len,reps_len,reps_len]
  have:=havN_le ns j
  have:=hidP_len (hidI_lt ns j)
  have:=mostP_at ns h
  lia
theorem wordP_len {ns:List Int}:∀ {j:Nat},j ≤ sizeP ns → (wordP ns j).length ≤ 24 * j
  | 0,_ => Nat.le_refl 0
  | j + 1,h => by
    have h1:=wordP_len (ns:=ns) (j:=j) (by lia)
    have h2:=blockP_len (ns:=ns) (j:=j) (by lia)
    show (wordP ns j ++ blockP ns j).length ≤ _
    rw [str_app_len]
    lia
theorem four_pow {j:Nat} (h:j < 4):((4:Int) ^ j) ≠ 0 ∧ ((4:Int) ^ j).natAbs < 2 ^ 64:=size_pow (size:=4) (.inr rfl) (by lia)
theorem dots_len {j:Nat} (h:j < 4):("...":Str).length + (Txt.mul "x..." ((j:Int) + 1)).length ≤ 100:=by
  have:∀ j:Nat,j < 4 → ("...":Str).length + (Txt.mul "x..." ((j:Int) + 1)).length ≤ 100:=by decide +kernel
  exact this j h
noncomputable def hasV (j:Nat):V → Bool
  | .str x => decide (j < Txt.count x "x")
  | _ => false
section
variable {prog:Program} {w:World} {Amb:Fz → Prop} {A:Around} {B:Base} {env env':Env} {μ μ':Mu} {σ σ':Sg} {mg mb:Str → Option Value} {at_:Str → Addr} {sc:Scope} {K:Frag} {mf:Str → Addr} {c P0:Addr} {lamQ:Str}
theorem WE.rsliceT {value st:PySem.Expr} {p pos:Pos} {R:V → Sg → Prop} (H:AmbOk prog w Amb mg mb)
    (h:WE prog w Amb A B env μ σ value (fun x σ1 => WE prog w Amb A B env μ σ1 st (fun y σ2 => ∃ xs,x = .list xs ∧ y = .int (-1) ∧ xs.length ≤ sizeLine ∧ R (.list xs.reverse) σ2))) :
    WE prog w Amb A B env μ σ (.Subscript value (.Slice Option.none Option.none (some st) p) pos) R:=by
  intro P s S
  refine PyProof.Rows.Subscript_ (wpAny_mono (h P s S) (fun o s1 qq => ?_) fun _ _ x => x)
  obtain ⟨x,σ1,S1,h1⟩:=qq
  refine wpAny_Slice (wpAny_pure (wpAny_pure ?_))
  rw [evalPart_some]
  refine wpAny_mono (h1 _ s1 S1) (fun vs s3 qq => ?_) fun _ _ x => x
  obtain ⟨y,σ3,S3,xs,e,e',hz,hR⟩:=qq
  subst e e'
  obtain ⟨F,φ,m,ow,S3⟩:=S3
  have rt:=S3.top
  have rl:=S3.top2
  obtain ⟨tk,rfl⟩:=rt.inv
  obtain ⟨l,us,n,rfl,hF,hL⟩:=rl.inv
  have e1:=hL.length
  simp only [Array.length_toList] at e1
  have ho:(s3.heap.push { cls:=.type "slice",data:=.fields #[.none,.none,.int (-1) tk] }).get? l = some (listO us n):=Heap.get?_push_of_some _ (S3.sub _ _ hF)
  have hsl:(s3.heap.push { cls:=.type "slice",data:=.fields #[.none,.none,.int (-1) tk] }).get? s3.heap.objs.size = some { cls:=.type "slice",data:=.fields #[.none,.none,.int (-1) tk] }:=Heap.get?_push_size _ rfl
  have hli:Heap.IsList (s3.heap.push { cls:=.type "slice",data:=.fields #[.none,.none,.int (-1) tk] }) l us:=⟨_,ho,rfl,_,rfl⟩
  refine tail_any (ops:=[.ref l,.ref s3.heap.objs.size]) hli.typeIs slot_list_getitem.lookup (wpAny_getItem_list_slice (lo:=Option.none) (hi:=Option.none) (st:=some (-1)) hli ⟨_,hsl,rfl,rfl⟩ .none .none (.int _ _) (by decide) ?_ (by lia)) (by rfl)
  rw [krv_pick]
  obtain ⟨F',T⟩:=S3.pop2.fresh (a:=s3.heap.objs.size + 1) (vs:=us.toList.reverse.toArray) (n:=0) (ys:=xs.reverse) (s':={ s3 with heap:=(s3.heap.push { cls:=.type "slice",data:=.fields #[.none,.none,.int (-1) tk] }).push (listO us.toList.reverse.toArray 0) }) H
    ⟨fun b o hb => Heap.get?_push_of_some _ (Heap.get?_push_of_some _ hb),rfl,.rfl⟩ (none_above (Nat.le_succ _)) (by
      have:=Heap.get?_push_size (s3.heap.push { cls:=.type "slice",data:=.fields #[.none,.none,.int (-1) tk] }) (o:=listO us.toList.reverse.toArray 0) rfl
      rw [Heap.size_push] at this
      exact this) hL.reverse
  refine ⟨.list xs.reverse,σ3,?_,hR⟩
  simp only [Heap.size_push]
  exact ⟨F',φ,m,ow,T⟩
theorem law_s4 (L:LawX prog w Amb mg mb at_ mf K c P0 lamQ) (E':EnvOk env) (hs:env.scope = fnScope 31) (hfn:env.func.isSome = true) (hr:Room A 8) {ns:List Int} {R:Fl → Mu → Sg → Prop} {k codes row marks columns column table taken noted told:Option LV}
    (h:∀ j having hidden:Option LV,WS prog w Amb A B env (muL ns (some (.v (.int (sizeP ns:Nat)))) (some (.v (.list ((numsP ns).map .int)))) (some (.v (.list ((rowsP ns).map xoV)))) k codes row marks columns column (some (.v (intsV (wishP ns)))) table (some (.v (.list ((mostP ns).map .int)))) (some (.v (.str (wordP ns (sizeP ns))))) j having hidden taken noted told)
      σ ((fnBody 31).drop 12) R) :
    WS prog w Amb A B env (muL ns (some (.v (.int (sizeP ns:Nat)))) (some (.v (.list ((numsP ns).map .int)))) (some (.v (.list ((rowsP ns).map xoV)))) k codes row marks columns column (some (.v (intsV (wishP ns)))) table none none none none none taken noted told)
      σ ((fnBody 31).drop 9) R:=by
  have hh:=hr.handled
  have H:=L.X.H
  have T:=L.X.T
  have hzz:sizeLine = 16777216:=by decide
  have hsz:=sizeP_or ns
  have hs4:sizeP ns ≤ 4:=by lia
  refine WS.cons ?_
  refine W1.assign E' (stor_of hs hfn (by kernel_rfl)) ?_ (by rfl)
  refine WE.rsliceT H (WE.callb (WE.bl H E' hs (by kernel_rfl) T.sorted (.bi _) ⟨_,.bi _,WAs.cons (WE.nm (y:=.list (((wishP ns).map fun n:Nat => (n:Int)).map .int)) E' hs (by kernel_rfl) (by rw [← intsV_eq]; rfl) (WAs.nil ?_))⟩) (by rfl))
  refine WC.sorted_ints H (by rw [List.length_map,wishP_len]; lia) fun ns' hp hso => ?_
  refine WE.un (WE.int (OpU.neg_int ⟨_,rfl,rfl,by rw [List.length_map,hp.length_eq,List.length_map,wishP_len]; lia,?_⟩))
  have hmost:(ns'.map V.int).reverse = (mostP ns).map V.int:=by
    rw [← List.map_reverse,srt_unique hp hso]; rfl
  rw [hmost]
  refine WS.cons ?_
  refine W1.assign E' (stor_of hs hfn (by kernel_rfl)) (WE.str ?_) (by rfl)
  refine WS.cons ?_
  refine W1.forR hh ?_ (by intro x; rfl)
  refine WE.callb (WE.bl H E' hs (by kernel_rfl) T.range (.ty _) ⟨_,.ty _,WAs.cons (WE.nm (y:=.int (sizeP ns:Nat)) E' hs (by kernel_rfl) rfl (WAs.nil (WC.range1 H ?_)))⟩) (by rfl)
  refine ⟨(List.range (sizeP ns)).map fun i => .int (i:Nat),by simp [iterItems],fits0 (by lia),fun i μ' τ => τ = σ ∧ ∃ j having hidden:Option LV,
    μ' = muL ns (some (.v (.int (sizeP ns:Nat)))) (some (.v (.list ((numsP ns).map .int)))) (some (.v (.list ((rowsP ns).map xoV)))) k codes row marks columns column (some (.v (intsV (wishP ns)))) table (some (.v (.list ((mostP ns).map .int)))) (some (.v (.str (wordP ns i)))) j having hidden taken noted told,⟨rfl,none,none,none,rfl⟩,?_,?_⟩
  · rintro R1 i x μ' σ' q1 _ hi ⟨rfl,j0,having,hidden,rfl⟩
    rw [List.getElem?_map] at hi
    obtain ⟨j,hj,rfl⟩:=Option.map_eq_some_iff.mp hi
    have hij:i < sizeP ns ∧ j = i:=by
      have:=List.getElem?_eq_some_iff.mp hj
      simp only [List.length_range,List.getElem_range] at this
      obtain ⟨a,b⟩:=this
      exact ⟨a,b.symm⟩
    obtain ⟨hi4,rfl⟩:=hij
    have hj4:j < 4:=by lia
    obtain ⟨hm1,hm2,hm3⟩:=mostP_at ns hi4
    have hw:=wordP_len (ns:=ns) (j:=j) (by lia)
    have hv:=havN_le ns j
    have hhl:=hidP_len (hidI_lt ns j)
    refine AT.name E' (stor_of hs hfn (by kernel_rfl)) ?_
    refine WS.cons ?_
    refine W1.lc H E' hs hfn hh ⟨by kernel_rfl,rfl,by kernel_rfl,by kernel_rfl,by kernel_rfl⟩ (by rw [kindOf_of hs]; kernel_rfl) ?_ (swaps_lc hs (by kernel_rfl))
    refine WE.nm (y:=.list ((rowsP ns).map xoV)) E' hs (by kernel_rfl) rfl ⟨_,rfl,trivial,by simp [rowsP_len]; lia,hasV j,(fun y => y),fun B' env' y K' hs' hf' hy => ?_,?_⟩
    · obtain ⟨r,hr',rfl⟩:=List.mem_map.mp hy
      have hrl:r.length ≤ 4:=by rw [rowsP_mem hr']; exact hs4
      refine ⟨WTs.one (WB.val ?_ (fun _ => rfl)),fun _ => WE.nm (y:=xoV r) K' hs' (by kernel_rfl) rfl ⟨rfl,rfl⟩⟩
      refine WE.callb (WE.gl H K' hs' (by kernel_rfl) (T.own _ (by decide +kernel)) (.adr _) ⟨_,.fn L.D7.ex.choose_spec.1,?_⟩) (by rfl)
      refine WAs.cons (WE.bin (WE.str (WE.bin (WE.str (WE.bin (WE.nm (y:=.int (j:Nat)) K' hs' (by kernel_rfl) rfl (WE.int (OpB.add_int ?_))))))))
      refine OpB.mul_str (mulOk_small (by decide) (by lia) (by lia)) ?_
      refine OpB.add_str ?_ ?_
      · have:=dots_len hj4
        lia
      refine WAs.cons (WE.nm (y:=xoV r) K' hs' (by kernel_rfl) rfl (WAs.nil ?_))
      refine ell_call H T L.D7 (hr.less (by lia)) j hj4 r hrl ?_
      refine ⟨_,.bool _,rfl,?_⟩
      show _ = decide (j < Txt.count (xo r) "x")
      rw [count_x r hrl]
      exact decide_eq_decide.mpr (by lia)
    have hhav:(((rowsP ns).map xoV).filter (hasV j)).map (fun y => y) = ((rowsP ns).filter fun r => decide (j < r.count true)).map xoV:=by
      rw [List.map_id',List.filter_map]
      congr 1
      refine List.filter_congr fun r hr' => ?_
      show decide (j < Txt.count (xo r) "x") = _
      rw [count_x r (by rw [rowsP_mem hr']; exact hs4)]
      exact decide_eq_decide.mpr (by lia)
    rw [hhav]
    refine WS.cons ?_
    refine W1.assign E' (stor_of hs hfn (by kernel_rfl)) ?_ (by rfl)
    refine WE.sub (WE.list H (WAs.cons (WE.str (WAs.cons (WE.str (WAs.cons (WE.str (WAs.cons (WE.str (WAs.nil ⟨by decide,?_⟩))))))))) (by rfl))
    refine WE.bin (WE.bin (WE.sub (WE.nm (y:=.list ((numsP ns).map .int)) E' hs (by kernel_rfl) rfl (WE.int (OpS.list (j:=0) (y:=.int ((numsP ns).getD 0 0)) rfl (.inl ⟨by lia,rfl⟩) (by lia) (by rw [List.getElem?_map,numsP_at ns (by lia)]; rfl) ?_)))))
    refine WE.bin (WE.int (WE.nm (y:=.int (j:Nat)) E' hs (by kernel_rfl) rfl (OpB.pow_int (by lia) ?_ ?_)))
    · have h3:(Builtin.Int.intBits (4:Int):Int) = 3:=by decide +kernel
      rw [h3]; lia
    rw [Int.toNat_natCast]
    obtain ⟨hp0,hp1⟩:=four_pow hj4
    refine OpB.div_int hp0 (divOk hp1) (WE.int (OpB.mod_int hh (by decide) ?_))
    have hid:Int.fmod (Int.fdiv ((numsP ns).getD 0 0) ((4:Int) ^ j)) 4 = (hidI ns j:Nat):=by
      unfold hidI
      have:=Int.fmod_nonneg_of_pos (Int.fdiv ((numsP ns).getD 0 0) ((4:Int) ^ j)) (b:=4) (by lia)
      lia
    have hid4:=hidI_lt ns j
    rw [hid]
    refine OpS.list (j:=hidI ns j) (y:=.str (hidP (hidI ns j))) rfl (.inl ⟨by lia,by lia⟩) (by lia) ?_ ?_
    · generalize hidI ns j = q at hid4
      have h4:=four (k:=q) (by lia)
      rcases h4 with rfl | rfl | rfl | rfl <;> rfl
    refine WS.cons ?_
    refine W1.aug E' (stor_of hs hfn (by kernel_rfl)) rfl ?_ (by kernel_rfl)
    refine WE.bin (WE.bin (WE.bin (WE.str ?_)))
    refine WE.callb (WE.bl H E' hs (by kernel_rfl) T.len (.bi _) ⟨_,.bi _,WAs.cons (WE.nm (y:=.list (((rowsP ns).filter fun r => decide (j < r.count true)).map xoV)) E' hs (by kernel_rfl) rfl (WAs.nil (WC.len_list (by rw [List.length_map]; show (havN ns j:Int) < _; lia) ?_)))⟩) (by rfl)
    rw [List.length_map]
    show OpB _ _ _ _ _ _ _ _ _ _ (.int (havN ns j:Nat)) _
    refine OpB.mul_str (mulOk_small (by decide) (by lia) (by lia)) ?_
    rw [mul_reps40 (by lia) (by lia),Int.toNat_natCast]
    refine WE.nm (y:=.str (hidP (hidI ns j))) E' hs (by kernel_rfl) rfl (OpB.add_str (by rw [reps_len]; lia) ?_)
    refine WE.bin (WE.str (WE.sub (WE.nm (y:=.list ((mostP ns).map .int)) E' hs (by kernel_rfl) rfl (WE.nm (y:=.int (j:Nat)) E' hs (by kernel_rfl) rfl (OpS.list (j:=j) (y:=.int ((mostP ns).getD j 0)) rfl (.inl ⟨by lia,by lia⟩) (by lia) (by rw [List.getElem?_map,hm1]; rfl) ?_)))))
    refine OpB.mul_str (mulOk_small (by decide) hm2 hm3) ?_
    rw [mul_reps41 hm2 hm3]
    refine OpB.add_str (by rw [str_app_len,reps_len,reps_len]; lia) ?_
    have hbl:=blockP_len hi4
    refine OpI.add_str (by show _ + (blockP ns j).length ≤ _; lia) ?_
    exact WS.nil (q1 _ _ ⟨rfl,_,_,_,rfl⟩)
  · rintro μ' σ' ⟨rfl,j,having,hidden,rfl⟩
    rw [List.length_map,List.length_range]
    exact h j having hidden
end
noncomputable def toldN (nts:List (Nat × Bool × Nat)) (c:Nat):List Nat:=(nts.filter fun q => q.1 == c).map fun q => q.2.2
structure NoteOk (size:Nat) (wish:Nat → Nat) (marks:List Nat) (nts:List (Nat × Bool × Nat)):Prop where
  lt:∀ q ∈ nts,q.1 < size ∧ q.2.2 < size
  told:∀ c,c < size → toldN nts c = (List.range size).filter fun k => decide (k ∈ toldN nts c)
  len:∀ c,c < size → (toldN nts c).length = wish c
  cnt:∀ k,k < size → (nts.map fun q => q.2.2).count k = marks.getD k 0
structure LawP (ns:List Int):Prop where
  asc:(wordP ns (sizeP ns)).cps.all (· < 128) = true
  asc2:(stripP (wordP ns (sizeP ns))).cps.all (· < 128) = true
  can:checkP (wordP ns (sizeP ns)) = canP ((marksP ns).map fun n:Nat => (n:Int)) ((wishP ns).map fun n:Nat => (n:Int))
  stuck:Stuck (sizeP ns) (fun c => (colsP ns).count c) (marksP ns) → checkP (wordP ns (sizeP ns)) = false
  steps:∀ f nts,Steps (sizeP ns) (fun c => (colsP ns).count c) (marksP ns) f nts → checkP (wordP ns (sizeP ns)) = true ∧ NoteOk (sizeP ns) (fun c => (colsP ns).count c) (marksP ns) nts
theorem noteE_short (nts:List (Nat × Bool × Nat)):shortE (noteE nts):=by
  intro p hp
  obtain ⟨q,_,rfl⟩:=List.mem_map.mp hp
  show (1:Nat) ≤ 1000
  decide
theorem noteE_len (nts:List (Nat × Bool × Nat)):(noteE nts).length = nts.length:=by simp [noteE]
theorem getall_noteE {c:Nat} (hc:c < 4):∀ {nts:List (Nat × Bool × Nat)},(∀ q ∈ nts,q.1 < 4) →
    ((noteE nts).filter fun p => Txt.lower p.1 == ltr c false).map (fun p => V.str p.2) = ((toldN nts c).map dig).map .str:=by
  intro nts h
  unfold noteE toldN
  rw [List.filter_map,List.filter_congr (q:=fun q => q.1 == c),List.map_map,List.map_map,List.map_map]
  · rfl
  · intro q hq
    show (Txt.lower (ltr q.1 q.2.1) == ltr c false) = _
    rw [lower_ltr (h q hq),ltr_beq]
theorem dig_inj {a b:Nat} (h:dig a = dig b):a = b:=by
  unfold dig at h
  injection h with h
  have:=congrArg (fun x => x.getD 0 0) h
  simp at this
  exact this
theorem dig_mem {k:Nat} {l:List Nat}:dig k ∈ l.map dig ↔ k ∈ l:=by
  constructor
  · intro h
    obtain ⟨m,hm,e⟩:=List.mem_map.mp h
    exact dig_inj e ▸ hm
  · exact fun h => List.mem_map.mpr ⟨k,h,rfl⟩
theorem strOk_dig {k:Nat} (h:k < 4):PyData.strOk (dig k) = true:=by
  have:∀ k,k < 4 → PyData.strOk (dig k) = true:=by decide +kernel
  exact this k h
theorem str_dig' {k:Nat} (h:k < 4):Str.ofString (toString (k:Int)) = dig k:=by
  have:=str_dig h
  rwa [Int.zero_add] at this
theorem log_small {k:Nat} (h:k < 4):(k:Int).natAbs.log2 < 1920:=by
  have:∀ k:Nat,k < 4 → (k:Int).natAbs.log2 < 1920:=by decide +kernel
  exact this k h
theorem AbCd_at {c:Nat} (hc:c < 4):(Option.bind (seqIndex? (c:Int) ("AbCd":Str).length) fun j => ("AbCd":Str).cps[j]?) = some ((if (c % 2 == 0) = true then 65 else 97) + c):=by
  have:∀ c:Nat,c < 4 → (Option.bind (seqIndex? (c:Int) ("AbCd":Str).length) fun j => ("AbCd":Str).cps[j]?) = some ((if (c % 2 == 0) = true then 65 else 97) + c):=by decide +kernel
  exact this c hc
theorem countIn_strs (k:Str):∀ l:List Str,Spec.countIn (.str k) (l.map PyData.str) = (l.count k:Nat)
  | [] => rfl
  | x :: l => by
    rw [List.map_cons,Spec.countIn,countIn_strs k l,List.count_cons]
    simp only [Spec.same]
    split <;> simp_all <;> lia
theorem count_dig (l:List Nat) (k:Nat):(l.map dig).count (dig k) = l.count k:=by
  induction l with
  | nil => rfl
  | cons a l ih =>
    rw [List.map_cons,List.count_cons,List.count_cons,ih]
    by_cases h:a = k
    · subst h; simp
    · have:dig a ≠ dig k:=fun e => h (dig_inj e)
      simp [h,this]
noncomputable def inV (l:List Nat):V → Bool
  | .int k => decide (k.toNat ∈ l)
  | _ => false
noncomputable def digV:V → V
  | .int k => .str (dig k.toNat)
  | y => y
noncomputable def cntK (l:List Nat):V → V
  | .int k => .int (l.count k.toNat:Nat)
  | y => y
section
variable {prog:Program} {w:World} {Amb:Fz → Prop} {A:Around} {B:Base} {env env':Env} {μ μ':Mu} {σ σ':Sg} {mg mb:Str → Option Value} {at_:Str → Addr} {sc:Scope} {K:Frag} {mf:Str → Addr} {c P0:Addr} {lamQ:Str}
theorem WC.count_strs {ns:List Str} {k:Str} {R:V → Sg → Prop} (h:R (.int (ns.count k:Nat)) σ):WC prog w Amb A B env μ σ (.builtin "list.count") [.list (ns.map V.str),.str k] R :=
  WC.two fun v u P s F φ m ow S r r' => by
    cases r'
    obtain ⟨l,us,n,rfl,hF,hL⟩:=r.inv
    refine count_list_strs (vs:=us.toList) ⟨_,S.sub _ _ hF,rfl,n,by simp [listO]⟩ (strsAre_of hL) ?_
    rw [countIn_strs]
    exact ⟨_,σ,⟨F,φ,m,ow,(S.grow (Grow.toks _)).add (.int _ _)⟩,h⟩
theorem law_s5 {i i0:Nat} {tp0:Array Value} {ps0:List (Nat × Bool)} (L:LawX prog w Amb mg mb at_ mf K c P0 lamQ) (E':EnvOk env) (hs:env.scope = fnScope 31) (hfn:env.func.isSome = true) (hr:Room A 8) (hφ:B.φ0[i0]? = some P0) {ns:List Int} (Z:LawP ns)
    {numbers rows k codes row columns column most j having hidden taken noted told:Option LV} {R:Fl → Mu → Sg → Prop}
    (hi0:i0 ≠ i) (hi:i < σ.length) (hσ0:σ[i0]? = some (.tab lamPos lamQ tp0)) (hσ:σ[i]? = some (.lst (tabE ps0 fun c => (colsP ns).count c))) (hps:PsOk (sizeP ns) ps0) (hR:∀ μ' σ',σ'[i0]? = some (.tab lamPos lamQ tp0) → R (.ret (.bool true)) μ' σ') :
    WS prog w Amb A B env (muL ns (some (.v (.int (sizeP ns:Nat)))) numbers rows k codes row (some (.v (intsV (marksP ns)))) columns column (some (.v (intsV (wishP ns)))) (some (.v (.hdr i))) most (some (.v (.str (wordP ns (sizeP ns))))) j having hidden none none none)
      σ ((fnBody 31).drop 12) R:=by
  have hh:=hr.handled
  have H:=L.X.H
  have T:=L.X.T
  have hzz:sizeLine = 16777216:=by decide
  have hsz:=sizeP_or ns
  have hs4:sizeP ns ≤ 4:=by lia
  have hu:A.units + 64 < cLine:=by have:=hr.units; show A.units + 64 < 9900; lia
  obtain ⟨fda,Ka,_,_⟩:=L.X.getall.ex
  obtain ⟨fdv,Kv,_,_⟩:=L.X.values.ex
  obtain ⟨fdg,Kg,_⟩:=L.G.ex
  have hwl:(wordP ns (sizeP ns)).length ≤ 200:=by
    have:=wordP_len (ns:=ns) (Nat.le_refl _)
    lia
  refine WS.cons ?_
  refine W1.assign E' (stor_of hs hfn (by kernel_rfl)) ?_ (by rfl)
  refine WE.callb (WE.gl H E' hs (by kernel_rfl) (T.own _ (by decide +kernel)) (.adr _) ⟨_,.fn L.D4.ex.choose_spec.1,?_⟩) (by rfl)
  refine WAs.cons (WE.nm E' hs (by kernel_rfl) rfl (WAs.nil ?_))
  refine check_call H T L.hen L.D4 L.D3 L.D2 (hr.less (by lia)) _ Z.asc hwl Z.asc2 ?_
  refine WS.cons ?_
  refine W1.assign E' (stor_of hs hfn (by kernel_rfl)) ?_ (by rfl)
  refine WE.callb (WE.gl H E' hs (by kernel_rfl) (T.own _ (by decide +kernel)) (.adr _) ⟨_,.fn Kg,?_⟩) (by rfl)
  refine WAs.cons (WE.nm (y:=.hdr i) E' hs (by kernel_rfl) rfl (WAs.cons (WE.nm (y:=intsV (marksP ns)) E' hs (by kernel_rfl) rfl (WAs.nil ?_))))
  refine granted_call L.X L.hsys L.Dk L.hH L.Tb L.G (hr.less (by lia)) hφ hi0 hi hσ0 hσ hps hs4 (fun d => count_le16 ns d) (by rw [marksP_len]; exact hs4) (fun m hm => by have:=marksP_mem hm; lia) (fun σ' hst hstt => ?_) (fun ps f nts hp hst => ?_)
  · have hch:=Z.stuck hst
    refine WS.cons ?_
    refine W1.if_ (WB.or2 (WB.cmp' ?_ (by rfl)))
    refine WE.nm (y:=.bool (checkP (wordP ns (sizeP ns)))) E' hs (by kernel_rfl) rfl ?_
    refine WE.callb (WE.gl H E' hs (by kernel_rfl) (T.own _ (by decide +kernel)) (.adr _) ⟨_,.fn L.D30.ex.choose_spec.1,?_⟩) (by rfl)
    refine WAs.cons (WE.nm (y:=.list (((marksP ns).map fun n:Nat => (n:Int)).map .int)) E' hs (by kernel_rfl) (by rw [← intsV_eq]; rfl) (WAs.cons (WE.nm (y:=.list (((wishP ns).map fun n:Nat => (n:Int)).map .int)) E' hs (by kernel_rfl) (by rw [← intsV_eq]; rfl) (WAs.nil ?_))))
    refine can_call H T L.D30 L.D29 (hr.less (by lia)) _ _ (by rw [List.length_map,wishP_len]; exact hs4) (by rw [List.length_map,marksP_len]; exact hs4) ?_
    rw [← Z.can,hch]
    refine OpC.ne_bool ⟨_,.bool _,?_⟩
    first | refine iteF (by decide) ?_ | rw [if_neg (by decide)]
    refine WB.cmp' (WE.nm (y:=.bool false) E' hs (by kernel_rfl) rfl (WE.cmp' (WE.nm (y:=.none) E' hs (by kernel_rfl) rfl (WE.none (OpC.isnot_none NoneIs.none ?_))) (by rfl))) (by rfl)
    refine OpC.ne_bool ⟨_,.bool _,?_⟩
    first | refine iteF (by decide) ?_ | rw [if_neg (by decide)]
    refine WS.nil (WS.cons ?_)
    refine W1.if_ (WB.cmp' (WE.nm (y:=.none) E' hs (by kernel_rfl) rfl (WE.none (OpC.is_none NoneIs.none ⟨_,.bool _,?_⟩))) (by rfl))
    first | refine iteT (by decide) ?_ | rw [if_pos (by decide)]
    exact WS.cons (W1.ret (WE.bool (hR _ _ hstt)))
  · obtain ⟨hch,N⟩:=Z.steps f nts hst
    have hnl:nts.length ≤ 16:=by
      have h1:=hst.len
      rw [marksP_len] at h1
      have:sizeP ns * sizeP ns ≤ 4 * 4:=Nat.mul_le_mul hs4 hs4
      lia
    have hn4:∀ q ∈ nts,q.1 < 4:=fun q hq => by have:=(N.lt q hq).1; lia
    have htl:∀ c,∀ k ∈ toldN nts c,k < 4:=fun c k hk => by
      obtain ⟨q,hq,rfl⟩:=List.mem_map.mp hk
      have:=(N.lt q (List.mem_filter.mp hq).1).2
      lia
    have hdk:∀ d,∀ x ∈ (toldN nts d).map dig,PyData.strOk x = true:=fun d x hx => by
      obtain ⟨k,hk,rfl⟩:=List.mem_map.mp hx
      exact strOk_dig (htl d k hk)
    have hnn:(sgF σ i (tabE ps f) (noteE nts))[σ.length]? = some (.lst (noteE nts)):=sg_n
    have hnt:(sgF σ i (tabE ps f) (noteE nts))[i0]? = some (.tab lamPos lamQ tp0):=sg_tab hi0 hσ0
    generalize sgF σ i (tabE ps f) (noteE nts) = τ at hnn hnt
    refine WS.cons ?_
    refine W1.if_ (WB.or2 (WB.cmp' ?_ (by rfl)))
    refine WE.nm (y:=.bool (checkP (wordP ns (sizeP ns)))) E' hs (by kernel_rfl) rfl ?_
    refine WE.callb (WE.gl H E' hs (by kernel_rfl) (T.own _ (by decide +kernel)) (.adr _) ⟨_,.fn L.D30.ex.choose_spec.1,?_⟩) (by rfl)
    refine WAs.cons (WE.nm (y:=.list (((marksP ns).map fun n:Nat => (n:Int)).map .int)) E' hs (by kernel_rfl) (by rw [← intsV_eq]; rfl) (WAs.cons (WE.nm (y:=.list (((wishP ns).map fun n:Nat => (n:Int)).map .int)) E' hs (by kernel_rfl) (by rw [← intsV_eq]; rfl) (WAs.nil ?_))))
    refine can_call H T L.D30 L.D29 (hr.less (by lia)) _ _ (by rw [List.length_map,wishP_len]; exact hs4) (by rw [List.length_map,marksP_len]; exact hs4) ?_
    rw [← Z.can,hch]
    refine OpC.ne_bool ⟨_,.bool _,?_⟩
    first | refine iteF (by decide) ?_ | rw [if_neg (by decide)]
    refine WB.cmp' (WE.nm (y:=.bool true) E' hs (by kernel_rfl) rfl (WE.cmp' (WE.nm (y:=.hdr σ.length) E' hs (by kernel_rfl) rfl (WE.none (OpC.isnot_none (NoneIs.hdr _) ?_))) (by rfl))) (by rfl)
    refine OpC.ne_bool ⟨_,.bool _,?_⟩
    first | refine iteF (by decide) ?_ | rw [if_neg (by decide)]
    refine WS.nil (WS.cons ?_)
    refine W1.if_ (WB.cmp' (WE.nm (y:=.hdr σ.length) E' hs (by kernel_rfl) rfl (WE.none (OpC.is_none (NoneIs.hdr _) ⟨_,.bool _,?_⟩))) (by rfl))
    first | refine iteF (by decide) ?_ | rw [if_neg (by decide)]
    refine WS.nil (WS.cons ?_)
    refine W1.forR hh ?_ (by intro x; rfl)
    refine WE.callb (WE.bl H E' hs (by kernel_rfl) T.range (.ty _) ⟨_,.ty _,WAs.cons (WE.nm (y:=.int (sizeP ns:Nat)) E' hs (by kernel_rfl) rfl (WAs.nil (WC.range1 H ?_)))⟩) (by rfl)
    refine ⟨(List.range (sizeP ns)).map fun i => .int (i:Nat),by simp [iterItems],fits0 (by lia),fun j' μ' τ' => τ' = τ ∧ ∃ column told:Option LV,
      μ' = muL ns (some (.v (.int (sizeP ns:Nat)))) numbers rows k codes row (some (.v (intsV (marksP ns)))) columns column (some (.v (intsV (wishP ns)))) (some (.v (.hdr i))) most (some (.v (.str (wordP ns (sizeP ns))))) j having hidden (some (.v (.bool true))) (some (.v (.hdr σ.length))) told,⟨rfl,_,_,rfl⟩,?_,?_⟩
    · rintro R1 i' x μ' σ' q1 q2 hi' ⟨rfl,column,told,rfl⟩
      rw [List.getElem?_map] at hi'
      obtain ⟨d,hj,rfl⟩:=Option.map_eq_some_iff.mp hi'
      have hij:i' < sizeP ns ∧ d = i':=by
        have:=List.getElem?_eq_some_iff.mp hj
        simp only [List.length_range,List.getElem_range] at this
        obtain ⟨a,b⟩:=this
        exact ⟨a,b.symm⟩
      obtain ⟨hd,rfl⟩:=hij
      have hd4:d < 4:=by lia
      refine AT.name E' (stor_of hs hfn (by kernel_rfl)) ?_
      refine WS.cons ?_
      refine W1.assign E' (stor_of hs hfn (by kernel_rfl)) ?_ (by rfl)
      refine WE.hmeth L.X.HK (by decide +kernel) Ka (WE.nm (y:=.hdr σ.length) E' hs (by kernel_rfl) rfl ⟨_,rfl,WAs.cons (WE.sub (WE.str (WE.nm (y:=.int (d:Nat)) E' hs (by kernel_rfl) rfl (OpS.str rfl (by lia) (AbCd_at hd4) (WAs.nil ?_)))))⟩) (by rfl) (by rfl) (by rfl) (by rfl)
      refine hgetall_call (x:=ltr d (d % 2 == 0)) L.X (hr.less (by lia)) hnn (by rw [noteE_len]; lia) (noteE_short _) (by show (1:Nat) ≤ 1000; decide) ⟨d,hd4,false,lower_ltr hd4 _⟩ ?_
      rw [lower_ltr hd4,getall_noteE hd4 hn4]
      refine WS.cons ?_
      refine W1.if_ (WB.or2 (WB.cmp' ?_ (by rfl)))
      refine WE.nm (y:=.list (((toldN nts d).map dig).map .str)) E' hs (by kernel_rfl) rfl ?_
      refine WE.lc H E' hs hfn hh ⟨by kernel_rfl,rfl,by kernel_rfl,by kernel_rfl,by kernel_rfl⟩ ?_
      refine WE.callb (WE.bl H E' hs (by kernel_rfl) T.range (.ty _) ⟨_,.ty _,WAs.cons (WE.nm (y:=.int (sizeP ns:Nat)) E' hs (by kernel_rfl) rfl (WAs.nil (WC.range1 H ?_)))⟩) (by rfl)
      refine ⟨(List.range (sizeP ns)).map fun i => .int (i:Nat),by simp [iterS,iterItems],fits0 (by lia),by simp; lia,inV (toldN nts d),digV,fun B' env' y K' hs' hf' hy => ?_,?_⟩
      · obtain ⟨t,ht,rfl⟩:=List.mem_map.mp hy
        have ht4:t < 4:=by have:=List.mem_range.mp ht; lia
        refine ⟨WTs.one (WB.cmp' (WE.callb (WE.bl H K' hs' (by kernel_rfl) T.str (.ty _) ⟨_,.ty _,WAs.cons (WE.nm (y:=.int (t:Nat)) K' hs' (by kernel_rfl) rfl (WAs.nil (WC.str_int (log_small ht4) ?_)))⟩) (by rfl)) (by rfl)),fun _ => ?_⟩
        · rw [str_dig' ht4]
          refine WE.nm (y:=.list (((toldN nts d).map dig).map .str)) K' hs' (by kernel_rfl) rfl (OpC.in_strs hu (hdk d) (strOk_dig ht4) ⟨_,.bool _,rfl,?_⟩)
          exact decide_eq_decide.mpr dig_mem
        · refine WE.callb (WE.bl H K' hs' (by kernel_rfl) T.str (.ty _) ⟨_,.ty _,WAs.cons (WE.nm (y:=.int (t:Nat)) K' hs' (by kernel_rfl) rfl (WAs.nil (WC.str_int (log_small ht4) ?_)))⟩) (by rfl)
          rw [str_dig' ht4]
          exact ⟨rfl,rfl⟩
      have e1:(((List.range (sizeP ns)).map fun i => V.int (i:Nat)).filter (inV (toldN nts d))).map digV = ((toldN nts d).map dig).map .str:=by
        have e2:=N.told d hd
        rw [List.filter_map,List.map_map]
        conv => rhs; rw [e2]
        rw [List.map_map]
        rfl
      rw [e1]
      refine OpC.ne_strs hu (hdk d) (hdk d) ⟨_,.bool _,?_⟩
      first | refine iteF (by simp) ?_ | rw [if_neg (by simp)]
      refine WB.cmp' (WE.callb (WE.bl H E' hs (by kernel_rfl) T.len (.bi _) ⟨_,.bi _,WAs.cons (WE.nm (y:=.list (((toldN nts d).map dig).map .str)) E' hs (by kernel_rfl) rfl (WAs.nil (WC.len_list ?_ ?_)))⟩) (by rfl)) (by rfl)
      · have h1:(toldN nts d).length ≤ nts.length:=by
          unfold toldN
          rw [List.length_map]
          exact List.length_filter_le ..
        rw [List.length_map,List.length_map]
        lia
      refine WE.sub (WE.nm (y:=intsV (wishP ns)) E' hs (by kernel_rfl) rfl (WE.nm (y:=.int (d:Nat)) E' hs (by kernel_rfl) rfl (OpS.list (j:=d) (y:=.int ((colsP ns).count d:Nat)) rfl (.inl ⟨by lia,by lia⟩) (by lia) ?_ ?_)))
      · unfold wishP
        rw [List.map_map,List.getElem?_map,List.getElem?_range hd]
        rfl
      rw [List.length_map,List.length_map,N.len d hd]
      refine OpC.ne_int ⟨_,.bool _,?_⟩
      first | refine iteF (by simp) ?_ | rw [if_neg (by simp)]
      exact WS.nil (WS.nil (q1 _ _ ⟨rfl,_,_,rfl⟩))
    · rintro μ' σ' ⟨rfl,column,told,rfl⟩
      refine WS.cons (W1.ret (WE.cmp' ?_ (by rfl)))
      refine WE.lc H E' hs hfn hh ⟨by kernel_rfl,rfl,by kernel_rfl,by kernel_rfl,by kernel_rfl⟩ ?_
      refine WE.callb (WE.bl H E' hs (by kernel_rfl) T.range (.ty _) ⟨_,.ty _,WAs.cons (WE.nm (y:=.int (sizeP ns:Nat)) E' hs (by kernel_rfl) rfl (WAs.nil (WC.range1 H ?_)))⟩) (by rfl)
      refine ⟨(List.range (sizeP ns)).map fun i => .int (i:Nat),by simp [iterS,iterItems],fits0 (by lia),by simp; lia,fun _ => true,cntK (nts.map fun q => q.2.2),fun B' env' y K' hs' hf' hy => ?_,?_⟩
      · obtain ⟨t,ht,rfl⟩:=List.mem_map.mp hy
        have ht4:t < 4:=by have:=List.mem_range.mp ht; lia
        refine ⟨WTs.nil ⟨rfl,rfl⟩,fun _ => ?_⟩
        refine WE.meth (WE.hmeth L.X.HK (by decide +kernel) Kv (WE.nm (y:=.hdr σ.length) K' hs' (by kernel_rfl) rfl ⟨_,rfl,WAs.nil (hvalues_call L.X (hr.less (by lia)) hnn (by rw [noteE_len]; lia) ?_)⟩) (by rfl) (by rfl) (by rfl) (by rfl)) (by rfl) (by rfl) (by rfl) (by rfl)
        have e1:(noteE nts).map (fun p => V.str p.2) = ((nts.map fun q => q.2.2).map dig).map .str:=by
          unfold noteE
          rw [List.map_map,List.map_map,List.map_map]
          rfl
        rw [e1]
        refine ⟨_,meth_list PySem.F.slot_list_count PySem.F.type_list_count,WAs.cons ?_⟩
        refine WE.callb (WE.bl H K' hs' (by kernel_rfl) T.str (.ty _) ⟨_,.ty _,WAs.cons (WE.nm (y:=.int (t:Nat)) K' hs' (by kernel_rfl) rfl (WAs.nil (WC.str_int (log_small ht4) ?_)))⟩) (by rfl)
        rw [str_dig' ht4]
        refine WAs.nil (WC.count_strs ?_)
        rw [count_dig]
        exact ⟨rfl,rfl⟩
      have e1:(((List.range (sizeP ns)).map fun i => V.int (i:Nat)).filter fun _ => true).map (cntK (nts.map fun q => q.2.2)) = ((marksP ns).map fun n:Nat => (n:Int)).map V.int:=by
        rw [filter_tt,List.map_map,List.map_map]
        refine List.ext_getElem? fun k => ?_
        rw [List.getElem?_map,List.getElem?_map]
        by_cases hk:k < sizeP ns
        · have hk':k < (marksP ns).length:=by rw [marksP_len]; exact hk
          rw [List.getElem?_range hk,List.getElem?_eq_getElem hk']
          have h1:=N.cnt k hk
          rw [List.getD_eq_getElem?_getD,List.getElem?_eq_getElem hk'] at h1
          show some (V.int ((List.count k (nts.map fun q => q.2.2):Nat):Int)) = some (V.int (((marksP ns)[k]'hk':Nat):Int))
          rw [h1]; rfl
        · rw [List.getElem?_eq_none (by simpa using hk),List.getElem?_eq_none (by rw [marksP_len]; lia)]
          rfl
      rw [e1]
      refine WE.nm (y:=.list (((marksP ns).map fun n:Nat => (n:Int)).map .int)) E' hs (by kernel_rfl) (by rw [← intsV_eq]; rfl) (OpC.eq_ints hu ?_)
      rw [decide_eq_true rfl]
      exact hR _ _ hnt
end
section
variable {prog:Program} {w:World} {Amb:Fz → Prop} {A:Around} {B:Base} {env env':Env} {μ μ':Mu} {σ σ':Sg} {mg mb:Str → Option Value} {at_:Str → Addr} {sc:Scope} {K:Frag} {mf:Str → Addr} {c P0:Addr} {lamQ:Str}
theorem law_body {i0:Nat} {tp0:Array Value} (L:LawX prog w Amb mg mb at_ mf K c P0 lamQ) (E':EnvOk env) (hs:env.scope = fnScope 31) (hfn:env.func.isSome = true) (hr:Room A 8) (hφ:B.φ0[i0]? = some P0) {ns:List Int} (hns:ns.length ≤ 1000) (Z:LawP ns)
    (hσ0:σ[i0]? = some (.tab lamPos lamQ tp0)) :
    WS prog w Amb A B env (mu0 ["script"] [.list (ns.map .int)] lawRest) σ (fnBody 31) (fun fl μ' σ' => fl = .ret (.bool true) ∧ σ'[i0]? = some (.tab lamPos lamQ tp0)):=by
  have hi0:=(List.getElem?_eq_some_iff.mp hσ0).1
  refine law_s1 L E' hs hfn hr hns fun k codes row => ?_
  refine law_s2 L E' hs hfn hr fun ps hps => ?_
  refine law_s3 L E' hs hfn hr hps ?_
  refine law_s4 L E' hs hfn hr fun j having hidden => ?_
  refine law_s5 (taken:=none) (noted:=none) (told:=none) L E' hs hfn hr hφ Z (i:=σ.length) (by lia) (by simp) (by rw [List.getElem?_append_left hi0]; exact hσ0) List.getElem?_concat_length hps fun _ _ h => ⟨rfl,h⟩
end
noncomputable def hidL:Nat → List Nat
  | 0 => []
  | 1 => [92,41]
  | 2 => [34,41,40,34]
  | _ => [92,92]
noncomputable def hidS:Nat → List Nat
  | 0 => []
  | 1 => [92,41]
  | 2 => []
  | _ => [92,92]
noncomputable abbrev Blk:=Nat × Nat × Nat
noncomputable def blkL (b:Blk):List Nat:=List.replicate b.1 40 ++ (hidL b.2.1 ++ List.replicate b.2.2 41)
noncomputable def blkS (b:Blk):List Nat:=List.replicate b.1 40 ++ (hidS b.2.1 ++ List.replicate b.2.2 41)
noncomputable def wl (bs:List Blk):List Nat:=bs.flatMap blkL
noncomputable def ws (bs:List Blk):List Nat:=bs.flatMap blkS
noncomputable def sOf (l:List Nat):Str:=⟨l.toArray⟩
theorem escGo_p (r:List Nat) (i:Nat) (p p':Int):escGo r i false p = escGo r i false p':=by cases r <;> rfl
theorem esc_char {c:Nat} (h:c ≠ 92) (r:List Nat) (i:Nat) (p:Int):escGo (c :: r) i false p = ((i:Int),(⟨#[c]⟩:Str)) :: escGo r (i + 1) false 0:=by
  have:(⟨#[c]⟩:Str) ≠ "\\":=by
    have e:("\\":Str) = ⟨#[92]⟩:=by decide +kernel
    rw [e]; intro q; injection q with q; injection q with q; injection q with q; exact h q
  rw [escGo,if_neg this,escGo_p]
theorem esc_back (c:Nat) (r:List Nat) (i:Nat) (p:Int):escGo (92 :: c :: r) i false p = (((i + 1:Nat):Int),("\\":Str) ++ ⟨#[c]⟩) :: escGo r (i + 2) false 0:=by
  have:(⟨#[92]⟩:Str) = "\\":=by decide +kernel
  rw [escGo,if_pos this,escGo,escGo_p]
theorem strip_keep {x:Str} {st:Int × Option Int × List Str} {q:Int × Str} (h:q.2 ≠ "\""):stripStep x st q = st:=by unfold stripStep; rw [if_neg h]
theorem one_ne {c d:Nat} {y:Str} (hy:y = ⟨#[d]⟩) (h:c ≠ d):(⟨#[c]⟩:Str) ≠ y:=by
  rw [hy]; intro q; injection q with q; injection q with q; injection q with q; exact h q
theorem quo_eq:("\"":Str) = ⟨#[34]⟩:=by decide +kernel
theorem opn_eq:("(":Str) = ⟨#[40]⟩:=by decide +kernel
theorem cls_eq:(")":Str) = ⟨#[41]⟩:=by decide +kernel
theorem fold_rep {x:Str} {c:Nat} (h1:c ≠ 92) (h2:c ≠ 34):∀ (n:Nat) (r:List Nat) (i:Nat) (st:Int × Option Int × List Str),
    (escGo (List.replicate n c ++ r) i false 0).foldl (stripStep x) st = (escGo r (i + n) false 0).foldl (stripStep x) st
  | 0,r,i,st => rfl
  | n + 1,r,i,st => by
    rw [List.replicate_succ,List.cons_append,esc_char h1,List.foldl_cons,strip_keep (one_ne quo_eq h2),fold_rep h1 h2 n r (i + 1) st]
    rw [show i + 1 + n = i + (n + 1) by lia]
structure SInv (X E:List Nat) (i s:Nat) (res:List Str):Prop where
  le:s ≤ i
  len:i ≤ X.length
  txt:(res.map fun y => y.cps.toList).flatten ++ (X.drop s).take (i - s) = E
theorem SInv.app {X E cs rest:List Nat} {i s:Nat} {res:List Str} (I:SInv X E i s res) (h:X.drop i = cs ++ rest):SInv X (E ++ cs) (i + cs.length) s res where
  le:=by have:=I.le; lia
  len:=by
    have:=congrArg List.length h
    rw [List.length_drop,List.length_append] at this
    have:=I.len
    lia
  txt:=by
    have h1:=I.le
    rw [show i + cs.length - s = (i - s) + cs.length by lia,List.take_add,← List.append_assoc,I.txt,List.drop_drop,show s + (i - s) = i by lia,h,List.take_left]
theorem slice_ab {X:List Nat} {a b:Nat} (h1:a ≤ b) (h2:b ≤ X.length):(Txt.slice (sOf X) (some (a:Int)) (some (b:Int))).cps.toList = (X.drop a).take (b - a):=by
  have:=StrLaws.sliceText_nat (sOf X) h1 (by simpa [sOf,Str.length] using h2)
  show (StrLaws.sliceText (sOf X) (some (a:Int)) (some (b:Int))).cps.toList = _
  rw [this]
  simp [sOf]
theorem slice_a {X:List Nat} {a:Nat} (h1:a ≤ X.length):(Txt.slice (sOf X) (some (a:Int)) none).cps.toList = X.drop a:=by
  have:=StrLaws.sliceText_from (x:=sOf X) (i:=(a:Int)) ⟨by lia,by simp [sOf]; lia⟩
  show (StrLaws.sliceText (sOf X) (some (a:Int)) none).cps.toList = _
  rw [this]
  simp only [sOf]
  rw [Int.toNat_natCast,List.take_of_length_le]
  rw [List.length_drop]
  lia
theorem strip_q0 (x:Str) (a p:Int) (res:List Str):stripStep x (a,none,res) (p,⟨#[34]⟩) = (a,some p,res):=by
  unfold stripStep
  first | refine iteT quo_eq.symm ?_ | rw [if_pos quo_eq.symm]
theorem strip_q1 (x:Str) (a o p:Int) (res:List Str):stripStep x (a,some o,res) (p,⟨#[34]⟩) = (p + 1,none,if a = o then res else res ++ [Txt.slice x (some a) (some o)]):=by
  unfold stripStep
  first | refine iteT quo_eq.symm ?_ | rw [if_pos quo_eq.symm]
theorem strip_blk {X E r:List Nat} {i s:Nat} {res:List Str} {b:Blk} (I:SInv X E i s res) (h:X.drop i = blkL b ++ r) :
    ∃ (s':Nat) (res':List Str),(escGo (blkL b ++ r) i false 0).foldl (stripStep (sOf X)) ((s:Int),none,res) = (escGo r (i + (blkL b).length) false 0).foldl (stripStep (sOf X)) ((s':Int),none,res') ∧ SInv X (E ++ blkS b) (i + (blkL b).length) s' res':=by
  obtain ⟨n,k,m⟩:=b
  unfold blkL blkS at *
  simp only [List.append_assoc] at h ⊢
  have I1:=I.app h
  rw [fold_rep (by decide) (by decide)]
  rw [List.length_replicate] at I1
  have h1:X.drop (i + n) = hidL k ++ (List.replicate m 41 ++ r):=by
    rw [← List.drop_drop,h]
    rw [List.drop_append_of_le_length (by simp)]
    simp
  match k,h1 with
  | 0,h1 =>
    have I2:=I1.app (cs:=List.replicate m 41) (rest:=r) h1
    refine ⟨s,res,?_,?_⟩
    · show List.foldl _ _ (escGo (List.replicate m 41 ++ r) (i + n) false 0) = _
      rw [fold_rep (by decide) (by decide)]
      simp [hidL,Nat.add_assoc]
    · simpa [hidL,hidS,Nat.add_assoc] using I2
  | 1,h1 =>
    have I2:=I1.app (cs:=[92,41] ++ List.replicate m 41) (rest:=r) (by simpa [hidL] using h1)
    refine ⟨s,res,?_,?_⟩
    · show List.foldl _ _ (escGo (92 :: 41 :: (List.replicate m 41 ++ r)) (i + n) false 0) = _
      rw [esc_back,List.foldl_cons,strip_keep (by show ("\\":Str) ++ ⟨#[41]⟩ ≠ _; decide +kernel),fold_rep (by decide) (by decide)]
      simp [hidL,Nat.add_assoc,Nat.add_comm,Nat.add_left_comm]
    · simpa [hidL,hidS,Nat.add_assoc,Nat.add_comm,Nat.add_left_comm] using I2
  | 2,h1 =>
    have hlen:i + n + 4 ≤ X.length:=by
      have:=congrArg List.length h1
      simp [hidL] at this
      have:=I1.len
      lia
    have hsp:=I1.le
    have I2:SInv X (E ++ List.replicate n 40) (i + n + 4) (i + n + 4) (if (s:Int) = ((i + n:Nat):Int) then res else res ++ [Txt.slice (sOf X) (some (s:Int)) (some ((i + n:Nat):Int))]):=by
      refine ⟨Nat.le_refl _,hlen,?_⟩
      rw [Nat.sub_self,List.take_zero,List.append_nil,← I1.txt]
      set_option tactic.hygienic true in split
      · rename_i e
        rw [show i + n - s = 0 by lia,List.take_zero,List.append_nil]
      · rw [List.map_append,List.flatten_append,List.map_cons,List.map_nil,slice_ab hsp I1.len]
        simp
    have h2:X.drop (i + n + 4) = List.replicate m 41 ++ r:=by
      rw [← List.drop_drop,h1]; rfl
    obtain ⟨res2,hres⟩:∃ r:List Str,r = if (s:Int) = ((i + n:Nat):Int) then res else res ++ [Txt.slice (sOf X) (some (s:Int)) (some ((i + n:Nat):Int))]:=⟨_,rfl⟩
    rw [← hres] at I2
    have I3:=I2.app h2
    refine ⟨i + n + 4,res2,?_,?_⟩
    · show List.foldl _ _ (escGo (34 :: 41 :: 40 :: 34 :: (List.replicate m 41 ++ r)) (i + n) false 0) = _
      rw [esc_char (by decide),esc_char (by decide),esc_char (by decide),esc_char (by decide),List.foldl_cons,List.foldl_cons,List.foldl_cons,List.foldl_cons,fold_rep (by decide) (by decide),strip_q0,strip_keep (q:=(((i + n + 1:Nat):Int),⟨#[41]⟩)) (one_ne quo_eq (by decide)),strip_keep (q:=(((i + n + 1 + 1:Nat):Int),⟨#[40]⟩)) (one_ne quo_eq (by decide)),strip_q1,← hres]
      have e1:(((i + n + 1 + 1 + 1:Nat):Int) + 1) = ((i + n + 4:Nat):Int):=by lia
      have e2:i + n + 1 + 1 + 1 + 1 + m = i + (List.replicate n 40 ++ (hidL 2 ++ List.replicate m 41)).length:=by
        simp [hidL]; lia
      rw [e1,e2]
    · simpa [hidL,hidS,Nat.add_assoc,Nat.add_comm,Nat.add_left_comm] using I3
  | k + 3,h1 =>
    have I2:=I1.app (cs:=[92,92] ++ List.replicate m 41) (rest:=r) (by simpa [hidL] using h1)
    refine ⟨s,res,?_,?_⟩
    · show List.foldl _ _ (escGo (92 :: 92 :: (List.replicate m 41 ++ r)) (i + n) false 0) = _
      rw [esc_back,List.foldl_cons,strip_keep (by show ("\\":Str) ++ ⟨#[92]⟩ ≠ _; decide +kernel),fold_rep (by decide) (by decide)]
      simp [hidL,Nat.add_assoc,Nat.add_comm,Nat.add_left_comm]
    · simpa [hidL,hidS,Nat.add_assoc,Nat.add_comm,Nat.add_left_comm] using I2
theorem wl_cons (b:Blk) (bs:List Blk):wl (b :: bs) = blkL b ++ wl bs:=by simp [wl]
theorem ws_cons (b:Blk) (bs:List Blk):ws (b :: bs) = blkS b ++ ws bs:=by simp [ws]
theorem strip_go {X:List Nat}:∀ (bs:List Blk) {E:List Nat} {i s:Nat} {res:List Str},SInv X E i s res → X.drop i = wl bs →
    ∃ (s':Nat) (res':List Str),(escGo (wl bs) i false 0).foldl (stripStep (sOf X)) ((s:Int),none,res) = ((s':Int),none,res') ∧ SInv X (E ++ ws bs) X.length s' res'
  | [],E,i,s,res,I,h => by
    refine ⟨s,res,rfl,?_⟩
    have:i = X.length:=by
      have h1:=congrArg List.length h
      simp [wl] at h1
      have:=I.len
      lia
    subst this
    simpa [ws] using I
  | b :: bs,E,i,s,res,I,h => by
    rw [wl_cons] at h ⊢
    obtain ⟨s1,res1,h1,I1⟩:=strip_blk I h
    have h2:X.drop (i + (blkL b).length) = wl bs:=by
      rw [← List.drop_drop,h,List.drop_left]
    obtain ⟨s2,res2,h3,I2⟩:=strip_go bs I1 h2
    refine ⟨s2,res2,h1.trans h3,?_⟩
    rw [ws_cons,← List.append_assoc]
    exact I2
theorem join_nil:∀ l:List Str,(Txt.join "" l).cps.toList = (l.map fun y => y.cps.toList).flatten:=by
  have e0:("":Str) = ⟨#[]⟩:=by decide +kernel
  intro l
  show (Builtin.Str.glued "" l).cps.toList = _
  rw [StrLaws.glued_eq_join]
  induction l with
  | nil => rfl
  | cons x l ih =>
    cases l with
    | nil => simp [Str.join]
    | cons y l =>
      rw [List.map_cons,List.flatten_cons,← ih]
      show ((x.cps ++ ("":Str).cps) ++ (Str.join "" (y :: l)).cps).toList = _
      rw [e0]
      simp
theorem str_ext {x y:Str} (h:x.cps.toList = y.cps.toList):x = y:=by
  cases x; cases y
  congr 1
  exact Array.toList_inj.mp h
theorem ws_same:∀ bs:List Blk,34 ∉ wl bs → ws bs = wl bs
  | [],_ => rfl
  | b :: bs,h => by
    rw [wl_cons] at h
    rw [ws_cons,wl_cons,ws_same bs fun q => h (List.mem_append_right _ q)]
    congr 1
    have hb:34 ∉ blkL b:=fun q => h (List.mem_append_left _ q)
    obtain ⟨n,k,m⟩:=b
    unfold blkL at hb
    unfold blkL blkS
    match k with
    | 0 => rfl
    | 1 => rfl
    | 2 => exact absurd (List.mem_append_right _ (List.mem_append_left _ (by simp [hidL]))) hb
    | k + 3 => rfl
theorem strip_word (bs:List Blk):stripP (sOf (wl bs)) = sOf (ws bs):=by
  unfold stripP
  by_cases h:Txt.contains (sOf (wl bs)) "\"" = true
  · first | refine iteT h ?_ | rw [if_pos h]
    obtain ⟨s,res,h1,I⟩:=strip_go (X:=wl bs) bs (E:=[]) (i:=0) (s:=0) (res:=[]) ⟨Nat.le_refl _,Nat.zero_le _,by simp⟩ rfl
    have h2:(escP (sOf (wl bs))).foldl (stripStep (sOf (wl bs))) (0,none,[]) = ((s:Int),none,res):=h1
    rw [h2]
    refine str_ext ?_
    rw [join_nil]
    have hI:=I.txt
    rw [List.nil_append] at hI
    show _ = ws bs
    rw [← hI]
    have hl:(sOf (wl bs)).length = (wl bs).length:=by simp [sOf,Str.length]
    unfold stripEnd
    rw [hl]
    have hle:=I.le
    set_option tactic.hygienic true in split
    · rw [List.map_append,List.flatten_append,List.map_cons,List.map_nil,slice_a hle,List.take_of_length_le (by rw [List.length_drop]; exact Nat.le_refl _)]
      simp
    · rename_i hn
      have:(wl bs).length - s = 0:=by
        have:¬ ((s:Int) < ((wl bs).length:Int)):=hn
        lia
      rw [this,List.take_zero,List.append_nil]
  · rw [if_neg h,ws_same]
    intro q
    apply h
    rw [quo_eq]
    show (!(Builtin.Str.occurrences _ ⟨#[34]⟩ 0 _ 1).isEmpty) = true
    rw [StrLaws.found_one,decide_eq_true_eq]
    simpa [sOf] using q
noncomputable def bal:List Blk → Nat → Bool
  | [],o => o == 0
  | b :: r,o => if b.2.2 ≤ o + b.1 then bal r (o + b.1 - b.2.2) else false
theorem check_open:∀ (n:Nat) (r:List Nat) (i:Nat) (o:Int),checkGo (escGo (List.replicate n 40 ++ r) i false 0) o = checkGo (escGo r (i + n) false 0) (o + n)
  | 0,r,i,o => by simp
  | n + 1,r,i,o => by
    rw [List.replicate_succ,List.cons_append,esc_char (by decide),checkGo_step,if_pos opn_eq.symm,check_open n]
    congr 1
    · congr 1; lia
    · lia
theorem check_close:∀ (n:Nat) (r:List Nat) (i o:Nat),checkGo (escGo (List.replicate n 41 ++ r) i false 0) o = if n ≤ o then checkGo (escGo r (i + n) false 0) ((o - n:Nat):Int) else false
  | 0,r,i,o => by simp
  | n + 1,r,i,o => by
    rw [List.replicate_succ,List.cons_append,esc_char (by decide),checkGo_step,if_neg (one_ne opn_eq (by decide)),if_pos cls_eq.symm]
    by_cases h:(o:Int) - 1 < 0
    · rw [if_pos h,if_neg (by lia)]
    · first | refine iteF h ?_ | rw [if_neg h]
      have e:(o:Int) - 1 = ((o - 1:Nat):Int):=by lia
      rw [e,check_close n]
      by_cases h2:n ≤ o - 1
      · rw [if_pos h2,if_pos (by lia)]
        congr 1
        · congr 1; lia
        · congr 1; lia
      · rw [if_neg h2,if_neg (by lia)]
theorem check_blk (b:Blk) (r:List Nat) (i o:Nat):checkGo (escGo (blkS b ++ r) i false 0) o = if b.2.2 ≤ o + b.1 then checkGo (escGo r (i + (blkS b).length) false 0) ((o + b.1 - b.2.2:Nat):Int) else false:=by
  obtain ⟨n,k,m⟩:=b
  unfold blkS
  simp only [List.append_assoc]
  rw [check_open]
  have e:(o:Int) + n = ((o + n:Nat):Int):=by lia
  rw [e]
  match k with
  | 0 =>
    show checkGo (escGo (List.replicate m 41 ++ r) (i + n) false 0) _ = _
    rw [check_close]
    simp [hidS,Nat.add_assoc]
  | 2 =>
    show checkGo (escGo (List.replicate m 41 ++ r) (i + n) false 0) _ = _
    rw [check_close]
    simp [hidS,Nat.add_assoc]
  | 1 =>
    show checkGo (escGo (92 :: 41 :: (List.replicate m 41 ++ r)) (i + n) false 0) _ = _
    rw [esc_back,checkGo_step,if_neg (by show ("\\":Str) ++ ⟨#[41]⟩ ≠ _; decide +kernel),if_neg (by show ("\\":Str) ++ ⟨#[41]⟩ ≠ _; decide +kernel),check_close]
    simp [hidS,Nat.add_assoc,Nat.add_comm,Nat.add_left_comm]
  | k + 3 =>
    show checkGo (escGo (92 :: 92 :: (List.replicate m 41 ++ r)) (i + n) false 0) _ = _
    rw [esc_back,checkGo_step,if_neg (by show ("\\":Str) ++ ⟨#[92]⟩ ≠ _; decide +kernel),if_neg (by show ("\\":Str) ++ ⟨#[92]⟩ ≠ _; decide +kernel),check_close]
    simp [hidS,Nat.add_assoc,Nat.add_comm,Nat.add_left_comm]
theorem check_go:∀ (bs:List Blk) (i o:Nat),checkGo (escGo (ws bs) i false 0) o = bal bs o
  | [],i,o => by
    show ((o:Int) == 0) = (o == 0)
    rw [Bool.eq_iff_iff,beq_iff_eq,beq_iff_eq]; lia
  | b :: bs,i,o => by
    rw [ws_cons,check_blk,bal]
    split
    · exact check_go bs _ _
    · rfl
theorem check_word (bs:List Blk):checkP (sOf (wl bs)) = bal bs 0:=by
  unfold checkP
  rw [strip_word]
  exact check_go bs 0 0
theorem wl_ascii (bs:List Blk):(∀ c ∈ wl bs,c < 128) ∧ ∀ c ∈ ws bs,c < 128:=by
  have h1:∀ k,∀ c ∈ hidL k,c < 128:=by
    intro k c hc
    match k with
    | 0 => cases hc
    | 1 => revert c; decide
    | 2 => revert c; decide
    | k + 3 => revert hc; simp [hidL]; lia
  have h2:∀ k,∀ c ∈ hidS k,c < 128:=by
    intro k c hc
    match k with
    | 0 => cases hc
    | 1 => revert c; decide
    | 2 => cases hc
    | k + 3 => revert hc; simp [hidS]; lia
  constructor
  · intro c hc
    obtain ⟨b,_,hb⟩:=List.mem_flatMap.mp hc
    unfold blkL at hb
    rcases List.mem_append.mp hb with h | h
    · rw [(List.mem_replicate.mp h).2]; decide
    · rcases List.mem_append.mp h with h | h
      · exact h1 _ c h
      · rw [(List.mem_replicate.mp h).2]; decide
  · intro c hc
    obtain ⟨b,_,hb⟩:=List.mem_flatMap.mp hc
    unfold blkS at hb
    rcases List.mem_append.mp hb with h | h
    · rw [(List.mem_replicate.mp h).2]; decide
    · rcases List.mem_append.mp h with h | h
      · exact h2 _ c h
      · rw [(List.mem_replicate.mp h).2]; decide
theorem ascii_of {l:List Nat} (h:∀ c ∈ l,c < 128):(sOf l).cps.all (· < 128) = true:=by
  rw [Array.all_eq_true']
  intro c hc
  exact decide_eq_true (h c (by simpa [sOf] using hc))
noncomputable def blksP (ns:List Int) (j:Nat):List Blk:=(List.range j).map fun j => (havN ns j,hidI ns j,((mostP ns).getD j 0).toNat)
theorem hidP_cps {k:Nat} (h:k < 4):(hidP k).cps.toList = hidL k:=by
  have:∀ k,k < 4 → (hidP k).cps.toList = hidL k:=by decide +kernel
  exact this k h
theorem word_cps (ns:List Int):∀ j,(wordP ns j).cps.toList = wl (blksP ns j)
  | 0 => by show ("":Str).cps.toList = []; decide +kernel
  | j + 1 => by
    show ((wordP ns j).cps ++ (((reps 40 (havN ns j)).cps ++ (hidP (hidI ns j)).cps) ++ (reps 41 ((mostP ns).getD j 0).toNat).cps)).toList = _
    have e:wl (blksP ns (j + 1)) = wl (blksP ns j) ++ blkL (havN ns j,hidI ns j,((mostP ns).getD j 0).toNat):=by
      unfold wl blksP
      rw [List.range_succ,List.map_append,List.flatMap_append]
      simp
    rw [e,Array.toList_append,word_cps ns j,Array.toList_append,Array.toList_append,hidP_cps (hidI_lt ns j)]
    unfold blkL reps
    simp
theorem word_eq (ns:List Int) (j:Nat):wordP ns j = sOf (wl (blksP ns j)):=str_ext (by rw [word_cps]; simp [sOf])
theorem word_asc (ns:List Int) (j:Nat):(wordP ns j).cps.all (· < 128) = true ∧ (stripP (wordP ns j)).cps.all (· < 128) = true:=by
  rw [word_eq,strip_word]
  exact ⟨ascii_of (wl_ascii _).1,ascii_of (wl_ascii _).2⟩
theorem word_check (ns:List Int) (j:Nat):checkP (wordP ns j) = bal (blksP ns j) 0:=by rw [word_eq,check_word]
noncomputable def Acol (ms:List Nat) (j:Nat):Nat:=(ms.map fun m => min m j).sum
noncomputable def subs:List Int → List (Int × Nat)
  | [] => [(0,0)]
  | x :: l => subs l ++ (subs l).map fun p => (p.1 + x,p.2 + 1)
structure Dom (ms:List Nat) (w:List Int):Prop where
  le:∀ p ∈ subs w,p.1 ≤ (Acol ms p.2:Nat)
  all:w.sum = (Acol ms w.length:Nat)
theorem Acol_cons (m:Nat) (ms:List Nat) (j:Nat):Acol (m :: ms) j = min m j + Acol ms j:=by unfold Acol; rw [List.map_cons,List.sum_cons]
theorem mem_subs_cons {x:Int} {l:List Int} {p:Int × Nat}:p ∈ subs (x :: l) ↔ p ∈ subs l ∨ ∃ q ∈ subs l,p = (q.1 + x,q.2 + 1):=by
  rw [subs,List.mem_append,List.mem_map]
  constructor
  · rintro (h | ⟨q,h,e⟩)
    · exact .inl h
    · exact .inr ⟨q,h,e.symm⟩
  · rintro (h | ⟨q,h,e⟩)
    · exact .inl h
    · exact .inr ⟨q,h,e.symm⟩
theorem subs_perm {u v:List Int} (h:u.Perm v):∀ p,p ∈ subs u → p ∈ subs v:=by
  induction h with
  | nil => exact fun _ h => h
  | cons x _ ih =>
    intro p hp
    rcases mem_subs_cons.mp hp with h | ⟨q,h,e⟩
    · exact mem_subs_cons.mpr (.inl (ih p h))
    · exact mem_subs_cons.mpr (.inr ⟨q,ih q h,e⟩)
  | swap x y l =>
    intro p hp
    rcases mem_subs_cons.mp hp with h | ⟨q,h,e⟩
    · rcases mem_subs_cons.mp h with h | ⟨r,h,e'⟩
      · exact mem_subs_cons.mpr (.inl (mem_subs_cons.mpr (.inl h)))
      · exact mem_subs_cons.mpr (.inr ⟨r,mem_subs_cons.mpr (.inl h),e'⟩)
    · rcases mem_subs_cons.mp h with h | ⟨r,h,e'⟩
      · exact mem_subs_cons.mpr (.inl (mem_subs_cons.mpr (.inr ⟨q,h,e⟩)))
      · refine mem_subs_cons.mpr (.inr ⟨(r.1 + y,r.2 + 1),mem_subs_cons.mpr (.inr ⟨r,h,rfl⟩),?_⟩)
        rw [e,e']
        show (r.1 + x + y,_) = (r.1 + y + x,_)
        congr 1
        lia
  | trans _ _ ih1 ih2 => exact fun p h => ih2 p (ih1 p h)
theorem sum_perm {u v:List Int} (h:u.Perm v):u.sum = v.sum:=by
  induction h with
  | nil => rfl
  | cons x _ ih => rw [List.sum_cons,List.sum_cons,ih]
  | swap x y l => rw [List.sum_cons,List.sum_cons,List.sum_cons,List.sum_cons]; lia
  | trans _ _ ih1 ih2 => exact ih1.trans ih2
theorem Dom.perm {ms:List Nat} {u v:List Int} (D:Dom ms u) (h:u.Perm v):Dom ms v :=
  ⟨fun p hp => D.le p (subs_perm h.symm p hp),by rw [← sum_perm h,← h.length_eq]; exact D.all⟩
noncomputable def Nn (w:List Int):Prop:=∀ x ∈ w,0 ≤ x
theorem Nn.perm {u v:List Int} (h:Nn u) (p:u.Perm v):Nn v:=fun x hx => h x (p.mem_iff.mpr hx)
theorem Nn.sum:∀ {w:List Int},Nn w → 0 ≤ w.sum
  | [],_ => by simp
  | x :: l,h => by
    have h1:=h x (List.mem_cons_self ..)
    have h2:=Nn.sum (w:=l) fun y hy => h y (List.mem_cons_of_mem _ hy)
    rw [List.sum_cons]; lia
theorem subs_le {w:List Int} (h:Nn w):∀ p ∈ subs w,p.1 ≤ w.sum:=by
  induction w with
  | nil => intro p hp; rw [subs,List.mem_singleton] at hp; subst hp; simp
  | cons x l ih =>
    intro p hp
    have h1:=h x (List.mem_cons_self ..)
    have h2:=ih fun y hy => h y (List.mem_cons_of_mem _ hy)
    rw [List.sum_cons]
    rcases mem_subs_cons.mp hp with hp | ⟨q,hq,rfl⟩
    · have:=h2 p hp; lia
    · have:=h2 q hq
      show q.1 + x ≤ _
      lia
theorem Dom.nil_of {w:List Int} (h:Nn w) (hs:w.sum = 0):Dom [] w:=by
  have e:∀ j,Acol [] j = 0:=fun j => rfl
  exact ⟨fun p hp => by have:=subs_le h p hp; rw [e]; lia,by rw [e]; exact hs⟩
theorem Dom.zero {w:List Int} (h:Nn w) (D:Dom [] w):∀ x ∈ w,x = 0:=by
  have hs:w.sum = 0:=D.all
  clear D
  induction w with
  | nil => intro x hx; cases hx
  | cons y l ih =>
    have h1:=h y (List.mem_cons_self ..)
    have h2:Nn l:=fun z hz => h z (List.mem_cons_of_mem _ hz)
    have h3:=h2.sum
    rw [List.sum_cons] at hs
    intro x hx
    rcases List.mem_cons.mp hx with rfl | hx
    · lia
    · exact ih h2 (by lia) x hx
inductive DecP:List Int → List Int → Nat → Prop
  | nil:DecP [] [] 0
  | keep (x:Int) {u v:List Int} {m:Nat}:DecP u v m → DecP (x :: u) (x :: v) m
  | take (x:Int) {u v:List Int} {m:Nat}:0 < x → DecP u v m → DecP (x :: u) ((x - 1) :: v) (m + 1)
theorem DecP.len {u v:List Int} {m:Nat} (h:DecP u v m):v.length = u.length ∧ m ≤ u.length:=by
  induction h with
  | nil => simp
  | keep x _ ih => simp only [List.length_cons]; lia
  | take x _ _ ih => simp only [List.length_cons]; lia
theorem DecP.sum {u v:List Int} {m:Nat} (h:DecP u v m):u.sum = v.sum + m:=by
  induction h with
  | nil => simp
  | keep x _ ih => rw [List.sum_cons,List.sum_cons,ih]; lia
  | take x _ _ ih => rw [List.sum_cons,List.sum_cons,ih]; lia
theorem DecP.nn {u v:List Int} {m:Nat} (h:DecP u v m) (hu:Nn u):Nn v:=by
  induction h with
  | nil => exact hu
  | keep x _ ih =>
    intro y hy
    rcases List.mem_cons.mp hy with rfl | hy
    · exact hu _ (List.mem_cons_self ..)
    · exact ih (fun z hz => hu z (List.mem_cons_of_mem _ hz)) y hy
  | take x hx _ ih =>
    intro y hy
    rcases List.mem_cons.mp hy with rfl | hy
    · lia
    · exact ih (fun z hz => hu z (List.mem_cons_of_mem _ hz)) y hy
theorem DecP.subs {u v:List Int} {m:Nat} (h:DecP u v m):∀ p ∈ subs u,∃ s,(s,p.2) ∈ subs v ∧ p.1 ≤ s + (min m p.2:Nat):=by
  induction h with
  | nil => intro p hp; rw [Mine.subs,List.mem_singleton] at hp; subst hp; exact ⟨0,by simp [Mine.subs],by simp⟩
  | keep x _ ih =>
    intro p hp
    rcases mem_subs_cons.mp hp with hp | ⟨q,hq,rfl⟩
    · obtain ⟨s,h1,h2⟩:=ih p hp
      exact ⟨s,mem_subs_cons.mpr (.inl h1),h2⟩
    · obtain ⟨s,h1,h2⟩:=ih q hq
      refine ⟨s + x,mem_subs_cons.mpr (.inr ⟨_,h1,rfl⟩),?_⟩
      show q.1 + x ≤ _ + ((min _ (q.2 + 1):Nat):Int)
      lia
  | take x _ _ ih =>
    intro p hp
    rcases mem_subs_cons.mp hp with hp | ⟨q,hq,rfl⟩
    · obtain ⟨s,h1,h2⟩:=ih p hp
      exact ⟨s,mem_subs_cons.mpr (.inl h1),by lia⟩
    · obtain ⟨s,h1,h2⟩:=ih q hq
      refine ⟨s + (x - 1),mem_subs_cons.mpr (.inr ⟨_,h1,rfl⟩),?_⟩
      show q.1 + x ≤ _ + ((min _ (q.2 + 1):Nat):Int)
      lia
theorem Dom.back {u v:List Int} {m:Nat} {ms:List Nat} (h:DecP u v m) (D:Dom ms v):Dom (m :: ms) u:=by
  refine ⟨fun p hp => ?_,?_⟩
  · obtain ⟨s,h1,h2⟩:=h.subs p hp
    have:=D.le _ h1
    rw [Acol_cons]
    dsimp only at this
    lia
  · have h1:=h.sum
    have h2:=h.len
    have h3:=D.all
    rw [Acol_cons,h1,h3,h2.1]
    lia
theorem DecP.snoc_keep (x:Int) {u v:List Int} {m:Nat} (h:DecP u v m):DecP (u ++ [x]) (v ++ [x]) m:=by
  induction h with
  | nil => exact .keep x .nil
  | keep y _ ih => exact .keep y ih
  | take y hy _ ih => exact .take y hy ih
theorem DecP.snoc_take (x:Int) (hx:0 < x) {u v:List Int} {m:Nat} (h:DecP u v m):DecP (u ++ [x]) (v ++ [x - 1]) (m + 1):=by
  induction h with
  | nil => exact .take x hx .nil
  | keep y _ ih => exact .keep y ih
  | take y hy _ ih => exact .take y hy ih
theorem DecP.reverse {u v:List Int} {m:Nat} (h:DecP u v m):DecP u.reverse v.reverse m:=by
  induction h with
  | nil => exact .nil
  | keep x _ ih => rw [List.reverse_cons,List.reverse_cons]; exact ih.snoc_keep x
  | take x hx _ ih => rw [List.reverse_cons,List.reverse_cons]; exact ih.snoc_take x hx
theorem DecP.refl:∀ u:List Int,DecP u u 0
  | [] => .nil
  | x :: u => .keep x (DecP.refl u)
theorem DecP.first:∀ (m:Nat) (u:List Int),m ≤ u.length → (∀ x ∈ u.take m,0 < x) → DecP u ((u.take m).map (· - 1) ++ u.drop m) m
  | 0,u,_,_ => by simpa using DecP.refl u
  | m + 1,[],h,_ => by simp at h
  | m + 1,x :: u,h,hp => by
    rw [List.take_succ_cons,List.drop_succ_cons,List.map_cons,List.cons_append]
    refine .take x (hp x (by simp)) (DecP.first m u (by simpa using h) fun y hy => hp y ?_)
    rw [List.take_succ_cons]
    exact List.mem_cons_of_mem _ hy
theorem takes_dec:∀ (u:List Int) (m:Nat) (v:List Int),v ∈ takesP u (m:Int) ↔ DecP u v m
  | [],m,v => by
    unfold takesP
    constructor
    · intro h
      split at h
      · cases h
      · rw [List.mem_singleton] at h
        subst h
        have:m = 0:=by lia
        subst this
        exact .nil
    · intro h
      cases h
      simp
  | x :: u,m,v => by
    rw [takesP_cons]
    constructor
    · intro h
      split at h
      · cases h
      · rcases List.mem_append.mp h with h | h
        · obtain ⟨q,hq,rfl⟩:=List.mem_map.mp h
          exact .keep x ((takes_dec u m q).mp hq)
        · set_option tactic.hygienic true in split at h
          · rename_i hc
            obtain ⟨q,hq,rfl⟩:=List.mem_map.mp h
            obtain ⟨k,rfl⟩:∃ k,m = k + 1:=⟨m - 1,by lia⟩
            have e:((k + 1:Nat):Int) - 1 = (k:Int):=by lia
            rw [e] at hq
            exact .take x hc.2 ((takes_dec u k q).mp hq)
          · cases h
    · intro h
      have hl:=h.len.2
      rw [List.length_cons] at hl
      first | refine iteF (by lia) ?_ | rw [if_neg (by lia)]
      cases h with
      | keep _ h => exact List.mem_append_left _ (List.mem_map.mpr ⟨_,(takes_dec u m _).mpr h,rfl⟩)
      | @take _ _ v k hx h =>
        refine List.mem_append_right _ ?_
        first | refine iteT (⟨by lia,hx⟩) ?_ | rw [if_pos ⟨by lia,hx⟩]
        have e:((k + 1:Nat):Int) - 1 = (k:Int):=by lia
        rw [e]
        exact List.mem_map.mpr ⟨_,(takes_dec u k _).mpr h,rfl⟩
structure Bend (a:Nat → Nat):Prop where
  zero:a 0 = 0
  up:∀ j,a j ≤ a (j + 1)
  bend:∀ j,a (j + 2) + a j ≤ a (j + 1) + a (j + 1)
theorem Acol_bend (ms:List Nat):Bend (Acol ms):=by
  induction ms with
  | nil => exact ⟨rfl,fun _ => Nat.le_refl _,fun _ => Nat.le_refl _⟩
  | cons m ms ih =>
    refine ⟨?_,fun j => ?_,fun j => ?_⟩
    · rw [Acol_cons,ih.zero]; lia
    · rw [Acol_cons,Acol_cons]; have:=ih.up j; lia
    · rw [Acol_cons,Acol_cons,Acol_cons]; have:=ih.bend j; lia
theorem subs_app {u w:List Int}:∀ p ∈ subs (u ++ w),∃ q ∈ subs u,∃ r ∈ subs w,p.1 = q.1 + r.1 ∧ p.2 = q.2 + r.2:=by
  induction u with
  | nil => exact fun p hp => ⟨(0,0),by simp [subs],p,hp,by simp,by simp⟩
  | cons x u ih =>
    intro p hp
    rcases mem_subs_cons.mp hp with hp | ⟨p',hp',rfl⟩
    · obtain ⟨q,hq,r,hr,e⟩:=ih p hp
      exact ⟨q,mem_subs_cons.mpr (.inl hq),r,hr,e⟩
    · obtain ⟨q,hq,r,hr,e1,e2⟩:=ih p' hp'
      exact ⟨_,mem_subs_cons.mpr (.inr ⟨q,hq,rfl⟩),r,hr,by dsimp only; lia,by dsimp only; lia⟩
theorem subs_dec {u:List Int}:∀ p ∈ subs (u.map (· - 1)),∃ q ∈ subs u,p.1 = q.1 - (q.2:Nat) ∧ p.2 = q.2:=by
  induction u with
  | nil => exact fun p hp => ⟨p,hp,by rw [List.map_nil,subs,List.mem_singleton] at hp; subst hp; rfl,rfl⟩
  | cons x u ih =>
    intro p hp
    rcases mem_subs_cons.mp hp with hp | ⟨p',hp',rfl⟩
    · obtain ⟨q,hq,e⟩:=ih p hp
      exact ⟨q,mem_subs_cons.mpr (.inl hq),e⟩
    · obtain ⟨q,hq,e1,e2⟩:=ih p' hp'
      exact ⟨_,mem_subs_cons.mpr (.inr ⟨q,hq,rfl⟩),by dsimp only; lia,by dsimp only; lia⟩
noncomputable abbrev Desc (v:List Int):Prop:=v.Pairwise fun x y => y ≤ x
theorem take_shift:∀ {l:List Int} {x:Int} {k:Nat},Desc (x :: l) → k ≤ l.length → (l.take k).sum ≤ ((x :: l).take k).sum
  | _,_,0,_,_ => by rw [List.take_zero,List.take_zero]; exact Int.le_refl _
  | [],_,k + 1,_,h => absurd h (Nat.not_succ_le_zero k)
  | y :: l,x,k + 1,hd,h => by
    have h1:=take_shift (k:=k) (List.pairwise_cons.mp hd).2 (Nat.le_of_succ_le_succ h)
    have h2:=(List.pairwise_cons.mp hd).1 y (List.mem_cons_self ..)
    rw [List.take_succ_cons,List.take_succ_cons,List.sum_cons,List.sum_cons]
    exact Int.add_le_add h2 h1
theorem subs_top {v:List Int} (hd:Desc v):∀ p ∈ subs v,p.2 ≤ v.length ∧ p.1 ≤ (v.take p.2).sum:=by
  induction v with
  | nil => intro p hp; rw [subs,List.mem_singleton] at hp; subst hp; exact ⟨Nat.le_refl _,Int.le_refl _⟩
  | cons x l ih =>
    have hd':=(List.pairwise_cons.mp hd).2
    intro p hp
    rcases mem_subs_cons.mp hp with hp | ⟨q,hq,rfl⟩
    · obtain ⟨h1,h2⟩:=ih hd' p hp
      exact ⟨Nat.le_succ_of_le h1,Int.le_trans h2 (take_shift hd h1)⟩
    · obtain ⟨h1,h2⟩:=ih hd' q hq
      refine ⟨Nat.succ_le_succ h1,?_⟩
      show q.1 + x ≤ _
      rw [List.take_succ_cons,List.sum_cons]
      lia
theorem take_subs:∀ {v:List Int} {k:Nat},k ≤ v.length → ((v.take k).sum,k) ∈ subs v
  | [],0,_ => by simp [subs]
  | [],k + 1,h => absurd h (Nat.not_succ_le_zero k)
  | x :: l,0,_ => mem_subs_cons.mpr (.inl (take_subs (v:=l) (Nat.zero_le _)))
  | x :: l,k + 1,h => by
    refine mem_subs_cons.mpr (.inr ⟨_,take_subs (Nat.le_of_succ_le_succ h),?_⟩)
    rw [List.take_succ_cons,List.sum_cons,Int.add_comm]
theorem sum_up {t:Int}:∀ {l:List Int},(∀ x ∈ l,x ≤ t) → l.sum ≤ l.length * t
  | [],_ => by simp
  | x :: l,h => by
    have h1:=sum_up (l:=l) fun y hy => h y (List.mem_cons_of_mem _ hy)
    have h2:=h x (List.mem_cons_self ..)
    rw [List.sum_cons,List.length_cons,Int.natCast_succ,Int.add_mul,Int.one_mul]
    lia
theorem sum_lo {t:Int}:∀ {l:List Int},(∀ x ∈ l,t ≤ x) → l.length * t ≤ l.sum
  | [],_ => by simp
  | x :: l,h => by
    have h1:=sum_lo (l:=l) fun y hy => h y (List.mem_cons_of_mem _ hy)
    have h2:=h x (List.mem_cons_self ..)
    rw [List.sum_cons,List.length_cons,Int.natCast_succ,Int.add_mul,Int.one_mul]
    lia
section
variable {a:Nat → Nat} (B:Bend a)
include B
theorem Bend.down {i:Nat} {t:Int} (h:(a (i + 1):Int) ≤ a i + t):∀ j,(a (i + j + 1):Int) ≤ a (i + j) + t
  | 0 => h
  | j + 1 => by
    have h1:=Bend.down h j
    have h2:=B.bend (i + j)
    show (a (i + j + 2):Int) ≤ a (i + j + 1) + t
    lia
theorem Bend.sum {i:Nat} {t:Int} (h:(a (i + 1):Int) ≤ a i + t):∀ j:Nat,(a (i + j):Int) ≤ a i + j * t
  | 0 => by simp
  | j + 1 => by
    have h1:=Bend.sum h j
    have h2:=B.down h j
    rw [Int.natCast_succ,Int.add_mul,Int.one_mul]
    show (a (i + j + 1):Int) ≤ _
    lia
theorem Bend.mono (i:Nat):∀ j:Nat,a i ≤ a (i + j)
  | 0 => Nat.le_refl _
  | j + 1 => Nat.le_trans (Bend.mono i j) (B.up (i + j))
theorem Bend.less {r s:Nat} {t:Int} (h:(a (r + s):Int) + 1 ≤ a r + s * t) (q:Nat):(a (r + s + q):Int) ≤ a (r + s) + q * (t - 1):=by
  match s with
  | 0 => rw [Int.natCast_zero,Int.zero_mul] at h; exact absurd h (by show ¬ ((a r:Int) + 1 ≤ a r + 0); lia)
  | s + 1 =>
    by_cases hi:(a (r + s + 1):Int) ≤ a (r + s) + (t - 1)
    · have:=B.down hi 1
      exact B.sum (i:=r + (s + 1)) this q
    · exfalso
      have key:∀ j,j ≤ s → (a (r + j):Int) + (s + 1 - j:Nat) * t ≤ a (r + s + 1):=by
        intro j hj
        obtain ⟨d,rfl⟩:∃ d,s = j + d:=⟨s - j,by lia⟩
        clear h hj
        induction d with
        | zero =>
          rw [show j + 0 + 1 - j = 1 by lia,Int.natCast_one,Int.one_mul]
          show (a (r + j):Int) + t ≤ a (r + j + 1)
          have:¬ ((a (r + j + 1):Int) ≤ a (r + j) + (t - 1)):=hi
          lia
        | succ d ih =>
          have hi':¬ ((a (r + (j + d) + 1):Int) ≤ a (r + (j + d)) + (t - 1)):=fun q => hi (B.down q 1)
          have h1:=ih hi'
          rw [show j + (d + 1) + 1 - j = (j + d + 1 - j) + 1 by lia,Int.natCast_succ,Int.add_mul,Int.one_mul]
          have:¬ ((a (r + (j + d) + 1 + 1):Int) ≤ a (r + (j + d) + 1) + (t - 1)):=hi
          show _ ≤ (a (r + (j + d) + 1 + 1):Int)
          lia
      have:=key 0 (Nat.zero_le _)
      rw [Nat.sub_zero] at this
      have h:(a (r + s + 1):Int) + 1 ≤ a r + ((s + 1:Nat):Int) * t:=h
      have this:(a r:Int) + ((s + 1:Nat):Int) * t ≤ a (r + s + 1):=this
      lia
end
theorem greedy {m:Nat} {ms:List Nat} {v:List Int} (hd:Desc v) (hn:Nn v) (hm:m ≤ v.length) (D:Dom (m :: ms) v) :
    (∀ x ∈ v.take m,0 < x) ∧ Dom ms ((v.take m).map (· - 1) ++ v.drop m):=by
  have B:=Acol_bend ms
  have hP:∀ k,k ≤ v.length → (v.take k).sum ≤ (min m k:Nat) + (Acol ms k:Nat):=fun k hk => by
    have:=D.le _ (take_subs hk)
    rw [Acol_cons] at this
    exact this
  have hT:v.sum = (m:Nat) + (Acol ms v.length:Nat):=by
    have:=D.all
    rw [Acol_cons,Nat.min_eq_left hm] at this
    exact this
  have hz:∀ i j:Nat,(v.take (i + j)).sum = (v.take i).sum + ((v.drop i).take j).sum:=fun i j => by rw [List.take_add,List.sum_append]
  have hpos:∀ x ∈ v.take m,0 < x:=by
    match m,hm,hP,hT with
    | 0,_,_,_ => intro x hx; cases hx
    | m + 1,hm,hP,hT =>
      have hlt:m < v.length:=hm
      have e1:v.take (m + 1) = v.take m ++ [v[m]]:=List.take_succ_eq_append_getElem hlt
      have hcut:v = v.take m ++ (v[m] :: v.drop (m + 1)):=by rw [← List.drop_eq_getElem_cons hlt,List.take_append_drop]
      have h0:=hn v[m] (List.getElem_mem hlt)
      have hd':=hd
      rw [hcut] at hd'
      obtain ⟨_,hd2,hd3⟩:=List.pairwise_append.mp hd'
      have hlast:0 < v[m]:=by
        refine Int.lt_of_not_ge fun hle => ?_
        have h1:(v.drop m).sum ≤ 0:=by
          have:=sum_up (t:=0) (l:=v.drop m) fun y hy => by
            rw [List.drop_eq_getElem_cons hlt] at hy
            rcases List.mem_cons.mp hy with rfl | hy
            · exact hle
            · exact Int.le_trans ((List.pairwise_cons.mp hd2).1 y hy) hle
          rwa [Int.mul_zero] at this
        have h2:=hP m (by lia)
        have h3:v.sum = (v.take m).sum + (v.drop m).sum:=by rw [← List.sum_append,List.take_append_drop]
        have h4:=B.mono m (v.length - m)
        rw [show m + (v.length - m) = v.length by lia] at h4
        rw [show min (m + 1) m = m by lia] at h2
        lia
      intro x hx
      rw [e1] at hx
      rcases List.mem_append.mp hx with hx | hx
      · exact Int.lt_of_lt_of_le hlast (hd3 x hx _ (List.mem_cons_self ..))
      · rw [List.mem_singleton] at hx; rw [hx]; exact hlast
  refine ⟨hpos,?_,?_⟩
  · intro p hp
    obtain ⟨q0,hq0,q2,hq2,e1,e2⟩:=subs_app p hp
    obtain ⟨q1,hq1,e3,e4⟩:=subs_dec q0 hq0
    have hda:Desc (v.take m):=hd.sublist (List.take_sublist m v)
    have hdb:Desc (v.drop m):=hd.sublist (List.drop_sublist m v)
    obtain ⟨hr,hr1⟩:=subs_top hda q1 hq1
    obtain ⟨hs,hs1⟩:=subs_top hdb q2 hq2
    rw [List.length_take,Nat.min_eq_left hm] at hr
    rw [List.length_drop] at hs
    rw [List.take_take,Nat.min_eq_left hr] at hr1
    rw [e1,e2,e3,e4]
    generalize q1.2 = r at *
    generalize q2.2 = s at *
    generalize q1.1 = y1 at *
    generalize q2.1 = y2 at *
    have hpr:=hP r (by lia)
    rw [Nat.min_eq_right hr] at hpr
    have hms:=hz m s
    by_cases h0:s = 0
    · subst h0
      rw [List.take_zero,List.sum_nil] at hs1
      rw [Nat.add_zero]
      lia
    by_cases h1:r = m
    · subst h1
      have:=hP (r + s) (by lia)
      rw [show min r (r + s) = r by lia] at this
      lia
    have hlt:m - 1 < v.length:=by lia
    have hcut:v = v.take (m - 1) ++ (v[m - 1] :: v.drop m):=by
      have:=List.drop_eq_getElem_cons hlt
      rw [show m - 1 + 1 = m by lia] at this
      rw [← this,List.take_append_drop]
    generalize v[m - 1] = t at hcut
    have hd':=hd
    rw [hcut] at hd'
    obtain ⟨_,hd2,hd3⟩:=List.pairwise_append.mp hd'
    have hZ:((v.drop m).take s).sum ≤ s * t:=by
      have:=sum_up (t:=t) (l:=(v.drop m).take s) fun y hy => (List.pairwise_cons.mp hd2).1 y (List.mem_of_mem_take hy)
      rwa [List.length_take,List.length_drop,Nat.min_eq_left hs] at this
    have hQ:((m - r:Nat):Int) * t ≤ (v.take m).sum - (v.take r).sum:=by
      have e:v.take m = v.take (m - 1) ++ [t]:=by
        have h1:(v.take (m - 1)).length = m - 1:=by rw [List.length_take]; lia
        conv => lhs; rw [hcut]
        rw [List.take_append,h1,List.take_of_length_le (by lia),show m - (m - 1) = 1 by lia]
        rfl
      have:=sum_lo (t:=t) (l:=(v.take m).drop r) fun y hy => by
        have hy:=List.mem_of_mem_drop hy
        rw [e] at hy
        rcases List.mem_append.mp hy with hy | hy
        · exact hd3 y hy t (List.mem_cons_self ..)
        · rw [List.mem_singleton] at hy; rw [hy]; exact Int.le_refl _
      rw [List.length_drop,List.length_take,Nat.min_eq_left hm] at this
      have h2:(v.take m).sum = (v.take r).sum + ((v.take m).drop r).sum:=by
        conv => lhs; rw [← List.take_append_drop r (v.take m)]
        rw [List.sum_append,List.take_take,Nat.min_eq_left hr]
      lia
    refine Int.le_of_not_gt fun hgt => ?_
    have hA:=B.less (r:=r) (s:=s) (t:=t) (by lia) (m - r)
    have hB:=hP (m + s) (by lia)
    rw [show min m (m + s) = m by lia] at hB
    rw [show r + s + (m - r) = m + s by lia,Int.mul_sub,Int.mul_one] at hA
    lia
  · have h3:v.sum = (v.take m).sum + (v.drop m).sum:=by rw [← List.sum_append,List.take_append_drop]
    have h4:=(DecP.first m v hm hpos).sum
    have h5:=(DecP.first m v hm hpos).len
    rw [h5.1]
    lia
theorem addAll_iff:∀ {rs fresh:List (List Int)} {n:List Int},n ∈ rs.foldl addOne fresh ↔ n ∈ fresh ∨ ∃ r ∈ rs,n = srt r
  | [],fresh,n => by simp
  | r :: rs,fresh,n => by
    rw [List.foldl_cons,addAll_iff]
    have h1:n ∈ addOne fresh r ↔ n ∈ fresh ∨ n = srt r:=by
      unfold addOne
      set_option tactic.hygienic true in split
      · rename_i h
        constructor
        · exact .inl
        · rintro (h' | rfl)
          · exact h'
          · exact h
      · simp
    rw [h1]
    simp only [List.mem_cons,exists_eq_or_imp]
    constructor
    · rintro ((h | h) | h)
      · exact .inl h
      · exact .inr (.inl h)
      · exact .inr (.inr h)
    · rintro (h | h | h)
      · exact .inl (.inl h)
      · exact .inl (.inr h)
      · exact .inr h
theorem canIns_iff {many:Int}:∀ {left fresh:List (List Int)} {n:List Int},n ∈ left.foldl (canIn many) fresh ↔ n ∈ fresh ∨ ∃ now ∈ left,∃ r ∈ takesP now many,n = srt r
  | [],fresh,n => by simp
  | now :: left,fresh,n => by
    rw [List.foldl_cons,canIns_iff]
    unfold canIn
    rw [addAll_iff]
    simp only [List.mem_cons,exists_eq_or_imp]
    constructor
    · rintro ((h | h) | h)
      · exact .inl h
      · exact .inr (.inl h)
      · exact .inr (.inr h)
    · rintro (h | h | h)
      · exact .inl (.inl h)
      · exact .inl (.inr h)
      · exact .inr h
theorem canStep_iff {many:Int} {left:List (List Int)} {n:List Int}:n ∈ canStep left many ↔ ∃ now ∈ left,∃ r ∈ takesP now many,n = srt r:=by
  unfold canStep
  rw [canIns_iff]
  simp
structure Good (N:Nat) (w:List Int):Prop where
  len:w.length = N
  nn:Nn w
  asc:w.Pairwise (· ≤ ·)
theorem good_srt {w:List Int} {N:Nat} (h:w.length = N) (hn:Nn w):Good N (srt w) :=
  ⟨(srt_length w).trans h,hn.perm (srt_perm w).symm,srt_sorted w⟩
theorem reach {N:Nat}:∀ (ms:List Nat),(∀ m ∈ ms,m ≤ N) → ∀ {left:List (List Int)},(∀ w ∈ left,Good N w) →
    (List.replicate N (0:Int) ∈ (ms.map fun n:Nat => (n:Int)).foldl canStep left ↔ ∃ now ∈ left,Dom ms now)
  | [],_,left,hL => by
    show List.replicate N (0:Int) ∈ left ↔ _
    constructor
    · intro h
      have G:=hL _ h
      refine ⟨_,h,Dom.nil_of G.nn ?_⟩
      have:∀ n:Nat,(List.replicate n (0:Int)).sum = 0:=fun n => by
        induction n with
        | zero => rfl
        | succ n ih => rw [List.replicate_succ,List.sum_cons,ih]; rfl
      exact this N
    · rintro ⟨now,h,D⟩
      have G:=hL _ h
      have e:now = List.replicate N 0:=List.eq_replicate_iff.mpr ⟨G.len,D.zero G.nn⟩
      rw [← e]; exact h
  | m :: ms,hm,left,hL => by
    rw [List.map_cons,List.foldl_cons]
    have hm1:=hm m (List.mem_cons_self ..)
    have hG:∀ w ∈ canStep left (m:Int),Good N w:=by
      intro w hw
      obtain ⟨now,hnow,r,hr,rfl⟩:=canStep_iff.mp hw
      have G:=hL now hnow
      have hd:=(takes_dec now m r).mp hr
      exact good_srt (by rw [hd.len.1,G.len]) (hd.nn G.nn)
    rw [reach ms (fun x hx => hm x (List.mem_cons_of_mem _ hx)) hG]
    constructor
    · rintro ⟨w,hw,D⟩
      obtain ⟨now,hnow,r,hr,rfl⟩:=canStep_iff.mp hw
      exact ⟨now,hnow,Dom.back ((takes_dec now m r).mp hr) (D.perm (srt_perm r))⟩
    · rintro ⟨now,hnow,D⟩
      have G:=hL now hnow
      have hmv:m ≤ now.reverse.length:=by rw [List.length_reverse,G.len]; exact hm1
      obtain ⟨hp,D'⟩:=greedy (v:=now.reverse) (List.pairwise_reverse.mpr G.asc) (G.nn.perm (List.reverse_perm now).symm) hmv (D.perm (List.reverse_perm now).symm)
      have hd:=(DecP.first m now.reverse hmv hp).reverse
      rw [List.reverse_reverse] at hd
      generalize (now.reverse.take m).map (· - 1) ++ now.reverse.drop m = r at hd D'
      exact ⟨_,canStep_iff.mpr ⟨now,hnow,_,(takes_dec now m _).mpr hd,rfl⟩,D'.perm ((List.reverse_perm r).symm.trans (srt_perm _).symm)⟩
theorem can_iff {ms ws:List Nat} (hm:∀ m ∈ ms,m ≤ ws.length):canP (ms.map fun n:Nat => (n:Int)) (ws.map fun n:Nat => (n:Int)) = true ↔ Dom ms (ws.map fun n:Nat => (n:Int)):=by
  unfold canP canAll
  rw [decide_eq_true_eq,List.length_map]
  have hnn:Nn (ws.map fun n:Nat => (n:Int)):=by
    intro x hx
    obtain ⟨n,_,rfl⟩:=List.mem_map.mp hx
    lia
  rw [reach ms hm (left:=[srt (ws.map fun n:Nat => (n:Int))])]
  · constructor
    · rintro ⟨now,hnow,D⟩
      rw [List.mem_singleton] at hnow
      subst hnow
      exact D.perm (srt_perm _)
    · intro D
      exact ⟨_,List.mem_singleton.mpr rfl,D.perm (srt_perm _).symm⟩
  · intro w hw
    rw [List.mem_singleton] at hw
    subst hw
    exact good_srt (by simp) hnn
noncomputable def Vf (f:Nat → Nat) (size:Nat):List Int:=(List.range size).map fun c => (f c:Int)
theorem Vf_len (f:Nat → Nat) (size:Nat):(Vf f size).length = size:=by simp [Vf]
theorem Vf_nn (f:Nat → Nat) (size:Nat):Nn (Vf f size):=by
  intro x hx
  obtain ⟨c,_,rfl⟩:=List.mem_map.mp hx
  lia
noncomputable def srtD (f:Nat → Nat) (l:List Nat):List Nat:=l.mergeSort fun a b => decide (f b ≤ f a)
theorem srtD_perm (f:Nat → Nat) (l:List Nat):(srtD f l).Perm l:=List.mergeSort_perm ..
theorem srtD_desc (f:Nat → Nat) (l:List Nat):(srtD f l).Pairwise fun a b => f b ≤ f a:=by
  have:=List.pairwise_mergeSort (le:=fun a b:Nat => decide (f b ≤ f a)) (by intro a b c; simp; lia) (by intro a b; simp; lia) l
  exact this.imp fun h => of_decide_eq_true h
theorem pick_greedy {size mk:Nat} {f:Nat → Nat} {cs ms:List Nat} (hmk:mk ≤ size) (P:Pick size f mk cs) (D:Dom (mk :: ms) (Vf f size)) :
    (∀ c ∈ cs,0 < f c) ∧ Dom ms (Vf (dec f cs) size):=by
  obtain ⟨rest,hrest⟩:∃ r,r = (List.range size).filter fun c => !decide (c ∈ cs):=⟨_,rfl⟩
  have hperm:(cs ++ rest).Perm (List.range size):=by
    have h1:cs.Perm ((List.range size).filter fun c => decide (c ∈ cs)):=by
      rw [List.perm_ext_iff_of_nodup P.nodup (List.nodup_range.filter _)]
      intro a
      rw [List.mem_filter,List.mem_range,decide_eq_true_eq]
      exact ⟨fun h => ⟨P.lt a h,h⟩,fun h => h.2⟩
    rw [hrest]
    exact (h1.append_right _).trans (List.filter_append_perm _ _)
  have hl:(srtD f cs ++ srtD f rest).Perm (List.range size):=((srtD_perm f cs).append (srtD_perm f rest)).trans hperm
  have hcl:(srtD f cs).length = mk:=by rw [(srtD_perm f cs).length_eq,P.len]; lia
  obtain ⟨v,hv⟩:∃ v:List Int,v = (srtD f cs ++ srtD f rest).map fun c => (f c:Int):=⟨_,rfl⟩
  have hvp:v.Perm (Vf f size):=by rw [hv]; exact hl.map _
  have hvl:v.length = size:=by rw [hvp.length_eq,Vf_len]
  have hdesc:v.Pairwise fun x y => y ≤ x:=by
    rw [hv,List.pairwise_map,List.pairwise_append]
    refine ⟨(srtD_desc f cs).imp fun h => by lia,(srtD_desc f rest).imp fun h => by lia,fun a ha b hb => ?_⟩
    have ha':=(srtD_perm f cs).mem_iff.mp ha
    have hb':=(srtD_perm f rest).mem_iff.mp hb
    rw [hrest,List.mem_filter,List.mem_range] at hb'
    have:=P.top a ha' b hb'.1 (by simpa using hb'.2)
    lia
  obtain ⟨hp,D'⟩:=greedy hdesc ((Vf_nn f size).perm hvp.symm) (by rw [hvl]; exact hmk) (D.perm hvp.symm)
  have htk:v.take mk = (srtD f cs).map fun c => (f c:Int):=by
    rw [hv,List.map_append,List.take_append_of_le_length (by rw [List.length_map,hcl]; exact Nat.le_refl _),List.take_of_length_le (by rw [List.length_map,hcl]; exact Nat.le_refl _)]
  have hdr:v.drop mk = (srtD f rest).map fun c => (f c:Int):=by
    rw [hv,List.map_append,List.drop_append_of_le_length (by rw [List.length_map,hcl]; exact Nat.le_refl _),List.drop_of_length_le (by rw [List.length_map,hcl]; exact Nat.le_refl _),List.nil_append]
  have hpos:∀ c ∈ cs,0 < f c:=by
    intro c hc
    have:=hp (f c:Int) (by rw [htk]; exact List.mem_map.mpr ⟨c,(srtD_perm f cs).mem_iff.mpr hc,rfl⟩)
    lia
  refine ⟨hpos,D'.perm ?_⟩
  have e:(v.take mk).map (· - 1) ++ v.drop mk = (srtD f cs ++ srtD f rest).map fun c => (dec f cs c:Int):=by
    rw [htk,hdr,List.map_append,List.map_map]
    congr 1
    · refine List.map_congr_left fun c hc => ?_
      have hc':=(srtD_perm f cs).mem_iff.mp hc
      have:=hpos c hc'
      show (f c:Int) - 1 = _
      unfold dec
      rw [if_pos hc']; lia
    · refine List.map_congr_left fun c hc => ?_
      have hc':=(srtD_perm f rest).mem_iff.mp hc
      rw [hrest,List.mem_filter] at hc'
      unfold dec
      first | refine iteF (by simpa using hc'.2) ?_ | rw [if_neg (by simpa using hc'.2)]
  rw [e]
  exact hl.map _
theorem dec_map {f:Nat → Nat} {cs:List Nat} (hp:∀ c ∈ cs,0 < f c):∀ l:List Nat,DecP (l.map fun c => (f c:Int)) (l.map fun c => (dec f cs c:Int)) (l.filter fun c => decide (c ∈ cs)).length
  | [] => .nil
  | c :: l => by
    rw [List.map_cons,List.map_cons]
    by_cases h:c ∈ cs
    · rw [List.filter_cons_of_pos (by simpa using h),List.length_cons]
      have h1:=hp c h
      have e:((dec f cs c:Nat):Int) = (f c:Int) - 1:=by unfold dec; rw [if_pos h]; lia
      rw [e]
      exact .take _ (by lia) (dec_map hp l)
    · rw [List.filter_cons_of_neg (by simpa using h)]
      have e:((dec f cs c:Nat):Int) = (f c:Int):=by unfold dec; rw [if_neg h]
      rw [e]
      exact .keep _ (dec_map hp l)
theorem pick_dec {size mk:Nat} {f:Nat → Nat} {cs:List Nat} (hmk:mk ≤ size) (P:Pick size f mk cs) (hp:∀ c ∈ cs,0 < f c):DecP (Vf f size) (Vf (dec f cs) size) mk:=by
  have h1:cs.Perm ((List.range size).filter fun c => decide (c ∈ cs)):=by
    rw [List.perm_ext_iff_of_nodup P.nodup (List.nodup_range.filter _)]
    intro a
    rw [List.mem_filter,List.mem_range,decide_eq_true_eq]
    exact ⟨fun h => ⟨P.lt a h,h⟩,fun h => h.2⟩
  have h2:=dec_map hp (List.range size)
  rw [← h1.length_eq,P.len,Nat.min_eq_left hmk] at h2
  exact h2
theorem steps_fwd {size:Nat} {f0 f:Nat → Nat} {ms:List Nat} {ns:List (Nat × Bool × Nat)} (h:Steps size f0 ms f ns):∀ tail,(∀ m ∈ ms,m ≤ size) → Dom (ms ++ tail) (Vf f0 size) → Dom tail (Vf f size):=by
  induction h with
  | nil => exact fun _ _ D => D
  | @snoc ms f ns mk ps _ P _ ih =>
    intro tail hm D
    rw [List.append_assoc] at D
    exact (pick_greedy (hm mk (by simp)) P (ih _ (fun m hx => hm m (List.mem_append_left _ hx)) D)).2
theorem steps_back {size:Nat} {f0 f:Nat → Nat} {ms:List Nat} {ns:List (Nat × Bool × Nat)} (h:Steps size f0 ms f ns):∀ tail,(∀ m ∈ ms,m ≤ size) → Dom tail (Vf f size) → Dom (ms ++ tail) (Vf f0 size):=by
  induction h with
  | nil => exact fun _ _ D => D
  | @snoc ms f ns mk ps _ P hp ih =>
    intro tail hm D
    rw [List.append_assoc]
    refine ih _ (fun m hx => hm m (List.mem_append_left _ hx)) (Dom.back (pick_dec (hm mk (by simp)) P fun c hc => ?_) D)
    obtain ⟨p,hpm,rfl⟩:=List.mem_map.mp hc
    exact hp p hpm
theorem steps_sum {size:Nat} {f0 f:Nat → Nat} {ms:List Nat} {ns:List (Nat × Bool × Nat)} (h:Steps size f0 ms f ns):(∀ m ∈ ms,m ≤ size) → (Vf f0 size).sum = (Vf f size).sum + (ms.sum:Nat):=by
  induction h with
  | nil => intro _; simp
  | @snoc ms f ns mk ps _ P hp ih =>
    intro hm
    have h1:=ih fun m hx => hm m (List.mem_append_left _ hx)
    have h2:=(pick_dec (hm mk (by simp)) P fun c hc => by
      obtain ⟨p,hpm,rfl⟩:=List.mem_map.mp hc
      exact hp p hpm).sum
    rw [List.sum_append]
    simp only [List.sum_cons,List.sum_nil]
    lia
theorem stuck_not {size:Nat} {f0:Nat → Nat} {ms:List Nat} (hm:∀ m ∈ ms,m ≤ size) (h:Stuck size f0 ms):¬ Dom ms (Vf f0 size):=by
  obtain ⟨k,f,ns,cs,hk,hst,P,c,hc,hz⟩:=h
  intro D
  have e:ms = ms.take k ++ (ms.getD k 0 :: ms.drop (k + 1)):=by
    rw [List.getD_eq_getElem?_getD,List.getElem?_eq_getElem hk,Option.getD_some,← List.drop_eq_getElem_cons hk,List.take_append_drop]
  rw [e] at D
  have D1:=steps_fwd hst _ (fun m hx => hm m (List.mem_of_mem_take hx)) D
  have hmk:ms.getD k 0 ≤ size:=by
    rw [List.getD_eq_getElem?_getD,List.getElem?_eq_getElem hk]
    exact hm _ (List.getElem_mem hk)
  have:=(pick_greedy hmk P D1).1 c hc
  lia
theorem steps_dom {size:Nat} {f0 f:Nat → Nat} {ms:List Nat} {ns:List (Nat × Bool × Nat)} (h:Steps size f0 ms f ns) (hm:∀ m ∈ ms,m ≤ size) (hsum:(Vf f0 size).sum = (ms.sum:Nat)):Dom ms (Vf f0 size) ∧ ∀ c,c < size → f c = 0:=by
  have h1:=steps_sum h hm
  have hz:(Vf f size).sum = 0:=by lia
  have D0:=Dom.nil_of (Vf_nn f size) hz
  have D:=steps_back h [] hm D0
  rw [List.append_nil] at D
  refine ⟨D,fun c hc => ?_⟩
  have:=D0.zero (Vf_nn f size) (f c:Int) (List.mem_map.mpr ⟨c,List.mem_range.mpr hc,rfl⟩)
  lia
theorem bal_cons {b:Blk} {r:List Blk} {o:Nat}:bal (b :: r) o = true ↔ b.2.2 ≤ o + b.1 ∧ bal r (o + b.1 - b.2.2) = true:=by
  rw [bal]
  set_option tactic.hygienic true in split
  · rename_i h; exact ⟨fun q => ⟨h,q⟩,fun q => q.2⟩
  · rename_i h; exact ⟨fun q => (nomatch q),fun q => absurd q.1 h⟩
theorem bal_nil {o:Nat}:bal [] o = true ↔ o = 0:=by
  show (o == 0) = true ↔ _
  exact beq_iff_eq
theorem Acol_step (ms:List Nat) (j:Nat):Acol ms (j + 1) = Acol ms j + (ms.filter fun m => decide (j < m)).length:=by
  induction ms with
  | nil => rfl
  | cons m ms ih =>
    rw [Acol_cons,Acol_cons,ih]
    by_cases h:j < m
    · rw [List.filter_cons_of_pos (by simpa using h),List.length_cons]; lia
    · rw [List.filter_cons_of_neg (by simpa using h)]; lia
theorem havN_eq (ns:List Int) (j:Nat):Acol (marksP ns) (j + 1) = Acol (marksP ns) j + havN ns j:=by
  rw [Acol_step]
  unfold havN marksP
  rw [List.filter_map,List.length_map]
  rfl
theorem mostP_perm (ns:List Int):(mostP ns).Perm ((wishP ns).map fun n:Nat => (n:Int)):=(List.reverse_perm _).trans (srt_perm _)
theorem mostP_desc (ns:List Int):(mostP ns).Pairwise fun x y => y ≤ x:=by
  unfold mostP
  rw [List.pairwise_reverse]
  exact srt_sorted _
noncomputable def pre:List Blk → Nat → Nat → Prop
  | [],x,y => x = y
  | b :: r,x,y => y + b.2.2 ≤ x + b.1 ∧ pre r (x + b.1) (y + b.2.2)
theorem bal_pre:∀ (bs:List Blk) (x y:Nat),y ≤ x → (bal bs (x - y) = true ↔ pre bs x y)
  | [],x,y,h => by
    rw [bal_nil]
    show _ ↔ x = y
    lia
  | b :: r,x,y,h => by
    rw [bal_cons]
    constructor
    · rintro ⟨h1,h2⟩
      have h3:y + b.2.2 ≤ x + b.1:=by lia
      rw [show x - y + b.1 - b.2.2 = (x + b.1) - (y + b.2.2) by lia] at h2
      exact ⟨h3,(bal_pre r _ _ h3).mp h2⟩
    · rintro ⟨h1,h2⟩
      rw [show x - y + b.1 - b.2.2 = (x + b.1) - (y + b.2.2) by lia]
      exact ⟨by lia,(bal_pre r _ _ h1).mpr h2⟩
noncomputable def blksOf (h g:Nat → Nat):Nat → List Nat → List Blk
  | _,[] => []
  | j,x :: r => (h j,g j,x) :: blksOf h g (j + 1) r
theorem blksOf_eq (h g:Nat → Nat):∀ (v:List Nat) (j:Nat),blksOf h g j v = (List.range v.length).map fun i => (h (j + i),g (j + i),v.getD i 0)
  | [],j => rfl
  | x :: v,j => by
    rw [List.length_cons,List.range_succ_eq_map,List.map_cons,List.map_map,blksOf,blksOf_eq h g v (j + 1)]
    congr 1
    refine List.map_congr_left fun i _ => ?_
    show _ = (h (j + (i + 1)),g (j + (i + 1)),(x :: v).getD (i + 1) 0)
    rw [show j + 1 + i = j + (i + 1) by lia]
    rfl
theorem pre_iff {a h g:Nat → Nat} (ha:∀ j,a (j + 1) = a j + h j):∀ (v:List Nat) (j y:Nat),pre (blksOf h g j v) (a j) y ↔ (∀ k,k < v.length → y + (v.take (k + 1)).sum ≤ a (j + (k + 1))) ∧ y + v.sum = a (j + v.length)
  | [],j,y => by
    show a j = y ↔ _
    simp only [List.length_nil,List.sum_nil,Nat.add_zero]
    exact ⟨fun e => ⟨fun k hk => absurd hk (Nat.not_lt_zero k),e.symm⟩,fun e => e.2.symm⟩
  | x :: v,j,y => by
    show y + x ≤ a j + h j ∧ pre (blksOf h g (j + 1) v) (a j + h j) (y + x) ↔ _
    rw [← ha,pre_iff ha v (j + 1) (y + x),List.length_cons,List.sum_cons]
    constructor
    · rintro ⟨h1,h2,h3⟩
      refine ⟨fun k hk => ?_,by rw [← Nat.add_assoc,h3]; congr 1; lia⟩
      rw [List.take_succ_cons,List.sum_cons,← Nat.add_assoc]
      match k,hk with
      | 0,_ => exact h1
      | k + 1,hk =>
        have:=h2 k (Nat.lt_of_succ_lt_succ hk)
        rwa [show j + 1 + (k + 1) = j + (k + 1 + 1) by lia] at this
    · rintro ⟨h1,h2⟩
      refine ⟨h1 0 (Nat.zero_lt_succ _),fun k hk => ?_,by rw [Nat.add_assoc,h2]; congr 1; lia⟩
      have:=h1 (k + 1) (Nat.succ_lt_succ hk)
      rw [List.take_succ_cons,List.sum_cons,← Nat.add_assoc] at this
      rwa [show j + 1 + (k + 1) = j + (k + 1 + 1) by lia]
theorem dom_pre {ms v:List Nat} (hd:Desc (v.map fun n:Nat => (n:Int))):Dom ms (v.map fun n:Nat => (n:Int)) ↔ (∀ k,k < v.length → (v.take (k + 1)).sum ≤ Acol ms (k + 1)) ∧ v.sum = Acol ms v.length:=by
  have hs:∀ k,((v.map fun n:Nat => (n:Int)).take k).sum = ((v.take k).sum:Nat):=fun k => by rw [← List.map_take,sum_nat]
  constructor
  · intro D
    refine ⟨fun k hk => ?_,?_⟩
    · have:=D.le _ (take_subs (k:=k + 1) (by rw [List.length_map]; exact hk))
      dsimp only at this
      rw [hs] at this
      exact Int.ofNat_le.mp this
    · have:=D.all
      rw [sum_nat,List.length_map] at this
      exact Int.ofNat_inj.mp this
  · rintro ⟨h1,h2⟩
    refine ⟨fun p hp => ?_,?_⟩
    · obtain ⟨h3,h4⟩:=subs_top hd p hp
      rw [List.length_map] at h3
      rw [hs] at h4
      refine Int.le_trans h4 (Int.ofNat_le.mpr ?_)
      match p.2,h3 with
      | 0,_ => rw [List.take_zero]; exact Nat.zero_le _
      | k + 1,h3 => exact h1 k h3
    · rw [sum_nat,List.length_map,h2]
theorem bal_iff (ns:List Int):bal (blksP ns (sizeP ns)) 0 = true ↔ Dom (marksP ns) (mostP ns):=by
  obtain ⟨v,hv⟩:∃ v:List Nat,v = (mostP ns).map Int.toNat:=⟨_,rfl⟩
  have hm:mostP ns = v.map fun n:Nat => (n:Int):=by
    rw [hv,List.map_map]
    conv => lhs; rw [← List.map_id' (mostP ns)]
    exact List.map_congr_left fun x hx => (Int.toNat_of_nonneg (mostP_mem hx).1).symm
  have hl:v.length = sizeP ns:=by rw [hv,List.length_map,mostP_len]
  have hb:blksP ns (sizeP ns) = blksOf (havN ns) (hidI ns) 0 v:=by
    rw [blksOf_eq,hl]
    unfold blksP
    refine List.map_congr_left fun j hj => ?_
    rw [Nat.zero_add,hv,List.getD_eq_getElem?_getD,List.getD_eq_getElem?_getD,List.getElem?_map,List.getElem?_eq_getElem (by rw [mostP_len]; exact List.mem_range.mp hj)]
    rfl
  have hd:=mostP_desc ns
  rw [hm] at hd ⊢
  have z:=(Acol_bend (marksP ns)).zero
  have h0:=bal_pre (blksOf (havN ns) (hidI ns) 0 v) (Acol (marksP ns) 0) 0 (Nat.zero_le _)
  rw [pre_iff (havN_eq ns),z,Nat.sub_zero] at h0
  rw [hb,dom_pre hd,h0]
  simp only [Nat.zero_add]
theorem told_app (a b:List (Nat × Bool × Nat)) (c:Nat):toldN (a ++ b) c = toldN a c ++ toldN b c:=by unfold toldN; rw [List.filter_append,List.map_append]
theorem told_new {ps:List (Nat × Bool)} {k c:Nat}:toldN (ps.map fun p => (p.1,p.2,k)) c = List.replicate (ps.filter fun p => p.1 == c).length k:=by
  unfold toldN
  rw [List.filter_map,List.map_map]
  rw [List.eq_replicate_iff]
  refine ⟨by simp [Function.comp_def],?_⟩
  intro x hx
  obtain ⟨p,_,rfl⟩:=List.mem_map.mp hx
  rfl
theorem new_len {ps:List (Nat × Bool)} (hn:(ps.map (·.1)).Nodup) (c:Nat):(ps.filter fun p => p.1 == c).length = if c ∈ ps.map (·.1) then 1 else 0:=by
  set_option tactic.hygienic true in split
  · rename_i h
    obtain ⟨u,hu⟩:=filter_one hn h
    rw [hu]; rfl
  · rename_i h
    rw [List.length_eq_zero_iff,List.filter_eq_nil_iff]
    intro p hp hq
    exact h (List.mem_map.mpr ⟨p,hp,by simpa using hq⟩)
structure NoteS (size:Nat) (f0 f:Nat → Nat) (ms:List Nat) (ns:List (Nat × Bool × Nat)):Prop where
  lt:∀ q ∈ ns,q.1 < size ∧ q.2.2 < ms.length
  inc:∀ c,(toldN ns c).Pairwise (· < ·)
  len:∀ c,(toldN ns c).length + f c = f0 c
  cnt:∀ k,k < ms.length → (ns.map fun q => q.2.2).count k = ms.getD k 0
theorem told_lt {size:Nat} {f0 f:Nat → Nat} {ms:List Nat} {ns:List (Nat × Bool × Nat)} (N:NoteS size f0 f ms ns) {c k:Nat} (h:k ∈ toldN ns c):k < ms.length:=by
  obtain ⟨q,hq,rfl⟩:=List.mem_map.mp h
  exact (N.lt q (List.mem_filter.mp hq).1).2
theorem note_steps {size:Nat} {f0 f:Nat → Nat} {ms:List Nat} {ns:List (Nat × Bool × Nat)} (h:Steps size f0 ms f ns):(∀ m ∈ ms,m ≤ size) → NoteS size f0 f ms ns:=by
  induction h with
  | nil => intro _; exact ⟨by simp,fun c => .nil,fun c => by simp [toldN],by simp⟩
  | @snoc ms f ns mk ps _ P hp ih =>
    intro hm
    have N:=ih fun m hx => hm m (List.mem_append_left _ hx)
    have hmk:=hm mk (by simp)
    refine ⟨?_,?_,?_,?_⟩
    · intro q hq
      rw [List.length_append]
      rcases List.mem_append.mp hq with h | h
      · have:=N.lt q h
        simp only [List.length_cons,List.length_nil]; lia
      · obtain ⟨p,hpm,rfl⟩:=List.mem_map.mp h
        have:=P.lt p.1 (List.mem_map.mpr ⟨p,hpm,rfl⟩)
        simp only [List.length_cons,List.length_nil]; lia
    · intro c
      rw [told_app,told_new,List.pairwise_append]
      refine ⟨N.inc c,?_,?_⟩
      · rw [new_len P.nodup]
        split
        · exact List.pairwise_singleton _ _
        · exact .nil
      · intro a ha b hb
        rw [(List.mem_replicate.mp hb).2]
        exact told_lt N ha
    · intro c
      rw [told_app,told_new,List.length_append,List.length_replicate,new_len P.nodup]
      have h1:=N.len c
      unfold dec
      by_cases hc:c ∈ ps.map (·.1)
      · rw [if_pos hc,if_pos hc]
        obtain ⟨p,hpm,rfl⟩:=List.mem_map.mp hc
        have:=hp p hpm
        lia
      · rw [if_neg hc,if_neg hc]; lia
    · intro k hk
      rw [List.map_append,List.count_append,List.map_map]
      have hpl:ps.length = mk:=by
        have:=P.len
        rw [List.length_map] at this
        lia
      have hc:(ps.map ((fun q:Nat × Bool × Nat => q.2.2) ∘ fun p => (p.1,p.2,ms.length))).count k = if k = ms.length then mk else 0:=by
        have:ps.map ((fun q:Nat × Bool × Nat => q.2.2) ∘ fun p => (p.1,p.2,ms.length)) = List.replicate mk ms.length:=by
          rw [List.eq_replicate_iff]
          refine ⟨by rw [List.length_map,hpl],?_⟩
          intro x hx
          obtain ⟨p,_,rfl⟩:=List.mem_map.mp hx
          rfl
        rw [this,List.count_replicate]
        by_cases e:k = ms.length
        · subst e; simp
        · rw [if_neg e,if_neg]
          simp; lia
      rw [hc]
      rw [List.length_append,List.length_cons,List.length_nil] at hk
      by_cases e:k = ms.length
      · subst e
        first | refine iteT rfl ?_ | rw [if_pos rfl]
        have h0:(ns.map fun q => q.2.2).count ms.length = 0:=by
          rw [List.count_eq_zero]
          intro h
          obtain ⟨q,hq,he⟩:=List.mem_map.mp h
          have:=(N.lt q hq).2
          lia
        rw [h0,List.getD_eq_getElem?_getD,List.getElem?_append_right (Nat.le_refl _)]
        simp
      · rw [if_neg e,N.cnt k (by lia),List.getD_eq_getElem?_getD,List.getD_eq_getElem?_getD,List.getElem?_append_left (by lia)]
        rfl
theorem inc_filter {l:List Nat} {n:Nat} (hi:l.Pairwise (· < ·)) (hl:∀ k ∈ l,k < n):l = (List.range n).filter fun k => decide (k ∈ l):=by
  have hn:l.Nodup:=hi.imp fun h => Nat.ne_of_lt h
  refine List.Perm.eq_of_pairwise (le:=(· < ·)) (fun a b _ _ h1 h2 => absurd h1 (Nat.not_lt.mpr (Nat.le_of_lt h2))) hi (List.pairwise_lt_range.filter _) ?_
  rw [List.perm_ext_iff_of_nodup hn (List.nodup_range.filter _)]
  intro a
  rw [List.mem_filter,List.mem_range,decide_eq_true_eq]
  exact ⟨fun h => ⟨hl a h,h⟩,fun h => h.2⟩
theorem count_sum {n:Nat}:∀ (l:List Nat),(∀ c ∈ l,c < n) → ((List.range n).map fun c => l.count c).sum = l.length:=by
  have one:∀ (n a:Nat),((List.range n).map fun c => if a = c then 1 else 0).sum = if a < n then 1 else 0:=by
    intro n a
    induction n with
    | zero => rfl
    | succ n ih =>
      rw [List.range_succ,List.map_append,List.sum_append,ih]
      simp only [List.map_cons,List.map_nil,List.sum_cons,List.sum_nil]
      split <;> split <;> split <;> lia
  have add:∀ (l:List Nat) (f g:Nat → Nat),(l.map fun c => f c + g c).sum = (l.map f).sum + (l.map g).sum:=by
    intro l f g
    induction l with
    | nil => rfl
    | cons a l ih => simp only [List.map_cons,List.sum_cons,ih]; lia
  intro l
  induction l with
  | nil =>
    intro _
    have:∀ r:List Nat,(r.map fun c => List.count c ([]:List Nat)).sum = 0:=by
      intro r
      induction r with
      | nil => rfl
      | cons a r ih => rw [List.map_cons,List.sum_cons,ih]; rfl
    exact this _
  | cons a l ih =>
    intro h
    have h1:=ih fun c hc => h c (List.mem_cons_of_mem _ hc)
    have h2:((List.range n).map fun c => (a :: l).count c) = (List.range n).map fun c => l.count c + if a = c then 1 else 0:=by
      refine List.map_congr_left fun c _ => ?_
      rw [List.count_cons]
      congr 1
      simp
    rw [h2,add,h1,one,if_pos (h a (List.mem_cons_self ..)),List.length_cons]
theorem wish_Vf (ns:List Int):((wishP ns).map fun n:Nat => (n:Int)) = Vf (fun c => (colsP ns).count c) (sizeP ns):=by
  unfold wishP Vf
  rw [List.map_map]
  rfl
theorem lawP (ns:List Int):LawP ns:=by
  have hsz:=sizeP_or ns
  have hm:∀ m ∈ marksP ns,m ≤ sizeP ns:=fun m hx => marksP_mem hx
  have hasc:=word_asc ns (sizeP ns)
  have hck:checkP (wordP ns (sizeP ns)) = true ↔ Dom (marksP ns) (Vf (fun c => (colsP ns).count c) (sizeP ns)):=by
    rw [word_check,bal_iff,← wish_Vf]
    exact ⟨fun D => D.perm (mostP_perm ns),fun D => D.perm (mostP_perm ns).symm⟩
  have hsum:(Vf (fun c => (colsP ns).count c) (sizeP ns)).sum = ((marksP ns).sum:Nat):=by
    rw [← wish_Vf,sum_nat,← colsP_len]
    congr 1
    unfold wishP
    exact count_sum _ fun c hc => colsP_mem hc
  refine ⟨hasc.1,hasc.2,?_,fun h => ?_,fun f nts h => ?_⟩
  · rw [Bool.eq_iff_iff,hck,can_iff (by rw [wishP_len]; exact hm),wish_Vf]
  · rw [← Bool.not_eq_true,hck]
    exact stuck_not hm h
  · obtain ⟨D,hz⟩:=steps_dom h hm hsum
    have N:=note_steps h hm
    refine ⟨hck.mpr D,⟨?_,?_,?_,?_⟩⟩
    · intro q hq
      have:=N.lt q hq
      rw [marksP_len] at this
      exact this
    · intro c hc
      refine inc_filter (N.inc c) fun k hk => ?_
      have:=told_lt N hk
      rw [marksP_len] at this
      exact this
    · intro c hc
      have h1:=N.len c
      rw [hz c hc] at h1
      exact h1
    · intro k hk
      exact N.cnt k (by rw [marksP_len]; exact hk)
section
set_option maxRecDepth 100000
noncomputable def tF (P:Params) (a:Nat):Option Obj:=(tG7 P (!P.followText "set-order")).get a
theorem heF_at (P:Params) {a:Nat} {o:Obj} (ha:a < 322) (h:tF P a = some o) (hf:o.isFreed = false):(heF P).get? a = some o:=by
  unfold heF Heap.get?
  rw [absHeap_at,if_pos ha,show BT.get _ a = some o from h,Option.getD_some]
  obtain ⟨c,d,data,sl⟩:=o
  cases data <;> first | rfl | cases hf
noncomputable def AmbP (P:Params) (F:Fz):Prop:=∀ b o,(heF P).get? b = some o → b ≠ 299 → b ≠ 6 → F b = some o
structure AtP (P:Params) (a:Nat) (o:Obj):Prop where
  lt:a < 322
  get:tF P a = some o
  live:o.isFreed = false
  ne:a ≠ 299 ∧ a ≠ 6
theorem AtP.in {P:Params} {a:Nat} {o:Obj} (h:AtP P a o) {F:Fz} (hA:AmbP P F):F a = some o:=hA a o (heF_at P h.lt h.get h.live) h.ne.1 h.ne.2
theorem AtP.inH {P:Params} {a:Nat} {o:Obj} (h:AtP P a o) {F:Fz} {hp:Heap} (hA:AmbP P F) (hs:∀ a o,F a = some o → hp.get? a = some o):hp.get? a = some o:=hs _ _ (h.in hA)
theorem fnIs_of {P:Params} {a c:Nat} {o oc:Obj} {fd:FuncData} {body:List Stmt} {vs:Array Value} {t:Tok} (h:AtP P a o) (hc:AtP P c oc) (hd:o.data = .func fd) (hdc:oc.data = .fields vs) (hcode:fd.code = .ref c) (hq:vs[1]? = some (.str fd.qualname t))
    (hb:fd.body = .stmts body) (hcl:fd.closure = []) (hk:fd.scope.kind = .function) (hco:fd.scope.isCoroutine = false) (hg:fd.globals = mainGlobals) (hbu:fd.builtins = builtinsNs):FnIs (AmbP P) a fd body where
  has:=fun F hA => ⟨o,h.in hA,hd⟩
  code:=fun F hp hA hs => ⟨c,oc,vs,t,hcode,hc.inH hA hs,hdc,hq⟩
  body:=hb
  closure:=hcl
  kind:=hk
  co:=hco
  globals:=hg
  builtins:=hbu
noncomputable def nsOf (o:Obj):Str → Option Value:=match o.data with | .dict es _ => nsFind es | _ => fun _ => none
noncomputable def nsOk (o:Obj):Bool:=match o.data with | .dict es _ => es.all (fun e => match e.key with | .str _ _ => true | _ => false) | _ => false
theorem ns_of {h:Heap} {a:Addr} {o:Obj} (ho:h.get? a = some o) (hk:nsOk o = true):h.Ns a (nsOf o):=by
  unfold nsOk at hk
  unfold nsOf
  cases hd:o.data with
  | dict es ep =>
    rw [hd] at hk
    dsimp only at hk
    refine ⟨o,es,ep,ho,hd,fun e he => ?_,fun name => rfl⟩
    have hx:=Array.all_eq_true_iff_forall_mem.mp hk e he
    cases hk:e.key <;> rw [hk] at hx <;> first | exact ⟨_,_,rfl⟩ | cases hx
  | _ => rw [hd] at hk; cases hk
noncomputable def mgF (P:Params):Str → Option Value:=nsOf (ho317 P)
noncomputable def mbF (P:Params):Str → Option Value:=nsOf (ho0 P)
theorem at0 (P:Params):AtP P 0 (ho0 P):=⟨by decide,by rfl,by rfl,by decide⟩
theorem at2 (P:Params):AtP P 2 (ho2 P):=⟨by decide,by rfl,by rfl,by decide⟩
theorem at3 (P:Params):AtP P 3 (ho317 P):=⟨by decide,by rfl,by rfl,by decide⟩
theorem ambOk (prog:Program) (w:World) (P:Params):AmbOk prog w (AmbP P) (mgF P) (mbF P) where
  mono:=fun F F' h hA b o e h1 h2 => h _ _ (hA b o e h1 h2)
  nolimit:=fun F h hA hs => ⟨_,ns_of ((at2 P).inH hA hs) (by kernel_rfl),by kernel_rfl⟩
  gns:=fun F h hA hs => ns_of ((at3 P).inH hA hs) (by kernel_rfl)
  bns:=fun F h hA hs => ns_of ((at0 P).inH hA hs) (by kernel_rfl)
noncomputable def atL:List (Str × Addr):=[("_iter_escaped_chars",38),("_strip_quoted_realnames",45),("_check_parenthesis",52),("_ellipsis_match",59),("c6_set",61),("in_table_c6",71),("c7_set",73),("in_table_c7",83),("c8_set",97),("in_table_c8",107),
  ("c9_set",115),("in_table_c9",125),("_name_disallowed_re",135),("_value_disallowed_re",140),("Headers",269),("_law_codes",278),("_law_read",285),("_law_known",290),("_law_wished",297),("_law_granted",304),("_law_takes",309),("_law_can",316)]
noncomputable def atF (x:Str):Addr:=(atL.lookup x).getD 0
theorem own_ok (P:Params):(atL.all fun p => match mgF P p.1 with | some (.ref a) => a == p.2 | _ => false) = true:=by kernel_rfl
theorem topOk (P:Params):TopOk (mgF P) (mbF P) atF where
  len:=⟨by kernel_rfl,by kernel_rfl⟩
  range:=⟨by kernel_rfl,by kernel_rfl⟩
  list:=⟨by kernel_rfl,by kernel_rfl⟩
  str:=⟨by kernel_rfl,by kernel_rfl⟩
  sum:=⟨by kernel_rfl,by kernel_rfl⟩
  sorted:=⟨by kernel_rfl,by kernel_rfl⟩
  chr:=⟨by kernel_rfl,by kernel_rfl⟩
  ord:=⟨by kernel_rfl,by kernel_rfl⟩
  own:=fun x hx => by
    have h1:((["in_table_c6","in_table_c7","in_table_c8","in_table_c9","c6_set","c7_set","c8_set","c9_set","_ellipsis_match","_check_parenthesis","_strip_quoted_realnames","_iter_escaped_chars",
      "Headers","_law_codes","_law_read","_law_known","_law_wished","_law_granted","_law_takes","_law_can","_name_disallowed_re","_value_disallowed_re"]:List Str).all fun x => decide ((x,atF x) ∈ atL)) = true:=by decide +kernel
    have h2:=of_decide_eq_true (List.all_eq_true.mp h1 x hx)
    have h3:=List.all_eq_true.mp (own_ok P) _ h2
    dsimp only at h3
    cases e:mgF P x with
    | none => rw [e] at h3; cases h3
    | some v =>
      rw [e] at h3
      (set_option tactic.hygienic true in cases v) <;> first | cases h3 | skip
      rename_i a
      have:a = atF x:=beq_iff_eq.mp h3
      rw [this]
  dots:=⟨318,by kernel_rfl⟩
theorem enumOk (P:Params):mgF P "enumerate" = none ∧ mbF P "enumerate" = some (.type "enumerate"):=⟨by kernel_rfl,by kernel_rfl⟩
end
section
set_option maxRecDepth 100000
theorem at38 (P:Params):AtP P 38 (ho41):=⟨by decide,by rfl,by rfl,by decide⟩
theorem at37 (P:Params):AtP P 37 (ho40):=⟨by decide,by rfl,by rfl,by decide⟩
theorem fn38 (P:Params):FnIs (AmbP P) 38 (hf "_iter_escaped_chars" "_iter_escaped_chars" (fnParams 2) (fnBody 2) (fnScope 2) 3 .none .none .none (hs "cpy313.email.utils" 282) (.ref 37)) (fnBody 2):=fnIs_of (at38 P) (at37 P) rfl rfl rfl rfl rfl rfl (by kernel_rfl) (by kernel_rfl) rfl rfl
theorem bind38 (vs:List Value) (h:vs.length = 1):bindArgs (hf "_iter_escaped_chars" "_iter_escaped_chars" (fnParams 2) (fnBody 2) (fnScope 2) 3 .none .none .none (hs "cpy313.email.utils" 282) (.ref 37)) ⟨vs,[]⟩ = pure (List.zip (["addr"]:List Str) vs):=by
  obtain ⟨v0,rfl⟩:=len_one h
  rfl
theorem def38 (P:Params):Def (AmbP P) 38 2 ["addr"]:=⟨_,fn38 P,by kernel_rfl,bind38⟩
theorem at45 (P:Params):AtP P 45 (ho48):=⟨by decide,by rfl,by rfl,by decide⟩
theorem at44 (P:Params):AtP P 44 (ho47):=⟨by decide,by rfl,by rfl,by decide⟩
theorem fn45 (P:Params):FnIs (AmbP P) 45 (hf "_strip_quoted_realnames" "_strip_quoted_realnames" (fnParams 3) (fnBody 3) (fnScope 3) 3 .none .none .none (hs "cpy313.email.utils" 282) (.ref 44)) (fnBody 3):=fnIs_of (at45 P) (at44 P) rfl rfl rfl rfl rfl rfl (by kernel_rfl) (by kernel_rfl) rfl rfl
theorem bind45 (vs:List Value) (h:vs.length = 1):bindArgs (hf "_strip_quoted_realnames" "_strip_quoted_realnames" (fnParams 3) (fnBody 3) (fnScope 3) 3 .none .none .none (hs "cpy313.email.utils" 282) (.ref 44)) ⟨vs,[]⟩ = pure (List.zip (["addr"]:List Str) vs):=by
  obtain ⟨v0,rfl⟩:=len_one h
  rfl
theorem def45 (P:Params):Def (AmbP P) 45 3 ["addr"]:=⟨_,fn45 P,by kernel_rfl,bind45⟩
theorem at52 (P:Params):AtP P 52 (ho55):=⟨by decide,by rfl,by rfl,by decide⟩
theorem at51 (P:Params):AtP P 51 (ho54):=⟨by decide,by rfl,by rfl,by decide⟩
theorem fn52 (P:Params):FnIs (AmbP P) 52 (hf "_check_parenthesis" "_check_parenthesis" (fnParams 4) (fnBody 4) (fnScope 4) 3 .none .none .none (hs "cpy313.email.utils" 282) (.ref 51)) (fnBody 4):=fnIs_of (at52 P) (at51 P) rfl rfl rfl rfl rfl rfl (by kernel_rfl) (by kernel_rfl) rfl rfl
theorem bind52 (vs:List Value) (h:vs.length = 1):bindArgs (hf "_check_parenthesis" "_check_parenthesis" (fnParams 4) (fnBody 4) (fnScope 4) 3 .none .none .none (hs "cpy313.email.utils" 282) (.ref 51)) ⟨vs,[]⟩ = pure (List.zip (["addr"]:List Str) vs):=by
  obtain ⟨v0,rfl⟩:=len_one h
  rfl
theorem def52 (P:Params):Def (AmbP P) 52 4 ["addr"]:=⟨_,fn52 P,by kernel_rfl,bind52⟩
theorem at59 (P:Params):AtP P 59 (ho62):=⟨by decide,by rfl,by rfl,by decide⟩
theorem at58 (P:Params):AtP P 58 (ho61):=⟨by decide,by rfl,by rfl,by decide⟩
theorem fn59 (P:Params):FnIs (AmbP P) 59 (hf "_ellipsis_match" "_ellipsis_match" (fnParams 7) (fnBody 7) (fnScope 7) 3 .none .none .none (hs "cpy313.doctest" 316) (.ref 58)) (fnBody 7):=fnIs_of (at59 P) (at58 P) rfl rfl rfl rfl rfl rfl (by kernel_rfl) (by kernel_rfl) rfl rfl
theorem bind59 (vs:List Value) (h:vs.length = 2):bindArgs (hf "_ellipsis_match" "_ellipsis_match" (fnParams 7) (fnBody 7) (fnScope 7) 3 .none .none .none (hs "cpy313.doctest" 316) (.ref 58)) ⟨vs,[]⟩ = pure (List.zip (["want","got"]:List Str) vs):=by
  obtain ⟨v0,v1,rfl⟩:=len_two h
  rfl
theorem def59 (P:Params):Def (AmbP P) 59 7 ["want","got"]:=⟨_,fn59 P,by kernel_rfl,bind59⟩
theorem at71 (P:Params):AtP P 71 (ho76):=⟨by decide,by rfl,by rfl,by decide⟩
theorem at70 (P:Params):AtP P 70 (ho75):=⟨by decide,by rfl,by rfl,by decide⟩
theorem fn71 (P:Params):FnIs (AmbP P) 71 (hf "in_table_c6" "in_table_c6" (fnParams 10) (fnBody 10) (fnScope 10) 3 .none .none .none (hs "cpy313.stringprep" 332) (.ref 70)) (fnBody 10):=fnIs_of (at71 P) (at70 P) rfl rfl rfl rfl rfl rfl (by kernel_rfl) (by kernel_rfl) rfl rfl
theorem bind71 (vs:List Value) (h:vs.length = 1):bindArgs (hf "in_table_c6" "in_table_c6" (fnParams 10) (fnBody 10) (fnScope 10) 3 .none .none .none (hs "cpy313.stringprep" 332) (.ref 70)) ⟨vs,[]⟩ = pure (List.zip (["code"]:List Str) vs):=by
  obtain ⟨v0,rfl⟩:=len_one h
  rfl
theorem def71 (P:Params):Def (AmbP P) 71 10 ["code"]:=⟨_,fn71 P,by kernel_rfl,bind71⟩
theorem at83 (P:Params):AtP P 83 (ho90):=⟨by decide,by rfl,by rfl,by decide⟩
theorem at82 (P:Params):AtP P 82 (ho89):=⟨by decide,by rfl,by rfl,by decide⟩
theorem fn83 (P:Params):FnIs (AmbP P) 83 (hf "in_table_c7" "in_table_c7" (fnParams 12) (fnBody 12) (fnScope 12) 3 .none .none .none (hs "cpy313.stringprep" 332) (.ref 82)) (fnBody 12):=fnIs_of (at83 P) (at82 P) rfl rfl rfl rfl rfl rfl (by kernel_rfl) (by kernel_rfl) rfl rfl
theorem bind83 (vs:List Value) (h:vs.length = 1):bindArgs (hf "in_table_c7" "in_table_c7" (fnParams 12) (fnBody 12) (fnScope 12) 3 .none .none .none (hs "cpy313.stringprep" 332) (.ref 82)) ⟨vs,[]⟩ = pure (List.zip (["code"]:List Str) vs):=by
  obtain ⟨v0,rfl⟩:=len_one h
  rfl
theorem def83 (P:Params):Def (AmbP P) 83 12 ["code"]:=⟨_,fn83 P,by kernel_rfl,bind83⟩
theorem at107 (P:Params):AtP P 107 (ho116):=⟨by decide,by rfl,by rfl,by decide⟩
theorem at106 (P:Params):AtP P 106 (ho115):=⟨by decide,by rfl,by rfl,by decide⟩
theorem fn107 (P:Params):FnIs (AmbP P) 107 (hf "in_table_c8" "in_table_c8" (fnParams 14) (fnBody 14) (fnScope 14) 3 .none .none .none (hs "cpy313.stringprep" 332) (.ref 106)) (fnBody 14):=fnIs_of (at107 P) (at106 P) rfl rfl rfl rfl rfl rfl (by kernel_rfl) (by kernel_rfl) rfl rfl
theorem bind107 (vs:List Value) (h:vs.length = 1):bindArgs (hf "in_table_c8" "in_table_c8" (fnParams 14) (fnBody 14) (fnScope 14) 3 .none .none .none (hs "cpy313.stringprep" 332) (.ref 106)) ⟨vs,[]⟩ = pure (List.zip (["code"]:List Str) vs):=by
  obtain ⟨v0,rfl⟩:=len_one h
  rfl
theorem def107 (P:Params):Def (AmbP P) 107 14 ["code"]:=⟨_,fn107 P,by kernel_rfl,bind107⟩
theorem at125 (P:Params):AtP P 125 (ho166):=⟨by decide,by rfl,by rfl,by decide⟩
theorem at124 (P:Params):AtP P 124 (ho165):=⟨by decide,by rfl,by rfl,by decide⟩
theorem fn125 (P:Params):FnIs (AmbP P) 125 (hf "in_table_c9" "in_table_c9" (fnParams 16) (fnBody 16) (fnScope 16) 3 .none .none .none (hs "cpy313.stringprep" 332) (.ref 124)) (fnBody 16):=fnIs_of (at125 P) (at124 P) rfl rfl rfl rfl rfl rfl (by kernel_rfl) (by kernel_rfl) rfl rfl
theorem bind125 (vs:List Value) (h:vs.length = 1):bindArgs (hf "in_table_c9" "in_table_c9" (fnParams 16) (fnBody 16) (fnScope 16) 3 .none .none .none (hs "cpy313.stringprep" 332) (.ref 124)) ⟨vs,[]⟩ = pure (List.zip (["code"]:List Str) vs):=by
  obtain ⟨v0,rfl⟩:=len_one h
  rfl
theorem def125 (P:Params):Def (AmbP P) 125 16 ["code"]:=⟨_,fn125 P,by kernel_rfl,bind125⟩
theorem at278 (P:Params):AtP P 278 (ho323):=⟨by decide,by rfl,by rfl,by decide⟩
theorem at277 (P:Params):AtP P 277 (ho322):=⟨by decide,by rfl,by rfl,by decide⟩
theorem fn278 (P:Params):FnIs (AmbP P) 278 (hf "_law_codes" "_law_codes" (fnParams 24) (fnBody 24) (fnScope 24) 3 .none .none .none (hs "law_ta0065_01" 909) (.ref 277)) (fnBody 24):=fnIs_of (at278 P) (at277 P) rfl rfl rfl rfl rfl rfl (by kernel_rfl) (by kernel_rfl) rfl rfl
theorem bind278 (vs:List Value) (h:vs.length = 3):bindArgs (hf "_law_codes" "_law_codes" (fnParams 24) (fnBody 24) (fnScope 24) 3 .none .none .none (hs "law_ta0065_01" 909) (.ref 277)) ⟨vs,[]⟩ = pure (List.zip (["number","k","size"]:List Str) vs):=by
  obtain ⟨v0,v1,v2,rfl⟩:=len_three h
  rfl
theorem def278 (P:Params):Def (AmbP P) 278 24 ["number","k","size"]:=⟨_,fn278 P,by kernel_rfl,bind278⟩
theorem at285 (P:Params):AtP P 285 (ho330):=⟨by decide,by rfl,by rfl,by decide⟩
theorem at284 (P:Params):AtP P 284 (ho329):=⟨by decide,by rfl,by rfl,by decide⟩
theorem fn285 (P:Params):FnIs (AmbP P) 285 (hf "_law_read" "_law_read" (fnParams 25) (fnBody 25) (fnScope 25) 3 .none .none .none (hs "law_ta0065_01" 909) (.ref 284)) (fnBody 25):=fnIs_of (at285 P) (at284 P) rfl rfl rfl rfl rfl rfl (by kernel_rfl) (by kernel_rfl) rfl rfl
theorem bind285 (vs:List Value) (h:vs.length = 2):bindArgs (hf "_law_read" "_law_read" (fnParams 25) (fnBody 25) (fnScope 25) 3 .none .none .none (hs "law_ta0065_01" 909) (.ref 284)) ⟨vs,[]⟩ = pure (List.zip (["codes","k"]:List Str) vs):=by
  obtain ⟨v0,v1,rfl⟩:=len_two h
  rfl
theorem def285 (P:Params):Def (AmbP P) 285 25 ["codes","k"]:=⟨_,fn285 P,by kernel_rfl,bind285⟩
theorem at290 (P:Params):AtP P 290 (ho335):=⟨by decide,by rfl,by rfl,by decide⟩
theorem at289 (P:Params):AtP P 289 (ho334):=⟨by decide,by rfl,by rfl,by decide⟩
theorem fn290 (P:Params):FnIs (AmbP P) 290 (hf "_law_known" "_law_known" (fnParams 26) (fnBody 26) (fnScope 26) 3 .none .none .none (hs "law_ta0065_01" 909) (.ref 289)) (fnBody 26):=fnIs_of (at290 P) (at289 P) rfl rfl rfl rfl rfl rfl (by kernel_rfl) (by kernel_rfl) rfl rfl
theorem bind290 (vs:List Value) (h:vs.length = 2):bindArgs (hf "_law_known" "_law_known" (fnParams 26) (fnBody 26) (fnScope 26) 3 .none .none .none (hs "law_ta0065_01" 909) (.ref 289)) ⟨vs,[]⟩ = pure (List.zip (["codes","k"]:List Str) vs):=by
  obtain ⟨v0,v1,rfl⟩:=len_two h
  rfl
theorem def290 (P:Params):Def (AmbP P) 290 26 ["codes","k"]:=⟨_,fn290 P,by kernel_rfl,bind290⟩
theorem at297 (P:Params):AtP P 297 (ho342):=⟨by decide,by rfl,by rfl,by decide⟩
theorem at296 (P:Params):AtP P 296 (ho341):=⟨by decide,by rfl,by rfl,by decide⟩
theorem fn297 (P:Params):FnIs (AmbP P) 297 (hf "_law_wished" "_law_wished" (fnParams 27) (fnBody 27) (fnScope 27) 3 .none .none .none (hs "law_ta0065_01" 909) (.ref 296)) (fnBody 27):=fnIs_of (at297 P) (at296 P) rfl rfl rfl rfl rfl rfl (by kernel_rfl) (by kernel_rfl) rfl rfl
theorem bind297 (vs:List Value) (h:vs.length = 2):bindArgs (hf "_law_wished" "_law_wished" (fnParams 27) (fnBody 27) (fnScope 27) 3 .none .none .none (hs "law_ta0065_01" 909) (.ref 296)) ⟨vs,[]⟩ = pure (List.zip (["columns","size"]:List Str) vs):=by
  obtain ⟨v0,v1,rfl⟩:=len_two h
  rfl
theorem def297 (P:Params):Def (AmbP P) 297 27 ["columns","size"]:=⟨_,fn297 P,by kernel_rfl,bind297⟩
theorem at304 (P:Params):AtP P 304 (ho349):=⟨by decide,by rfl,by rfl,by decide⟩
theorem at303 (P:Params):AtP P 303 (ho348):=⟨by decide,by rfl,by rfl,by decide⟩
theorem fn304 (P:Params):FnIs (AmbP P) 304 (hf "_law_granted" "_law_granted" (fnParams 28) (fnBody 28) (fnScope 28) 3 .none .none .none (hs "law_ta0065_01" 909) (.ref 303)) (fnBody 28):=fnIs_of (at304 P) (at303 P) rfl rfl rfl rfl rfl rfl (by kernel_rfl) (by kernel_rfl) rfl rfl
theorem bind304 (vs:List Value) (h:vs.length = 2):bindArgs (hf "_law_granted" "_law_granted" (fnParams 28) (fnBody 28) (fnScope 28) 3 .none .none .none (hs "law_ta0065_01" 909) (.ref 303)) ⟨vs,[]⟩ = pure (List.zip (["table","marks"]:List Str) vs):=by
  obtain ⟨v0,v1,rfl⟩:=len_two h
  rfl
theorem def304 (P:Params):Def (AmbP P) 304 28 ["table","marks"]:=⟨_,fn304 P,by kernel_rfl,bind304⟩
theorem at309 (P:Params):AtP P 309 (ho354):=⟨by decide,by rfl,by rfl,by decide⟩
theorem at308 (P:Params):AtP P 308 (ho353):=⟨by decide,by rfl,by rfl,by decide⟩
theorem fn309 (P:Params):FnIs (AmbP P) 309 (hf "_law_takes" "_law_takes" (fnParams 29) (fnBody 29) (fnScope 29) 3 .none .none .none (hs "law_ta0065_01" 909) (.ref 308)) (fnBody 29):=fnIs_of (at309 P) (at308 P) rfl rfl rfl rfl rfl rfl (by kernel_rfl) (by kernel_rfl) rfl rfl
theorem bind309 (vs:List Value) (h:vs.length = 2):bindArgs (hf "_law_takes" "_law_takes" (fnParams 29) (fnBody 29) (fnScope 29) 3 .none .none .none (hs "law_ta0065_01" 909) (.ref 308)) ⟨vs,[]⟩ = pure (List.zip (["wishes","many"]:List Str) vs):=by
  obtain ⟨v0,v1,rfl⟩:=len_two h
  rfl
theorem def309 (P:Params):Def (AmbP P) 309 29 ["wishes","many"]:=⟨_,fn309 P,by kernel_rfl,bind309⟩
theorem at316 (P:Params):AtP P 316 (ho361):=⟨by decide,by rfl,by rfl,by decide⟩
theorem at315 (P:Params):AtP P 315 (ho360):=⟨by decide,by rfl,by rfl,by decide⟩
theorem fn316 (P:Params):FnIs (AmbP P) 316 (hf "_law_can" "_law_can" (fnParams 30) (fnBody 30) (fnScope 30) 3 .none .none .none (hs "law_ta0065_01" 909) (.ref 315)) (fnBody 30):=fnIs_of (at316 P) (at315 P) rfl rfl rfl rfl rfl rfl (by kernel_rfl) (by kernel_rfl) rfl rfl
theorem bind316 (vs:List Value) (h:vs.length = 2):bindArgs (hf "_law_can" "_law_can" (fnParams 30) (fnBody 30) (fnScope 30) 3 .none .none .none (hs "law_ta0065_01" 909) (.ref 315)) ⟨vs,[]⟩ = pure (List.zip (["marks","wishes"]:List Str) vs):=by
  obtain ⟨v0,v1,rfl⟩:=len_two h
  rfl
theorem def316 (P:Params):Def (AmbP P) 316 30 ["marks","wishes"]:=⟨_,fn316 P,by kernel_rfl,bind316⟩
theorem at321 (P:Params):AtP P 321 (ho366):=⟨by decide,by rfl,by rfl,by decide⟩
theorem at320 (P:Params):AtP P 320 (ho365):=⟨by decide,by rfl,by rfl,by decide⟩
theorem fn321 (P:Params):FnIs (AmbP P) 321 (hf "law" "law" (fnParams 31) (fnBody 31) (fnScope 31) 3 .none .none .none (hs "law_ta0065_01" 909) (.ref 320)) (fnBody 31):=fnIs_of (at321 P) (at320 P) rfl rfl rfl rfl rfl rfl (by kernel_rfl) (by kernel_rfl) rfl rfl
theorem bind321 (vs:List Value) (h:vs.length = 1):bindArgs (hf "law" "law" (fnParams 31) (fnBody 31) (fnScope 31) 3 .none .none .none (hs "law_ta0065_01" 909) (.ref 320)) ⟨vs,[]⟩ = pure (List.zip (["script"]:List Str) vs):=by
  obtain ⟨v0,rfl⟩:=len_one h
  rfl
theorem def321 (P:Params):Def (AmbP P) 321 31 ["script"]:=⟨_,fn321 P,by kernel_rfl,bind321⟩
end
section
set_option maxRecDepth 100000
noncomputable def setL (es:Array (Int × Value)):List (Int × Tok):=es.toList.filterMap fun e => match e.2 with | .int i t => some (i,t) | _ => none
theorem setIs_of {prog:Program} {w:World} {P:Params} {a:Nat} {o:Obj} {es:Array (Int × Value)} {ep:Nat} {t:SetTable} {p:Int → Bool} (h:AtP P a o) (hx:o.ExactSet) (hd:o.data = .set es ep t) (hg:es.toList = (setL es).map fun q => (hashInt q.1,Value.int q.1 q.2)) (hs:es.size < scanBound) (hf:t.fits es.size = true)
    (hp:∀ c,p c = true ↔ c ∈ (setL es).map (·.1)):SetIs prog w (AmbP P) a p where
  has:=fun F hh hA hF => by
    refine ⟨_,o,es,ep,t,h.inH hA hF,hx,hd,fun e he => ?_,fun k => ?_,hs,hf,rfl⟩
    · rw [hg] at he
      obtain ⟨q,_,rfl⟩:=List.mem_map.mp he
      exact ⟨⟨q.1,beq_self_eq_true q.1,rfl⟩,rfl⟩
    · rw [hp,hg]
      constructor
      · intro hm
        obtain ⟨q,hq,e⟩:=List.mem_map.mp hm
        exact ⟨_,List.mem_map.mpr ⟨q,hq,rfl⟩,beq_iff_eq.mpr e⟩
      · rintro ⟨e,he,h2⟩
        obtain ⟨q,hq,rfl⟩:=List.mem_map.mp he
        exact List.mem_map.mpr ⟨q,hq,beq_iff_eq.mp h2⟩
noncomputable def ivOk:List (Int × Int) → Bool
  | [] => true
  | p :: r => decide (p.1 ≤ p.2) && (r.all fun q => decide (p.2 < q.1)) && ivOk r
theorem iv_none {c:Int}:∀ {ivs:List (Int × Int)},ivOk ivs = true → (∀ p ∈ ivs,c < p.1) → (ivs.map (·.2)).filter (fun e => decide (e < c)) = [] ∧ (ivs.map (·.1)).filter (fun e => decide (e ≤ c)) = []
  | [],_,_ => ⟨rfl,rfl⟩
  | p :: r,h,hc => by
    rw [ivOk,Bool.and_eq_true,Bool.and_eq_true,decide_eq_true_eq] at h
    obtain ⟨h1,h2⟩:=iv_none h.2 fun q hq => hc q (List.mem_cons_of_mem _ hq)
    have h3:=hc p (List.mem_cons_self ..)
    have h4:=h.1.1
    rw [List.map_cons,List.map_cons,List.filter_cons_of_neg (by rw [decide_eq_true_eq]; lia),List.filter_cons_of_neg (by rw [decide_eq_true_eq]; lia)]
    exact ⟨h1,h2⟩
theorem iv_count {c:Int}:∀ {ivs:List (Int × Int)},ivOk ivs = true → (((ivs.map (·.2)).filter (fun e => decide (e < c))).length < ((ivs.map (·.1)).filter (fun e => decide (e ≤ c))).length ↔ ∃ p ∈ ivs,p.1 ≤ c ∧ c ≤ p.2)
  | [],_ => by simp
  | p :: r,h => by
    have h0:=h
    rw [ivOk,Bool.and_eq_true,Bool.and_eq_true,decide_eq_true_eq] at h
    obtain ⟨⟨h1,h2⟩,h3⟩:=h
    have ih:=iv_count (c:=c) h3
    have h2':∀ q ∈ r,p.2 < q.1:=fun q hq => of_decide_eq_true (List.all_eq_true.mp h2 q hq)
    rw [List.map_cons,List.map_cons]
    by_cases hl:p.1 ≤ c
    · rw [List.filter_cons_of_pos (p:=fun e => decide (e ≤ c)) (decide_eq_true hl),List.length_cons]
      by_cases hh:p.2 < c
      · rw [List.filter_cons_of_pos (p:=fun e => decide (e < c)) (decide_eq_true hh),List.length_cons,Nat.succ_lt_succ_iff,ih]
        constructor
        · rintro ⟨q,hq,e⟩; exact ⟨q,List.mem_cons_of_mem _ hq,e⟩
        · rintro ⟨q,hq,e⟩
          rcases List.mem_cons.mp hq with rfl | hq
          · exact absurd e.2 (Int.not_le.mpr hh)
          · exact ⟨q,hq,e⟩
      · obtain ⟨n1,n2⟩:=iv_none (c:=c) h3 fun q hq => by have:=h2' q hq; lia
        rw [List.filter_cons_of_neg (by rw [decide_eq_true_eq]; exact hh),n1,n2]
        exact ⟨fun _ => ⟨p,List.mem_cons_self ..,hl,Int.not_lt.mp hh⟩,fun _ => Nat.zero_lt_one⟩
    · obtain ⟨n1,n2⟩:=iv_none (c:=c) h0 fun q hq => by
        rcases List.mem_cons.mp hq with rfl | hq
        · lia
        · have:=h2' q hq; lia
      rw [List.map_cons] at n1 n2
      rw [n1,n2]
      refine ⟨fun q => absurd q (Nat.lt_irrefl 0),?_⟩
      rintro ⟨q,hq,e⟩
      rcases List.mem_cons.mp hq with rfl | hq
      · exact absurd e.1 hl
      · have:=h2' q hq; lia
noncomputable def ivsL (ivs:List (Int × Int)):List Int:=ivs.flatMap fun iv => (List.range (iv.2 + 1 - iv.1).toNat).map fun i => iv.1 + (i:Nat)
theorem mem_ivs {ivs:List (Int × Int)} {c:Int}:c ∈ ivsL ivs ↔ ∃ iv ∈ ivs,iv.1 ≤ c ∧ c ≤ iv.2:=by
  unfold ivsL
  rw [List.mem_flatMap]
  constructor
  · rintro ⟨iv,h,hc⟩
    obtain ⟨i,hi,rfl⟩:=List.mem_map.mp hc
    have:=List.mem_range.mp hi
    exact ⟨iv,h,by lia,by lia⟩
  · rintro ⟨iv,h,h1,h2⟩
    exact ⟨iv,h,List.mem_map.mpr ⟨(c - iv.1).toNat,List.mem_range.mpr (by lia),by lia⟩⟩
noncomputable def sameInts (L M:List Int):Bool:=(L.all fun x => M.contains x) && M.all fun x => L.contains x
theorem isX_mem {k:Nat} {ivs:List (Int × Int)} {L:List Int} (h1:lowOf k = ivs.map (·.1)) (h2:highOf k = ivs.map (·.2)) (h3:ivOk ivs = true) (h4:sameInts (ivsL ivs) L = true) (c:Int):isX k c = true ↔ c ∈ L:=by
  unfold isX
  rw [decide_eq_true_eq,h1,h2,iv_count h3,← mem_ivs]
  obtain ⟨h5,h6⟩:=Bool.and_eq_true_iff.mp h4
  exact ⟨fun hc => List.contains_iff_mem.mp (List.all_eq_true.mp h5 c hc),fun hc => List.contains_iff_mem.mp (List.all_eq_true.mp h6 c hc)⟩
theorem at61 (P:Params):AtP P 61 (ho66 (!P.followText "set-order")):=⟨by decide,by rfl,by rfl,by decide⟩
theorem at73 (P:Params):AtP P 73 (ho80 (!P.followText "set-order")):=⟨by decide,by rfl,by rfl,by decide⟩
theorem at97 (P:Params):AtP P 97 (ho106 (!P.followText "set-order")):=⟨by decide,by rfl,by rfl,by decide⟩
theorem at115 (P:Params):AtP P 115 (ho152 (!P.followText "set-order")):=⟨by decide,by rfl,by rfl,by decide⟩
theorem set0 (prog:Program) (w:World) (P:Params):SetIs prog w (AmbP P) 61 (isX 0) :=
  setIs_of (at61 P) ⟨rfl,rfl,rfl⟩ rfl (by kernel_rfl) (by decide) (by kernel_rfl) (isX_mem (ivs:=[(65529,65533)]) rfl rfl (by kernel_rfl) (by kernel_rfl))
theorem set1 (prog:Program) (w:World) (P:Params):SetIs prog w (AmbP P) 73 (isX 1) :=
  setIs_of (at73 P) ⟨rfl,rfl,rfl⟩ rfl (by kernel_rfl) (by decide) (by kernel_rfl) (isX_mem (ivs:=[(12272,12283)]) rfl rfl (by kernel_rfl) (by kernel_rfl))
theorem set2 (prog:Program) (w:World) (P:Params):SetIs prog w (AmbP P) 97 (isX 2) :=
  setIs_of (at97 P) ⟨rfl,rfl,rfl⟩ rfl (by kernel_rfl) (by decide) (by kernel_rfl) (isX_mem (ivs:=[(832,833),(8206,8207),(8234,8238),(8298,8303)]) rfl rfl (by kernel_rfl) (by kernel_rfl))
theorem set3 (prog:Program) (w:World) (P:Params):SetIs prog w (AmbP P) 115 (isX 3) :=
  setIs_of (at115 P) ⟨rfl,rfl,rfl⟩ rfl (by kernel_rfl) (by decide) (by kernel_rfl) (isX_mem (ivs:=[(917505,917505),(917536,917631)]) rfl rfl (by kernel_rfl) (by kernel_rfl))
end
section
set_option maxRecDepth 100000
theorem len1 {vs:List Value} (h:vs.length = 1):∃ a,vs = [a]:=by match vs,h with | [a],_ => exact ⟨a,rfl⟩
theorem len2 {vs:List Value} (h:vs.length = 2):∃ a b,vs = [a,b]:=by match vs,h with | [a,b],_ => exact ⟨a,b,rfl⟩
theorem len3 {vs:List Value} (h:vs.length = 3):∃ a b c,vs = [a,b,c]:=by match vs,h with | [a,b,c],_ => exact ⟨a,b,c,rfl⟩
theorem frag1 {a:Addr} {o:Obj} {h:Heap} (e:h.get? a = some o):Frag.In [(a,o)] h:=by
  intro b o' hb
  simp only [List.lookup] at hb
  set_option tactic.hygienic true in split at hb
  · rename_i q; cases hb; rw [beq_iff_eq.mp q]; exact e
  · cases hb
theorem at163 (P:Params):AtP P 163 (ho206):=⟨by decide,by rfl,by rfl,by decide⟩
theorem at162 (P:Params):AtP P 162 (ho205):=⟨by decide,by rfl,by rfl,by decide⟩
theorem at156 (P:Params):AtP P 156 (ho199):=⟨by decide,by rfl,by rfl,by decide⟩
theorem fn163 (P:Params):FnIs (AmbP P) 163 (hf "__init__" "Headers.__init__" (fnParamsM 0) (fnBodyM 0) (fnScopeM 0) 3 (.ref 156) .none .none (hs "cpy313.wsgiref.headers" 645) (.ref 162)) (fnBodyM 0):=fnIs_of (at163 P) (at162 P) rfl rfl rfl rfl (by kernel_rfl) rfl (by kernel_rfl) (by kernel_rfl) rfl rfl
theorem hdef163 (P:Params):HDef (AmbP P) 163 0 ["self","headers"] (fun vs => vs ++ [.none]) []:=⟨_,fn163 P,by kernel_rfl,fun prog w A F s vs Q E hA hF hl hQ => by
  obtain ⟨a,rfl⟩:=len1 (vs:=vs) (by simpa using hl)
  exact Looks.here (Looks.of_peek (K:=[(156,ho199)]) (frag1 ((at156 P).inH hA hF)) (by rfl)) hQ⟩
theorem at170 (P:Params):AtP P 170 (ho213):=⟨by decide,by rfl,by rfl,by decide⟩
theorem at169 (P:Params):AtP P 169 (ho212):=⟨by decide,by rfl,by rfl,by decide⟩
theorem fn170 (P:Params):FnIs (AmbP P) 170 (hf "_convert_string_type" "Headers._convert_string_type" (fnParamsM 1) (fnBodyM 1) (fnScopeM 1) 3 .none .none .none (hs "cpy313.wsgiref.headers" 645) (.ref 169)) (fnBodyM 1):=fnIs_of (at170 P) (at169 P) rfl rfl rfl rfl (by kernel_rfl) rfl (by kernel_rfl) (by kernel_rfl) rfl rfl
theorem hdef170 (P:Params) (b:Bool):HDef (AmbP P) 170 1 ["self","value","name"] (fun vs => vs ++ [.bool b]) [("name",.bool b)]:=⟨_,fn170 P,by kernel_rfl,fun prog w A F s vs Q E hA hF hl hQ => by
  obtain ⟨x,y,rfl⟩:=len2 (vs:=vs) (by simpa using hl)
  have e:bindArgs (hf "_convert_string_type" "Headers._convert_string_type" (fnParamsM 1) (fnBodyM 1) (fnScopeM 1) 3 .none .none .none (hs "cpy313.wsgiref.headers" 645) (.ref 169)) ⟨[x,y],[("name",.bool b)]⟩ = pure (List.zip (["self","value","name"]:List Str) [x,y,.bool b]):=by rfl
  rw [e]
  exact wpAny_pure hQ⟩
theorem at184 (P:Params):AtP P 184 (ho227):=⟨by decide,by rfl,by rfl,by decide⟩
theorem at183 (P:Params):AtP P 183 (ho226):=⟨by decide,by rfl,by rfl,by decide⟩
theorem fn184 (P:Params):FnIs (AmbP P) 184 (hf "__setitem__" "Headers.__setitem__" (fnParamsM 3) (fnBodyM 3) (fnScopeM 3) 3 .none .none .none (hs "cpy313.wsgiref.headers" 645) (.ref 183)) (fnBodyM 3):=fnIs_of (at184 P) (at183 P) rfl rfl rfl rfl (by kernel_rfl) rfl (by kernel_rfl) (by kernel_rfl) rfl rfl
theorem hdef184 (P:Params):HDef (AmbP P) 184 3 ["self","name","val"] (fun vs => vs ++ []) []:=⟨_,fn184 P,by kernel_rfl,fun prog w A F s vs Q E hA hF hl hQ => by
  obtain ⟨a,b,c,rfl⟩:=len3 (vs:=vs) (by simpa using hl)
  have e:bindArgs (hf "__setitem__" "Headers.__setitem__" (fnParamsM 3) (fnBodyM 3) (fnScopeM 3) 3 .none .none .none (hs "cpy313.wsgiref.headers" 645) (.ref 183)) ⟨[a,b,c],[]⟩ = pure (List.zip (["self","name","val"]:List Str) [a,b,c]):=by rfl
  rw [e]
  exact wpAny_pure hQ⟩
theorem at189 (P:Params):AtP P 189 (ho232):=⟨by decide,by rfl,by rfl,by decide⟩
theorem at188 (P:Params):AtP P 188 (ho231):=⟨by decide,by rfl,by rfl,by decide⟩
theorem fn189 (P:Params):FnIs (AmbP P) 189 (hf "__delitem__" "Headers.__delitem__" (fnParamsM 4) (fnBodyM 4) (fnScopeM 4) 3 .none .none .none (hs "cpy313.wsgiref.headers" 645) (.ref 188)) (fnBodyM 4):=fnIs_of (at189 P) (at188 P) rfl rfl rfl rfl (by kernel_rfl) rfl (by kernel_rfl) (by kernel_rfl) rfl rfl
theorem hdef189 (P:Params):HDef (AmbP P) 189 4 ["self","name"] (fun vs => vs ++ []) []:=⟨_,fn189 P,by kernel_rfl,fun prog w A F s vs Q E hA hF hl hQ => by
  obtain ⟨a,b,rfl⟩:=len2 (vs:=vs) (by simpa using hl)
  have e:bindArgs (hf "__delitem__" "Headers.__delitem__" (fnParamsM 4) (fnBodyM 4) (fnScopeM 4) 3 .none .none .none (hs "cpy313.wsgiref.headers" 645) (.ref 188)) ⟨[a,b],[]⟩ = pure (List.zip (["self","name"]:List Str) [a,b]):=by rfl
  rw [e]
  exact wpAny_pure hQ⟩
theorem at208 (P:Params):AtP P 208 (ho251):=⟨by decide,by rfl,by rfl,by decide⟩
theorem at207 (P:Params):AtP P 207 (ho250):=⟨by decide,by rfl,by rfl,by decide⟩
theorem fn208 (P:Params):FnIs (AmbP P) 208 (hf "get_all" "Headers.get_all" (fnParamsM 7) (fnBodyM 7) (fnScopeM 4) 3 .none .none .none (hs "cpy313.wsgiref.headers" 645) (.ref 207)) (fnBodyM 7):=fnIs_of (at208 P) (at207 P) rfl rfl rfl rfl (by kernel_rfl) rfl (by kernel_rfl) (by kernel_rfl) rfl rfl
theorem hdef208 (P:Params):HDef (AmbP P) 208 7 ["self","name"] (fun vs => vs ++ []) []:=⟨_,fn208 P,by kernel_rfl,fun prog w A F s vs Q E hA hF hl hQ => by
  obtain ⟨a,b,rfl⟩:=len2 (vs:=vs) (by simpa using hl)
  have e:bindArgs (hf "get_all" "Headers.get_all" (fnParamsM 7) (fnBodyM 7) (fnScopeM 4) 3 .none .none .none (hs "cpy313.wsgiref.headers" 645) (.ref 207)) ⟨[a,b],[]⟩ = pure (List.zip (["self","name"]:List Str) [a,b]):=by rfl
  rw [e]
  exact wpAny_pure hQ⟩
theorem at216 (P:Params):AtP P 216 (ho259):=⟨by decide,by rfl,by rfl,by decide⟩
theorem at215 (P:Params):AtP P 215 (ho258):=⟨by decide,by rfl,by rfl,by decide⟩
theorem at209 (P:Params):AtP P 209 (ho252):=⟨by decide,by rfl,by rfl,by decide⟩
theorem fn216 (P:Params):FnIs (AmbP P) 216 (hf "get" "Headers.get" (fnParamsM 8) (fnBodyM 8) (fnScopeM 8) 3 (.ref 209) .none .none (hs "cpy313.wsgiref.headers" 645) (.ref 215)) (fnBodyM 8):=fnIs_of (at216 P) (at215 P) rfl rfl rfl rfl (by kernel_rfl) rfl (by kernel_rfl) (by kernel_rfl) rfl rfl
theorem hdef216 (P:Params):HDef (AmbP P) 216 8 ["self","name","default"] (fun vs => vs ++ [.none]) []:=⟨_,fn216 P,by kernel_rfl,fun prog w A F s vs Q E hA hF hl hQ => by
  obtain ⟨a,b,rfl⟩:=len2 (vs:=vs) (by simpa using hl)
  exact Looks.here (Looks.of_peek (K:=[(209,ho252)]) (frag1 ((at209 P).inH hA hF)) (by rfl)) hQ⟩
theorem at226 (P:Params):AtP P 226 (ho269):=⟨by decide,by rfl,by rfl,by decide⟩
theorem at225 (P:Params):AtP P 225 (ho268):=⟨by decide,by rfl,by rfl,by decide⟩
theorem fn226 (P:Params):FnIs (AmbP P) 226 (hf "values" "Headers.values" (fnParamsM 10) (fnBodyM 10) (fnScopeM 9) 3 .none .none .none (hs "cpy313.wsgiref.headers" 645) (.ref 225)) (fnBodyM 10):=fnIs_of (at226 P) (at225 P) rfl rfl rfl rfl (by kernel_rfl) rfl (by kernel_rfl) (by kernel_rfl) rfl rfl
theorem hdef226 (P:Params):HDef (AmbP P) 226 10 ["self"] (fun vs => vs ++ []) []:=⟨_,fn226 P,by kernel_rfl,fun prog w A F s vs Q E hA hF hl hQ => by
  obtain ⟨a,rfl⟩:=len1 (vs:=vs) (by simpa using hl)
  have e:bindArgs (hf "values" "Headers.values" (fnParamsM 10) (fnBodyM 10) (fnScopeM 9) 3 .none .none .none (hs "cpy313.wsgiref.headers" 645) (.ref 225)) ⟨[a],[]⟩ = pure (List.zip (["self"]:List Str) [a]):=by rfl
  rw [e]
  exact wpAny_pure hQ⟩
theorem at233 (P:Params):AtP P 233 (ho276):=⟨by decide,by rfl,by rfl,by decide⟩
theorem at232 (P:Params):AtP P 232 (ho275):=⟨by decide,by rfl,by rfl,by decide⟩
theorem fn233 (P:Params):FnIs (AmbP P) 233 (hf "items" "Headers.items" (fnParamsM 11) (fnBodyM 11) (fnScopeM 11) 3 .none .none .none (hs "cpy313.wsgiref.headers" 645) (.ref 232)) (fnBodyM 11):=fnIs_of (at233 P) (at232 P) rfl rfl rfl rfl (by kernel_rfl) rfl (by kernel_rfl) (by kernel_rfl) rfl rfl
theorem hdef233 (P:Params):HDef (AmbP P) 233 11 ["self"] (fun vs => vs ++ []) []:=⟨_,fn233 P,by kernel_rfl,fun prog w A F s vs Q E hA hF hl hQ => by
  obtain ⟨a,rfl⟩:=len1 (vs:=vs) (by simpa using hl)
  have e:bindArgs (hf "items" "Headers.items" (fnParamsM 11) (fnBodyM 11) (fnScopeM 11) 3 .none .none .none (hs "cpy313.wsgiref.headers" 645) (.ref 232)) ⟨[a],[]⟩ = pure (List.zip (["self"]:List Str) [a]):=by rfl
  rw [e]
  exact wpAny_pure hQ⟩
theorem at259 (P:Params):AtP P 259 (ho302):=⟨by decide,by rfl,by rfl,by decide⟩
theorem at258 (P:Params):AtP P 258 (ho301):=⟨by decide,by rfl,by rfl,by decide⟩
theorem fn259 (P:Params):FnIs (AmbP P) 259 (hf "setdefault" "Headers.setdefault" (fnParamsM 15) (fnBodyM 15) (fnScopeM 15) 3 .none .none .none (hs "cpy313.wsgiref.headers" 645) (.ref 258)) (fnBodyM 15):=fnIs_of (at259 P) (at258 P) rfl rfl rfl rfl (by kernel_rfl) rfl (by kernel_rfl) (by kernel_rfl) rfl rfl
theorem hdef259 (P:Params):HDef (AmbP P) 259 15 ["self","name","value"] (fun vs => vs ++ []) []:=⟨_,fn259 P,by kernel_rfl,fun prog w A F s vs Q E hA hF hl hQ => by
  obtain ⟨a,b,c,rfl⟩:=len3 (vs:=vs) (by simpa using hl)
  have e:bindArgs (hf "setdefault" "Headers.setdefault" (fnParamsM 15) (fnBodyM 15) (fnScopeM 15) 3 .none .none .none (hs "cpy313.wsgiref.headers" 645) (.ref 258)) ⟨[a,b,c],[]⟩ = pure (List.zip (["self","name","value"]:List Str) [a,b,c]):=by rfl
  rw [e]
  exact wpAny_pure hQ⟩
theorem at266 (P:Params):AtP P 266 (ho309):=⟨by decide,by rfl,by rfl,by decide⟩
theorem at265 (P:Params):AtP P 265 (ho308):=⟨by decide,by rfl,by rfl,by decide⟩
theorem fn266 (P:Params):FnIs (AmbP P) 266 (hf "add_header" "Headers.add_header" (fnParamsM 16) (fnBodyM 16) (fnScopeM 16) 3 .none .none .none (hs "cpy313.wsgiref.headers" 645) (.ref 265)) (fnBodyM 16):=fnIs_of (at266 P) (at265 P) rfl rfl rfl rfl (by kernel_rfl) rfl (by kernel_rfl) (by kernel_rfl) rfl rfl
theorem hkw266 (P:Params):HDefKw (AmbP P) 266:=⟨_,fn266 P,by kernel_rfl,fun prog w A F s v1 v2 v3 Q E hA hF hQ => by
  have e:bindArgs (hf "add_header" "Headers.add_header" (fnParamsM 16) (fnBodyM 16) (fnScopeM 16) 3 .none .none .none (hs "cpy313.wsgiref.headers" 645) (.ref 265)) ⟨[v1,v2,v3],[]⟩ = (do let d ← alloc edO; pure (List.zip (["self","_name","_value","_params"]:List Str) [v1,v2,v3,.ref d])):=by rfl
  rw [e]
  exact wpAny_bind (wpAny_alloc (wpAny_pure hQ))⟩
end
section
set_option maxRecDepth 100000
theorem at1 (P:Params):AtP P 1 (ho1 P):=⟨by decide,by rfl,by rfl,by decide⟩
theorem at4 (P:Params):AtP P 4 ho4:=⟨by decide,by rfl,by rfl,by decide⟩
theorem at134 (P:Params):AtP P 134 ho175:=⟨by decide,by rfl,by rfl,by decide⟩
theorem at135 (P:Params):AtP P 135 ho176:=⟨by decide,by rfl,by rfl,by decide⟩
theorem at139 (P:Params):AtP P 139 ho180:=⟨by decide,by rfl,by rfl,by decide⟩
theorem at140 (P:Params):AtP P 140 ho181:=⟨by decide,by rfl,by rfl,by decide⟩
theorem at268 (P:Params):AtP P 268 (ho311 P):=⟨by decide,by rfl,by rfl,by decide⟩
theorem at269 (P:Params):AtP P 269 ho312:=⟨by decide,by rfl,by rfl,by decide⟩
theorem frag_in {K:Frag} {h:Heap} (e:∀ p ∈ K,h.get? p.1 = some p.2):K.In h:=by
  induction K with
  | nil => intro b o hb; cases hb
  | cons q K ih =>
    obtain ⟨a,o⟩:=q
    intro b o' hb
    simp only [List.lookup] at hb
    set_option tactic.hygienic true in split at hb
    · rename_i q; cases hb; rw [beq_iff_eq.mp q]; exact e (a,o) (List.mem_cons_self ..)
    · exact ih (fun p hp => e p (List.mem_cons_of_mem _ hp)) b o' hb
theorem frag_F {K:Frag} {P:Params} {F:Fz} (hA:AmbP P F) (e:∀ p ∈ K,AtP P p.1 p.2):∀ a o,K.lookup a = some o → F a = some o:=by
  induction K with
  | nil => intro b o hb; cases hb
  | cons q K ih =>
    obtain ⟨a,o⟩:=q
    intro b o' hb
    simp only [List.lookup] at hb
    set_option tactic.hygienic true in split at hb
    · rename_i q; cases hb; rw [beq_iff_eq.mp q]; exact (e (a,o) (List.mem_cons_self ..)).in hA
    · exact ih (fun p hp => e p (List.mem_cons_of_mem _ hp)) b o' hb
theorem patN (P:Params):PatIs (AmbP P) 135 okN where
  obj:=fun F hA => ⟨_,(at135 P).in hA,rfl,rfl⟩
  run:=fun prog w A F s x t Q E hA hF ⟨c,hc,up,e⟩ hQ => by
    subst e
    refine Looks.here (patN_run t _ _ (frag_in fun p hp => ?_) hc up) hQ
    simp only [patKN,List.mem_cons,List.not_mem_nil,or_false] at hp
    rcases hp with rfl | rfl
    · exact (at135 P).inH hA hF
    · exact (at134 P).inH hA hF
theorem patV (P:Params):PatIs (AmbP P) 140 okV where
  obj:=fun F hA => ⟨_,(at140 P).in hA,rfl,rfl⟩
  run:=fun prog w A F s x t Q E hA hF hx hQ => by
    have X:Frag.In patKV s.heap:=frag_in fun p hp => by
      simp only [patKV,List.mem_cons,List.not_mem_nil,or_false] at hp
      rcases hp with rfl | rfl
      · exact (at140 P).inH hA hF
      · exact (at139 P).inH hA hF
    rcases hx with ⟨n,hn,rfl⟩ | ⟨k,hk,rfl⟩
    · exact Looks.here (patV_xs t _ _ X (by lia)) hQ
    · exact Looks.here (patV_dig t _ _ X hk) hQ
theorem htop (P:Params):HTop (mgF P) (mbF P) atF (AmbP P) okN okV where
  type:=⟨by kernel_rfl,by kernel_rfl⟩
  okN:=by rw [show atF "_name_disallowed_re" = 135 from by kernel_rfl]; exact patN P
  okV:=by rw [show atF "_value_disallowed_re" = 140 from by kernel_rfl]; exact patV P
noncomputable def mfL:List (Str × Addr):=[("__init__",163),("_convert_string_type",170),("setdefault",259),("get",216),("__setitem__",184),("__delitem__",189),("items",233),("get_all",208),("add_header",266),("values",226)]
noncomputable def mfF (x:Str):Addr:=(mfL.lookup x).getD 0
noncomputable def hdrK (P:Params):Frag:=[(269,ho312),(268,ho311 P),(163,ho206),(170,ho213),(259,ho302),(216,ho259),(184,ho227),(189,ho232),(233,ho276),(208,ho251),(266,ho309),(226,ho269)]
theorem hdrOk (P:Params):HdrOk (AmbP P) (hdrK P) mfF where
  sub:=fun F hA => frag_F hA fun p hp => by
    simp only [hdrK,List.mem_cons,List.not_mem_nil,or_false] at hp
    rcases hp with rfl | rfl | rfl | rfl | rfl | rfl | rfl | rfl | rfl | rfl | rfl | rfl
    · exact at269 P
    · exact at268 P
    · exact at163 P
    · exact at170 P
    · exact at259 P
    · exact at216 P
    · exact at184 P
    · exact at189 P
    · exact at233 P
    · exact at208 P
    · exact at266 P
    · exact at226 P
  plain:=by kernel_rfl
  dict:=by kernel_rfl
  own:=by kernel_rfl
  meth:=fun n hn => by
    simp only [hdrMeths,List.mem_cons,List.not_mem_nil,or_false] at hn
    rcases hn with rfl | rfl | rfl | rfl | rfl | rfl | rfl | rfl | rfl | rfl <;> exact ⟨by kernel_rfl,by kernel_rfl⟩
  seq:=by kernel_rfl
  makes:=by kernel_rfl
  sets:=by kernel_rfl
  over:=by kernel_rfl
  taker:=by kernel_rfl
  keep:=by kernel_rfl
theorem hall (prog:Program) (w:World) (P:Params):HAll prog w (AmbP P) (mgF P) (mbF P) atF mfF (hdrK P) okN okV where
  H:=ambOk prog w P
  T:=topOk P
  HT:=htop P
  HK:=hdrOk P
  conv:=fun b => by rw [show mfF "_convert_string_type" = 170 from by kernel_rfl]; exact hdef170 P b
  init:=by rw [show mfF "__init__" = 163 from by kernel_rfl]; exact hdef163 P
  setitem:=by rw [show mfF "__setitem__" = 184 from by kernel_rfl]; exact hdef184 P
  delitem:=by rw [show mfF "__delitem__" = 189 from by kernel_rfl]; exact hdef189 P
  getall:=by rw [show mfF "get_all" = 208 from by kernel_rfl]; exact hdef208 P
  get:=by rw [show mfF "get" = 216 from by kernel_rfl]; exact hdef216 P
  values:=by rw [show mfF "values" = 226 from by kernel_rfl]; exact hdef226 P
  items:=by rw [show mfF "items" = 233 from by kernel_rfl]; exact hdef233 P
  setdef:=by rw [show mfF "setdefault" = 259 from by kernel_rfl]; exact hdef259 P
theorem tabOk (P:Params):TabOk (mgF P) (AmbP P) 303 299 where
  code:=fun F h hA hF => ⟨_,_,_,_,_,_,_,_,_,(at303 P).inH hA hF,rfl,rfl,rfl,rfl,rfl,rfl,rfl,rfl,by decide⟩
  bt:=fun F h hA hF => ⟨4,ho4,by kernel_rfl,by decide,by decide,by decide,(at4 P).inH hA hF,rfl,rfl,rfl⟩
  ne:=by decide
noncomputable def lamQF:Str:=("_law_granted":Str) ++ ".<locals>." ++ "<lambda>"
theorem lawX (prog:Program) (w:World) (P:Params):LawX prog w (AmbP P) (mgF P) (mbF P) atF mfF (hdrK P) 303 299 lamQF where
  X:=hall prog w P
  hsys:=fun F hA => ⟨ho1 P,(at1 P).in hA,fun e => by
    have:=congrArg Obj.data e
    injection this with h1
    have:=congrArg Array.size h1
    cases this⟩
  Dk:=by rw [show mfF "add_header" = 266 from by kernel_rfl]; exact hkw266 P
  hH:=by kernel_rfl
  Tb:=tabOk P
  hen:=enumOk P
  D2:=by rw [show atF "_iter_escaped_chars" = 38 from by kernel_rfl]; exact def38 P
  D3:=by rw [show atF "_strip_quoted_realnames" = 45 from by kernel_rfl]; exact def45 P
  D4:=by rw [show atF "_check_parenthesis" = 52 from by kernel_rfl]; exact def52 P
  D7:=by rw [show atF "_ellipsis_match" = 59 from by kernel_rfl]; exact def59 P
  D24:=by rw [show atF "_law_codes" = 278 from by kernel_rfl]; exact def278 P
  D25:=by rw [show atF "_law_read" = 285 from by kernel_rfl]; exact def285 P
  D26:=by rw [show atF "_law_known" = 290 from by kernel_rfl]; exact def290 P
  D27:=by rw [show atF "_law_wished" = 297 from by kernel_rfl]; exact def297 P
  D29:=by rw [show atF "_law_takes" = 309 from by kernel_rfl]; exact def309 P
  D30:=by rw [show atF "_law_can" = 316 from by kernel_rfl]; exact def316 P
  G:=by rw [show atF "_law_granted" = 304 from by kernel_rfl]; exact ⟨_,fn304 P,by kernel_rfl,bind304,rfl,rfl⟩
  Df:=fun k hk => by
    match k,hk with
    | 0,_ => rw [show atF (tabName 0) = 71 from by kernel_rfl]; exact def71 P
    | 1,_ => rw [show atF (tabName 1) = 83 from by kernel_rfl]; exact def83 P
    | 2,_ => rw [show atF (tabName 2) = 107 from by kernel_rfl]; exact def107 P
    | 3,_ => rw [show atF (tabName 3) = 125 from by kernel_rfl]; exact def125 P
  Ds:=fun k hk => by
    match k,hk with
    | 0,_ => rw [show atF (setName 0) = 61 from by kernel_rfl]; exact set0 prog w P
    | 1,_ => rw [show atF (setName 1) = 73 from by kernel_rfl]; exact set1 prog w P
    | 2,_ => rw [show atF (setName 2) = 97 from by kernel_rfl]; exact set2 prog w P
    | 3,_ => rw [show atF (setName 3) = 115 from by kernel_rfl]; exact set3 prog w P
end
section
set_option maxRecDepth 100000
theorem has_int {R:WRecords} {d:WData} (h:WShape.has R d .int = true):∃ i,d = .int i:=by
  cases d <;> first | exact ⟨_,rfl⟩ | exact absurd (show false = true from h) Bool.false_ne_true
theorem has_ints {R:WRecords}:∀ {xs:List WData},WShape.hasItems R xs .int = true → ∃ ns:List Int,xs = ns.map WData.int
  | [],_ => ⟨[],rfl⟩
  | x :: xs,h => by
    have h:(WShape.has R x .int && WShape.hasItems R xs .int) = true:=h
    rw [Bool.and_eq_true] at h
    obtain ⟨i,rfl⟩:=has_int h.1
    obtain ⟨ns,rfl⟩:=has_ints h.2
    exact ⟨i :: ns,rfl⟩
theorem has_list {R:WRecords} {d:WData} (h:WShape.has R d (.list .int) = true):∃ ns:List Int,d = .list (ns.map WData.int):=by
  cases d with
  | list xs =>
    have h:WShape.hasItems R xs .int = true:=(Bool.or_false _).symm.trans h
    obtain ⟨ns,rfl⟩:=has_ints h
    exact ⟨ns,rfl⟩
  | _ => exact absurd (show false = true from h) Bool.false_ne_true
theorem args_of {args:List WData} (h:PySem.Challenge.rw_ta0065_01.row.toRowW.claim.pre args = true):∃ ns:List Int,args = [.list (ns.map WData.int)] ∧ ns.length ≤ 63:=by
  obtain ⟨h1,h2⟩:=Bool.and_eq_true_iff.mp h
  have h1:WShape.hasAll [] args [.list .int] = true:=h1
  match args,h1,h2 with
  | [],h1,_ => cases h1
  | [d],h1,h2 =>
    rw [WShape.hasAll,Bool.and_eq_true] at h1
    obtain ⟨ns,rfl⟩:=has_list h1.1
    refine ⟨ns,rfl,?_⟩
    have h2:WTm.holds [] (.and (.not (.lt (.lit (.int 63)) (.len (.arg 0)))) (.lit (.bool true))) { args:=[.list (ns.map WData.int)] } = true:=h2
    have e:WTm.value [] (.not (.lt (.lit (.int 63)) (.len (.arg 0)))) { args:=[.list (ns.map WData.int)] } = some (.bool (!decide ((63:Int) < ((ns.map WData.int).length:Nat)))):=by rfl
    unfold WTm.holds at h2
    rw [WTm.value,e] at h2
    by_cases hl:(63:Int) < ((ns.map WData.int).length:Nat)
    · rw [decide_eq_true hl] at h2
      cases h2
    · rw [List.length_map] at hl
      lia
  | d :: e :: r,h1,_ =>
    rw [WShape.hasAll,Bool.and_eq_true] at h1
    cases h1.2
theorem rel_ints {P:Params} {h:Heap} {F:Fz} {φ:List Addr}:∀ {vs:List Value} {ns:List Int},WellAll P h vs (ns.map WData.int) → RelL F φ vs (ns.map V.int)
  | _,[],x => by cases x; exact .nil
  | _,n :: ns,x => by
    cases x with
    | cons x1 x2 =>
      cases x1
      exact .cons (.int _ _) (rel_ints x2)
theorem post_ok (args ds:List WData):PySem.Challenge.rw_ta0065_01.row.toRowW.claim.post args (.bool true) ds = true:=by
  kernel_rfl
noncomputable def emptyH:Heap:=⟨#[],{}⟩
theorem walk:WalkO qv lse (fun _ _ => True) YPw PySem.Challenge.rw_ta0065_01.row.toRowW dL [] fun f vs => PySem.call f vs:=by
  intro w s₀ s₁ mg mb G hY a o pm cd doc dV kV ho hd hcd hdf hmg hg args vals as hpre hlay hrd hwell hsys
  obtain ⟨ns,rfl,hns⟩:=args_of hpre
  obtain ⟨P,hP⟩:∃ P,P = w.params:=⟨_,rfl⟩
  have hY':∀ b o,(heF P).get? b = some o → s₁.heap.get? b = some o:=by rw [hP]; exact hY
  have hmgF:mg = mgF P:=by
    have h1:=(G.T.g:s₁.heap.Ns mainGlobals mg).eq_nsMap
    have h2:=(ns_of (hY' _ _ (heF_at P (at3 P).lt (at3 P).get (at3 P).live)) (by kernel_rfl):s₁.heap.Ns mainGlobals (mgF P)).eq_nsMap
    exact h1.trans h2.symm
  have ha:a = 321:=by
    have h1:mgF P "law" = some (.ref 321):=by kernel_rfl
    rw [hmgF,show dL.name = "law" from rfl,h1] at hmg
    cases hmg; rfl
  subst ha
  obtain ⟨l,vs,rfl,hl,hvs⟩:∃ (l:Addr) (vs:List Value),vals = [.ref l] ∧ s₁.heap.get? l = some (listO vs.toArray 0) ∧ WellAll w.params s₁.heap vs (ns.map WData.int):=by
    cases hwell with
    | cons x1 x2 =>
      cases x2
      cases x1 with
      | list h1 h2 => exact ⟨_,_,rfl,h1,h2⟩
  have h299:s₁.heap.get? 299 = some ho344:=hY' _ _ (heF_at P (by decide) (by rfl) (by rfl))
  have h6:s₁.heap.get? 6 = some ho6:=hY' _ _ (heF_at P (by decide) (by rfl) (by rfl))
  have hl299:l ≠ 299:=by
    rintro rfl
    rw [h299] at hl
    have:=congrArg Obj.cls (Option.some.inj hl)
    cases this
  have hl6:l ≠ 6:=by
    rintro rfl
    rw [h6] at hl
    have:=congrArg Obj.data (Option.some.inj hl)
    cases this
  obtain ⟨F,hF⟩:∃ F:Fz,F = fun b => if b = 299 ∨ b = 6 then none else s₁.heap.get? b:=⟨_,rfl⟩
  have hA:AmbP P F:=by
    intro b o hb h1 h2
    rw [hF]
    show (if b = 299 ∨ b = 6 then none else s₁.heap.get? b) = _
    first | refine iteF (by rintro (h | h) <;> contradiction) ?_ | rw [if_neg (by rintro (h | h) <;> contradiction)]
    exact hY' _ _ hb
  have hs:∀ b o,F b = some o → s₁.heap.get? b = some o:=by
    intro b o hb
    rw [hF] at hb
    dsimp only at hb
    split at hb
    · cases hb
    · exact hb
  have hFl:F l = some (listO vs.toArray 0):=by
    rw [hF]
    show (if l = 299 ∨ l = 6 then none else s₁.heap.get? l) = _
    first | refine iteF (by rintro (h | h) <;> contradiction) ?_ | rw [if_neg (by rintro (h | h) <;> contradiction)]
    exact hl
  have L:=lawX PySem.Challenge.rw_ta0065_01.row.toRowW.prog w P
  have hcont:Cont F [299] ho344 (.tab lamPos lamQF #[]):=⟨#[],rfl,trivial,.inl rfl⟩
  have S:StF (AmbP P) ⟨emptyH,F,[],s₁.os,s₁.gens⟩ { scope:=default,locals:=6,globals:=0,cells:=[] } [] [.tab lamPos lamQF #[]] (rels [.ref l] [.list (ns.map V.int)] ++ []) s₁ F [299] (fun _ => none) []:={
    amb:=hA
    sub:=hs
    ext:=fun _ _ h => h
    new:=fun _ _ h => .inl h
    phi:=fun i l h => by cases h
    phin:=fun l h => .inr rfl
    phi0:=fun l h => by cases h
    keep:=fun b o h => by cases h
    os:=rfl
    gens:=.of_eq hg
    gkeep:=fun _ _ h => h
    nodup:=by simp
    phiF:=fun b hb => by
      rw [List.mem_singleton] at hb
      subst hb
      rw [hF]; rfl
    len:=rfl
    sto:=fun i b e h1 h2 => by
      match i,h1,h2 with
      | 0,h1,h2 => cases h1; cases h2; exact ⟨_,h299,hcont⟩
    ns:=⟨ho6,#[],0,h6,rfl,fun e he => by simp at he,fun _ => rfl⟩
    locF:=⟨by rw [hF]; rfl,by simp,rfl⟩
    loc:=fun x lv h => by cases h
    cel:=fun x lv h => by cases h
    fre:=fun x lv h => by cases h
    cells:=fun c h => by cases h.1
    own:=fun x b h => by cases h
    ownk:=fun x y b h => by cases h
    ownf:=fun x b c h => by cases h
    pend:=fun v x h => by
      rw [List.append_nil] at h
      simp only [rels,List.zip_cons_cons,List.zip_nil_right,List.map_cons,List.map_nil,List.mem_singleton] at h
      cases h
      exact .list hFl (rel_ints hvs)
    held:=fun b o mi h => by
      rw [List.append_nil] at h
      exact (held_rels h).elim }
  have hkn:∀ n ∈ (["script"]:List Str),(fnScope 31).names.lookup n = some .local ∨ (fnScope 31).names.lookup n = some .cell:=by decide +kernel
  refine wpAny_call (fn_raw (us:=[.ref l]) (names:=["script"]) (k:=8) L.X.H (fn321 P) ⟨rfl,by decide +kernel,by decide +kernel⟩ (by kernel_rfl) hA hs hs (fun Q E q => by rw [bind321 [.ref l] rfl]; exact wpAny_pure q) hkn fun env' s' he E' hr' x hc => ?_)
  have S':=S.enter (env':=env') (names:=["script"]) (rest:=lawRest) rfl rfl (by rw [he]; rfl) x (fun n v hm hn => bindL_get (by decide +kernel) hm hn) (fun n v hm hn => bindC_get (by decide +kernel) hm hn) (by rw [he]; rfl) (fun n hn => by rw [he]; exact hkn n hn) hc
  have hb:=law_body (i0:=0) (tp0:=#[]) (B:=⟨s₁.heap,F,[299],s₁.os,s₁.gens⟩) (σ:=[.tab lamPos lamQF #[]]) L E' (by rw [he]; rfl) (by rw [he]; rfl) hr' rfl (by lia:ns.length ≤ 1000) (lawP ns) rfl
  refine wpAny_mono (hb [] s' ⟨F,[299],_,[],S'⟩) (fun f s'' q => ?_) fun _ _ x => x.elim
  cases f with
  | next => obtain ⟨_,_,_,q,_⟩:=q; cases q
  | brk => obtain ⟨_,_,_,q,_⟩:=q; cases q
  | cont => obtain ⟨_,_,_,q,_⟩:=q; cases q
  | ret v =>
    obtain ⟨y,μ',σ',⟨F',φ',m',ow',T⟩,q,hσ⟩:=q
    cases q
    have hv:=T.top.bool_inv
    subst hv
    refine ⟨.inl ⟨_,.bool true,[],rfl,fun _ => rfl,.bool true,post_ok _ _,fun _ => ⟨.nil,fun a h => by cases h⟩⟩,?_,T.os,T.gens⟩
    obtain ⟨oo,h1,more,h2,_,_⟩:=T.sto 0 299 _ (T.phi 0 299 rfl) hσ
    subst h2
    have hk:∀ b o,s₁.heap.get? b = some o → b ≠ 299 → s''.heap.get? b = some o:=fun b o h hn => T.keep b o h (by simpa using hn)
    have htab:s₁.heap.TableAt 303 299 #[]:=⟨⟨_,_,hY' _ _ (heF_at P (at303 P).lt (at303 P).get (at303 P).live),rfl,rfl,rfl⟩,h299⟩
    refine ⟨fun b o e => ?_,fun b o e => ?_⟩
    · by_cases hb:b = 299
      · subst hb
        rw [h299] at e
        cases e
        exact .inr (.inl ⟨htab.isCodeTable,rfl,#[],more,rfl,h1⟩)
      · exact .inl (hk b o e hb)
    · by_cases hb:b = 299
      · subst hb
        exact ⟨_,h1⟩
      · exact ⟨_,hk b o e hb⟩
theorem law_holds:PySem.Challenge.rw_ta0065_01.Holds:=holds_of walk
end
end Mine
theorem PySem.Challenge.cw_ta0065_01_holds : PySem.Challenge.rw_ta0065_01.Holds :=
  Mine.law_holds
