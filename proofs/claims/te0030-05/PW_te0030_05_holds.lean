import PyProof.Rows.All
import Wide.All
import OpenK.AllK
import Wide.FinOn
import Lean
import PySem.Challenge.RW_te0030_05
set_option Elab.async false
set_option linter.all false
set_option genSizeOf false
set_option genSizeOfSpec false
set_option bootstrap.genMatcherCode false
section
open PySem PySem.W PyProof.Rows PySem.Calls
namespace Mine
universe u
section
variable {α β γ:Type}
theorem nt {P:Prop} (h:false=true):P:=nomatch h
theorem nn {P:Prop} {b:β} (h:(none:Option β)=some b):P:=nomatch h
theorem bd {o:Option α} {f:α->Option β} {b:β} {P:Prop} (h:o.bind f=some b) (k:∀a,o=some a->f a=some b->P):P:=
  match o,h with
  | some a,h=>k a rfl h
theorem bd2 {o:Option (α×β)} {f:α×β->Option γ} {c:γ} {P:Prop} (h:o.bind f=some c) (k:∀a b,o=some (a,b)->f (a,b)=some c->P):P:=
  bd h fun (a,b) e h=>k a b e h
@[elab_as_elim] theorem mp {P:β->Prop} {o:Option α} {f:α->β} {b:β} (h:o.map f=some b) (k:∀a,o=some a->P (f a)):P b:=
  match o,h with
  | some a,rfl=>k a rfl
theorem mp2' {o:Option α} {f:α->β} {c:β} {P:Prop} (h:o.map f=some c) (k:∀a,o=some a->f a=c->P):P:=
  match o,h with
  | some a,h=>k a rfl (Option.some.inj h)
theorem mp2 {P:Prop} {o:Option (α×β)} {f:α×β->γ} {c:γ} (h:o.map f=some c) (k:∀a b,o=some (a,b)->f (a,b)=c->P):P:=
  match o,h with
  | some (a,b),h=>k a b rfl (Option.some.inj h)
theorem mpx {P:β->γ->Prop} {o:Option α} {g:α->β} {s:γ} {c:β} {d:γ} (h:o.map (fun x=>(g x,s))=some (c,d)) (k:∀a,o=some a->P (g a) s):P c d:=
  match o,h with
  | some a,rfl=>k a rfl
theorem mpy {P:γ->β->Prop} {o:Option α} {g:α->β} {s:γ} {c:γ} {d:β} (h:o.map (fun x=>(s,g x))=some (c,d)) (k:∀a,o=some a->P s (g a)):P c d:=
  match o,h with
  | some a,rfl=>k a rfl
@[elab_as_elim] theorem sme {P:α->Prop} {a b:α} (h:some a=some b) (k:P a):P b:=Option.some.inj h▸k
@[elab_as_elim] theorem sm2 {P:α->β->Prop} {a c:α} {b d:β} (h:some (a,b)=some (c,d)) (k:P a b):P c d:=
  match h with | rfl=>k
theorem ifs {c:Prop} [Decidable c] {a:Option α} {b:α} {P:Prop} (h:(if c then a else none)=some b) (k:c->a=some b->P):P:=
  if q:c then k q (by rwa [if_pos q] at h) else by rw [if_neg q] at h;cases h
theorem ife {c:Prop} [Decidable c] {a a':Option α} {b:α} {P:Prop} (h:(if c then a else a')=some b) (k:c->a=some b->P) (k':¬c->a'=some b->P):P:=
  if q:c then k q (by rwa [if_pos q] at h) else k' q (by rwa [if_neg q] at h)
theorem aL {a b:Bool} (h:(a&&b)=true):a=true:=match a,h with | true,_=>rfl
theorem aR {a b:Bool} (h:(a&&b)=true):b=true:=match a,h with | true,h=>h
@[elab_as_elim] theorem bq [BEq α] [LawfulBEq α] {P:α->Prop} {a b:α} (h:(a==b)=true) (k:P a):P b:=eq_of_beq h▸k
end
theorem Cf {M:Model} {Γ:Ctx} {p:Pos} {t:Sem Fin} {fs:List Frame} {s:Shared} {e:End} {s':Shared} (h:Runs M Γ p t fs s e s'):s.toks<=s'.toks:=by
  induction h with
  | done | raise | yield=>exact Nat.le_refl _
  | fresh _ ih=>exact Nat.le_trans (Nat.le_succ _) ih
  | call _ _ h1 h2=>exact Nat.le_trans h1 h2
  | resumeFresh _ _ _ _ h1 h2=>exact Nat.le_trans h1 h2
  | resumeSuspended _ _ _ _ h1 h2=>exact Nat.le_trans h1 h2
  | segRet _ _ h1 h2=>exact Nat.le_trans h1 h2
  | segGen _ _ h1 h2=>exact Nat.le_trans h1 h2
  | segSuspGen _ _ _ _ h1 h2=>exact Nat.le_trans h1 h2
  | _=>assumption
theorem wakes_tk {M:Model} {Γ:Ctx} {p:Pos} {g:Nat} {r:Resume} {s s':Shared} {res:GenResult} (h:Wakes M Γ p g r s res s'):s.toks<=s'.toks:=by
  unfold Wakes at h;split at h
  . exact h.elim
  . split at h
    . obtain ⟨e,s1,h1,_,_,rfl⟩:=h;have h2:=Cf h1;exact h2
    . rw [h.2];exact Nat.le_refl _
    . rw [h.2];exact Nat.le_refl _
  . obtain ⟨e,s1,h1,_,_,rfl⟩:=h;have h2:=Cf h1;exact h2
  . rw [h.2];exact Nat.le_refl _
  . rw [h.2];exact Nat.le_refl _
theorem wp_tk {α:Type} {M:Model} {Γ:Ctx} {n:Nat} {Q:α->Pos->Shared->Prop} {E:Value->Pos->Shared->Prop}:∀(t:Sem α) (p:Pos) (s:Shared),n<=s.toks->Sem.wp M Γ t (fun a p' s'=>n<=s'.toks->Q a p' s') (fun e p' s'=>n<=s'.toks->E e p' s') p s->Sem.wp M Γ t Q E p s:=by
  intro t
  induction t with
  | pure a=>exact fun p s hn h=>h hn
  | raise a=>exact fun p s hn h=>h hn
  | load a x k ih=>exact fun p s hn h=>h.elim fun o h=>⟨o,h.1,ih _ _ _ hn h.2⟩
  | update a x f k ih=>exact fun p s hn h=>⟨h.1,ih _ _ _ hn h.2⟩
  | fresh k ih=>exact fun p s hn h=>ih _ _ _ (Nat.le_trans hn (Nat.le_succ _)) h
  | choose a n k ih=>exact fun p s hn h=>⟨h.1,ih _ _ _ hn h.2⟩
  | call c a b l k ih=>exact fun p s hn ⟨r,s',h1,h2⟩=>⟨r,s',h1,ih _ _ _ (Nat.le_trans hn (Cf h1)) h2⟩
  | genState a k ih=>exact fun p s hn h=>h.elim fun o h=>⟨o,h.1,ih _ _ _ hn h.2⟩
  | resume a b c k ih=>exact fun p s hn ⟨r,s',h1,h2⟩=>⟨r,s',h1,ih _ _ _ (Nat.le_trans hn (wakes_tk h1)) h2⟩
  | unsupported | finish | register | yield | fork | await=>exact fun p s hn h=>h
  | _=>rename_i ih;exact fun p s hn h=>ih _ _ _ hn h
theorem Ah {α:Type} {M:Model} {A:Around} {t:Sem α} {Q:α->Shared->Prop} {E:Value->Shared->Prop} {s:Shared} (h:wpAny M A t (fun a s'=>s.toks<=s'.toks->Q a s') (fun e s'=>s.toks<=s'.toks->E e s') s):wpAny M A t Q E s:=
  fun Γ p hΓ=>wp_tk t p s (Nat.le_refl _) (h Γ p hΓ)
theorem Bp {M:Model} {A:Around} {c:Code} {R:Result->Shared->Prop} {s:Shared} (h:codeAny M A c (fun r s'=>s.toks<=s'.toks->R r s') s):codeAny M A c R s:=
  fun Γ p hc hΓ=>(h Γ p hc hΓ).elim fun r h=>h.elim fun s' h=>⟨r,s',h.1,h.2 (Cf h.1)⟩
set_option genCtorIdx false in
inductive V where
  | none | bool (b:Bool) | int (i:Int) | str (s:List Nat)
  | tup (vs:List V) | lst (vs:List V) | dct (es:List (List Nat×V))
  | rng (a b c:Int) | obj (i:Nat) | meth (f:Addr) (i:Nat) | stat (a:Addr) | junk
noncomputable def V.ctorIdx (x:V):Nat:=V.casesOn (motive_1:=fun _=>Nat) x 0 (fun _=>1) (fun _=>2) (fun _=>3) (fun _=>4) (fun _=>5) (fun _=>6) (fun _ _ _=>7) (fun _=>8) (fun _ _=>9) (fun _=>10) 11
set_option genCtorIdx false in
inductive O where
  | inst (C:Addr) (fs:List (String×V))
  | list (vs:List V)
  | dict (es:List (List Nat×V))
noncomputable def O.ctorIdx (x:O):Nat:=O.casesOn (motive:=fun _=>Nat) x (fun _ _=>0) (fun _=>1) (fun _=>2)
structure Mu where
  ps:List (Addr×Addr)
  ex:List Addr
noncomputable def pcells (μ:Mu):List Addr:=μ.ps.map (·.2)
noncomputable def cells (μ:Mu):List Addr:=pcells μ++μ.ex
noncomputable def Mu.add (μ:Mu) (q:Addr×Addr):Mu:=⟨μ.ps++[q],μ.ex⟩
noncomputable def Mu.hide (μ:Mu) (a:Addr):Mu:=⟨μ.ps,a::μ.ex⟩
noncomputable def S (l:List Nat):Str:=⟨l.toArray⟩
mutual
noncomputable def VR (P:Params) (h:Heap) (μ:Mu):V->Value->Prop
  | .none,v=>v=.none
  | .bool b,v=>v=.bool b
  | .int i,v=>∃t,v=.int i t
  | .str l,v=>∃t,v=.str (S l) t
  | .tup vs,v=>∃a cvs,v=.ref a/\a∉cells μ/\h.IsTuple a cvs.toArray/\VRs P h μ vs cvs
  | .lst vs,v=>∃a cvs n,v=.ref a/\a∉cells μ/\IsL h a cvs.toArray n/\VRs P h μ vs cvs
  | .dct es,v=>∃a ces n,v=.ref a/\(1 < a/\(es.map Prod.fst).Nodup)/\a∉cells μ/\h.get? a=some (dictOf ces n)/\VRd P h μ es ces
  | .rng i j c,v=>∃a t u y,v=.ref a/\a∉cells μ/\IsRange h a i j c t u y
  | .obj i,v=>∃p,μ.ps[i]? = some p/\v=.ref p.1
  | .meth f i,v=>∃a p,μ.ps[i]? = some p/\v=.ref a/\a∉cells μ/\h.get? a=some (methodObj (.ref f) (.ref p.1))
  | .stat a,v=>v=.ref a
  | .junk,v=>handedIn v=true
noncomputable def VRs (P:Params) (h:Heap) (μ:Mu):List V->List Value->Prop
  | [],cvs=>cvs=[]
  | v::vs,cvs=>∃c r,cvs=c::r/\VR P h μ v c/\VRs P h μ vs r
noncomputable def VRd (P:Params) (h:Heap) (μ:Mu):List (List Nat×V)->List DictEntry->Prop
  | [],ces=>ces=[]
  | e::es,ces=>∃t c r,ces=⟨PyData.keyHash P (S e.1),.str (S e.1) t,c⟩::r/\VR P h μ e.2 c/\VRd P h μ es r
end
set_option genCtorIdx false in
set_option genInjectivity false in
inductive ME where
  | cst (v:V)
  | loc (x:String)
  | glo (x:String)
  | attr (e:ME) (n:String)
  | bin (m:Bool) (o:Operator) (l r:ME)
  | neg (e:ME)
  | not (e:ME)
  | cmp (o:CmpOp) (l r:ME)
  | cmp2 (o o':CmpOp) (a b c:ME)
  | boo (o:BoolOp) (es:ME)
  | sub (e i:ME)
  | slc (e l u:ME)
  | tup (es:ME)
  | lst (m:Bool) (es:ME)
  | dct (m:Bool) (ks:List (List Nat)) (es:ME)
  | cal (x:String) (es:ME)
  | new (x:String) (es:ME)
  | bui (x:String) (es:ME)
  | met (o:ME) (n:String) (es:ME) (kn:List String) (ks:ME)
  | rep (e:ME) (x y:List Nat)
  | has (a b:ME)
  | cmpr (fv:List String) (elt:ME) (t:ME) (it:ME) (conds:ME)
  | cmpz (fv:List String) (elt:ME) (t:ME) (a b:ME) (conds:ME)
  | nil
  | cons (a b:ME)
  | opq
noncomputable def ME.ctorIdx (x:ME):Nat:=ME.casesOn (motive:=fun _=>Nat) x (fun _=>0) (fun _=>1) (fun _=>2) (fun _ _=>3) (fun _ _ _ _=>4) (fun _=>5) (fun _=>6) (fun _ _ _=>7) (fun _ _ _ _ _=>8) (fun _ _=>9) (fun _ _=>10) (fun _ _ _=>11) (fun _=>12) (fun _ _=>13) (fun _ _ _=>14) (fun _ _=>15) (fun _ _=>16) (fun _ _=>17) (fun _ _ _ _ _=>18) (fun _ _ _=>19) (fun _ _=>20) (fun _ _ _ _ _=>21) (fun _ _ _ _ _ _=>22) 23 (fun _ _=>24) 25
set_option genCtorIdx false in
set_option genInjectivity false in
inductive MS where
  | nil
  | cons (s r:MS)
  | expr (e:ME)
  | asg (t e:ME)
  | aug (t:ME) (o:Operator) (e:ME)
  | ifs (c:ME) (a b:MS)
  | whl (c:ME) (a:MS)
  | fors (t it:ME) (a:MS)
  | ret (e:ME)
  | brk
  | asr (e:ME)
  | tri (a:MS)
  | tlp (x:String) (o:ME) (n:String) (es:ME) (a:MS) (y:String)
  | opq
  | gc (n:Nat) (r:MS)
noncomputable def MS.ctorIdx (x:MS):Nat:=MS.casesOn (motive:=fun _=>Nat) x 0 (fun _ _=>1) (fun _=>2) (fun _ _=>3) (fun _ _ _=>4) (fun _ _ _=>5) (fun _ _=>6) (fun _ _ _=>7) (fun _=>8) 9 (fun _=>10) (fun _=>11) (fun _ _ _ _ _ _=>12) 13 (fun _ _=>14)
abbrev L:=List (String×V)
noncomputable def lk:L->String->Option V
  | [],_=>none
  | e::r,x=>if e.1=x then some e.2 else lk r x
noncomputable def put:L->String->V->L
  | [],x,v=>[(x,v)]
  | e::r,x,v=>if e.1=x then (x,v)::r else e::put r x v
noncomputable def lkD:List (List Nat×V)->List Nat->Option V
  | [],_=>none
  | e::r,x=>if e.1=x then some e.2 else lkD r x
noncomputable def putD:List (List Nat×V)->List Nat->V->List (List Nat×V)
  | [],x,v=>[(x,v)]
  | e::r,x,v=>if e.1=x then (x,v)::r else e::putD r x v
set_option genInjectivity false in
structure Tab where
  meth:Addr->String->Option Addr
  cattr:Addr->String->Option V
  dat:Addr->String->Bool
  scls:Addr->Option Addr
  sattr:Addr->String->Option V
  sdS:Addr->Option (List (List Nat×V))
  fn:Addr->Bool
  glo:String->Option V
  fnG:String->Option Addr
  clsG:String->Option (Addr×Addr)
  buiG:String->Bool
  lpx:Addr->List V->Bool
abbrev St:=List O
abbrev Calls:=Addr->List V->List (String×V)->St->Option (V×St)
noncomputable def big:Nat:=16777216
noncomputable def half:Int:=1000000000
noncomputable def objL (σ:St) (i:Nat):Option (List V):=match σ[i]? with
  | some o=>match o with
    | .list vs=>some vs
    | _=>none
  | none=>none
noncomputable def objD (σ:St) (i:Nat):Option (List (List Nat×V)):=match σ[i]? with
  | some o=>match o with
    | .dict es=>some es
    | _=>none
  | none=>none
noncomputable def objI (σ:St) (i:Nat):Option (Addr×L):=match σ[i]? with
  | some o=>match o with
    | .inst C fs=>some (C,fs)
    | _=>none
  | none=>none
noncomputable def listOf (σ:St) (v:V):Option (List V):=match v with
  | .lst vs=>some vs
  | .obj i=>objL σ i
  | _=>none
noncomputable def seqOf (σ:St) (v:V):Option (List V):=match v with
  | .tup vs=>some vs
  | v=>listOf σ v
noncomputable def mkList (m:Bool) (vs:List V) (σ:St):Option (V×St):=
  if vs.length<=big then (if m then some (.obj σ.length,σ++[.list vs]) else some (.lst vs,σ)) else none
noncomputable def mkDict (m:Bool) (es:List (List Nat×V)) (σ:St):Option (V×St):=
  if (es.map Prod.fst).Nodup/\es.length<=12 then (if m then some (.obj σ.length,σ++[.dict es]) else some (.dct es,σ)) else none
noncomputable def truth (σ:St) (v:V):Option Bool:=match v with
  | .none=>some false
  | .bool b=>some b
  | .int i=>some (i != 0)
  | .str l=>if l.length<=big then some (!l.isEmpty) else none
  | .lst vs=>if vs.length<=big then some (!vs.isEmpty) else none
  | .obj i=>(objL σ i).bind fun vs=>if vs.length<=big then some (!vs.isEmpty) else none
  | .meth _ _=>some true
  | _=>none
noncomputable def binI (o:Operator) (a b:Int):Option Int:=
  match o with
  | .Add=>some (a+b)
  | .Sub=>some (a - b)
  | .Mod=>if b≠0 then some (a.fmod b) else none
  | .FloorDiv=>if 0 < b/\b<=half then some (a.fdiv b) else none
  | _=>none
noncomputable def binS (o:Operator) (a b:List Nat) (σ:St):Option (V×St):=match o with
  | .Add=>if a.length+b.length<=big then some (.str (a++b),σ) else none
  | _=>none
noncomputable def bin (m:Bool) (o:Operator) (a b:V) (σ:St):Option (V×St):=match b with
  | .int k=>match a with
    | .int i=>(binI o i k).map fun i=>(.int i,σ)
    | _=>none
  | .str y=>match a with
    | .str x=>binS o x y σ
    | _=>none
  | _=>none
noncomputable def all2 (f:V->V->Option Bool):List V->List V->Option Bool
  | [],ys=>some ys.isEmpty
  | x::xs,ys=>match ys with
    | []=>some false
    | y::ys=>(f x y).bind fun b=>(all2 f xs ys).map (b&&·)
noncomputable def lst2 (f:V->V->Option Bool) (xs ys:List V):Option Bool:=if xs.length=ys.length then all2 f xs ys else some false
noncomputable def veqB (x:Bool) (b:V):Option Bool:=match b with | .bool y=>some (x==y) | _=>none
noncomputable def veqI (x:Int) (b:V):Option Bool:=match b with | .int y=>some (x==y) | _=>none
noncomputable def veqN (b:V):Option Bool:=match b with | .none=>some true | .str _=>some false | _=>none
noncomputable def veqS (x:List Nat) (b:V):Option Bool:=match b with | .none=>some false | .str y=>some (decide (x=y)) | _=>none
noncomputable def asT (b:V):Option (List V):=match b with | .tup ys=>some ys | _=>none
noncomputable def veq (σ:St):Nat->V->V->Option Bool
  | 0,_,_=>none
  | n+1,a,b=>match a with
    | .none=>veqN b
    | .bool x=>veqB x b
    | .int x=>veqI x b
    | .str x=>veqS x b
    | .tup xs=>(asT b).bind fun ys=>all2 (veq σ n) xs ys
    | .lst xs=>(listOf σ b).bind fun ys=>lst2 (veq σ n) xs ys
    | _=>none
noncomputable def strLt (a b:List Nat):Bool:=decide (a < b)
noncomputable def scal (v:V):Bool:=match v with
  | .none | .bool _ | .int _ | .str _=>true
  | _=>false
noncomputable def scEq (a b:V):Bool:=match a with
  | .none=>match b with | .none=>true | _=>false
  | .str a=>match b with | .str b=>decide (a=b) | _=>false
  | .int a=>match b with | .int b=>decide (a=b) | _=>false
  | _=>false
noncomputable def plainV (v:V):Bool:=match v with
  | .none | .int _ | .str _=>true
  | _=>false
noncomputable def one (l:List Nat):Option Nat:=match l with
  | c::r=>match r with
    | []=>some c
    | _=>none
  | []=>none
noncomputable def asS (v:V):Option (List Nat):=match v with | .str l=>some l | _=>none
noncomputable def asI (v:V):Option Int:=match v with | .int l=>some l | _=>none
noncomputable def vinD (T:Tab) (a:V) (d:Addr):Option Bool:=match a with
  | .str x=>(T.sdS d).map fun es=>(lkD es x).isSome
  | _=>none
noncomputable def vin (T:Tab) (σ:St) (a b:V):Option Bool:=match b with
  | .stat d=>vinD T a d
  | b=>(asT b).bind fun vs=>if plainV a&&vs.all plainV then some (vs.any (scEq a)) else none
noncomputable def ltV (a b:V):Option Bool:=match a with
  | .int a=>(asI b).map fun b=>decide (a < b)
  | .str a=>(asS b).map fun b=>strLt a b
  | _=>none
noncomputable def leV (a b:V):Option Bool:=match a with
  | .int a=>(asI b).map fun b=>decide (a<=b)
  | .str a=>(asS b).map fun b=>!strLt b a
  | _=>none
noncomputable def gtV (a b:V):Option Bool:=(asI a).bind fun a=>(asI b).map fun b=>decide (b < a)
noncomputable def geV (a b:V):Option Bool:=(asI a).bind fun a=>(asI b).map fun b=>decide (b<=a)
noncomputable def isV (a b:V):Option Bool:=match b with
  | .none=>match a with
    | .none=>some true
    | .str _ | .int _ | .bool _=>some false
    | _=>none
  | _=>none
noncomputable def cmpV (T:Tab) (o:CmpOp) (a b:V) (σ:St):Option Bool:=
  match o with
  | .Eq=>veq σ 9 a b
  | .NotEq=>(veq σ 9 a b).map (!·)
  | .Lt=>ltV a b
  | .LtE=>leV a b
  | .Gt=>gtV a b
  | .GtE=>geV a b
  | .Is=>isV a b
  | .IsNot=>(isV a b).map (!·)
  | .In=>vin T σ a b
  | .NotIn=>none
noncomputable def idx? (k:Int) (n:Nat):Option Nat:=
  if 0<=k then (if k < n then some k.toNat else none) else (if -(n:Int)<=k then some (k+n).toNat else none)
noncomputable def subI (T:Tab) (a:V) (k:Int) (σ:St):Option V:=match a with
  | .str l=>if -half<=k/\k<=half then (idx? k l.length).bind fun j=>l[j]?.map fun c=>.str [c] else none
  | a=>(seqOf σ a).bind fun vs=>if -half<=k/\k<=half then (idx? k vs.length).bind fun j=>vs[j]? else none
noncomputable def subS (T:Tab) (a:V) (x:List Nat) (σ:St):Option V:=match a with
  | .dct es=>lkD es x
  | .obj j=>(objD σ j).bind fun es=>lkD es x
  | .stat d=>(T.sdS d).bind fun es=>lkD es x
  | _=>none
noncomputable def subV (T:Tab) (a i:V) (σ:St):Option V:=match i with
  | .int k=>subI T a k σ
  | .str x=>subS T a x σ
  | _=>none
noncomputable def clip (k:Int) (n:Nat):Nat:=if k < 0 then (k+n).toNat else min k.toNat n
noncomputable def lo (l:Option Int) (n:Nat):Nat:=match l with | none=>0 | some k=>clip k n
noncomputable def hi (u:Option Int) (n:Nat):Nat:=match u with | none=>n | some k=>clip k n
noncomputable def cut {α:Type} (l u:Option Int) (xs:List α):List α:=(xs.drop (lo l xs.length)).take (hi u xs.length - lo l xs.length)
noncomputable def bound (v:V):Option (Option Int):=match v with
  | .none=>some none
  | .int k=>if -half<=k/\k<=half then some (some k) else none
  | _=>none
noncomputable def slcV (a l u:V) (σ:St):Option V:=
  (bound l).bind fun l=>(bound u).bind fun u=>
    match a with
    | .str x=>if x.length<=big then some (.str (cut l u x)) else none
    | a=>(listOf σ a).bind fun vs=>if vs.length<=big then some (.lst (cut l u vs)) else none
noncomputable def toInts:List V->Option (List Int)
  | []=>some []
  | v::r=>(asI v).bind fun i=>(toInts r).map (i::·)
noncomputable def toStrs:List V->Option (List (List Nat))
  | []=>some []
  | v::r=>(asS v).bind fun s=>(toStrs r).map (s::·)
noncomputable def rangeN (a b c:Int):Nat:=if a < b then ((b - a - 1) / c+1).toNat else 0
noncomputable def rangeL (a b c:Int):List V:=(List.range (rangeN a b c)).map fun (k:Nat)=>V.int (a+k * c)
noncomputable def as1 (as:List V):Option V:=match as with
  | []=>none
  | a::r=>match r with
    | []=>some a
    | _=>none
noncomputable def as2 (as:List V):Option (V×V):=match as with
  | []=>none
  | a::r=>(as1 r).map fun b=>(a,b)
noncomputable def as3 (as:List V):Option (V×V×V):=match as with
  | []=>none
  | a::r=>(as2 r).map fun b=>(a,b)
noncomputable def buiLen (a:V) (σ:St):Option (V×St):=match a with
  | .str l=>if l.length<=big then some (.int l.length,σ) else none
  | a=>(listOf σ a).bind fun vs=>if vs.length<=big then some (.int vs.length,σ) else none
noncomputable def buiOrd (a:V) (σ:St):Option (V×St):=(asS a).bind fun l=>(one l).map fun (c:Nat)=>(.int c,σ)
noncomputable def asLs (v:V):Option (List V):=match v with | .lst vs=>some vs | _=>none
noncomputable def buiSum (a:V) (σ:St):Option (V×St):=(asLs a).bind fun vs=>(toInts vs).map fun ns=>(.int (ns.foldl (· + ·) 0),σ)
noncomputable def buiRng1 (b:V) (σ:St):Option (V×St):=(asI b).bind fun b=>if -half<=b/\b<=half then some (.rng 0 b 1,σ) else none
noncomputable def buiRng2 (a b:V) (σ:St):Option (V×St):=(asI a).bind fun a=>(asI b).bind fun b=>if -half<=b/\b<=half/\-half<=a/\a<=half then some (.rng a b 1,σ) else none
noncomputable def buiRng3 (a b c:V) (σ:St):Option (V×St):=(asI a).bind fun a=>(asI b).bind fun b=>(asI c).bind fun c=>if c=2 then some (.rng a b c,σ) else none
noncomputable def buiRng (as:List V) (σ:St):Option (V×St):=match as1 as with
  | some b=>buiRng1 b σ
  | none=>match as2 as with
    | some p=>buiRng2 p.1 p.2 σ
    | none=>(as3 as).bind fun p=>buiRng3 p.1 p.2.1 p.2.2 σ
noncomputable def cnt1 (c:Nat) (l:List Nat):Nat:=(l.filter (·==c)).length
noncomputable def rfind1 (c:Nat):List Nat->Int
  | []=>-1
  | x::r=>let k:=rfind1 c r
    if 0<=k then k+1 else if x=c then 0 else -1
noncomputable def consH (c:Nat) (ps:List (List Nat)):List (List Nat):=match ps with
  | []=>[[c]]
  | p::ps=>(c::p)::ps
noncomputable def splitF (y:List Nat):Nat->List Nat->List (List Nat)
  | 0,l=>[l]
  | n+1,l=>match l with
    | []=>[[]]
    | c::r=>if y.isPrefixOf (c::r)=true then []::splitF y n ((c::r).drop y.length) else consH c (splitF y n r)
noncomputable def splitL (y l:List Nat):List (List Nat):=splitF y (l.length+1) l
noncomputable def replL (x y l:List Nat):List Nat:=List.intercalate y (splitL x l)
noncomputable def upTo (p:V×V×V):Option (Nat×Nat):=(asS p.1).bind fun l=>(one l).bind fun c=>(asI p.2.1).bind fun z=>(asI p.2.2).bind fun k=>if z=0/\0<=k/\k<=half then some (c,k.toNat) else none
noncomputable def bCount (l:List Nat) (as:List V) (σ:St):Option (V×St):=(as3 as).bind fun p=>(upTo p).map fun q=>(.int (cnt1 q.1 (l.take q.2)),σ)
noncomputable def bRfind (l:List Nat) (as:List V) (σ:St):Option (V×St):=(as3 as).bind fun p=>(upTo p).map fun q=>(.int (rfind1 q.1 (l.take q.2)),σ)
noncomputable def bJoin (l:List Nat) (a:V) (σ:St):Option (V×St):=(listOf σ a).bind fun vs=>if l=[] then (toStrs vs).bind fun ss=>if ss.flatten.length<=big then some (.str ss.flatten,σ) else none else none
noncomputable def bmS (l:List Nat) (n:String) (as:List V) (σ:St):Option (V×St):=
  if n = "count" then bCount l as σ
  else if n = "rfind" then bRfind l as σ
  else if n = "join" then (as1 as).bind fun a=>bJoin l a σ
  else if n = "startswith" then (as1 as).bind fun a=>(asS a).map fun x=>(.bool (x.isPrefixOf l),σ)
  else none
noncomputable def bApp (i:Nat) (vs:List V) (x:V) (σ:St):Option (V×St):=if vs.length < big then some (.none,σ.set i (.list (vs++[x]))) else none
noncomputable def bPop (i:Nat) (vs as:List V) (σ:St):Option (V×St):=if as.isEmpty=true/\vs.length<=big then vs.getLast?.map fun x=>(x,σ.set i (.list vs.dropLast)) else none
noncomputable def bmL (i:Nat) (vs:List V) (n:String) (as:List V) (σ:St):Option (V×St):=
  if n = "append" then (as1 as).bind fun x=>bApp i vs x σ
  else if n = "pop" then bPop i vs as σ
  else none
noncomputable def bmet (o:V) (n:String) (as:List V) (σ:St):Option (V×St):=match o with
  | .str l=>if l.length<=big then bmS l n as σ else none
  | .obj i=>(objL σ i).bind fun vs=>bmL i vs n as σ
  | _=>none
noncomputable def attrI (T:Tab) (i:Nat) (C:Addr) (fs:L) (n:String):Option V:=match lk fs n with
  | some x=>if T.dat C n=true then some x else none
  | none=>match T.cattr C n with
    | some x=>some x
    | none=>(T.meth C n).map fun f=>.meth f i
noncomputable def attrV (T:Tab) (o:V) (n:String) (σ:St):Option V:=match o with
  | .obj i=>(objI σ i).bind fun p=>attrI T i p.1 p.2 n
  | .stat a=>T.sattr a n
  | _=>none
set_option genCtorIdx false in
inductive Cal where
  | fn (f:Addr) (first:List V)
  | mt (f:Addr) (i:Nat)
  | bm (o:V) (n:String)
noncomputable def Cal.ctorIdx (x:Cal):Nat:=Cal.casesOn (motive:=fun _=>Nat) x (fun _ _=>0) (fun _ _=>1) (fun _ _=>2)
noncomputable def asM (v:V):Option (Addr×Nat):=match v with | .meth f j=>some (f,j) | _=>none
noncomputable def getI (T:Tab) (i:Nat) (D:Addr) (fs:L) (n:String):Option Cal:=match lk fs n with
  | some x=>(asM x).bind fun q=>if T.dat D n=true/\T.fn q.1=true then some (.mt q.1 q.2) else none
  | none=>(T.meth D n).bind fun f=>if T.fn f=true then some (.fn f [.obj i]) else none
noncomputable def getO (T:Tab) (i:Nat) (o:O) (n:String):Option Cal:=match o with
  | .inst D fs=>getI T i D fs n
  | .list _=>if n = "append"∨n = "pop" then some (.bm (.obj i) n) else none
  | _=>none
noncomputable def getM (T:Tab) (o:V) (n:String) (σ:St):Option Cal:=match o with
  | .obj i=>(σ[i]?).bind fun o=>getO T i o n
  | .stat a=>(T.scls a).bind fun D=>(T.meth D n).bind fun f=>if T.fn f=true then some (.fn f [.stat a]) else none
  | .str l=>if n = "count"∨n = "rfind"∨n = "join"∨n = "startswith" then some (.bm (.str l) n) else none
  | _=>none
noncomputable def calM (C:Calls) (c:Cal) (as:List V) (kw:List (String×V)) (σ:St):Option (V×St):=
  match c with
  | .fn f first=>C f (first++as) kw σ
  | .mt f i=>if kw.isEmpty=true then C f (.obj i::as) [] σ else none
  | .bm o n=>if kw.isEmpty=true then bmet o n as σ else none
noncomputable def dKeys (T:Tab) (d:Addr):Option (List V):=(T.sdS d).map fun es=>es.map fun e=>.str e.1
noncomputable def itemsV (T:Tab) (v:V):Option (List V):=match v with
  | .stat d=>dKeys T d
  | .lst vs=>some vs
  | .tup vs=>some vs
  | .str l=>some (l.map fun c=>.str [c])
  | .rng a b c=>if -half<=a/\a<=half/\-half<=b/\b<=half/\0 < c/\c<=half then some (rangeL a b c) else none
  | _=>none
noncomputable def cmprL (f:V->St->Option (Option V×St)):List V->St->Option (List V×St)
  | [],σ=>some ([],σ)
  | v::vs,σ=>(f v σ).bind fun (r,σ)=>(cmprL f vs σ).map fun (rs,σ)=>(r.toList++rs,σ)
noncomputable def asSt (v:V):Option Addr:=match v with | .stat a=>some a | _=>none
noncomputable def bui (T:Tab) (x:String) (as:List V) (σ:St):Option (V×St):=
  if x = "len" then (as1 as).bind fun a=>buiLen a σ
  else if x = "ord" then (as1 as).bind fun a=>buiOrd a σ
  else if x = "sum" then (as1 as).bind fun a=>buiSum a σ
  else if x = "range" then buiRng as σ
  else none
noncomputable def isLst (v:V):Bool:=match v with | .lst _=>true | _=>false
noncomputable def okF (t:ME) (v:V):Bool:=match t with | .tup _=>isLst v | _=>true
mutual
noncomputable def bindP:ME->V->L->Option L
  | .loc x,v,ρ=>some (put ρ x v)
  | .tup ts,v,ρ=>(asT v).bind fun vs=>bindPs ts vs ρ
  | _,_,_=>none
noncomputable def bindPs:ME->List V->L->Option L
  | .nil,vs,ρ=>match vs with
    | []=>some ρ
    | _=>none
  | .cons a b,vs,ρ=>match vs with
    | []=>none
    | v::vs=>(bindP a v ρ).bind fun ρ=>bindPs b vs ρ
  | _,_,_=>none
end
noncomputable def isTup (t:ME):Bool:=match t with | .tup _=>true | _=>false
noncomputable def asLs2 (a b:V):Option (List V):=(asLs a).bind fun xs=>(asLs b).map fun ys=>(xs.zip ys).map fun p=>.tup [p.1,p.2]
noncomputable def asB (v:V):Option Bool:=match v with | .bool b=>some b | _=>none
noncomputable def lpC (T:Tab) (c:Cal) (vs:List V):Bool:=match c with | .fn f first=>T.lpx f (first++vs) | _=>false
noncomputable def isNo (v:V):Bool:=match v with | .none=>true | _=>false
noncomputable def stops (o:BoolOp) (t:Bool):Bool:=match o with | .And=>!t | .Or=>t
mutual
noncomputable def ev (T:Tab) (C:Calls):ME->L->St->Option (V×St)
  | .cst v,_,σ=>some (v,σ)
  | .loc x,ρ,σ=>(lk ρ x).map fun v=>(v,σ)
  | .glo x,_,σ=>(T.glo x).map fun v=>(v,σ)
  | .attr e n,ρ,σ=>(ev T C e ρ σ).bind fun (v,σ)=>(attrV T v n σ).map fun x=>(x,σ)
  | .bin m o l r,ρ,σ=>(ev T C l ρ σ).bind fun (a,σ)=>(ev T C r ρ σ).bind fun (b,σ)=>bin m o a b σ
  | .neg e,ρ,σ=>(ev T C e ρ σ).bind fun (v,σ)=>(asI v).map fun i=>(.int (-i),σ)
  | .not e,ρ,σ=>(ev T C e ρ σ).bind fun (v,σ)=>(truth σ v).map fun b=>(.bool (!b),σ)
  | .cmp o l r,ρ,σ=>(ev T C l ρ σ).bind fun (a,σ)=>(ev T C r ρ σ).bind fun (b,σ)=>(cmpV T o a b σ).map fun c=>(.bool c,σ)
  | .cmp2 o o' a b c,ρ,σ=>(ev T C a ρ σ).bind fun (x,σ)=>(ev T C b ρ σ).bind fun (y,σ)=>(cmpV T o x y σ).bind fun t=>
      if t then (ev T C c ρ σ).bind fun (z,σ)=>(cmpV T o' y z σ).map fun t=>(.bool t,σ) else some (.bool false,σ)
  | .boo o es,ρ,σ=>evB T C o es ρ σ
  | .sub e i,ρ,σ=>(ev T C e ρ σ).bind fun (a,σ)=>(ev T C i ρ σ).bind fun (k,σ)=>(subV T a k σ).map fun x=>(x,σ)
  | .slc e l u,ρ,σ=>(ev T C e ρ σ).bind fun (a,σ)=>(ev T C l ρ σ).bind fun (l,σ)=>(ev T C u ρ σ).bind fun (u,σ)=>(slcV a l u σ).map fun x=>(x,σ)
  | .tup es,ρ,σ=>(evs T C es ρ σ).bind fun (vs,σ)=>if vs.length<=big then some (.tup vs,σ) else none
  | .lst m es,ρ,σ=>(evs T C es ρ σ).bind fun (vs,σ)=>mkList m vs σ
  | .dct m ks es,ρ,σ=>(evs T C es ρ σ).bind fun (vs,σ)=>if ks.length=vs.length then mkDict m (ks.zip vs) σ else none
  | .cal x es,ρ,σ=>(T.fnG x).bind fun f=>(evs T C es ρ σ).bind fun (vs,σ)=>C f vs [] σ
  | .new x es,ρ,σ=>(T.clsG x).bind fun (K,f)=>(evs T C es ρ σ).bind fun (vs,σ)=>(C f (.obj σ.length::vs) [] (σ++[.inst K []])).bind fun (r,σ')=>if isNo r=true then some (.obj σ.length,σ') else none
  | .bui x es,ρ,σ=>if T.buiG x then (evs T C es ρ σ).bind fun (vs,σ)=>bui T x vs σ else none
  | .met o n es kn ks,ρ,σ=>(ev T C o ρ σ).bind fun (a,σ)=>(getM T a n σ).bind fun c=>(evs T C es ρ σ).bind fun (vs,σ)=>(evs T C ks ρ σ).bind fun (ws,σ)=>
      if kn.length=ws.length then calM C c vs (kn.zip ws) σ else none
  | .rep e x y,ρ,σ=>(ev T C e ρ σ).bind fun (a,σ)=>(asS a).bind fun l=>if l.length<=4000/\x≠[]/\y.length<=4/\x≠y then some (.str (replL x y l),σ) else none
  | .has a b,ρ,σ=>(ev T C a ρ σ).bind fun (v,σ)=>(ev T C b ρ σ).bind fun (q,σ)=>(asSt q).bind fun s=>(T.scls s).bind fun D=>(T.meth D "__contains__").bind fun f=>(C f [.stat s,v] [] σ).bind fun (r,σ)=>(asB r).map fun b=>(.bool b,σ)
  | .cmpr fv elt t it conds,ρ,σ=>(ev T C it ρ σ).bind fun (a,σ)=>(itemsV T a).bind fun vs=>if okF t a=true then
      (cmprL (fun v σ=>(bindP t v (ρ.filter fun e=>fv.contains e.1)).bind fun ρ=>(evC T C conds ρ σ).bind fun (b,σ)=>if b then (ev T C elt ρ σ).map fun (r,σ)=>(some r,σ) else some (none,σ)) vs σ).bind fun (rs,σ)=>if vs.length<=big then some (.lst rs,σ) else none
    else none
  | .cmpz fv elt t a b conds,ρ,σ=>if (T.buiG "zip"&&isTup t)=true then (ev T C a ρ σ).bind fun (x,σ)=>(ev T C b ρ σ).bind fun (y,σ)=>(asLs2 x y).bind fun vs=>
      (cmprL (fun v σ=>(bindP t v (ρ.filter fun e=>fv.contains e.1)).bind fun ρ=>(evC T C conds ρ σ).bind fun (b,σ)=>if b then (ev T C elt ρ σ).map fun (r,σ)=>(some r,σ) else some (none,σ)) vs σ).bind fun (rs,σ)=>if vs.length<=big then some (.lst rs,σ) else none
    else none
  | .nil,_,σ=>some (.none,σ)
  | .cons _ _,_,_=>none
  | .opq,_,_=>none
noncomputable def evs (T:Tab) (C:Calls):ME->L->St->Option (List V×St)
  | .nil,_,σ=>some ([],σ)
  | .cons a b,ρ,σ=>(ev T C a ρ σ).bind fun (v,σ)=>(evs T C b ρ σ).map fun (vs,σ)=>(v::vs,σ)
  | _,_,_=>none
noncomputable def evB (T:Tab) (C:Calls) (o:BoolOp):ME->L->St->Option (V×St)
  | .cons a b,ρ,σ=>match b with
    | .nil=>ev T C a ρ σ
    | b=>(ev T C a ρ σ).bind fun (v,σ)=>(truth σ v).bind fun t=>if stops o t then some (v,σ) else evB T C o b ρ σ
  | _,_,_=>none
noncomputable def evC (T:Tab) (C:Calls):ME->L->St->Option (Bool×St)
  | .nil,_,σ=>some (true,σ)
  | .cons a b,ρ,σ=>(ev T C a ρ σ).bind fun (v,σ)=>(truth σ v).bind fun t=>if t then evC T C b ρ σ else some (false,σ)
  | _,_,_=>none
end
noncomputable def frzOb (f:V->V) (o:Option O):V:=match o with
  | none=>.junk
  | some o=>match o with
    | .list vs=>.lst (vs.map f)
    | .dict es=>.dct (es.map fun e=>(e.1,f e.2))
    | .inst _ _=>.junk
noncomputable def frz (σ:St) (n:Nat):Nat->V->V
  | 0,_=>.junk
  | d+1,v=>match v with
    | .obj i=>if i < n then .obj i else frzOb (frz σ n d) σ[i]?
    | .meth f i=>if i < n then .meth f i else .junk
    | .tup vs=>.tup (vs.map (frz σ n d))
    | .lst vs=>.lst (vs.map (frz σ n d))
    | .dct es=>.dct (es.map fun e=>(e.1,frz σ n d e.2))
    | v=>v
noncomputable def frzO (σ:St) (n:Nat):O->O
  | .inst C fs=>.inst C (fs.map fun e=>(e.1,frz σ n 6 e.2))
  | .list vs=>.list (vs.map (frz σ n 6))
  | .dict es=>.dict (es.map fun e=>(e.1,frz σ n 6 e.2))
noncomputable def gcS (n:Nat) (σ:St):St:=(σ.take n).map (frzO σ n)
noncomputable def gcL (n:Nat) (σ:St) (ρ:L):L:=ρ.map fun e=>(e.1,frz σ n 6 e.2)
set_option genCtorIdx false in
inductive Fl where
  | next (ρ:L) (σ:St)
  | brk (ρ:L) (σ:St)
  | ret (v:V) (σ:St)
noncomputable def Fl.ctorIdx (x:Fl):Nat:=Fl.casesOn (motive:=fun _=>Nat) x (fun _ _=>0) (fun _ _=>1) (fun _ _=>2)
noncomputable def setA (T:Tab) (o:V) (n:String) (v:V) (σ:St):Option St:=match o with
  | .obj i=>(objI σ i).bind fun p=>if T.dat p.1 n=true/\(put p.2 n v).length<=100 then some (σ.set i (.inst p.1 (put p.2 n v))) else none
  | _=>none
noncomputable def setIL (i:Nat) (vs:List V) (k:Int) (v:V) (σ:St):Option St:=if 0<=k/\k<=half/\vs.length<=big then (idx? k vs.length).map fun j=>σ.set i (.list (vs.set j v)) else none
noncomputable def setIO (i:Nat) (o:O) (k v:V) (σ:St):Option St:=match o with
  | .list vs=>(asI k).bind fun k=>setIL i vs k v σ
  | _=>none
noncomputable def setI (o k v:V) (σ:St):Option St:=match o with
  | .obj i=>(σ[i]?).bind fun o=>setIO i o k v σ
  | _=>none
mutual
noncomputable def asgn (T:Tab) (C:Calls):ME->V->L->St->Option (L×St)
  | .loc x,v,ρ,σ=>some (put ρ x v,σ)
  | .attr e n,v,ρ,σ=>(ev T C e ρ σ).bind fun (o,σ)=>(setA T o n v σ).map fun σ=>(ρ,σ)
  | .tup ts,v,ρ,σ=>(asT v).bind fun vs=>asgns T C ts vs ρ σ
  | _,_,_,_=>none
noncomputable def asgns (T:Tab) (C:Calls):ME->List V->L->St->Option (L×St)
  | .nil,vs,ρ,σ=>if vs.isEmpty=true then some (ρ,σ) else none
  | .cons t ts,vs,ρ,σ=>match vs with
    | v::vs=>(asgn T C t v ρ σ).bind fun (ρ,σ)=>asgns T C ts vs ρ σ
    | []=>none
  | _,_,_,_=>none
end
noncomputable def augI (o:Operator) (a b:Int):Option V:=match o with
  | .Add=>some (.int (a+b))
  | .Sub=>some (.int (a - b))
  | _=>none
noncomputable def augS (o:Operator) (a b:List Nat):Option V:=match o with
  | .Add=>if a.length+b.length<=big then some (.str (a++b)) else none
  | _=>none
noncomputable def augB (o:Operator) (a b:V):Option V:=match a with
  | .int a=>(asI b).bind fun b=>augI o a b
  | .str a=>(asS b).bind fun b=>augS o a b
  | _=>none
noncomputable def forL (f:V->L->St->Option Fl):List V->L->St->Option Fl
  | [],ρ,σ=>some (.next ρ σ)
  | v::vs,ρ,σ=>(f v ρ σ).bind fun r=>match r with
    | .next ρ σ=>forL f vs ρ σ
    | .brk ρ σ=>some (.next ρ σ)
    | .ret v σ=>some (.ret v σ)
noncomputable def whlL (c:L->St->Option (Bool×St)) (f:L->St->Option Fl):Nat->L->St->Option Fl
  | 0,_,_=>none
  | n+1,ρ,σ=>(c ρ σ).bind fun (b,σ)=>if b then (f ρ σ).bind fun r=>match r with
      | .next ρ σ=>whlL c f n ρ σ
      | .brk ρ σ=>some (.next ρ σ)
      | .ret v σ=>some (.ret v σ)
    else some (.next ρ σ)
noncomputable def asOb (v:V):Option Nat:=match v with | .obj i=>some i | _=>none
noncomputable def isLoc (t:ME):Bool:=match t with | .loc _=>true | _=>false
noncomputable def forO (f:V->L->St->Option Fl) (i:Nat):Nat->Nat->L->St->Option Fl
  | 0,_,_,_=>none
  | n+1,k,ρ,σ=>(objL σ i).bind fun vs=>match vs[k]? with
    | none=>some (.next ρ σ)
    | some v=>(f v ρ σ).bind fun r=>match r with
      | .next ρ σ=>forO f i n (k+1) ρ σ
      | .brk ρ σ=>some (.next ρ σ)
      | .ret v σ=>some (.ret v σ)
noncomputable def hasGc:MS->Bool
  | .gc _ _=>true
  | .cons a b=>hasGc a || hasGc b
  | .ifs _ a b=>hasGc a || hasGc b
  | .whl _ a=>hasGc a
  | .fors _ _ a=>hasGc a
  | .tri a=>hasGc a
  | .tlp _ _ _ _ a _=>hasGc a
  | _=>false
noncomputable def ex (T:Tab) (C:Calls) (N nb:Nat):MS->L->St->Option Fl
  | .nil,ρ,σ=>some (.next ρ σ)
  | .cons s r,ρ,σ=>(ex T C N nb s ρ σ).bind fun f=>match f with
    | .next ρ σ=>ex T C N nb r ρ σ
    | f=>some f
  | .gc k r,ρ,σ=>ex T C N nb r (gcL (nb+k) σ ρ) (gcS (nb+k) σ)
  | .expr e,ρ,σ=>(ev T C e ρ σ).map fun (_,σ)=>.next ρ σ
  | .asg t e,ρ,σ=>(ev T C e ρ σ).bind fun (v,σ)=>(asgn T C t v ρ σ).map fun (ρ,σ)=>.next ρ σ
  | .aug t o e,ρ,σ=>match t with
    | .loc x=>(lk ρ x).bind fun a=>(ev T C e ρ σ).bind fun (b,σ)=>(augB o a b).map fun c=>.next (put ρ x c) σ
    | .attr u n=>(ev T C u ρ σ).bind fun (q,σ)=>(attrV T q n σ).bind fun a=>(ev T C e ρ σ).bind fun (b,σ)=>(augB o a b).bind fun c=>(setA T q n c σ).map fun σ=>.next ρ σ
    | .sub u i=>(ev T C u ρ σ).bind fun (q,σ)=>(ev T C i ρ σ).bind fun (k,σ)=>(subV T q k σ).bind fun a=>(ev T C e ρ σ).bind fun (b,σ)=>(augB o a b).bind fun c=>(setI q k c σ).map fun σ=>.next ρ σ
    | _=>none
  | .ifs c a b,ρ,σ=>(ev T C c ρ σ).bind fun (v,σ)=>(truth σ v).bind fun t=>if t then ex T C N nb a ρ σ else ex T C N nb b ρ σ
  | .whl c a,ρ,σ=>whlL (fun ρ σ=>(ev T C c ρ σ).bind fun (v,σ)=>(truth σ v).map fun b=>(b,σ)) (fun ρ σ=>ex T C N nb a ρ σ) N ρ σ
  | .fors t it a,ρ,σ=>(ev T C it ρ σ).bind fun (v,σ)=>match asOb v with
    | some i=>if (isLoc t&&!hasGc a)=true then forO (fun v ρ σ=>(asgn T C t v ρ σ).bind fun (ρ,σ)=>ex T C N nb a ρ σ) i N 0 ρ σ else none
    | none=>(itemsV T v).bind fun vs=>if (okF t v&&(!hasGc a || vs.all scal))=true then forL (fun v ρ σ=>(asgn T C t v ρ σ).bind fun (ρ,σ)=>ex T C N nb a ρ σ) vs ρ σ else none
  | .ret e,ρ,σ=>(ev T C e ρ σ).map fun (v,σ)=>.ret v σ
  | .brk,ρ,σ=>some (.brk ρ σ)
  | .asr e,ρ,σ=>(ev T C e ρ σ).bind fun (v,σ)=>(truth σ v).bind fun t=>if t then some (.next ρ σ) else none
  | .tri a,ρ,σ=>ex T C N nb a ρ σ
  | .tlp x o n es a y,ρ,σ=>(ev T C o ρ σ).bind fun (q,σ)=>(getM T q n σ).bind fun c=>(evs T C es ρ σ).bind fun (vs,σ)=>if lpC T c vs=true then some (.next (put ρ y .none) σ) else (calM C c vs [] σ).bind fun (v,σ)=>ex T C N nb a (put ρ x v) σ
  | .opq,_,_=>none
noncomputable def fcall (T:Tab) (C:Calls) (N:Nat) (keep:Bool) (body:MS) (ρ:L) (σ:St):Option (V×St):=
  (ex T C N σ.length body ρ σ).bind fun f=>match f with
    | .next _ σ'=>some (.none,if keep then σ' else gcS σ.length σ')
    | .ret v σ'=>some (if keep then (v,σ') else (frz σ' σ.length 6 v,gcS σ.length σ'))
    | .brk _ _=>none
noncomputable def VRf (P:Params) (h:Heap) (μ:Mu):List (String×V)->List DictEntry->Prop
  | [],ces=>ces=[]
  | e::es,ces=>∃t c r,ces=⟨PyData.keyHash P (Str.ofString e.1),.str (Str.ofString e.1) t,c⟩::r/\VR P h μ e.2 c/\VRf P h μ es r
noncomputable def OR (P:Params) (h:Heap) (μ:Mu) (p:Addr×Addr):O->Prop
  | .inst C fs=>h.get? p.1=some (instObj C p.2)/\p.1∉cells μ/\∃ces n,h.get? p.2=some (dictOf ces n)/\VRf P h μ fs ces
  | .list vs=>p.1=p.2/\∃cvs n,IsL h p.2 cvs.toArray n/\VRs P h μ vs cvs
  | .dict es=>(p.1=p.2/\(es.map Prod.fst).Nodup)/\∃ces n,h.get? p.2=some (dictOf ces n)/\VRd P h μ es ces
structure Rel (P:Params) (hO:Heap) (σ:St) (μ:Mu) (h:Heap):Prop where
  keep:∀b o,hO.get? b=some o->h.get? b=some o
  len:μ.ps.length=σ.length
  obj:∀(i:Nat) (o:O) (p:Addr×Addr),σ[i]? = some o->μ.ps[i]? = some p->OR P h μ p o
  new:∀a∈cells μ,hO.get? a=none/\1 < a
  nodup:(cells μ).Nodup
  low:∃o,hO.get? 3=some o
  exl:∀a∈μ.ex,∃o,h.get? a=some o
noncomputable def Hd (o:Obj):Prop:=∃es n,o.data=.dict es n/\(es≠#[]∨o.cls≠.type "dict")
noncomputable def Sl (ex:List Addr) (b:Addr) (o:Obj) (h:Heap):Prop:=h.get? b=some o∨(b∈ex/\Hd o/\∃sl,h.get? b=some { o with slots:=sl })
theorem Sl.n {ex:List Addr} {b:Addr} {o:Obj} {h:Heap} (x:Sl ex b o h) (n:¬Hd o):h.get? b=some o:=x.elim id fun y=>absurd y.2.1 n
theorem Sl.x {ex:List Addr} {b:Addr} {o:Obj} {h:Heap} (x:Sl ex b o h) (n:b∉ex):h.get? b=some o:=x.elim id fun y=>absurd y.1 n
theorem Sl.d {ex:List Addr} {b:Addr} {o:Obj} {h:Heap} (x:Sl ex b o h):∃o',h.get? b=some o'/\o'.data=o.data:=x.elim (fun y=>⟨o,y,rfl⟩) fun y=>y.2.2.elim fun sl z=>⟨_,z,rfl⟩
theorem Sl.h {ex:List Addr} {b:Addr} {o:Obj} {h:Heap} (x:Sl ex b o h) (y:Hd o):∃o',h.get? b=some o'/\Hd o':=x.elim (fun z=>⟨o,z,y⟩) fun z=>z.2.2.elim fun sl q=>⟨_,q,y⟩
theorem Hd.not_empty:¬Hd emptyDict:=fun ⟨es,n,h1,h2⟩=>by
  cases h1;exact h2.elim (fun h=>h rfl) fun h=>h rfl
theorem Hd.of_ns {h:Heap} {a:Addr} {m:Str->Option Value} {x:Str} {v:Value} (n:h.Ns a m) (e:m x=some v):∃o,h.get? a=some o/\Hd o:=by
  obtain ⟨o,es,ep,ho,hd,hs,hn⟩:=n;refine ⟨o,ho,es,ep,hd,.inl fun q=>?_⟩
  have:=hn x
  rw [q,e] at this;cases this
structure Step (μ:Mu) (s:Shared) (μ':Mu) (s':Shared):Prop where
  ext:∃ν,μ'=⟨μ.ps++ν,μ.ex⟩/\∀q∈ν,s.heap.get? q.2=none/\q.2∉pcells μ
  keep:∀b o,b∉pcells μ->s.heap.get? b=some o->Sl μ.ex b o s'.heap
  gens:s'.gens=s.gens
  os:s'.os=s.os
theorem A7 {μ:Mu} {a:Addr} (h:a∉cells μ):a∉pcells μ:=fun hm=>h (List.mem_append_left _ hm)
theorem mem_ext {μ:Mu} {ν:List (Addr×Addr)} {b:Addr}:b∈pcells ⟨μ.ps++ν,μ.ex⟩ ↔ b∈pcells μ∨∃q∈ν,q.2=b:=by
  unfold pcells;rw [List.map_append,List.mem_append,List.mem_map (l:=ν)]
theorem Step.refl (μ:Mu) (s:Shared):Step μ s μ s:=⟨⟨[],by simp,by simp⟩,fun _ _ _ e=>.inl e,rfl,rfl⟩
theorem Step.toks (μ:Mu) (s:Shared) (t:Nat):Step μ s μ { s with toks:=t }:=⟨⟨[],by simp,by simp⟩,fun _ _ _ e=>.inl e,rfl,rfl⟩
theorem Step.trans {μ μ₁ μ₂:Mu} {s s₁ s₂:Shared} (x:Step μ s μ₁ s₁) (y:Step μ₁ s₁ μ₂ s₂):Step μ s μ₂ s₂:=by
  obtain ⟨ν,rfl,h1⟩:=x.ext;obtain ⟨ν',rfl,h2⟩:=y.ext;refine ⟨⟨ν++ν',by rw [List.append_assoc],fun q hq=>?_⟩,fun b o hb e=>?_,y.gens.trans x.gens,y.os.trans x.os⟩
  . rcases List.mem_append.mp hq with h | h
    . exact h1 q h
    . have z:=h2 q h;have hb:q.2∉pcells μ:=fun hm=>z.2 (mem_ext.mpr (.inl hm))
      refine ⟨?_,hb⟩;cases e:s.heap.get? q.2 with
      | none=>rfl
      | some o=>obtain ⟨o',e',_⟩:=(x.keep _ _ hb e).d;rw [e'] at z;cases z.1
  . have hb':b∉pcells (⟨μ.ps++ν,μ.ex⟩:Mu):=fun hm=>by
      rcases mem_ext.mp hm with h | ⟨q,hq,rfl⟩
      . exact hb h
      . rw [(h1 q hq).1] at e;cases e
    rcases x.keep b o hb e with e | ⟨k1,k2,sl,e⟩
    . exact y.keep b o hb' e
    . rcases y.keep b _ hb' e with e | ⟨_,_,sl',e⟩
      . exact .inr ⟨k1,k2,sl,e⟩
      . exact .inr ⟨k1,k2,sl',e⟩
theorem Cv {μ:Mu} {ν:List (Addr×Addr)} {h:Heap} {a:Addr} {o:Obj} (hn:∀q∈ν,h.get? q.2=none/\q.2∉pcells μ) (ha:a∉pcells μ) (e:h.get? a=some o):a∉pcells ⟨μ.ps++ν,μ.ex⟩:=by
  intro hm;rcases mem_ext.mp hm with h | ⟨q,hq,rfl⟩
  . exact ha h
  . rw [(hn q hq).1] at e;cases e
theorem Da {μ:Mu} {ν:List (Addr×Addr)} {h:Heap} {a:Addr} {o:Obj} (hn:∀q∈ν,h.get? q.2=none/\q.2∉pcells μ) (ha:a∉cells μ) (e:h.get? a=some o):a∉cells ⟨μ.ps++ν,μ.ex⟩:=by
  intro hm;rcases List.mem_append.mp hm with h | h
  . exact Cv hn (A7 ha) e h
  . exact ha (List.mem_append_right _ h)
theorem Step.off {μ μ':Mu} {s s':Shared} (x:Step μ s μ' s') {a:Addr} {o:Obj} (ha:a∉cells μ) (e:s.heap.get? a=some o):a∉cells μ':=by
  obtain ⟨ν,rfl,h1⟩:=x.ext;exact Da h1 ha e
theorem Step.poff {μ μ':Mu} {s s':Shared} (x:Step μ s μ' s') {a:Addr} {o:Obj} (ha:a∉pcells μ) (e:s.heap.get? a=some o):a∉pcells μ':=by
  obtain ⟨ν,rfl,h1⟩:=x.ext;exact Cv h1 ha e
theorem Step.ex {μ μ':Mu} {s s':Shared} (x:Step μ s μ' s'):μ'.ex=μ.ex:=by
  obtain ⟨ν,rfl,h1⟩:=x.ext;rfl
theorem Step.at {μ μ':Mu} {s s':Shared} (x:Step μ s μ' s') {i:Nat} {p:Addr×Addr} (e:μ.ps[i]? = some p):μ'.ps[i]? = some p:=by
  obtain ⟨ν,rfl,h1⟩:=x.ext;show (μ.ps++ν)[i]? = some p;rw [List.getElem?_append_left (List.getElem?_eq_some_iff.mp e).1];exact e
structure Kp (μ:Mu) (h:Heap) (μ':Mu) (h':Heap):Prop where
  at_:∀(i:Nat) (p:Addr×Addr),μ.ps[i]? = some p->μ'.ps[i]? = some p
  off:∀a o,a∉cells μ->h.get? a=some o->a∉cells μ'/\h'.get? a=some o
theorem Step.kp {μ μ':Mu} {s s':Shared} (x:Step μ s μ' s'):Kp μ s.heap μ' s'.heap:=⟨fun _ _ e=>x.at e,fun a o ha e=>⟨x.off ha e,(x.keep a o (A7 ha) e).x fun h=>ha (List.mem_append_right _ h)⟩⟩
section
variable {P:Params} {h:Heap} {μ:Mu} {d':Value} {Z:Value->Prop} {vs:List V} {es:List (List Nat×V)} {i' j' c':Int} {k':Nat}
@[elab_as_elim] theorem VR.i (r:VR P h μ (.int i') d') (z:∀t,Z (.int i' t)):Z d':=Exists.elim r fun t q=>q▸z t
@[elab_as_elim] theorem VR.s {l:List Nat} (r:VR P h μ (.str l) d') (z:∀t,Z (.str (S l) t)):Z d':=Exists.elim r fun t q=>q▸z t
@[elab_as_elim] theorem VR.t (r:VR P h μ (.tup vs) d') (z:∀a cvs,a∉cells μ->h.IsTuple a cvs.toArray->VRs P h μ vs cvs->Z (.ref a)):Z d':=Exists.elim r fun a r=>r.elim fun cvs r=>r.1▸z a cvs r.2.1 r.2.2.1 r.2.2.2
@[elab_as_elim] theorem VR.l (r:VR P h μ (.lst vs) d') (z:∀a cvs n,a∉cells μ->IsL h a cvs.toArray n->VRs P h μ vs cvs->Z (.ref a)):Z d':=Exists.elim r fun a r=>r.elim fun cvs r=>r.elim fun n r=>r.1▸z a cvs n r.2.1 r.2.2.1 r.2.2.2
@[elab_as_elim] theorem VR.d (r:VR P h μ (.dct es) d') (z:∀a ces n,1 < a->(es.map Prod.fst).Nodup->a∉cells μ->h.get? a=some (dictOf ces n)->VRd P h μ es ces->Z (.ref a)):Z d':=Exists.elim r fun a r=>r.elim fun ces r=>r.elim fun n r=>r.1▸z a ces n r.2.1.1 r.2.1.2 r.2.2.1 r.2.2.2.1 r.2.2.2.2
@[elab_as_elim] theorem VR.r (r:VR P h μ (.rng i' j' c') d') (z:∀a t u y,a∉cells μ->IsRange h a i' j' c' t u y->Z (.ref a)):Z d':=Exists.elim r fun a r=>r.elim fun t r=>r.elim fun u r=>r.elim fun y r=>r.1▸z a t u y r.2.1 r.2.2
@[elab_as_elim] theorem VR.o (r:VR P h μ (.obj k') d') (z:∀p,μ.ps[k']? = some p->Z (.ref p.1)):Z d':=Exists.elim r fun p r=>r.2▸z p r.1
@[elab_as_elim] theorem VR.m {f:Addr} (r:VR P h μ (.meth f k') d') (z:∀a p,μ.ps[k']? = some p->a∉cells μ->h.get? a=some (methodObj (.ref f) (.ref p.1))->Z (.ref a)):Z d':=Exists.elim r fun a r=>r.elim fun p r=>r.2.1▸z a p r.1 r.2.2.1 r.2.2.2
@[elab_as_elim] theorem VRs.c {v:V} {cs:List Value} {Z:List Value->Prop} (r:VRs P h μ (v::vs) cs) (z:∀c r,VR P h μ v c->VRs P h μ vs r->Z (c::r)):Z cs:=Exists.elim r fun c r=>r.elim fun r h=>h.1▸z c r h.2.1 h.2.2
@[elab_as_elim] theorem VRs.n {cs:List Value} {Z:List Value->Prop} (r:VRs P h μ [] cs) (z:Z []):Z cs:=(show cs=[] from r)▸z
@[elab_as_elim] theorem VRd.c {e:List Nat×V} {cs:List DictEntry} {Z:List DictEntry->Prop} (r:VRd P h μ (e::es) cs) (z:∀t c r,VR P h μ e.2 c->VRd P h μ es r->Z (⟨PyData.keyHash P (S e.1),.str (S e.1) t,c⟩::r)):Z cs:=Exists.elim r fun t r=>r.elim fun c r=>r.elim fun r h=>h.1▸z t c r h.2.1 h.2.2
@[elab_as_elim] theorem VRd.n {cs:List DictEntry} {Z:List DictEntry->Prop} (r:VRd P h μ [] cs) (z:Z []):Z cs:=(show cs=[] from r)▸z
@[elab_as_elim] theorem VRf.c {e:String×V} {es:List (String×V)} {cs:List DictEntry} {Z:List DictEntry->Prop} (r:VRf P h μ (e::es) cs) (z:∀t c r,VR P h μ e.2 c->VRf P h μ es r->Z (⟨PyData.keyHash P (Str.ofString e.1),.str (Str.ofString e.1) t,c⟩::r)):Z cs:=Exists.elim r fun t r=>r.elim fun c r=>r.elim fun r h=>h.1▸z t c r h.2.1 h.2.2
@[elab_as_elim] theorem VRf.n {cs:List DictEntry} {Z:List DictEntry->Prop} (r:VRf P h μ [] cs) (z:Z []):Z cs:=(show cs=[] from r)▸z
end
section
variable {P:Params} {μ μ':Mu} {h h':Heap}
mutual
theorem VR.kp (x:Kp μ h μ' h'):∀{v:V} {c:Value},VR P h μ v c->VR P h' μ' v c
  | .none,_,r=>r
  | .bool _,_,r=>r
  | .int _,_,r=>r
  | .str _,_,r=>r
  | .stat _,_,r=>r
  | .junk,_,r=>r
  | .tup vs,_,r=>VR.t r fun a cvs ha ho hr=>ho.elim fun o h=>⟨a,cvs,rfl,(x.off a o ha h.1).1,⟨o,(x.off a o ha h.1).2,h.2⟩,VRs.kp x (vs:=vs) hr⟩
  | .lst vs,_,r=>VR.l r fun a cvs n ha ho hr=>⟨a,cvs,n,rfl,(x.off _ _ ha ho).1,(x.off _ _ ha ho).2,VRs.kp x (vs:=vs) hr⟩
  | .dct es,_,r=>VR.d r fun a ces n h1 h2 ha ho hr=>⟨a,ces,n,rfl,⟨h1,h2⟩,(x.off _ _ ha ho).1,(x.off _ _ ha ho).2,VRd.kp x (vs:=es) hr⟩
  | .rng _ _ _,_,r=>VR.r r fun a t u y ha ho=>⟨a,t,u,y,rfl,(x.off _ _ ha ho).1,(x.off _ _ ha ho).2⟩
  | .obj _,_,r=>VR.o r fun p hp=>⟨p,x.at_ _ _ hp,rfl⟩
  | .meth _ _,_,r=>VR.m r fun a p hp ha ho=>⟨a,p,x.at_ _ _ hp,rfl,(x.off _ _ ha ho).1,(x.off _ _ ha ho).2⟩
theorem VRs.kp (x:Kp μ h μ' h'):∀{vs:List V} {cs:List Value},VRs P h μ vs cs->VRs P h' μ' vs cs
  | [],_,r=>r
  | v::vs,_,r=>VRs.c r fun c r hv hr=>⟨c,r,rfl,VR.kp x (v:=v) hv,VRs.kp x (vs:=vs) hr⟩
theorem VRd.kp (x:Kp μ h μ' h'):∀{vs:List (List Nat×V)} {cs:List DictEntry},VRd P h μ vs cs->VRd P h' μ' vs cs
  | [],_,r=>r
  | e::es,_,r=>VRd.c r fun t c r hv hr=>⟨t,c,r,rfl,VR.kp x (v:=e.2) hv,VRd.kp x (vs:=es) hr⟩
end
theorem VRf.kp (x:Kp μ h μ' h'):∀{vs:List (String×V)} {cs:List DictEntry},VRf P h μ vs cs->VRf P h' μ' vs cs
  | [],_,r=>r
  | e::es,_,r=>VRf.c r fun t c r hv hr=>⟨t,c,r,rfl,VR.kp x (v:=e.2) hv,VRf.kp x (vs:=es) hr⟩
theorem VR.step {μ μ':Mu} {s s':Shared} (x:Step μ s μ' s') {v:V} {c:Value} (r:VR P s.heap μ v c):VR P s'.heap μ' v c:=VR.kp x.kp r
theorem VRs.step {μ μ':Mu} {s s':Shared} (x:Step μ s μ' s') {v:List V} {c:List Value} (r:VRs P s.heap μ v c):VRs P s'.heap μ' v c:=VRs.kp x.kp r
end
noncomputable def Rd (h:Heap) (env:Env) (m:Str->Option Value) (x:Str) (c:Value):Prop:=
  (env.kindOf x=some .local/\m x=some c)∨((env.kindOf x=some .cell∨env.kindOf x=some .free)/\∃a,env.cells.lookup x=some a/\h.IsCell a (some c))
noncomputable def LR (P:Params) (h:Heap) (μ:Mu) (env:Env) (ρ:L) (m:Str->Option Value):Prop:=∀x v,lk ρ x=some v->∃c,Rd h env m (Str.ofString x) c/\VR P h μ v c
structure Fm (P:Params) (hO:Heap) (env:Env) (μ:Mu) (h:Heap) (ρ:Mine.L) (m:Str->Option Value):Prop where
  kind:env.scope.kind=.function
  glob:env.globals=mainGlobals
  blt:env.builtins=builtinsNs
  ns:h.Ns env.locals m
  off:env.locals∈μ.ex/\env.locals∉pcells μ
  coff:∀q∈env.cells,q.2∈μ.ex/\q.2∉pcells μ/\q.2≠env.locals/\∃v,h.IsCell q.2 v
  apart:env.cells.Pairwise fun x y=>x.2≠y.2
  cel:∀x,env.scope.names.lookup x=some .cell->∃a,env.cells.lookup x=some a
  lr:LR P h μ env ρ m
theorem IsCell.of {h h':Heap} {a:Addr} {v:Option Value} (k:∀o,h.get? a=some o->h'.get? a=some o) (x:h.IsCell a v):h'.IsCell a v:=by
  obtain ⟨o,e,q⟩:=x;exact ⟨o,k _ e,q⟩
theorem Ae {α:Type} {l:List (Str×α)} {x:Str} {a:α} (e:l.lookup x=some a):(x,a)∈l:=by
  induction l with
  | nil=>cases e
  | cons y r ih=>
    obtain ⟨k,b⟩:=y;rw [List.lookup_cons] at e;split at e
    . rename_i q;cases e;rw [beq_iff_eq.mp q];exact List.mem_cons_self
    . exact List.mem_cons_of_mem _ (ih e)
theorem Step.cell {μ μ':Mu} {s s':Shared} (x:Step μ s μ' s') {a:Addr} {v:Option Value} (ha:a∉pcells μ) (c:s.heap.IsCell a v):s'.heap.IsCell a v:=by
  obtain ⟨o,e,q⟩:=c;obtain ⟨o',e',d⟩:=(x.keep a o ha e).d;exact ⟨o',e',d.trans q⟩
theorem Step.exact {μ μ':Mu} {s s':Shared} (x:Step μ s μ' s') {a:Addr} {o:Obj} (ha:a∉pcells μ) (n:¬Hd o) (e:s.heap.get? a=some o):s'.heap.get? a=some o:=(x.keep a o ha e).n n
theorem Fm.step {P:Params} {hO:Heap} {env:Env} {μ μ':Mu} {s s':Shared} (x:Step μ s μ' s') {ρ:Mine.L} {m:Str->Option Value} (F:Fm P hO env μ s.heap ρ m):Fm P hO env μ' s'.heap ρ m:=by
  obtain ⟨o,es,ep,ho,hd,hs,hn⟩:=F.ns;obtain ⟨o',ho',hd'⟩:=(x.keep _ _ F.off.2 ho).d;refine ⟨F.kind,F.glob,F.blt,⟨o',es,ep,ho',hd'.trans hd,hs,hn⟩,⟨x.ex▸F.off.1,x.poff F.off.2 ho⟩,fun q hq=>?_,F.apart,F.cel,fun y v e=>?_⟩
  . obtain ⟨h1,h2,h3,v,⟨o,e,z⟩⟩:=F.coff q hq;exact ⟨x.ex▸h1,x.poff h2 e,h3,v,x.cell h2 ⟨o,e,z⟩⟩
  . obtain ⟨c,hc,hv⟩:=F.lr y v e;refine ⟨c,?_,hv.step x⟩;rcases hc with h | ⟨h,a,h1,h2⟩
    . exact .inl h
    . exact .inr ⟨h,a,h1,x.cell (F.coff _ (Ae h1)).2.1 h2⟩
section
variable (prog:Program) (w:World) (hO:Heap)
noncomputable def Ok (A:Around) (t:Sem Value) (μ:Mu) (s:Shared) (v:V) (σ':St):Prop:=
  ∀(Q:Value->Shared->Prop) (E:Value->Shared->Prop),(∀c s' μ',Step μ s μ' s'->Rel w.params hO σ' μ' s'.heap->VR w.params s'.heap μ' v c->s.toks<=s'.toks->Q c s')->wpAny (model prog w) A t Q E s
noncomputable def OkS (A:Around) (t:Sem (List Value)) (μ:Mu) (s:Shared) (v:List V) (σ':St):Prop:=
  ∀(Q:List Value->Shared->Prop) (E:Value->Shared->Prop),(∀c s' μ',Step μ s μ' s'->Rel w.params hO σ' μ' s'.heap->VRs w.params s'.heap μ' v c->s.toks<=s'.toks->Q c s')->wpAny (model prog w) A t Q E s
noncomputable def OkB (A:Around) (t:Sem Bool) (μ:Mu) (s:Shared) (b:Bool) (σ':St):Prop:=
  ∀(Q:Bool->Shared->Prop) (E:Value->Shared->Prop),(∀s' μ',Step μ s μ' s'->Rel w.params hO σ' μ' s'.heap->s.toks<=s'.toks->Q b s')->wpAny (model prog w) A t Q E s
noncomputable def OkC (A:Around) (c:Code) (μ:Mu) (s:Shared) (v:V) (σ':St):Prop:=
  ∀(R:Result->Shared->Prop),(∀c s' μ',Step μ s μ' s'->Rel w.params hO σ' μ' s'.heap->VR w.params s'.heap μ' v c->s.toks<=s'.toks->R (.ok (.ret c)) s')->codeAny (model prog w) A c R s
end
section
variable {prog:Program} {w:World} {hO:Heap} {A:Around} {μ:Mu} {s:Shared} {σ':St}
theorem Ok.mk {t:Sem Value} {v:V} (h:∀(Q:Value->Shared->Prop) (E:Value->Shared->Prop),(∀c s' μ',Step μ s μ' s'->Rel w.params hO σ' μ' s'.heap->VR w.params s'.heap μ' v c->Q c s')->wpAny (model prog w) A t Q E s):Ok prog w hO A t μ s v σ':=
  fun _ _ k=>Ah (h _ _ fun c s' μ' st r v tk=>k c s' μ' st r v tk)
theorem OkS.mk {t:Sem (List Value)} {v:List V} (h:∀(Q:List Value->Shared->Prop) (E:Value->Shared->Prop),(∀c s' μ',Step μ s μ' s'->Rel w.params hO σ' μ' s'.heap->VRs w.params s'.heap μ' v c->Q c s')->wpAny (model prog w) A t Q E s):OkS prog w hO A t μ s v σ':=
  fun _ _ k=>Ah (h _ _ fun c s' μ' st r v tk=>k c s' μ' st r v tk)
theorem OkB.mk {t:Sem Bool} {b:Bool} (h:∀(Q:Bool->Shared->Prop) (E:Value->Shared->Prop),(∀s' μ',Step μ s μ' s'->Rel w.params hO σ' μ' s'.heap->Q b s')->wpAny (model prog w) A t Q E s):OkB prog w hO A t μ s b σ':=
  fun _ _ k=>Ah (h _ _ fun s' μ' st r tk=>k s' μ' st r tk)
theorem OkC.mk {c:Code} {v:V} (h:∀(R:Result->Shared->Prop),(∀c s' μ',Step μ s μ' s'->Rel w.params hO σ' μ' s'.heap->VR w.params s'.heap μ' v c->R (.ok (.ret c)) s')->codeAny (model prog w) A c R s):OkC prog w hO A c μ s v σ':=
  fun _ k=>Bp (h _ fun c s' μ' st r v tk=>k c s' μ' st r v tk)
end
section
variable {P:Params} {hO:Heap} {σ:St} {μ μ':Mu} {h h':Heap}
theorem OR.kp (x:Kp μ h μ' h') {p:Addr×Addr} (hc:∀o,h.get? p.2=some o->h'.get? p.2=some o):∀{o:O},OR P h μ p o->OR P h' μ' p o
  | .inst _ _,⟨h1,h2,ces,n,h3,h4⟩=>⟨(x.off _ _ h2 h1).2,(x.off _ _ h2 h1).1,ces,n,hc _ h3,h4.kp x⟩
  | .list _,⟨h1,cvs,n,h2,h3⟩=>⟨h1,cvs,n,hc _ h2,h3.kp x⟩
  | .dict _,⟨h1,ces,n,h2,h3⟩=>⟨h1,ces,n,hc _ h2,h3.kp x⟩
theorem OR.cell {p:Addr×Addr}:∀{o:O},OR P h μ p o->∃ob,h.get? p.2=some ob
  | .inst _ _,⟨_,_,_,_,h3,_⟩=>⟨_,h3⟩
  | .list _,⟨_,_,_,h2,_⟩=>⟨_,h2⟩
  | .dict _,⟨_,_,_,h2,_⟩=>⟨_,h2⟩
theorem Rel.cell_lt (r:Rel P hO σ μ h) {a:Addr} (ha:a∈cells μ):a < h.objs.size:=by
  rcases List.mem_append.mp ha with ha | ha
  . obtain ⟨p,hp,rfl⟩:=List.mem_map.mp ha;obtain ⟨i,hi,hip⟩:=List.mem_iff_getElem.mp hp;have hi':i < σ.length:=by rw [<- r.len];exact hi
    obtain ⟨ob,e⟩:=(r.obj i σ[i] p (List.getElem?_eq_getElem hi') (by rw [List.getElem?_eq_getElem hi,hip])).cell
    exact Heap.lt_size e
  . obtain ⟨o,e⟩:=r.exl a ha;exact Heap.lt_size e
theorem Rel.fresh (r:Rel P hO σ μ h):h.objs.size∉cells μ:=fun hm=>Nat.lt_irrefl _ (r.cell_lt hm)
theorem Au (h:Heap):h.get? h.objs.size=none:=by
  cases e:h.get? h.objs.size with
  | none=>rfl
  | some o=>exact absurd (Heap.lt_size e) (Nat.lt_irrefl _)
theorem Rel.size_new (r:Rel P hO σ μ h):hO.get? h.objs.size=none:=by
  cases e:hO.get? h.objs.size with
  | none=>rfl
  | some o=>exact absurd (Heap.lt_size (r.keep _ _ e)) (Nat.lt_irrefl _)
theorem Rel.size_low (r:Rel P hO σ μ h):1 < h.objs.size:=by
  obtain ⟨o,e⟩:=r.low;have z:(3:Nat) < h.objs.size:=Heap.lt_size (r.keep _ _ e);exact Nat.lt_trans (by decide) z
theorem Rel.at_ (r:Rel P hO σ μ h) {i:Nat} {o:O} (e:σ[i]? = some o):∃p,μ.ps[i]? = some p/\OR P h μ p o:=by
  have hi:=(List.getElem?_eq_some_iff.mp e).1;rw [<- r.len] at hi;exact ⟨μ.ps[i],List.getElem?_eq_getElem hi,r.obj i o _ e (List.getElem?_eq_getElem hi)⟩
theorem Rel.ob (r:Rel P hO σ μ h) {i:Nat} {o:O} {p:Addr×Addr} (e:σ[i]? = some o) (hp:μ.ps[i]? = some p):OR P h μ p o:=r.obj i o p e hp
theorem Cg {i:Nat} {vs:List V} (e:objL σ i=some vs):σ[i]? = some (.list vs):=by
  unfold objL at e;revert e;cases σ[i]? with
  | none=>exact fun e=>nn e
  | some o=>cases o with
    | list ws=>exact fun e=>sme e rfl
    | _=>exact fun e=>nn e
theorem objD_at {i:Nat} {vs:List (List Nat×V)} (e:objD σ i=some vs):σ[i]? = some (.dict vs):=by
  unfold objD at e;revert e;cases σ[i]? with
  | none=>exact fun e=>nn e
  | some o=>cases o with
    | dict ws=>exact fun e=>sme e rfl
    | _=>exact fun e=>nn e
theorem GB {i:Nat} {q:Addr×L} (e:objI σ i=some q):σ[i]? = some (.inst q.1 q.2):=by
  unfold objI at e;revert e;cases σ[i]? with
  | none=>exact fun e=>nn e
  | some o=>cases o with
    | inst C fs=>exact fun e=>sme e rfl
    | _=>exact fun e=>nn e
@[elab_as_elim] theorem Rel.ol {Z:Value->Prop} {i:Nat} {co:Value} {vs:List V} (r:Rel P hO σ μ h) (vo:VR P h μ (.obj i) co) (e:σ[i]? = some (.list vs)) (z:∀p cvs n,μ.ps[i]? = some p->p.1=p.2->IsL h p.1 cvs.toArray n->VRs P h μ vs cvs->Z (.ref p.1)):Z co:=
  VR.o vo fun p hp=>have h:=r.ob e hp;h.2.elim fun cvs h'=>h'.elim fun n h'=>z p cvs n hp h.1 (h.1▸h'.1) h'.2
@[elab_as_elim] theorem Rel.od {Z:Value->Prop} {i:Nat} {co:Value} {es:List (List Nat×V)} (r:Rel P hO σ μ h) (vo:VR P h μ (.obj i) co) (e:σ[i]? = some (.dict es)) (z:∀p ces n,μ.ps[i]? = some p->p.1=p.2->(es.map Prod.fst).Nodup->h.get? p.1=some (dictOf ces n)->VRd P h μ es ces->Z (.ref p.1)):Z co:=
  VR.o vo fun p hp=>have h:=r.ob e hp;h.2.elim fun ces h'=>h'.elim fun n h'=>z p ces n hp h.1.1 h.1.2 (h.1.1▸h'.1) h'.2
@[elab_as_elim] theorem Rel.lo {Z:Value->Prop} {v:V} {c:Value} {vs:List V} (r:Rel P hO σ μ h) (hv:VR P h μ v c) (e:listOf σ v=some vs) (z:∀a cvs n,IsL h a cvs.toArray n->VRs P h μ vs cvs->Z (.ref a)):Z c:=by
  cases v with
  | lst vs'=>exact VR.l hv fun a cvs n _ h1 h2=>z a cvs n h1 (Option.some.inj e▸h2)
  | obj i=>exact Rel.ol r hv (Cg e) fun p cvs n _ _ h1 h2=>z p.1 cvs n h1 h2
  | _=>exact nn e
@[elab_as_elim] theorem Rel.so {Z:Value->Prop} {v:V} {c:Value} {vs:List V} (r:Rel P hO σ μ h) (hv:VR P h μ v c) (e:seqOf σ v=some vs) (z:∀a cvs,(h.IsList a cvs.toArray∨h.IsTuple a cvs.toArray)->VRs P h μ vs cvs->Z (.ref a)):Z c:=by
  cases v with
  | tup vs'=>exact VR.t hv fun a cvs _ h1 h2=>z a cvs (.inr h1) (Option.some.inj e▸h2)
  | lst vs'=>exact Rel.lo r hv (vs:=vs) e fun a cvs n h1 h2=>z a cvs (.inl h1.isList) h2
  | obj i=>exact Rel.lo r hv (vs:=vs) e fun a cvs n h1 h2=>z a cvs (.inl h1.isList) h2
  | _=>exact nn e
theorem Ao {i:Nat} {p:Addr×Addr} (e:μ.ps[i]? = some p):p.2∈pcells μ:=List.mem_map_of_mem (List.mem_of_getElem? e)
theorem Cw {i:Nat} {p:Addr×Addr} (e:μ.ps[i]? = some p):p.2∈cells μ:=List.mem_append_left _ (Ao e)
theorem Kp.refl:Kp μ h μ h:=⟨fun _ _ e=>e,fun _ _ a e=>⟨a,e⟩⟩
theorem Kp.push (o:Obj):Kp μ h μ (h.push o):=⟨fun _ _ e=>e,fun _ _ a e=>⟨a,Heap.get?_push_of_some o e⟩⟩
theorem Rel.push (r:Rel P hO σ μ h) (o:Obj):Rel P hO σ μ (h.push o):=
  ⟨fun b o' e=>Heap.get?_push_of_some o (r.keep b o' e),r.len,fun i ob p e1 e2=>(r.obj i ob p e1 e2).kp (Kp.push o) (fun _ e=>Heap.get?_push_of_some o e),r.new,r.nodup,r.low,fun a ha=>let ⟨o,e⟩:=r.exl a ha;⟨o,Heap.get?_push_of_some _ e⟩⟩
theorem AD {s s':Shared} (o:Obj) (hh:s'.heap=s.heap.push o) (hg:s'.gens=s.gens) (ho:s'.os=s.os):Step μ s μ s':=
  ⟨⟨[],by simp,by simp⟩,fun b o' _ e=>.inl (by rw [hh];exact Heap.get?_push_of_some o e),hg,ho⟩
theorem Rel.grow (r:Rel P hO σ μ h) (ob:Obj) (q:Addr×Addr) (o:O) (hq:q.2=h.objs.size) (ho:OR P (h.push ob) (μ.add q) q o):Rel P hO (σ++[o]) (μ.add q) (h.push ob):=by
  have hn:∀x∈[q],h.get? x.2=none/\x.2∉pcells μ:=fun x hx=>by
    rw [List.mem_singleton.mp hx,hq];exact ⟨Au h,A7 r.fresh⟩
  have hk:Kp μ h (μ.add q) (h.push ob):=by
    refine ⟨fun i p e=>?_,fun a o ha e=>⟨Da (h:=h) hn ha e,Heap.get?_push_of_some ob e⟩⟩
    show (μ.ps++[q])[i]? = some p;rw [List.getElem?_append_left (List.getElem?_eq_some_iff.mp e).1];exact e
  have hc:∀a,a∈cells (μ.add q)->a∈cells μ∨a=q.2:=fun a ha=>by
    rcases List.mem_append.mp ha with h | h
    . rcases mem_ext.mp h with h | ⟨x,hx,rfl⟩
      . exact .inl (List.mem_append_left _ h)
      . rw [List.mem_singleton.mp hx];exact .inr rfl
    . exact .inl (List.mem_append_right _ h)
  refine ⟨fun b o' e=>Heap.get?_push_of_some ob (r.keep b o' e),by simp [Mu.add,r.len],fun i o' p e1 e2=>?_,fun a ha=>?_,?_,r.low,fun a ha=>let ⟨o,e⟩:=r.exl a ha;⟨o,Heap.get?_push_of_some _ e⟩⟩
  . have e2:(μ.ps++[q])[i]? = some p:=e2
    by_cases hi:i < σ.length
    . rw [List.getElem?_append_left hi] at e1;rw [List.getElem?_append_left (by rw [r.len];exact hi)] at e2
      exact (r.obj i o' p e1 e2).kp hk (fun _ e=>Heap.get?_push_of_some ob e)
    . have hi':i=σ.length:=by
        have:=(List.getElem?_eq_some_iff.mp e1).1
        simp at this;omega
      subst hi';rw [List.getElem?_append_right (Nat.le_refl _)] at e1;rw [<- r.len,List.getElem?_append_right (Nat.le_refl _)] at e2;simp at e1 e2;subst e1 e2;exact ho
  . rcases hc a ha with h | h
    . exact r.new a h
    . rw [h,hq];exact ⟨r.size_new,r.size_low⟩
  . have z:=r.nodup;have hf:=r.fresh;unfold cells pcells at z hf ⊢;unfold Mu.add;dsimp only;rw [List.map_append,List.map_singleton,List.append_assoc];rw [hq];rw [List.mem_append] at hf;rw [List.nodup_append] at z ⊢;refine ⟨z.1,?_,?_⟩
    . rw [List.singleton_append,List.nodup_cons];exact ⟨fun h=>hf (.inr h),z.2.1⟩
    . intro a ha b hb;rcases List.mem_append.mp hb with h | h
      . rw [List.mem_singleton.mp h];intro e;exact hf (.inl (e▸ha))
      . exact z.2.2 a ha b h
theorem Db {s s':Shared} (r:Rel P hO σ μ s.heap) (ob:Obj) (q:Addr×Addr) (hq:q.2=s.heap.objs.size) (hh:s'.heap=s.heap.push ob) (hg:s'.gens=s.gens) (ho:s'.os=s.os):Step μ s (μ.add q) s':=
  ⟨⟨[q],rfl,fun x hx=>by rw [List.mem_singleton.mp hx,hq];exact ⟨Au _,A7 r.fresh⟩⟩,fun b o' _ e=>.inl (by rw [hh];exact Heap.get?_push_of_some ob e),hg,ho⟩
theorem Rel.upd (r:Rel P hO σ μ h) {i:Nat} {p:Addr×Addr} (e:μ.ps[i]? = some p) {o':O} (hs:Heap.SameBut p.2 h h') (ho:OR P h' μ p o'):Rel P hO (σ.set i o') μ h':=by
  have hk:Kp μ h μ h':=⟨fun _ _ e=>e,fun a o ha e'=>⟨ha,(hs.2 a (fun he=>A7 ha (he▸Ao e))).trans e'⟩⟩
  refine ⟨fun b o' e'=>(hs.2 b (fun he=>?_)).trans (r.keep b o' e'),by simp [r.len],fun j ob q e1 e2=>?_,r.new,r.nodup,r.low,fun a ha=>let ⟨o,e9⟩:=r.exl a ha;⟨o,(hs.2 a fun q=>(List.nodup_append.mp r.nodup).2.2 p.2 (Ao e) a ha q.symm).trans e9⟩⟩
  . have z:=(r.new _ (Cw e)).1;rw [<- he,e'] at z;cases z
  . by_cases hj:i=j
    . subst hj;rw [e] at e2;cases e2;rw [List.getElem?_set] at e1;split at e1
      . split at e1
        . cases e1;exact ho
        . cases e1
      . exact absurd rfl ‹_›
    . rw [List.getElem?_set_ne hj] at e1;refine (r.obj j ob q e1 e2).kp hk (fun o e'=>(hs.2 q.2 (fun he=>hj ?_)).trans e')
      have a1:(pcells μ)[i]? = some p.2:=by unfold pcells;rw [List.getElem?_map,e];rfl
      have a2:(pcells μ)[j]? = some q.2:=by unfold pcells;rw [List.getElem?_map,e2];rfl
      have hl:i < (pcells μ).length:=(List.getElem?_eq_some_iff.mp a1).1;exact (List.getElem?_inj hl (List.nodup_append.mp r.nodup).1).mp (by rw [a1,a2,he])
theorem Ej {s s':Shared} {i:Nat} {p:Addr×Addr} (e:μ.ps[i]? = some p) (hs:Heap.SameBut p.2 s.heap s'.heap) (hg:s'.gens=s.gens) (ho:s'.os=s.os):Step μ s μ s':=
  ⟨⟨[],by simp,by simp⟩,fun b o' hb e'=>.inl ((hs.2 b (fun he=>hb (he▸Ao e))).trans e'),hg,ho⟩
theorem Kp.hide {o:Obj}:Kp μ h (μ.hide h.objs.size) (h.push o):=⟨fun _ _ e=>e,fun a o' ha e=>⟨fun hm=>by
  rcases List.mem_append.mp hm with q | q
  . exact A7 ha q
  . rcases List.mem_cons.mp q with q | q
    . rw [q,Au] at e;cases e
    . exact ha (List.mem_append_right _ q),Heap.get?_push_of_some _ e⟩⟩
theorem Kp.unhide {a:Addr}:Kp (μ.hide a) h μ h:=⟨fun _ _ e=>e,fun b o hb e=>⟨fun hm=>hb (by
  rcases List.mem_append.mp hm with q | q
  . exact List.mem_append_left _ q
  . exact List.mem_append_right _ (List.mem_cons_of_mem _ q)),e⟩⟩
theorem Rel.hide (r:Rel P hO σ μ h) (o:Obj) (hfree:o.isFreed=false):Rel P hO σ (μ.hide h.objs.size) (h.push o):=by
  refine ⟨fun b o' e=>Heap.get?_push_of_some o (r.keep b o' e),r.len,fun i ob p e1 e2=>(r.obj i ob p e1 e2).kp Kp.hide (fun _ e=>Heap.get?_push_of_some o e),fun a ha=>?_,?_,r.low,fun a ha=>?_⟩
  . rcases List.mem_append.mp ha with q | q
    . exact r.new a (List.mem_append_left _ q)
    . rcases List.mem_cons.mp q with q | q
      . rw [q];exact ⟨r.size_new,r.size_low⟩
      . exact r.new a (List.mem_append_right _ q)
  . have z:=r.nodup;have hf:=r.fresh;unfold cells at z hf ⊢;rw [List.mem_append] at hf;rw [List.nodup_append] at z ⊢;refine ⟨z.1,List.nodup_cons.mpr ⟨fun q=>hf (.inr q),z.2.1⟩,fun a ha b hb=>?_⟩
    rcases List.mem_cons.mp hb with q | q
    . rw [q];intro e;exact hf (.inl (e▸ha))
    . exact z.2.2 a ha b q
  . rcases List.mem_cons.mp ha with q | q
    . rw [q];exact ⟨o,Heap.get?_push_size _ hfree⟩
    . obtain ⟨o',e⟩:=r.exl a q;exact ⟨o',Heap.get?_push_of_some _ e⟩
theorem Rel.unhide {a:Addr} (r:Rel P hO σ (μ.hide a) h):Rel P hO σ μ h:=by
  have hc:∀b,b∈cells μ->b∈cells (μ.hide a):=fun b hm=>by
    rcases List.mem_append.mp hm with q | q
    . exact List.mem_append_left _ q
    . exact List.mem_append_right _ (List.mem_cons_of_mem _ q)
  refine ⟨r.keep,r.len,fun i ob p e1 e2=>(r.obj i ob p e1 e2).kp Kp.unhide (fun _ e=>e),fun b hb=>r.new b (hc b hb),?_,r.low,fun b hb=>r.exl b (List.mem_cons_of_mem _ hb)⟩
  have z:=r.nodup;unfold cells at z ⊢;rw [List.nodup_append] at z ⊢;exact ⟨z.1,(List.nodup_cons.mp z.2.1).2,fun x hx y hy=>z.2.2 x hx y (List.mem_cons_of_mem _ hy)⟩
theorem Kp.change {a:Addr} (ha:a∈μ.ex) (hs:∀b o,b≠a->h.get? b=some o->h'.get? b=some o):Kp μ h μ h':=⟨fun _ _ e=>e,fun b o hb e=>⟨hb,hs b o (fun q=>hb (q▸List.mem_append_right _ ha)) e⟩⟩
theorem Rel.change (r:Rel P hO σ μ h) {a:Addr} (ha:a∈μ.ex) (hs:∀b o,b≠a->h.get? b=some o->h'.get? b=some o) (hz:∃o,h'.get? a=some o):Rel P hO σ μ h':=by
  refine ⟨fun b o e=>hs b o (fun q=>?_) (r.keep b o e),r.len,fun i ob p e1 e2=>(r.obj i ob p e1 e2).kp (Kp.change ha hs) (fun o e=>hs _ _ (fun q=>?_) e),r.new,r.nodup,r.low,fun b hb=>?_⟩
  . rw [q,(r.new a (List.mem_append_right _ ha)).1] at e;cases e
  . exact (List.nodup_append.mp r.nodup).2.2 p.2 (Ao e2) a ha q
  . by_cases q:b=a
    . rw [q];exact hz
    . obtain ⟨o,e⟩:=r.exl b hb;exact ⟨o,hs b o q e⟩
theorem VRs.len:∀{vs:List V} {cs:List Value},VRs P h μ vs cs->cs.length=vs.length
  | [],_,r=>VRs.n r rfl
  | v::vs,_,r=>VRs.c r fun c r _ hr=>congrArg (· + 1) (VRs.len (vs:=vs) hr)
theorem VRs.get:∀{vs:List V} {cs:List Value} {j:Nat} {v:V},VRs P h μ vs cs->vs[j]? = some v->∃c,cs[j]? = some c/\VR P h μ v c
  | [],_,_,_,_,e=>nomatch e
  | u::vs,_,j,v,r,e=>VRs.c r fun c r hv hr=>match j,e with
    | 0,e=>⟨c,rfl,Option.some.inj e▸hv⟩
    | j+1,e=>VRs.get (vs:=vs) (j:=j) hr e
theorem VRs.append:∀{vs ws:List V} {cs ds:List Value},VRs P h μ vs cs->VRs P h μ ws ds->VRs P h μ (vs++ws) (cs++ds)
  | [],_,_,_,r,r'=>VRs.n r r'
  | v::vs,_,_,_,r,r'=>VRs.c r fun c r hv hr=>⟨c,_,rfl,hv,VRs.append (vs:=vs) hr r'⟩
theorem VRs.one {v:V} {c:Value} (r:VR P h μ v c):VRs P h μ [v] [c]:=⟨c,[],rfl,r,rfl⟩
theorem VRs.cons' {v:V} {c:Value} {vs cs} (r:VR P h μ v c) (rs:VRs P h μ vs cs):VRs P h μ (v::vs) (c::cs):=⟨c,cs,rfl,r,rs⟩
theorem VRs.take:∀{vs:List V} {cs:List Value} (n:Nat),VRs P h μ vs cs->VRs P h μ (vs.take n) (cs.take n)
  | [],_,n,r=>VRs.n r (by rw [List.take_nil,List.take_nil];rfl)
  | v::vs,_,n,r=>VRs.c r fun c r hv hr=>match n with
    | 0=>rfl
    | n+1=>⟨c,_,rfl,hv,VRs.take (vs:=vs) n hr⟩
theorem VRs.drop:∀{vs:List V} {cs:List Value} (n:Nat),VRs P h μ vs cs->VRs P h μ (vs.drop n) (cs.drop n)
  | [],_,n,r=>VRs.n r (by rw [List.drop_nil,List.drop_nil];rfl)
  | v::vs,_,n,r=>VRs.c r fun c r hv hr=>match n with
    | 0=>⟨c,r,rfl,hv,hr⟩
    | n+1=>VRs.drop (vs:=vs) n hr
theorem VRs.set:∀{vs:List V} {cs:List Value} (n:Nat) {v:V} {c:Value},VRs P h μ vs cs->VR P h μ v c->VRs P h μ (vs.set n v) (cs.set n c)
  | [],_,n,_,_,r,_=>VRs.n r rfl
  | u::vs,_,n,v,c,r,hv=>VRs.c r fun c' r hv' hr=>match n with
    | 0=>⟨c,r,rfl,hv,hr⟩
    | n+1=>⟨c',_,rfl,hv',VRs.set (vs:=vs) n hr hv⟩
end
theorem Aj (l:List Nat):(S l).length=l.length:=by simp [S,Str.length]
theorem Ek (a b:List Nat):S a++S b=S (a++b):=by
  show (⟨_⟩:Str)=_;simp [S]
theorem S_inj {a b:List Nat}:S a=S b ↔ a=b:=by simp [S]
theorem S_cps (l:List Nat):(S l).cps=l.toArray:=rfl
theorem A2:big=sizeLine:=by rw [sizeLine_eq];rfl
section
variable {prog:Program} {w:World} {hO:Heap} {A:Around} {σ σ':St} {μ:Mu} {s:Shared}
theorem GC {q:Addr×Addr} (h:μ.ps.length=σ.length):(μ.add q).ps[σ.length]? = some q:=by
  rw [<- h];show (μ.ps++[q])[μ.ps.length]? = _;rw [List.getElem?_append_right (Nat.le_refl _),Nat.sub_self];rfl
theorem Ok.plain {t:Sem Value} {v:V} (r:Rel w.params hO σ μ s.heap)
    (h:∀(Q:Value->Shared->Prop) (E:Value->Shared->Prop),(∀c k,VR w.params s.heap μ v c->Q c { s with toks:=k })->wpAny (model prog w) A t Q E s):Ok prog w hO A t μ s v σ:=
  Ok.mk fun Q E k=>h Q E fun c n hc=>k c { s with toks:=n } μ (Step.toks μ s n) r hc
theorem OkB.plain {t:Sem Bool} {b:Bool} (r:Rel w.params hO σ μ s.heap)
    (h:∀(Q:Bool->Shared->Prop) (E:Value->Shared->Prop),(∀k,Q b { s with toks:=k })->wpAny (model prog w) A t Q E s):OkB prog w hO A t μ s b σ:=
  OkB.mk fun Q E k=>h Q E fun n=>k { s with toks:=n } μ (Step.toks μ s n) r
theorem E1 (r:Rel w.params hO σ μ s.heap) {m:Bool} {vs:List V} {v:V} {cvs:List Value} {t:Sem Value} (hv:VRs w.params s.heap μ vs cvs) (e:mkList m vs σ=some (v,σ'))
    (h:∀(Q:Value->Shared->Prop) (E:Value->Shared->Prop),cvs.length<=sizeLine->(∀k,Q (.ref s.heap.objs.size) { s with heap:=s.heap.push { cls:=.type "list",data:=.seq cvs.toArray },toks:=k })->wpAny (model prog w) A t Q E s):Ok prog w hO A t μ s v σ':=by
  refine ifs e fun hz e=>?_
  have hz':cvs.length<=sizeLine:=by rw [hv.len,<- A2];exact hz
  cases m with
  | false=>exact sm2 e <| Ok.mk fun Q E k=>h Q E hz' fun n=>k _ _ μ (AD _ rfl rfl rfl) (r.push _) ⟨_,cvs,0,rfl,r.fresh,Heap.get?_push_size _ rfl,hv.kp (Kp.push _)⟩
  | true=>
    refine sm2 e <| Ok.mk fun Q E k=>h Q E hz' fun n=>?_
    have kp:=(Db (s:=s) (s':={ s with heap:=s.heap.push { cls:=.type "list",data:=.seq cvs.toArray } }) r _ (s.heap.objs.size,s.heap.objs.size) rfl rfl rfl rfl).kp
    exact k _ _ (μ.add (s.heap.objs.size,s.heap.objs.size)) (Db r _ (s.heap.objs.size,s.heap.objs.size) rfl rfl rfl rfl) (r.grow _ _ _ rfl ⟨rfl,cvs,0,Heap.get?_push_size _ rfl,hv.kp kp⟩) ⟨(s.heap.objs.size,s.heap.objs.size),GC r.len,rfl⟩
theorem shift_ok {b:Int} (h:0 < b/\b<=half):¬(64<=b.natAbs.log2):=by
  have:b.natAbs≠0:=by omega
  refine Nat.not_le.mpr ((Nat.log2_lt this).mpr ?_);unfold half at h;omega
theorem binI_ok {o:Operator} {a b i:Int} {t u:Tok} (r:Rel w.params hO σ μ s.heap) (e:binI o a b=some i):Ok prog w hO A (PySem.binaryOp o (.int a t) (.int b u)) μ s (.int i) σ:=by
  cases o with
  | Add=>exact sme e (Ok.plain r fun Q E k=>add_int (k _ _ ⟨_,rfl⟩))
  | Sub=>exact sme e (Ok.plain r fun Q E k=>sub_int (k _ _ ⟨_,rfl⟩))
  | Mod=>exact ifs e fun h e=>sme e (Ok.plain r fun Q E k=>mod_int' h (k _ _ ⟨_,rfl⟩))
  | FloorDiv=>exact ifs e fun h e=>sme e (Ok.plain r fun Q E k=>by
      refine floordiv_int (Int.ne_of_gt h.1) (k _ _ ⟨_,rfl⟩) (.inl ?_);unfold PySem.Builtin.divisionGoesByPylong;simp only [Bool.and_eq_false_iff,decide_eq_false_iff_not];left
      have:=shift_ok h
      split<;>omega)
  | _=>exact nn e
theorem binS_ok {o:Operator} {x y:List Nat} {v:V} {t u:Tok} (r:Rel w.params hO σ μ s.heap) (e:binS o x y σ=some (v,σ')):Ok prog w hO A (PySem.binaryOp o (.str (S x) t) (.str (S y) u)) μ s v σ':=by
  cases o with
  | Add=>exact ifs e fun hz e=>sm2 e (Ok.plain r fun Q E k=>add_str (fun t' tk=>k _ _ ⟨t',by rw [Ek]⟩) (by rw [Aj,Aj,<- A2];exact hz))
  | _=>exact nn e
theorem binN_ok {o:Operator} {i k:Int} {v:V} {t u:Tok} (r:Rel w.params hO σ μ s.heap) (e:(binI o i k).map (fun i=>(V.int i,σ))=some (v,σ')):Ok prog w hO A (PySem.binaryOp o (.int i t) (.int k u)) μ s v σ':=
  mpx (P:=fun v σ'=>Ok prog w hO A (PySem.binaryOp o (.int i t) (.int k u)) μ s v σ') e fun i hi=>binI_ok r hi
theorem bin_ok {m:Bool} {o:Operator} {a b v:V} {ca cb:Value} (r:Rel w.params hO σ μ s.heap) (va:VR w.params s.heap μ a ca) (vb:VR w.params s.heap μ b cb) (e:bin m o a b σ=some (v,σ')) :
    Ok prog w hO A (binaryOp o ca cb) μ s v σ':=by
  cases b with
  | int k=>
    refine VR.i vb fun u=>?_
    cases a with
    | int i=>exact VR.i va fun t=>binN_ok r e
    | _=>exact nn e
  | str y=>
    cases a with
    | str x=>
      refine VR.s va fun t=>VR.s vb fun u=>?_
      have e:binS o x y σ=some (v,σ'):=e;exact binS_ok r e
    | _=>exact nn e
  | _=>exact nn e
end
end Mine
end
section
open PySem PySem.W PyProof.Rows PySem.Calls PySem.SeqAt
namespace Mine
section
variable {prog:Program} {w:World} {A:Around} {E:Value->Shared->Prop} {s:Shared}
noncomputable def StrK (es:List DictEntry):Prop:=∀e∈es,∃x t,e.key=.str x t
theorem strK_all {es:List DictEntry} (hk:StrK es):(es.toArray.all fun e=>isExactStrKey e.key)=true:=by
  rw [List.all_toArray,List.all_eq_true];exact fun e he=>(hk e he).elim fun y h=>h.elim fun u q=>by rw [q];rfl
theorem HS {d:Addr} {es:List DictEntry} {n:Nat} {x:Str} {t:Tok} {Q:Option Nat->Shared->Prop} (ho:s.heap.get? d=some (dictOf es n)) (hk:StrK es)
    (h:Q (es.findIdx? fun e=>e.key.isStr x) s):wpAny (model prog w) A (foundByValue d (.str x t) es.toArray x) Q E s:=by
  unfold foundByValue;rw [List.findIdx?_toArray];revert h;cases hf:es.findIdx? (fun e=>e.key.isStr x) with
  | none=>exact wpAny_pure
  | some i=>
    have hi:=List.findIdx?_eq_some_iff_getElem.mp hf;refine hi.elim fun hi hx h=>?_
    have e1:es.toArray[i]? = some es[i]:=by rw [List.getElem?_toArray];exact List.getElem?_eq_getElem hi
    dsimp only;rw [e1];dsimp only;refine wpAny_bind (wpAny_dictEpoch ho rfl ?_);refine (hk es[i] (List.getElem_mem hi)).elim fun y hy=>hy.elim fun u q=>?_
    have hx:=hx.1;rw [q] at hx ⊢;have hxy:y=x:=eq_of_beq hx;rw [hxy];refine wpAny_bind (EqAt.str_str x u x t prog w _ _ (wpAny_bind (wpAny_dictEpoch ho rfl ?_)));rw [if_neg (by rw [bne_self_eq_false];exact Bool.false_ne_true),if_pos (beq_self_eq_true x)]
    exact wpAny_bind (wpAny_rule (wpAny_pure h))
theorem find_str {d:Addr} {es:List DictEntry} {n:Nat} {x:Str} {t:Tok} {k:Int} {Q:Option Nat->Shared->Prop} (ho:s.heap.get? d=some (dictOf es n)) (hk:StrK es)
    (h:Q (es.findIdx? fun e=>e.key.isStr x) s):wpAny (model prog w) A (dictFind d (.str x t) k) Q E s:=by
  unfold dictFind;refine wpAny_holding (wpAny_bind (wpAny_dictEntries ho rfl ?_));dsimp only;rw [if_pos (strK_all hk)];exact HS ho hk h
end
theorem E2 (e:Nat->Bool) (b:Bool) (n k:Nat):(b&&((List.range (min n k)).all e&&n==k))=((List.range (min (n+1) (k+1))).all (fun j=>match j with | 0=>b | j+1=>e j)&&(n+1==k+1)):=by
  rw [Nat.add_min_add_right,List.range_succ_eq_map,List.all_cons,List.all_map,Bool.and_assoc]
  congr 2
  rw [Bool.eq_iff_iff,beq_iff_eq,beq_iff_eq,Nat.add_right_cancel_iff]
theorem BP (f:V->V->Option Bool):∀(xs ys:List V) (t:Bool),all2 f xs ys=some t->
    ∃e:Nat->Bool,(∀(j:Nat) x y,xs[j]? = some x->ys[j]? = some y->f x y=some (e j))/\t=((List.range (min xs.length ys.length)).all e&&xs.length==ys.length)
  | [],[],t,h=>⟨fun _=>false,fun j x y h1=>(nomatch h1),(Option.some.inj h).symm⟩
  | [],_::_,t,h=>⟨fun _=>false,fun j x y h1=>(nomatch h1),(Option.some.inj h).symm⟩
  | _::_,[],t,h=>⟨fun _=>false,fun j x y _ h1=>(nomatch h1),(Option.some.inj h).symm⟩
  | x::xs,y::ys,t,h=>bd h fun b hb h=>mp h fun c hc=>(BP f xs ys c hc).elim fun e he=>
    ⟨fun j=>match j with | 0=>b | j+1=>e j,fun j x' y' h1 h2=>match j,h1,h2 with
      | 0,h1,h2=>Option.some.inj h1▸Option.some.inj h2▸hb
      | j+1,h1,h2=>he.1 j x' y' h1 h2,he.2▸E2 e b _ _⟩
section
variable {P:Params} {h:Heap} {μ:Mu}
theorem VRd.strK:∀{es:List (List Nat×V)} {ces:List DictEntry},VRd P h μ es ces->StrK ces
  | [],_,r=>VRd.n r fun e he=>absurd he List.not_mem_nil
  | _::es,_,r=>VRd.c r fun t c r _ hr x hx=>(List.mem_cons.mp hx).elim (fun q=>q▸⟨_,_,rfl⟩) (VRd.strK (es:=es) hr x)
theorem VRd.len:∀{es:List (List Nat×V)} {ces:List DictEntry},VRd P h μ es ces->ces.length=es.length
  | [],_,r=>VRd.n r rfl
  | _::es,_,r=>VRd.c r fun t c r _ hr=>congrArg (· + 1) (VRd.len (es:=es) hr)
theorem DB (a b:List Nat) (t:Tok):(Value.str (S a) t).isStr (S b)=decide (a=b):=by
  show (S a==S b)=_;rw [Bool.eq_iff_iff,beq_iff_eq,decide_eq_true_eq,S_inj]
theorem GD {x k:List Nat} {v:V} {es:List (List Nat×V)} (hk:k=x):lkD ((k,v)::es) x=some v:=if_pos hk
theorem El {x k:List Nat} {v:V} {es:List (List Nat×V)} (hk:¬k=x):lkD ((k,v)::es) x=lkD es x:=if_neg hk
end
section
variable {P:Params} {h:Heap} {μ:Mu}
theorem isL_same {a:Addr} {x y:List Value} {n k:Nat} (hx:IsL h a x.toArray n) (hy:IsL h a y.toArray k):x=y:=by
  have:=hx.symm.trans hy
  simp at this;exact this.1
theorem isT_same {a:Addr} {x y:List Value} (hx:h.IsTuple a x.toArray) (hy:h.IsTuple a y.toArray):x=y:=by
  obtain ⟨o,ho,hc,n,hd⟩:=hx;obtain ⟨o',ho',hc',n',hd'⟩:=hy
  have:=ho.symm.trans ho'
  cases this;rw [hd] at hd';simp at hd';exact hd'.1
noncomputable def Agree (P:Params) (h:Heap) (μ:Mu) (f:V->V->Option Bool):Prop:=∀x y c t,VR P h μ x c->VR P h μ y c->f x y=some t->t=true
theorem and_tt {b c:Bool} (h:b=true) (k:c=true):(b&&c)=true:=by rw [h,k];rfl
theorem BQ {f:V->V->Option Bool} (hf:Agree P h μ f):∀(xs ys:List V) (cs:List Value) (t:Bool),VRs P h μ xs cs->VRs P h μ ys cs->all2 f xs ys=some t->t=true
  | [],[],_,t,_,_,e=>(Option.some.inj e).symm
  | [],y::ys,cs,t,r,r',_=>Exists.elim (show ∃c q,cs=c::q/\VR P h μ y c/\VRs P h μ ys q from r') fun _ k=>k.elim fun _ k=>nomatch k.1.symm.trans (show cs=[] from r)
  | x::xs,[],cs,t,r,r',_=>Exists.elim (show ∃c q,cs=c::q/\VR P h μ x c/\VRs P h μ xs q from r) fun _ k=>k.elim fun _ k=>nomatch k.1.symm.trans (show cs=[] from r')
  | x::xs,y::ys,cs,t,r,r',e=>Exists.elim (show ∃c q,cs=c::q/\VR P h μ x c/\VRs P h μ xs q from r) fun c k=>k.elim fun q k=>Exists.elim (show ∃c q,cs=c::q/\VR P h μ y c/\VRs P h μ ys q from r') fun c' k'=>k'.elim fun q' k'=>
      bd e fun b hb e=>mp e fun d hd=>and_tt (hf x y c b k.2.1 ((List.cons.inj (k.1.symm.trans k'.1)).1▸k'.2.1) hb) (BQ hf xs ys q d k.2.2 ((List.cons.inj (k.1.symm.trans k'.1)).2▸k'.2.2) hd)
theorem HT {f:V->V->Option Bool} (hf:Agree P h μ f) {xs ys:List V} {cx cy:List Value} {t:Bool} (hx:VRs P h μ xs cx) (hy:VRs P h μ ys cy) (hs:cx=cy) (e:lst2 f xs ys=some t):t=true:=by
  unfold lst2 at e;rw [if_pos (by rw [<- hx.len,<- hy.len,hs])] at e
  exact BQ hf xs ys cx t hx (hs▸hy) e
theorem BR {b:V} {ys:List V} (e:asT b=some ys):b=.tup ys:=by
  cases b<;>first | exact nn e | exact congrArg V.tup (Option.some.inj e)
theorem Aq {b:V} {y:Int} (e:asI b=some y):b=.int y:=by
  cases b<;>first | exact nn e | exact congrArg V.int (Option.some.inj e)
theorem A8 {b:V} {y:List Nat} (e:asS b=some y):b=.str y:=by
  cases b<;>first | exact nn e | exact congrArg V.str (Option.some.inj e)
end
section
variable {prog:Program} {w:World} {hO:Heap} {σ:St} {μ:Mu} {s:Shared}
theorem GE {a b:Addr} (h:Value.ref a=Value.ref b):a=b:=Value.ref.inj h
theorem VR.t' {b:V} {vs:List V} {c:Value} (q:b=.tup vs) (h:VR w.params s.heap μ b c) {Z:Value->Prop} (z:∀a cvs,a∉cells μ->s.heap.IsTuple a cvs.toArray->VRs w.params s.heap μ vs cvs->Z (.ref a)):Z c:=VR.t (q▸h:VR w.params s.heap μ (.tup vs) c) z
theorem Em (r:Rel w.params hO σ μ s.heap):∀(n:Nat),Agree w.params s.heap μ (veq σ n)
  | 0,_,_,_,_,_,_,e=>nn e
  | n+1,a,b,c,t,va,vb,e=>by
    have ih:=Em r n;cases a with
    | none=>cases b with
      | none=>exact (Option.some.inj e).symm
      | str x=>exact Exists.elim vb fun u hu=>nomatch (show c=.none from va).symm.trans hu
      | _=>exact nn e
    | bool x=>cases b with
      | bool y=>exact Option.some.inj e▸beq_iff_eq.mpr (Value.bool.inj ((show c=.bool x from va).symm.trans (show c=.bool y from vb)))
      | _=>exact nn e
    | int x=>cases b with
      | int y=>exact Option.some.inj e▸Exists.elim va fun u h1=>Exists.elim vb fun u' h2=>beq_iff_eq.mpr (Value.int.inj (h1.symm.trans h2)).1
      | _=>exact nn e
    | str x=>cases b with
      | none=>exact Exists.elim va fun u hu=>nomatch (show c=.none from vb).symm.trans hu
      | str y=>exact Option.some.inj e▸Exists.elim va fun u h1=>Exists.elim vb fun u' h2=>decide_eq_true (S_inj.mp (Value.str.inj (h1.symm.trans h2)).1)
      | _=>exact nn e
    | tup xs=>exact bd e fun ys hy e=>VR.t (Z:=fun c=>VR w.params s.heap μ b c->t=true) va (fun l cx _ hx hvx vb=>Exists.elim (BR hy▸vb:VR w.params s.heap μ (.tup ys) (.ref l)) fun l' h=>h.elim fun cy h=>
        BQ ih xs ys cx t hvx (isT_same hx (GE h.1▸h.2.2.1)▸h.2.2.2) e) vb
    | lst xs=>exact bd e fun ys hy e=>VR.l (Z:=fun c=>VR w.params s.heap μ b c->t=true) va (fun l cx n _ hl hv vb=>Rel.lo (Z:=fun c=>c=.ref l->t=true) r vb hy (fun a cy n' hl' hv' q=>HT ih hv hv' (isL_same hl (GE q▸hl')) e) rfl) vb
    | _=>exact nn e
structure CmpAt (A:Around) (s:Shared) (a b:Value) (t:Bool):Prop where
  rc:RcAt A s a b t
  ne:RcNeAt A s a b (!t)
  eq:EqAt A s a b t
noncomputable def Same (A:Around) (P:Params) (s:Shared) (μ:Mu) (f:V->V->Option Bool):Prop:=∀x y c d t,VR P s.heap μ x c->VR P s.heap μ y d->f x y=some t->EqAt A s c d t
theorem CmpAt.refs {A:Around} {l l':Addr} {t:Bool} (h1:RcAt A s (.ref l) (.ref l') t) (h2:RcNeAt A s (.ref l) (.ref l') (!t)) (h:l=l'->t=true):CmpAt A s (.ref l) (.ref l') t:=by
  refine ⟨h1,h2,?_⟩
  by_cases hll:l=l'
  . have:=h hll
    subst this hll;exact EqAt.same _
  . exact EqAt.of_refs hll h1
theorem Dc {A:Around} {f:V->V->Option Bool} (hf:Same A w.params s μ f) {xs ys:List V} {cx cy:List Value} (hx:VRs w.params s.heap μ xs cx) (hy:VRs w.params s.heap μ ys cy) {e':Nat->Bool} (he:∀(j:Nat) x y,xs[j]? = some x->ys[j]? = some y->f x y=some (e' j)) :
    ∀j (h1:j < cx.toArray.size) (h2:j < cy.toArray.size),EqAt A s cx.toArray[j] cy.toArray[j] (e' j):=fun j h1 h2=>by
  have h1':j < xs.length:=hx.len▸h1;have h2':j < ys.length:=hy.len▸h2;refine (hx.get (List.getElem?_eq_getElem h1')).elim fun c1 k1=>(hy.get (List.getElem?_eq_getElem h2')).elim fun c2 k2=>?_
  have:=hf _ _ _ _ _ k1.2 k2.2 (he j _ _ (List.getElem?_eq_getElem h1') (List.getElem?_eq_getElem h2'))
  rw [<- (List.getElem?_eq_some_iff.mp k1.1).2,<- (List.getElem?_eq_some_iff.mp k2.1).2] at this;exact this
theorem tup_cmp {A:Around} {f:V->V->Option Bool} (hf:Same A.in1 w.params s μ f) (hu:A.units < cLine) {xs ys:List V} {cx cy:List Value} {l l':Addr} {t:Bool} (hx:s.heap.IsTuple l cx.toArray) (hvx:VRs w.params s.heap μ xs cx) (hy:s.heap.IsTuple l' cy.toArray) (hvy:VRs w.params s.heap μ ys cy) (e:all2 f xs ys=some t) (h:l=l'->t=true):CmpAt A s (.ref l) (.ref l') t:=
  (BP f xs ys t e).elim fun e' he=>by
    have sz:((List.range (min cx.toArray.size cy.toArray.size)).all e'&&cx.toArray.size==cy.toArray.size)=t:=by
      rw [he.2,List.size_toArray,List.size_toArray,hvx.len,hvy.len]
    have it:=Dc hf hvx hvy he.1;exact CmpAt.refs (sz▸RcAt.tuples hx hy hu it) (sz▸RcNeAt.tuples hx hy hu it) h
theorem lst_cmp {A:Around} {f:V->V->Option Bool} (hf:Same A.in1 w.params s μ f) (hu:A.units < cLine) {xs ys:List V} {cx cy:List Value} {n n':Nat} {l l':Addr} {t:Bool} (hx:IsL s.heap l cx.toArray n) (hvx:VRs w.params s.heap μ xs cx) (hy:IsL s.heap l' cy.toArray n') (hvy:VRs w.params s.heap μ ys cy) (e:lst2 f xs ys=some t) (h:l=l'->t=true):CmpAt A s (.ref l) (.ref l') t:=by
  refine ife e (fun q e=>(BP f xs ys t e).elim fun e' he=>?_) fun q e=>?_
  . have sz:(List.range cx.toArray.size).all e'=t:=by
      rw [he.2,List.size_toArray,hvx.len,q,Nat.min_self,beq_self_eq_true,Bool.and_true]
    have hcs:cx.toArray.size=cy.toArray.size:=by rw [List.size_toArray,List.size_toArray,hvx.len,hvy.len,q]
    have it:=Dc hf hvx hvy he.1;exact CmpAt.refs (sz▸RcAt.lists hx.isList hy.isList hcs hu it) (sz▸RcNeAt.lists hx.isList hy.isList hcs hu it) h
  . have hcs:(cx.toArray.size != cy.toArray.size)=true:=by rw [List.size_toArray,List.size_toArray,hvx.len,hvy.len];exact bne_iff_ne.mpr q
    have ht:=Option.some.inj e;exact CmpAt.refs (ht▸RcAt.lists_lengths hx.isList hy.isList hcs hu) (ht▸RcNeAt.lists_lengths hx.isList hy.isList hcs hu) h
theorem none_cmp {A:Around}:CmpAt A s .none .none true:=⟨RcAt.none_none,RcNeAt.none_none,EqAt.same _⟩
theorem str_cmp {A:Around} {x y:List Nat} {u u':Tok} {t:Bool} (e:decide (x=y)=t):CmpAt A s (.str (S x) u) (.str (S y) u') t:=by
  have ht:(S x==S y)=t:=by rw [<- e,Bool.eq_iff_iff,decide_eq_true_eq,beq_iff_eq,S_inj]
  exact ht▸⟨RcAt.str_str _ _ _ _,RcNeAt.str_str _ _ _ _,EqAt.str_str _ _ _ _⟩
theorem units_in {A:Around} {n:Nat} (h:A.units+(n+1) < cLine):A.in1.units+n < cLine:=by show A.units+1+n < cLine;omega
theorem E3 (r:Rel w.params hO σ μ s.heap):∀(n:Nat) (a b:V) (c d:Value) (t:Bool) (A:Around),VR w.params s.heap μ a c->VR w.params s.heap μ b d->veq σ n a b=some t->A.units+n < cLine->CmpAt A s c d t
  | 0,_,_,_,_,_,_,_,_,e,_=>nn e
  | n+1,a,b,c,d,t,A,va,vb,e,hu=>by
    have hu1:A.units < cLine:=Nat.lt_of_le_of_lt (Nat.le_add_right _ _) hu;have ih:Same A.in1 w.params s μ (veq σ n):=fun x y c d t h1 h2 h3=>(E3 r n x y c d t A.in1 h1 h2 h3 (units_in hu)).eq
    have same:c=d->t=true:=fun q=>Em r (n+1) a b c t va (q.symm▸vb) e
    cases a with
    | none=>cases b with
      | none=>exact sme e ((show c=.none from va).symm▸(show d=.none from vb).symm▸none_cmp)
      | str x=>exact sme e (VR.s vb fun u=>(show c=.none from va)▸⟨RcAt.none_str _ _,RcNeAt.none_str _ _,EqAt.none_str _ _⟩)
      | _=>exact nn e
    | bool x=>cases b with
      | bool y=>exact sme e ((show c=.bool x from va)▸(show d=.bool y from vb)▸⟨RcAt.bool_bool _ _,RcNeAt.bool_bool _ _,EqAt.bool_bool _ _⟩)
      | _=>exact nn e
    | int x=>cases b with
      | int y=>exact sme e (VR.i va fun u=>VR.i vb fun u'=>⟨RcAt.int_int _ _ _ _,RcNeAt.int_int _ _ _ _,EqAt.int_int _ _ _ _⟩)
      | _=>exact nn e
    | str x=>cases b with
      | none=>exact sme e (VR.s va fun u=>(show d=.none from vb)▸⟨RcAt.str_none _ _,RcNeAt.str_none _ _,EqAt.str_none _ _⟩)
      | str y=>exact VR.s va fun u=>VR.s vb fun u'=>str_cmp (Option.some.inj e)
      | _=>exact nn e
    | tup xs=>exact bd e fun ys hy e=>VR.t (Z:=fun c=>(c=d->t=true)->CmpAt A s c d t) va (fun l cx _ hx hvx=>VR.t' (BR hy) vb (Z:=fun d=>(.ref l=d->t=true)->CmpAt A s (.ref l) d t) fun l' cy _ hy hvy same=>tup_cmp ih hu1 hx hvx hy hvy e fun q=>same (congrArg _ q)) same
    | lst xs=>exact bd e fun ys hy e=>VR.l (Z:=fun c=>(c=d->t=true)->CmpAt A s c d t) va (fun l cx _ _ hx hvx=>Rel.lo (Z:=fun d=>(.ref l=d->t=true)->CmpAt A s (.ref l) d t) r vb hy fun l' cy _ hy hvy same=>lst_cmp ih hu1 hx hvx hy hvy e fun q=>same (congrArg _ q)) same
    | _=>exact nn e
end
noncomputable def buiV (x:String):Value:=if x = "range"∨x = "zip" then .type x else .builtin x
noncomputable def SV (P:Params) (hO:Heap) (v:V) (c:Value):Prop:=∀(μ:Mu) (h:Heap),(∀b o,hO.get? b=some o->h.get? b=some o)->(∀a∈cells μ,hO.get? a=none)->VR P h μ v c
structure TabOk (prog:Program) (w:World) (K:Frag) (hO:Heap) (T:Tab):Prop where
  X:K.In hO
  meth:∀C n f,T.meth C n=some f->plainGet K C (Str.ofString n)=true/\hasDictIn K C=true/\findIn K (.ref C) (Str.ofString n)=some (some (.ref f))/\isFn K (.ref f)=true/\
    specialIn K (.ref f) "__get__" = some (some (.builtin "function.__get__"))/\takesIn K (.ref f)=some false/\copiedNames.contains (Str.ofString n)=false
  dat:∀C n,T.dat C n=true->plainGet K C (Str.ofString n)=true/\hasDictIn K C=true/\findIn K (.ref C) (Str.ofString n)=some none/\
    findIn K (.ref C) "__setattr__" = some (some (.builtin "object.__setattr__"))/\plainOver K C=true
  cattr:∀C n x,T.cattr C n=some x->plainGet K C (Str.ofString n)=true/\hasDictIn K C=true/\copiedNames.contains (Str.ofString n)=false/\∃a,findIn K (.ref C) (Str.ofString n)=some (some a)/\specialIn K a "__get__" = some none/\SV w.params hO x a
  scls:∀a C,T.scls a=some C->∃dx sl es n,K.lookup a=some ⟨.ref C,some dx,.plain,sl⟩/\K.lookup dx=some (dictOf es n)/\∀n f,T.meth C n=some f->getL (Str.ofString n) es=some none
  sattr:∀a n x,T.sattr a n=some x->∃C dx sl es k v,K.lookup a=some ⟨.ref C,some dx,.plain,sl⟩/\K.lookup dx=some (dictOf es k)/\plainGet K C (Str.ofString n)=true/\hasDictIn K C=true/\
    findIn K (.ref C) (Str.ofString n)=some none/\getL (Str.ofString n) es=some (some v)/\SV w.params hO x v
  sdS:∀a es,T.sdS a=some es->(a==sysModules)=false/\∃m,hO.MapOf (strKind prog w) a m/\∀x,(lkD es x=none/\m (S x)=none)∨∃v c,lkD es x=some v/\m (S x)=some c/\SV w.params hO v c
  sdK:∀a vs,dKeys T a=some vs->(a==sysModules)=false/\∃kvs ep,hO.DictAt (strKind prog w) a kvs ep/\kvs.map (fun e=>V.str e.1.cps.toList)=vs
  fn:∀f,T.fn f=true->fnIn K f=true
  names:∃mg mb,hO.Ns mainGlobals mg/\hO.Ns builtinsNs mb/\(∀x v,T.glo x=some v->∃c,mg (Str.ofString x)=some c/\SV w.params hO v c)/\
    (∀x f,T.fnG x=some f->mg (Str.ofString x)=some (.ref f)/\fnIn K f=true)/\
    (∀x C f,T.clsG x=some (C,f)->mg (Str.ofString x)=some (.ref C)/\makesIn K C=true/\findIn K (.ref C) "__init__" = some (some (.ref f))/\typeIn K (.ref f)=some (.type "function")/\keepIn K (.ref C)=true)/\
    (∀x,T.buiG x=true->mg (Str.ofString x)=none/\mb (Str.ofString x)=some (buiV x))
  nolimit:hO.NoLimit
theorem MapOf.keeps {prog:Program} {w:World} {K:Type} [DecidableEq K] {knd:KeyKind prog w K} {h h':Heap} {a:Addr} {m:K->Option Value} (k:∀b o,h.get? b=some o->h'.get? b=some o) (x:h.MapOf knd a m):h'.MapOf knd a m:=by
  obtain ⟨o,es,ep,ho,r⟩:=x;exact ⟨o,es,ep,k _ _ ho,r⟩
section
variable {prog:Program} {w:World} {K:Frag} {hO:Heap} {T:Tab} {A:Around} {σ σ':St} {μ:Mu} {s:Shared}
theorem SV.here (r:Rel w.params hO σ μ s.heap) {v:V} {c:Value} (x:SV w.params hO v c):VR w.params s.heap μ v c:=x μ s.heap r.keep (fun a ha=>(r.new a ha).1)
theorem VRd.keysLit {P:Params} {h:Heap} {μ:Mu}:∀{es:List (List Nat×V)} {ces:List DictEntry},VRd P h μ es ces->KeysLit P ces
  | [],_,r=>VRd.n r trivial
  | _::es,_,r=>VRd.c r fun t c r _ hr=>⟨⟨_,_,rfl,rfl⟩,VRd.keysLit (es:=es) hr⟩
theorem E4 {a:Addr} {es:List (List Nat×V)} {ces:List DictEntry} {n:Nat} {h:Heap} (ho:h.get? a=some (dictOf ces n)) (hv:VRd w.params h μ es ces) :
    h.MapOf (strKind prog w) a (fun k=>findBy Value.isStrOf ces.toArray k):=by
  refine mapOf_K (K:=[(a,dictOf ces n)]) (es:=ces.toArray) (n:=n) (fun b o e=>?_) (by simp) hv.keysLit
  simp only [List.lookup_cons,List.lookup_nil] at e;split at e
  . rename_i q;rw [beq_iff_eq.mp q];cases e;exact ho
  . cases e
theorem findBy_S {k x:List Nat} {t:Tok} {c:Value} {hs:Int} {r:List DictEntry}:findBy Value.isStrOf (({ hash:=hs,key:=.str (S k) t,val:=c }:DictEntry)::r).toArray (S x)=if k=x then some c else findBy Value.isStrOf r.toArray (S x):=by
  unfold findBy;rw [List.find?_toArray,List.find?_toArray,List.find?_cons]
  have:Value.isStrOf (S x) (.str (S k) t)=decide (k=x):=by rw [<- isStr_of,DB]
  simp only [this]
  by_cases hk:k=x<;>simp [hk]
theorem Ca {P:Params} {h:Heap}:∀{es:List (List Nat×V)} {ces:List DictEntry},VRd P h μ es ces->∀x,(lkD es x=none/\findBy Value.isStrOf ces.toArray (S x)=none)∨∃v c,lkD es x=some v/\findBy Value.isStrOf ces.toArray (S x)=some c/\VR P h μ v c
  | [],_,r,x=>VRd.n r (.inl ⟨rfl,rfl⟩)
  | (k,v)::es,_,r,x=>VRd.c r fun t c r hv hr=>by
    rw [findBy_S]
    by_cases hk:k=x
    . rw [GD hk,if_pos hk];exact .inr ⟨v,c,rfl,rfl,hv⟩
    . rw [El hk,if_neg hk];exact Ca hr x
theorem E5 {a f:Addr} {self:Value} (ho:s.heap.get? a=some (methodObj (.ref f) self)) {Q:Bool->Shared->Prop} {E:Value->Shared->Prop} (h:Q true s):wpAny (model prog w) A (truthy (.ref a)) Q E s:=by
  have ht:s.TypeIs (.ref a) "method":=⟨_,ho,rfl⟩;have e1:typeLookup (.type "method") "__bool__" = pure none:=by rw [typeLookup_type,builtinLookup_eq_fast];kernel_rfl
  have e2:typeLookup (.type "method") "__len__" = pure none:=by rw [typeLookup_type,builtinLookup_eq_fast];kernel_rfl
  unfold truthy;refine wpAny_bind (m:=callSpecial? (.ref a) (Str.ofString "__bool__")) (wpAny_bind (wpAny_specialOf ht e1 (wpAny_pure ?_)));exact wpAny_bind (wpAny_specialOf ht e2 (wpAny_pure h))
theorem GF {l:Addr} {cvs:List Value} {vs:List V} {n:Nat} {b:Bool} {Q:Bool->Shared->Prop} {E:Value->Shared->Prop} (hl:IsL s.heap l cvs.toArray n) (hvs:VRs w.params s.heap μ vs cvs) (he:(if vs.length<=big then some (!vs.isEmpty) else none)=some b) (k:∀t,Q b { s with toks:=t }):wpAny (model prog w) A (truthy (.ref l)) Q E s:=by
  refine ifs he fun hz he=>wpAny_truthy_list hl.isList (by rw [List.size_toArray,hvs.len];unfold big at hz;omega) ?_
  have:cvs.toArray.isEmpty=vs.isEmpty:=by
    rw [Bool.eq_iff_iff,List.isEmpty_toArray,List.isEmpty_iff_length_eq_zero,List.isEmpty_iff_length_eq_zero,hvs.len]
  rw [this,Option.some.inj he];exact k _
theorem Cy {v:V} {c:Value} {b:Bool} (r:Rel w.params hO σ μ s.heap) (hv:VR w.params s.heap μ v c) (e:truth σ v=some b):OkB prog w hO A (truthy c) μ s b σ:=by
  refine OkB.plain r fun Q E k=>?_
  cases v with
  | none=>exact sme e (fun k=>(show c=.none from hv).symm▸truthy_none k) (k s.toks)
  | bool b'=>exact sme e (fun k=>(show c=.bool b' from hv).symm▸wpAny_truthy_bool k) (k s.toks)
  | int i=>exact sme e (VR.i (Z:=fun c=>_->wpAny (model prog w) A (truthy c) Q E s) hv fun t k=>P.truthy_int k) (k s.toks)
  | str l=>
    refine ifs e fun hz e=>VR.s hv fun t=>P.truthy_str (by rw [Aj];unfold big at hz;omega) ?_
    have:((((S l).length:Nat):Int) != 0)=!l.isEmpty:=by
      rw [Aj,Bool.eq_iff_iff];simp [List.isEmpty_iff,<- List.length_eq_zero_iff]
    rw [this,Option.some.inj e];exact k _
  | lst vs=>exact VR.l hv fun a cvs n _ h2 h3=>GF h2 h3 e k
  | obj i=>exact bd e fun vs ho e=>Rel.lo r hv (vs:=vs) ho fun a cvs n h2 h3=>GF h2 h3 e k
  | meth f i=>exact sme e (VR.m (Z:=fun c=>_->wpAny (model prog w) A (truthy c) Q E s) hv fun a p hp _ ho k=>E5 ho k) (k s.toks)
  | _=>exact nn e
theorem En (a b:Int):(a==b)=decide (b=a):=by rw [Bool.eq_iff_iff,beq_iff_eq,decide_eq_true_eq];exact eq_comm
theorem HU (a b:List Nat):(S a==S b)=decide (b=a):=by rw [Bool.eq_iff_iff,beq_iff_eq,decide_eq_true_eq,S_inj];exact eq_comm
noncomputable def cEq (x y:Value):Bool:=match y with
  | .none=>match x with | .none=>true | _=>false
  | .int i _=>match x with | .int j _=>decide (j=i) | _=>false
  | .str a _=>match x with | .str b _=>decide (b=a) | _=>false
  | _=>false
theorem cEq_str (a b:List Nat) (t u:Tok):cEq (.str (S b) u) (.str (S a) t)=decide (b=a):=by
  show decide (S b=S a)=decide (b=a);rw [Bool.eq_iff_iff,decide_eq_true_eq,decide_eq_true_eq,S_inj]
structure PlainAt (A:Around) (s:Shared) (x y:V) (cx cy:Value):Prop where
  eq:EqAt A s cy cx (scEq x y)
  is:cEq cx cy=scEq x y
theorem E6 {y x:V} {cy cx:Value} {A:Around} (hy:plainV y=true) (hx:plainV x=true) (vy:VR w.params s.heap μ y cy) (vx:VR w.params s.heap μ x cx):PlainAt A s x y cx cy:=by
  cases y with
  | none=>
    rw [show cy=.none from vy];cases x with
    | none=>exact (show cx=.none from vx).symm▸⟨EqAt.same _,rfl⟩
    | int i=>exact VR.i vx fun t=>⟨EqAt.none_int _ _,rfl⟩
    | str l=>exact VR.s vx fun t=>⟨EqAt.none_str _ _,rfl⟩
    | _=>exact nt hx
  | int a=>
    refine VR.i vy fun u=>?_
    cases x with
    | none=>exact (show cx=.none from vx).symm▸⟨EqAt.int_none _ _,rfl⟩
    | int i=>exact VR.i vx fun t=>⟨(show (a==i)=scEq (V.int i) (V.int a) from En a i)▸EqAt.int_int _ _ _ _,rfl⟩
    | str l=>exact VR.s vx fun t=>⟨EqAt.int_str _ _ _ _,rfl⟩
    | _=>exact nt hx
  | str a=>
    refine VR.s vy fun u=>?_
    cases x with
    | none=>exact (show cx=.none from vx).symm▸⟨EqAt.str_none _ _,rfl⟩
    | int i=>exact VR.i vx fun t=>⟨EqAt.str_int _ _ _ _,rfl⟩
    | str l=>exact VR.s vx fun t=>⟨(show (S a==S l)=scEq (V.str l) (V.str a) from HU a l)▸EqAt.str_str _ _ _ _,cEq_str _ _ _ _⟩
    | _=>exact nt hx
  | _=>exact nt hy
theorem GG {x:V} {cx:Value} (hx:plainV x=true) (vx:VR w.params s.heap μ x cx):∀{vs:List V} {cvs:List Value},VRs w.params s.heap μ vs cvs->vs.all plainV=true->cvs.any (cEq cx)=vs.any (scEq x)/\∀y∈cvs,EqAt A.in1 s y cx (cEq cx y)
  | [],_,r,_=>VRs.n r ⟨rfl,fun _ h=>absurd h List.not_mem_nil⟩
  | v::vs,_,r,ha=>VRs.c r fun c r hv hr=>by
    have ha:=Bool.and_eq_true_iff.mp (List.all_cons▸ha);have ih:=GG hx vx hr ha.2;have p:=E6 (A:=A.in1) ha.1 hx hv vx;refine ⟨by rw [List.any_cons,List.any_cons,ih.1,p.is],fun y hy=>(List.mem_cons.mp hy).elim (fun q=>?_) (ih.2 y)⟩
    rw [q,p.is];exact p.eq
theorem one_is {l:List Nat} {c:Nat} (e:one l=some c):l=[c]:=match l,e with
  | [_],e=>Option.some.inj e▸rfl
noncomputable def InOk (prog:Program) (w:World) (A:Around) (s:Shared) (ca cd:Value) (b:Bool):Prop:=∀(Q:Value->Shared->Prop) (E:Value->Shared->Prop),(∀k,Q (.bool b) { s with toks:=k })->wpAny (model prog w) A (compareOp .In ca cd) Q E s
theorem in_sd {K:Type} [DecidableEq K] {knd:KeyKind prog w K} {d:Addr} {m:K->Option Value} {x:K} {ca:Value} {b:Bool} (hk:knd.is x ca=true) (hm:(d==sysModules)=false) (hM:s.heap.MapOf knd d m) (hx:(m x).isSome=b):InOk prog w A s ca (.ref d) b:=fun Q E k=>wpAny_in_of hk hm hM (by rw [hx];exact k _)
theorem HV {o:Option V} {o':Option Value} {Z:V->Value->Prop} {b:Bool} (h:(o=none/\o'=none)∨∃v c,o=some v/\o'=some c/\Z v c) (e:o.isSome=b):o'.isSome=b:=by
  rw [<- e];exact h.elim (fun h=>by rw [h.1,h.2];rfl) fun h=>h.elim fun v h=>h.elim fun c h=>by rw [h.1,h.2.1];rfl
theorem vinD_ok (TK:TabOk prog w K hO T) {a:V} {d:Addr} {ca:Value} {b:Bool} (r:Rel w.params hO σ μ s.heap) (va:VR w.params s.heap μ a ca) (e:vinD T a d=some b):InOk prog w A s ca (.ref d) b:=by
  cases a with
  | str x=>exact VR.s va fun t=>mp2' e fun es he hb=>(TK.sdS d es he).2.elim fun m hM=>in_sd (strKind_is prog w (S x) t) (TK.sdS d es he).1 (MapOf.keeps r.keep hM.1) (HV (hM.2 x) hb)
  | _=>exact nn e
theorem vinL_ok {a d:V} {ca cd:Value} {b:Bool} (va:VR w.params s.heap μ a ca) (vd:VR w.params s.heap μ d cd) (e:((asT d).bind fun vs=>if plainV a&&vs.all plainV then some (vs.any (scEq a)) else none)=some b):InOk prog w A s ca cd b:=
  bd e fun vs hs e=>ifs e fun hp e=>VR.t' (BR hs) vd (Z:=fun cd=>InOk prog w A s ca cd b) fun l cvs _ hl hvs=>by
    have h:=GG (A:=A) (aL hp) va hvs (aR hp);exact fun Q E k=>in_tupleAt (cEq ca) hl (fun y hy=>h.2 y (List.mem_toArray.mp hy)) (by rw [List.any_toArray,h.1,Option.some.inj e];exact k s.toks)
theorem vin_ok (TK:TabOk prog w K hO T) {a d:V} {ca cd:Value} {b:Bool} (r:Rel w.params hO σ μ s.heap) (va:VR w.params s.heap μ a ca) (vd:VR w.params s.heap μ d cd) (e:vin T σ a d=some b):InOk prog w A s ca cd b:=by
  cases d with
  | stat d=>exact (show cd=.ref d from vd).symm▸vinD_ok TK r va e
  | _=>exact vinL_ok va vd e
theorem is_ok {a d:V} {ca cd:Value} {b:Bool} (va:VR w.params s.heap μ a ca) (vd:VR w.params s.heap μ d cd) (e:isV a d=some b) (Q:Value->Shared->Prop) (E:Value->Shared->Prop) :
    ((∀k,Q (.bool b) { s with toks:=k })->wpAny (model prog w) A (compareOp .Is ca cd) Q E s)/\((∀k,Q (.bool (!b)) { s with toks:=k })->wpAny (model prog w) A (compareOp .IsNot ca cd) Q E s):=by
  cases d with
  | none=>
    rw [show cd=.none from vd];cases a with
    | none=>exact sme e ((show ca=.none from va).symm▸⟨fun k=>wpAny_is_self rfl (k s.toks),fun k=>wpAny_isNot_self rfl (k s.toks)⟩)
    | str x=>exact sme e (VR.s va fun t=>⟨fun k=>wpAny_is_other rfl (fun x=>nomatch x) (k s.toks),fun k=>wpAny_isNot_other rfl (fun x=>nomatch x) (k s.toks)⟩)
    | int x=>exact sme e (VR.i va fun t=>⟨fun k=>wpAny_is_other rfl (fun x=>nomatch x) (k s.toks),fun k=>wpAny_isNot_other rfl (fun x=>nomatch x) (k s.toks)⟩)
    | bool x=>exact sme e ((show ca=.bool x from va).symm▸⟨fun k=>wpAny_is_other rfl (fun x=>nomatch x) (k s.toks),fun k=>wpAny_isNot_other rfl (fun x=>nomatch x) (k s.toks)⟩)
    | _=>exact nn e
  | _=>exact nn e
theorem lt_ok {a d:V} {ca cd:Value} {b:Bool} (va:VR w.params s.heap μ a ca) (vd:VR w.params s.heap μ d cd) (e:ltV a d=some b) (Q:Value->Shared->Prop) (E:Value->Shared->Prop) (k:Q (.bool b) s):wpAny (model prog w) A (compareOp .Lt ca cd) Q E s:=by
  cases a with
  | int x=>exact mp2' e fun y hy q=>VR.i va fun t=>VR.i (Aq hy▸vd:VR w.params s.heap μ (.int y) cd) fun u=>lt_int (q▸k)
  | str x=>exact mp2' e fun y hy q=>VR.s va fun t=>VR.s (A8 hy▸vd:VR w.params s.heap μ (.str y) cd) fun u=>lt_str ((show decide ((S x).cps.toList < (S y).cps.toList)=b from q)▸k)
  | _=>exact nn e
theorem le_ok {a d:V} {ca cd:Value} {b:Bool} (va:VR w.params s.heap μ a ca) (vd:VR w.params s.heap μ d cd) (e:leV a d=some b) (Q:Value->Shared->Prop) (E:Value->Shared->Prop) (k:Q (.bool b) s):wpAny (model prog w) A (compareOp .LtE ca cd) Q E s:=by
  cases a with
  | int x=>exact mp2' e fun y hy q=>VR.i va fun t=>VR.i (Aq hy▸vd:VR w.params s.heap μ (.int y) cd) fun u=>le_int (q▸k)
  | str x=>exact mp2' e fun y hy q=>VR.s va fun t=>VR.s (A8 hy▸vd:VR w.params s.heap μ (.str y) cd) fun u=>P.le_str (q▸k)
  | _=>exact nn e
theorem gt_ok {a d:V} {ca cd:Value} {b:Bool} (va:VR w.params s.heap μ a ca) (vd:VR w.params s.heap μ d cd) (e:gtV a d=some b) (Q:Value->Shared->Prop) (E:Value->Shared->Prop) (k:Q (.bool b) s):wpAny (model prog w) A (compareOp .Gt ca cd) Q E s:=
  bd e fun x hx e=>mp2' e fun y hy q=>VR.i (Aq hx▸va:VR w.params s.heap μ (.int x) ca) fun t=>VR.i (Aq hy▸vd:VR w.params s.heap μ (.int y) cd) fun u=>gt_int (q▸k)
theorem ge_ok {a d:V} {ca cd:Value} {b:Bool} (va:VR w.params s.heap μ a ca) (vd:VR w.params s.heap μ d cd) (e:geV a d=some b) (Q:Value->Shared->Prop) (E:Value->Shared->Prop) (k:Q (.bool b) s):wpAny (model prog w) A (compareOp .GtE ca cd) Q E s:=
  bd e fun x hx e=>mp2' e fun y hy q=>VR.i (Aq hx▸va:VR w.params s.heap μ (.int x) ca) fun t=>VR.i (Aq hy▸vd:VR w.params s.heap μ (.int y) cd) fun u=>ge_int (q▸k)
theorem BS (TK:TabOk prog w K hO T) {o:CmpOp} {a d:V} {ca cd:Value} {b:Bool} (r:Rel w.params hO σ μ s.heap) (va:VR w.params s.heap μ a ca) (vd:VR w.params s.heap μ d cd) (e:cmpV T o a d σ=some b) (hu:A.units+9 < cLine) :
    ∀(Q:Value->Shared->Prop) (E:Value->Shared->Prop),(∀k,Q (.bool b) { s with toks:=k })->wpAny (model prog w) A (compareOp o ca cd) Q E s:=by
  intro Q E k;cases o with
  | Eq=>exact cmp_ofEq ((E3 r 9 a d ca cd b A va vd e hu).rc prog w _ _ (k _))
  | NotEq=>exact mp2' e fun t ht q=>cmp_ofNotEq ((E3 r 9 a d ca cd t A va vd ht hu).ne prog w _ _ (q▸k _))
  | Lt=>exact lt_ok va vd e Q E (k s.toks)
  | LtE=>exact le_ok va vd e Q E (k s.toks)
  | Gt=>exact gt_ok va vd e Q E (k s.toks)
  | GtE=>exact ge_ok va vd e Q E (k s.toks)
  | Is=>exact (is_ok va vd e Q E).1 k
  | IsNot=>exact mp2' e fun t ht q=>(is_ok va vd ht Q E).2 (q▸k)
  | In=>exact vin_ok TK r va vd e Q E k
  | NotIn=>exact nn e
end
theorem min_cast (m n:Nat):min (m:Int) (n:Int)=((min m n:Nat):Int):=
  (Nat.le_total m n).elim (fun h=>by rw [Int.min_eq_left (Int.ofNat_le.mpr h),Nat.min_eq_left h]) fun h=>by rw [Int.min_eq_right (Int.ofNat_le.mpr h),Nat.min_eq_right h]
theorem GH (k:Int) (n:Nat):clip k n=clipAt n k:=by
  unfold clip clipAt
  by_cases h:k < 0
  . rw [if_pos h,if_pos h,Int.min_eq_left (by omega)]
    by_cases h2:0<=k+n
    . rw [Int.max_eq_right h2]
    . rw [Int.max_eq_left (by omega),Int.toNat_of_nonpos (by omega)];rfl
  . rw [if_neg h,if_neg h];obtain ⟨m,rfl⟩:=Int.eq_ofNat_of_zero_le (Int.not_lt.mp h);rw [Int.max_eq_right (Int.le_min.mpr ⟨Int.natCast_nonneg m,Int.natCast_nonneg n⟩),min_cast,Int.toNat_natCast,Int.toNat_natCast]
theorem lo_is (l:Option Int) (n:Nat):lo l n=l.elim 0 (clipAt n):=by cases l<;>simp [lo,GH]
theorem hi_is (l:Option Int) (n:Nat):hi l n=l.elim n (clipAt n):=by cases l<;>simp [hi,GH]
theorem cut_len {α:Type} (l u:Option Int) (xs:List α):(cut l u xs).length<=xs.length:=Nat.le_trans (List.length_take_le' ..) (by rw [List.length_drop];exact Nat.sub_le _ _)
theorem pick_cut {α:Type} (l u:Option Int) (xs:Array α):(PySem.Builtin.Str.strSliceIndices l u 1 xs.size).filterMap (xs[·]?)=cut l u xs.toList:=by
  have e:PySem.Builtin.Str.strSliceIndices l u 1 xs.size=sliceRange (sliceBounds l u none xs.size).1 (sliceBounds l u none xs.size).2.1 1:=rfl;rw [e,sliceBounds_plain];simp only [sliceRange_one,pick_run];unfold cut;rw [lo_is,hi_is];simp
theorem HW {α:Type} (l u:Option Int) (xs:Array α) (h:(PySem.Builtin.Str.strSliceIndices l u 1 xs.size).length=xs.size):cut l u xs.toList=xs.toList:=by
  have e:PySem.Builtin.Str.strSliceIndices l u 1 xs.size=sliceRange (sliceBounds l u none xs.size).1 (sliceBounds l u none xs.size).2.1 1:=rfl;rw [e,sliceBounds_plain] at h;simp only [sliceRange_one,List.length_map,List.length_range] at h;unfold cut;rw [lo_is,hi_is]
  have h1:l.elim 0 (clipAt xs.toList.length)=0∨xs.size=0:=by
    by_cases z:xs.size=0
    . exact .inr z
    . left
      have:u.elim xs.size (clipAt xs.size)<=xs.size:=by rw [<- hi_is];unfold hi clip;cases u<;>simp<;>split<;>omega
      simp only [Array.length_toList];omega
  rcases h1 with h1 | h1
  . rw [h1];simp only [Array.length_toList] at h1 ⊢;rw [h1] at h;rw [List.drop_zero,Nat.sub_zero,show u.elim xs.size (clipAt xs.size)=xs.size by assumption,<- Array.length_toList,List.take_length]
  . have:xs.toList=[]:=by rw [<- List.length_eq_zero_iff,Array.length_toList];exact h1
    rw [this];simp
section
variable {prog:Program} {w:World} {K:Frag} {hO:Heap} {T:Tab} {A:Around} {σ σ':St} {μ:Mu} {s:Shared}
theorem fits {k:Int} (h:-half<=k/\k<=half):(decide (k < -2 ^ 63) || decide (k ≥ 2 ^ 63))=false:=by
  unfold half at h;rw [Bool.or_eq_false_iff,decide_eq_false_iff_not,decide_eq_false_iff_not];omega
theorem idx_is (k:Int) (n:Nat):idx? k n=seqIndex? k n:=by
  unfold idx?
  split
  . split
    . rw [seqIndex_of (by assumption) (by assumption)]
    . unfold seqIndex?;simp;omega
  . split
    . rw [seqIndex_neg (by exact Int.lt_of_not_ge (by assumption)) (by assumption)]
    . unfold seqIndex?;simp;omega
theorem idx_lt {k:Int} {n j:Nat} (h:idx? k n=some j):j < n:=by
  unfold idx? at h;split at h<;>split at h<;>simp at h<;>omega
theorem Dd {es:List (List Nat×V)} {a:Addr} {ces:List DictEntry} {n:Nat} {x:List Nat} {t:Tok} {v:V} (r:Rel w.params hO σ μ s.heap) (ho:s.heap.get? a=some (dictOf ces n)) (hv:VRd w.params s.heap μ es ces) (e:lkD es x=some v) :
    Ok prog w hO A (getItem (.ref a) (.str (S x) t)) μ s v σ:=
  Ok.plain r fun Q E k=>(Ca hv x).elim (fun h=>nn (h.1.symm.trans e)) fun h=>h.elim fun u h=>h.elim fun c h=>wpAny_getItem_of (strKind_is prog w (S x) t) (E4 ho hv) h.2.1 (k _ _ (Option.some.inj (h.1.symm.trans e)▸h.2.2))
theorem HX {o:Option V} {o':Option Value} {v:V} (r:Rel w.params hO σ μ s.heap) (h:(o=none/\o'=none)∨∃v c,o=some v/\o'=some c/\SV w.params hO v c) (e:o=some v) {P:Prop} (k:∀c,o'=some c->VR w.params s.heap μ v c->P):P:=
  h.elim (fun h=>nn (h.1.symm.trans e)) fun h=>h.elim fun u h=>h.elim fun c h=>k c h.2.1 (Option.some.inj (h.1.symm.trans e)▸h.2.2.here r)
noncomputable def ItemOk (prog:Program) (w:World) (hO:Heap) (A:Around) (ca ci:Value) (μ:Mu) (s:Shared) (v:V) (σ:St):Prop:=Ok prog w hO A (getItem ca ci) μ s v σ/\∃Ty id,s.TypeIs ca Ty/\typeLookup (.type Ty) "__getitem__" = pure (some (.builtin id))
theorem HY {l:Addr} {cvs:List Value} {k:Int} {t:Tok} {j:Nat} {c:Value} {Q:Value->Shared->Prop} {E:Value->Shared->Prop} (hl:s.heap.IsList l cvs.toArray) (hk:-half<=k/\k<=half) (hj:idx? k cvs.length=some j) (hc:cvs[j]? = some c) (h:Q c s):wpAny (model prog w) A (getItem (.ref l) (.int k t)) Q E s:=by
  have hz:=hk;unfold half at hz;unfold idx? at hj;refine ife hj (fun h0 hj=>ifs hj fun h1 hj=>?_) fun h0 hj=>ifs hj fun h1 hj=>?_
  . exact wpAny_getItem_list hl h0 (by omega) (by rw [List.getElem?_toArray,Option.some.inj hj];exact hc) h
  . exact wpAny_getItem_list_neg hl (Int.not_le.mp h0) (by rw [List.size_toArray];exact h1) (by omega) (by rw [List.size_toArray,List.getElem?_toArray,Option.some.inj hj];exact hc) h
theorem str_read {l:List Nat} {k:Int} {t u:Tok} {v:V} (r:Rel w.params hO σ μ s.heap) (e:(if -half<=k/\k<=half then (idx? k l.length).bind fun j=>l[j]?.map fun c=>V.str [c] else none)=some v):ItemOk prog w hO A (.str (S l) u) (.int k t) μ s v σ:=
  ifs e fun hk e=>bd e fun j hj e=>mp e fun c hc=>⟨Ok.plain r fun Q E q=>getItem_str (c:=c) (fits hk) (by rw [Aj,<- idx_is,hj];show l.toArray[j]? = _;rw [List.getElem?_toArray];exact hc) (q _ _ ⟨_,rfl⟩),"str",_,rfl,slot_str_getitem.lookup⟩
theorem seq_read {a v:V} {ca:Value} {k:Int} {t:Tok} (r:Rel w.params hO σ μ s.heap) (va:VR w.params s.heap μ a ca) (e:((seqOf σ a).bind fun vs=>if -half<=k/\k<=half then (idx? k vs.length).bind fun j=>vs[j]? else none)=some v):ItemOk prog w hO A ca (.int k t) μ s v σ:=
  bd e fun vs hs e=>ifs e fun hk e=>bd e fun j hj e=>Rel.so r va hs fun l cvs hl hvs=>(hvs.get e).elim fun c hc=>by
    rw [<- hvs.len] at hj;refine hl.elim (fun hl=>⟨Ok.plain r fun Q E q=>HY hl hk hj hc.1 (q _ _ hc.2),"list",_,hl.typeIs,slot_list_getitem.lookup⟩) fun hl=>⟨Ok.plain r fun Q E q=>?_,"tuple",_,hl.typeIs,F.slot_tuple_getitem.lookup⟩
    have hz:=hk;unfold half at hz;exact getItem_tuple hl (by omega) (by omega) (by rw [List.size_toArray,<- idx_is];exact hj) (by rw [List.getElem?_toArray];exact hc.1) (q _ _ hc.2)
theorem itemI_ok (TK:TabOk prog w K hO T) {a v:V} {ca:Value} {k:Int} {t:Tok} (r:Rel w.params hO σ μ s.heap) (va:VR w.params s.heap μ a ca) (e:subI T a k σ=some v):ItemOk prog w hO A ca (.int k t) μ s v σ:=by
  cases a with
  | str l=>exact VR.s va fun u=>str_read r e
  | _=>exact seq_read r va e
theorem itemS_ok (TK:TabOk prog w K hO T) {a v:V} {ca:Value} {x:List Nat} {t:Tok} (r:Rel w.params hO σ μ s.heap) (va:VR w.params s.heap μ a ca) (e:subS T a x σ=some v):ItemOk prog w hO A ca (.str (S x) t) μ s v σ:=by
  cases a with
  | dct es=>exact VR.d va fun l ces n _ _ _ ho hv=>⟨Dd r ho hv e,"dict",_,⟨_,ho,rfl⟩,slot_dict_getitem.lookup⟩
  | obj j=>exact bd e fun es ho e=>Rel.od r va (objD_at ho) fun p ces n _ _ _ hd hv=>⟨Dd r hd hv e,"dict",_,⟨_,hd,rfl⟩,slot_dict_getitem.lookup⟩
  | stat d=>
    refine (show ca=.ref d from va).symm▸bd e fun es he e=>(TK.sdS d es he).2.elim fun m hM=>?_
    have hM':=MapOf.keeps r.keep hM.1;exact HX r (hM.2 x) e fun c h2 h3=>⟨Ok.plain r fun Q E q=>wpAny_getItem_of (strKind_is prog w (S x) t) hM' h2 (q _ _ h3),"dict",_,hM'.typeIs,slot_dict_getitem.lookup⟩
  | _=>exact nn e
theorem DC (TK:TabOk prog w K hO T) {a i v:V} {ca ci:Value} (r:Rel w.params hO σ μ s.heap) (va:VR w.params s.heap μ a ca) (vi:VR w.params s.heap μ i ci) (e:subV T a i σ=some v):ItemOk prog w hO A ca ci μ s v σ:=by
  cases i with
  | int k=>exact VR.i vi fun t=>itemI_ok TK r va e
  | str x=>exact VR.s vi fun t=>itemS_ok TK r va e
  | _=>exact nn e
theorem sub_ok (TK:TabOk prog w K hO T) {a i v:V} {ca ci:Value} {ve se:Expr} (r:Rel w.params hO σ μ s.heap) (va:VR w.params s.heap μ a ca) (vi:VR w.params s.heap μ i ci) (e:subV T a i σ=some v) (hs:∀l u p,se≠.Slice l u none p) :
    Ok prog w hO A (subscriptTail ve se ca ci) μ s v σ:=by
  refine (DC (A:=A) TK r va vi e).2.elim fun Ty h=>h.elim fun id h=>?_
  intro Q E k;refine tail_any h.1 h.2 ((DC (A:=A) TK r va vi e).1 Q E k) (ops:=[ca,ci]) ?_
  cases se with
  | Slice l u st p=>cases st with
    | none=>exact absurd rfl (hs _ _ _)
    | some _=>rfl
  | _=>rfl
@[elab_as_elim] theorem Eo {v:V} {c:Value} {b:Option Int} {Z:Value->Option Int->Prop} (hv:VR w.params s.heap μ v c) (e:bound v=some b) (z:∀p:Option (Int×Tok),Z (partValue p) (p.map (·.1))):Z c b:=by
  cases v with
  | none=>exact sme e ((show c=.none from hv).symm▸z none)
  | int k=>exact ifs e fun _ e=>sme e (VR.i hv fun t=>z (some (k,t)))
  | _=>exact nn e
theorem De (p:Option (Int×Tok)):IsPart (partValue p) (p.map (·.1)):=by
  rcases p with _ | ⟨i,t⟩
  . exact .none
  . exact .int i t
theorem slc_ok {a v lv uv:V} {ca cl cu:Value} {ve:Expr} {le ue:Option Expr} {pp:Pos} (r:Rel w.params hO σ μ s.heap) (va:VR w.params s.heap μ a ca) (vl:VR w.params s.heap μ lv cl) (vu:VR w.params s.heap μ uv cu) (e:slcV a lv uv σ=some v) :
    ∀(Q:Value->Shared->Prop) (E:Value->Shared->Prop),(∀c s' μ',Step μ s μ' s'->Rel w.params hO σ μ' s'.heap->VR w.params s'.heap μ' v c->Q c s')->
      wpAny (model prog w) A (subscriptTail ve (.Slice le ue none pp) ca (.ref s.heap.objs.size)) Q E { s with heap:=s.heap.push { cls:=.type "slice",data:=.fields #[cl,cu,.none] } }:=by
  refine bd e fun l hl e=>bd e fun u hu e=>?_
  revert e;refine Eo vl hl fun pl=>Eo vu hu fun pu e Q E k=>?_
  have hat:(s.heap.push { cls:=.type "slice",data:=.fields #[partValue pl,partValue pu,.none] }).get? s.heap.objs.size=some { cls:=.type "slice",data:=.fields #[partValue pl,partValue pu,.none] }:=Heap.get?_push_size _ rfl;generalize hob:({ cls:=.type "slice",data:=.fields #[partValue pl,partValue pu,.none] }:Obj)=ob at hat ⊢;have st:Step μ s μ { s with heap:=s.heap.push ob }:=AD ob rfl rfl rfl
  have r':=r.push ob;have va':=VR.step st va
  have lists:((listOf σ a).bind fun vs=>if vs.length<=big then some (V.lst (cut (pl.map (·.1)) (pu.map (·.1)) vs)) else none)=some v->wpAny (model prog w) A (subscriptTail ve (.Slice le ue none pp) ca (.ref s.heap.objs.size)) Q E { s with heap:=s.heap.push ob }:=fun e=>
    bd e fun vs hs e=>ifs e fun hz e=>Rel.lo r' va' hs fun q cvs n hq hvs=>by
      refine tail_any (T:="list") ⟨_,hq,rfl⟩ slot_list_getitem.lookup ?_ (ops:=[.ref s.heap.objs.size,.ref q]) rfl;refine wpAny_getItem_list_slice (lo:=pl.map (·.1)) (hi:=pu.map (·.1)) (st:=none) hq.isList ⟨_,hat,by rw [<- hob],by rw [<- hob]⟩ (De pl) (De pu) .none (by intro h;cases h) ?_ (by rw [List.size_toArray,hvs.len,<- A2];exact hz)
      have e3:slicePick cvs.toArray (pl.map (·.1)) (pu.map (·.1)) none=(cut (pl.map (·.1)) (pu.map (·.1)) cvs).toArray:=by rw [slicePick_plain,<- lo_is,<- hi_is];rfl
      rw [e3]
      have hc:VRs w.params (s.heap.push ob) μ (cut (pl.map (·.1)) (pu.map (·.1)) vs) (cut (pl.map (·.1)) (pu.map (·.1)) cvs):=by
        unfold cut;rw [hvs.len];exact (hvs.drop _).take _
      exact k _ _ μ (st.trans (AD _ rfl rfl rfl)) (r'.push _) (Option.some.inj e▸⟨_,_,0,rfl,r'.fresh,Heap.get?_push_size _ rfl,hc.kp (Kp.push _)⟩)
  cases a with
  | str x=>
    refine ifs e fun hz e=>VR.s va' fun t=>?_
    refine tail_any (T:="str") rfl slot_str_getitem.lookup ?_ (ops:=[.ref s.heap.objs.size,.str (S x) t]) rfl;refine wpAny_getItem_str_slice (l:=pl) (u:=pu) (st:=none) ⟨_,hat,by rw [<- hob],by rw [<- hob];rfl⟩ rfl ?_
    unfold sliceMade slicePicked;simp only [Option.map_none,Option.getD_none];have hp:=pick_cut (pl.map (·.1)) (pu.map (·.1)) (S x).cps;have hl':(S x).length=(S x).cps.size:=rfl;rw [hl'];have e:=Option.some.inj e
    split
    . rename_i hc;simp only [beq_self_eq_true,Bool.true_and,beq_iff_eq] at hc;have e2:cut (pl.map (·.1)) (pu.map (·.1)) x=x:=HW _ _ (S x).cps hc;exact k _ _ μ (st.trans (Step.toks _ _ _)) r' (e▸⟨t,by rw [e2]⟩)
    . rw [hp];refine ⟨?_,k _ _ μ (st.trans (Step.toks _ _ _)) r' (e▸⟨_,rfl⟩)⟩;show (cut (pl.map (·.1)) (pu.map (·.1)) x).toArray.size<=sizeLine;rw [List.size_toArray,<- A2];exact Nat.le_trans (cut_len _ _ x) hz
  | _=>exact lists e
end
end Mine
end
section
open PySem PySem.W PyProof.Rows PySem.Calls PySem.SeqAt
open PySem.Builtin PySem.Builtin.Str PySem.StrLaws
set_option maxRecDepth 100000
namespace Mine
theorem DD (x y:Str) (i j:Int) (t u v z:Tok):Gives (PySem.Builtin.«str.count» ⟨[.str x t,.str y u,.int i v,.int j z],[]⟩) (.int (occurrences x y (fromIndex x.length i) (min (fromIndex x.length j) x.length) (x.length+1)).length):=by
  show Gives (retInt (occurrences x y (fromIndex x.length i) (min (fromIndex x.length j) x.length) (x.length+1)).length) _;exact .of_eq rfl
theorem DE (x y:Str) (i j:Int) (t u v z:Tok):Gives (PySem.Builtin.«str.rfind» ⟨[.str x t,.str y u,.int i v,.int j z],[]⟩) (.int (match lastOccurrence x y (fromIndex x.length i) (min (fromIndex x.length j) x.length) with | some i=>(i:Int) | none=>-1)):=by
  show Gives (match lastOccurrence x y (fromIndex x.length i) (min (fromIndex x.length j) x.length) with | some i=>retInt i | none=>(do rule "str.rfind.not-found";retInt (-1))) _
  cases lastOccurrence x y (fromIndex x.length i) (min (fromIndex x.length j) x.length) with
  | none=>exact .rule (.of_eq rfl)
  | some k=>exact .of_eq rfl
theorem BA (n k:Nat):fromIndex n (k:Int)=k:=by unfold fromIndex;split<;>omega
theorem Cz (l:List Nat) (c hi i:Nat) (hh:hi<=l.length):(i+(S [c]).length<=hi/\subAt (S l) (S [c]) i=true) ↔ (l.take hi)[i]? = some c:=by
  have h1:=subAt_one (S l) c i;rw [show (S [c]).length=1 from rfl];rw [show (⟨#[c]⟩:Str)=S [c] from rfl,show (S [c]).length=1 from rfl,show (S l).cps.toList=l from rfl,show (S l).length=l.length by rw [Aj]] at h1
  rw [List.getElem?_take];constructor
  . rintro ⟨a,b⟩;rw [if_pos (by assumption)];exact h1.mp ⟨by exact Nat.lt_of_lt_of_le (by assumption) (by assumption),b⟩
  . intro h;split at h
    . rename_i q;exact ⟨by assumption,(h1.mpr h).2⟩
    . cases h
theorem DF (l:List Nat) (c hi lim:Nat) (hh:hi<=l.length) (hlim:hi < lim):∀(n a:Nat) (acc:Array Nat) (free:Nat),free<=a->acc.size<=a->a+n=hi+1->
    (forIn (List.range' a n) (acc,free) (occBody (S l) (S [c]) hi lim)).run.fst.size=acc.size+cnt1 c ((l.take hi).drop a)
  | 0,a,acc,free,_,_,ha=>by
    have:(l.take hi).drop a=[]:=by rw [List.drop_eq_nil_iff,List.length_take];omega
    rw [this];simp [cnt1,List.range'_zero]
  | n+1,a,acc,free,hf,hs,ha=>by
    rw [List.range'_succ,List.forIn_cons]
    by_cases hx:(l.take hi)[a]? = some c
    . have h1:=(Cz l c hi a hh).mpr hx
      have e:occBody (S l) (S [c]) hi lim a (acc,free)=pure (ForInStep.yield (acc.push a,a+(S [c]).length)):=by
        unfold occBody;rw [if_pos ⟨⟨⟨by show acc.size < lim;omega,hf⟩,h1.1⟩,h1.2⟩]
      rw [e];show (forIn (List.range' (a+1) n) (acc.push a,a+1) (occBody (S l) (S [c]) hi lim)).run.fst.size=_;rw [DF l c hi lim hh hlim n (a+1) (acc.push a) (a+1) (Nat.le_refl _) (by rw [Array.size_push];exact Nat.succ_le_succ (by assumption)) (by omega),Array.size_push]
      have hlt:a < (l.take hi).length:=(List.getElem?_eq_some_iff.mp hx).1;rw [List.drop_eq_getElem_cons hlt,(List.getElem?_eq_some_iff.mp hx).2];simp [cnt1];exact Nat.succ_add _ _
    . have h1:¬(a+(S [c]).length<=hi/\subAt (S l) (S [c]) a=true):=fun h=>hx ((Cz l c hi a hh).mp h)
      have e:occBody (S l) (S [c]) hi lim a (acc,free)=pure (ForInStep.yield (acc,free)):=by
        unfold occBody;rw [if_neg (fun h=>h1 ⟨h.1.2,h.2⟩)]
      rw [e];show (forIn (List.range' (a+1) n) (acc,free) (occBody (S l) (S [c]) hi lim)).run.fst.size=_;rw [DF l c hi lim hh hlim n (a+1) acc free (by exact Nat.le_succ_of_le (by assumption)) (by exact Nat.le_succ_of_le (by assumption)) (by omega)]
      by_cases hlt:a < (l.take hi).length
      . rw [List.drop_eq_getElem_cons hlt]
        have:((l.take hi)[a]==c)=false:=beq_eq_false_iff_ne.mpr fun h=>hx (by rw [List.getElem?_eq_getElem hlt,h])
        unfold cnt1;rw [List.filter_cons,this];rfl
      . rw [List.drop_eq_nil_iff.mpr (by omega),List.drop_eq_nil_iff.mpr (by exact Nat.le_of_not_lt (by assumption))]
theorem count_is (l:List Nat) (c hi:Nat) (hh:hi<=l.length):(occurrences (S l) (S [c]) 0 hi ((S l).length+1)).length=cnt1 c (l.take hi):=by
  rw [occ_eq,Array.length_toList,DF l c hi _ hh (by rw [Aj];exact Nat.succ_le_succ (by assumption)) _ 0 #[] 0 (Nat.le_refl _) (Nat.le_refl _) (by exact Nat.add_left_comm _ _ _)]
  simp
theorem A9 (c:Nat):∀l:List Nat,(rfind1 c l=-1/\∀i:Nat,l[i]?≠some c)∨∃i:Nat,rfind1 c l=i/\l[i]? = some c/\∀k,i < k->l[k]?≠some c
  | []=>.inl ⟨rfl,by simp⟩
  | x::r=>by
    unfold rfind1;rcases A9 c r with ⟨h1,h2⟩ | ⟨i,h1,h2,h3⟩
    . rw [h1]
      by_cases hx:x=c
      . right;refine ⟨0,by simp [hx],by simp [hx],fun k hk=>?_⟩
        obtain ⟨k',rfl⟩:∃k',k=k'+1:=⟨k - 1,by omega⟩
        simpa using h2 k'
      . left;refine ⟨by simp [hx],fun i=>?_⟩
        cases i with
        | zero=>simpa using hx
        | succ i=>simpa using h2 i
    . right;refine ⟨i+1,?_,by simpa using h2,fun k hk=>?_⟩
      . rw [h1];simp
      . obtain ⟨k',rfl⟩:∃k',k=k'+1:=⟨k - 1,by omega⟩
        simpa using h3 k' (by exact Nat.lt_of_succ_lt_succ (by assumption))
theorem rfind_is (l:List Nat) (c hi:Nat) (hh:hi<=l.length):(match lastOccurrence (S l) (S [c]) 0 hi with | some i=>(i:Int) | none=>-1)=rfind1 c (l.take hi):=by
  have key:=last_run (S l) (S [c]) hi (List.range' 0 (hi+1 - 0)) [] none (fun _ h=>nomatch h) (fun _ h=>nomatch h) (by simpa using List.pairwise_lt_range' (s:=0) (n:=hi+1 - 0))
  rw [<- last_eq] at key
  have mem:∀i:Nat,(l.take hi)[i]? = some c->i∈[]++List.range' 0 (hi+1 - 0):=fun i hi'=>by
    have:=(List.getElem?_eq_some_iff.mp hi').1
    rw [List.length_take] at this;simp [List.mem_range'];omega
  cases hr:lastOccurrence (S l) (S [c]) 0 hi with
  | none=>
    rw [hr] at key;rcases A9 c (l.take hi) with ⟨h1,_⟩ | ⟨i,_,h2,_⟩
    . rw [h1]
    . exact absurd ((Cz l c hi i hh).mpr h2) (key i (mem i h2))
  | some a=>
    rw [hr] at key;have ka:=(Cz l c hi a hh).mp key.1;rcases A9 c (l.take hi) with ⟨_,h2⟩ | ⟨i,h1,h2,h3⟩
    . exact absurd ka (h2 a)
    . rw [h1]
      have:a=i:=by
        rcases Nat.lt_trichotomy a i with h | h | h
        . exact absurd ((Cz l c hi i hh).mpr h2) (key.2 i (mem i h2) h)
        . exact h
        . exact absurd ka (h3 a h)
      rw [this]
section
variable {prog:Program} {w:World} {A:Around} {E:Value->Shared->Prop} {s:Shared} {Q:Value->Shared->Prop}
theorem Ep {l:List Nat} {c:Nat} {k:Nat} {t u v z:Tok} (h:Q (.int (cnt1 c (l.take k)) s.toks) { s with toks:=s.toks+1 }):wpAny (model prog w) A (call (.builtin "str.count") [.str (S l) t,.str (S [c]) u,.int 0 v,.int k z]) Q E s:=by
  refine call_gives F.slot_str_count (typeIs_str _ _ _) F.entry_str_count (F.args_str_count_4 _ _ _ _) (DD (S l) (S [c]) 0 k t u v z) ?_
  rw [show fromIndex (S l).length 0=0 from BA _ 0,BA,count_is l c _ (by rw [Aj];exact Nat.min_le_right _ _)]
  have:l.take (min k (S l).length)=l.take k:=by rw [Aj,<- List.take_take];simp
  rw [this];exact h
theorem Er {l:List Nat} {c:Nat} {k:Nat} {t u v z:Tok} (h:Q (.int (rfind1 c (l.take k)) s.toks) { s with toks:=s.toks+1 }):wpAny (model prog w) A (call (.builtin "str.rfind") [.str (S l) t,.str (S [c]) u,.int 0 v,.int k z]) Q E s:=by
  refine call_gives F.slot_str_rfind (typeIs_str _ _ _) F.entry_str_rfind (F.args_str_rfind_4 _ _ _ _) (DE (S l) (S [c]) 0 k t u v z) ?_
  rw [show fromIndex (S l).length 0=0 from BA _ 0,BA,rfind_is l c _ (by rw [Aj];exact Nat.min_le_right _ _)]
  have:l.take (min k (S l).length)=l.take k:=by rw [Aj,<- List.take_take];simp
  rw [this];exact h
theorem HZ:∀ss:List (List Nat),glued (S []) (ss.map S)=S ss.flatten
  | []=>rfl
  | x::ss=>by
    have key:∀(ss:List (List Nat)) (acc:Array Nat),(ss.map S).foldl (fun acc p=>acc++(S []).cps++p.cps) acc=acc++ss.flatten.toArray:=by
      intro ss
      induction ss with
      | nil=>intro acc;simp
      | cons y ss ih=>intro acc;rw [List.map_cons,List.foldl_cons,ih];simp [S]
    show (⟨_⟩:Str)=_;rw [List.map_cons,List.drop_one,List.tail_cons,List.headD_cons,key];simp [S]
theorem E7 (ss:List (List Nat)) (h:ss.flatten.length<=big):JoinOk (S []) (ss.map S)=true:=by
  have key:∀(ss:List (List Nat)) (a:Nat),(ss.map S).toArray.foldl (· + ·.length+(S []).length) a=a+ss.flatten.length:=by
    intro ss;simp only [List.size_toArray,List.foldl_toArray',List.length_map]
    induction ss with
    | nil=>intro a;simp
    | cons y ss ih=>intro a;rw [List.map_cons,List.foldl_cons,ih,Aj,List.flatten_cons,List.length_append];simp [S,Str.length];exact Nat.add_assoc _ _ _
  unfold JoinOk;rw [key];generalize ss.flatten.length=q at h;unfold big at h;simp [tooLong,sizeLine]
  assumption
theorem Df {P:Params} {h:Heap} {μ:Mu}:∀{vs:List V} {cvs:List Value} {ss:List (List Nat)},VRs P h μ vs cvs->toStrs vs=some ss->∃l:List (Str×Tok),cvs=strValues l/\l.map (·.1)=ss.map S
  | [],_,ss,r,e=>by cases e;rw [show _=[] from r];exact ⟨[],rfl,rfl⟩
  | v::vs,_,ss,⟨c,r,e1,hv,hr⟩,e=>by
    subst e1;cases v<;>try cases e
    rename_i x;obtain ⟨s',hs,rfl⟩:=Option.map_eq_some_iff.mp e;obtain ⟨t,rfl⟩:=hv;obtain ⟨l,h1,h2⟩:=Df hr hs;exact ⟨(S x,t)::l,by rw [h1];rfl,by simp [h2]⟩
theorem H0 {l:Addr} {cvs:List Value} {vs:List V} {ss:List (List Nat)} {t:Tok} {μ:Mu} {n:Nat} (hl:IsL s.heap l cvs.toArray n) (hv:VRs w.params s.heap μ vs cvs) (hs:toStrs vs=some ss) (hz:ss.flatten.length<=big) (h:∀t' k,Q (.str (S ss.flatten) t') { s with toks:=k }) :
    wpAny (model prog w) A (call (.builtin "str.join") [.str (S []) t,.ref l]) Q E s:=by
  obtain ⟨l',h1,h2⟩:=Df hv hs;refine SC.join (l:=l') (by rw [<- h1];exact hl.isList) h2 (E7 ss hz) fun t' k=>?_
  have:Txt.join (S []) (ss.map S)=S ss.flatten:=HZ ss
  rw [this];exact h t' k
end
theorem Dg (l:List Nat) (i j:Nat):strSub (S l) i j=S ((l.drop i).take (j - i)):=mk_of_toList (strSub_toList (S l) i j)
theorem E8 (l y:List Nat) (i:Nat) (hi:i<=l.length):StrLaws.At (S l) (S y) (S l).length i ↔ y.isPrefixOf (l.drop i)=true:=by
  unfold StrLaws.At;rw [subAt_eq,Aj,Aj,List.isPrefixOf_iff_prefix,List.prefix_iff_eq_take];show i+y.length<=l.length/\((l.drop i).take (S y).length==y)=true ↔ _;rw [Aj,beq_iff_eq];constructor
  . exact fun h=>h.2.symm
  . intro h;refine ⟨?_,h.symm⟩
    have:=congrArg List.length h
    rw [List.length_take,List.length_drop] at this;omega
theorem Be (l y:List Nat) (hy:1<=y.length):∀(n a f:Nat) (cuts:List Nat),ChainG (S l) (S y) (S l).length a cuts f->(∀k,f<=k->¬StrLaws.At (S l) (S y) (S l).length k)->a<=l.length->l.length - a < n->partsFrom (S l) y.length a cuts=(splitF y n (l.drop a)).map S
  | 0,a,f,cuts,_,_,_,h=>by exact absurd (by assumption) (Nat.not_lt_zero _)
  | n+1,a,f,cuts,ch,fin,ha,hn=>by
    have hS:(S l).length=l.length:=Aj l;have hY:(S y).length=y.length:=Aj y
    by_cases hlt:a < l.length
    . rw [List.drop_eq_getElem_cons hlt];show _=(if y.isPrefixOf (l[a]::l.drop (a+1))=true then []::splitF y n ((l[a]::l.drop (a+1)).drop y.length) else consH l[a] (splitF y n (l.drop (a+1)))).map S
      rw [<- List.drop_eq_getElem_cons hlt,List.drop_drop]
      by_cases hp:y.isPrefixOf (l.drop a)=true
      . rw [if_pos hp];have hA:=(E8 l y a ha).mpr hp;cases cuts with
        | nil=>exact absurd hA (fin a (Nat.le_of_eq ch))
        | cons c r=>
          have hca:c=a:=by
            rcases Nat.lt_or_ge a c with h | h
            . exact absurd hA (ch.2.2.1 a (Nat.le_refl _) h)
            . exact Nat.le_antisymm h ch.1
          subst hca;have h2:=ch.2.1.1;rw [hS,hY] at h2;have ch':=ch.2.2.2;rw [hY] at ch';show strSub (S l) c c::partsFrom (S l) y.length (c+y.length) r=_;rw [Be l y hy n (c+y.length) f r ch' fin h2 (by (clear h2 hY hS;omega)),Dg,Nat.sub_self,List.take_zero];rfl
      . rw [if_neg hp];have hA:¬StrLaws.At (S l) (S y) (S l).length a:=fun h=>hp ((E8 l y a ha).mp h)
        cases cuts with
        | nil=>
          have ih:=Be l y hy n (a+1) (a+1) [] rfl (fun k hk=>fin k (Nat.le_trans (Nat.le_of_eq ch) (by exact Nat.le_of_lt (by assumption)))) hlt (by (clear hS;omega))
          have e1:partsFrom (S l) y.length (a+1) []=[S (l.drop (a+1))]:=by
            show [strSub (S l) (a+1) (S l).length]=_;rw [Dg,hS,List.take_of_length_le (by rw [List.length_drop];exact Nat.le_refl _)]
          have e2:partsFrom (S l) y.length a []=[S (l.drop a)]:=by
            show [strSub (S l) a (S l).length]=_;rw [Dg,hS,List.take_of_length_le (by rw [List.length_drop];exact Nat.le_refl _)]
          rw [e1] at ih;rw [e2];cases hs:splitF y n (l.drop (a+1)) with
          | nil=>rw [hs] at ih;cases ih
          | cons p ps=>
            rw [hs] at ih;obtain ⟨i1,i2⟩:=List.cons.inj ih;have hp:l.drop (a+1)=p:=by simpa [S] using i1
            have hps:ps=[]:=List.map_eq_nil_iff.mp i2.symm;rw [hps,<- hp];show _=[S (l[a]::l.drop (a+1))];rw [<- List.drop_eq_getElem_cons hlt]
        | cons c r=>
          have hac:a < c:=Nat.lt_of_le_of_ne ch.1 fun q=>hA (q▸ch.2.1)
          have ih:=Be l y hy n (a+1) f (c::r) ⟨hac,ch.2.1,fun k h1 h2=>ch.2.2.1 k (by exact Nat.le_of_lt (by assumption)) h2,ch.2.2.2⟩ fin hlt (by (clear hac hS;omega))
          have ih:strSub (S l) (a+1) c::partsFrom (S l) y.length (c+y.length) r=_:=ih;show strSub (S l) a c::partsFrom (S l) y.length (c+y.length) r=_;cases hs:splitF y n (l.drop (a+1)) with
          | nil=>rw [hs] at ih;cases ih
          | cons p ps=>
            rw [hs] at ih;obtain ⟨i1,i2⟩:=List.cons.inj ih;rw [Dg] at i1;have hp:(l.drop (a+1)).take (c - (a+1))=p:=by simpa [S] using i1
            rw [i2,Dg,List.drop_eq_getElem_cons hlt,show c - a=(c - (a+1))+1 by omega,List.take_succ_cons,hp];rfl
    . have hal:a=l.length:=by omega
      have hd:l.drop a=[]:=List.drop_of_length_le (by exact Nat.le_of_not_lt (by assumption))
      cases cuts with
      | nil=>
        show [strSub (S l) a (S l).length]=_;rw [Dg,hd,List.take_nil];rfl
      | cons c r=>
        have h2:=ch.2.1.1;have h3:=ch.1;rw [hS,hY] at h2;omega
theorem Es (l y:List Nat) (hy:1<=y.length):partsBetween (S l) (occurrences (S l) (S y) 0 (S l).length ((S l).length+1)) (S y).length=(splitL y l).map S:=by
  obtain ⟨f,ch,fin⟩:=occ_tight (S l) (S y) (by rw [Aj];exact hy)
  rw [partsBetween_eq,Aj y];exact Be l y hy (l.length+1) 0 f _ ch fin (Nat.zero_le _) (by exact Nat.lt_succ_self _)
theorem glued_S (z:List Nat):∀ps:List (List Nat),glued (S z) (ps.map S)=S (List.intercalate z ps)
  | []=>rfl
  | x::ss=>by
    have key:∀(ss:List (List Nat)) (acc:Array Nat),(ss.map S).foldl (fun acc p=>acc++(S z).cps++p.cps) acc=acc++(ss.map fun p=>z++p).flatten.toArray:=by
      intro ss
      induction ss with
      | nil=>intro acc;simp
      | cons y ss ih=>intro acc;rw [List.map_cons,List.foldl_cons,ih];simp [S]
    show (⟨_⟩:Str)=_;rw [List.map_cons,List.drop_one,List.tail_cons,List.headD_cons,key]
    have:∀(x:List Nat) (ss:List (List Nat)),List.intercalate z (x::ss)=x++(ss.map fun p=>z++p).flatten:=by
      intro x ss
      induction ss generalizing x with
      | nil=>simp [List.intercalate]
      | cons y ss ih=>rw [show List.intercalate z (x::y::ss)=x++z++List.intercalate z (y::ss) by simp [List.intercalate,List.intersperse],ih];simp
    rw [this];simp [S]
theorem E9 {l x:List Nat} (hx:1<=x.length) (h0:occurrences (S l) (S x) 0 (S l).length ((S l).length+1)=[]):splitL x l=[l]:=by
  have:=Es l x hx
  rw [h0,partsBetween_eq] at this
  have:[strSub (S l) 0 (S l).length]=_:=this
  rw [sub_whole] at this;cases hs:splitL x l with
  | nil=>rw [hs] at this;cases this
  | cons p ps=>
    rw [hs] at this;obtain ⟨i1,i2⟩:=List.cons.inj this;have hp:l=p:=by simpa [S] using i1
    rw [List.map_eq_nil_iff.mp i2.symm,<- hp]
theorem Fa (l x z:List Nat) (hx:1<=x.length):Txt.replace (S l) (S x) (S z)=S (replL x z l):=by
  unfold Txt.replace replL;rw [Es l x hx,glued_S]
  split
  . rename_i h;rw [Bool.or_eq_true,Aj x] at h
    have h0:occurrences (S l) (S x) 0 (S l).length ((S l).length+1)=[]:=h.elim List.isEmpty_iff.mp fun q=>by
      rw [Bool.and_eq_true,beq_iff_eq] at q;omega
    rw [E9 hx h0];simp [List.intercalate]
  . rfl
end Mine
end
section
open PySem PySem.W PyProof.Rows PySem.Calls PySem.SeqAt
namespace Mine
section
variable {prog:Program} {w:World} {hO:Heap} {A:Around} {σ σ':St} {μ:Mu} {s:Shared}
theorem C8 (x:Int) (t:Tok) (l:List (Int×Tok)) {cs:List Value} (h:cs.toArray=intItems l.toArray):(Value.int x t::cs).toArray=intItems ((x,t)::l).toArray:=by
  unfold intItems at h ⊢;rw [List.map_toArray] at h ⊢;rw [show cs=_ from congrArg Array.toList h];rfl
theorem CA {P:Params} {h:Heap} {μ:Mu}:∀{vs:List V} {cvs:List Value} {ns:List Int},VRs P h μ vs cvs->toInts vs=some ns->∃l:List (Int×Tok),cvs.toArray=intItems l.toArray/\l.map (·.1)=ns
  | [],_,ns,r,e=>VRs.n r (sme e ⟨[],by simp [intItems],rfl⟩)
  | v::vs,_,ns,r,e=>VRs.c r fun c r hv hr=>bd e fun x hx e=>mp e fun ns' hs=>VR.i (Aq hx▸hv:VR P h μ (.int x) c) fun t=>
    (CA (vs:=vs) hr hs).elim fun l hl=>⟨(x,t)::l,C8 x t l hl.1,congrArg (List.cons x) hl.2⟩
theorem as1_is {as:List V} {a:V} (e:as1 as=some a):as=[a]:=match as,e with
  | [_],e=>Option.some.inj e▸rfl
theorem DG {as:List V} {p:V×V} (e:as2 as=some p):as=[p.1,p.2]:=match as,e with
  | _::_,e=>mp e fun b h=>congrArg _ (as1_is h)
@[elab_as_elim] theorem VRs.o1 {P:Params} {h:Heap} {as:List V} {a:V} {cs:List Value} {Z:List Value->Prop} (r:VRs P h μ as cs) (e:as1 as=some a) (z:∀c,VR P h μ a c->Z [c]):Z cs:=
  VRs.c (as1_is e▸r:VRs P h μ [a] cs) fun c _ hv hr=>VRs.n hr (z c hv)
@[elab_as_elim] theorem VRs.o2 {P:Params} {h:Heap} {as:List V} {p:V×V} {cs:List Value} {Z:List Value->Prop} (r:VRs P h μ as cs) (e:as2 as=some p) (z:∀c d,VR P h μ p.1 c->VR P h μ p.2 d->Z [c,d]):Z cs:=
  VRs.c (DG e▸r:VRs P h μ [p.1,p.2] cs) fun c _ hv hr=>VRs.c hr fun d _ hv' hr=>VRs.n hr (z c d hv hv')
theorem as3_is' {as:List V} {p:V×V×V} (e:as3 as=some p):as=[p.1,p.2.1,p.2.2]:=by
  cases as with
  | nil=>cases e
  | cons a r=>
    have e:(as2 r).map (fun b=>(a,b))=some p:=e
    obtain ⟨q,hq,rfl⟩:=Option.map_eq_some_iff.mp e;rw [DG hq]
@[elab_as_elim] theorem VRs.o3 {P:Params} {h:Heap} {as:List V} {p:V×V×V} {cs:List Value} {Z:List Value->Prop} (r:VRs P h μ as cs) (e:as3 as=some p) (z:∀c d f,VR P h μ p.1 c->VR P h μ p.2.1 d->VR P h μ p.2.2 f->Z [c,d,f]):Z cs:=
  VRs.c (as3_is' e▸r:VRs P h μ [p.1,p.2.1,p.2.2] cs) fun c _ hv hr=>VRs.c hr fun d _ hv' hr=>VRs.c hr fun f _ hv2 hr=>VRs.n hr (z c d f hv hv' hv2)
theorem lenL_ok {a v:V} {c:Value} (r:Rel w.params hO σ μ s.heap) (va:VR w.params s.heap μ a c) (e:((listOf σ a).bind fun vs=>if vs.length<=big then some (V.int vs.length,σ) else none)=some (v,σ')):Ok prog w hO A (call (.builtin "len") [c]) μ s v σ':=
  bd e fun vs hl e=>ifs e fun hz e=>sm2 e (Rel.lo r va hl fun l cvs n ho hvs=>Ok.plain r fun Q E k=>Calls.call_len_list ho.isList (by rw [List.size_toArray,hvs.len];unfold big at hz;omega) (k _ _ ⟨_,by rw [List.size_toArray,hvs.len]⟩))
theorem len_ok {a v:V} {c:Value} (r:Rel w.params hO σ μ s.heap) (va:VR w.params s.heap μ a c) (e:buiLen a σ=some (v,σ')):Ok prog w hO A (call (.builtin "len") [c]) μ s v σ':=by
  cases a with
  | str l=>exact ifs e fun hz e=>sm2 e (VR.s va fun t=>Ok.plain r fun Q E k=>len_str (by rw [Aj];unfold big at hz;omega) (k _ _ ⟨_,by rw [Aj]⟩))
  | _=>exact lenL_ok r va e
theorem H5 {h':Heap} {tk:Tok} (r:Rel w.params hO σ μ s.heap) (hk:∀b o,s.heap.get? b=some o->h'.get? b=some o):Step μ s μ { s with heap:=h',toks:=tk }/\Rel w.params hO σ μ h':=
  ⟨⟨⟨[],by simp,by simp⟩,fun b o _ e=>.inl (hk b o e),rfl,rfl⟩,⟨fun b o e=>hk _ _ (r.keep b o e),r.len,fun i o p e1 e2=>(r.obj i o p e1 e2).kp ⟨fun _ _ e=>e,fun a o ha e=>⟨ha,hk _ _ e⟩⟩ (fun o e=>hk _ _ e),r.new,r.nodup,r.low,fun a ha=>(r.exl a ha).elim fun o e=>⟨o,hk _ _ e⟩⟩⟩
theorem sum_ok {a v:V} {c:Value} (hh:A.handled=none) (r:Rel w.params hO σ μ s.heap) (va:VR w.params s.heap μ a c) (e:buiSum a σ=some (v,σ')):Ok prog w hO A (call (.builtin "sum") [c]) μ s v σ':=
  bd e fun vs hl e=>mpx e fun ns hn=>by
    have hlo:listOf σ a=some vs:=by cases a<;>first | exact nn hl | exact hl
    refine Rel.lo r va hlo fun a cvs n ho hv=>(CA hv hn).elim fun l hl=>?_
    refine Ok.mk fun Q E k=>?_
    refine sum_intListG hh (show s.heap.IsList a (intItems l.toArray) by rw [<- hl.1];exact ho.isList) fun h' tk t' hk=>?_
    have z:=H5 (tk:=tk) r hk;refine k _ _ μ z.1 z.2 ⟨t',?_⟩;rw [preSum_eq,List.take_of_length_le (by simp)]
    have:(List.map (fun x=>x.fst) l.toArray.toList)=ns:=hl.2
    rw [this,List.sum_eq_foldl]
theorem rng_ok {as:List V} {v:V} {cs:List Value} (r:Rel w.params hO σ μ s.heap) (va:VRs w.params s.heap μ as cs) (e:buiRng as σ=some (v,σ')):Ok prog w hO A (call (.type "range") cs) μ s v σ':=by
  unfold buiRng at e;revert e;cases h1:as1 as with
  | some b=>exact fun e=>bd e fun i hi e=>ifs e fun _ e=>sm2 e (VRs.o1 va h1 fun c hv=>VR.i (Aq hi▸hv:VR w.params s.heap μ (.int i) c) fun t=>Ok.mk fun Q E k=>call_range_1 (k _ _ μ (AD _ rfl rfl rfl) (r.push _) ⟨_,_,_,_,rfl,r.fresh,IsRange.new _ _ _ _ _ _ _⟩))
  | none=>
    cases h2:as2 as with
    | some p=>exact fun e=>bd e fun i hi e=>bd e fun j hj e=>ifs e fun _ e=>sm2 e (VRs.o2 va h2 fun c d hv hv'=>VR.i (Aq hi▸hv:VR w.params s.heap μ (.int i) c) fun t=>VR.i (Aq hj▸hv':VR w.params s.heap μ (.int j) d) fun u=>Ok.mk fun Q E k=>
      call_range_2 (k _ _ μ (AD _ rfl rfl rfl) (r.push _) ⟨_,_,_,_,rfl,r.fresh,IsRange.new _ _ _ _ _ _ _⟩))
    | none=>exact fun e=>bd e fun p hp e=>bd e fun i hi e=>bd e fun j hj e=>bd e fun l hl e=>ifs e fun h e=>sm2 e (VRs.o3 va hp fun c d f hv hv' hv2=>VR.i (Aq hi▸hv:VR w.params s.heap μ (.int i) c) fun t=>VR.i (Aq hj▸hv':VR w.params s.heap μ (.int j) d) fun u=>VR.i (Aq hl▸hv2:VR w.params s.heap μ (.int l) f) fun y=>Ok.mk fun Q E k=>by
      subst h;exact call_range_3 (by decide) (k _ _ μ (AD _ rfl rfl rfl) (r.push _) ⟨_,_,_,_,rfl,r.fresh,IsRange.new _ _ _ _ _ _ _⟩) (.inl rfl))
theorem ord_ok {a v:V} {c:Value} (r:Rel w.params hO σ μ s.heap) (va:VR w.params s.heap μ a c) (e:buiOrd a σ=some (v,σ')):Ok prog w hO A (call (.builtin "ord") [c]) μ s v σ':=
  bd e fun l hl e=>mpx e fun x hx=>VR.s (one_is hx▸A8 hl▸va:VR w.params s.heap μ (.str [x]) c) fun t=>Ok.plain r fun Q E k=>ord_of_one rfl (k _ _ ⟨_,rfl⟩)
theorem dkey_val {P:Params} {h:Heap} {kvs:List (Str×Value)} {vs:List V} (e:kvs.map (fun e=>V.str e.1.cps.toList)=vs) {i:Nat} {c:Value} {v:V} (hp:∃k x,kvs[i]? = some (k,x)/\(strKind prog w).is k c=true) (hx:vs[i]? = some v):VR P h μ v c:=by
  obtain ⟨k,x,h1,h2⟩:=hp;rw [<- e,List.getElem?_map,h1] at hx;cases hx;obtain ⟨t,rfl⟩:=Value.isStrOf_shape (show Value.isStrOf k c=true from h2);exact ⟨t,congrArg (fun z=>Value.str z t) (by obtain ⟨a⟩:=k;simp [S])⟩
theorem bui_ok {K:Frag} {T:Tab} (TK:TabOk prog w K hO T) {x:String} {as:List V} {cs:List Value} {v:V} (hh:A.handled=none) (r:Rel w.params hO σ μ s.heap) (va:VRs w.params s.heap μ as cs) (e:bui T x as σ=some (v,σ')) :
    Ok prog w hO A (call (buiV x) cs) μ s v σ':=
  ife e (fun q e=>q▸bd e fun a ha e=>VRs.o1 va ha fun c hv=>len_ok r hv e) fun _ e=>
  ife e (fun q e=>q▸bd e fun a ha e=>VRs.o1 va ha fun c hv=>ord_ok r hv e) fun _ e=>
  ife e (fun q e=>q▸bd e fun a ha e=>VRs.o1 va ha fun c hv=>sum_ok hh r hv e) fun _ e=>
  ife e (fun q e=>q▸rng_ok r va e) fun _ e=>nn e
end
end Mine
end
section
open PySem PySem.W PyProof.Rows PySem.Calls PySem.SeqAt
open PySem.Builtin.Str PySem.StrLaws
namespace Mine
section
variable {prog:Program} {w:World} {hO:Heap} {A:Around} {σ σ':St} {μ:Mu} {s:Shared} {E:Value->Shared->Prop}
noncomputable def bid:V->String->String
  | .str _,n=>"str."++n
  | _,n=>"list."++n
theorem CB (r:Rel w.params hO σ μ s.heap) {i:Nat} {p:Addr×Addr} {vs:List V} {cvs:List Value} {n:Nat} {h':Heap} (hp:μ.ps[i]? = some p) (h1:p.1=p.2) (hs:Heap.SameBut p.2 s.heap h') (hl:IsL h' p.2 cvs.toArray n) (hv:VRs w.params s.heap μ vs cvs) :
    Rel w.params hO (σ.set i (.list vs)) μ h'/\Step μ s μ { s with heap:=h' }/\Kp μ s.heap μ h':=by
  have st:Step μ s μ { s with heap:=h' }:=Ej hp hs rfl rfl
  exact ⟨r.upd hp hs ⟨h1,cvs,n,hl,hv.kp st.kp⟩,st,st.kp⟩
theorem as3_is {as:List V} {p:V×V×V} (e:as3 as=some p):as=[p.1,p.2.1,p.2.2]:=match as,e with
  | _::_,e=>mp e fun b h=>congrArg _ (DG h)
@[elab_as_elim] theorem VRs.up {P:Params} {h:Heap} {as:List V} {p:V×V×V} {q:Nat×Nat} {cs:List Value} {Z:List Value->Nat×Nat->Prop} (r:VRs P h μ as cs) (e:as3 as=some p) (e2:upTo p=some q) (z:∀c k t1 t2 t3,Z [.str (S [c]) t1,.int 0 t2,.int (k:Nat) t3] (c,k)):Z cs q:=
  bd e2 fun l hl e2=>bd e2 fun c hc e2=>bd e2 fun y hy e2=>bd e2 fun k hk e2=>ifs e2 fun hz e2=>sme e2 (VRs.c (as3_is e▸r:VRs P h μ [p.1,p.2.1,p.2.2] cs) fun c1 _ v1 r=>VRs.c r fun c2 _ v2 r=>VRs.c r fun c3 _ v3 r=>VRs.n r
    (VR.s (one_is hc▸A8 hl▸v1:VR P h μ (.str [c]) c1) fun t1=>VR.i ((Aq hy).trans (congrArg V.int hz.1)▸v2:VR P h μ (.int 0) c2) fun t2=>VR.i ((Aq hk).trans (congrArg V.int (Int.toNat_of_nonneg hz.2.1).symm)▸v3:VR P h μ (.int (k.toNat:Nat)) c3) fun t3=>z c k.toNat t1 t2 t3))
theorem count_ok {l:List Nat} {t:Tok} {as:List V} {cs:List Value} {v:V} (r:Rel w.params hO σ μ s.heap) (va:VRs w.params s.heap μ as cs) (e:bCount l as σ=some (v,σ')):Ok prog w hO A (call (.builtin "str.count") (.str (S l) t::cs)) μ s v σ':=by
  exact bd e fun p hp e=>mpx e fun q hq=>VRs.up va hp hq fun c k t1 t2 t3=>Ok.plain r fun Q E k=>Ep (k _ _ ⟨_,rfl⟩)
theorem rfind_ok {l:List Nat} {t:Tok} {as:List V} {cs:List Value} {v:V} (r:Rel w.params hO σ μ s.heap) (va:VRs w.params s.heap μ as cs) (e:bRfind l as σ=some (v,σ')):Ok prog w hO A (call (.builtin "str.rfind") (.str (S l) t::cs)) μ s v σ':=
  bd e fun p hp e=>mpx e fun q hq=>VRs.up va hp hq fun c k t1 t2 t3=>Ok.plain r fun Q E k=>Er (k _ _ ⟨_,rfl⟩)
theorem join_ok {l:List Nat} {t:Tok} {a v:V} {c:Value} (r:Rel w.params hO σ μ s.heap) (va:VR w.params s.heap μ a c) (e:bJoin l a σ=some (v,σ')):Ok prog w hO A (call (.builtin "str.join") [.str (S l) t,c]) μ s v σ':=
  bd e fun vs hl e=>ifs e fun h0 e=>bd e fun ss hss e=>ifs e fun hz e=>sm2 e (h0▸Rel.lo r va hl fun a cvs n ho hvs=>Ok.plain r fun Q E k=>H0 ho hvs hss hz fun t' tk=>k _ _ ⟨_,rfl⟩)
theorem app_ok {p:Addr×Addr} {i n:Nat} {vs:List V} {cvs:List Value} {a v:V} {c:Value} (r:Rel w.params hO σ μ s.heap) (hp:μ.ps[i]? = some p) (h1:p.1=p.2) (hl:IsL s.heap p.1 cvs.toArray n) (hvs:VRs w.params s.heap μ vs cvs) (va:VR w.params s.heap μ a c) (e:bApp i vs a σ=some (v,σ')):Ok prog w hO A (call (.builtin "list.append") [.ref p.1,c]) μ s v σ':=by
  refine ifs e fun hz e=>sm2 e <| Ok.mk fun Q E k=>append_at (hsz:=by rw [List.size_toArray,hvs.len,<- A2];exact Nat.le_of_lt hz) hl fun h' hs ho'=>?_
  rw [List.push_toArray] at ho';have z:=CB r hp h1 (h1▸hs) (h1▸ho') (hvs.append (VRs.one va));exact k _ _ μ z.2.1 z.1 rfl
theorem H6 (cvs:List Value):cvs.toArray.eraseIdxIfInBounds (cvs.toArray.size - 1)=cvs.dropLast.toArray:=by
  rw [List.size_toArray];apply Array.toList_inj.mp;rw [Array.toList_eraseIdxIfInBounds];exact List.eraseIdx_length_sub_one
theorem pop_ok {p:Addr×Addr} {i n:Nat} {vs as:List V} {cvs cs:List Value} {v:V} (r:Rel w.params hO σ μ s.heap) (hp:μ.ps[i]? = some p) (h1:p.1=p.2) (hl:IsL s.heap p.1 cvs.toArray n) (hvs:VRs w.params s.heap μ vs cvs) (va:VRs w.params s.heap μ as cs) (e:bPop i vs as σ=some (v,σ')):Ok prog w hO A (call (.builtin "list.pop") (.ref p.1::cs)) μ s v σ':=by
  refine ifs e fun hz e=>mpx (g:=fun x=>x) e fun x hx=>?_
  refine VRs.n (List.isEmpty_iff.mp hz.1▸va:VRs w.params s.heap μ [] cs) ?_
  rw [List.getLast?_eq_getElem?] at hx;refine (hvs.get hx).elim fun cx hcx=>Ok.mk fun Q E k=>?_
  refine call_meets F.slot_list_pop ⟨_,hl,rfl⟩ F.entry_list_pop (F.args_list_pop_1 _) (PySem.MeetsSeq.list_pop_last p.1 cvs.toArray n cx (by rw [List.size_toArray,hvs.len,List.getElem?_toArray];exact hcx.1) (by rw [List.size_toArray,hvs.len,<- A2];exact hz.2)) ⟨hl,?_⟩
  have hu:=Heap.get?_update_self (h:=s.heap) (Obj.mapSeq fun xs=>xs.eraseIdxIfInBounds (cvs.toArray.size - 1)) hl rfl
  have ho2:∃n2,IsL (s.heap.update p.1 (Obj.mapSeq fun xs=>xs.eraseIdxIfInBounds (cvs.toArray.size - 1))) p.1 cvs.dropLast.toArray n2:=by
    simp only [Obj.mapSeq] at hu ⊢;simp only [H6] at hu;exact ⟨_,hu⟩
  refine ho2.elim fun n2 ho2=>?_
  have hd:VRs w.params s.heap μ vs.dropLast cvs.dropLast:=by
    rw [List.dropLast_eq_take,List.dropLast_eq_take,hvs.len];exact hvs.take _
  have hs:Heap.SameBut p.2 s.heap (s.heap.update p.1 (Obj.mapSeq fun xs=>xs.eraseIdxIfInBounds (cvs.toArray.size - 1))):=by rw [<- h1];exact Heap.SameBut.update ..
  have z:=CB r hp h1 hs (by rw [<- h1];exact ho2) hd
  exact k _ _ μ z.2.1 z.1 (hcx.2.kp z.2.2)
theorem H7 (l y:List Nat):PySem.Txt.startswith (S l) (S y)=y.isPrefixOf l:=by
  rw [Bool.eq_iff_iff];unfold PySem.Txt.startswith;rw [Bool.and_eq_true,decide_eq_true_iff];exact E8 l y 0 (Nat.zero_le _)
theorem H8 {l:List Nat} {t:Tok} {a v:V} {c:Value} (r:Rel w.params hO σ μ s.heap) (va:VR w.params s.heap μ a c) (e:((asS a).map fun x=>(V.bool (x.isPrefixOf l),σ))=some (v,σ')):Ok prog w hO A (call (.builtin "str.startswith") [.str (S l) t,c]) μ s v σ':=by
  refine mpx (g:=fun x:List Nat=>V.bool (x.isPrefixOf l)) e fun x hx=>?_
  refine VR.s (A8 hx▸va:VR w.params s.heap μ (.str x) c) fun u=>Ok.plain r fun Q E k=>SC.startswith ?_
  rw [H7];exact k _ _ rfl
theorem bmet_ok {o v:V} {n:String} {as:List V} {co:Value} {cs:List Value} (r:Rel w.params hO σ μ s.heap) (vo:VR w.params s.heap μ o co) (va:VRs w.params s.heap μ as cs) (e:bmet o n as σ=some (v,σ')) :
    Ok prog w hO A (call (.builtin (bid o n)) (co::cs)) μ s v σ':=by
  cases o with
  | str l=>
    exact ifs e fun hz e=>VR.s vo fun t=>
      ife e (fun q e=>q▸count_ok r va e) fun _ e=>
      ife e (fun q e=>q▸rfind_ok r va e) fun _ e=>
      ife e (fun q e=>q▸bd e fun a ha e=>VRs.o1 va ha fun c hv=>join_ok r hv e) fun _ e=>
      ife e (fun q e=>q▸bd e fun a ha e=>VRs.o1 va ha fun c hv=>H8 r hv e) fun _ e=>nn e
  | obj i=>
    exact bd e fun vs ho e=>Rel.ol r vo (Cg ho) fun p cvs n' hp h1 hl hvs=>
      ife e (fun q e=>q▸bd e fun a ha e=>VRs.o1 va ha fun c hv=>app_ok r hp h1 hl hvs hv e) fun _ e=>
      ife e (fun q e=>q▸pop_ok r hp h1 hl hvs va e) fun _ e=>nn e
  | _=>exact nn e
end
end Mine
end
section
open PySem PySem.W PyProof.Rows PySem.Calls PySem.SeqAt
namespace Mine
theorem Ch {a b:String} (h:Str.ofString a=Str.ofString b):a=b:=by
  rw [Str.ofString_eq_toList,Str.ofString_eq_toList] at h;injection h with h
  have h':a.toList.map Char.toNat=b.toList.map Char.toNat:=by simpa using h
  have key:∀(x y:List Char),x.map Char.toNat=y.map Char.toNat->x=y:=by
    intro x
    induction x with
    | nil=>intro y h;cases y with | nil=>rfl | cons _ _=>cases h
    | cons c x ih=>
      intro y h;cases y with
      | nil=>cases h
      | cons d y=>
        rw [List.map_cons,List.map_cons] at h;injection h with h1 h2
        rw [ih y h2,Char.ext (UInt32.toNat_inj.mp h1)]
  exact String.ext (key _ _ h')
theorem Dh (a b:String) (t:Tok):(Value.str (Str.ofString a) t).isStr (Str.ofString b)=decide (a=b):=by
  have h1:(Value.str (Str.ofString a) t).isStr (Str.ofString b)=decide (Str.ofString a=Str.ofString b):=by
    rw [Bool.eq_iff_iff];simp [Value.isStr]
  rw [h1]
  by_cases h:a=b
  . simp [h]
  . have:¬Str.ofString a=Str.ofString b:=fun q=>h (Ch q)
    simp [h,this]
section
variable {P:Params} {h:Heap} {μ:Mu}
theorem H9 {P:Params} (k n:String) (t:Tok) (c:Value) (q:List DictEntry):getL (Str.ofString n) (⟨PyData.keyHash P (Str.ofString k),.str (Str.ofString k) t,c⟩::q)=if k=n then some (some c) else getL (Str.ofString n) q:=by
  unfold getL;rw [List.find?_cons];simp only [Dh,List.any_cons]
  by_cases hk:k=n
  . simp [hk]
  . have:({ hash:=PyData.keyHash P (Str.ofString k),key:=.str (Str.ofString k) t,val:=c }:DictEntry).refKey=false:=rfl
    simp [hk,this]
theorem lk_hit' {k n:String} {v:V} {fs:L} (h:k=n):lk ((k,v)::fs) n=some v:=if_pos h
theorem lk_miss' {k n:String} {v:V} {fs:L} (h:¬k=n):lk ((k,v)::fs) n=lk fs n:=if_neg h
theorem VRf.get:∀{fs:List (String×V)} {ces:List DictEntry},VRf P h μ fs ces->∀n:String,(lk fs n=none/\getL (Str.ofString n) ces=some none)∨∃v c,lk fs n=some v/\getL (Str.ofString n) ces=some (some c)/\VR P h μ v c
  | [],_,r,n=>VRf.n r (.inl ⟨rfl,rfl⟩)
  | (k,v)::fs,_,r,n=>VRf.c r fun t c q hv hr=>by
    rw [H9]
    by_cases hk:k=n
    . rw [lk_hit' hk,if_pos hk];exact .inr ⟨v,c,rfl,rfl,hv⟩
    . rw [lk_miss' hk,if_neg hk];exact hr.get n
theorem VRf.no {fs:List (String×V)} {ces:List DictEntry} (r:VRf P h μ fs ces) {n:String} (e:lk fs n=none):getL (Str.ofString n) ces=some none:=
  (r.get n).elim (·.2) fun h=>h.elim fun v h=>h.elim fun c h=>nn (e.symm.trans h.1)
theorem VRf.yes {fs:List (String×V)} {ces:List DictEntry} (r:VRf P h μ fs ces) {n:String} {v:V} (e:lk fs n=some v) {Z:Prop} (k:∀c,getL (Str.ofString n) ces=some (some c)->VR P h μ v c->Z):Z:=
  (r.get n).elim (fun h=>nn (h.1.symm.trans e)) fun h=>h.elim fun u h=>h.elim fun c h=>k c h.2.1 (Option.some.inj (h.1.symm.trans e)▸h.2.2)
theorem VRf.put {n:String} {v:V} {c:Value} {t:Tok} (hv:VR P h μ v c):∀{fs:List (String×V)} {ces:List DictEntry},VRf P h μ fs ces->VRf P h μ (put fs n v) (putL (Str.ofString n) (PyData.keyHash P (Str.ofString n)) (.str (Str.ofString n) t) c ces)
  | [],_,r=>VRf.n r ⟨t,c,[],rfl,hv,rfl⟩
  | (k,u)::fs,_,r=>VRf.c r fun t' d q hu hr=>by
    unfold Mine.put putL;simp only [Dh,decide_eq_true_eq]
    by_cases hk:k=n
    . rw [if_pos hk,if_pos hk];subst hk;exact ⟨t',c,q,rfl,hv,hr⟩
    . rw [if_neg hk,if_neg hk];exact ⟨t',d,_,rfl,hu,hr.put hv⟩
theorem VRf.len:∀{fs:List (String×V)} {ces:List DictEntry},VRf P h μ fs ces->ces.length=fs.length
  | [],_,r=>VRf.n r rfl
  | _::fs,_,r=>VRf.c r fun _ _ r _ hr=>congrArg (· + 1) (VRf.len (fs:=fs) hr)
theorem VRd.put {n:List Nat} {v:V} {c:Value} {t:Tok} (hv:VR P h μ v c):∀{fs:List (List Nat×V)} {ces:List DictEntry},VRd P h μ fs ces->VRd P h μ (putD fs n v) (putL (S n) (PyData.keyHash P (S n)) (.str (S n) t) c ces)
  | [],_,r=>VRd.n r ⟨t,c,[],rfl,hv,rfl⟩
  | (k,u)::fs,_,r=>VRd.c r fun t' d q hu hr=>by
    unfold Mine.putD putL;simp only [DB,decide_eq_true_eq]
    by_cases hk:k=n
    . rw [if_pos hk,if_pos hk];subst hk;exact ⟨t',c,q,rfl,hv,hr⟩
    . rw [if_neg hk,if_neg hk];exact ⟨t',d,_,rfl,hu,hr.put hv⟩
end
theorem AO {P:Params} {h:Heap} {μ:Mu} {v:V} {c:Value} (r:VR P h μ v c):handedIn c=true:=by
  cases v with
  | none=>exact (show c=.none from r).symm▸rfl
  | bool b=>exact (show c=.bool b from r).symm▸rfl
  | int i=>exact VR.i r fun _=>rfl
  | str i=>exact VR.s r fun _=>rfl
  | tup vs=>exact VR.t r fun _ _ _ _ _=>rfl
  | lst vs=>exact VR.l r fun _ _ _ _ _ _=>rfl
  | dct es=>exact VR.d r fun _ _ _ _ _ _ _ _=>rfl
  | rng a b c=>exact VR.r r fun _ _ _ _ _ _=>rfl
  | obj i=>exact VR.o r fun _ _=>rfl
  | meth f i=>exact VR.m r fun _ _ _ _ _=>rfl
  | stat a=>exact (show c=.ref a from r).symm▸rfl
  | junk=>exact r
section
variable {prog:Program} {w:World} {K:Frag} {hO:Heap} {T:Tab} {A:Around} {σ σ':St} {μ:Mu} {s:Shared}
theorem Rel.X (TK:TabOk prog w K hO T) (r:Rel w.params hO σ μ s.heap):K.In s.heap:=fun b o e=>r.keep b o (TK.X b o e)
@[elab_as_elim] theorem Rel.oi {Z:Value->Prop} (r:Rel w.params hO σ μ s.heap) {i:Nat} {C:Addr} {fs:List (String×V)} {co:Value} (vo:VR w.params s.heap μ (.obj i) co) (e:σ[i]? = some (.inst C fs))
    (z:∀p ces n,μ.ps[i]? = some p->InstAt s.heap p.1 (instObj C p.2) C (some (dictOf ces n))->p.1∉cells μ->s.heap.get? p.2=some (dictOf ces n)->VRf w.params s.heap μ fs ces->Z (.ref p.1)):Z co:=
  VR.o vo fun p hp=>have h:=r.ob e hp;h.2.2.elim fun ces h'=>h'.elim fun n h'=>z p ces n hp ⟨h.1,rfl,rfl,h'.1⟩ h.2.1 h'.1 h'.2
theorem attrI_ok (TK:TabOk prog w K hO T) {i:Nat} {C:Addr} {fs:L} {v:V} {n:String} {p:Addr×Addr} {ces:List DictEntry} {k:Nat} {expr:Bool} (r:Rel w.params hO σ μ s.heap) (hp:μ.ps[i]? = some p) (I:InstAt s.heap p.1 (instObj C p.2) C (some (dictOf ces k))) (hf:VRf w.params s.heap μ fs ces) (e:attrI T i C fs n=some v) :
    Ok prog w hO A (getAttr (.ref p.1) (Str.ofString n) expr) μ s v σ:=by
  unfold attrI at e;revert e;cases hx:lk fs n with
  | some x=>exact fun e=>ifs e fun hdat e=>sme e (have d:=TK.dat _ _ hdat;hf.yes hx fun c q2 q3=>Ok.plain r fun Q E kk=>get_value (r.X TK) I (plainGet_of d.1).1 (findObj_own d.2.1 d.2.2.1 rfl q2) (AO q3) (kk _ _ q3))
  | none=>
    have hl:=hf.no hx;dsimp only;cases hc:T.cattr C n with
    | some x=>exact fun e=>sme e (have d:=TK.cattr _ _ _ hc;d.2.2.2.elim fun a d'=>Ok.plain r fun Q E kk=>get_value (r.X TK) I (plainGet_of d.1).1 (findObj_cls d.2.1 d'.1 d'.2.1 (AO (d'.2.2.here r)) d.2.2.1 hl) (AO (d'.2.2.here r)) (kk _ _ (d'.2.2.here r)))
    | none=>
      refine fun e=>mp e fun f hm=>?_
      have d:=TK.meth _ _ _ hm
      have hfind:findObj K C (some (dictOf ces k)) (Str.ofString n)=some (.bind (.builtin "function.__get__") (.ref f)):=by
        obtain ⟨cd,hc,hd'⟩:=any_some d.2.1;unfold findObj;rw [hc,Option.bind_some,d.2.2.1,Option.bind_some];have hown:PySem.W.ownOf cd (some (dictOf ces k)) (Str.ofString n)=some none:=by unfold PySem.W.ownOf;rw [if_pos hd'];exact hl
        simp only [d.2.2.2.2.1,d.2.2.2.2.2.1,Option.bind_some,hown,d.2.2.2.2.2.2,Bool.false_and,Bool.false_eq_true,if_false]
      refine Ok.mk fun Q E kk=>?_
      refine get_bind (r.X TK) I (plainGet_of d.1).1 hfind (plainGet_of d.1).2 (wpAny_call (fn_get (s:={ s with toks:=s.toks+1 }) (r.X TK) (beq_iff_eq.mp d.2.2.2.1) ?_))
      exact handed_on rfl (kk _ _ μ (AD _ rfl rfl rfl) (r.push _) ⟨_,p,hp,rfl,r.fresh,Heap.get?_push_size _ rfl⟩)
theorem GI (TK:TabOk prog w K hO T) {o v:V} {n:String} {co:Value} {expr:Bool} (r:Rel w.params hO σ μ s.heap) (vo:VR w.params s.heap μ o co) (e:attrV T o n σ=some v) :
    Ok prog w hO A (getAttr co (Str.ofString n) expr) μ s v σ:=by
  cases o with
  | obj i=>exact bd e fun q ho e=>Rel.oi r vo (GB ho) fun p ces k hp I _ _ hf=>attrI_ok TK r hp I hf e
  | stat a=>
    rw [show co=.ref a from vo]
    exact (TK.sattr _ _ _ e).elim fun C d=>d.elim fun dx d=>d.elim fun sl d=>d.elim fun es d=>d.elim fun k d=>d.elim fun v' d=>
      Ok.plain r fun Q E kk=>get_value (r.X TK) (InstAt.of_K (r.X TK) d.1 d.2.1) (plainGet_of d.2.2.1).1 (findObj_own d.2.2.2.1 d.2.2.2.2.1 rfl d.2.2.2.2.2.1) (AO (d.2.2.2.2.2.2.here r)) (kk _ _ (d.2.2.2.2.2.2.here r))
  | _=>exact nn e
end
section
variable {prog:Program} {w:World} {K:Frag} {hO:Heap} {T:Tab} {A:Around} {σ σ':St} {μ:Mu} {s:Shared}
noncomputable def OkU (prog:Program) (w:World) (hO:Heap) (A:Around) (t:Sem Unit) (μ:Mu) (s:Shared) (σ':St):Prop:=
  ∀(Q:Unit->Shared->Prop) (E:Value->Shared->Prop),(∀s' μ',Step μ s μ' s'->Rel w.params hO σ' μ' s'.heap->s.toks<=s'.toks->Q () s')->wpAny (model prog w) A t Q E s
theorem OkU.mk {prog:Program} {w:World} {hO:Heap} {A:Around} {t:Sem Unit} {μ:Mu} {s:Shared} {σ':St} (h:∀(Q:Unit->Shared->Prop) (E:Value->Shared->Prop),(∀s' μ',Step μ s μ' s'->Rel w.params hO σ' μ' s'.heap->Q () s')->wpAny (model prog w) A t Q E s):OkU prog w hO A t μ s σ':=
  fun _ _ k=>Ah (h _ _ fun s' μ' st r tk=>k s' μ' st r tk)
theorem inst_upd (r:Rel w.params hO σ μ s.heap) {i:Nat} {C:Addr} {fs':List (String×V)} {p:Addr×Addr} {ces':List DictEntry} {k:Nat} {h':Heap} {tk:Tok} (hp:μ.ps[i]? = some p) (h1:s.heap.get? p.1=some (instObj C p.2)) (h2:p.1∉cells μ)
    (hs:Heap.SameBut p.2 s.heap h') (hd:h'.get? p.2=some (dictOf ces' k)) (hv:VRf w.params s.heap μ fs' ces') :
    Rel w.params hO (σ.set i (.inst C fs')) μ h'/\Step μ s μ { s with heap:=h',toks:=tk }:=by
  have st:Step μ s μ { s with heap:=h',toks:=tk }:=Ej hp hs rfl rfl
  exact ⟨r.upd hp hs ⟨(st.kp.off _ _ h2 h1).2,h2,ces',k,hd,hv.kp st.kp⟩,st⟩
theorem Ia {n:String} {ces:List DictEntry} (hl:(getL (Str.ofString n) ces).isSome=true):(!ces.toArray.any (·.key.isStr (Str.ofString n))&&ces.toArray.any (·.refKey))=false:=by
  rw [<- Array.any_toList,<- Array.any_toList];unfold getL at hl;split at hl
  . rename_i en he;rw [List.any_eq_true.mpr ⟨en,List.mem_of_find?_eq_some he,List.find?_some he⟩];rfl
  . split at hl
    . cases hl
    . rename_i z;rw [Bool.not_eq_true] at z;rw [z,Bool.and_false]
theorem VRf.isSome {P:Params} {h:Heap} {fs:List (String×V)} {ces:List DictEntry} (r:VRf P h μ fs ces) (n:String):(getL (Str.ofString n) ces).isSome=true:=
  (r.get n).elim (fun h=>by rw [h.2];rfl) fun h=>h.elim fun v h=>h.elim fun c h=>by rw [h.2.1];rfl
theorem GJ (TK:TabOk prog w K hO T) {o v:V} {n:String} {co cv:Value} (r:Rel w.params hO σ μ s.heap) (vo:VR w.params s.heap μ o co) (vv:VR w.params s.heap μ v cv) (e:setA T o n v σ=some σ') :
    OkU prog w hO A (setAttr co (Str.ofString n) cv) μ s σ':=by
  cases o with
  | obj i=>
    refine bd e fun q ho e=>ifs e fun hc e=>sme e (Rel.oi r vo (GB ho) fun p ces k hp I hoff hd hf=>OkU.mk fun Q E kk=>?_)
    have d:=TK.dat _ _ hc.1;have X:=r.X TK;have ht:takerIn K q.1 (Str.ofString n)=some none:=by unfold takerIn;rw [d.2.2.1];rfl
    refine set_plain X I d.2.2.2.1 (osa_open (s:={ s with toks:=s.toks+1 }) X I d.2.2.2.2 ht fun b=>?_)
    refine (any_some d.2.1).elim fun cd hcd=>?_
    refine wpAny_bind (wpAny_pure (wpAny_bind (wpAny_bind (wpAny_loadPart I.at_ ?_))));dsimp only;refine wpAny_bind (Looks.here (s:={ s with toks:=s.toks+1 }) (looks_clsIn X hcd.1) ?_)
    rw [hcd.2];refine wpAny_pure (a:=some p.2) (wpAny_bind (wpAny_pure (wpAny_bind ?_)));unfold nsSet;refine wpAny_bind (wpAny_bind (wpAny_askSetting (wpAny_pure (wpAny_bind (wpAny_mkText (wpAny_bind (wpAny_loadPart hd ?_)))))));dsimp only;rw [aRefKeyMayBeTheName_at,Ia (hf.isSome n)];have hput:=putName_dict (Str.ofString n) (PyData.keyHash w.params (Str.ofString n)) (.str (Str.ofString n) (s.toks+1)) cv ces k;have hU:=Heap.get?_update_self (Obj.putName (Str.ofString n) (PyData.keyHash w.params (Str.ofString n)) (.str (Str.ofString n) (s.toks+1)) cv) hd (by rw [hput];rfl)
    rw [hput] at hU;have hv':=hf.put (n:=n) (t:=s.toks+1) vv;refine wpAny_updatePart hd (wpAny_bind (wpAny_lookBehind hU (pastItsLine_dict ?_) (wpAny_pure ?_)))
    . rw [List.size_toArray,hv'.len,sizeLine_eq];exact Nat.le_trans hc.2 (by decide)
    have z:=inst_upd (tk:=s.toks+1+1) r hp I.at_ hoff (Heap.SameBut.update ..) hU hv';exact kk _ μ z.2 z.1
  | _=>exact nn e
theorem C9 {d:Addr} {ces:List DictEntry} {n:Nat} {x:Str} {t:Tok} {v:Value} {Q:Unit->Shared->Prop} {E:Value->Shared->Prop} (ho:s.heap.get? d=some (dictOf ces n)) (hk:StrK ces) (hz:ces.length<=sizeLine)
    (h:∀h' n',Heap.SameBut d s.heap h'->h'.get? d=some (dictOf (putL x (PyData.keyHash w.params x) (.str x t) v ces) n')->Q () { s with heap:=h',toks:=s.toks+1 }) :
    wpAny (model prog w) A (dictSet d (.str x t) v) Q E s:=by
  unfold dictSet
  try with_reducible refine wpAny_holding ?_
  refine wpAny_bind ((strKind prog w).pyHash (k:=x) (strKind_is prog w x t) ?_);unfold dictSetHashed
  try with_reducible refine wpAny_holding ?_
  refine wpAny_bind (find_str (s:={ s with toks:=s.toks+1 }) ho hk ?_)
  have hp:=putL_find x (PyData.keyHash w.params x) (.str x t) v ces;cases hi:ces.findIdx? fun e=>e.key.isStr x with
  | some i=>
    rw [hi] at hp;refine wpAny_bind (wpAny_rule (wpAny_bind (wpAny_updateDict (s:={ s with toks:=s.toks+1 }) ho rfl (wpAny_point (h _ n (Heap.SameBut.update ..) ?_)))))
    refine (Heap.get?_update_self _ ho rfl).trans ?_
    have e2:ces.toArray.modify i (fun e=>{ e with val:=v })=(putL x (PyData.keyHash w.params x) (.str x t) v ces).toArray:=by
      rw [<- hp];simp
    show some ({ cls:=.type "dict",data:=.dict (ces.toArray.modify i fun e=>{ e with val:=v }) n }:Obj)=_
    rw [e2]
  | none=>
    rw [hi] at hp;refine wpAny_bind (wpAny_rule (wpAny_updateDictKeys (hz:=by rw [List.size_toArray];exact hz) (s:={ s with toks:=s.toks+1 }) ho rfl (h _ (n+1) (Heap.SameBut.update ..) ?_)))
    refine (Heap.get?_update_self _ ho rfl).trans ?_
    have e2:ces.toArray.push ⟨(strKind prog w).hash x,.str x t,v⟩=(putL x (PyData.keyHash w.params x) (.str x t) v ces).toArray:=by
      rw [<- hp];simp;rfl
    show some ({ cls:=.type "dict",data:=.dict (ces.toArray.push ⟨(strKind prog w).hash x,.str x t,v⟩) (n+1) }:Obj)=_;rw [e2]
theorem Bq {l:Addr} {cvs:List Value} {n:Nat} {k:Int} {j:Nat} {t:Tok} {v:Value} {Q:Unit->Shared->Prop} {E:Value->Shared->Prop} (hl:IsL s.heap l cvs.toArray n) (h0:0<=k) (hk2:k<=1000000000)
    (hj:idx? k cvs.length=some j) (h:∀h',Heap.SameBut l s.heap h'->(∃n2,IsL h' l (cvs.set j v).toArray n2)->Q () { s with heap:=h' }) :
    wpAny (model prog w) A (setItem (.ref l) (.int k t) v) Q E s:=by
  have hT:s.TypeIs (.ref l) "list":=⟨_,hl,rfl⟩;have hd:({ cls:=.type "list",data:=.seq cvs.toArray n }:Obj).data=.seq cvs.toArray n:=rfl;unfold setItem
  try with_reducible refine wpAny_holding ?_
  first | refine wpAny_bind (wpAny_pure ?_) | skip
  refine wpAny_bind (wpAny_sequenceKey hT (by decide) ?_)
  refine wpAny_bind (wpAny_callSpecial?_slot (name:=Str.ofString "__setitem__") hT slot_list_setitem
    (wpAny_call_entry slot_list_setitem hT entry_list_setitem ?_ (args_list_setitem _ _ _)))
  show wpAny _ _ (PySem.Builtin.List.listSubscript? (.int k t)>>=_) _ _ s;refine wpAny_bind (wpAny_listSubscript_int (fitsIndex_of h0 (by exact Int.lt_of_le_of_lt (by assumption) (by decide))) ?_)
  obtain ⟨i,rfl⟩:=Int.eq_ofNat_of_zero_le h0
  have hji:j=i:=by
    unfold idx? at hj;rw [if_pos h0] at hj;split at hj
    . simpa using hj.symm
    . cases hj
  subst hji;have hlt:=idx_lt hj;have hx':cvs.toArray[j]? = some (cvs.toArray[j]'(by simpa using hlt)):=Array.getElem?_eq_getElem _
  show wpAny _ _ ((seqItemAt l j>>=fun r=>pure (r.map (j,·)))>>=_) _ _ s
  refine wpAny_bind (wpAny_bind (wpAny_seqItemAt hl hd (wpAny_pure ?_)));rw [hx'];show wpAny _ _ (setSeqItemAt l j v>>=_) _ _ s
  have hfin:∃n2,IsL (s.heap.update l (Obj.mapSeq (·.setIfInBounds j v))) l (cvs.set j v).toArray n2:=by
    have hu:=Heap.get?_update_self (h:=s.heap) (Obj.mapSeq fun xs=>xs.setIfInBounds j v) hl rfl
    simp only [Obj.mapSeq] at hu ⊢;have e3:cvs.toArray.setIfInBounds j v=(cvs.set j v).toArray:=by simp
    simp only [e3] at hu;exact ⟨_,hu⟩
  refine wpAny_bind (wpAny_setSeqItemAt hl hd ?_)
  first
    | exact wpAny_bind (wpAny_pure (wpAny_pure ⟨.none,rfl,wpAny_pure (h _ (Heap.SameBut.update ..) hfin)⟩))
    | exact wpAny_pure ⟨.none,rfl,wpAny_pure (h _ (Heap.SameBut.update ..) hfin)⟩
theorem setI_ok {o q v:V} {co cq cv:Value} (r:Rel w.params hO σ μ s.heap) (vo:VR w.params s.heap μ o co) (vq:VR w.params s.heap μ q cq) (vv:VR w.params s.heap μ v cv) (e:setI o q v σ=some σ') :
    OkU prog w hO A (setItem co cq cv) μ s σ':=by
  cases o with
  | obj i=>
    refine bd e fun o ho e=>?_
    cases o with
    | list vs=>
      refine bd e fun k hk e=>ifs e fun hz e=>mp e fun j hj=>Rel.ol r vo ho fun p cvs n hp h1 hl hvs=>VR.i (Aq hk▸vq:VR w.params s.heap μ (.int k) cq) fun t=>OkU.mk fun Q E kk=>?_
      have hz2:=hz.2.1;unfold half at hz2;rw [<- hvs.len] at hj
      exact Bq hl hz.1 hz2 hj fun h' hs hn=>hn.elim fun n2 ho2=>by
        have z:=CB r hp h1 (h1▸hs) (by rw [<- h1];exact ho2) (hvs.set j vv)
        exact kk _ μ z.2.1 z.1
    | _=>exact nn e
  | _=>exact nn e
end
noncomputable def KwR (P:Params) (h:Heap) (μ:Mu):List (String×V)->List (Str×Value)->Prop
  | [],ks=>ks=[]
  | e::es,ks=>∃c r,ks=(Str.ofString e.1,c)::r/\VR P h μ e.2 c/\KwR P h μ es r
noncomputable def FF (A:Around) (μ:Mu) (h:Heap):Prop:=∃l,A.frames=some l/\∀env∈l,env.scope.kind≠.module/\∃L,env.frame=some L/\L∈μ.ex/\∃o,h.get? L=some o/\Hd o
theorem FF.mono {A:Around} {μ μ':Mu} {h h':Heap} (x:FF A μ h) (k:∀L o,L∈μ.ex->h.get? L=some o->Hd o->L∈μ'.ex/\∃o',h'.get? L=some o'/\Hd o'):FF A μ' h':=by
  obtain ⟨l,e,f⟩:=x;refine ⟨l,e,fun env he=>?_⟩
  obtain ⟨h1,L,h2,h3,o,h4,h5⟩:=f env he;obtain ⟨h6,h7⟩:=k L o h3 h4 h5;exact ⟨h1,L,h2,h6,h7⟩
theorem FF.keep {A:Around} {μ μ':Mu} {h h':Heap} (x:FF A μ h) (k1:∀L,L∈μ.ex->L∈μ'.ex) (k:∀L o,L∈μ.ex->h.get? L=some o->h'.get? L=some o):FF A μ' h':=x.mono fun L o m e d=>⟨k1 L m,o,k L o m e,d⟩
theorem FF.around {A A':Around} {μ:Mu} {h:Heap} (x:FF A μ h) (e:A'.frames=A.frames):FF A' μ h:=x.elim fun l y=>⟨l,e.trans y.1,y.2⟩
theorem FF.step {A:Around} {P:Params} {hO:Heap} {σ:St} {μ μ':Mu} {s s':Shared} (x:FF A μ s.heap) (r:Rel P hO σ μ s.heap) (st:Step μ s μ' s'):FF A μ' s'.heap:=x.mono fun L o m e d=>
  ⟨st.ex▸m,(st.keep L o (fun q=>(List.nodup_append.mp r.nodup).2.2 _ q _ m rfl) e).h d⟩
structure Gk (A:Around) (μ:Mu) (s:Shared):Prop where
  gens:s.gens=#[]
  toks:0 < s.toks
  ff:FF A μ s.heap
theorem Gk.step {A:Around} {P:Params} {hO:Heap} {σ:St} {μ μ':Mu} {s s':Shared} (x:Gk A μ s) (r:Rel P hO σ μ s.heap) (st:Step μ s μ' s') (tk:s.toks<=s'.toks):Gk A μ' s':=
  ⟨st.gens.trans x.gens,Nat.lt_of_lt_of_le x.toks tk,x.ff.step r st⟩
noncomputable def CallsOk (prog:Program) (w:World) (hO:Heap) (C:Calls) (n:Nat):Prop:=
  ∀f vs kw σ v σ',C f vs kw σ=some (v,σ')->∀(A:Around) (μ:Mu) (s:Shared) (cs:List Value) (ks:List (Str×Value)),A.handled=none->A.depth+2 * n+50 < recursionLimit->A.units+20 * n+700 < cLine->
    Rel w.params hO σ μ s.heap->Gk A μ s->VRs w.params s.heap μ vs cs->KwR w.params s.heap μ kw ks->OkC prog w hO A (.call (.ref f) ⟨cs,ks⟩) μ s v σ'
structure Bud (A:Around) (n:Nat):Prop where
  handled:A.handled=none
  depth:A.depth+2 * n+51 < recursionLimit
  units:A.units+20 * n+710 < cLine
noncomputable def CalR (P:Params) (K:Frag) (h:Heap) (μ:Mu) (c:Cal) (fx:Value×List Value):Prop:=
  match c with
  | .fn f first=>fx.1=.ref f/\fnIn K f=true/\VRs P h μ first fx.2
  | .mt f i=>fnIn K f=true/\VR P h μ (.meth f i) fx.1/\fx.2=[]
  | .bm o n=>fx.1=.builtin (bid o n)/\∃c,fx.2=[c]/\VR P h μ o c
theorem CalR.step {P:Params} {K:Frag} {μ μ':Mu} {s s':Shared} {c:Cal} {fx:Value×List Value} (st:Step μ s μ' s') (x:CalR P K s.heap μ c fx):CalR P K s'.heap μ' c fx:=by
  cases c with
  | fn f first=>exact ⟨x.1,x.2.1,x.2.2.step st⟩
  | mt f i=>exact ⟨x.1,x.2.1.step st,x.2.2⟩
  | bm o n=>obtain ⟨h1,c,h2,h3⟩:=x;exact ⟨h1,c,h2,h3.step st⟩
section
variable {prog:Program} {w:World} {K:Frag} {hO:Heap} {T:Tab} {C:Calls} {A:Around} {σ σ':St} {μ:Mu} {s:Shared} {E:Value->Shared->Prop}
theorem asM_is {v:V} {q:Addr×Nat} (e:asM v=some q):v=.meth q.1 q.2:=by
  cases v<;>first | exact nn e | exact sme e rfl
abbrev GetK (w:World) (K:Frag) (μ:Mu) (s:Shared) (c:Cal) (Q:Value×List Value->Shared->Prop):Prop:=∀fx k,CalR w.params K s.heap μ c fx->Q fx { s with toks:=k }
theorem getI_ok (TK:TabOk prog w K hO T) {i:Nat} {D:Addr} {fs:L} {n:String} {c:Cal} {p:Addr×Addr} {ces:List DictEntry} {k:Nat} {pl:Sem Bool} (r:Rel w.params hO σ μ s.heap) (hp:μ.ps[i]? = some p) (I:InstAt s.heap p.1 (instObj D p.2) D (some (dictOf ces k))) (hf:VRf w.params s.heap μ fs ces) (e:getI T i D fs n=some c)
    {Q:Value×List Value->Shared->Prop} (h:GetK w K μ s c Q):wpAny (model prog w) A (getMethod (.ref p.1) (Str.ofString n) pl) Q E s:=by
  unfold getI at e;revert e;cases hx:lk fs n with
  | some x=>
    refine fun e=>bd e fun q hq e=>ifs e fun hc e=>?_
    have hc':=Option.some.inj e;have d:=TK.dat _ _ hc.1;refine hf.yes hx fun cv q2 q3=>method_usual (r.X TK) I (plainGet_of d.1).1 (plainGet_of d.1).2 d.2.2.1 rfl ?_
    exact get_value (r.X TK) I (plainGet_of d.1).1 (findObj_own d.2.1 d.2.2.1 rfl q2) (AO q3) (h _ _ (hc'▸⟨TK.fn _ hc.2,asM_is hq▸q3,rfl⟩))
  | none=>
    refine fun e=>bd e fun f hm e=>ifs e fun hfn e=>?_
    have hc':=Option.some.inj e;have d:=TK.meth _ _ _ hm
    exact method_fn (r.X TK) I (plainGet_of d.1).1 (plainGet_of d.1).2 d.2.2.1 (beq_iff_eq.mp d.2.2.2.1) (by show (lookIn _ (dictOf ces k)).map _=_;rw [lookIn_dict,hf.no hx];rfl)
      (h _ s.toks (hc'▸⟨rfl,TK.fn _ hfn,VRs.one ⟨p,hp,rfl⟩⟩))
set_option maxRecDepth 100000 in
theorem getS_ok {l:List Nat} {t:Tok} {n:String} {c:Cal} {pl:Sem Bool} {Q:Value×List Value->Shared->Prop} (hn:n = "count"∨n = "rfind"∨n = "join"∨n = "startswith") (hc:Cal.bm (.str l) n=c) (h:GetK w K μ s c Q):wpAny (model prog w) A (getMethod (.str (S l) t) (Str.ofString n) pl) Q E s:=by
  have k:Q (.builtin (bid (.str l) n),[.str (S l) t]) s:=h _ s.toks (hc▸⟨rfl,_,rfl,t,rfl⟩);rcases hn with rfl | rfl | rfl | rfl
  . exact GM.count k
  . exact GM.rfind k
  . exact GM.join k
  . exact GM.startswith k
theorem getL_ok {vs:List V} {cvs:List Value} {p:Addr×Addr} {i k:Nat} {n:String} {c:Cal} {pl:Sem Bool} {Q:Value×List Value->Shared->Prop} (hp:μ.ps[i]? = some p) (hl:IsL s.heap p.1 cvs.toArray k) (hn:n = "append"∨n = "pop") (hc:Cal.bm (.obj i) n=c) (h:GetK w K μ s c Q):wpAny (model prog w) A (getMethod (.ref p.1) (Str.ofString n) pl) Q E s:=by
  have k:Q (.builtin (bid (.obj i) n),[.ref p.1]) s:=h _ s.toks (hc▸⟨rfl,_,rfl,p,hp,rfl⟩);rcases hn with rfl | rfl
  . exact Calls.getMethod_list_append hl rfl rfl k
  . exact getMethod_list_of F.slot_list_pop F.type_list_pop hl.isList ⟨_,hl,rfl⟩ k
set_option maxRecDepth 100000 in
theorem getM_ok (TK:TabOk prog w K hO T) {o:V} {n:String} {c:Cal} {co:Value} {pl:Sem Bool} (r:Rel w.params hO σ μ s.heap) (vo:VR w.params s.heap μ o co) (e:getM T o n σ=some c)
    {Q:Value×List Value->Shared->Prop} (h:GetK w K μ s c Q):wpAny (model prog w) A (getMethod co (Str.ofString n) pl) Q E s:=by
  cases o with
  | obj i=>
    refine bd e fun o ho e=>?_
    cases o with
    | inst D fs=>exact Rel.oi r vo ho fun p ces k hp I _ _ hf=>getI_ok TK r hp I hf e h
    | list vs=>exact ifs e fun hn e=>Rel.ol r vo ho fun p cvs k hp h1 hl hvs=>getL_ok (vs:=vs) hp hl hn (Option.some.inj e) h
    | dict _=>exact nn e
  | stat a=>
    refine (show co=.ref a from vo).symm▸bd e fun D hs e=>bd e fun f hm e=>ifs e fun hfn e=>?_
    have hc':=Option.some.inj e;have d:=TK.meth _ _ _ hm
    exact (TK.scls _ _ hs).elim fun dx l=>l.elim fun sl l=>l.elim fun es l=>l.elim fun k l=>method_fn (r.X TK) (InstAt.of_K (r.X TK) l.1 l.2.1) (plainGet_of d.1).1 (plainGet_of d.1).2 d.2.2.1 (beq_iff_eq.mp d.2.2.2.1) (by show (lookIn _ (dictOf es k)).map _=_;rw [lookIn_dict,l.2.2 _ _ hm];rfl)
      (h _ s.toks (hc'▸⟨rfl,TK.fn _ hfn,VRs.one rfl⟩))
  | str l=>exact ifs e fun hn e=>VR.s vo fun t=>getS_ok hn (Option.some.inj e) h
  | _=>exact nn e
theorem BB {f:Value} {cs:List Value} {ks:List (Str×Value)} {v:V} (h:OkC prog w hO A (.call f ⟨cs,ks⟩) μ s v σ'):Ok prog w hO A (call f cs ks) μ s v σ':=
  fun Q E k=>wpAny_call (h _ k)
theorem calM_ok (TK:TabOk prog w K hO T) {n:Nat} (CO:CallsOk prog w hO C n) (B:Bud A n) {c:Cal} {fx:Value×List Value} {as:List V} {kw:List (String×V)} {cs:List Value} {ks:List (Str×Value)} {v:V} (r:Rel w.params hO σ μ s.heap) (hg:Gk A μ s)
    (hc:CalR w.params K s.heap μ c fx) (va:VRs w.params s.heap μ as cs) (vk:KwR w.params s.heap μ kw ks) (e:calM C c as kw σ=some (v,σ')):Ok prog w hO A (call fx.1 (fx.2++cs) ks) μ s v σ':=by
  have hun:A.units+20 * n+700 < cLine:=Nat.lt_of_le_of_lt (Nat.add_le_add_left (by decide:700<=710) _) B.units
  have hd:=Nat.lt_of_succ_lt B.depth;cases c with
  | fn f first=>
    rw [show fx.1=.ref f from hc.1];exact BB (CO _ _ _ _ _ _ e A μ s _ ks B.handled hd hun r hg (hc.2.2.append va) vk)
  | mt f i=>
    refine ifs e fun hk e=>?_
    rw [List.isEmpty_iff.mp hk] at vk;rw [show ks=[] from vk,show fx.2=[] from hc.2.2];refine VR.m hc.2.1 fun a p hp _ ho=>BB <| OkC.mk fun R k=>?_
    show codeAny _ _ (.call (.ref a) ⟨cs,[]⟩) _ _;exact method_call ho (CO _ _ _ _ _ _ e A μ s _ [] B.handled hd hun r hg (VRs.cons' ⟨p,hp,rfl⟩ va) rfl R fun c s' μ' a b d _=>k c s' μ' a b d)
  | bm o n=>
    refine ifs e fun hk e=>hc.2.elim fun co h=>?_
    rw [List.isEmpty_iff.mp hk] at vk;rw [show ks=[] from vk,show fx.1=_ from hc.1,h.1];exact bmet_ok r h.2 va e
end
section
variable {P:Expr->Prop} {x:Expr}
section
variable {α β γ δ ε:Type} {Q:α->Prop} {R:α->β->Prop} {S:α->β->γ->Prop} {T:α->β->γ->δ->Prop} {U:α->β->γ->δ->ε->Prop}
theorem nt1 (a:α) (h:false=true):Q a:=nt h
theorem nt2 (a:α) (b:β) (h:false=true):R a b:=nt h
theorem nt3 (a:α) (b:β) (c:γ) (h:false=true):S a b c:=nt h
theorem nt4 (a:α) (b:β) (c:γ) (d:δ) (h:false=true):T a b c d:=nt h
theorem nt5 (a:α) (b:β) (c:γ) (d:δ) (e:ε) (h:false=true):U a b c d e:=nt h
end
set_option genInjectivity false in
structure HdE where
  C:Const->Bool:=fun _=>false
  N:Str->Pos->Bool:=fun _ _=>false
  A:Expr->Str->Pos->Bool:=fun _ _ _=>false
  O:Expr->Operator->Expr->Bool:=fun _ _ _=>false
  U:UnaryOp->Expr->Bool:=fun _ _=>false
  K:Expr->List CmpOp->List Expr->Bool:=fun _ _ _=>false
  B:BoolOp->List Expr->Bool:=fun _ _=>false
  I:Expr->Expr->Expr->Bool:=fun _ _ _=>false
  S:Expr->Expr->Bool:=fun _ _=>false
  Sl:Option Expr->Option Expr->Option Expr->Bool:=fun _ _ _=>false
  T:List Expr->Bool:=fun _=>false
  L:List Expr->Bool:=fun _=>false
  D:List (Option Expr)->List Expr->Bool:=fun _ _=>false
  F:Expr->List Expr->List Keyword->Pos->Bool:=fun _ _ _ _=>false
  M:Expr->List Comprehension->Scope->Pos->Bool:=fun _ _ _ _=>false
noncomputable def xE (x:Expr) (H:HdE):Bool:=match x with
  | .Constant c _ _=>H.C c
  | .Name y p=>H.N y p
  | .Attribute e n p=>H.A e n p
  | .BinOp l o r _=>H.O l o r
  | .UnaryOp o e _=>H.U o e
  | .Compare e os rs _=>H.K e os rs
  | .BoolOp o xs _=>H.B o xs
  | .IfExp c a b _=>H.I c a b
  | .Subscript e i _=>H.S e i
  | .Slice l u s _=>H.Sl l u s
  | .Tuple xs _ _=>H.T xs
  | .List xs _=>H.L xs
  | .Dict ks xs _=>H.D ks xs
  | .Call f xs kws p=>H.F f xs kws p
  | .ListComp e gs sc p=>H.M e gs sc p
  | _=>false
theorem Ar {H:HdE} (h:xE x H=true) (tC:∀c n p,H.C c=true->P (.Constant c n p)) (tN:∀y p,H.N y p=true->P (.Name y p)) (tA:∀e n p,H.A e n p=true->P (.Attribute e n p)) (tO:∀l o r p,H.O l o r=true->P (.BinOp l o r p)) (tU:∀o e p,H.U o e=true->P (.UnaryOp o e p))
    (tK:∀e os rs p,H.K e os rs=true->P (.Compare e os rs p)) (tB:∀o xs p,H.B o xs=true->P (.BoolOp o xs p)) (tI:∀c a b p,H.I c a b=true->P (.IfExp c a b p)) (tS:∀e i p,H.S e i=true->P (.Subscript e i p)) (tSl:∀l u s p,H.Sl l u s=true->P (.Slice l u s p))
    (tT:∀xs n p,H.T xs=true->P (.Tuple xs n p)) (tL:∀xs p,H.L xs=true->P (.List xs p)) (tD:∀ks xs p,H.D ks xs=true->P (.Dict ks xs p)) (tF:∀f xs kws p,H.F f xs kws p=true->P (.Call f xs kws p)) (tM:∀e gs sc p,H.M e gs sc p=true->P (.ListComp e gs sc p)):P x:=by
  cases x<;>first | exact nt h | exact tC _ _ _ h | exact tN _ _ h | exact tA _ _ _ h | exact tO _ _ _ _ h | exact tU _ _ _ h | exact tK _ _ _ _ h | exact tB _ _ _ h | exact tI _ _ _ _ h | exact tS _ _ _ h | exact tSl _ _ _ _ h | exact tT _ _ _ h | exact tL _ _ h | exact tD _ _ _ h | exact tF _ _ _ _ h | exact tM _ _ _ _ h
noncomputable def xC (x:Expr) (k:Const->Bool):Bool:=xE x { C:=k }
@[elab_as_elim] theorem BU {k} (h:xC x k=true) (t:∀c n p,k c=true->P (.Constant c n p)):P x:=Ar h t nt2 nt3 nt4 nt3 nt4 nt3 nt4 nt3 nt4 nt3 nt2 nt3 nt4 nt4
noncomputable def xN (x:Expr) (k:Str->Bool):Bool:=xE x { N:=fun y _=>k y }
@[elab_as_elim] theorem Ai {k} (h:xN x k=true) (t:∀y p,k y=true->P (.Name y p)):P x:=Ar h nt3 t nt3 nt4 nt3 nt4 nt3 nt4 nt3 nt4 nt3 nt2 nt3 nt4 nt4
noncomputable def xA (x:Expr) (k:Expr->Str->Pos->Bool):Bool:=xE x { A:=k }
@[elab_as_elim] theorem A3 {k} (h:xA x k=true) (t:∀e n p,k e n p=true->P (.Attribute e n p)):P x:=Ar h nt3 nt2 t nt4 nt3 nt4 nt3 nt4 nt3 nt4 nt3 nt2 nt3 nt4 nt4
noncomputable def xO (x:Expr) (k:Expr->Operator->Expr->Bool):Bool:=xE x { O:=k }
@[elab_as_elim] theorem Fb {k} (h:xO x k=true) (t:∀l o r p,k l o r=true->P (.BinOp l o r p)):P x:=Ar h nt3 nt2 nt3 t nt3 nt4 nt3 nt4 nt3 nt4 nt3 nt2 nt3 nt4 nt4
noncomputable def xU (x:Expr) (k:UnaryOp->Expr->Bool):Bool:=xE x { U:=k }
@[elab_as_elim] theorem DH {k} (h:xU x k=true) (t:∀o e p,k o e=true->P (.UnaryOp o e p)):P x:=Ar h nt3 nt2 nt3 nt4 t nt4 nt3 nt4 nt3 nt4 nt3 nt2 nt3 nt4 nt4
noncomputable def xK (x:Expr) (k:Expr->List CmpOp->List Expr->Bool):Bool:=xE x { K:=k }
@[elab_as_elim] theorem BV {k} (h:xK x k=true) (t:∀e os rs p,k e os rs=true->P (.Compare e os rs p)):P x:=Ar h nt3 nt2 nt3 nt4 nt3 t nt3 nt4 nt3 nt4 nt3 nt2 nt3 nt4 nt4
noncomputable def xB (x:Expr) (k:BoolOp->List Expr->Bool):Bool:=xE x { B:=k }
@[elab_as_elim] theorem xB_inv {k} (h:xB x k=true) (t:∀o xs p,k o xs=true->P (.BoolOp o xs p)):P x:=Ar h nt3 nt2 nt3 nt4 nt3 nt4 t nt4 nt3 nt4 nt3 nt2 nt3 nt4 nt4
noncomputable def xS (x:Expr) (k:Expr->Expr->Bool):Bool:=xE x { S:=k }
@[elab_as_elim] theorem Br {k} (h:xS x k=true) (t:∀e i p,k e i=true->P (.Subscript e i p)):P x:=Ar h nt3 nt2 nt3 nt4 nt3 nt4 nt3 nt4 t nt4 nt3 nt2 nt3 nt4 nt4
noncomputable def xSl (x:Expr) (k:Option Expr->Option Expr->Option Expr->Bool):Bool:=xE x { Sl:=k }
@[elab_as_elim] theorem xSl_inv {k} (h:xSl x k=true) (t:∀l u s p,k l u s=true->P (.Slice l u s p)):P x:=Ar h nt3 nt2 nt3 nt4 nt3 nt4 nt3 nt4 nt3 t nt3 nt2 nt3 nt4 nt4
noncomputable def xT (x:Expr) (k:List Expr->Bool):Bool:=xE x { T:=k }
@[elab_as_elim] theorem AY {k} (h:xT x k=true) (t:∀xs n p,k xs=true->P (.Tuple xs n p)):P x:=Ar h nt3 nt2 nt3 nt4 nt3 nt4 nt3 nt4 nt3 nt4 t nt2 nt3 nt4 nt4
noncomputable def xL (x:Expr) (k:List Expr->Bool):Bool:=xE x { L:=k }
@[elab_as_elim] theorem Fc {k} (h:xL x k=true) (t:∀xs p,k xs=true->P (.List xs p)):P x:=Ar h nt3 nt2 nt3 nt4 nt3 nt4 nt3 nt4 nt3 nt4 nt3 t nt3 nt4 nt4
noncomputable def xD (x:Expr) (k:List (Option Expr)->List Expr->Bool):Bool:=xE x { D:=k }
@[elab_as_elim] theorem Fd {k} (h:xD x k=true) (t:∀ks xs p,k ks xs=true->P (.Dict ks xs p)):P x:=Ar h nt3 nt2 nt3 nt4 nt3 nt4 nt3 nt4 nt3 nt4 nt3 nt2 t nt4 nt4
noncomputable def xF (x:Expr) (k:Expr->List Expr->List Keyword->Pos->Bool):Bool:=xE x { F:=k }
@[elab_as_elim] theorem Az {k} (h:xF x k=true) (t:∀f xs kws p,k f xs kws p=true->P (.Call f xs kws p)):P x:=Ar h nt3 nt2 nt3 nt4 nt3 nt4 nt3 nt4 nt3 nt4 nt3 nt2 nt3 t nt4
noncomputable def xM (x:Expr) (k:Expr->List Comprehension->Scope->Bool):Bool:=xE x { M:=fun e gs sc _=>k e gs sc }
@[elab_as_elim] theorem BW {k} (h:xM x k=true) (t:∀e gs sc p,k e gs sc=true->P (.ListComp e gs sc p)):P x:=Ar h nt3 nt2 nt3 nt4 nt3 nt4 nt3 nt4 nt3 nt4 nt3 nt2 nt3 nt4 t
end
section
variable {α:Type}
noncomputable def l1 (l:List α) (k:α->Bool):Bool:=match l with | [a]=>k a | _=>false
@[elab_as_elim] theorem AU {P:List α->Prop} {l:List α} {k} (h:l1 l k=true) (t:∀a,k a=true->P [a]):P l:=
  match l,h with | [a],h=>t a h
noncomputable def l2 (l:List α) (k:α->α->Bool):Bool:=match l with | [a,b]=>k a b | _=>false
@[elab_as_elim] theorem Fe {P:List α->Prop} {l:List α} {k} (h:l2 l k=true) (t:∀a b,k a b=true->P [a,b]):P l:=
  match l,h with | [a,b],h=>t a b h
noncomputable def emp (l:List α):Bool:=match l with | []=>true | _=>false
@[elab_as_elim] theorem Al {P:List α->Prop} {l:List α} (h:emp l=true) (t:P []):P l:=
  match l,h with | [],_=>t
noncomputable def lc (l:List α) (k:α->List α->Bool):Bool:=match l with | []=>false | a::r=>k a r
@[elab_as_elim] theorem AK {P:List α->Prop} {l:List α} {k} (h:lc l k=true) (t:∀a r,k a r=true->P (a::r)):P l:=
  match l,h with | a::r,h=>t a r h
noncomputable def op (o:Option α) (d:Bool) (k:α->Bool):Bool:=match o with | none=>d | some a=>k a
end
noncomputable def ckN (sc:Scope) (x:String) (y:Str):Bool:=Str.ofString x==y&&(!(y==("__debug__" : Str))&&!(y==("__classdict__" : Str)))
noncomputable def ckG (sc:Scope) (x:String) (y:Str):Bool:=Str.ofString x==y&&(!(y==("__debug__" : Str))&&sc.names.lookup y==some .globalImplicit)
noncomputable def ckC (v:V) (c:Const):Bool:=match v with
  | .none=>match c with | .none=>true | _=>false
  | .bool a=>match c with | .bool b=>a==b | _=>false
  | .int a=>match c with | .int b=>a==b | _=>false
  | .str l=>match c with | .str x=>x.cps.toList==l | _=>false
  | _=>false
noncomputable def isN:ME->Bool
  | .cst v=>match v with | .none=>true | _=>false
  | _=>false
noncomputable def plainBase (x:Expr):Bool:=!xE x { F:=fun f _ _ _=>xE f { N:=fun _ _=>true } }
noncomputable def noSlice (x:Expr):Bool:=!xE x { Sl:=fun _ _ _=>true }
noncomputable def keyL (o:Option Expr):Option (List Nat):=match o with
  | none=>none
  | some x=>match x with
    | .Constant c _ _=>match c with
      | .str x=>some x.cps.toList
      | _=>none
    | _=>none
noncomputable def ckKeys (ks:List (List Nat)) (ks':List (Option Expr)):Bool:=ks'.map keyL==ks.map some
noncomputable def isNeg (o:UnaryOp):Bool:=match o with | .USub=>true | _=>false
noncomputable def isNot (o:UnaryOp):Bool:=match o with | .Not=>true | _=>false
noncomputable def ck2 (a b:List Nat) (xs:List Expr):Bool:=l2 xs fun x y=>xC x (ckC (.str a))&&xC y (ckC (.str b))
noncomputable def fvS (scope:Scope):List Str:=(scope.names.filter fun z=>z.2==.free).map Prod.fst
noncomputable def kCel (k:NameKind):NameKind:=if k==.free then .cell else k
noncomputable def relS (scope:Scope):Scope:={ scope with names:=scope.names.map fun z=>(z.1,kCel z.2) }
noncomputable def ckMP (sc:Scope):Bool:=sc.kind==.function&&sc.names.all (fun z=>z.2 != .cell&&(z.2 != .local || sc.names.lookup z.1==some .local))
noncomputable def nd:List Str->Bool
  | []=>true
  | x::r=>!r.contains x&&nd r
noncomputable def ckFV (sc scope:Scope) (fv:List String):Bool:=fv.map Str.ofString==fvS scope&&(nd (fvS scope)&&(fvS scope).all fun y=>sc.names.lookup y==some .cell&&scope.names.lookup y==some .free)
mutual
noncomputable def ckP (sc:Scope):ME->Expr->Bool
  | .loc a,x=>xN x fun y=>Str.ofString a==y&&sc.names.lookup y==some .local
  | .tup ts,x=>xT x fun xs=>ckPs sc ts xs
  | _,_=>false
noncomputable def ckPs (sc:Scope):ME->List Expr->Bool
  | .nil,xs=>emp xs
  | .cons t ts,xs=>lc xs fun x r=>ckP sc t x&&ckPs sc ts r
  | _,_=>false
end
mutual
noncomputable def ckE (sc:Scope):ME->Expr->Bool
  | .cst v,x=>xC x (ckC v)
  | .loc a,x=>xN x (ckN sc a)
  | .glo a,x=>xN x (ckG sc a)
  | .attr e n,x=>xA x fun e' n' _=>Str.ofString n==n'&&(plainBase e'&&ckE sc e e')
  | .bin _ o l r,x=>xO x fun l' o' r'=>o==o'&&(ckE sc l l'&&ckE sc r r')
  | .neg e,x=>xU x fun o e'=>isNeg o&&ckE sc e e'
  | .not e,x=>xU x fun o e'=>isNot o&&ckE sc e e'
  | .cmp o l r,x=>xK x fun l' os rs=>[o]==os&&(l1 rs fun r'=>ckE sc l l'&&ckE sc r r')
  | .cmp2 o q a b c,x=>xK x fun a' os rs=>[o,q]==os&&(l2 rs fun b' c'=>ckE sc a a'&&(ckE sc b b'&&ckE sc c c'))
  | .boo o es,x=>xB x fun o' xs=>o==o'&&ckL sc es xs
  | .sub e i,x=>xS x fun e' i'=>noSlice i'&&(ckE sc e e'&&ckE sc i i')
  | .slc e l u,x=>xS x fun e' i'=>ckE sc e e'&&(xSl i' fun l' u' s=>s.isNone&&(op l' (isN l) (fun y=>ckE sc l y)&&op u' (isN u) (fun y=>ckE sc u y)))
  | .tup es,x=>xT x fun xs=>ckL sc es xs
  | .lst _ es,x=>xL x fun xs=>ckL sc es xs
  | .dct _ ks es,x=>xD x fun ks' xs=>ckKeys ks ks'&&(ckL sc es xs&&(ks.length==xs.length&&(decide (0 < ks.length)&&decide (ks.length<=12))))
  | .cal a es,x=>xF x fun f xs kws _=>xN f (ckG sc a)&&(emp kws&&ckL sc es xs)
  | .new a es,x=>xF x fun f xs kws _=>xN f (ckG sc a)&&(emp kws&&ckL sc es xs)
  | .bui a es,x=>xF x fun f xs kws _=>xN f (ckG sc a)&&(emp kws&&ckL sc es xs)
  | .met o n es kn ks,x=>xF x fun f xs kws p=>xA f fun o' n' ap=>Str.ofString n==n'&&(plainBase o'&&(ckE sc o o'&&(ckL sc es xs&&((kn.map (fun n=>some (Str.ofString n))==kws.map (·.arg)&&ckL sc ks (kws.map (·.value)))&&(decide (xs.length+kws.length < 28)&&ap.endLine==p.line)))))
  | .rep e a b,x=>xF x fun f xs kws p=>xA f fun o' n' ap=>Str.ofString "replace"==n'&&(plainBase o'&&(ckE sc e o'&&(emp kws&&(ck2 a b xs&&ap.endLine==p.line))))
  | .has l r,x=>xK x fun l' os rs=>[CmpOp.In]==os&&(l1 rs fun r'=>ckE sc l l'&&ckE sc r r')
  | .cmpr fv elt a it conds,x=>xM x fun elt' gs scope=>l1 gs fun g=>ckP (relS scope) a g.target&&(ckFV sc scope fv&&(ckMP scope&&(0==g.is_async&&(ckE sc it g.iter&&(ckE (relS scope) elt elt'&&ckL (relS scope) conds g.ifs)))))
  | .cmpz fv elt t a b conds,x=>xM x fun elt' gs scope=>l1 gs fun g=>ckP (relS scope) t g.target&&(ckFV sc scope fv&&(ckMP scope&&(0==g.is_async&&(xF g.iter (fun f xs kws _=>xN f (ckG sc "zip")&&(emp kws&&l2 xs fun x y=>ckE sc a x&&ckE sc b y))&&(ckE (relS scope) elt elt'&&ckL (relS scope) conds g.ifs)))))
  | .nil,_=>false
  | .cons _ _,_=>false
  | .opq,_=>false
noncomputable def ckL (sc:Scope):ME->List Expr->Bool
  | .nil,xs=>emp xs
  | .cons e es,xs=>lc xs fun x r=>ckE sc e x&&ckL sc es r
  | _,_=>false
end
section
variable {sc:Scope} {P:Expr->Prop} {x:Expr} {n:String} {e a b c l r i:ME} {o o':CmpOp}
@[elab_as_elim] theorem ck_attr (h:ckE sc (.attr e n) x=true) (t:∀e' p,plainBase e'=true->ckE sc e e'=true->P (.Attribute e' (Str.ofString n) p)):P x:=
  A3 (h:xA x _=true) fun e' n' p h=>bq (aL h) (t e' p (aL (aR h)) (aR (aR h)))
@[elab_as_elim] theorem ck_bin {m:Bool} {o:Operator} (h:ckE sc (.bin m o l r) x=true) (t:∀l' r' p,ckE sc l l'=true->ckE sc r r'=true->P (.BinOp l' o r' p)):P x:=
  Fb (h:xO x _=true) fun l' o' r' p h=>bq (aL h) (t l' r' p (aL (aR h)) (aR (aR h)))
@[elab_as_elim] theorem ck_neg (h:ckE sc (.neg e) x=true) (t:∀e' p,ckE sc e e'=true->P (.UnaryOp .USub e' p)):P x:=
  DH (h:xU x _=true) fun o e' p h=>match o,h with | .USub,h=>t e' p h
@[elab_as_elim] theorem ck_not (h:ckE sc (.not e) x=true) (t:∀e' p,ckE sc e e'=true->P (.UnaryOp .Not e' p)):P x:=
  DH (h:xU x _=true) fun o e' p h=>match o,h with | .Not,h=>t e' p h
@[elab_as_elim] theorem ck_cmp (h:ckE sc (.cmp o l r) x=true) (t:∀l' r' p,ckE sc l l'=true->ckE sc r r'=true->P (.Compare l' [o] [r'] p)):P x:=
  BV (h:xK x _=true) fun l' os rs p h=>bq (aL h) (AU (aR h) fun r' h=>t l' r' p (aL h) (aR h))
@[elab_as_elim] theorem ck_has (h:ckE sc (.has l r) x=true) (t:∀l' r' p,ckE sc l l'=true->ckE sc r r'=true->P (.Compare l' [.In] [r'] p)):P x:=
  BV (h:xK x _=true) fun l' os rs p h=>bq (aL h) (AU (aR h) fun r' h=>t l' r' p (aL h) (aR h))
@[elab_as_elim] theorem GK (h:ckE sc (.cmp2 o o' a b c) x=true) (t:∀a' b' c' p,ckE sc a a'=true->ckE sc b b'=true->ckE sc c c'=true->P (.Compare a' [o,o'] [b',c'] p)):P x:=
  BV (h:xK x _=true) fun a' os rs p h=>bq (aL h) (Fe (aR h) fun b' c' h=>t a' b' c' p (aL h) (aL (aR h)) (aR (aR h)))
@[elab_as_elim] theorem ck_boo {o:BoolOp} (h:ckE sc (.boo o e) x=true) (t:∀xs p,ckL sc e xs=true->P (.BoolOp o xs p)):P x:=
  xB_inv (h:xB x _=true) fun o' xs p h=>bq (aL h) (t xs p (aR h))
@[elab_as_elim] theorem ck_sub (h:ckE sc (.sub e i) x=true) (t:∀e' i' p,noSlice i'=true->ckE sc e e'=true->ckE sc i i'=true->P (.Subscript e' i' p)):P x:=
  Br (h:xS x _=true) fun e' i' p h=>t e' i' p (aL h) (aL (aR h)) (aR (aR h))
@[elab_as_elim] theorem ck_slc (h:ckE sc (.slc e a b) x=true) (t:∀e' a' b' p p',ckE sc e e'=true->op a' (isN a) (ckE sc a)=true->op b' (isN b) (ckE sc b)=true->P (.Subscript e' (.Slice a' b' none p') p)):P x:=
  Br (h:xS x _=true) fun e' i' p h=>xSl_inv (aR h) fun l' u' s p' h'=>match s,h' with | none,h'=>t e' l' u' p p' (aL h) (aL h') (aR h')
@[elab_as_elim] theorem ck_tup (h:ckE sc (.tup e) x=true) (t:∀xs k p,ckL sc e xs=true->P (.Tuple xs k p)):P x:=AY (h:xT x _=true) t
@[elab_as_elim] theorem ck_lst {m:Bool} (h:ckE sc (.lst m e) x=true) (t:∀xs p,ckL sc e xs=true->P (.List xs p)):P x:=Fc (h:xL x _=true) t
@[elab_as_elim] theorem ck_dct {m:Bool} {ks:List (List Nat)} (h:ckE sc (.dct m ks e) x=true) (t:∀ks' xs p,ckKeys ks ks'=true->ckL sc e xs=true->ks.length=xs.length->0 < ks.length->ks.length<=12->P (.Dict ks' xs p)):P x:=
  Fd (h:xD x _=true) fun ks' xs p h=>t ks' xs p (aL h) (aL (aR h)) (eq_of_beq (aL (aR (aR h)))) (of_decide_eq_true (aL (aR (aR (aR h))))) (of_decide_eq_true (aR (aR (aR (aR h)))))
@[elab_as_elim] theorem DI (h:(xF x fun f xs kws _=>xN f (ckG sc n)&&(emp kws&&ckL sc e xs))=true) (t:∀y q xs p,ckG sc n y=true->ckL sc e xs=true->P (.Call (.Name y q) xs [] p)):P x:=
  Az h fun f xs kws p h=>Ai (aL h) fun y q hy=>Al (aL (aR h)) (t y q xs p hy (aR (aR h)))
@[elab_as_elim] theorem ck_met {kn:List String} (h:ckE sc (.met e n a kn b) x=true)
    (t:∀o' q xs kws p,plainBase o'=true->ckE sc e o'=true->ckL sc a xs=true->kn.map (fun n=>some (Str.ofString n))=kws.map (·.arg)->ckL sc b (kws.map (·.value))=true->xs.length+kws.length < 28->(q.endLine==p.line)=true->P (.Call (.Attribute o' (Str.ofString n) q) xs kws p)):P x:=
  Az (h:xF x _=true) fun f xs kws p h=>A3 h fun o' n' q h=>bq (aL h) (t o' q xs kws p (aL (aR h)) (aL (aR (aR h))) (aL (aR (aR (aR h)))) (eq_of_beq (aL (aL (aR (aR (aR (aR h))))))) (aR (aL (aR (aR (aR (aR h)))))) (of_decide_eq_true (aL (aR (aR (aR (aR (aR h))))))) (aR (aR (aR (aR (aR (aR h)))))))
@[elab_as_elim] theorem GL {t0:ME} {fv:List String} (h:ckE sc (.cmpr fv a t0 b c) x=true)
    (t:∀elt' tg it' ifs scope p,ckFV sc scope fv=true->ckP (relS scope) t0 tg=true->ckMP scope=true->ckE sc b it'=true->ckE (relS scope) a elt'=true->ckL (relS scope) c ifs=true->P (.ListComp elt' [⟨tg,it',ifs,0⟩] scope p)):P x:=
  BW (h:xM x _=true) fun elt' gs scope p h=>AU h fun g h=>match g,h with
    | ⟨tg,it',ifs,asy⟩,h=>bq (P:=fun asy=>P (.ListComp elt' [⟨tg,it',ifs,asy⟩] scope p)) (aL (aR (aR (aR h))))
      (t elt' tg it' ifs scope p (aL (aR h)) (aL h) (aL (aR (aR h))) (aL (aR (aR (aR (aR h))))) (aL (aR (aR (aR (aR (aR h)))))) (aR (aR (aR (aR (aR (aR h)))))))
@[elab_as_elim] theorem ck_cmpz {t0 e2:ME} {fv:List String} (h:ckE sc (.cmpz fv a t0 b e2 c) x=true)
    (t:∀elt' tg y q x1 x2 p2 ifs scope p,ckFV sc scope fv=true->ckP (relS scope) t0 tg=true->ckMP scope=true->ckG sc "zip" y=true->ckE sc b x1=true->ckE sc e2 x2=true->ckE (relS scope) a elt'=true->ckL (relS scope) c ifs=true->P (.ListComp elt' [⟨tg,.Call (.Name y q) [x1,x2] [] p2,ifs,0⟩] scope p)):P x:=
  BW (h:xM x _=true) fun elt' gs scope p h=>AU h fun g h=>match g,h with
    | ⟨tg,it',ifs,asy⟩,h=>bq (P:=fun asy=>P (.ListComp elt' [⟨tg,it',ifs,asy⟩] scope p)) (aL (aR (aR (aR h))))
      (Az (P:=fun it'=>P (.ListComp elt' [⟨tg,it',ifs,0⟩] scope p)) (aL (aR (aR (aR (aR h))))) fun f xs kws p2 hf=>Ai (P:=fun f=>P (.ListComp elt' [⟨tg,.Call f xs kws p2,ifs,0⟩] scope p)) (aL hf) fun y q hy=>Al (P:=fun kws=>P (.ListComp elt' [⟨tg,.Call (.Name y q) xs kws p2,ifs,0⟩] scope p)) (aL (aR hf)) (Fe (P:=fun xs=>P (.ListComp elt' [⟨tg,.Call (.Name y q) xs [] p2,ifs,0⟩] scope p)) (aR (aR hf)) fun x1 x2 hx=>
        t elt' tg y q x1 x2 p2 ifs scope p (aL (aR h)) (aL h) (aL (aR (aR h))) hy (aL hx) (aR hx) (aL (aR (aR (aR (aR (aR h)))))) (aR (aR (aR (aR (aR (aR h))))))))
noncomputable def allE:HdE:={ C:=fun _=>true,N:=fun _ _=>true,A:=fun _ _ _=>true,O:=fun _ _ _=>true,U:=fun _ _=>true,K:=fun _ _ _=>true,B:=fun _ _=>true,I:=fun _ _ _=>true,S:=fun _ _=>true,Sl:=fun _ _ _=>true,T:=fun _=>true,L:=fun _=>true,D:=fun _ _=>true,F:=fun _ _ _ _=>true,M:=fun _ _ _ _=>true }
noncomputable def okX (x:Expr):Bool:=xE x allE
theorem CC:∀(e:ME),ckE sc e x=true->okX x=true
  | .cst _,h=>BU (h:xC x _=true) fun _ _ _ _=>rfl
  | .loc _,h=>Ai (h:xN x _=true) fun _ _ _=>rfl
  | .glo _,h=>Ai (h:xN x _=true) fun _ _ _=>rfl
  | .attr _ _,h=>A3 (h:xA x _=true) fun _ _ _ _=>rfl
  | .bin _ _ _ _,h=>Fb (h:xO x _=true) fun _ _ _ _ _=>rfl
  | .neg _,h=>DH (h:xU x _=true) fun _ _ _ _=>rfl
  | .not _,h=>DH (h:xU x _=true) fun _ _ _ _=>rfl
  | .cmp _ _ _,h=>BV (h:xK x _=true) fun _ _ _ _ _=>rfl
  | .cmp2 _ _ _ _ _,h=>BV (h:xK x _=true) fun _ _ _ _ _=>rfl
  | .boo _ _,h=>xB_inv (h:xB x _=true) fun _ _ _ _=>rfl
  | .sub _ _,h=>Br (h:xS x _=true) fun _ _ _ _=>rfl
  | .slc _ _ _,h=>Br (h:xS x _=true) fun _ _ _ _=>rfl
  | .tup _,h=>AY (h:xT x _=true) fun _ _ _ _=>rfl
  | .lst _ _,h=>Fc (h:xL x _=true) fun _ _ _=>rfl
  | .dct _ _ _,h=>Fd (h:xD x _=true) fun _ _ _ _=>rfl
  | .cal _ _,h=>Az (h:xF x _=true) fun _ _ _ _ _=>rfl
  | .new _ _,h=>Az (h:xF x _=true) fun _ _ _ _ _=>rfl
  | .bui _ _,h=>Az (h:xF x _=true) fun _ _ _ _ _=>rfl
  | .met _ _ _ _ _,h=>Az (h:xF x _=true) fun _ _ _ _ _=>rfl
  | .rep _ _ _,h=>Az (h:xF x _=true) fun _ _ _ _ _=>rfl
  | .has _ _,h=>BV (h:xK x _=true) fun _ _ _ _ _=>rfl
  | .cmpr _ _ _ _ _,h=>BW (h:xM x _=true) fun _ _ _ _ _=>rfl
  | .cmpz _ _ _ _ _ _,h=>BW (h:xM x _=true) fun _ _ _ _ _=>rfl
  | .nil,h=>nt h
  | .cons _ _,h=>nt h
  | .opq,h=>nt h
end
section
variable (prog:Program) (w:World) (hO:Heap)
noncomputable def Runs (A:Around):List (Sem Value)->Mu->Shared->List V->St->Prop
  | [],μ,s,vs,σ'=>vs=[]/\Rel w.params hO σ' μ s.heap
  | t::ts,μ,s,vs,σ'=>∃v vs',vs=v::vs'/\∀(Q:Value->Shared->Prop) (E:Value->Shared->Prop),
      (∀c s' μ',Step μ s μ' s'->VR w.params s'.heap μ' v c->Runs A ts μ' s' vs' σ'->Q c s')->wpAny (model prog w) A t Q E s
end
structure Cx (A:Around) (w:World) (hO:Heap) (env:Env) (μ:Mu) (s:Shared) (σ:St) (ρ:L) (m:Str->Option Value):Prop where
  r:Rel w.params hO σ μ s.heap
  f:Fm w.params hO env μ s.heap ρ m
  g:Gk A μ s
  top:env.func.isSome=true->∃l,A.frames=some (env::l)
theorem Cx.step {A:Around} {w:World} {hO:Heap} {env:Env} {μ μ':Mu} {s s':Shared} {σ σ':St} {ρ:L} {m:Str->Option Value} (c:Cx A w hO env μ s σ ρ m) (st:Step μ s μ' s') (r:Rel w.params hO σ' μ' s'.heap) (tk:s.toks<=s'.toks):Cx A w hO env μ' s' σ' ρ m:=
  ⟨r,c.f.step st,c.g.step c.r st tk,c.top⟩
section
variable {prog:Program} {w:World} {hO:Heap} {A:Around} {μ:Mu} {s:Shared} {E:Value->Shared->Prop}
theorem Runs.spliced:∀{ts:List (Sem Value)} {μ:Mu} {s:Shared} {vs:List V} {σ':St},Runs prog w hO A ts μ s vs σ'->OkS prog w hO A (spliced (ts.map fun t=>(false,t))) μ s vs σ'
  | [],μ,s,vs,σ',h=>OkS.mk fun Q E k=>by
    rw [h.1] at k;exact Calls.spliced_nil (k [] s μ (Step.refl μ s) h.2 rfl)
  | t::ts,μ,s,vs,σ',h=>OkS.mk fun Q E k=>by
    obtain ⟨v,vs',rfl,h⟩:=h;refine Calls.spliced_cons (h _ _ fun c s' μ' st hv hr=>hr.spliced _ _ fun cs s'' μ'' st' r hvs _=>?_)
    exact k _ _ _ (st.trans st') r ⟨c,cs,rfl,hv.step st',hvs⟩
theorem Runs.all:∀{ts:List (Sem Value)} {μ:Mu} {s:Shared} {vs:List V} {σ':St} (pos:Pos),Runs prog w hO A ts μ s vs σ'->OkS prog w hO A (evalAll (ts.map fun t=>do let v <- t;standAt pos;pure v)) μ s vs σ'
  | [],μ,s,vs,σ',_,h=>OkS.mk fun Q E k=>by
    rw [h.1] at k;exact evalAll_nil (k [] s μ (Step.refl μ s) h.2 rfl)
  | t::ts,μ,s,vs,σ',pos,h=>OkS.mk fun Q E k=>by
    obtain ⟨v,vs',rfl,h⟩:=h;refine evalAll_cons (wpAny_bind (h _ _ fun c s' μ' st hv hr=>wpAny_bind (wpAny_standAt (wpAny_pure ?_))))
    refine hr.all pos _ _ fun cs s'' μ'' st' r hvs _=>?_
    exact k _ _ _ (st.trans st') r ⟨c,cs,rfl,hv.step st',hvs⟩
end
section
variable {sc:Scope}
@[elab_as_elim] theorem GN {P:ME->Prop} {es:ME} (h:ckL sc es []=true) (t:P .nil):P es:=by
  cases es<;>first | exact t | exact nt h
@[elab_as_elim] theorem CD {P:ME->Prop} {es:ME} {x:Expr} {xs:List Expr} (h:ckL sc es (x::xs)=true) (t:∀e r,ckE sc e x=true->ckL sc r xs=true->P (.cons e r)):P es:=by
  cases es<;>first | exact t _ _ (aL h) (aR h) | exact nt h
theorem star_ok {x:Expr} (h:okX x=true) (xs:List Expr) (env:Env):starEach (x::xs) env=(false,eval x env)::starEach xs env:=by
  cases x<;>first | rfl | exact nt h
theorem AG:∀(xs:List Expr) (es:ME),ckL sc es xs=true->∀env,starEach xs env=(evalEach xs env).map fun t=>(false,t)
  | [],_,_,_=>rfl
  | x::xs,es,h,env=>CD h fun e r h1 h2=>(star_ok (CC e h1) xs env).trans (congrArg _ (AG xs r h2 env))
theorem Am (pos:Pos) (ts:List (Sem Value)):backTo pos (ts.map fun t=>(false,t))=ts.map fun t=>(false,t):=List.map_map
theorem kw_val (pos:Pos) (env:Env):∀(ks:List Keyword),(backToKw pos (keywordEach ks env)).map (·.2)=(evalEach (ks.map (·.value)) env).map (fun t=>do let v <- t;standAt pos;pure v)
  | []=>rfl
  | ⟨none,_,_⟩::ks | ⟨some _,_,_⟩::ks=>by
    show _::(backToKw pos (keywordEach ks env)).map (·.2)=_;rw [kw_val pos env ks];rfl
theorem kw_nam (pos:Pos) (env:Env):∀(ks:List Keyword),(backToKw pos (keywordEach ks env)).map (·.1)=ks.map (·.arg)
  | []=>rfl
  | ⟨none,_,_⟩::ks | ⟨some _,_,_⟩::ks=>by
    show _::(backToKw pos (keywordEach ks env)).map (·.1)=_;rw [kw_nam pos env ks];rfl
end
section
variable {P:Params} {hO:Heap} {σ:St} {μ:Mu} {h:Heap}
theorem Bf {d:Addr} {q:Addr×Addr} (hq:q.2=d) {b:Addr}:b∈cells (μ.add q) ↔ b∈cells (μ.hide d):=by
  unfold cells pcells Mu.add Mu.hide;simp only [List.map_append,List.map_cons,List.map_nil,List.mem_append,List.mem_cons,hq,List.not_mem_nil,or_false];constructor
  . rintro ((h | h) | h)<;>simp [h]
  . rintro (h | h | h)<;>simp [h]
theorem Kp.own {d:Addr} {q:Addr×Addr} (hq:q.2=d):Kp (μ.hide d) h (μ.add q) h:=
  ⟨fun i p e=>by show (μ.ps++[q])[i]? = some p;have e':μ.ps[i]? = some p:=e;rw [List.getElem?_append_left (List.getElem?_eq_some_iff.mp e').1];exact e',fun a o ha e=>⟨fun hm=>ha ((Bf hq).mp hm),e⟩⟩
theorem Rel.own {d:Addr} (r:Rel P hO σ (μ.hide d) h) {q:Addr×Addr} (hq:q.2=d) {o:O} (ho:OR P h (μ.add q) q o):Rel P hO (σ++[o]) (μ.add q) h:=by
  refine ⟨r.keep,by have:=r.len;simp [Mu.add,Mu.hide] at this ⊢;exact this,fun i o' p e1 e2=>?_,fun b hb=>r.new b ((Bf hq).mp hb),?_,r.low,fun b hb=>r.exl b (List.mem_cons_of_mem _ hb)⟩
  . have e2:(μ.ps++[q])[i]? = some p:=e2;have hl:μ.ps.length=σ.length:=r.len
    by_cases hi:i < σ.length
    . rw [List.getElem?_append_left hi] at e1;rw [List.getElem?_append_left (by rw [hl];exact hi)] at e2
      exact (r.obj i o' p e1 e2).kp (Kp.own hq) (fun _ e=>e)
    . have hi':i=σ.length:=by
        have:=(List.getElem?_eq_some_iff.mp e1).1
        simp at this;omega
      subst hi';rw [List.getElem?_append_right (Nat.le_refl _)] at e1;rw [<- hl,List.getElem?_append_right (Nat.le_refl _)] at e2;simp at e1 e2;subst e1 e2;exact ho
  . have z:=r.nodup;unfold cells pcells Mu.add Mu.hide at *;dsimp only at z ⊢;rw [List.map_append,List.map_singleton,List.append_assoc,hq];exact z
end
section
variable {prog:Program} {w:World} {K:Frag} {hO:Heap} {T:Tab} {C:Calls} {A:Around} {σ σ':St} {μ:Mu} {s:Shared} {E:Value->Shared->Prop} {env:Env} {ρ:L} {m:Str->Option Value}
theorem Cx.X (TK:TabOk prog w K hO T) (X:Cx A w hO env μ s σ ρ m):K.In s.heap:=X.r.X TK
theorem nf {b:Bool} (h:(!b)=true):b=false:=match b,h with | false,_=>rfl
@[elab_as_elim] theorem GO {sc:Scope} {P:Str->Prop} {x:String} {y:Str} (h:ckN sc x y=true) (t:(Str.ofString x==("__debug__" : Str))=false->(Str.ofString x==("__classdict__" : Str))=false->P (Str.ofString x)):P y:=
  bq (P:=fun y=>(!(y==("__debug__" : Str))&&!(y==("__classdict__" : Str)))=true->((y==("__debug__" : Str))=false->(y==("__classdict__" : Str))=false->P y)->P y) (aL h) (fun h t=>t (nf (aL h)) (nf (aR h))) (aR h) (eq_of_beq (aL h)▸t)
@[elab_as_elim] theorem GP {sc:Scope} {P:Str->Prop} {x:String} {y:Str} (h:ckG sc x y=true) (t:(Str.ofString x==("__debug__" : Str))=false->sc.names.lookup (Str.ofString x)=some .globalImplicit->P (Str.ofString x)):P y:=
  bq (P:=fun y=>(!(y==("__debug__" : Str))&&sc.names.lookup y==some .globalImplicit)=true->((y==("__debug__" : Str))=false->sc.names.lookup y=some .globalImplicit->P y)->P y) (aL h) (fun h t=>t (nf (aL h)) (eq_of_beq (aR h))) (aR h) (eq_of_beq (aL h)▸t)
theorem loc_ok (X:Cx A w hO env μ s σ ρ m) {x:String} {y:Str} {p:Pos} {v:V} (hc:ckN env.scope x y=true) (e:lk ρ x=some v):Ok prog w hO A (eval (.Name y p) env) μ s v σ:=by
  refine GO hc fun hd hn=>?_
  refine (X.f.lr x v e).elim fun c hr=>?_
  refine Ok.mk fun Q E k=>?_
  have fin:Q c s:=k c s μ (Step.refl μ s) X.r hr.2;refine wpAny_Name ?_ hd;refine hr.1.elim (fun h=>?_) fun h=>h.2.elim fun a ha=>?_
  . exact wpAny_loadName_local X.f.kind h.1 X.f.ns h.2 fin
  . exact h.1.elim (fun hk=>wpAny_loadName_cell X.f.kind hk ha.1 ha.2 fin) fun hk=>wpAny_loadName_free X.f.kind hk ha.1 ha.2 fin hn
theorem globv {x:String} {y:Str} {p:Pos} {mg:Str->Option Value} {v:Value} {Q:Value->Shared->Prop} (X:Cx A w hO env μ s σ ρ m) (hc:ckG env.scope x y=true) (G:hO.Ns mainGlobals mg) (hv:mg (Str.ofString x)=some v) (h:Q v s) :
    wpAny (model prog w) A (eval (.Name y p) env) Q E s:=
  GP hc fun hd hl=>Calls.Name_function_global X.f.kind hl (Calls.loadGlobal_global (X.f.glob.symm▸G.keeps X.r.keep) hv h) hd
theorem globb {x:String} {y:Str} {p:Pos} {mg mb:Str->Option Value} {v:Value} {Q:Value->Shared->Prop} (X:Cx A w hO env μ s σ ρ m) (hc:ckG env.scope x y=true) (G:hO.Ns mainGlobals mg) (hn:mg (Str.ofString x)=none) (B:hO.Ns builtinsNs mb) (hv:mb (Str.ofString x)=some v) (h:Q v s) :
    wpAny (model prog w) A (eval (.Name y p) env) Q E s:=
  GP hc fun hd hl=>Calls.Name_function_global X.f.kind hl (Calls.loadGlobal_builtin (X.f.glob.symm▸G.keeps X.r.keep) hn (X.f.blt.symm▸B.keeps X.r.keep) hv h) hd
theorem glo_ok (TK:TabOk prog w K hO T) (X:Cx A w hO env μ s σ ρ m) {x:String} {y:Str} {p:Pos} {v:V} (hc:ckG env.scope x y=true) (e:T.glo x=some v):Ok prog w hO A (eval (.Name y p) env) μ s v σ:=by
  obtain ⟨mg,mb,G,B,h1,_⟩:=TK.names;refine (h1 _ _ e).elim fun c h=>?_
  exact Ok.mk fun Q E k=>globv X hc G h.1 (k c s μ (Step.refl μ s) X.r (h.2.here X.r))
theorem BC {l:List Nat} {x:Str} (h:(x.cps.toList==l)=true):x=S l:=by
  obtain ⟨a⟩:=x;unfold S
  congr 1
  exact Array.toList_inj.mp (by simpa using h)
theorem cst_ok (r:Rel w.params hO σ μ s.heap) {v:V} {c:Const} {k:Nat} {p:Pos} (hc:ckC v c=true):Ok prog w hO A (eval (.Constant c k p) env) μ s v σ:=by
  cases v with
  | none=>cases c<;>first | exact nt hc | exact Ok.plain r fun Q E h=>wpAny_Constant_none (h _ s.toks rfl)
  | bool a=>cases c<;>first | exact nt hc | exact eq_of_beq hc▸Ok.plain r fun Q E h=>wpAny_Constant_bool (h _ s.toks rfl)
  | int a=>cases c<;>first | exact nt hc | exact eq_of_beq hc▸Ok.plain r fun Q E h=>wpAny_Constant_int (h _ _ ⟨_,rfl⟩)
  | str l=>cases c<;>first | exact nt hc | exact (BC hc).symm▸Ok.plain r fun Q E h=>wpAny_Constant_str (h _ _ ⟨_,rfl⟩)
  | _=>exact nt hc
theorem Bt {o:Expr} {n:Str} {t:Sem Value} (h:plainBase o=true):attributeBase o n env t=t:=by
  cases o<;>first | rfl | (rename_i f _ _ _;cases f<;>first | rfl | exact nt h)
theorem Av {P:Heap->Prop} {pos:Pos} {f:Value} {first:List Value} {ts:List (Sem Value)} {kws:List (Option Str×Sem Value)} {Q:Value->Shared->Prop} (hall:kws.all (·.1.isSome)=true)
    (hk:∀h,P h->∃k,(k=Keeper.frame∨k=Keeper.machine∨k=Keeper.boundFrame)/\Looks (model prog w) h (keeperOf f) k)
    (h:wpAny (model prog w) A (spliced (ts.map fun t=>(false,t))) (fun vs s₁=>wpAny (model prog w) A (evalAll (kws.map (·.2))) (fun ks s₂=>P s₂.heap/\wpAny (model prog w) A (call f (first++vs) ((kws.filterMap (·.1)).zip ks)) Q E s₂) E s₁) E s) :
    wpAny (model prog w) A (callWith pos f first (ts.map fun t=>(false,t)) kws) Q E s:=by
  have hn:kws.any (·.1.isNone)=false:=by
    rw [List.any_eq_false];intro x hx
    have:=List.all_eq_true.mp hall x hx
    cases q:x.1<;>simp_all
  refine callWith_of (P:=P) ?_ hk ?_
  . rw [hn,Bool.or_false,List.any_eq_false];intro x hx;obtain ⟨t,_,rfl⟩:=List.mem_map.mp hx;exact Bool.false_ne_true
  . unfold evalArgs;cases ts with
    | nil=>
      show wpAny _ _ (spliced []>>=_) _ _ s;refine wpAny_bind (wpAny_mono h (fun vs s₁ h₁=>?_) fun _ _ x=>x)
      refine wpAny_holding ?_
      simp only [hall,if_true];exact wpAny_bind (wpAny_mono h₁ (fun ks s₂ h₂=>wpAny_bind (wpAny_pure (wpAny_pure h₂))) fun _ _ x=>x)
    | cons t ts=>
      show wpAny _ _ (spliced ((false,t)::ts.map fun t=>(false,t))>>=_) _ _ s
      refine wpAny_bind (wpAny_mono h (fun vs s₁ h₁=>?_) fun _ _ x=>x)
      refine wpAny_holding ?_
      simp only [hall,if_true];exact wpAny_bind (wpAny_mono h₁ (fun ks s₂ h₂=>wpAny_bind (wpAny_pure (wpAny_pure h₂))) fun _ _ x=>x)
end
section
variable (prog:Program) (w:World) (hO:Heap) (T:Tab) (C:Calls) (n:Nat)
noncomputable def EvOk (e:ME):Prop:=∀{x:Expr} {env:Env} {ρ:L} {σ:St} {v:V} {σ':St} {A:Around} {μ:Mu} {s:Shared} {m:Str->Option Value},ckE env.scope e x=true->ev T C e ρ σ=some (v,σ')->Bud A n->Cx A w hO env μ s σ ρ m->Ok prog w hO A (eval x env) μ s v σ'
noncomputable def EvsOk (e:ME):Prop:=∀{xs:List Expr} {env:Env} {ρ:L} {σ:St} {vs:List V} {σ':St} {A:Around} {μ:Mu} {s:Shared} {m:Str->Option Value},ckL env.scope e xs=true->evs T C e ρ σ=some (vs,σ')->Bud A n->Cx A w hO env μ s σ ρ m->Runs prog w hO A (evalEach xs env) μ s vs σ'
noncomputable def EvBOk (e:ME):Prop:=∀{xs:List Expr} {o:BoolOp} {pos:Pos} {env:Env} {ρ:L} {σ:St} {v:V} {σ':St} {A:Around} {μ:Mu} {s:Shared} {m:Str->Option Value},ckL env.scope e xs=true->evB T C o e ρ σ=some (v,σ')->Bud A n->Cx A w hO env μ s σ ρ m->Ok prog w hO A (boolOp pos o (evalEach xs env)) μ s v σ'
noncomputable def TrOk (e:ME):Prop:=∀{x:Expr} {env:Env} {ρ:L} {σ:St} {v:V} {b:Bool} {σ':St} {A:Around} {μ:Mu} {s:Shared} {m:Str->Option Value},ckE env.scope e x=true->ev T C e ρ σ=some (v,σ')->truth σ' v=some b->Bud A n->Cx A w hO env μ s σ ρ m->OkB prog w hO A (isTrue x env (eval x env)) μ s b σ'
noncomputable def TrBOk (e:ME):Prop:=∀{xs:List Expr} {o:BoolOp} {env:Env} {ρ:L} {σ:St} {v:V} {b:Bool} {σ':St} {A:Around} {μ:Mu} {s:Shared} {m:Str->Option Value},ckL env.scope e xs=true->evB T C o e ρ σ=some (v,σ')->truth σ' v=some b->Bud A n->Cx A w hO env μ s σ ρ m->OkB prog w hO A (allTrue o xs env) μ s b σ'
end
section
variable {prog:Program} {w:World} {K:Frag} {hO:Heap} {T:Tab} {C:Calls} {n:Nat} {A:Around} {σ σ':St} {μ:Mu} {s:Shared} {env:Env} {ρ:L} {m:Str->Option Value} {x:Expr} {v:V}
theorem AX {es:ME} (ih:(EvsOk prog w hO T C n) es) {xs:List Expr} {vs:List V} (pos:Pos) (hc:ckL env.scope es xs=true) (e:evs T C es ρ σ=some (vs,σ')) (B:Bud A n) (X:Cx A w hO env μ s σ ρ m) :
    OkS prog w hO A (spliced ((evalEach xs env).map fun t=>(false,t))) μ s vs σ':=(ih hc e B X).spliced
theorem arm_attr (TK:TabOk prog w K hO T) {e:ME} {nm:String} (ih:(EvOk prog w hO T C n) e) (hc:ckE env.scope (.attr e nm) x=true) (he:ev T C (.attr e nm) ρ σ=some (v,σ')) (B:Bud A n) (X:Cx A w hO env μ s σ ρ m):Ok prog w hO A (eval x env) μ s v σ':=by
  refine ck_attr hc fun e' p h2 h1=>bd2 he fun a σ1 e1 he=>mpx he fun y e2=>Ok.mk fun Q E k=>?_
  rw [arm_eval_Attribute,Bt h2];refine wpAny_bind (ih h1 e1 B X _ _ fun c1 s1 μ1 st1 r1 v1 tk1=>wpAny_bind (wpAny_standAt (wpAny_bind (wpAny_holding ?_))))
  refine GI TK r1 v1 e2 _ _ fun c2 s2 μ2 st2 r2 v2 tk2=>wpAny_bind (wpAny_letTemporaryGo (wpAny_pure ?_))
  exact k _ _ _ (st1.trans st2) r2 v2
theorem arm_bin {mm:Bool} {o:Operator} {l r:ME} (ihl:(EvOk prog w hO T C n) l) (ihr:(EvOk prog w hO T C n) r) (hc:ckE env.scope (.bin mm o l r) x=true) (he:ev T C (.bin mm o l r) ρ σ=some (v,σ')) (B:Bud A n) (X:Cx A w hO env μ s σ ρ m):Ok prog w hO A (eval x env) μ s v σ':=by
  refine ck_bin hc fun l' r' p h1 h2=>bd2 he fun a σ1 e1 he=>bd2 he fun b σ2 e2 he=>Ok.mk fun Q E k=>?_
  exact wpAny_BinOp (ihl h1 e1 B X _ _ fun c1 s1 μ1 st1 r1 v1 tk1=>ihr h2 e2 B (X.step st1 r1 tk1) _ _ fun c2 s2 μ2 st2 r2 v2 tk2=>
    bin_ok r2 (v1.step st2) v2 he _ _ fun c3 s3 μ3 st3 r3 v3 tk3=>k _ _ _ ((st1.trans st2).trans st3) r3 v3)
theorem arm_neg {e:ME} (ih:(EvOk prog w hO T C n) e) (hc:ckE env.scope (.neg e) x=true) (he:ev T C (.neg e) ρ σ=some (v,σ')) (B:Bud A n) (X:Cx A w hO env μ s σ ρ m):Ok prog w hO A (eval x env) μ s v σ':=by
  refine ck_neg hc fun e' p hc=>bd2 he fun a σ1 e1 he=>?_
  refine mpx he fun i qi=>Ok.mk fun Q E k=>?_
  refine wpAny_UnaryOp (ih hc e1 B X _ _ fun c1 s1 μ1 st1 r1 v1 tk1=>VR.i (Aq qi▸v1:VR w.params s1.heap μ1 (.int i) c1) fun t=>?_)
  exact P.neg_int (k _ _ μ1 (st1.trans (Step.toks _ _ _)) r1 ⟨_,rfl⟩)
theorem arm_not {e:ME} (ih:(EvOk prog w hO T C n) e) (hc:ckE env.scope (.not e) x=true) (he:ev T C (.not e) ρ σ=some (v,σ')) (B:Bud A n) (X:Cx A w hO env μ s σ ρ m):Ok prog w hO A (eval x env) μ s v σ':=by
  refine ck_not hc fun e' p hc=>bd2 he fun a σ1 e1 he=>mpx he fun b e2=>Ok.mk fun Q E k=>?_
  refine wpAny_UnaryOp (ih hc e1 B X _ _ fun c1 s1 μ1 st1 r1 v1 tk1=>?_)
  refine wpAny_holding ?_
  show wpAny _ _ (truthy c1>>=fun t=>pure (Value.bool (!t))) _ _ _
  refine wpAny_bind (Cy r1 v1 e2 _ _ fun s2 μ2 st2 r2 tk2=>wpAny_pure ?_)
  exact k _ _ _ (st1.trans st2) r2 rfl
theorem marks_ok {x:Expr} {o:CmpOp} (h:okX x=true):behindInMarks o x=false:=by
  cases x<;>first | rfl | exact nt h
theorem A1 {e:ME} {o:CmpOp} (hc:ckE env.scope e x=true):behindInMarks o x=false:=by
  exact marks_ok (CC e hc)
theorem Bud.u9 (B:Bud A n):A.units+9 < cLine:=Nat.lt_of_le_of_lt (Nat.le_trans (Nat.add_le_add_left (by decide:9<=710) _) (Nat.add_le_add_right (Nat.le_add_right _ _) _)) B.units
theorem arm_cmp (TK:TabOk prog w K hO T) {o:CmpOp} {l r:ME} (ihl:(EvOk prog w hO T C n) l) (ihr:(EvOk prog w hO T C n) r) (hc:ckE env.scope (.cmp o l r) x=true) (he:ev T C (.cmp o l r) ρ σ=some (v,σ')) (B:Bud A n) (X:Cx A w hO env μ s σ ρ m):Ok prog w hO A (eval x env) μ s v σ':=by
  refine ck_cmp hc fun l' r' p h1 h2=>bd2 he fun a σ1 e1 he=>bd2 he fun b σ2 e2 he=>mpx he fun t e3=>Ok.mk fun Q E k=>?_
  exact wpAny_Compare1 (hm:=A1 h2) (ihl h1 e1 B X _ _ fun c1 s1 μ1 st1 r1 v1 tk1=>ihr h2 e2 B (X.step st1 r1 tk1) _ _ fun c2 s2 μ2 st2 r2 v2 tk2=>
    BS TK r2 (v1.step st2) v2 e3 B.u9 _ _ fun tk=>k _ _ _ ((st1.trans st2).trans (Step.toks _ _ _)) r2 rfl)
theorem arm_cmp2 (TK:TabOk prog w K hO T) {o o':CmpOp} {a b c:ME} (iha:(EvOk prog w hO T C n) a) (ihb:(EvOk prog w hO T C n) b) (ihc:(EvOk prog w hO T C n) c) (hc:ckE env.scope (.cmp2 o o' a b c) x=true) (he:ev T C (.cmp2 o o' a b c) ρ σ=some (v,σ')) (B:Bud A n) (X:Cx A w hO env μ s σ ρ m):Ok prog w hO A (eval x env) μ s v σ':=by
  refine GK hc fun l' r1 r2 p h1 h2 h3=>bd2 he fun av σ1 e1 he=>bd2 he fun bv σ2 e2 he=>bd he fun t e3 he=>Ok.mk fun Q E k=>?_
  refine Compare_chain (hm:=A1 h3) (iha h1 e1 B X _ _ fun c1 s1 μ1 st1 r1 v1 tk1=>chain_link (ihb h2 e2 B (X.step st1 r1 tk1) _ _ fun c2 s2 μ2 st2 r2 v2 tk2=>?_))
  refine Ah (BS TK r2 (v1.step st2) v2 e3 B.u9 _ _ fun tk htk=>wpAny_truthy_bool ?_)
  have tk12:s.toks<=tk:=Nat.le_trans tk1 (Nat.le_trans tk2 htk);have st12:Step μ s μ2 { s2 with toks:=tk }:=(st1.trans st2).trans (Step.toks _ _ _)
  cases t with
  | false=>exact sm2 (P:=fun v σ'=>(∀c s' μ',Step μ s μ' s'->Rel w.params hO σ' μ' s'.heap->VR w.params s'.heap μ' v c->Q c s')->_) he (fun k=>k _ _ _ st12 r2 rfl) k
  | true=>
    refine bd2 he fun zv σ3 e4 he=>?_
    refine mpx (P:=fun v σ'=>(∀c s' μ',Step μ s μ' s'->Rel w.params hO σ' μ' s'.heap->VR w.params s'.heap μ' v c->Q c s')->_) he (fun u e5 k=>?_) k
    refine chain_last (ihc h3 e4 B (X.step st12 r2 tk12) _ _ fun c3 s3 μ3 st3 r3 v3 tk3=>?_)
    have st23:Step μ2 s2 μ3 s3:=(Step.toks _ _ _).trans st3;exact BS TK r3 (v2.step st23) v3 e5 B.u9 _ _ fun tk=>k _ _ _ ((st12.trans st3).trans (Step.toks _ _ _)) r3 rfl
theorem arm_sub (TK:TabOk prog w K hO T) {l i:ME} (ihl:(EvOk prog w hO T C n) l) (ihr:(EvOk prog w hO T C n) i) (hc:ckE env.scope (.sub l i) x=true) (he:ev T C (.sub l i) ρ σ=some (v,σ')) (B:Bud A n) (X:Cx A w hO env μ s σ ρ m):Ok prog w hO A (eval x env) μ s v σ':=by
  refine ck_sub hc fun l' i' p h3 h1 h2=>bd2 he fun a σ1 e1 he=>bd2 he fun b σ2 e2 he=>mpx he fun y e3=>Ok.mk fun Q E k=>?_
  exact Subscript_ (ihl h1 e1 B X _ _ fun c1 s1 μ1 st1 r1 v1 tk1=>ihr h2 e2 B (X.step st1 r1 tk1) _ _ fun c2 s2 μ2 st2 r2 v2 tk2=>
    sub_ok TK r2 (v1.step st2) v2 e3 (fun l u p q=>by subst q;exact nt h3) _ _ fun c3 s3 μ3 st3 r3 v3 tk3=>k _ _ _ ((st1.trans st2).trans st3) r3 v3)
theorem isN_eq {e:ME} (h:isN e=true):e=.cst .none:=by
  cases e with
  | cst u=>cases u<;>first | rfl | exact nt h
  | _=>exact nt h
theorem isN_ok {e:ME} (h:isN e=true) (he:ev T C e ρ σ=some (v,σ')) {P:V->St->Prop} (k:P .none σ):P v σ':=sm2 (isN_eq h▸he:ev T C (.cst .none) ρ σ=some (v,σ')) k
theorem opt_ok {e:ME} {o:Option Expr} (ih:(EvOk prog w hO T C n) e) (hc:op o (isN e) (ckE env.scope e)=true) (he:ev T C e ρ σ=some (v,σ')) (B:Bud A n) (X:Cx A w hO env μ s σ ρ m):Ok prog w hO A (evalPart o env) μ s v σ':=by
  cases o with
  | none=>
    rw [evalPart_none];exact isN_ok hc he <| Ok.mk fun Q E k=>wpAny_pure (k _ _ _ (Step.refl _ _) X.r rfl)
  | some y=>
    rw [evalPart_some];exact ih hc he B X
theorem arm_slc {a l u:ME} (iha:(EvOk prog w hO T C n) a) (ihl:(EvOk prog w hO T C n) l) (ihu:(EvOk prog w hO T C n) u) (hc:ckE env.scope (.slc a l u) x=true) (he:ev T C (.slc a l u) ρ σ=some (v,σ')) (B:Bud A n) (X:Cx A w hO env μ s σ ρ m):Ok prog w hO A (eval x env) μ s v σ':=by
  refine ck_slc hc fun a' l' u' p p' h1 h2 h3=>bd2 he fun av σ1 e1 he=>bd2 he fun lv σ2 e2 he=>bd2 he fun uv σ3 e3 he=>mpx he fun y e4=>Ok.mk fun Q E k=>?_
  refine Subscript_ (iha h1 e1 B X _ _ fun c1 s1 μ1 st1 r1 v1 tk1=>wpAny_Slice (opt_ok ihl h2 e2 B (X.step st1 r1 tk1) _ _ fun c2 s2 μ2 st2 r2 v2 tk2=>
    opt_ok ihu h3 e3 B ((X.step st1 r1 tk1).step st2 r2 tk2) _ _ fun c3 s3 μ3 st3 r3 v3 tk3=>?_))
  rw [evalPart_none];refine wpAny_pure ?_
  exact slc_ok r3 ((v1.step st2).step st3) (v2.step st3) v3 e4 _ _ fun c4 s4 μ4 st4 r4 v4=>k _ _ _ (((st1.trans st2).trans st3).trans st4) r4 v4
theorem arm_boo {o:BoolOp} {es:ME} (ih:EvBOk prog w hO T C n es) (hc:ckE env.scope (.boo o es) x=true) (he:ev T C (.boo o es) ρ σ=some (v,σ')) (B:Bud A n) (X:Cx A w hO env μ s σ ρ m):Ok prog w hO A (eval x env) μ s v σ':=by
  refine ck_boo hc fun xs p h2=>?_
  rw [arm_eval_BoolOp];exact ih h2 he B X
theorem arm_tup {es:ME} (ih:(EvsOk prog w hO T C n) es) (hc:ckE env.scope (.tup es) x=true) (he:ev T C (.tup es) ρ σ=some (v,σ')) (B:Bud A n) (X:Cx A w hO env μ s σ ρ m):Ok prog w hO A (eval x env) μ s v σ':=by
  refine ck_tup hc fun xs kk p hc=>bd2 he fun vs σ1 e1 he=>ifs he fun hz he=>sm2 he <| Ok.mk fun Q E k=>?_
  refine wpAny_Tuple ?_
  rw [AG _ _ hc,Am];refine AX ih ⟨0,0,0,0⟩ hc e1 B X _ _ fun cs s1 μ1 st1 r1 v1 tk1=>⟨by rw [v1.len,<- A2];exact hz,?_⟩
  exact k _ _ μ1 (st1.trans (AD _ rfl rfl rfl)) (r1.push _) ⟨_,cs,rfl,r1.fresh,⟨_,Heap.get?_push_size _ rfl,rfl,⟨_,rfl⟩⟩,v1.kp (Kp.push _)⟩
theorem arm_lst {mm:Bool} {es:ME} (ih:(EvsOk prog w hO T C n) es) (hc:ckE env.scope (.lst mm es) x=true) (he:ev T C (.lst mm es) ρ σ=some (v,σ')) (B:Bud A n) (X:Cx A w hO env μ s σ ρ m):Ok prog w hO A (eval x env) μ s v σ':=by
  refine ck_lst hc fun xs p hc=>bd2 he fun vs σ1 e1 he=>Ok.mk fun Q E k=>?_
  refine List_ ?_
  rw [AG _ _ hc,Am];refine AX ih ⟨0,0,0,0⟩ hc e1 B X _ _ fun cs s1 μ1 st1 r1 v1 tk1=>?_
  refine E1 r1 v1 he (fun Q E hz k=>?_) _ _ fun c2 s2 μ2 st2 r2 v2 tk2=>k _ _ _ (st1.trans st2) r2 v2
  exact wpAny_newObj_type (k s1.toks) (by show cs.toArray.size<=sizeLine;rw [List.size_toArray];exact hz)
end
theorem Et {k:List Nat} {v:V}:∀{es:List (List Nat×V)},k∉es.map Prod.fst->putD es k v=es++[(k,v)]
  | [],_=>rfl
  | e::es,h=>by
    have h1:¬e.1=k:=fun q=>h (by rw [<- q];simp)
    have h2:k∉es.map Prod.fst:=fun q=>h (by simp only [List.map_cons,List.mem_cons];exact .inr q)
    unfold putD;rw [if_neg h1,Et h2];rfl
section
variable {prog:Program} {w:World} {K:Frag} {hO:Heap} {T:Tab} {C:Calls} {n:Nat} {A:Around} {σ σ':St} {μ:Mu} {s:Shared} {env:Env} {ρ:L} {m:Str->Option Value} {x:Expr} {v:V}
noncomputable def PrOk (prog:Program) (w:World) (hO:Heap) (T:Tab) (C:Calls) (n:Nat) (e:ME):Prop:=∀{ks:List (List Nat)} {ks':List (Option Expr)} {xs:List Expr} {pos:Pos} {env:Env} {ρ:L} {σ:St} {vs:List V} {σ':St} {A:Around} {μ:Mu} {s:Shared} {m:Str->Option Value},
  ks'.map keyL=ks.map some->ckL env.scope e xs=true->ks.length=xs.length->evs T C e ρ σ=some (vs,σ')->Bud A n->Cx A w hO env μ s σ ρ m->
    ∀(Q:List (Value×Value)->Shared->Prop) (E:Value->Shared->Prop),(∀ps s' μ',Step μ s μ' s'->Rel w.params hO σ' μ' s'.heap->(∃(ts:List Tok) (cs:List Value),ts.length=ks.length/\VRs w.params s'.heap μ' vs cs/\ps=((ks.zip ts).map fun q=>Value.str (S q.1) q.2).zip cs)->Q ps s')->
      wpAny (model prog w) A (evalPairs (pairTrees ks' xs env pos)) Q E s
@[elab_as_elim] theorem keyL_inv {P:Option Expr->Prop} {o:Option Expr} {a:List Nat} (h:keyL o=some a) (t:∀kk p,P (some (.Constant (.str (S a)) kk p))):P o:=by
  cases o with
  | none=>exact nn h
  | some x=>
    cases x with
    | Constant c kk p=>cases c with
      | str x=>exact BC (l:=a) (beq_iff_eq.mpr (Option.some.inj h))▸t kk p
      | _=>exact nn h
    | _=>exact nn h
@[elab_as_elim] theorem Eu {P:List V->St->Prop} {vs:List V} (he:evs T C .nil ρ σ=some (vs,σ')) (k:P [] σ):P vs σ':=sm2 he k
@[elab_as_elim] theorem Di {a b:ME} {P:List V->St->Prop} {vs:List V} (he:evs T C (.cons a b) ρ σ=some (vs,σ')) (k:∀v σ1 vs' σ2,ev T C a ρ σ=some (v,σ1)->evs T C b ρ σ1=some (vs',σ2)->P (v::vs') σ2):P vs σ':=
  bd2 he fun v σ1 e1 he=>mp2 he fun vs' σ2 e2 h=>(Prod.mk.inj h).1▸(Prod.mk.inj h).2▸k v σ1 vs' σ2 e1 e2
theorem pr_nil (prog:Program) (w:World) (hO:Heap) (T:Tab) (C:Calls) (n:Nat):PrOk prog w hO T C n .nil:=by
  intro ks ks' xs pos env ρ σ vs σ' A μ s m hk hc hl he B X;have h1:xs=[]:=Al (P:=fun xs=>xs=[]) hc rfl
  have h2:ks=[]:=List.length_eq_zero_iff.mp (hl.trans (congrArg List.length h1));have h3:ks'=[]:=List.map_eq_nil_iff.mp (hk.trans (congrArg (List.map some) h2));rw [h2,h3];exact Eu he fun Q E k=>evalPairs_nil (k [] s μ (Step.refl _ _) X.r ⟨[],[],rfl,rfl,rfl⟩)
theorem pr_cons {a b:ME} (iha:(EvOk prog w hO T C n) a) (ihb:PrOk prog w hO T C n b):PrOk prog w hO T C n (.cons a b):=by
  intro ks ks' xs pos env ρ σ vs σ' A μ s m hk hc hl he B X;revert hl;refine AK (hc:lc xs _=true) fun x xs hc hl=>?_
  cases ks with
  | nil=>cases hl
  | cons a' ks=>
    cases ks' with
    | nil=>cases hk
    | cons k1 ks'=>
      refine keyL_inv (List.cons.inj hk).1 fun kk p=>Di he fun v σ1 vs' σ2 e1 e2 Q E k=>?_
      refine evalPairs_cons (wpAny_Constant_str (wpAny_bind ?_));refine iha (aL hc) e1 B (X.step (Step.toks _ _ (s.toks+1)) X.r (Nat.le_succ _)) _ _ fun c1 s1 μ1 st1 r1 v1 tk1=>wpAny_bind (wpAny_standAt (wpAny_pure ?_))
      have st1':Step μ s μ1 s1:=(Step.toks _ _ _).trans st1;refine ihb (List.cons.inj hk).2 (aR hc) (Nat.succ.inj hl) e2 B (X.step st1' r1 (Nat.le_trans (Nat.le_succ _) tk1)) _ _ fun ps s2 μ2 st2 r2 ⟨ts,cs,h1,h2,h3⟩=>?_
      exact k _ _ _ (st1'.trans st2) r2 ⟨s.toks::ts,c1::cs,congrArg (· + 1) h1,⟨c1,cs,rfl,v1.step st2,h2⟩,congrArg (List.cons _) h3⟩
theorem Ev {d:Addr}:∀(ks:List (List Nat)) (ts:List Tok) (vs:List V) (cs:List Value) (es:List (List Nat×V)) (ces:List DictEntry) (k:Nat) (s:Shared),s.heap.get? d=some (dictOf ces k)->VRd w.params s.heap μ es ces->d∈μ.ex->
    VRs w.params s.heap μ vs cs->ts.length=ks.length->ks.length=vs.length->(es.map Prod.fst++ks).Nodup->es.length+ks.length<=100->
    ∀(Q:PUnit->Shared->Prop) (E:Value->Shared->Prop),(∀h' k' ces' tk,(∀b o,b≠d->s.heap.get? b=some o->h'.get? b=some o)->h'.get? d=some (dictOf ces' k')->VRd w.params h' μ (es++ks.zip vs) ces'->Q PUnit.unit { s with heap:=h',toks:=tk })->
      wpAny (model prog w) A (storeAll d (((ks.zip ts).map fun q=>Value.str (S q.1) q.2).zip cs)) Q E s
  | [],ts,vs,cs,es,ces,k,s,ho,hv,hd,hvs,h1,h2,h3,h4,Q,E,kk=>by
    have:vs=[]:=List.length_eq_zero_iff.mp h2.symm
    subst this;show wpAny _ _ (pure PUnit.unit) _ _ _;refine wpAny_pure (kk s.heap k ces s.toks (fun _ _ _ e=>e) ho ?_)
    simpa using hv
  | a::ks,[],_,_,_,_,_,_,_,_,_,_,h1,_,_,_,_,_,_=>by simp at h1
  | a::ks,t::ts,[],_,_,_,_,_,_,_,_,_,_,h2,_,_,_,_,_=>by simp at h2
  | a::ks,t::ts,v::vs,cs,es,ces,k,s,ho,hv,hd,hvs,h1,h2,h3,h4,Q,E,kk=>by
    obtain ⟨c,cs',rfl,hv1,hvs'⟩:=hvs;have hn:a∉es.map Prod.fst:=fun hm=>(List.nodup_append.mp h3).2.2 a hm a List.mem_cons_self rfl
    have e0:(((a::ks).zip (t::ts)).map fun q=>Value.str (S q.1) q.2).zip (c::cs')=(Value.str (S a) t,c)::((ks.zip ts).map fun q=>Value.str (S q.1) q.2).zip cs':=rfl
    rw [e0];unfold storeAll;rw [List.forIn_cons];refine wpAny_bind (wpAny_bind (C9 ho hv.strK ?_ fun h' k' hs hd'=>wpAny_pure ?_))
    . rw [hv.len,sizeLine_eq];simp at h4;omega
    show wpAny _ _ (storeAll d _) _ _ _;have hs':∀b o,b≠d->s.heap.get? b=some o->h'.get? b=some o:=fun b o hb e=>(hs.2 b hb).trans e
    have kp:Kp μ s.heap μ h':=Kp.change hd hs';have hv':=(hv.put (n:=a) (t:=t) hv1).kp kp;rw [Et hn] at hv';refine Ev ks ts vs cs' (es++[(a,v)]) _ k' { s with heap:=h',toks:=s.toks+1 } hd' hv' hd (hvs'.kp kp) (by simpa using h1) (by simpa using h2) (by simpa using h3) (by simp at h4 ⊢;omega) Q E fun h'' k'' ces'' tk hs'' hd'' hv''=>?_
    exact kk h'' k'' ces'' tk (fun b o hb e=>hs'' b o hb (hs' b o hb e)) hd'' (by simpa using hv'')
theorem Cx.hide (X:Cx A w hO env μ s σ ρ m) (o:Obj) (hf:o.isFreed=false):Cx A w hO env (μ.hide s.heap.objs.size) { s with heap:=s.heap.push o } σ ρ m:=by
  refine ⟨X.r.hide o hf,?_,⟨X.g.gens,X.g.toks,X.g.ff.keep (fun L h=>List.mem_cons_of_mem _ h) fun L o _ e=>Heap.get?_push_of_some _ e⟩,X.top⟩
  obtain ⟨a1,a2,a3,⟨ob,es,ep,ho,hd,hs,hn⟩,a5,a6,a7,ac,a8⟩:=X.f;refine ⟨a1,a2,a3,⟨ob,es,ep,Heap.get?_push_of_some _ ho,hd,hs,hn⟩,⟨List.mem_cons_of_mem _ a5.1,a5.2⟩,fun q hq=>?_,a7,ac,fun y v e=>?_⟩
  . obtain ⟨h1,h2,h3,v,⟨ob',e,z⟩⟩:=a6 q hq;exact ⟨List.mem_cons_of_mem _ h1,h2,h3,v,⟨ob',Heap.get?_push_of_some _ e,z⟩⟩
  . obtain ⟨c,hc,hv⟩:=a8 y v e;refine ⟨c,?_,hv.kp Kp.hide⟩;rcases hc with h | ⟨h,a,h1,h2⟩
    . exact .inl h
    . exact .inr ⟨h,a,h1,IsCell.of (fun o e=>Heap.get?_push_of_some _ e) h2⟩
theorem Dj:∀{ks:List (List Nat)} {ks':List (Option Expr)},ks'.map keyL=ks.map some->ks'.all (·.isSome)=true
  | _,[],_=>rfl
  | [],_::_,h=>nomatch h
  | _::_,none::_,h=>nn (List.cons.inj h).1
  | _::_,some _::_,h=>(Dj (List.cons.inj h).2:_)
theorem hid_step {s s1:Shared} {μ1:Mu} {o:Obj} (st:Step (μ.hide s.heap.objs.size) { s with heap:=s.heap.push o } μ1 s1) :
    ∃μ2,μ1=μ2.hide s.heap.objs.size/\∀h' tk,(∀b ob,b≠s.heap.objs.size->s1.heap.get? b=some ob->h'.get? b=some ob)->Step μ s μ2 { s1 with heap:=h',toks:=tk }:=by
  obtain ⟨ν,rfl,h1⟩:=st.ext;refine ⟨⟨μ.ps++ν,μ.ex⟩,rfl,fun h' tk hk=>⟨⟨ν,rfl,fun q hq=>⟨?_,(h1 q hq).2⟩⟩,fun b ob hb e=>?_,st.gens,st.os⟩⟩
  . have:=(h1 q hq).1
    cases e:s.heap.get? q.2 with
    | none=>rfl
    | some ob=>
      have h2:(s.heap.push o).get? q.2=some ob:=Heap.get?_push_of_some _ e;have h3:(s.heap.push o).get? q.2=none:=this;rw [h2] at h3;cases h3
  . have hne:b≠s.heap.objs.size:=fun q=>by rw [q,Au] at e;cases e
    rcases st.keep b ob hb (Heap.get?_push_of_some _ e) with z | ⟨z1,z2,sl,z⟩
    . exact .inl (hk b ob hne z)
    . exact .inr ⟨(List.mem_cons.mp z1).resolve_left hne,z2,sl,hk b _ hne z⟩
theorem hid_off {a:Addr} {P:Params} {h:Heap} (r:Rel P hO σ (μ.hide a) h):a∉cells μ:=fun hm=>by
  have z:=List.nodup_append.mp r.nodup;exact (List.mem_append.mp hm).elim (fun q=>z.2.2 _ q _ List.mem_cons_self rfl) (List.nodup_cons.mp z.2.1).1
theorem Step.own {s s':Shared} {μ':Mu} (st:Step μ s μ' s') {d:Addr} (h1:s.heap.get? d=none) (h2:d∉pcells μ):Step μ s (μ'.add (d,d)) s':=by
  refine st.ext.elim fun ν h=>⟨⟨ν++[(d,d)],?_,fun q hq=>?_⟩,st.keep,st.gens,st.os⟩
  . rw [h.1];exact congrArg (Mu.mk · _) (List.append_assoc _ _ _)
  . exact (List.mem_append.mp hq).elim (h.2 q) fun hq=>(List.mem_singleton.mp hq).symm▸⟨h1,h2⟩
theorem arm_dct {mm:Bool} {ks:List (List Nat)} {es:ME} (ih:PrOk prog w hO T C n es) (hc:ckE env.scope (.dct mm ks es) x=true) (he:ev T C (.dct mm ks es) ρ σ=some (v,σ')) (B:Bud A n) (X:Cx A w hO env μ s σ ρ m):Ok prog w hO A (eval x env) μ s v σ':=by
  refine ck_dct hc fun ks' xs p h1 h2 h3 h4 h5=>bd2 he fun vs σ1 e1 he=>ifs he fun hlen he=>ifs he fun hz he=>?_
  have h1:=eq_of_beq h1;have hk2:ks'.length=ks.length:=by have:=congrArg List.length h1;rwa [List.length_map,List.length_map] at this
  rw [List.map_fst_zip (Nat.le_of_eq hlen)] at hz
  have fin:∀(Q:Value->Shared->Prop) (E:Value->Shared->Prop),(∀s' μ' ces k,Step μ s μ' s'->Rel w.params hO σ1 μ' s'.heap->Rel w.params hO σ1 (μ'.hide s.heap.objs.size) s'.heap->s.heap.objs.size∉cells μ'->s'.heap.get? s.heap.objs.size=some (dictOf ces k)->VRd w.params s'.heap (μ'.hide s.heap.objs.size) (ks.zip vs) ces->Q (.ref s.heap.objs.size) s')->wpAny (model prog w) A (eval (.Dict ks' xs p) env) Q E s:=fun Q E k=>by
    refine wpAny_Dict_any (Dj h1) (hk2.trans h3) (fun q=>by rw [q] at hk2;exact absurd hk2.symm (Nat.ne_of_gt h4)) (by omega) ?_
    refine ih h1 h2 h3 e1 B (X.hide emptyDict rfl) _ _ fun ps s1 μ1 st1 r1 ⟨ts,cs,t1,t2,t3⟩=>?_
    rw [t3];refine (hid_step st1).elim fun μ2 h=>?_
    have r1:=h.1▸r1;have t2:=h.1▸t2;have hin:s.heap.objs.size∈(μ2.hide s.heap.objs.size).ex:=List.mem_cons_self;refine Ev ks ts vs cs [] [] 0 s1 (st1.exact (show _∉pcells μ from A7 X.r.fresh) Hd.not_empty (Heap.get?_push_size _ rfl)) rfl hin t2 t1 hlen hz.1 (by simp only [List.length_nil,Nat.zero_add];exact Nat.le_trans (by assumption) (by decide)) _ _ fun h' k' ces' tk hs hd hv=>?_
    have r2:=r1.change hin hs ⟨_,hd⟩;exact k _ μ2 _ _ (h.2 h' tk hs) r2.unhide r2 (hid_off r2) hd hv
  cases mm with
  | false=>exact sm2 he <| Ok.mk fun Q E k=>fin Q E fun s' μ' ces k' st r r2 hoff hd hv=>k _ s' μ' st r ⟨_,ces,k',rfl,⟨X.r.size_low,by rw [List.map_fst_zip (Nat.le_of_eq hlen)];exact hz.1⟩,hoff,hd,hv.kp Kp.unhide⟩
  | true=>exact sm2 he <| Ok.mk fun Q E k=>fin Q E fun s' μ' ces k' st r r2 hoff hd hv=>k _ s' _ (st.own (Au _) (A7 X.r.fresh)) (r2.own (q:=(s.heap.objs.size,s.heap.objs.size)) rfl (o:=.dict (ks.zip vs)) ⟨⟨rfl,by rw [List.map_fst_zip (Nat.le_of_eq hlen)];exact hz.1⟩,ces,k',hd,hv.kp (Kp.own rfl)⟩) ⟨(s.heap.objs.size,s.heap.objs.size),GC r.len,rfl⟩
end
section
variable {prog:Program} {w:World} {K:Frag} {hO:Heap} {T:Tab} {C:Calls} {n:Nat} {A:Around} {σ σ':St} {μ:Mu} {s:Shared} {env:Env} {ρ:L} {m:Str->Option Value} {x:Expr} {v:V}
theorem GQ {f:Addr} (h:fnIn K f=true):keepIn K (.ref f)=true:=by
  unfold fnIn at h;unfold keepIn;split at h
  . rename_i q;dsimp only;rw [q]
  . exact nt h
theorem Bud.u100 (B:Bud A n):A.units+20 * n+700 < cLine:=Nat.lt_of_le_of_lt (Nat.add_le_add_left (by decide:700<=710) _) B.units
theorem arm_cal (TK:TabOk prog w K hO T) (CO:CallsOk prog w hO C n) {nm:String} {es:ME} (ih:(EvsOk prog w hO T C n) es) (hc:ckE env.scope (.cal nm es) x=true) (he:ev T C (.cal nm es) ρ σ=some (v,σ')) (B:Bud A n) (X:Cx A w hO env μ s σ ρ m):Ok prog w hO A (eval x env) μ s v σ':=by
  refine DI hc fun y p' xs p hg hl=>bd he fun f e0 he=>bd2 he fun vs σ1 e1 he=>TK.names.elim fun mg h=>h.elim fun mb h=>Ok.mk fun Q E k=>?_
  have hf:=h.2.2.2.1 _ _ e0;refine Call_Name (by rw [AG _ _ hl,Am]) (globv X hg h.1 hf.1 (Av (P:=fun h=>K.In h) rfl (keeps_K (GQ hf.2)) ?_))
  refine AX ih p hl e1 B X _ _ fun cs s1 μ1 st1 r1 v1 tk1=>evalAll_nil ⟨r1.X TK,?_⟩
  have X1:=X.step st1 r1 tk1;exact BB (CO _ _ _ _ _ _ he A μ1 s1 cs [] B.handled (Nat.lt_of_succ_lt B.depth) B.u100 r1 X1.g v1 rfl) _ _ fun c2 s2 μ2 st2 r2 v2 tk2=>k _ _ _ (st1.trans st2) r2 v2
theorem AV {M:Model} {h:Heap} {f:Value} (hf:∀a,f≠.ref a):Looks M h (keeperOf f) .machine:=by
  cases f<;>first | exact Looks.now | exact absurd rfl (hf _)
theorem arm_bui (TK:TabOk prog w K hO T) {nm:String} {es:ME} (ih:(EvsOk prog w hO T C n) es) (hc:ckE env.scope (.bui nm es) x=true) (he:ev T C (.bui nm es) ρ σ=some (v,σ')) (B:Bud A n) (X:Cx A w hO env μ s σ ρ m):Ok prog w hO A (eval x env) μ s v σ':=by
  refine DI hc fun y p' xs p hg hl=>ifs he fun hb he=>bd2 he fun vs σ1 e1 he=>TK.names.elim fun mg h=>h.elim fun mb h=>Ok.mk fun Q E k=>?_
  have hbv:=h.2.2.2.2.2 _ hb;have hnr:∀a,buiV nm≠.ref a:=by intro a;unfold buiV;split<;>exact nofun
  refine Call_Name (by rw [AG _ _ hl,Am]) (globb X hg h.1 hbv.1 h.2.1 hbv.2 (Av (P:=fun _=>True) rfl (fun h _=>⟨.machine,.inr (.inl rfl),AV hnr⟩) ?_))
  refine AX ih p hl e1 B X _ _ fun cs s1 μ1 st1 r1 v1 tk1=>evalAll_nil ⟨trivial,?_⟩
  exact bui_ok TK B.handled r1 v1 he _ _ fun c2 s2 μ2 st2 r2 v2 tk2=>k _ _ _ (st1.trans st2) r2 v2
theorem Ib (a:Args):(Code.builtin "type.__call__" a).frames=0:=by kernel_rfl
theorem Ic (f:Addr) (a:List Value) (k:List (Str×Value)):(Code.builtin "type.__call__" ⟨.ref f::a,k⟩).weight=1:=by kernel_rfl
theorem tc_units (a:Args):(Code.builtin "type.__call__" a).cUnits<=5:=by
  show 1+3 * (Code.builtin "type.__call__" a).frames<=5;rw [Ib];decide
theorem new_ok (TK:TabOk prog w K hO T) (CO:CallsOk prog w hO C n) {D f:Addr} {vs:List V} {cs:List Value} (B:Bud A n) (r:Rel w.params hO σ μ s.heap) (hg:Gk A μ s) (hm:makesIn K D=true) (hi:findIn K (.ref D) "__init__" = some (some (.ref f))) (hf:typeIn K (.ref f)=some (.type "function"))
    (va:VRs w.params s.heap μ vs cs) (e:C f (.obj σ.length::vs) [] (σ++[.inst D []])=some (.none,σ')):OkC prog w hO A (.call (.ref D) ⟨cs,[]⟩) μ s (.obj σ.length) σ':=by
  intro R k;have X:=r.X TK;have hu:=B.units;obtain ⟨hh,g,d,t,os⟩:=s;dsimp only at r va X hg k;refine make_core (makes_of X hm) (looks_findIn X hi) (fun self=>bind_fn X self hf) (.inl rfl) ?_
  -- the new pair
  have rh:Rel w.params hO σ (μ.hide hh.objs.size) (hh.push emptyDict):=r.hide emptyDict rfl;have rp:=rh.push (instObj D hh.objs.size)
  have hx:((hh.push emptyDict).push (instObj D hh.objs.size)).get? (hh.objs.size+1)=some (instObj D hh.objs.size):=by
    have:=Heap.get?_push_size (hh.push emptyDict) (o:=instObj D hh.objs.size) rfl
    rwa [Heap.size_push] at this
  have hd:((hh.push emptyDict).push (instObj D hh.objs.size)).get? hh.objs.size=some emptyDict:=Heap.get?_push_of_some _ (Heap.get?_push_size _ rfl)
  have hxo:hh.objs.size+1∉cells (μ.hide hh.objs.size):=by
    have:=rh.fresh
    rwa [Heap.size_push] at this
  have rn:=rp.own (q:=(hh.objs.size+1,hh.objs.size)) rfl (o:=.inst D []) ⟨hx,fun q=>hxo ((Bf rfl).mp q),[],0,hd,rfl⟩
  have kp:Kp μ hh (μ.add (hh.objs.size+1,hh.objs.size)) ((hh.push emptyDict).push (instObj D hh.objs.size)):=by
    refine ⟨fun i p e=>by show (μ.ps++[_])[i]? = some p;rw [List.getElem?_append_left (List.getElem?_eq_some_iff.mp e).1];exact e,fun a o ha e=>⟨fun hm=>?_,Heap.get?_push_of_some _ (Heap.get?_push_of_some _ e)⟩⟩
    have:=(Bf rfl).mp hm
    rcases List.mem_append.mp this with q | q
    . exact A7 ha q
    . rcases List.mem_cons.mp q with q | q
      . rw [q,Au] at e;cases e
      . exact ha (List.mem_append_right _ q)
  have st0:Step μ ⟨hh,g,d,t,os⟩ (μ.add (hh.objs.size+1,hh.objs.size)) ⟨(hh.push emptyDict).push (instObj D hh.objs.size),g,d,t,os⟩:=
    ⟨⟨[_],rfl,fun q hq=>by rw [List.mem_singleton.mp hq];exact ⟨Au _,A7 r.fresh⟩⟩,fun b o _ e=>.inl (Heap.get?_push_of_some _ (Heap.get?_push_of_some _ e)),rfl,rfl⟩
  have hself:VR w.params ((hh.push emptyDict).push (instObj D hh.objs.size)) (μ.add (hh.objs.size+1,hh.objs.size)) (.obj σ.length) (.ref (hh.objs.size+1)):=by
    refine ⟨(hh.objs.size+1,hh.objs.size),?_,rfl⟩;rw [<- r.len];show (μ.ps++[_])[μ.ps.length]? = _;rw [List.getElem?_append_right (Nat.le_refl _)];simp
  have hw:=Ic D cs [];have hcu:=tc_units ⟨.ref D::cs,[]⟩;have hbd:=B.depth;refine CO _ _ _ _ _ _ e (A.under (.builtin "type.__call__" ⟨.ref D::cs,[]⟩)) _ ⟨(hh.push emptyDict).push (instObj D hh.objs.size),g,d,t,os⟩ (.ref (hh.objs.size+1)::cs) [] B.handled (by show A.depth+(Code.builtin "type.__call__" ⟨.ref D::cs,[]⟩).weight+2 * n+50 < _;rw [hw];omega) (by show A.units+(Code.builtin "type.__call__" ⟨.ref D::cs,[]⟩).cUnits+20 * n+700 < _;omega) rn ⟨hg.gens,hg.toks,(hg.ff.around rfl).keep (fun _ h=>h) fun L o _ e=>Heap.get?_push_of_some _ (Heap.get?_push_of_some _ e)⟩ (VRs.cons' hself (va.kp kp)) rfl _ fun c s' μ' st rr vv tk=>?_
  exact ⟨vv,k _ s' μ' (st0.trans st) rr (hself.step st) tk⟩
theorem isNo_is {v:V} (h:isNo v=true):v=.none:=by
  cases v<;>first | rfl | exact nt h
theorem arm_new (TK:TabOk prog w K hO T) (CO:CallsOk prog w hO C n) {nm:String} {es:ME} (ih:(EvsOk prog w hO T C n) es) (hc:ckE env.scope (.new nm es) x=true) (he:ev T C (.new nm es) ρ σ=some (v,σ')) (B:Bud A n) (X:Cx A w hO env μ s σ ρ m):Ok prog w hO A (eval x env) μ s v σ':=by
  refine DI hc fun y p' xs p hg hl=>bd2 he fun D f e0 he=>bd2 he fun vs σ1 e1 he=>bd2 he fun rv σ2 e2 he=>Mine.ifs he fun q he=>?_
  have e2:=isNo_is q▸e2;refine sm2 he <| Ok.mk fun Q E k=>TK.names.elim fun mg h=>h.elim fun mb h=>?_
  have h3:=h.2.2.2.2.1 _ _ _ e0;refine Call_Name (by rw [AG _ _ hl,Am]) (globv X hg h.1 h3.1 (Av (P:=fun h=>K.In h) rfl (keeps_K h3.2.2.2.2) ?_))
  refine AX ih p hl e1 B X _ _ fun cs s1 μ1 st1 r1 v1 tk1=>evalAll_nil ⟨r1.X TK,?_⟩
  have X1:=X.step st1 r1 tk1;exact BB (new_ok TK CO B r1 X1.g h3.2.1 h3.2.2.1 h3.2.2.2.1 v1 e2) _ _ fun c2 s2 μ2 st2 r2 v2 tk2=>k _ _ _ (st1.trans st2) r2 v2
theorem cal_keep {M:Model} {c:Cal} {fx:Value×List Value} {P:Params} {h:Heap} (X:K.In h) (hc:CalR P K h μ c fx):∃k,(k=Keeper.frame∨k=Keeper.machine∨k=Keeper.boundFrame)/\Looks M h (keeperOf fx.1) k:=by
  cases c with
  | fn f first=>exact hc.1.symm▸keeps_K (GQ hc.2.1) h X
  | mt f i=>exact hc.2.1.elim fun a h1=>h1.elim fun p h1=>h1.2.1.symm▸keeps_M hc.1 h ⟨h1.2.2.2,X⟩
  | bm o n=>exact ⟨.machine,.inr (.inl rfl),AV (hc.1.symm▸nofun)⟩
theorem GR {P:Params} {h:Heap} {μ:Mu}:∀{ns:List String} {vs:List V} {cs:List Value},VRs P h μ vs cs->ns.length=vs.length->KwR P h μ (ns.zip vs) ((ns.map Str.ofString).zip cs)
  | [],vs,cs,_,hl=>rfl
  | a::ns,v::vs,_,⟨c,r,rfl,hv,hr⟩,hl=>⟨c,_,rfl,hv,GR hr (by simpa using hl)⟩
  | _::_,[],_,_,hl=>by simp at hl
theorem Ew (TK:TabOk prog w K hO T) {o:ME} {nm:String} {es ks:ME} {kn:List String} (iho:(EvOk prog w hO T C n) o) (ih:(EvsOk prog w hO T C n) es) (ihk:(EvsOk prog w hO T C n) ks) (hc:ckE env.scope (.met o nm es kn ks) x=true) {ov:V} {cal:Cal} {vs ws:List V} {σ1 σ2 σ3:St} (e1:ev T C o ρ σ=some (ov,σ1)) (e2:getM T ov nm σ1=some cal) (e3:evs T C es ρ σ1=some (vs,σ2)) (e4:evs T C ks ρ σ2=some (ws,σ3)) (B:Bud A n) (X:Cx A w hO env μ s σ ρ m)
    {Q E:Value->Shared->Prop} (k:∀f' fs cs ds s3 μ3,Step μ s μ3 s3->s.toks<=s3.toks->Cx A w hO env μ3 s3 σ3 ρ m->CalR w.params K s3.heap μ3 cal (f',fs)->VRs w.params s3.heap μ3 vs cs->VRs w.params s3.heap μ3 ws ds->wpAny (model prog w) A (call f' (fs++cs) ((kn.map Str.ofString).zip ds)) Q E s3):wpAny (model prog w) A (eval x env) Q E s:=by
  refine ck_met hc fun o' ap xs kws p c3 c1 c4 c5 c5' c6 c7=>?_
  rw [arm_eval_Call,Bt c3];refine wpAny_bind (iho c1 e1 B X _ _ fun co s1 μ1 st1 r1 v1 tk1=>wpAny_bind (wpAny_standAt ?_))
  have k4:=(kw_nam p env kws).trans c5.symm
  have hall:(backToKw p (keywordEach kws env)).all (·.1.isSome)=true:=by
    have:((backToKw p (keywordEach kws env)).map (·.1)).all (·.isSome)=true:=by rw [k4];simp
    rw [List.all_map] at this;exact this
  have hform:methodCallForm (xs.length+kws.length) (backTo p (starEach xs env)) (backToKw p (keywordEach kws env))=true:=by
    unfold methodCallForm;rw [hall,AG _ _ c4,Am]
    have:((evalEach xs env).map fun t=>(false,t)).all (fun x=>!x.1)=true:=by simp
    rw [this];simp only [Bool.true_and,decide_eq_true_eq]
    split<;>omega
  unfold methodCall;rw [hform];refine wpAny_bind (wpAny_holding ?_);show wpAny _ _ (getMethod co (Str.ofString nm) _) _ _ _;refine Ah (getM_ok TK r1 v1 e2 fun fx tk hx htk=>?_)
  have hpos:methodCallPos true o' env ap p=pure p:=by
    unfold methodCallPos;rw [c7];rfl
  obtain ⟨f',fs⟩:=fx;dsimp only;refine wpAny_bind ?_
  rw [hpos];refine wpAny_pure ?_
  rw [AG _ _ c4,Am];have X1:Cx A w hO env μ1 { s1 with toks:=tk } σ1 ρ m:=(X.step st1 r1 tk1).step (Step.toks _ _ _) r1 htk
  refine Av (P:=fun h=>∃kk,(kk=Keeper.frame∨kk=Keeper.machine∨kk=Keeper.boundFrame)/\Looks (model prog w) h (keeperOf f') kk) hall (fun h hh=>hh) ?_
  refine AX ih p c4 e3 B X1 _ _ fun cs s2 μ2 st2 r2 v2 tk2=>?_
  have X2:=X1.step st2 r2 tk2;rw [kw_val p env kws];refine (ihk c5' e4 B X2).all p _ _ fun ds s3 μ3 st3 r3 v3 tk3=>?_
  have X3:=X2.step st3 r3 tk3;have hx3:CalR w.params K s3.heap μ3 cal (f',fs):=(CalR.step (s:={ s1 with toks:=tk }) st2 hx).step st3
  refine ⟨cal_keep (r3.X TK) hx3,?_⟩
  have hnames:(backToKw p (keywordEach kws env)).filterMap (·.1)=kn.map Str.ofString:=by
    have:((backToKw p (keywordEach kws env)).map (·.1)).filterMap id=kn.map Str.ofString:=by rw [k4,List.filterMap_map];simp [Function.comp_def]
    rw [List.filterMap_map] at this;exact this
  rw [hnames];exact k f' fs cs ds s3 μ3 (((st1.trans (Step.toks _ _ tk)).trans st2).trans st3) (Nat.le_trans tk1 (Nat.le_trans htk (Nat.le_trans tk2 tk3))) X3 hx3 (v2.step st3) v3
theorem arm_met (TK:TabOk prog w K hO T) (CO:CallsOk prog w hO C n) {o:ME} {nm:String} {es ks:ME} {kn:List String} (iho:(EvOk prog w hO T C n) o) (ih:(EvsOk prog w hO T C n) es) (ihk:(EvsOk prog w hO T C n) ks) (hc:ckE env.scope (.met o nm es kn ks) x=true) (he:ev T C (.met o nm es kn ks) ρ σ=some (v,σ')) (B:Bud A n) (X:Cx A w hO env μ s σ ρ m):Ok prog w hO A (eval x env) μ s v σ':=by
  refine bd2 he fun ov σ1 e1 he=>bd he fun cal e2 he=>bd2 he fun vs σ2 e3 he=>bd2 he fun ws σ3 e4 he=>ifs he fun hlen he=>Ok.mk fun Q E k=>?_
  refine Ew TK iho ih ihk hc e1 e2 e3 e4 B X fun f' fs cs ds s3 μ3 stA _ X3 hx3 v2 v3=>?_
  exact calM_ok TK CO B X3.r X3.g hx3 v2 (GR v3 hlen) he _ _ fun c4 s4 μ4 st4 r4 v4 tk4=>k _ _ _ (stA.trans st4) r4 v4
@[elab_as_elim] theorem ck_rep {P:Expr->Prop} {sc:Scope} {e:ME} {a b:List Nat} {x:Expr} (h:ckE sc (.rep e a b) x=true) (t:∀o' ap n1 p1 n2 p2 p,plainBase o'=true->ckE sc e o'=true->(ap.endLine==p.line)=true->P (.Call (.Attribute o' (Str.ofString "replace") ap) [.Constant (.str (S a)) n1 p1,.Constant (.str (S b)) n2 p2] [] p)):P x:=
  Az (h:xF x _=true) fun f xs kws p h=>A3 h fun o' n' ap h=>bq (aL h) (Al (aL (aR (aR (aR h)))) (Fe (show l2 xs _=true from aL (aR (aR (aR (aR h))))) fun x y hxy=>
    BU (P:=fun x=>P (.Call (.Attribute o' (Str.ofString "replace") ap) [x,y] [] p)) (aL hxy) fun c1 n1 p1 h1=>BU (P:=fun y=>P (.Call (.Attribute o' (Str.ofString "replace") ap) [.Constant c1 n1 p1,y] [] p)) (aR hxy) fun c2 n2 p2 h2=>by
      cases c1<;>try exact nt h1
      cases c2<;>try exact nt h2
      rw [BC h1,BC h2];exact t o' ap n1 p1 n2 p2 p (aL (aR h)) (aL (aR (aR h))) (aR (aR (aR (aR (aR h)))))))
set_option maxRecDepth 100000 in
theorem arm_rep {e:ME} {a b:List Nat} (ih:(EvOk prog w hO T C n) e) (hc:ckE env.scope (.rep e a b) x=true) (he:ev T C (.rep e a b) ρ σ=some (v,σ')) (B:Bud A n) (X:Cx A w hO env μ s σ ρ m):Ok prog w hO A (eval x env) μ s v σ':=by
  refine ck_rep hc fun o' ap n1 p1 n2 p2 p c3 c1 c7=>bd2 he fun ov σ1 e1 he=>bd he fun l hl he=>ifs he fun hz he=>sm2 he <| Ok.mk fun Q E k=>?_
  rw [arm_eval_Call,Bt c3];refine wpAny_bind (ih c1 e1 B X _ _ fun co s1 μ1 st1 r1 v1 tk1=>wpAny_bind (wpAny_standAt ?_))
  unfold methodCall;rw [show methodCallForm ([Expr.Constant (.str (S a)) n1 p1,.Constant (.str (S b)) n2 p2].length+([]:List Keyword).length) (backTo p (starEach [.Constant (.str (S a)) n1 p1,.Constant (.str (S b)) n2 p2] env)) (backToKw p (keywordEach [] env))=true from rfl];refine wpAny_bind (wpAny_holding ?_);refine VR.s (A8 hl▸v1:VR w.params s1.heap μ1 (.str l) co) fun t=>?_
  show wpAny _ _ (getMethod (.str (S l) t) "replace" _) _ _ _;refine GM.replace ?_
  have hpos:methodCallPos true o' env ap p=pure p:=by
    unfold methodCallPos;rw [c7];rfl
  dsimp only;refine wpAny_bind ?_
  rw [hpos];refine wpAny_pure ?_
  have ht:0 < s1.toks:=Nat.lt_of_lt_of_le X.g.toks tk1;refine Av (P:=fun _=>True) (ts:=[eval (.Constant (.str (S a)) n1 p1) env,eval (.Constant (.str (S b)) n2 p2) env]) rfl (fun h _=>⟨.machine,.inr (.inl rfl),AV nofun⟩) ?_
  refine Calls.spliced_cons (wpAny_Constant_str (Calls.spliced_cons (wpAny_Constant_str (Calls.spliced_nil (evalAll_nil ⟨trivial,?_⟩)))));have hb:(S b).length<=4:=by rw [Aj];exact hz.2.2.1
  have hll:(S l).length<=4000:=by rw [Aj];exact hz.1
  have hne:(S a==S b)=false:=beq_eq_false_iff_ne.mpr fun q=>hz.2.2.2 (by simpa [S] using q)
  refine SC.replaceW (Nat.ne_of_gt ht) (Nat.succ_ne_zero _) (Nat.ne_of_lt (Nat.lt_succ_self _)) hne (Nat.le_trans hll (by decide)) (Nat.le_trans hb (by decide)) fun t' tk=>?_
  rw [Fa l a b (List.length_pos_iff.mpr hz.2.1)];exact k _ _ μ1 (st1.trans (Step.toks _ _ _)) r1 ⟨t',rfl⟩
end
noncomputable def plainTest (x:Expr):Bool:=xE x { allE with U:=fun o _=>!isNot o,B:=fun _ _=>false,I:=fun _ _ _=>false,K:=fun _ _ _=>false }
theorem Id {x:Expr} (h:plainTest x=true) (env:Env) (whole:Sem Value):isTrue x env whole=(do let v <- whole;standAt x.pos;holding [v] (truthy v)):=by
  cases x<;>first | rfl | exact nt h | (rename_i op _ _;cases op<;>first | rfl | exact nt h)
noncomputable def plainME (e:ME):Bool:=match e with
  | .not _ | .boo _ _ | .cmp _ _ _ | .cmp2 _ _ _ _ _ | .has _ _=>false
  | _=>true
theorem plain_ck {sc:Scope} {x:Expr}:∀{e:ME},plainME e=true->ckE sc e x=true->plainTest x=true
  | .cst _,_,h=>BU (h:xC x _=true) fun _ _ _ _=>rfl
  | .loc _,_,h=>Ai (h:xN x _=true) fun _ _ _=>rfl
  | .glo _,_,h=>Ai (h:xN x _=true) fun _ _ _=>rfl
  | .attr _ _,_,h=>A3 (h:xA x _=true) fun _ _ _ _=>rfl
  | .bin _ _ _ _,_,h=>Fb (h:xO x _=true) fun _ _ _ _ _=>rfl
  | .neg _,_,h=>ck_neg h fun _ _ _=>rfl
  | .sub _ _,_,h=>Br (h:xS x _=true) fun _ _ _ _=>rfl
  | .slc _ _ _,_,h=>Br (h:xS x _=true) fun _ _ _ _=>rfl
  | .tup _,_,h=>AY (h:xT x _=true) fun _ _ _ _=>rfl
  | .lst _ _,_,h=>Fc (h:xL x _=true) fun _ _ _=>rfl
  | .dct _ _ _,_,h=>Fd (h:xD x _=true) fun _ _ _ _=>rfl
  | .cal _ _,_,h=>Az (h:xF x _=true) fun _ _ _ _ _=>rfl
  | .new _ _,_,h=>Az (h:xF x _=true) fun _ _ _ _ _=>rfl
  | .bui _ _,_,h=>Az (h:xF x _=true) fun _ _ _ _ _=>rfl
  | .met _ _ _ _ _,_,h=>Az (h:xF x _=true) fun _ _ _ _ _=>rfl
  | .rep _ _ _,_,h=>Az (h:xF x _=true) fun _ _ _ _ _=>rfl
  | .cmpr _ _ _ _ _,_,h=>BW (h:xM x _=true) fun _ _ _ _ _=>rfl
  | .cmpz _ _ _ _ _ _,_,h=>BW (h:xM x _=true) fun _ _ _ _ _=>rfl
  | .nil,_,h=>nt h
  | .cons _ _,_,h=>nt h
  | .opq,_,h=>nt h
  | .not _,h,_=>nt h
  | .boo _ _,h,_=>nt h
  | .cmp _ _ _,h,_=>nt h
  | .cmp2 _ _ _ _ _,h,_=>nt h
  | .has _ _,h,_=>nt h
theorem aI {a b:Bool} (h:a=true) (k:b=true):(a&&b)=true:=by rw [h,k];rfl
theorem mpq {α:Type} {o:Option α} {g:α->Bool} {s σ':St} {v:V} {b:Bool} (h:o.map (fun x=>(V.bool (g x),s))=some (v,σ')) (ht:truth σ' v=some b) {P:Prop} (k:∀a,o=some a->g a=b->s=σ'->P):P:=
  match o,h with
  | some a,h=>k a rfl (Option.some.inj (((Prod.mk.inj (Option.some.inj h)).1▸ht:truth σ' (V.bool (g a))=some b))) (Prod.mk.inj (Option.some.inj h)).2
theorem smt {s σ':St} {v:V} {t b:Bool} (h:some (V.bool t,s)=some (v,σ')) (ht:truth σ' v=some b):t=b/\s=σ':=
  ⟨Option.some.inj (((Prod.mk.inj (Option.some.inj h)).1▸ht:truth σ' (V.bool t)=some b)),(Prod.mk.inj (Option.some.inj h)).2⟩
section
variable {prog:Program} {w:World} {K:Frag} {hO:Heap} {T:Tab} {C:Calls} {n:Nat}
theorem tr_plain {e:ME} (hp:plainME e=true) (ih:(EvOk prog w hO T C n) e):(TrOk prog w hO T C n) e:=by
  intro x env ρ σ v b σ' A μ s m hc he ht B X;refine OkB.mk fun Q E k=>?_
  rw [Id (plain_ck hp hc)];refine wpAny_bind (ih hc he B X _ _ fun c1 s1 μ1 st1 r1 v1 tk1=>wpAny_bind (wpAny_standAt (wpAny_holding ?_)))
  exact Cy r1 v1 ht _ _ fun s2 μ2 st2 r2 tk2=>k _ _ (st1.trans st2) r2
theorem tr_not {e:ME} (ih:(TrOk prog w hO T C n) e):(TrOk prog w hO T C n) (.not e):=by
  intro x env ρ σ v b σ' A μ s m hc he ht B X;refine OkB.mk fun Q E k=>?_
  refine ck_not hc fun e' p hc=>bd2 he fun a σ1 e1 he=>mpq he ht fun t e2 q q'=>?_
  exact wpAny_isTrue_Not (ih hc e1 e2 B X _ _ fun s1 μ1 st1 r1 tk1=>q▸k _ _ st1 (q'▸r1))
theorem tr_cmp (TK:TabOk prog w K hO T) {o:CmpOp} {l r:ME} (ihl:(EvOk prog w hO T C n) l) (ihr:(EvOk prog w hO T C n) r):(TrOk prog w hO T C n) (.cmp o l r):=by
  intro x env ρ σ v bb σ' A μ s m hc he ht B X;refine OkB.mk fun Q E k=>?_
  refine ck_cmp hc fun l' r' p h1 h2=>bd2 he fun a σ1 e1 he=>bd2 he fun b σ2 e2 he=>mpq he ht fun t e3 q q'=>?_
  show wpAny _ _ (eval l' env>>=fun a=>testChain p a [o] [markedBehindIn o r' (eval r' env)]) _ _ _
  rw [markedBehindIn_of_false (A1 h2)];refine wpAny_bind (ihl h1 e1 B X _ _ fun c1 s1 μ1 st1 r1 v1 tk1=>test_last (ihr h2 e2 B (X.step st1 r1 tk1) _ _ fun c2 s2 μ2 st2 r2 v2 tk2=>?_))
  exact BS TK r2 (v1.step st2) v2 e3 B.u9 _ _ fun tk=>wpAny_truthy_bool (q▸k _ _ ((st1.trans st2).trans (Step.toks _ _ _)) (q'▸r2))
theorem in_own {M:Model} {A:Around} {E:Value->Shared->Prop} {s:Shared} {K:Frag} {x D f:Addr} {ox:Obj} {od:Option Obj} {v:Value} {Q:Value->Shared->Prop} (X:K.In s.heap) (I:InstAt s.heap x ox D od) (hs:findIn K (.ref D) (Str.ofString "__contains__")=some (some (.ref f))) (hf:isFn K (.ref f)=true)
    (h:wpAny M A (call (.ref f) [.ref x,v]) (fun r s'=>wpAny M A (truthy r) (fun b=>Q (.bool b)) E s') E s):wpAny M A (compareOp .In v (.ref x)) Q E s:=by
  have step:wpAny M A (contains (.ref x) v) (fun b s'=>Q (.bool b) s') E s:=by
    unfold contains;refine wpAny_holding ?_
    refine wpAny_bind (wpAny_bind (I.type.here ?_));refine (looks_findIn X hs).here ?_
    rw [if_neg (by simp)]
    exact wpAny_bind (unlessNone_K X I hs hf h)
  exact wpAny_bind (wpAny_mono step (fun _ _ z=>wpAny_pure z) fun _ _ z=>z)
theorem has_ok (TK:TabOk prog w K hO T) (CO:CallsOk prog w hO C n) {A:Around} {μ:Mu} {s:Shared} {σ σ':St} {a b v:V} {ca cb:Value} (B:Bud A n) (r:Rel w.params hO σ μ s.heap) (hg:Gk A μ s) (va:VR w.params s.heap μ a ca) (vb:VR w.params s.heap μ b cb)
    (e:((asSt b).bind fun q=>(T.scls q).bind fun D=>(T.meth D "__contains__").bind fun f=>(C f [.stat q,a] [] σ).bind fun (r,σ)=>(asB r).map fun b=>(V.bool b,σ))=some (v,σ')):∃t,v=.bool t/\
    ∀(Q E:Value->Shared->Prop),(∀s' μ',Step μ s μ' s'->Rel w.params hO σ' μ' s'.heap->s.toks<=s'.toks->Q (.bool t) s')->wpAny (model prog w) A (compareOp .In ca cb) Q E s:=by
  obtain ⟨q,h1,e⟩:=Option.bind_eq_some_iff.mp e;obtain ⟨D,h2,e⟩:=Option.bind_eq_some_iff.mp e;obtain ⟨f,h3,e⟩:=Option.bind_eq_some_iff.mp e;obtain ⟨⟨rv,σ1⟩,h4,e⟩:=Option.bind_eq_some_iff.mp e;obtain ⟨t,h5,e⟩:=Option.map_eq_some_iff.mp e;cases e;have hb:b=.stat q:=by cases b<;>first | exact nn h1 | exact sme h1 rfl
  have hr:rv=.bool t:=by cases rv<;>first | exact nn h5 | exact sme h5 rfl
  subst hb hr;refine ⟨t,rfl,fun Q E k=>?_⟩
  rw [show cb=.ref q from vb];have d:=TK.meth _ _ _ h3;obtain ⟨dx,sl,es,kk,l1,l2,_⟩:=TK.scls _ _ h2;refine in_own (r.X TK) (InstAt.of_K (r.X TK) l1 l2) d.2.2.1 d.2.2.2.1 ?_
  refine BB (CO _ _ _ _ _ _ h4 A μ s [.ref q,ca] [] B.handled (Nat.lt_of_succ_lt B.depth) (Nat.lt_of_le_of_lt (Nat.add_le_add_left (by decide:700<=710) _) B.units) r hg (VRs.cons' rfl (VRs.one va)) rfl) _ _ fun c s' μ' st r' v' tk=>?_
  rw [show c=.bool t from v'];exact wpAny_truthy_bool (k s' μ' st r' tk)
theorem arm_has (TK:TabOk prog w K hO T) (CO:CallsOk prog w hO C n) {l r:ME} (ihl:(EvOk prog w hO T C n) l) (ihr:(EvOk prog w hO T C n) r):(EvOk prog w hO T C n) (.has l r):=by
  intro x env ρ σ v σ' A μ s m hc he B X;refine ck_has hc fun l' r' p h1 h2=>bd2 he fun a σ1 e1 he=>bd2 he fun b σ2 e2 he=>Ok.mk fun Q E k=>?_
  exact wpAny_Compare1 (hm:=A1 h2) (ihl h1 e1 B X _ _ fun c1 s1 μ1 st1 r1 v1 tk1=>ihr h2 e2 B (X.step st1 r1 tk1) _ _ fun c2 s2 μ2 st2 r2 v2 tk2=>
    (has_ok TK CO B r2 ((X.step st1 r1 tk1).step st2 r2 tk2).g (v1.step st2) v2 he).elim fun t h=>h.2 _ _ fun s' μ' st3 r3 tk3=>k _ _ _ ((st1.trans st2).trans st3) r3 (h.1▸rfl))
theorem tr_has (TK:TabOk prog w K hO T) (CO:CallsOk prog w hO C n) {l r:ME} (ihl:(EvOk prog w hO T C n) l) (ihr:(EvOk prog w hO T C n) r):(TrOk prog w hO T C n) (.has l r):=by
  intro x env ρ σ v bb σ' A μ s m hc he ht B X;refine OkB.mk fun Q E k=>?_
  refine ck_has hc fun l' r' p h1 h2=>bd2 he fun a σ1 e1 he=>bd2 he fun b σ2 e2 he=>?_
  show wpAny _ _ (eval l' env>>=fun a=>testChain p a [.In] [markedBehindIn .In r' (eval r' env)]) _ _ _
  rw [markedBehindIn_of_false (A1 h2)];refine wpAny_bind (ihl h1 e1 B X _ _ fun c1 s1 μ1 st1 r1 v1 tk1=>test_last (ihr h2 e2 B (X.step st1 r1 tk1) _ _ fun c2 s2 μ2 st2 r2 v2 tk2=>?_))
  refine (has_ok TK CO B r2 ((X.step st1 r1 tk1).step st2 r2 tk2).g (v1.step st2) v2 he).elim fun t h=>h.2 _ _ fun s' μ' st3 r3 tk3=>wpAny_truthy_bool ?_
  have q:t=bb:=Option.some.inj (h.1▸ht:truth σ' (V.bool t)=some bb);exact q▸k _ _ ((st1.trans st2).trans st3) r3
theorem tr_cmp2 (TK:TabOk prog w K hO T) {o o':CmpOp} {a b c:ME} (iha:(EvOk prog w hO T C n) a) (ihb:(EvOk prog w hO T C n) b) (ihc:(EvOk prog w hO T C n) c):(TrOk prog w hO T C n) (.cmp2 o o' a b c):=by
  intro x env ρ σ v bb σ' A μ s m hc he ht B X;refine OkB.mk fun Q E k=>?_
  refine GK hc fun l' r1 r2 p h1 h2 h3=>bd2 he fun av σ1 e1 he=>bd2 he fun bv σ2 e2 he=>bd he fun t e3 he=>?_
  refine isTrue_chain (hm:=A1 h3) (iha h1 e1 B X _ _ fun c1 s1 μ1 st1 r1 v1 tk1=>test_link (ihb h2 e2 B (X.step st1 r1 tk1) _ _ fun c2 s2 μ2 st2 r2 v2 tk2=>?_))
  refine Ah (BS TK r2 (v1.step st2) v2 e3 B.u9 _ _ fun tk htk=>wpAny_truthy_bool ?_)
  have tk12:s.toks<=tk:=Nat.le_trans tk1 (Nat.le_trans tk2 htk);have st12:Step μ s μ2 { s2 with toks:=tk }:=(st1.trans st2).trans (Step.toks _ _ _)
  cases t with
  | false=>exact show Q false _ from (smt he ht).1▸k _ _ st12 ((smt he ht).2▸r2)
  | true=>
    refine bd2 he fun zv σ3 e4 he=>mpq he ht fun u e5 q q'=>?_
    refine test_last (ihc h3 e4 B (X.step st12 r2 tk12) _ _ fun c3 s3 μ3 st3 r3 v3 tk3=>?_)
    have st23:Step μ2 s2 μ3 s3:=(Step.toks _ _ _).trans st3;exact BS TK r3 (v2.step st23) v3 e5 B.u9 _ _ fun tk=>wpAny_truthy_bool (q▸k _ _ ((st12.trans st3).trans (Step.toks _ _ _)) (q'▸r3))
theorem tr_boo {o:BoolOp} {es:ME} (ih:(TrBOk prog w hO T C n) es):(TrOk prog w hO T C n) (.boo o es):=by
  intro x env ρ σ v b σ' A μ s m hc he ht B X;refine ck_boo hc fun xs p h2=>?_
  rw [arm_isTrue_BoolOp];exact ih h2 he ht B X
theorem GS:(EvsOk prog w hO T C n) .nil:=by
  intro xs env ρ σ vs σ' A μ s m hc he B X;exact Al (hc:emp xs=true) (Eu he fun r=>⟨rfl,r⟩) X.r
theorem CE {a b:ME} (iha:(EvOk prog w hO T C n) a) (ihb:(EvsOk prog w hO T C n) b):(EvsOk prog w hO T C n) (.cons a b):=by
  intro xs env ρ σ vs σ' A μ s m hc he B X;exact AK (hc:lc xs _=true) fun x xs hc=>Di he fun v σ1 vs' σ2 e1 e2=>⟨v,vs',rfl,fun Q E k=>iha (aL hc) e1 B X _ _ fun c1 s1 μ1 st1 r1 v1 tk1=>k _ _ _ st1 v1 (ihb (aR hc) e2 B (X.step st1 r1 tk1))⟩
theorem evb_cons (TK:TabOk prog w K hO T) {a b:ME} (iha:(EvOk prog w hO T C n) a) (ihb:(EvBOk prog w hO T C n) b):(EvBOk prog w hO T C n) (.cons a b):=by
  intro xs o pos env ρ σ v σ' A μ s m hc he B X;revert ihb he;refine AK (hc:lc xs _=true) fun x xs hc=>?_
  cases xs with
  | nil=>exact GN (aR hc) fun _ he=>iha (aL hc) he B X
  | cons y ys=>
    refine CD (aR hc) fun b1 b2 hc1 hc2 ihb he=>bd2 (he:Option.bind _ _=_) fun va σ1 e1 he=>bd he fun t e2 he=>Ok.mk fun Q E k=>?_
    show wpAny _ _ (eval x env>>=fun v=>standAt pos>>=fun _=>holding [v] (truthy v)>>=fun t=>match o,t with
        | .And,false | .Or,true=>pure v
        | _,_=>boolOp pos o (evalEach (y::ys) env)) _ _ _
    refine wpAny_bind (iha (aL hc) e1 B X _ _ fun c1 s1 μ1 st1 r1 v1 tk1=>wpAny_bind (wpAny_standAt (wpAny_bind (wpAny_holding ?_))))
    refine Cy r1 v1 e2 _ _ fun s2 μ2 st2 r2 tk2=>?_
    have rest:evB T C o (.cons b1 b2) ρ σ1=some (v,σ')->wpAny (model prog w) A (boolOp pos o (evalEach (y::ys) env)) Q E s2:=fun he=>
      ihb (show ckL env.scope (.cons b1 b2) (y::ys)=true from aI hc1 hc2) he B (X.step (st1.trans st2) r2 (Nat.le_trans tk1 tk2)) _ _ fun c3 s3 μ3 st3 r3 v3 tk3=>k _ _ _ ((st1.trans st2).trans st3) r3 v3
    have stop:some (va,σ1)=some (v,σ')->Q c1 s2:=fun he=>sm2 (P:=fun v σ'=>(∀c s' μ',Step μ s μ' s'->Rel w.params hO σ' μ' s'.heap->VR w.params s'.heap μ' v c->Q c s')->Q c1 s2) he (fun k=>k _ _ _ (st1.trans st2) r2 (v1.step st2)) k
    cases o with
    | And=>cases t with
      | false=>exact wpAny_pure (stop he)
      | true=>exact rest he
    | Or=>cases t with
      | false=>exact rest he
      | true=>exact wpAny_pure (stop he)
theorem trb_cons {a b:ME} (iha:(TrOk prog w hO T C n) a) (ihb:(TrBOk prog w hO T C n) b):(TrBOk prog w hO T C n) (.cons a b):=by
  intro xs o env ρ σ v bb σ' A μ s m hc he ht B X;revert ihb he;refine AK (hc:lc xs _=true) fun x xs hc=>?_
  have st (t:Bool) (Q:Bool->Shared->Prop) (E:Value->Shared->Prop):wpAny (model prog w) A (isTrue x env (eval x env)>>=fun t=>match o,t with
        | .And,false=>pure false
        | .Or,true=>pure true
        | _,_=>allTrue o xs env) Q E s->wpAny (model prog w) A (allTrue o (x::xs) env) Q E s:=id
  cases xs with
  | nil=>
    refine GN (aR hc) fun _ he=>OkB.mk fun Q E k=>st true Q E (wpAny_bind (iha (aL hc) he ht B X _ _ fun s1 μ1 st1 r1 tk1=>?_))
    cases o with
    | And=>cases bb<;>exact wpAny_pure (k _ _ st1 r1)
    | Or=>cases bb<;>exact wpAny_pure (k _ _ st1 r1)
  | cons y ys=>
    refine CD (aR hc) fun b1 b2 hc1 hc2 ihb he=>bd2 (he:Option.bind _ _=_) fun va σ1 e1 he=>bd he fun t e2 he=>OkB.mk fun Q E k=>st true Q E ?_
    refine wpAny_bind (iha (aL hc) e1 e2 B X _ _ fun s1 μ1 st1 r1 tk1=>?_)
    have rest:evB T C o (.cons b1 b2) ρ σ1=some (v,σ')->wpAny (model prog w) A (allTrue o (y::ys) env) Q E s1:=fun he=>
      ihb (show ckL env.scope (.cons b1 b2) (y::ys)=true from aI hc1 hc2) he ht B (X.step st1 r1 tk1) _ _ fun s3 μ3 st3 r3 tk3=>k _ _ (st1.trans st3) r3
    have stop:some (va,σ1)=some (v,σ')->Q t s1:=fun he=>
      sm2 (P:=fun v σ'=>truth σ' v=some bb->(∀s' μ',Step μ s μ' s'->Rel w.params hO σ' μ' s'.heap->Q bb s')->Q t s1) he (fun h k=>Option.some.inj (h.symm.trans e2)▸k _ _ st1 r1) ht k
    cases o with
    | And=>cases t with
      | false=>exact wpAny_pure (stop he)
      | true=>exact rest he
    | Or=>cases t with
      | false=>exact rest he
      | true=>exact wpAny_pure (stop he)
end
section
variable {P:Params} {hO:Heap} {σ:St} {μ μ' μ'':Mu} {h h' h'':Heap}
theorem Kp.trans (a:Kp μ h μ' h') (b:Kp μ' h' μ'' h''):Kp μ h μ'' h'':=
  ⟨fun i p e=>b.at_ i p (a.at_ i p e),fun x o hx e=>let ⟨h1,h2⟩:=a.off x o hx e;b.off x o h1 h2⟩
theorem Kp.drop {a:Addr} (hs:∀b o,b≠a->h.get? b=some o->h'.get? b=some o):Kp (μ.hide a) h μ h':=
  ⟨fun _ _ e=>e,fun b o hb e=>⟨(Kp.unhide (μ:=μ) (h:=h) (a:=a)).off b o hb e |>.1,hs b o (fun q=>hb (q▸List.mem_append_right _ List.mem_cons_self)) e⟩⟩
theorem Rel.drop {a:Addr} (r:Rel P hO σ (μ.hide a) h) (hs:∀b o,b≠a->h.get? b=some o->h'.get? b=some o):Rel P hO σ μ h':=by
  have z:=r.nodup;unfold cells Mu.hide at z;dsimp only at z;rw [List.nodup_append,List.nodup_cons] at z;have u:=r.unhide;refine ⟨fun b o e=>hs b o (fun q=>?_) (r.keep b o e),u.len,fun i ob p e1 e2=>(r.obj i ob p e1 e2).kp (Kp.drop hs) (fun o e=>hs _ _ (fun q=>?_) e),u.new,u.nodup,u.low,fun b hb=>?_⟩
  . rw [q,(r.new a (List.mem_append_right _ List.mem_cons_self)).1] at e;cases e
  . exact z.2.2 p.2 (Ao e2) a List.mem_cons_self q
  . obtain ⟨o,e⟩:=u.exl b hb;exact ⟨o,hs b o (fun q=>z.2.1.1 (q▸hb)) e⟩
end
theorem Hd.no {o:Obj} {vs:Array Value} (e:o.data=.fields vs):¬Hd o:=fun ⟨es,n,h,_⟩=>by
  rw [e] at h;cases h
structure IterOk (prog:Program) (w:World) (μ:Mu) (h:Heap) (I:Addr) (vs:List V) (fp:List Addr) (Pr:Nat->Value->Prop) (St:Nat->Heap->Prop):Prop where
  walks:∀A':Around,A'.handled=none->Walks prog w A' I fp [I] vs.length Pr St
  st:St 0 h
  live:∀i h,St i h->∃o,h.get? I=some o/\¬Hd o
  fpo:∀b∈fp,b=I∨(b∉cells μ/\∃o,h.get? b=some o)
  val:∀i c v,Pr i c->vs[i]? = some v->∀μ' h',Kp μ h μ' h'->VR w.params h' μ' v c
theorem IterOk.of {prog:Program} {w:World} {μ:Mu} {h:Heap} {I:Addr} {vs:List V} {fp:List Addr} {Pr:Nat->Value->Prop} {St:Nat->Heap->Prop} {n:Nat}
    (W:∀A':Around,A'.handled=none->Walks prog w A' I fp [I] n Pr St) (hn:n=vs.length) (st:St 0 h) (live:∀i h,St i h->∃o,h.get? I=some o/\¬Hd o)
    (fpo:∀b∈fp,b=I∨(b∉cells μ/\∃o,h.get? b=some o)) (val:∀i c v,Pr i c->vs[i]? = some v->∀μ' h',Kp μ h μ' h'->VR w.params h' μ' v c):IterOk prog w μ h I vs fp Pr St:=by
  subst hn;exact ⟨W,st,live,fpo,val⟩
section
variable {prog:Program} {w:World} {hO:Heap} {A:Around} {σ:St} {μ:Mu} {s:Shared} {E:Value->Shared->Prop}
theorem DJ {P:Params} {h:Heap} {vs:List V} {cvs:List Value} (hvs:VRs P h μ vs cvs) {i:Nat} {c:Value} {v:V} (hp:cvs.toArray[i]? = some c) (hx:vs[i]? = some v):VR P h μ v c:=by
  refine (hvs.get hx).elim fun c' h=>?_
  rw [List.getElem?_toArray] at hp;exact Option.some.inj (h.1.symm.trans hp)▸h.2
theorem fp_at {a:Addr} {o ob:Obj} (ha:a∉cells μ) (ho:s.heap.get? a=some ob):∀b∈[s.heap.objs.size,a],b=s.heap.objs.size∨(b∉cells (μ.hide s.heap.objs.size)/\∃o',(s.heap.push o).get? b=some o'):=fun b hb=>
  (List.mem_cons.mp hb).imp id fun hb=>(show a=b from (List.mem_singleton.mp hb).symm)▸⟨((Kp.hide (o:=emptyDict)).off _ _ ha ho).1,_,Heap.get?_push_of_some _ ho⟩
theorem Ff {o:Obj}:∀b∈[s.heap.objs.size],b=s.heap.objs.size∨(b∉cells (μ.hide s.heap.objs.size)/\∃o',(s.heap.push o).get? b=some o'):=fun b hb=>.inl (List.mem_singleton.mp hb)
theorem GT {l:List Nat} {i:Nat} {c:Value} {v:V} (hp:SignAt (S l) i c) (hx:(l.map fun c=>V.str [c])[i]? = some v) {P:Params} {h:Heap}:VR P h μ v c:=by
  refine Exists.elim hp fun cp hp=>hp.elim fun u h=>?_
  have h1:l[i]? = some cp:=by have:=h.1;rwa [S_cps,List.getElem?_toArray] at this
  rw [List.getElem?_map,h1] at hx;exact sme (P:=fun v=>VR _ _ μ v c) hx (h.2▸⟨u,rfl⟩)
theorem S_size (l:List Nat):(S l).cps.size=(l.map fun c=>V.str [c]).length:=by rw [List.length_map];rfl
abbrev ItK (prog:Program) (w:World) (μ:Mu) (s:Shared) (v:V) (vs:List V) (Q:Value->Shared->Prop):Prop:=∀o fp Pr St,o.isFreed=false->IterOk prog w (μ.hide s.heap.objs.size) (s.heap.push o) s.heap.objs.size vs fp Pr St->(isLst v=true->∀i h,St i h->∃l,h.IsListIter s.heap.objs.size l i)->Q (.ref s.heap.objs.size) { s with heap:=s.heap.push o }
theorem GU {K:Frag} {T:Tab} (TK:TabOk prog w K hO T) {v:V} {c:Value} {vs:List V} (r:Rel w.params hO σ μ s.heap) (hv:VR w.params s.heap μ v c) (e:itemsV T v=some vs) {Q:Value->Shared->Prop} (h:ItK prog w μ s v vs Q) :
    wpAny (model prog w) A (pyIter c) Q E s:=by
  revert h;cases v with
  | lst vs'=>exact sme e (VR.l hv fun a cvs n ha ho hvs h=>by
      have hne:a≠s.heap.objs.size:=Nat.ne_of_lt (Heap.lt_size ho)
      exact wpAny_pyIter_list ho.isList (h _ _ _ _ rfl (IterOk.of (fun A' hA=>Walks.list hA s.heap.objs.size a hne cvs.toArray) hvs.len ⟨⟨_,Heap.get?_push_size _ rfl,rfl,rfl⟩,ho.isList.extBut (fun b o _ e=>Heap.get?_push_of_some _ e) hne⟩ (fun i h st=>st.1.elim fun o e=>⟨o,e.1,Hd.no e.2.2⟩)
        (fp_at ha ho) (fun i c x hp hx μ' h' kp=>(DJ hvs hp hx).kp (Kp.hide.trans kp))) (fun _ i h st=>⟨a,st.1⟩)))
  | tup vs'=>exact sme e (VR.t hv fun a cvs ha ho hvs h=>ho.elim fun ob ho'=>by
      have hne:a≠s.heap.objs.size:=Nat.ne_of_lt (Heap.lt_size ho'.1)
      exact wpAny_pyIter_tuple ho (h _ _ _ _ rfl (IterOk.of (fun A' hA=>Walks.tuple hA s.heap.objs.size a hne cvs.toArray) hvs.len ⟨⟨_,Heap.get?_push_size _ rfl,rfl,rfl⟩,ho.extBut (fun b o _ e=>Heap.get?_push_of_some _ e) hne⟩ (fun i h st=>st.1.elim fun o e=>⟨o,e.1,Hd.no e.2.2⟩)
        (fp_at ha ho'.1) (fun i c x hp hx μ' h' kp=>(DJ hvs hp hx).kp (Kp.hide.trans kp))) (fun q=>nt q)))
  | stat d=>
    intro h;rw [show c=.ref d from hv];obtain ⟨lo,kvs,ep,hk,he⟩:=TK.sdK d vs e;have hm:s.heap.DictAt (strKind prog w) d kvs ep:=hk.keep r.keep;have hne:d≠s.heap.objs.size:=Nat.ne_of_lt hm.lt_size;have hoff:d∉cells μ:=fun q=>by obtain ⟨o,_,ho,_⟩:=hk;rw [(r.new d q).1] at ho;cases ho
    obtain ⟨o,es,ho,_⟩:=id hm
    exact wpAny_pyIter_dict lo hm (h _ _ _ _ rfl (IterOk.of (fun A' hA=>Walks.dictKeys hA s.heap.objs.size d hne kvs ep) (by rw [<- he,List.length_map]) ⟨⟨_,Heap.get?_push_size _ rfl,rfl,rfl⟩,hm.push _⟩ (fun i h st=>st.1.elim fun o e=>⟨o,e.1,Hd.no e.2.2⟩)
      (fp_at hoff ho) (fun i c x hp hx μ' h' kp=>dkey_val he hp hx)) (fun q=>nt q))
  | str l=>exact sme e (VR.s hv fun t h=>by
      cases ha:(S l).cps.all (· < 128) with
      | false=>exact wpAny_pyIter_wide ha (h _ _ _ _ rfl (IterOk.of (fun A' hA=>Walks.strWide hA s.heap.objs.size (S l) t) (S_size l) ⟨_,Heap.get?_push_size _ rfl,rfl,rfl⟩ (fun i h st=>st.elim fun o e=>⟨o,e.1,Hd.no e.2.2⟩) Ff (fun i c x hp hx μ' h' kp=>GT hp hx)) (fun q=>nt q))
      | true=>exact wpAny_pyIter_ascii ha (h _ _ _ _ rfl (IterOk.of (fun A' hA=>Walks.strAscii hA s.heap.objs.size (S l) t) (S_size l) ⟨_,Heap.get?_push_size _ rfl,rfl,rfl⟩ (fun i h st=>st.elim fun o e=>⟨o,e.1,Hd.no e.2.2⟩) Ff (fun i c x hp hx μ' h' kp=>GT hp hx)) (fun q=>nt q)))
  | rng a b st=>exact ifs e fun hz e=>sme e (VR.r hv fun l t u y ha ho h=>by
      unfold half at hz;have hc:=hz.2.2.2.2.1;have hq:a < b->0<=(b - a - 1) / st/\(b - a - 1) / st<=b - a - 1:=fun q=>⟨Int.ediv_nonneg (by omega) (by exact Int.le_of_lt (by assumption)),Int.ediv_le_self _ (by omega)⟩
      have hrs:PySem.Builtin.Range.rangeSize a b st=(rangeN a b st:Int):=by
        unfold PySem.Builtin.Range.rangeSize rangeN;rw [if_pos hc]
        split
        . rename_i q
          have:=hq q
          omega
        . rfl
      have hrl:PySem.Builtin.Range.rangeSize a b st<=2000000000/\0<=PySem.Builtin.Range.rangeSize a b st:=by
        rw [hrs];unfold rangeN
        split
        . rename_i q
          have:=hq q
          omega
        . decide
      have hsm:PySem.Builtin.Range.small a b st=true:=by
        unfold PySem.Builtin.Range.small PySem.Builtin.Range.rangeFitsLong;rw [if_pos hc];simp only [Bool.and_eq_true,Bool.or_eq_true,decide_eq_true_eq];omega
      refine wpAny_pyIter_range ho hsm (h _ _ _ _ rfl (IterOk.of (fun A' hA=>Walks.range hA s.heap.objs.size a st (rangeN a b st)) (by rw [rangeL,List.length_map,List.length_range]) ?_ (fun i h st=>⟨_,st,Hd.no rfl⟩) Ff (fun i c x hp hx μ' h' kp=>?_)) (fun q=>nt q))
      . rw [hrs]
        have:(s.heap.push ({ cls:=.type "range_iterator",data:=.fields #[rawInt a,rawInt (rangeN a b st:Int),rawInt st] }:Obj)).get? s.heap.objs.size=some { cls:=.type "range_iterator",data:=.fields #[rawInt a,rawInt (rangeN a b st:Int),rawInt st] }:=Heap.get?_push_size _ rfl
        simpa [IsRangeIter] using this
      . refine Exists.elim hp fun t q=>?_
        unfold rangeL at hx;rw [List.getElem?_map] at hx;refine mp (P:=fun x=>VR w.params h' μ' x c) hx fun j hj=>?_
        rw [List.getElem?_range (by have:=(List.getElem?_eq_some_iff.mp hj).1;rwa [List.length_range] at this)] at hj
        exact Option.some.inj hj▸⟨t,q⟩)
  | _=>exact nn e
end
structure Base (μb:Mu) (sb:Shared) (μ:Mu) (s:Shared):Prop where
  st:Step μb sb ⟨μ.ps,μb.ex⟩ s
  yg:∀b∈μ.ex,b∈μb.ex∨sb.heap.get? b=none
theorem Base.on {μb μ μ':Mu} {sb s s':Shared} (x:Base μb sb μ s) (y:Step μ s μ' s'):Base μb sb μ' s':=by
  obtain ⟨ν,hν,h1⟩:=x.st.ext;obtain ⟨ν',rfl,h2⟩:=y.ext;have hps:μ.ps=μb.ps++ν:=congrArg Mu.ps hν
  have hc:∀b o,b∉pcells μb->sb.heap.get? b=some o->b∉pcells μ:=fun b o hb e hm=>by
    unfold pcells at hm hb;rw [hps,List.map_append,List.mem_append,List.mem_map (l:=ν)] at hm;rcases hm with h | ⟨q,hq,rfl⟩
    . exact hb h
    . rw [(h1 q hq).1] at e;cases e
  have hi:∀b,b∈pcells μb->b∈pcells μ:=fun b hb=>by
    unfold pcells at hb ⊢;rw [hps,List.map_append];exact List.mem_append_left _ hb
  refine ⟨⟨⟨ν++ν',?_,fun q hq=>?_⟩,fun b o hb e=>?_,y.gens.trans x.st.gens,y.os.trans x.st.os⟩,x.yg⟩
  . rw [<- List.append_assoc,<- hps]
  . rcases List.mem_append.mp hq with h | h
    . exact h1 q h
    . have z:=h2 q h;have hb:q.2∉pcells μb:=fun hm=>z.2 (hi _ hm)
      refine ⟨?_,hb⟩;cases e:sb.heap.get? q.2 with
      | none=>rfl
      | some o=>obtain ⟨o',e',_⟩:=(x.st.keep _ _ hb e).d;rw [e'] at z;cases z.1
  . have hb':=hc b o hb e;have kk:b∈μ.ex->b∈μb.ex:=fun h=>(x.yg b h).resolve_right fun q=>by rw [q] at e;cases e
    rcases x.st.keep b o hb e with e1 | ⟨k1,k2,sl,e1⟩
    . rcases y.keep b o hb' e1 with e2 | ⟨k1,k2,sl,e2⟩
      . exact .inl e2
      . exact .inr ⟨kk k1,k2,sl,e2⟩
    . rcases y.keep b _ hb' e1 with e2 | ⟨_,_,sl',e2⟩
      . exact .inr ⟨k1,k2,sl,e2⟩
      . exact .inr ⟨k1,k2,sl',e2⟩
theorem Base.alt {μb M:Mu} {sb s1 s2:Shared} {a:Addr} (x:Base μb sb M s1) (ha:sb.heap.get? a=none) (hk:∀b o,b≠a->s1.heap.get? b=some o->s2.heap.get? b=some o) (e1:s2.gens=s1.gens) (e2:s2.os=s1.os):Base μb sb M s2:=
  ⟨⟨x.st.ext,fun b o hb e=>by
    have hne:b≠a:=fun h=>by rw [h,ha] at e;cases e
    rcases x.st.keep b o hb e with z | ⟨z1,z2,sl,z⟩
    . exact .inl (hk b o hne z)
    . exact .inr ⟨z1,z2,sl,hk b _ hne z⟩,e1.trans x.st.gens,e2.trans x.st.os⟩,x.yg⟩
theorem Base.to {μb μ:Mu} {sb s:Shared} (x:Base μb sb μ s) {e:List Addr} (h:∀b∈e,b∈μ.ex∨sb.heap.get? b=none):Base μb sb ⟨μ.ps,e⟩ s:=
  ⟨x.st,fun b hb=>(h b hb).elim (x.yg b) .inr⟩
theorem Base.hide {μb μ:Mu} {sb s:Shared} (x:Base μb sb μ s) {a:Addr} (ha:sb.heap.get? a=none):Base μb sb (μ.hide a) s:=
  x.to fun b hb=>(List.mem_cons.mp hb).elim (fun q=>.inr (q▸ha)) .inl
theorem Base.of {μb:Mu} {sb s:Shared} {ps:List (Addr×Addr)} {ex:List Addr} {a:Addr} (x:Base μb sb (Mu.hide ⟨ps,ex⟩ a) s):Base μb sb ⟨ps,ex⟩ s:=⟨x.st,fun b hb=>x.yg b (List.mem_cons_of_mem _ hb)⟩
theorem Base.new_none {μb μ1:Mu} {sb s1:Shared} {a:Addr} (x:Base μb sb μ1 s1) (ha:s1.heap.get? a=none) (hp:a∉pcells μ1):sb.heap.get? a=none:=by
  cases e:sb.heap.get? a with
  | none=>rfl
  | some ob=>
    refine absurd (x.st.keep a ob (fun q=>hp ?_) e).d (by rw [ha];exact fun ⟨_,z,_⟩=>nomatch z)
    obtain ⟨ν,h,_⟩:=x.st.ext;have h9:μ1.ps=μb.ps++ν:=congrArg Mu.ps h;unfold pcells at q ⊢;rw [h9,List.map_append];exact List.mem_append_left _ q
theorem Ns.at {h h':Heap} {c:Addr} {m:Str->Option Value} (x:h.Ns c m) (hk:∀o,h.get? c=some o->h'.get? c=some o):h'.Ns c m:=x.elim fun o x=>x.elim fun es x=>x.elim fun ep x=>⟨o,es,ep,hk _ x.1,x.2⟩
theorem low_of {a n:Nat} (h:a < n):n+1 - (a+1) < n+1 - a:=Nat.sub_lt_sub_left (Nat.lt_succ_of_lt h) (Nat.lt_succ_self a)
theorem fold_ok {x:Expr} (h:okX x=true) (env:Env) (v:Value):foldedSetIterable x env v=pure v:=by
  cases x<;>first | rfl | exact nt h
theorem A4 {sc:Scope} {x:Expr} {e:ME} (hc:ckE sc e x=true) (env:Env) (v:Value):foldedSetIterable x env v=pure v:=fold_ok (CC e hc) env v
theorem FF.off {A:Around} {μ:Mu} {h:Heap} {a:Addr} (x:FF A μ h) (e:h.get? a=none):∀l,A.frames=some l->∀e∈l,e.frame≠some a:=fun l hl env he q=>by
  obtain ⟨l',h1,h2⟩:=x;rw [hl] at h1;cases h1;obtain ⟨_,L,h3,_,o,h4,_⟩:=h2 env he;rw [q] at h3;cases h3;rw [e] at h4;cases h4
theorem FF.chg {A:Around} {μ μ':Mu} {h h':Heap} {a:Addr} (x:FF A μ h) (hfa:∀l,A.frames=some l->∀e∈l,e.frame≠some a) (hs:∀b o,b≠a->h.get? b=some o->h'.get? b=some o) (hx:∀b,b≠a->b∈μ.ex->b∈μ'.ex):FF A μ' h':=by
  obtain ⟨l,h1,h2⟩:=x;refine ⟨l,h1,fun env he=>?_⟩
  obtain ⟨h0,L,h3,h4,o,h5,h6⟩:=h2 env he;have hne:L≠a:=fun q=>hfa l h1 env he (q▸h3)
  exact ⟨h0,L,h3,hx _ hne h4,o,hs _ _ hne h5,h6⟩
theorem FF.unhide {A:Around} {μ:Mu} {h h':Heap} {a:Addr} (x:FF A (μ.hide a) h) (hfa:∀l,A.frames=some l->∀e∈l,e.frame≠some a) (hs:∀b o,b≠a->h.get? b=some o->h'.get? b=some o):FF A μ h':=
  x.chg hfa hs fun b hb h=>(List.mem_cons.mp h).resolve_left hb
mutual
noncomputable def ckT (sc:Scope):ME->Expr->Bool
  | .loc a,x=>xN x fun y=>Str.ofString a==y&&(sc.names.lookup y==some .local || sc.names.lookup y==some .cell)
  | .attr e n,x=>xA x fun e' n' _=>Str.ofString n==n'&&ckE sc e e'
  | .tup ts,x=>xT x fun xs=>ckTs sc ts xs
  | _,_=>false
noncomputable def ckTs (sc:Scope):ME->List Expr->Bool
  | .nil,xs=>emp xs
  | .cons t ts,xs=>lc xs fun x r=>ckT sc t x&&ckTs sc ts r
  | _,_=>false
end
@[elab_as_elim] theorem ckTs_nil {sc:Scope} {P:ME->Prop} {es:ME} (h:ckTs sc es []=true) (t:P .nil):P es:=by
  cases es<;>first | exact t | exact nt h
@[elab_as_elim] theorem Ie {sc:Scope} {P:ME->Prop} {es:ME} {x:Expr} {xs:List Expr} (h:ckTs sc es (x::xs)=true) (t:∀e r,ckT sc e x=true->ckTs sc r xs=true->P (.cons e r)):P es:=by
  cases es<;>first | exact t _ _ (aL h) (aR h) | exact nt h
theorem DK {sc:Scope} {t:ME} {x:Expr} (h:ckT sc t x=true):okX x=true:=by
  cases t with
  | loc a=>exact Ai (h:xN x _=true) fun _ _ _=>rfl
  | attr e n=>exact A3 (h:xA x _=true) fun _ _ _ _=>rfl
  | tup ts=>exact AY (h:xT x _=true) fun _ _ _ _=>rfl
  | _=>exact nt h
theorem lk_put (ρ:L) (x y:String) (v:V):lk (put ρ x v) y=if x=y then some v else lk ρ y:=by
  induction ρ with
  | nil=>simp [put,lk]
  | cons e r ih=>
    unfold put
    by_cases h:e.1=x
    . rw [if_pos h];unfold lk
      by_cases h2:x=y
      . simp [h2]
      . simp [h,h2]
    . rw [if_neg h];unfold lk;rw [ih]
      by_cases h2:e.1=y
      . have:¬x=y:=fun q=>h (h2.trans q.symm)
        simp [h2,this]
      . simp [h2]
section
variable {prog:Program} {w:World} {K:Frag} {hO:Heap} {T:Tab} {C:Calls} {n:Nat} {A:Around} {σ σ':St} {μ:Mu} {s:Shared} {env:Env} {ρ ρ':L} {m:Str->Option Value} {x:Expr} {v:V} {c:Value}
theorem Fm.mv {h h':Heap} {μ':Mu} (X:Fm w.params hO env μ h ρ m) (kp:Kp μ h μ' h') (hk:∀a,(a=env.locals∨∃q∈env.cells,q.2=a)->a∈μ'.ex/\a∉pcells μ'/\∀o,h.get? a=some o->∃o',h'.get? a=some o'/\o'.data=o.data):Fm w.params hO env μ' h' ρ m:=by
  obtain ⟨o,es,ep,ho,hd,hs,hn⟩:=X.ns;have hl:=hk _ (.inl rfl);obtain ⟨o1,ho1,hd1⟩:=hl.2.2 _ ho
  have cl:∀q∈env.cells,∀v,h.IsCell q.2 v->h'.IsCell q.2 v:=fun q hq v ⟨o,e,z⟩=>by
    obtain ⟨o',e',z'⟩:=(hk _ (.inr ⟨q,hq,rfl⟩)).2.2 _ e;exact ⟨o',e',z'.trans z⟩
  refine ⟨X.kind,X.glob,X.blt,⟨o1,es,ep,ho1,hd1.trans hd,hs,hn⟩,⟨hl.1,hl.2.1⟩,fun q hq=>?_,X.apart,X.cel,fun y v e=>?_⟩
  . obtain ⟨h1,h2,h3,v,hv⟩:=X.coff q hq;have hc:=hk _ (.inr ⟨q,hq,rfl⟩);exact ⟨hc.1,hc.2.1,h3,v,cl q hq v hv⟩
  . obtain ⟨c,hc,hv⟩:=X.lr y v e;refine ⟨c,?_,hv.kp kp⟩;rcases hc with h | ⟨h,a,h1,h2⟩
    . exact .inl h
    . exact .inr ⟨h,a,h1,cl _ (Ae h1) _ h2⟩
structure Kq (g:Bool) (env:Env) (μ:Mu) (h:Heap) (μ':Mu) (h':Heap):Prop where
  off:∀a o,a∉cells μ->h.get? a=some o->a∉cells μ'/\h'.get? a=some o
  hid:∀a o,¬Hd o->a∈μ.ex->a≠env.locals->(∀q∈env.cells,q.2≠a)->h.get? a=some o->h'.get? a=some o
  at_:g=false->∀(i:Nat) (p:Addr×Addr),μ.ps[i]? = some p->μ'.ps[i]? = some p
theorem Kq.kp {env:Env} {μ μ':Mu} {h h':Heap} (x:Kq false env μ h μ' h'):Kp μ h μ' h':=⟨x.at_ rfl,x.off⟩
theorem Kq.refl {g:Bool} {env:Env} {μ:Mu} {h:Heap}:Kq g env μ h μ h:=⟨fun _ _ a e=>⟨a,e⟩,fun _ _ _ _ _ _ e=>e,fun _ _ _ e=>e⟩
theorem Kq.trans {g:Bool} {env:Env} {μ μ' μ'':Mu} {h h' h'':Heap} (x:Kq g env μ h μ' h') (hex:μ'.ex=μ.ex) (y:Kq g env μ' h' μ'' h''):Kq g env μ h μ'' h'':=
  ⟨fun a o ha e=>let ⟨h1,h2⟩:=x.off a o ha e;y.off a o h1 h2,fun a o n ha h1 h2 e=>y.hid a o n (hex▸ha) h1 h2 (x.hid a o n ha h1 h2 e),fun hg i p e=>y.at_ hg i p (x.at_ hg i p e)⟩
theorem Kq.weak {g g':Bool} {env:Env} {μ μ':Mu} {h h':Heap} (hg:g=true->g'=true) (x:Kq g env μ h μ' h'):Kq g' env μ h μ' h':=
  ⟨x.off,x.hid,fun q=>x.at_ (by cases g<;>simp_all)⟩
theorem Rel.ex_off {P:Params} {hO:Heap} {σ:St} {μ:Mu} {h:Heap} (r:Rel P hO σ μ h) {a:Addr} (ha:a∈μ.ex):a∉pcells μ:=fun q=>(List.nodup_append.mp r.nodup).2.2 _ q _ ha rfl
theorem Step.kq {P:Params} {hO:Heap} {σ:St} {g:Bool} {env:Env} {μ μ':Mu} {s s':Shared} (st:Step μ s μ' s') (r:Rel P hO σ μ s.heap):Kq g env μ s.heap μ' s'.heap:=
  ⟨st.kp.off,fun a o n ha _ _ e=>st.exact (r.ex_off ha) n e,fun _=>st.kp.at_⟩
noncomputable def AsPost (A:Around) (w:World) (hO:Heap) (env:Env) (μb:Mu) (sb:Shared) (ρ':L) (σ':St) (μ:Mu) (h:Heap) (Q:Unit->Shared->Prop):Prop:=
  ∀s' μ' m',μ'.ex=μ.ex->Kq false env μ h μ' s'.heap->Cx A w hO env μ' s' σ' ρ' m'->Base μb sb μ' s'->Q () s'
mutual
noncomputable def pat (sc:Scope):ME->Bool
  | .loc a=>sc.names.lookup (Str.ofString a)==some .local
  | .tup ts=>patL sc ts
  | _=>false
noncomputable def patL (sc:Scope):ME->Bool
  | .nil=>true
  | .cons a b=>pat sc a&&patL sc b
  | _=>false
end
noncomputable def Yo (env:Env) (sb:Shared) (t:ME):Prop:=sb.heap.get? env.locals=none/\(pat env.scope t=true∨∀q∈env.cells,sb.heap.get? q.2=none)
noncomputable def YoL (env:Env) (sb:Shared) (t:ME):Prop:=sb.heap.get? env.locals=none/\(patL env.scope t=true∨∀q∈env.cells,sb.heap.get? q.2=none)
noncomputable def Young (env:Env) (sb:Shared):Prop:=sb.heap.get? env.locals=none/\(∀q∈env.cells,sb.heap.get? q.2=none)/\env.func.isSome=true
theorem Young.yo {env:Env} {sb:Shared} {t:ME} (h:Young env sb):Yo env sb t:=⟨h.1,.inr h.2.1⟩
noncomputable def AsOk (prog:Program) (w:World) (hO:Heap) (T:Tab) (C:Calls) (n:Nat) (t:ME):Prop:=∀{x:Expr} {env:Env} {ρ:L} {σ:St} {v:V} {c:Value} {ρ':L} {σ':St} {A:Around} {μ:Mu} {s:Shared} {m:Str->Option Value} {μb:Mu} {sb:Shared},
  ckT env.scope t x=true->asgn T C t v ρ σ=some (ρ',σ')->VR w.params s.heap μ v c->Bud A n->Cx A w hO env μ s σ ρ m->Base μb sb μ s->Yo env sb t->
    ∀(Q:Unit->Shared->Prop) (E:Value->Shared->Prop),AsPost A w hO env μb sb ρ' σ' μ s.heap Q->wpAny (model prog w) A (assign x env c) Q E s
noncomputable def AssOk (prog:Program) (w:World) (hO:Heap) (T:Tab) (C:Calls) (n:Nat) (t:ME):Prop:=∀{xs:List Expr} {env:Env} {ρ:L} {σ:St} {vs:List V} {cs:List Value} {ρ':L} {σ':St} {A:Around} {μ:Mu} {s:Shared} {m:Str->Option Value} {μb:Mu} {sb:Shared},
  ckTs env.scope t xs=true->asgns T C t vs ρ σ=some (ρ',σ')->VRs w.params s.heap μ vs cs->Bud A n->Cx A w hO env μ s σ ρ m->Base μb sb μ s->YoL env sb t->
    ∀(Q:Unit->Shared->Prop) (E:Value->Shared->Prop),AsPost A w hO env μb sb ρ' σ' μ s.heap Q->wpAny (model prog w) A (assignInOrder ((assignEach xs env).map (·.2)) cs) Q E s
theorem CF {y:String} {μb:Mu} {sb:Shared} (hl:env.scope.names.lookup (Str.ofString y)=some .local) (hv:VR w.params s.heap μ v c) (X:Cx A w hO env μ s σ ρ m) (st:Base μb sb μ s) (hn:sb.heap.get? env.locals=none)
    {Q:Unit->Shared->Prop} {E:Value->Shared->Prop} (k:∀s' m',Kq false env μ s.heap μ s'.heap->Cx A w hO env μ s' σ (put ρ y v) m'->Base μb sb μ s'->(∀b o,b≠env.locals->s.heap.get? b=some o->s'.heap.get? b=some o)->Q () s'):wpAny (model prog w) A (storeName env (Str.ofString y) c) Q E s:=by
  refine wpAny_storeName_local hl X.f.ns (fun h' hn' hs'=>?_) (by rw [X.f.kind];rfl)
  have hs:∀b o,b≠env.locals->s.heap.get? b=some o->h'.get? b=some o:=fun b o hb e=>(hs'.2 b hb).trans e
  have kp:Kp μ s.heap μ h':=Kp.change X.f.off.1 hs;have r':=X.r.change X.f.off.1 hs (let ⟨o,_,_,ho,_⟩:=hn';⟨o,ho⟩);refine k _ _ ⟨kp.off,fun a o _ _ h1 _ e=>hs a o h1 e,fun _=>kp.at_⟩ ⟨r',⟨X.f.kind,X.f.glob,X.f.blt,hn',X.f.off,fun q hq=>?_,X.f.apart,X.f.cel,fun z u e=>?_⟩,⟨X.g.gens,Nat.succ_pos _,?_⟩,X.top⟩ (st.alt hn hs rfl rfl) hs
  rotate_right
  . refine X.g.ff.mono fun L o hL e d=>⟨hL,?_⟩
    by_cases q:L=env.locals
    . rw [q];exact Hd.of_ns (x:=Str.ofString y) (v:=c) hn' (by simp)
    . exact ⟨o,hs _ _ q e,d⟩
  . obtain ⟨h1,h2,h3,v,⟨o,e,z⟩⟩:=X.f.coff q hq;exact ⟨h1,h2,h3,v,⟨o,hs _ _ h3 e,z⟩⟩
  . rw [lk_put] at e;split at e
    . rename_i hyz;cases e;subst hyz;exact ⟨c,.inl ⟨hl,by simp⟩,hv.kp kp⟩
    . rename_i hyz;obtain ⟨cz,hc,hv'⟩:=X.f.lr z u e;refine ⟨cz,?_,hv'.kp kp⟩;rcases hc with ⟨h1,h2⟩ | ⟨h,a,h1,h2⟩
      . refine .inl ⟨h1,?_⟩
        have:¬Str.ofString z=Str.ofString y:=fun q=>hyz (Ch q).symm
        simp [this,h2]
      . exact .inr ⟨h,a,h1,IsCell.of (fun o e=>hs _ _ (X.f.coff _ (Ae h1)).2.2.1 e) h2⟩
theorem BX {y:String} {μb:Mu} {sb:Shared} (hl:env.scope.names.lookup (Str.ofString y)=some .local) (hv:VR w.params s.heap μ v c) (X:Cx A w hO env μ s σ ρ m) (st:Base μb sb μ s) (hn:sb.heap.get? env.locals=none)
    {Q:Unit->Shared->Prop} {E:Value->Shared->Prop} (k:AsPost A w hO env μb sb (put ρ y v) σ μ s.heap Q):wpAny (model prog w) A (storeName env (Str.ofString y) c) Q E s:=CF hl hv X st hn fun s' m' kq X st _=>k s' μ m' rfl kq X st
theorem Ex {l:List (Str×Addr)} (h:l.Pairwise fun x y=>x.2≠y.2) {x y:Str} {a b:Addr} (hx:(x,a)∈l) (hy:(y,b)∈l) (hn:x≠y):a≠b:=by
  induction l with
  | nil=>cases hx
  | cons e r ih=>
    obtain ⟨h1,h2⟩:=List.pairwise_cons.mp h;rcases List.mem_cons.mp hx with p | p<;>rcases List.mem_cons.mp hy with q | q
    . rw [<- p] at q;exact absurd (Prod.mk.inj q).1.symm hn
    . subst p;exact h1 _ q
    . subst q;exact fun z=>h1 _ p z.symm
    . exact ih h2 p q
theorem cell_nd {h:Heap} {a:Addr} {v:Option Value} {o:Obj} (x:h.IsCell a v) (e:h.get? a=some o) (d:Hd o):False:=by
  obtain ⟨o',e',q⟩:=x;obtain ⟨es,n,d,_⟩:=d;rw [e] at e';cases e';rw [d] at q;cases q
theorem Fg {y:String} {μb:Mu} {sb:Shared} (hl:env.scope.names.lookup (Str.ofString y)=some .cell) (hv:VR w.params s.heap μ v c) (X:Cx A w hO env μ s σ ρ m) (st:Base μb sb μ s) (hcn:∀q∈env.cells,sb.heap.get? q.2=none)
    {Q:Unit->Shared->Prop} {E:Value->Shared->Prop} (k:AsPost A w hO env μb sb (put ρ y v) σ μ s.heap Q):wpAny (model prog w) A (storeName env (Str.ofString y) c) Q E s:=by
  obtain ⟨a,ha⟩:=X.f.cel _ hl;have hm:=Ae ha;obtain ⟨a1,a2,a3,v0,hc0⟩:=X.f.coff _ hm;refine wpAny_storeName_cell X.f.kind hl ha hc0 fun h' hv' hs'=>?_
  have hs:∀b o,b≠a->s.heap.get? b=some o->h'.get? b=some o:=fun b o hb e=>(hs'.2 b hb).trans e
  have kp:Kp μ s.heap μ h':=Kp.change a1 hs;have r':=X.r.change a1 hs (hv'.elim fun o h=>⟨o,h.1⟩)
  obtain ⟨ob,es,ep,ho,hd,hss,hn⟩:=X.f.ns;refine k _ μ m rfl ⟨kp.off,fun b o _ _ _ h2 e=>hs b o (fun q=>h2 _ hm q.symm) e,fun _=>kp.at_⟩ ⟨r',⟨X.f.kind,X.f.glob,X.f.blt,⟨ob,es,ep,hs _ _ (Ne.symm a3) ho,hd,hss,hn⟩,X.f.off,fun q hq=>?_,X.f.apart,X.f.cel,fun z u e=>?_⟩,⟨X.g.gens,X.g.toks,X.g.ff.mono fun L o hL e d=>⟨hL,o,hs _ _ (fun q=>cell_nd hc0 (q▸e) d) e,d⟩⟩,X.top⟩ (st.alt (hcn _ hm) hs rfl rfl)
  . obtain ⟨h1,h2,h3,v,⟨o,e,z⟩⟩:=X.f.coff q hq
    by_cases hqa:q.2=a
    . exact ⟨h1,h2,h3,_,hqa▸hv'⟩
    . exact ⟨h1,h2,h3,v,⟨o,hs _ _ hqa e,z⟩⟩
  . rw [lk_put] at e;split at e
    . rename_i hyz;cases e;subst hyz;exact ⟨c,.inr ⟨.inl hl,a,ha,hv'⟩,hv.kp kp⟩
    . rename_i hyz;obtain ⟨cz,hc,hv2⟩:=X.f.lr z u e;refine ⟨cz,?_,hv2.kp kp⟩;rcases hc with h | ⟨h,b,h1,h2⟩
      . exact .inl h
      . refine .inr ⟨h,b,h1,IsCell.of (fun o e=>hs _ _ (fun q=>?_) e) h2⟩
        have hb:=Ae h1;subst q;have hne:Str.ofString z≠Str.ofString y:=fun q=>hyz (Ch q).symm
        exact Ex X.f.apart hb hm hne rfl
theorem Fh {y:String}:AsOk prog w hO T C n (.loc y):=by
  intro x env ρ σ v c ρ' σ' A μ s m μb sb hc he hv B X st hn Q E;refine Ai (hc:xN x _=true) fun z p hc=>sm2 (he:some _=some _) ?_
  have hl:=Bool.or_eq_true_iff.mp (aR hc);rw [<- eq_of_beq (aL hc)] at hl ⊢;exact fun k=>PySem.wpAny_assign_Name (hl.elim (fun h=>BX (eq_of_beq h) hv X st hn.1 k) fun h=>hn.2.elim (fun q=>by rw [show env.scope.names.lookup (Str.ofString y)=some .local from eq_of_beq q] at h;exact nt h) fun q=>Fg (eq_of_beq h) hv X st q k)
theorem as_attr (TK:TabOk prog w K hO T) {e:ME} {nm:String} (ih:EvOk prog w hO T C n e):AsOk prog w hO T C n (.attr e nm):=by
  intro x env ρ σ v c ρ' σ' A μ s m μb sb hc he hv B X st hn Q E k;refine A3 (hc:xA x _=true) fun e' n' p hc=>?_
  refine bq (aL hc) ?_
  have h1:=aR hc;refine bd2 he fun o σ1 e1 he=>?_
  refine mpy (P:=fun ρ' σ'=>AsPost A w hO env μb sb ρ' σ' μ s.heap Q->_) he (fun σ2 e2 k=>?_) k
  show wpAny _ _ (holding [c] (eval e' env)>>=fun ov=>standAt p.atName>>=fun _=>holding [c,ov] (setAttr ov (Str.ofString nm) c)>>=fun _=>release [c,ov] []) _ _ _
  refine wpAny_bind (wpAny_holding (ih h1 e1 B X _ _ fun co s1 μ1 st1 r1 v1 tk1=>wpAny_bind (wpAny_standAt (wpAny_bind (wpAny_holding ?_)))))
  refine GJ TK r1 v1 (hv.step st1) e2 _ _ fun s2 μ2 st2 r2 tk2=>wpAny_release' ?_
  have s12:=st1.trans st2;exact k s2 μ2 m s12.ex (s12.kq X.r) (X.step s12 r2 (Nat.le_trans tk1 tk2)) (st.on s12)
theorem GV:AssOk prog w hO T C n .nil:=by
  intro xs env ρ σ vs cs ρ' σ' A μ s m μb sb hc he hv B X st hn Q E;refine Al (hc:emp xs=true) ?_
  cases vs with
  | cons _ _=>exact nn he
  | nil=>exact VRs.n hv (sm2 (he:some _=some _) fun k=>wpAny_pure (k s μ m rfl Kq.refl X st))
theorem DL {x:Expr} (h:okX x=true) (xs:List Expr) (env:Env):assignEach (x::xs) env=(false,assign x env)::assignEach xs env:=by
  cases x<;>first | rfl | exact nt h
theorem Ey {a b:ME} (iha:AsOk prog w hO T C n a) (ihb:AssOk prog w hO T C n b):AssOk prog w hO T C n (.cons a b):=by
  intro xs env ρ σ vs cs ρ' σ' A μ s m μb sb hc he hv B X st hn Q E k;refine AK (hc:lc xs _=true) fun x xs hc=>?_
  cases vs with
  | nil=>exact nn he
  | cons v vs=>
    refine bd2 he fun ρ1 σ1 e1 he=>VRs.c hv fun c cs' hv1 hvs=>?_
    rw [DL (DK (aL hc))];show wpAny _ _ (holding cs' (assign x env c)>>=fun _=>assignInOrder ((assignEach xs env).map (·.2)) cs') _ _ _
    refine wpAny_bind (wpAny_holding (iha (aL hc) e1 hv1 B X st ⟨hn.1,hn.2.imp aL id⟩ _ _ fun s1 μ1 m1 hex1 kp1 X1 st1=>?_))
    exact ihb (aR hc) he (hvs.kp kp1.kp) B X1 st1 ⟨hn.1,hn.2.imp aR id⟩ _ _ fun s2 μ2 m2 hex2 kp2 X2 st2=>k s2 μ2 m2 (hex2.trans hex1) (kp1.trans hex1 kp2) X2 st2
theorem Ez {sc:Scope}:∀{xs:List Expr} {ts:ME} {vs:List V} {ρ ρ':L} {σ σ':St},ckTs sc ts xs=true->asgns T C ts vs ρ σ=some (ρ',σ')->∀env,(assignEach xs env).length=vs.length/\(assignEach xs env).findIdx? (·.1)=none
  | [],ts,vs,ρ,ρ',σ,σ',hc,he,env=>by
    revert he;refine ckTs_nil hc fun he=>?_
    cases vs with
    | nil=>exact ⟨rfl,rfl⟩
    | cons _ _=>exact nn he
  | x::xs,ts,vs,ρ,ρ',σ,σ',hc,he,env=>by
    revert he;refine Ie hc fun t ts h1 h2 he=>?_
    cases vs with
    | nil=>exact nn he
    | cons v vs=>
      refine bd2 he fun ρ1 σ1 e1 he=>?_
      have ih:=Ez h2 he env;rw [DL (DK h1)];exact ⟨congrArg (· + 1) ih.1,by rw [List.findIdx?_cons,ih.2];rfl⟩
theorem Rel.ext {h':Heap} (r:Rel w.params hO σ μ s.heap) (hk:∀b o,s.heap.get? b=some o->h'.get? b=some o):Rel w.params hO σ μ h'/\Kp μ s.heap μ h'/\∀tk,Step μ s μ { s with heap:=h',toks:=tk }:=by
  have kp:Kp μ s.heap μ h':=⟨fun _ _ e=>e,fun a o ha e=>⟨ha,hk _ _ e⟩⟩
  exact ⟨⟨fun b o e=>hk _ _ (r.keep b o e),r.len,fun i o p e1 e2=>(r.obj i o p e1 e2).kp kp (fun o e=>hk _ _ e),r.new,r.nodup,r.low,fun a ha=>let ⟨o,e⟩:=r.exl a ha;⟨o,hk _ _ e⟩⟩,kp,fun tk=>⟨⟨[],by simp,by simp⟩,fun b o _ e=>.inl (hk b o e),rfl,rfl⟩⟩
theorem as_tup {ts:ME} (ih:AssOk prog w hO T C n ts):AsOk prog w hO T C n (.tup ts):=by
  intro x env ρ σ v c ρ' σ' A μ s m μb sb hc he hv B X st hn Q E k;refine AY (hc:xT x _=true) fun xs kk p hc=>bd he fun vs hv' he=>?_
  have hh:=Ez hc he env;refine VR.t (BR hv'▸hv:VR w.params s.heap μ (.tup vs) c) fun a cvs ha ho hvs=>?_
  refine wpAny_assign_Tuple B.handled ho (by rw [hh.1,List.size_toArray,hvs.len]) hh.2 fun h' hx=>?_
  have hr:=X.r.ext (h':=h') fun b o e=>hx b o (Nat.ne_of_lt (Heap.lt_size e)) e
  have st1:=hr.2.2 s.toks;exact ih hc he (hvs.kp hr.2.1) B (X.step st1 hr.1 (Nat.le_refl _)) (st.on st1) hn _ _ fun s2 μ2 m2 hex2 kp2 X2 st2=>k s2 μ2 m2 hex2 ((st1.kq X.r).trans rfl kp2) X2 st2
structure AllP (prog:Program) (w:World) (hO:Heap) (T:Tab) (C:Calls) (n:Nat) (t:ME):Prop where
  ok:∀{sc:Scope} {x:Expr},ckP sc t x=true->AsOk prog w hO T C n t/\ckT sc t x=true/\pat sc t=true
  oks:∀{sc:Scope} {xs:List Expr},ckPs sc t xs=true->AssOk prog w hO T C n t/\ckTs sc t xs=true/\patL sc t=true
  as:∀{v:V} {ρ ρ':L} {σ:St},bindP t v ρ=some ρ'->asgn T C t v ρ σ=some (ρ',σ)
  ass:∀{vs:List V} {ρ ρ':L} {σ:St},bindPs t vs ρ=some ρ'->asgns T C t vs ρ σ=some (ρ',σ)
theorem GW (t:ME):AllP prog w hO T C n t:=by
  induction t with
  | loc a=>exact ⟨fun {sc x} h=>⟨Fh,Ai (P:=fun x=>ckT sc (.loc a) x=true/\pat sc (.loc a)=true) (h:xN x _=true) fun y p h=>⟨by show (_&&_)=true;rw [aL h,aR h];rfl,by show (_==_)=true;rw [eq_of_beq (aL h)];exact aR h⟩⟩,fun h=>nt h,fun h=>by cases h;rfl,fun h=>nn h⟩
  | tup ts ih=>exact ⟨fun {sc x} h=>AY (P:=fun x=>AsOk prog w hO T C n (.tup ts)/\ckT sc (.tup ts) x=true/\pat sc (.tup ts)=true) (h:xT x _=true) fun xs k p h=>⟨as_tup (ih.oks h).1,(ih.oks h).2.1,(ih.oks h).2.2⟩,fun h=>nt h,fun h=>bd h fun vs hv h=>by
      show (asT _).bind _=_;rw [hv,Option.bind_some];exact ih.ass h,fun h=>nn h⟩
  | nil=>exact ⟨fun h=>nt h,fun h=>⟨GV,h,rfl⟩,fun h=>nn h,fun {vs ρ ρ' σ} h=>by
      cases vs with
      | nil=>cases h;rfl
      | cons=>exact nn h⟩
  | cons a b iha ihb=>exact ⟨fun h=>nt h,fun {sc xs} h=>AK (P:=fun xs=>AssOk prog w hO T C n (.cons a b)/\ckTs sc (.cons a b) xs=true/\patL sc (.cons a b)=true) (h:lc xs _=true) fun x xs h=>⟨Ey (iha.ok (aL h)).1 (ihb.oks (aR h)).1,by
      show (_&&_)=true;rw [(iha.ok (aL h)).2.1,(ihb.oks (aR h)).2.1];rfl,by
      show (_&&_)=true;rw [(iha.ok (aL h)).2.2,(ihb.oks (aR h)).2.2];rfl⟩,fun h=>nn h,fun {vs ρ ρ' σ} h=>by
      cases vs with
      | nil=>exact nn h
      | cons v vs=>
        refine bd h fun ρ1 e1 h=>?_
        show (asgn T C a v ρ σ).bind _=_;rw [iha.as e1,Option.bind_some];exact ihb.ass h⟩
  | _=>exact ⟨fun h=>nt h,fun h=>nt h,fun h=>nn h,fun h=>nn h⟩
end
noncomputable def testsOf (xs:List Expr) (env:Env) (b:Bool):Sem Bool:=forIn xs b fun c r=>if r=true then do let ok <- isTrue c env (eval c env);pure (ForInStep.yield ok) else pure (ForInStep.yield r)
theorem wm {α:Type} {M:Model} {A:Around} {t:Sem α} {Q Q':α->Shared->Prop} {E:Value->Shared->Prop} {s:Shared} (h:wpAny M A t Q E s) (f:∀a s,Q a s->Q' a s):wpAny M A t Q' E s:=wpAny_mono h f fun _ _ h=>h
theorem DM {prog:Program} {w:World} {A:Around} {R:Result->Shared->Prop} {s:Shared} {elt target iter:Expr} {ifs:List Expr} {scope:Scope} {pos:Pos} {it acc:Value} {env:Env} (I:Nat->Shared->Prop)
    (turn:∀(n:Nat) (s:Shared),I n s->wpAny (model prog w) A (pyNext it) (fun r s₁=>match r with
      | none=>R (.ok .next) s₁
      | some v=>wpAny (model prog w) A (letOwnedTupleGo target it v) (fun _ s₁'=>wpAny (model prog w) A (assign target env v) (fun _ s₂=>wpAny (model prog w) A (testsOf ifs env true) (fun ok s₃=>if ok=true then
          wpAny (model prog w) A (eval elt env) (fun x s₄=>wpAny (model prog w) A (call (.builtin "list.append") [acc,x]) (fun _ s₅=>∃m,m < n/\I m s₅) (notedBy (model prog w) A env fun e s'=>R (.error e) s') s₄) (notedBy (model prog w) A env fun e s'=>R (.error e) s') s₃
        else ∃m,m < n/\I m s₃) (notedBy (model prog w) A env fun e s'=>R (.error e) s') s₂) (notedBy (model prog w) A env fun e s'=>R (.error e) s') s₁') (notedBy (model prog w) A env fun e s'=>R (.error e) s') s₁)
      (notedBy (model prog w) A env fun e s'=>R (.error e) s') s) (n:Nat) (h:I n s) :
    codeAny (model prog w) A (.compLoop (.ListComp elt [⟨target,iter,ifs,0⟩] scope pos) 0 it acc env) R s:=by
  refine codeAny_loop rfl I (fun n s hI=>?_) n h
  show wpAny (model prog w) A _ _ _ s;refine wpAny_noted ?_
  rw [compTurn_list];refine wpAny_bind (wpAny_standAt (wpAny_bind (wm (turn n s hI) fun r s₁ h₁=>?_)))
  cases r with
  | none=>exact wpAny_pure h₁
  | some v=>
    refine wpAny_bind (wm h₁ fun _ s1' h1'=>wpAny_bind (wm h1' fun _ s2 h2=>wpAny_bind (wm h2 fun ok s3 h3=>?_)))
    cases ok with
    | true=>exact wpAny_bind (wpAny_bind (wm h3 fun x s4 h4=>wpAny_bind (wm h4 fun _ s5 h5=>wpAny_pure (wpAny_pure ⟨rfl,h5⟩))))
    | false=>exact wpAny_pure ⟨rfl,h3⟩
section
variable {P:Params} {hO:Heap} {σ:St} {μ:Mu} {h h':Heap} {Ls:List Addr}
theorem Kp.changeL (ha:∀a∈Ls,a∈μ.ex) (hs:∀b o,b∉Ls->h.get? b=some o->h'.get? b=some o):Kp μ h μ h':=⟨fun _ _ e=>e,fun b o hb e=>⟨hb,hs b o (fun q=>hb (List.mem_append_right _ (ha b q))) e⟩⟩
theorem Rel.changeL (r:Rel P hO σ μ h) (ha:∀a∈Ls,a∈μ.ex) (hs:∀b o,b∉Ls->h.get? b=some o->h'.get? b=some o) (hz:∀a∈Ls,∃o,h'.get? a=some o):Rel P hO σ μ h':=by
  refine ⟨fun b o e=>hs b o (fun q=>?_) (r.keep b o e),r.len,fun i ob p e1 e2=>(r.obj i ob p e1 e2).kp (Kp.changeL ha hs) (fun o e=>hs _ _ (fun q=>?_) e),r.new,r.nodup,r.low,fun b hb=>?_⟩
  . rw [(r.new b (List.mem_append_right _ (ha b q))).1] at e;cases e
  . exact (List.nodup_append.mp r.nodup).2.2 p.2 (Ao e2) p.2 (ha _ q) rfl
  . by_cases q:b∈Ls
    . exact hz b q
    . obtain ⟨o,e⟩:=r.exl b hb;exact ⟨o,hs b o q e⟩
theorem Kp.dropL {ps:List (Addr×Addr)} {ex:List Addr} (hs:∀b o,b∉Ls->h.get? b=some o->h'.get? b=some o):Kp ⟨ps,Ls++ex⟩ h ⟨ps,ex⟩ h':=⟨fun _ _ e=>e,fun b o hb e=>⟨fun hm=>hb ((List.mem_append.mp hm).elim (fun q=>List.mem_append_left _ q) fun q=>List.mem_append_right _ (List.mem_append_right _ q)),hs b o (fun q=>hb (List.mem_append_right _ (List.mem_append_left _ q))) e⟩⟩
theorem Rel.dropL {ps:List (Addr×Addr)} {ex:List Addr} (r:Rel P hO σ ⟨ps,Ls++ex⟩ h) (hs:∀b o,b∉Ls->h.get? b=some o->h'.get? b=some o):Rel P hO σ ⟨ps,ex⟩ h':=by
  have z:(ps.map (·.2)++(Ls++ex)).Nodup:=r.nodup;have z1:=List.nodup_append.mp z;have z2:=List.nodup_append.mp z1.2.1;refine ⟨fun b o e=>hs b o (fun q=>?_) (r.keep b o e),r.len,fun i ob p e1 e2=>(r.obj i ob p e1 e2).kp (Kp.dropL hs) (fun o e=>hs _ _ (fun q=>?_) e),fun b hb=>r.new b ?_,?_,r.low,fun b hb=>?_⟩
  . rw [(r.new b (List.mem_append_right _ (List.mem_append_left _ q))).1] at e;cases e
  . exact z1.2.2 p.2 (Ao e2) p.2 (List.mem_append_left _ q) rfl
  . exact (List.mem_append.mp hb).elim (fun q=>List.mem_append_left _ q) fun q=>List.mem_append_right _ (List.mem_append_right _ q)
  . exact List.nodup_append.mpr ⟨z1.1,z2.2.1,fun a h1 b h2=>z1.2.2 a h1 b (List.mem_append_right _ h2)⟩
  . obtain ⟨o,e⟩:=r.exl b (List.mem_append_right _ hb);exact ⟨o,hs b o (fun q=>z2.2.2 b q b hb rfl) e⟩
end
theorem Base.altL {μb M:Mu} {sb s1 s2:Shared} {Ls:List Addr} (x:Base μb sb M s1) (ha:∀a∈Ls,sb.heap.get? a=none) (hk:∀b o,b∉Ls->s1.heap.get? b=some o->s2.heap.get? b=some o) (e1:s2.gens=s1.gens) (e2:s2.os=s1.os):Base μb sb M s2:=
  ⟨⟨x.st.ext,fun b o hb e=>by
    have hne:b∉Ls:=fun h=>by rw [ha b h] at e;cases e
    rcases x.st.keep b o hb e with z | ⟨z1,z2,sl,z⟩
    . exact .inl (hk b o hne z)
    . exact .inr ⟨z1,z2,sl,hk b _ hne z⟩,e1.trans x.st.gens,e2.trans x.st.os⟩,x.yg⟩
theorem FF.chgL {A:Around} {μ:Mu} {h h':Heap} {Ls:List Addr} (x:FF A μ h) (hfa:∀l,A.frames=some l->∀e∈l,∀a∈Ls,e.frame≠some a) (hs:∀b o,b∉Ls->h.get? b=some o->h'.get? b=some o):FF A μ h':=by
  obtain ⟨l,h1,h2⟩:=x;refine ⟨l,h1,fun env he=>?_⟩
  obtain ⟨h0,L,h3,h4,o,h5,h6⟩:=h2 env he;exact ⟨h0,L,h3,h4,o,hs _ _ (fun q=>hfa l h1 env he L q h3) h5,h6⟩
section
variable {prog:Program} {w:World} {hO:Heap} {σ:St} {μ:Mu} {s:Shared}
noncomputable def Mu.hid (μ:Mu) (as:List Addr):Mu:=⟨μ.ps,as++μ.ex⟩
theorem Bg {μ:Mu} {as:List Addr} {a:Addr} (h:a∈cells (μ.hid as)):a∈as∨a∈cells μ:=by
  rcases List.mem_append.mp h with q | q
  . exact .inr (List.mem_append_left _ q)
  . exact (List.mem_append.mp q).imp id (List.mem_append_right _)
theorem Rel.hideL (r:Rel w.params hO σ μ s.heap) {h':Heap} {as:List Addr} (hk:∀b o,s.heap.get? b=some o->h'.get? b=some o) (ha:∀a∈as,s.heap.objs.size<=a/\∃o,h'.get? a=some o) (hn:as.Nodup) :
    Rel w.params hO σ (μ.hid as) h'/\Kp μ s.heap (μ.hid as) h':=by
  have old:∀a o,a∈as->s.heap.get? a=some o->False:=fun a o h e=>absurd (Heap.lt_size e) (Nat.not_lt.mpr (ha a h).1)
  have kp:Kp μ s.heap (μ.hid as) h':=⟨fun _ _ e=>e,fun a o h e=>⟨fun hm=>(Bg hm).elim (fun q=>old a o q e) h,hk a o e⟩⟩
  refine ⟨⟨fun b o e=>hk b o (r.keep b o e),r.len,fun i ob p e1 e2=>(r.obj i ob p e1 e2).kp kp (fun _ e=>hk _ _ e),fun a hm=>?_,?_,r.low,fun a hm=>?_⟩,kp⟩
  . rcases Bg hm with q | q
    . refine ⟨?_,?_⟩
      . cases e:hO.get? a with
        | none=>rfl
        | some o=>exact (old a o q (r.keep a o e)).elim
      . obtain ⟨o,e⟩:=r.low;exact Nat.lt_of_lt_of_le (Nat.lt_trans (by decide) (Heap.lt_size (r.keep _ _ e))) (ha a q).1
    . exact r.new a q
  . have z:=List.nodup_append.mp r.nodup;show (pcells μ++(as++μ.ex)).Nodup;refine List.nodup_append.mpr ⟨z.1,List.nodup_append.mpr ⟨hn,z.2.1,fun a h b hb q=>?_⟩,fun a h b hb q=>?_⟩
    . obtain ⟨o,e⟩:=r.exl b hb;exact old a o h (q▸e)
    . rcases List.mem_append.mp hb with hb | hb
      . exact absurd (r.cell_lt (List.mem_append_left _ h)) (Nat.not_lt.mpr (q▸(ha b hb).1))
      . exact z.2.2 a h b hb q
  . exact (List.mem_append.mp hm).elim (fun q=>(ha a q).2) fun q=>(r.exl a q).elim fun o e=>⟨o,hk a o e⟩
theorem Rel.unhideL {h:Heap} {ps:List (Addr×Addr)} {ex:List Addr}:∀{as:List Addr},Rel w.params hO σ ⟨ps,as++ex⟩ h->Rel w.params hO σ ⟨ps,ex⟩ h/\Kp ⟨ps,as++ex⟩ h ⟨ps,ex⟩ h
  | [],r=>⟨r,Kp.refl⟩
  | a::as,r=>by
    have z:=Rel.unhideL (as:=as) (Rel.unhide (μ:=⟨ps,as++ex⟩) r);exact ⟨z.1,(Kp.unhide (μ:=⟨ps,as++ex⟩)).trans z.2⟩
end
structure IterG (prog:Program) (w:World) (A:Around) (μ:Mu) (h:Heap) (I:Addr) (Ls:List Addr) (vs:List V) (fp:List Addr) (x:Expr) (St:Nat->Heap->Prop) (Mid:Nat->Value->Heap->Prop):Prop where
  frame:∀i h h',St i h->(∀b∈fp,∀o,h.get? b=some o->h'.get? b=some o)->St i h'
  item:∀i (s:Shared) (Q:Option Value->Shared->Prop) (E:Value->Shared->Prop),i < vs.length->St i s.heap->
    (∀v h' tk,Mid i v h'->(∀μ',(∀b∈cells μ',b < s.heap.objs.size)->Kp μ h μ' s.heap->Kp μ' s.heap μ' h'->∀u,vs[i]? = some u->VR w.params h' μ' u v)->(∀b o,b∉Ls->s.heap.get? b=some o->h'.get? b=some o)->Q (some v) { s with heap:=h',toks:=tk })->wpAny (model prog w) A (pyNext (.ref I)) Q E s
  go:∀i v (s:Shared) (Q:Unit->Shared->Prop) (E:Value->Shared->Prop),((∃xs k p,x=.Tuple xs k p)->∃a,v=.ref a)->Mid i v s.heap->(∀h',St (i+1) h'->(∀b o,b∉Ls->s.heap.get? b=some o->h'.get? b=some o)->Q () { s with heap:=h' })->wpAny (model prog w) A (letOwnedTupleGo x (.ref I) v) Q E s
  done:∀(s:Shared) (Q:Option Value->Shared->Prop) (E:Value->Shared->Prop),St vs.length s.heap->(∀h' tk,(∀b o,b∉Ls->s.heap.get? b=some o->h'.get? b=some o)->Q none { s with heap:=h',toks:=tk })->wpAny (model prog w) A (pyNext (.ref I)) Q E s
  self:∀i (s:Shared) (Q E:Value->Shared->Prop),St i s.heap->Q (.ref I) s->wpAny (model prog w) A (pyIter (.ref I)) Q E s
  live:∀i h,St i h->∀a∈Ls,∃o,h.get? a=some o/\¬Hd o
  mid:∀i v h,Mid i v h->∀a∈Ls,∃o,h.get? a=some o
  fpo:∀b∈fp,b∈Ls∨(b∉cells μ/\∃o,h.get? b=some o)
  st:St 0 h
theorem IterOk.g {prog:Program} {w:World} {A:Around} {μ:Mu} {h:Heap} {I:Addr} {vs:List V} {fp:List Addr} {x:Expr} {Pr:Nat->Value->Prop} {St:Nat->Heap->Prop} (IO:IterOk prog w μ h I vs fp Pr St) (hA:A.handled=none)
    (hgo:(∀v,letOwnedTupleGo x (.ref I) v=pure ())∨((∃xs k p,x=.Tuple xs k p)/\∀i h,St i h->∃l,h.IsListIter I l i)) :
    IterG prog w A μ h I [I] vs fp x St (fun i c h=>Pr i c/\i < vs.length/\St (i+1) h):=by
  have W:=IO.walks A hA;have one:∀{b:Addr},b∉[I] ↔ ¬b∈[I]:=Iff.rfl;refine ⟨W.frame,fun i s Q E hi st k=>W.item i s Q E hi st fun v h' tk hp st' hk=>k v h' tk ⟨hp,hi,st'⟩ (fun μ' _ kp1 kp2 u hu=>IO.val i v u hp hu μ' h' (kp1.trans kp2)) hk,fun i v s Q E hx m k=>?_,W.done,W.self,fun i h st a ha=>List.mem_singleton.mp ha▸IO.live i h st,fun i v h m a ha=>(IO.live _ h m.2.2).elim fun o z=>⟨o,List.mem_singleton.mp ha▸z.1⟩,fun b hb=>(IO.fpo b hb).imp (fun q=>List.mem_singleton.mpr q) id,IO.st⟩
  rcases hgo with hgo | ⟨⟨xs,kk,p,rfl⟩,hl⟩
  . rw [hgo];exact wpAny_pure (k s.heap m.2.2 fun _ _ _ e=>e)
  . obtain ⟨a,rfl⟩:=hx ⟨xs,kk,p,rfl⟩;obtain ⟨l,hl⟩:=hl _ _ m.2.2;exact wpAny_letOwnedTupleGo_listiter hl (k s.heap m.2.2 fun _ _ _ e=>e)
theorem Cb (env:Env):∀xs:List Expr,testsOf xs env false=pure false
  | []=>rfl
  | x::xs=>by
    unfold testsOf;rw [List.forIn_cons];exact Cb env xs
noncomputable def EvCOk (prog:Program) (w:World) (hO:Heap) (T:Tab) (C:Calls) (n:Nat) (e:ME):Prop:=∀{xs:List Expr} {env:Env} {ρ:L} {σ:St} {b:Bool} {σ':St} {A:Around} {μ:Mu} {s:Shared} {m:Str->Option Value},ckL env.scope e xs=true->evC T C e ρ σ=some (b,σ')->Bud A n->Cx A w hO env μ s σ ρ m->OkB prog w hO A (testsOf xs env true) μ s b σ'
section
variable {prog:Program} {w:World} {K:Frag} {hO:Heap} {T:Tab} {C:Calls} {n:Nat} {A:Around} {σ σ':St} {μ:Mu} {s:Shared} {env:Env} {ρ:L} {m:Str->Option Value} {x:Expr} {v:V}
theorem evc_nil:(EvCOk prog w hO T C n) .nil:=by
  intro xs env ρ σ b σ' A μ s m hc he B X;exact Al (hc:emp xs=true) (sm2 he <| OkB.mk fun Q E k=>wpAny_pure (k _ _ (Step.refl _ _) X.r))
theorem evc_cons {a b:ME} (iha:(TrOk prog w hO T C n) a) (ihb:(EvCOk prog w hO T C n) b):(EvCOk prog w hO T C n) (.cons a b):=by
  intro xs env ρ σ bb σ' A μ s m hc he B X;refine OkB.mk fun Q E k=>?_
  refine AK (hc:lc xs _=true) fun x xs hc=>bd2 he fun v σ1 e1 he=>bd he fun t e2 he=>?_
  unfold testsOf;rw [List.forIn_cons];refine wpAny_bind (wpAny_bind (iha (aL hc) e1 e2 B X _ _ fun s1 μ1 st1 r1 tk1=>wpAny_pure ?_))
  show wpAny _ _ (testsOf xs env t) _ _ _;cases t with
  | true=>exact ihb (aR hc) he B (X.step st1 r1 tk1) _ _ fun s2 μ2 st2 r2 tk2=>k _ _ (st1.trans st2) r2
  | false=>
    rw [Cb];exact sm2 (P:=fun b σ'=>(∀s' μ',Step μ s μ' s'->Rel w.params hO σ' μ' s'.heap->Q b s')->wpAny (model prog w) A (pure false) Q E s1) he (fun k=>wpAny_pure (k _ _ st1 r1)) k
theorem CG {p:List (Addr×Addr)} {e e':List Addr} (h:e.Perm e') {a:Addr}:a∈cells ⟨p,e⟩ ↔ a∈cells ⟨p,e'⟩:=by
  unfold cells pcells;simp only [List.mem_append];rw [h.mem_iff]
theorem Kp.perm {p:List (Addr×Addr)} {e e':List Addr} {h:Heap} (hp:e.Perm e'):Kp ⟨p,e⟩ h ⟨p,e'⟩ h:=⟨fun _ _ e=>e,fun a o ha e=>⟨fun hm=>ha ((CG hp).mpr hm),e⟩⟩
theorem Rel.perm {P:Params} {hO:Heap} {σ:St} {p:List (Addr×Addr)} {e e':List Addr} {h:Heap} (r:Rel P hO σ ⟨p,e⟩ h) (hp:e.Perm e'):Rel P hO σ ⟨p,e'⟩ h:=by
  refine ⟨r.keep,r.len,fun i o q e1 e2=>(r.obj i o q e1 e2).kp (Kp.perm hp) (fun _ e=>e),fun a ha=>r.new a ((CG hp).mpr ha),?_,r.low,fun a ha=>r.exl a (hp.mem_iff.mpr ha)⟩
  have z:=r.nodup;unfold cells pcells at z ⊢;exact ((List.Perm.append_left _ hp).nodup_iff).mp z
theorem Rel.ex_off' {P:Params} {hO:Heap} {σ:St} {μ:Mu} {h:Heap} (r:Rel P hO σ μ h) {a:Addr} (ha:a∈μ.ex):a∉pcells μ:=fun q=>(List.nodup_append.mp r.nodup).2.2 _ q _ ha rfl
theorem Hd.not_l {xs:Array Value} {n:Nat} {o:Obj} (e:o.data=.seq xs n):¬Hd o:=fun ⟨es,k,h,_⟩=>by rw [e] at h;cases h
theorem Step.isl {μ μ':Mu} {s s':Shared} (x:Step μ s μ' s') {a:Addr} {xs:Array Value} {n:Nat} (ha:a∉pcells μ) (l:IsL s.heap a xs n):IsL s'.heap a xs n:=(x.keep _ _ ha l).n (Hd.not_l rfl)
theorem Step.nsk {μ μ':Mu} {s s':Shared} (x:Step μ s μ' s') {a:Addr} {m:Str->Option Value} (ha:a∉pcells μ) (l:s.heap.Ns a m):s'.heap.Ns a m:=by
  obtain ⟨o,es,ep,ho,hd,hs,hn⟩:=l;obtain ⟨o',ho',hd'⟩:=(x.keep _ _ ha ho).d;exact ⟨o',es,ep,ho',hd'.trans hd,hs,hn⟩
theorem Kp.un {μ:Mu} {h:Heap} {a:Addr}:Kp (μ.hide a) h μ h:=Kp.unhide (μ:=μ)
set_option genInjectivity false in
structure CSt where
  i:Nat
  σ:St
  M:Mu
  m:Str->Option Value
  ys:List Value
  q:Nat
  rs:List V
  rest:List V
structure CI (A:Around) (w:World) (hO:Heap) (σ':St) (body:V->St->Option (Option V×St)) (vs rs':List V) (μb:Mu) (sb:Shared) (μ0:Mu) (hI:Heap) (Ls:List Addr) (D Cc:Addr) (Sn:Nat->Heap->Prop) (x:CSt) (s:Shared):Prop where
  i:x.i<=vs.length
  ex:x.M.ex=Cc::D::(Ls++μb.ex)
  r:Rel w.params hO x.σ x.M s.heap
  st:Base μb sb x.M s
  g:Gk A x.M s
  ns:s.heap.Ns Cc x.m
  D:IsL s.heap D x.ys.toArray x.q
  v:VRs w.params s.heap x.M x.rs x.ys
  len:x.ys.length<=x.i
  sn:Sn x.i s.heap
  kp:Kp μ0 hI x.M s.heap
  run:cmprL body (vs.drop x.i) x.σ=some (x.rest,σ')
  all:x.rs++x.rest=rs'
noncomputable def CIE (A:Around) (w:World) (hO:Heap) (σ':St) (body:V->St->Option (Option V×St)) (vs rs':List V) (μb:Mu) (sb:Shared) (μ0:Mu) (hI:Heap) (Ls:List Addr) (D Cc:Addr) (Sn:Nat->Heap->Prop) (k:Nat) (s:Shared):Prop:=
  ∃x:CSt,k=vs.length+1 - x.i/\CI A w hO σ' body vs rs' μb sb μ0 hI Ls D Cc Sn x s
noncomputable def cEnv (scope:Scope) (cl:List (Str×Addr)) (C:Addr) (env:Env):Env:={ scope:=relS scope,locals:=C,globals:=env.globals,cells:=cl,qual:=env.qual,func:=none,code:=env.code,frame:=env.frame,builtins:=env.builtins }
theorem Dk {body:V->St->Option (Option V×St)} {vs rs':List V} {μb:Mu} {sb:Shared} {μ0:Mu} {hI:Heap} {Ls:List Addr} {D Cc:Addr} {Sn:Nat->Heap->Prop} {x:CSt} {rs rest:List V} {ys:List Value} {q:Nat} {σ3:St} {M:Mu} {s3:Shared} {m3:Str->Option Value} (hlt:x.i < vs.length)
    (ex:M.ex=Cc::D::(Ls++μb.ex)) (r:Rel w.params hO σ3 M s3.heap) (st:Base μb sb M s3) (g:Gk A M s3) (ns:s3.heap.Ns Cc m3) (hD:IsL s3.heap D ys.toArray q) (v:VRs w.params s3.heap M rs ys) (len:ys.length<=x.i+1) (sn:Sn (x.i+1) s3.heap) (kp:Kp μ0 hI M s3.heap) (run:cmprL body (vs.drop (x.i+1)) σ3=some (rest,σ')) (all:rs++rest=rs') :
    ∃k',k' < vs.length+1 - x.i/\CIE A w hO σ' body vs rs' μb sb μ0 hI Ls D Cc Sn k' s3:=
  ⟨vs.length+1 - (x.i+1),low_of hlt,⟨x.i+1,σ3,M,m3,ys,q,rs,rest⟩,rfl,⟨hlt,ex,r,st,g,ns,hD,v,len,sn,kp,run,all⟩⟩
theorem pat_ref {P:Params} {h:Heap} {sc:Scope} {t:ME} {v:V} {c:Value} {ρ ρ':L} {x:Expr} (hx:ckP sc t x=true) (e:bindP t v ρ=some ρ') (hv:VR P h μ v c) (ht:∃xs k p,x=.Tuple xs k p):∃a,c=.ref a:=by
  obtain ⟨xs,k,p,rfl⟩:=ht;cases t with
  | loc a=>exact nt hx
  | tup ts=>exact bd e fun vs hs _=>VR.t (Z:=fun c=>∃a,c=.ref a) (BR hs▸hv:VR P h μ (.tup vs) c) fun a _ _ _ _=>⟨a,rfl⟩
  | _=>exact nt hx
theorem comp_run (conds elt:ME) (ihc:(EvCOk prog w hO T C n) conds) (ihe:(EvOk prog w hO T C n) elt) {t:ME} {tg elt' it':Expr} {ifs:List Expr} {scope:Scope} {pos:Pos} {I D Cc:Addr} {Ls fp:List Addr} {Mid:Nat->Value->Heap->Prop} {Sn:Nat->Heap->Prop} {vs:List V}
    (B:Bud A n) (hck1:ckE (relS scope) elt elt'=true) (hck2:ckL (relS scope) conds ifs=true) (hkind:scope.kind=.function) (hx:ckP (relS scope) t tg=true) (hglob:env.globals=mainGlobals) (hblt:env.builtins=builtinsNs)
    {μ0:Mu} {hI:Heap} (IO:IterG prog w A μ0 hI I Ls vs fp tg Sn Mid) (hsz:vs.length<=big) {R:Result->Shared->Prop} (hLD:D∉Ls) (hLC:Cc∉Ls) (hDC:D≠Cc) (hfp:∀b∈fp,b≠D/\b≠Cc)
    (fL:∀l,A.frames=some l->∀e∈l,∀a∈Ls,e.frame≠some a) (fD:∀l,A.frames=some l->∀e∈l,e.frame≠some D)
    (body:V->St->Option (Option V×St)) {ρf:L} (hbody:body=fun v σ=>(bindP t v ρf).bind fun ρ=>(evC T C conds ρ σ).bind fun (b,σ)=>if b then (ev T C elt ρ σ).map fun (r,σ)=>(some r,σ) else some (none,σ))
    {μb:Mu} {sb:Shared} {cl:List (Str×Addr)} (hcl:∀q∈cl,q.2∈μb.ex/\q.2∉pcells μb/\∃v,sb.heap.IsCell q.2 v) (hap:cl.Pairwise fun x y=>x.2≠y.2) (hcel:∀x,(relS scope).names.lookup x=some .cell->∃a,cl.lookup x=some a)
    (hρ:∀y u,lk ρf y=some u->∃c a,(relS scope).names.lookup (Str.ofString y)=some .cell/\cl.lookup (Str.ofString y)=some a/\sb.heap.IsCell a (some c)/\VR w.params hI μ0 u c) {rs':List V} (hR:∀(s':Shared) (ps:List (Addr×Addr)) (m':Str->Option Value) (ys:List Value) (k:Nat),Rel w.params hO σ' ⟨ps,Cc::D::μb.ex⟩ s'.heap->Base μb sb ⟨ps,Cc::D::μb.ex⟩ s'->s'.heap.Ns Cc m'->IsL s'.heap D ys.toArray k->VRs w.params s'.heap ⟨ps,Cc::D::μb.ex⟩ rs' ys->R (.ok .next) s')
    {M0:Mu} (hM0:M0.ex=Cc::D::(Ls++μb.ex)) (r0:Rel w.params hO σ M0 s.heap) (st0:Base μb sb M0 s) (hnL:∀a∈Ls,sb.heap.get? a=none) (hnD:sb.heap.get? D=none) (hnC:sb.heap.get? Cc=none) (hg:Gk A M0 s) (hns:s.heap.Ns Cc m) (hD:IsL s.heap D #[] 0) (hst:Sn 0 s.heap) (kp0:Kp μ0 hI M0 s.heap) (hrun:cmprL body vs σ=some (rs',σ')) :
    codeAny (model prog w) A (.compLoop (.ListComp elt' [⟨tg,it',ifs,0⟩] scope pos) 0 (.ref I) (.ref D) (cEnv scope cl Cc env)) R s:=by
  refine DM (CIE A w hO σ' body vs rs' μb sb μ0 hI Ls D Cc Sn) (fun k s' hk=>Exists.elim hk fun x hx'=>?_) (vs.length+1)
    ⟨⟨0,σ,M0,m,[],0,[],rs'⟩,rfl,⟨Nat.zero_le _,hM0,r0,st0,hg,hns,hD,rfl,Nat.le_refl _,hst,kp0,hrun,rfl⟩⟩
  have c:=hx'.2;rw [hx'.1]
  have exI:∀{N:Mu},N.ex=Cc::D::(Ls++μb.ex)->Cc∈N.ex/\D∈N.ex/\∀a∈Ls,a∈N.ex:=fun h=>by
    rw [h];exact ⟨List.mem_cons_self,List.mem_cons_of_mem _ List.mem_cons_self,fun a ha=>List.mem_cons_of_mem _ (List.mem_cons_of_mem _ (List.mem_append_left _ ha))⟩
  have inC:=exI c.ex;have live:∀{i:Nat} {h:Heap},Sn i h->∀a∈Ls,∃o,h.get? a=some o:=fun st a ha=>(IO.live _ _ st a ha).elim fun o z=>⟨o,z.1⟩
  have clD:∀q∈cl,q.2≠D:=fun q hq h=>by obtain ⟨_,_,_,o,e,_⟩:=hcl q hq;rw [h] at e;exact absurd (e.symm.trans hnD) (by simp)
  have clL:∀q∈cl,q.2∉Ls:=fun q hq h=>by obtain ⟨_,_,_,o,e,_⟩:=hcl q hq;exact absurd (e.symm.trans (hnL _ h)) (by simp)
  by_cases hlt:x.i < vs.length
  . have run:=c.run;rw [List.drop_eq_getElem_cons hlt] at run;refine bd2 run fun ro σ2 hb run=>?_
    rw [hbody] at hb;refine bd hb fun ρ1 e0 hb=>?_
    refine Ah (IO.item x.i _ _ _ hlt c.sn fun cv h1 tk1 hmid hval hs1 htk=>?_)
    have r1:Rel w.params hO x.σ x.M h1:=c.r.changeL inC.2.2 hs1 (IO.mid _ _ _ hmid);have kp1:Kp x.M s'.heap x.M h1:=Kp.changeL inC.2.2 hs1;have hv1:VR w.params h1 x.M vs[x.i] cv:=hval x.M (fun b hb=>c.r.cell_lt hb) c.kp kp1 _ (List.getElem?_eq_getElem hlt)
    refine IO.go x.i cv { s' with heap:=h1,toks:=tk1 } _ _ (pat_ref hx e0 hv1) hmid fun h2 hst1 hs2=>?_
    have kpg:Kp x.M h1 x.M h2:=Kp.changeL inC.2.2 hs2;have r2:Rel w.params hO x.σ x.M h2:=r1.changeL inC.2.2 hs2 (live hst1);have kp2:Kp x.M s'.heap x.M h2:=kp1.trans kpg;have st2:Base μb sb x.M { s' with heap:=h2,toks:=tk1 }:=(c.st.altL (s2:={ s' with heap:=h1,toks:=tk1 }) hnL hs1 rfl rfl).altL hnL hs2 rfl rfl
    have g2:Gk A x.M { s' with heap:=h2,toks:=tk1 }:=⟨c.g.gens,Nat.lt_of_lt_of_le c.g.toks htk,(c.g.ff.chgL fL hs1).chgL fL hs2⟩
    have Xc:Cx A w hO (cEnv scope cl Cc env) x.M { s' with heap:=h2,toks:=tk1 } x.σ ρf x.m:=by
      refine ⟨r2,⟨hkind,hglob,hblt,Ns.at c.ns fun o e=>hs2 _ o hLC (hs1 _ o hLC e),⟨inC.1,r2.ex_off' inC.1⟩,fun q hq=>?_,hap,hcel,fun y v e=>?_⟩,g2,fun h=>nomatch (show false=true from h)⟩
      . obtain ⟨q1,q2,v,hv⟩:=hcl q hq;have q3:q.2∈x.M.ex:=by rw [c.ex];exact List.mem_cons_of_mem _ (List.mem_cons_of_mem _ (List.mem_append_right _ q1))
        exact ⟨q3,r2.ex_off' q3,fun h=>by obtain ⟨o,e,_⟩:=hv;rw [h] at e;exact absurd (e.symm.trans hnC) (by simp),v,st2.st.cell q2 hv⟩
      . obtain ⟨cy,a,k1,k2,k3,k4⟩:=hρ y v e;exact ⟨cy,.inr ⟨.inl k1,a,k2,st2.st.cell (hcl _ (Ae k2)).2.1 k3⟩,k4.kp (c.kp.trans kp2)⟩
    obtain ⟨iht,hct,hpt⟩:=(GW (prog:=prog) (w:=w) (hO:=hO) (T:=T) (C:=C) (n:=n) t).ok hx;refine iht (env:=cEnv scope cl Cc env) hct ((GW (prog:=prog) (w:=w) (hO:=hO) (T:=T) (C:=C) (n:=n) t).as e0) (hv1.kp kpg) B Xc st2 ⟨hnC,.inl hpt⟩ _ _ fun sa Ma m2 hexa kqa Xa sta=>?_
    have hMa:Ma.ex=Cc::D::(Ls++μb.ex):=hexa.trans c.ex;have fps:∀{N:Mu} {h:Heap},Kp μ0 hI N h->∀b∈fp,b∈Ls∨b∉cells N:=fun kp b hb=>(IO.fpo b hb).imp id fun h=>h.2.elim fun o e=>(kp.off b o h.1 e).1
    have kp2':Kp μ0 hI x.M h2:=c.kp.trans kp2;have hD2:IsL h2 D x.ys.toArray x.q:=hs2 _ _ hLD (hs1 _ _ hLD c.D);have hDa:IsL sa.heap D x.ys.toArray x.q:=kqa.hid D _ (Hd.not_l rfl) inC.2.1 hDC clD hD2
    have hsta:Sn (x.i+1) sa.heap:=IO.frame _ _ _ hst1 fun b hb o e=>by
      rcases fps kp2' b hb with q | q
      . obtain ⟨o',h1',h2'⟩:=IO.live _ _ hst1 b q;exact kqa.hid b o (Option.some.inj (h1'.symm.trans e)▸h2') (inC.2.2 b q) (hfp b hb).2 (fun z hz h=>clL z hz (h▸q)) e
      . exact (kqa.off b o q e).2
    have kpa:Kp μ0 hI Ma sa.heap:=kp2'.trans kqa.kp;have r2a:=Xa.r;have inA:=exI hMa;have hva:VRs w.params sa.heap Ma x.rs x.ys:=(c.v.kp kp2).kp kqa.kp;refine bd2 hb fun t σ4 e1 hb=>?_
    refine ihc hck2 e1 B Xa _ _ fun s3 M3 stp3 r3 tk3=>?_
    have Snk:∀{N N':Mu} {t1 t2:Shared} {i:Nat},Step N t1 N' t2->(∀a∈Ls,a∉pcells N)->Sn i t1.heap->(∀b∈fp,b∈Ls∨b∉cells N)->Sn i t2.heap:=fun {N N' t1 t2 i} st hp hs hf=>IO.frame _ _ _ hs fun b hb o e=>by
      rcases hf b hb with q | q
      . obtain ⟨o',h1',h2'⟩:=IO.live _ _ hs b q;exact st.exact (hp b q) (Option.some.inj (h1'.symm.trans e)▸h2') e
      . exact (st.kp.off _ _ q e).2
    have hM3:M3.ex=Cc::D::(Ls++μb.ex):=stp3.ex.trans hMa;have st3:Base μb sb M3 s3:=sta.on stp3;have hD3:IsL s3.heap D x.ys.toArray x.q:=stp3.isl (r2a.ex_off' inA.2.1) hDa;have hn3:s3.heap.Ns Cc m2:=stp3.nsk (r2a.ex_off' inA.1) Xa.f.ns;have hst3:Sn (x.i+1) s3.heap:=Snk stp3 (fun a ha=>r2a.ex_off' (inA.2.2 a ha)) hsta (fps kpa)
    have hv3:VRs w.params s3.heap M3 x.rs x.ys:=hva.kp stp3.kp;have kp3:Kp μ0 hI M3 s3.heap:=kpa.trans stp3.kp;have g3:=(Xa.step stp3 r3 tk3).g;cases t with
    | false=>
      have hb:=Prod.mk.inj (Option.some.inj (hb:some (none,σ4)=some (ro,σ2)));rw [<- hb.1,<- hb.2] at run;exact mp2 run fun rs2 σ3 hc2 hc=>Dk hlt hM3 r3 st3 g3 hn3 hD3 hv3 (Nat.le_succ_of_le c.len) hst3 kp3 ((Prod.mk.inj hc).2▸hc2) ((show rs2=x.rest from (Prod.mk.inj hc).1)▸c.all)
    | true=>
      refine mp2 hb fun rv σ5 e2 hb=>?_
      have hb:=Prod.mk.inj hb;rw [<- hb.1,<- hb.2] at run;refine mp2 run fun rs2 σ3 hc2 hc=>?_
      have all:=c.all;rw [<- (Prod.mk.inj hc).1] at all;have X3:=Xa.step stp3 r3 tk3;refine ihe hck1 e2 B X3 _ _ fun c4 s4 M4 stp4 r4 v4 tk4=>?_
      have in3:=exI hM3;have hM4:M4.ex=Cc::D::(Ls++μb.ex):=stp4.ex.trans hM3;have in4:=exI hM4;refine append_at (hsz:=by rw [List.size_toArray,<- A2];exact Nat.le_trans c.len (Nat.le_trans c.i hsz)) (stp4.isl (r3.ex_off' in3.2.1) hD3) fun h5 hs5 ho5=>?_
      rw [List.push_toArray] at ho5;have hs5':∀b o,b≠D->s4.heap.get? b=some o->h5.get? b=some o:=fun b o hb e=>(hs5.2 b hb).trans e
      have kp5:Kp M4 s4.heap M4 h5:=Kp.change in4.2.1 hs5';have hst4:=Snk stp4 (fun a ha=>r3.ex_off' (in3.2.2 a ha)) hst3 (fps kp3)
      have g4:=(X3.step stp4 r4 tk4).g
      exact Dk (s3:={ s4 with heap:=h5 }) hlt hM4 (r4.change in4.2.1 hs5' ⟨_,ho5⟩) ((st3.on stp4).alt hnD hs5' rfl rfl) ⟨g4.gens,g4.toks,g4.ff.chg fD hs5' fun _ _ h=>h⟩ (Ns.at (stp4.nsk (r3.ex_off' in3.1) hn3) fun o e=>hs5' _ o (Ne.symm hDC) e) ho5
        (((hv3.kp stp4.kp).kp kp5).append (VRs.one (v4.kp kp5))) (by rw [List.length_append];exact Nat.succ_le_succ c.len) (IO.frame _ _ _ hst4 fun b hb o e=>hs5' b o (hfp b hb).1 e) ((kp3.trans stp4.kp).trans kp5) ((Prod.mk.inj hc).2▸hc2) ((List.append_assoc _ _ _).trans all)
  . have hin:x.i=vs.length:=Nat.le_antisymm c.i (Nat.not_lt.mp hlt);have run:=c.run;have all:=c.all;rw [hin,List.drop_length] at run;have hrest:=Prod.mk.inj (Option.some.inj (run:some ([],x.σ)=some (x.rest,σ')));rw [<- hrest.1,List.append_nil] at all;refine IO.done _ _ _ (hin▸c.sn) fun h1 tk1 hs1=>?_
    have hperm:x.M.ex.Perm (Ls++(Cc::D::μb.ex)):=by
      rw [c.ex];exact ((List.perm_middle (a:=D)).symm.cons Cc).trans List.perm_middle.symm
    have rP:Rel w.params hO x.σ ⟨x.M.ps,Ls++(Cc::D::μb.ex)⟩ s'.heap:=Rel.perm (p:=x.M.ps) (e:=x.M.ex) c.r hperm;have r1:Rel w.params hO σ' ⟨x.M.ps,Cc::D::μb.ex⟩ h1:=Rel.dropL (hrest.2▸rP) hs1;have kp1:Kp x.M s'.heap ⟨x.M.ps,Cc::D::μb.ex⟩ h1:=(Kp.perm (p:=x.M.ps) (e:=x.M.ex) hperm).trans (Kp.dropL hs1);exact hR { s' with heap:=h1,toks:=tk1 } x.M.ps x.m x.ys x.q r1 ((c.st.to (e:=Cc::D::μb.ex) fun b hb=>.inl (by rw [c.ex];exact (List.mem_cons.mp hb).elim (fun q=>q▸List.mem_cons_self) fun q=>List.mem_cons_of_mem _ ((List.mem_cons.mp q).elim (fun q=>q▸List.mem_cons_self) fun q=>List.mem_cons_of_mem _ (List.mem_append_right _ q)))).altL hnL hs1 rfl rfl) (Ns.at c.ns fun o=>hs1 _ o hLC) (hs1 _ _ hLD c.D) (all▸c.v.kp kp1)
end
section
variable {prog:Program} {w:World} {K:Frag} {hO:Heap} {T:Tab} {C:Calls} {n:Nat} {A:Around} {σ σ':St} {μ:Mu} {s:Shared} {env:Env} {ρ:L} {m:Str->Option Value} {x:Expr} {v:V}
theorem mp_ok {scope:Scope} (h:ckMP scope=true):∀z∈scope.names,z.2≠.cell/\(z.2=.local->scope.names.lookup z.1=some .local):=fun z hz=>by
  have h:=List.all_eq_true.mp (aR h) z hz;refine ⟨fun q=>?_,fun q=>?_⟩
  . rw [q] at h;exact nt (aL h)
  . rw [q] at h;exact eq_of_beq (aR h)
theorem CH (g:NameKind->NameKind) (x:Str):∀l:List (Str×NameKind),(l.map fun z=>(z.1,g z.2)).lookup x=(l.lookup x).map g
  | []=>rfl
  | (n,k)::r=>by
    rw [List.map_cons,List.lookup_cons,List.lookup_cons,CH g x r];cases x==n<;>rfl
theorem rel_look {scope:Scope} {x:Str} {k:NameKind} (h:scope.names.lookup x=some k):(relS scope).names.lookup x=some (kCel k):=by
  show (scope.names.map fun z=>(z.1,kCel z.2)).lookup x=_
  rw [CH,h];rfl
theorem nd_ok:∀{l:List Str},nd l=true->l.Pairwise (·≠·)
  | [],_=>List.Pairwise.nil
  | x::r,h=>List.pairwise_cons.mpr ⟨fun y hy q=>by
      have h:=aL h;rw [<- q] at hy;rw [List.contains_iff_mem.mpr hy] at h;exact nt h,nd_ok (aR h)⟩
theorem Fi {scope:Scope} {z:Str×NameKind} (hz:z∈scope.names) (h:z.2=.free):z.1∈fvS scope:=List.mem_map.mpr ⟨z,List.mem_filter.mpr ⟨hz,by rw [h];rfl⟩,rfl⟩
theorem DN {sc scope:Scope} {fv:List String} (h:ckFV sc scope fv=true) {y:Str} (hy:y∈fvS scope):sc.names.lookup y=some .cell/\scope.names.lookup y=some .free:=by
  have h:=List.all_eq_true.mp (aR (aR h)) y hy;exact ⟨eq_of_beq (aL h),eq_of_beq (aR h)⟩
theorem Fj {scope:Scope} {env:Env} {fv:List String} (hk:env.scope.kind=.function) (h:ckFV env.scope scope fv=true):relabel scope env=relS scope:=by
  unfold relabel relS
  congr 1
  refine List.map_congr_left fun z hz=>?_
  obtain ⟨n,k⟩:=z;dsimp only;cases k with
  | free=>
    have:=(DN h (Fi hz rfl)).1
    have hk':env.kindOf n=some .cell:=this;rw [hk',hk];rfl
  | _=>rfl
theorem cEnv_eq {scope:Scope} {env:Env} {fv:List String} (hk:env.scope.kind=.function) (h:ckFV env.scope scope fv=true) (cl:List (Str×Addr)) (C:Addr):compEnvC scope cl C env=cEnv scope cl C env:=by
  unfold compEnvC cEnv;rw [Fj hk h]
noncomputable def gA (env:Env) (n:Str):Addr:=(env.cells.lookup n).getD 0
noncomputable def clo (env:Env):List (Str×NameKind)->List (Str×Addr)->List (Str×Addr)
  | [],cs=>cs
  | z::r,cs=>clo env r (if z.2==.free then (z.1,gA env z.1)::cs else cs)
theorem GX {env:Env}:∀(names:List (Str×NameKind)) (cs:List (Str×Addr)),(∀z∈names,z.2=.free->∃a,env.cells.lookup z.1=some a)->
    (forIn names cs fun (x:Str×NameKind) (cs:List (Str×Addr))=>(if (x.2==.free)=true then do let a <- cellOf env x.1;pure (ForInStep.yield ((x.1,a)::cs)) else pure (ForInStep.yield cs):Sem (ForInStep (List (Str×Addr)))))=pure (clo env names cs)
  | [],cs,_=>rfl
  | z::r,cs,h=>by
    have ih:=fun cs=>GX (env:=env) r cs fun z hz=>h z (List.mem_cons_of_mem _ hz)
    rw [List.forIn_cons];unfold clo;cases hq:z.2==NameKind.free with
    | true=>
      obtain ⟨a,ha⟩:=h z List.mem_cons_self (eq_of_beq hq)
      have:cellOf env z.1=pure a:=by unfold cellOf;rw [ha]
      rw [if_pos rfl,if_pos rfl,this,<- ih];unfold gA;rw [ha];rfl
    | false=>
      rw [if_neg Bool.false_ne_true,if_neg Bool.false_ne_true,<- ih];rfl
theorem clo_eq {env:Env}:∀(names:List (Str×NameKind)) (cs:List (Str×Addr)),clo env names cs=(((names.filter fun z=>z.2==.free).map Prod.fst).map fun n=>(n,gA env n)).reverse++cs
  | [],cs=>rfl
  | z::r,cs=>by
    unfold clo;rw [clo_eq r,List.filter_cons];cases hq:z.2==NameKind.free with
    | true=>rw [if_pos rfl,if_pos rfl];simp
    | false=>rw [if_neg Bool.false_ne_true,if_neg Bool.false_ne_true]
noncomputable def clS (env:Env) (scope:Scope):List (Str×Addr):=((fvS scope).map fun n=>(n,gA env n)).reverse
theorem look_g {g:Str->Addr} {x:Str}:∀{l:List (Str×Addr)},(∀q∈l,q.2=g q.1)->x∈l.map Prod.fst->l.lookup x=some (g x)
  | [],_,h=>absurd h List.not_mem_nil
  | (n,a)::r,h,hx=>by
    rw [List.lookup_cons];cases hq:x==n with
    | true=>
      have:=h (n,a) List.mem_cons_self
      rw [eq_of_beq hq];exact congrArg some this
    | false=>
      refine look_g (fun q hq=>h q (List.mem_cons_of_mem _ hq)) ?_
      rcases List.mem_cons.mp hx with h1 | h1
      . rw [h1] at hq;simp at hq
      . exact h1
theorem DO {l:List (Str×Addr)} (h:l.Pairwise fun x y=>x.2≠y.2) {x y:Str} {a b:Addr} (hx:(x,a)∈l) (hy:(y,b)∈l) (hn:x≠y):a≠b:=by
  induction l with
  | nil=>cases hx
  | cons e r ih=>
    obtain ⟨h1,h2⟩:=List.pairwise_cons.mp h;rcases List.mem_cons.mp hx with p | p<;>rcases List.mem_cons.mp hy with q | q
    . rw [<- p] at q;exact absurd (Prod.mk.inj q).1.symm hn
    . subst p;exact h1 _ q
    . subst q;exact fun z=>h1 _ p z.symm
    . exact ih h2 p q
theorem cl_ok {scope:Scope} {fv:List String} (F:Fm w.params hO env μ s.heap ρ m) (h:ckFV env.scope scope fv=true) :
    closureFor scope env=pure (clS env scope)/\(∀q∈clS env scope,q∈env.cells)/\((clS env scope).Pairwise fun x y=>x.2≠y.2)/\(∀y∈fvS scope,(clS env scope).lookup y=env.cells.lookup y):=by
  have at':∀y∈fvS scope,env.cells.lookup y=some (gA env y):=fun y hy=>by
    obtain ⟨a,ha⟩:=F.cel y (DN h hy).1;unfold gA;rw [ha];rfl
  have hc:clo env scope.names []=clS env scope:=by rw [clo_eq,List.append_nil];rfl
  refine ⟨?_,fun q hq=>?_,?_,fun y hy=>?_⟩
  . rw [<- hc];refine (congrArg (·>>=pure) (GX (env:=env) scope.names [] fun z hz hf=>⟨_,at' _ (Fi hz hf)⟩)).trans ?_
    rfl
  . obtain ⟨n,hn,rfl⟩:=List.mem_map.mp (List.mem_reverse.mp hq);exact Ae (at' n hn)
  . unfold clS;rw [List.pairwise_reverse,List.pairwise_map];refine (nd_ok (aL (aR h))).imp_of_mem fun ha hb hn=>?_
    exact DO F.apart (Ae (at' _ hb)) (Ae (at' _ ha)) (Ne.symm hn)
  . rw [at' y hy];refine look_g (fun q hq=>?_) ?_
    . obtain ⟨n,hn,rfl⟩:=List.mem_map.mp (List.mem_reverse.mp hq);rfl
    . unfold clS;rw [List.map_reverse,List.mem_reverse,List.map_map];exact List.mem_map.mpr ⟨y,hy,rfl⟩
theorem lk_fil {fv:List String} {y:String} {u:V} {Z:Prop} {ρ:L} (e:lk (ρ.filter fun e=>fv.contains e.1) y=some u) (k:y∈fv->lk ρ y=some u->Z):Z:=by
  induction ρ with
  | nil=>exact nn e
  | cons a ρ ih=>
    obtain ⟨n,v⟩:=a;rw [List.filter_cons] at e;cases hq:fv.contains n with
    | true=>
      rw [if_pos hq] at e;unfold lk at e;refine ife e (fun q e=>?_) fun q e=>ih e fun k1 k2=>k k1 (by unfold lk;rw [if_neg q];exact k2)
      dsimp only at q;exact k (q▸List.contains_iff_mem.mp hq) (by unfold lk;rw [if_pos q];exact e)
    | false=>
      rw [if_neg (by rw [hq];exact Bool.false_ne_true)] at e
      refine ih e fun k1 k2=>k k1 ?_
      unfold lk;rw [if_neg]
      . exact k2
      . dsimp only;intro q;rw [q,List.contains_iff_mem.mpr k1] at hq;cases hq
noncomputable def Src (prog:Program) (w:World) (hO:Heap) (A:Around) (env:Env) (tg it':Expr) (vs:List V) (μ:Mu) (s:Shared) (σ1:St):Prop:=∀(Q:Value->Shared->Prop) (E:Value->Shared->Prop),
  (∀(s1:Shared) (μ1:Mu) (H2:Heap) (I:Addr) (Ls fp:List Addr) (Sn:Nat->Heap->Prop) (Mid:Nat->Value->Heap->Prop),Step μ s μ1 s1->Rel w.params hO σ1 μ1 s1.heap->s.toks<=s1.toks->(∀b o,s1.heap.get? b=some o->H2.get? b=some o)->s1.heap.objs.size<=H2.objs.size->
    (∀a∈Ls,s1.heap.objs.size<=a/\∃o,H2.get? a=some o)->Ls.Nodup->IterG prog w A (μ1.hid Ls) H2 I Ls vs fp tg Sn Mid->Q (.ref I) { s1 with heap:=H2 })->
  wpAny (model prog w) A (eval it' env) (fun c s1=>wpAny (model prog w) A (pyIter c) Q E s1) E s
theorem CJ {fv:List String} {elt conds t:ME} (ihe:(EvOk prog w hO T C n) elt) (ihc:(EvCOk prog w hO T C n) conds) {elt' it' tg:Expr} {pos pos':Pos} {ifs:List Expr} {scope:Scope} {use:Option (Value->Sem Unit)} (c0:ckFV env.scope scope fv=true) (c6:ckP (relS scope) t tg=true) (c4:ckMP scope=true)
    (hfold:∀v,foldedSetIterable it' env v=pure v) (c2:ckE (relS scope) elt elt'=true) (c3:ckL (relS scope) conds ifs=true) {σ1 σ2:St} {vs rs:List V}
    (e3:cmprL (fun v σ=>(bindP t v (ρ.filter fun e=>fv.contains e.1)).bind fun ρ=>(evC T C conds ρ σ).bind fun (b,σ)=>if b then (ev T C elt ρ σ).map fun (r,σ)=>(some r,σ) else some (none,σ)) vs σ1=some (rs,σ2)) (hsz:vs.length<=big) (B:Bud A n) (X:Cx A w hO env μ s σ ρ m)
    (src:Src prog w hO A env tg it' vs μ s σ1) {Q:Value->Shared->Prop} {E:Value->Shared->Prop}
    (kk:∀(s1:Shared) (μ1:Mu) (D Cc:Addr) (s':Shared) (ps:List (Addr×Addr)) (m':Str->Option Value) (ys:List Value) (k':Nat),Step μ s μ1 s1->Cx A w hO env μ1 s1 σ1 ρ m->Rel w.params hO σ2 ⟨ps,Cc::D::μ1.ex⟩ s'.heap->Base μ1 s1 ⟨ps,Cc::D::μ1.ex⟩ s'->s'.heap.Ns Cc m'->IsL s'.heap D ys.toArray k'->VRs w.params s'.heap ⟨ps,Cc::D::μ1.ex⟩ rs ys->
      s1.heap.objs.size<=Cc->s1.heap.objs.size<=D->D≠Cc->s1.toks<=s'.toks->compPost (model prog w) A E use Q (.ref D) Cc (.ok .next) s') :
    wpAny (model prog w) A (comprehension (.ListComp elt' [⟨tg,it',ifs,0⟩] scope pos) scope env pos' (newList []) false (eval it' env) use) Q E s:=by
  obtain ⟨l1,l2,l3,l4⟩:=cl_ok X.f c0;have hfree:=mp_ok c4;have c4:scope.kind=.function:=eq_of_beq (aL c4);have hk:=X.f.kind;refine wpAny_comprehension_free (g:=⟨tg,it',ifs,0⟩) rfl hfold l1 c4 (fun z hz=>(hfree z hz).2) (src _ _ fun s1 μ1 H2 I Ls fp Sn Mid st1 r1 tk1 old2 zH hL hLn IO=>?_)
  have X1:=X.step st1 r1 tk1;obtain ⟨r2,kpI⟩:=r1.hideL old2 hL hLn;refine wpAny_newObj_type (wpAny_newFunctionEnv (fun z hz=>(hfree z hz).1) (by intro y hy;simp at hy) (fun h₁ hns₁ hsb₁=>?_) c4)
  dsimp only at hns₁ hsb₁ ⊢
  have fin:∀(D Cc:Nat) (H3 H4:Heap) (lo co:Obj),D=H2.objs.size->lo={ cls:=.type "list",data:=.seq ([]:List Value).toArray }->H3=H2.push lo->Cc=H3.objs.size->H4=H3.push co->co.isFreed=false->
      h₁.Ns Cc (fun _=>none)->Heap.SameBut Cc H4 h₁->∀s4:Shared,s4.heap=h₁->s4.gens=s1.gens->s4.os=s1.os->s1.toks<=s4.toks->
      codeAny (model prog w) A (.compStart (.ListComp elt' [⟨tg,it',ifs,0⟩] scope pos) 0 (.ref I) (.ref D) (compEnvC scope (clS env scope) Cc env))
        (compPost (model prog w) A E use Q (.ref D) Cc) s4:=by
    intro D Cc H3 H4 lo co hD hlo hH3 hCc hH4 hcf hns hsb s4 e4 g4 o4 t4;rw [cEnv_eq hk c0];refine Bp ?_
    have hD3:D+1=H3.objs.size:=by rw [hH3,Heap.size_push,hD]
    have hDC:D≠Cc:=by omega
    have ltL:∀a∈Ls,a < D:=fun a ha=>let ⟨o,e⟩:=(hL a ha).2;hD▸Heap.lt_size e
    have hLD:D∉Ls:=fun h=>Nat.lt_irrefl _ (ltL _ h)
    have hLC:Cc∉Ls:=fun h=>Nat.lt_asymm (show D < Cc by omega) (ltL _ h)
    have r3:Rel w.params hO σ1 ((μ1.hid Ls).hide D) H3:=by rw [hD,hH3];exact r2.hide lo (by rw [hlo];rfl)
    have r4:Rel w.params hO σ1 (((μ1.hid Ls).hide D).hide Cc) H4:=by rw [hCc,hH4];exact r3.hide co hcf
    have hs4:∀b o,b≠Cc->H4.get? b=some o->h₁.get? b=some o:=fun b o hb e=>(hsb.2 b hb).trans e
    have r5:Rel w.params hO σ1 (((μ1.hid Ls).hide D).hide Cc) h₁:=r4.change List.mem_cons_self hs4 (let ⟨o,_,_,ho,_⟩:=hns;⟨o,ho⟩);have old3:∀b ob,H2.get? b=some ob->H3.get? b=some ob:=fun b ob e=>by rw [hH3];exact Heap.get?_push_of_some _ e
    have old4:∀b ob,H3.get? b=some ob->h₁.get? b=some ob:=fun b ob e=>hs4 b ob (Nat.ne_of_lt (Nat.lt_of_lt_of_le (Heap.lt_size e) (Nat.le_of_eq hCc.symm))) (by rw [hH4];exact Heap.get?_push_of_some _ e)
    have hDl:IsL h₁ D #[] 0:=old4 _ _ (by rw [hH3,hD,hlo];exact Heap.get?_push_size _ rfl)
    have none1:∀a:Nat,s1.heap.objs.size<=a->s1.heap.get? a=none:=fun a ha=>by
      cases e:s1.heap.get? a with
      | none=>rfl
      | some ob=>exact absurd (Heap.lt_size e) (Nat.not_lt.mpr ha)
    have hst:Sn 0 h₁:=IO.frame _ _ _ IO.st fun b _ ob e=>old4 _ _ (old3 _ _ e)
    have kpA:Kp (μ1.hid Ls) H2 (((μ1.hid Ls).hide D).hide Cc) h₁:=by
      have k1:Kp (μ1.hid Ls) H2 ((μ1.hid Ls).hide D) H3:=by rw [hD,hH3];exact Kp.hide
      have k2:Kp ((μ1.hid Ls).hide D) H3 (((μ1.hid Ls).hide D).hide Cc) H4:=by rw [hCc,hH4];exact Kp.hide
      exact (k1.trans k2).trans (Kp.change List.mem_cons_self hs4)
    have hfp:∀b∈fp,b≠D/\b≠Cc:=fun b hb=>by
      rcases IO.fpo b hb with q | ⟨_,ob,e⟩
      . exact ⟨fun h=>hLD (h▸q),fun h=>hLC (h▸q)⟩
      . have h7:H2.objs.size<=Cc:=by omega
        exact ⟨Nat.ne_of_lt (Nat.lt_of_lt_of_le (Heap.lt_size e) (Nat.le_of_eq hD.symm)),Nat.ne_of_lt (Nat.lt_of_lt_of_le (Heap.lt_size e) h7)⟩
    have zD:s1.heap.objs.size<=D:=hD▸zH;have zC:s1.heap.objs.size<=Cc:=by omega
    have old:∀b ob,s1.heap.get? b=some ob->s4.heap.get? b=some ob:=fun b ob e=>by rw [e4];exact old4 _ _ (old3 _ _ (old2 _ _ e))
    have st0:Base μ1 s1 (((μ1.hid Ls).hide D).hide Cc) s4:=⟨⟨⟨[],by simp [Mu.hide,Mu.hid],by simp⟩,fun b ob _ e=>.inl (old b ob e),g4,o4⟩,fun b hb=>(List.mem_cons.mp hb).elim (fun q=>.inr (q▸none1 _ zC)) fun hb=>(List.mem_cons.mp hb).elim (fun q=>.inr (q▸none1 _ zD)) fun hb=>(List.mem_append.mp hb).elim (fun q=>.inr (none1 _ (hL b q).1)) .inl⟩
    have gk0:Gk A (((μ1.hid Ls).hide D).hide Cc) s4:=⟨g4.trans X1.g.gens,Nat.lt_of_lt_of_le X1.g.toks t4,X1.g.ff.keep (fun L h=>List.mem_cons_of_mem _ (List.mem_cons_of_mem _ (List.mem_append_right _ h))) fun L o _ e=>old _ _ e⟩
    have loop:codeAny (model prog w) A (.compLoop (.ListComp elt' [⟨tg,it',ifs,0⟩] scope pos) 0 (.ref I) (.ref D) (cEnv scope (clS env scope) Cc env))
        (fun r s'=>s4.toks<=s'.toks->compPost (model prog w) A E use Q (.ref D) Cc r s') s4:=by
      refine comp_run conds elt ihc ihe B c2 c3 c4 c6 X.f.glob X.f.blt IO hsz hLD hLC hDC hfp (fun l hl e he a ha=>X1.g.ff.off (none1 _ (hL a ha).1) l hl e he) (X1.g.ff.off (none1 _ zD)) _ rfl (μb:=μ1) (sb:=s1) (fun q hq=>?_) l3 (fun x hx=>?_) (fun y u e=>?_) (fun s' ps m' ys k' rr ss nn ll vv tk=>kk s1 μ1 D Cc s' ps m' ys k' st1 X1 rr ss nn ll vv zC zD hDC (Nat.le_trans t4 tk)) (M0:=((μ1.hid Ls).hide D).hide Cc) rfl (by rw [e4];exact r5) st0 (fun a ha=>none1 _ (hL a ha).1) (none1 _ zD) (none1 _ zC) gk0 (by rw [e4];exact hns) (by rw [e4];exact hDl) (by rw [e4];exact hst) (by rw [e4];exact kpA) e3
      . obtain ⟨q1,q2,q3,q4⟩:=X1.f.coff q (l2 q hq);exact ⟨q1,q2,q4⟩
      . have hx:(scope.names.map fun z=>(z.1,kCel z.2)).lookup x=some .cell:=hx
        rw [CH] at hx;cases hl:scope.names.lookup x with
        | none=>rw [hl] at hx;cases hx
        | some k=>
          rw [hl] at hx;have hz:=Ae hl
          have:k=.free:=by
            cases k with
            | free=>rfl
            | cell=>exact absurd rfl (hfree _ hz).1
            | _=>cases hx
          have hy:=Fi hz this;obtain ⟨a,ha⟩:=X1.f.cel x (DN c0 hy).1;exact ⟨a,(l4 x hy).trans ha⟩
      . refine lk_fil e fun q1 q2=>?_
        have hy:Str.ofString y∈fvS scope:=by
          rw [<- eq_of_beq (aL c0)];exact List.mem_map.mpr ⟨y,q1,rfl⟩
        obtain ⟨k1,k2⟩:=DN c0 hy;obtain ⟨c,hc,hv⟩:=X1.f.lr y u q2;rcases hc with ⟨h1,_⟩ | ⟨_,a,h1,h2⟩
        . have h1:env.scope.names.lookup (Str.ofString y)=some .local:=h1;rw [k1] at h1;cases h1
        . exact ⟨c,a,rel_look k2,(l4 _ hy).trans h1,h2,hv.kp kpI⟩
    exact codeAny_compStart_list loop (IO.self 0 _ _ _ (by rw [e4];exact hst) loop)
  exact fin _ _ _ _ _ _ rfl rfl rfl rfl rfl rfl hns₁ hsb₁ _ rfl rfl rfl (by first | exact Nat.le_refl _ | exact Nat.le_add_right _ _)
theorem Dl {ps:List (Addr×Addr)} {ex:List Addr} {D Cc:Addr} {h h':Heap} {ys:List Value} {k':Nat} {rs:List V} {σ2:St} (hDC:D≠Cc) (rr:Rel w.params hO σ2 ⟨ps,Cc::D::ex⟩ h) (ll:IsL h D ys.toArray k') (vv:VRs w.params h ⟨ps,Cc::D::ex⟩ rs ys) (hs6:∀b o,b≠Cc->h.get? b=some o->h'.get? b=some o) :
    Rel w.params hO σ2 ⟨ps,ex⟩ h'/\VR w.params h' ⟨ps,ex⟩ (.lst rs) (.ref D):=by
  have r6:Rel w.params hO σ2 ⟨ps,D::ex⟩ h':=Rel.drop (μ:=⟨ps,D::ex⟩) rr hs6;have kp6:Kp ⟨ps,Cc::D::ex⟩ h ⟨ps,D::ex⟩ h':=Kp.drop (μ:=⟨ps,D::ex⟩) hs6;have kp7:Kp ⟨ps,D::ex⟩ h' ⟨ps,ex⟩ h':=Kp.unhide (μ:=⟨ps,ex⟩)
  have hoff:D∉cells ⟨ps,ex⟩:=by
    have z:=r6.nodup;unfold cells pcells at z ⊢;dsimp only at z ⊢;rw [List.nodup_append,List.nodup_cons] at z;intro hm;rcases List.mem_append.mp hm with q | q
    . exact z.2.2 _ q _ List.mem_cons_self rfl
    . exact z.2.1.1 q
  exact ⟨Rel.unhide (μ:=⟨ps,ex⟩) r6,D,ys,k',rfl,hoff,hs6 _ _ hDC ll,(vv.kp kp6).kp kp7⟩
theorem src_it (TK:TabOk prog w K hO T) {it t:ME} {it' tg:Expr} {sc:Scope} {a:V} {σ1:St} {vs:List V} (ihi:(EvOk prog w hO T C n) it) (c1:ckE env.scope it it'=true) (e1:ev T C it ρ σ=some (a,σ1)) (e2:itemsV T a=some vs) (hok:okF t a=true) (c6:ckP sc t tg=true) (B:Bud A n) (X:Cx A w hO env μ s σ ρ m):Src prog w hO A env tg it' vs μ s σ1:=by
  intro Q E k;refine ihi c1 e1 B X _ _ fun c s1 μ1 st1 r1 v1 tk1=>GU TK r1 v1 e2 fun o fp Pr Sn hf IO hl=>?_
  refine k s1 μ1 _ _ [s1.heap.objs.size] fp Sn _ st1 r1 tk1 (fun b ob e=>Heap.get?_push_of_some _ e) (by rw [Heap.size_push];exact Nat.le_succ _) (fun a ha=>?_) (List.nodup_cons.mpr ⟨List.not_mem_nil,List.nodup_nil⟩) (IterOk.g (x:=tg) IO B.handled ?_)
  . rw [List.mem_singleton.mp ha];exact ⟨Nat.le_refl _,o,Heap.get?_push_size _ hf⟩
  . cases t with
    | loc y=>exact .inl fun v=>Ai (P:=fun x=>letOwnedTupleGo x (.ref _) v=pure ()) (c6:xN tg _=true) fun _ _ _=>rfl
    | tup ts=>exact .inr ⟨AY (P:=fun x=>∃xs k p,x=Expr.Tuple xs k p) (c6:xT tg _=true) fun xs k p _=>⟨xs,k,p,rfl⟩,hl hok⟩
    | _=>exact nt c6
theorem arm_cmpr (TK:TabOk prog w K hO T) {fv:List String} {elt it conds t:ME} (ihi:(EvOk prog w hO T C n) it) (ihe:(EvOk prog w hO T C n) elt) (ihc:(EvCOk prog w hO T C n) conds) (hc:ckE env.scope (.cmpr fv elt t it conds) x=true) (he:ev T C (.cmpr fv elt t it conds) ρ σ=some (v,σ')) (B:Bud A n) (X:Cx A w hO env μ s σ ρ m):Ok prog w hO A (eval x env) μ s v σ':=by
  refine GL hc fun elt' tg it' ifs scope pos c0 c6 c4 c1 c2 c3=>?_
  refine bd2 he fun a σ1 e1 he=>bd he fun vs e2 he=>Mine.ifs he fun hok he=>bd2 he fun rs σ2 e3 he=>Mine.ifs he fun hsz he=>sm2 he <| Ok.mk fun Q E k=>?_
  rw [eval_ListComp];refine CJ ihe ihc c0 c6 c4 (fun v=>A4 c1 env v) c2 c3 e3 hsz B X (src_it TK ihi c1 e1 e2 hok c6 B X) fun s1 μ1 D Cc s' ps m' ys k' st1 X1 rr ss nn ll vv zC zD hDC tk=>⟨m',nn,fun h' hs'=>?_⟩
  have hs6:∀b o,b≠Cc->s'.heap.get? b=some o->h'.get? b=some o:=fun b o hb e=>(hs'.2 b hb).trans e
  have z:=Dl hDC rr ll vv hs6
  have nC:s1.heap.get? Cc=none:=by
    cases e:s1.heap.get? Cc with
    | none=>rfl
    | some ob=>exact absurd (Heap.lt_size e) (Nat.not_lt.mpr zC)
  have st8:Step μ1 s1 ⟨ps,μ1.ex⟩ { s' with heap:=h' }:=(ss.alt (s2:={ s' with heap:=h' }) nC hs6 rfl rfl).st
  exact k _ _ _ (st1.trans st8) z.1 z.2
end
section
variable {prog:Program} {w:World} {K:Frag} {hO:Heap} {T:Tab} {C:Calls} {n:Nat} {A:Around} {σ σ':St} {μ:Mu} {s:Shared} {env:Env} {ρ:L} {m:Str->Option Value} {x:Expr} {v:V}
theorem zip_at {xs ys:List V} {i:Nat} {u:V} (h:((xs.zip ys).map fun p=>V.tup [p.1,p.2])[i]? = some u):∃a b,xs[i]? = some a/\ys[i]? = some b/\u=.tup [a,b]:=by
  rw [List.getElem?_map] at h;obtain ⟨p,hp,rfl⟩:=Option.map_eq_some_iff.mp h;rw [List.getElem?_zip_eq_some] at hp;exact ⟨p.1,p.2,hp.1,hp.2,rfl⟩
theorem Dm {h:Heap} {a l:Addr} {i:Nat} (x:h.IsListIter a l i):∃o,h.get? a=some o/\¬Hd o:=x.elim fun o z=>⟨o,z.1,Hd.no z.2.2⟩
theorem EA {v:V} {vs:List V} (e:asLs v=some vs):v=.lst vs:=by
  cases v<;>first | exact nn e | (cases e;rfl)
theorem mem4 {α:Type} {x a b c d:α} {P:α->Prop} (h:x∈[a,b,c,d]) (h1:P a) (h2:P b) (h3:P c) (h4:P d):P x:=by
  simp only [List.mem_cons,List.not_mem_nil,or_false] at h;rcases h with rfl | rfl | rfl | rfl
  . exact h1
  . exact h2
  . exact h3
  . exact h4
theorem src_zip (TK:TabOk prog w K hO T) {a b:ME} {x1 x2:Expr} {tg:Expr} {y:Str} {q p2:Pos} {va vb:V} {σ1 σ2:St} {vs:List V} (ht:∃xs k p,tg=Expr.Tuple xs k p) (iha:(EvOk prog w hO T C n) a) (ihb:(EvOk prog w hO T C n) b) (hz:T.buiG "zip" = true) (hg:ckG env.scope "zip" y=true) (c1:ckE env.scope a x1=true) (c2:ckE env.scope b x2=true)
    (e1:ev T C a ρ σ=some (va,σ1)) (e2:ev T C b ρ σ1=some (vb,σ2)) (e3:asLs2 va vb=some vs) (B:Bud A n) (X:Cx A w hO env μ s σ ρ m):Src prog w hO A env tg (.Call (.Name y q) [x1,x2] [] p2) vs μ s σ2:=by
  intro Q E k;refine TK.names.elim fun mg h=>h.elim fun mb h=>?_
  have hbv:=h.2.2.2.2.2 _ hz;have hl:ckL env.scope (.cons a (.cons b .nil)) [x1,x2]=true:=aI c1 (aI c2 rfl)
  have hev:evs T C (.cons a (.cons b .nil)) ρ σ=some ([va,vb],σ2):=by
    show (ev T C a ρ σ).bind _=_;rw [e1,Option.bind_some];show ((ev T C b ρ σ1).bind _).map _=_;rw [e2];rfl
  refine Call_Name (by rw [AG _ _ hl,Am]) (globb X hg h.1 hbv.1 h.2.1 hbv.2 (Av (P:=fun _=>True) rfl (fun h _=>⟨.machine,.inr (.inl rfl),AV (by intro a;exact nofun)⟩) ?_))
  refine AX (CE iha (CE ihb GS)) p2 hl hev B X _ _ fun cs s1 μ1 st1 r1 v1 tk1=>evalAll_nil ⟨trivial,?_⟩
  obtain ⟨as,bs,ha,hb,rfl⟩:∃as bs,asLs va=some as/\asLs vb=some bs/\(as.zip bs).map (fun p=>V.tup [p.1,p.2])=vs:=by
    obtain ⟨as,ha,h2⟩:=Option.bind_eq_some_iff.mp e3;obtain ⟨bs,hb,h3⟩:=Option.map_eq_some_iff.mp h2;exact ⟨as,bs,ha,hb,h3⟩
  refine VRs.c v1 fun ca r hva v1=>VRs.c v1 fun cb r hvb v1=>VRs.n v1 ?_
  refine VR.l (EA ha▸hva:VR w.params s1.heap μ1 (.lst as) ca) fun l1 ca n1 o1 hl1 hv1=>VR.l (EA hb▸hvb:VR w.params s1.heap μ1 (.lst bs) cb) fun l2 cb n2 o2 hl2 hv2=>?_
  refine call_zip_2 hl1.isList hl2.isList fun h' z1 z2 z3 z4 z5 z6 z7=>?_
  have lt1:l1 < s1.heap.objs.size:=Heap.lt_size hl1;have lt2:l2 < s1.heap.objs.size:=Heap.lt_size hl2;have AP:=zipApart_new lt1 lt2;have W:=WalksT.zip2 (prog:=prog) (w:=w) (A:=A) B.handled _ _ _ _ _ _ _ AP ca.toArray cb.toArray
  have st0:IsZip h' (s1.heap.objs.size+4) (s1.heap.objs.size+2) (s1.heap.objs.size+3) Value.none/\IsPair h' (s1.heap.objs.size+2) (.ref s1.heap.objs.size) (.ref (s1.heap.objs.size+1))/\(∃a b,IsPair h' (s1.heap.objs.size+3) a b)/\h'.IsListIter s1.heap.objs.size l1 0/\h'.IsListIter (s1.heap.objs.size+1) l2 0/\h'.IsList l1 ca.toArray/\h'.IsList l2 cb.toArray:=
    ⟨z1,z2,⟨_,_,z3⟩,z4,z5,hl1.isList.extBut (fun b o _ e=>z7 b o e) (Nat.ne_of_lt lt1),hl2.isList.extBut (fun b o _ e=>z7 b o e) (Nat.ne_of_lt lt2)⟩
  refine W.self 0 { s1 with heap:=h' } _ _ st0 ?_
  have hln:(((as.zip bs).map fun p=>V.tup [p.1,p.2])).length=min ca.toArray.size cb.toArray.size:=by
    rw [List.length_map,List.length_zip,List.size_toArray,List.size_toArray,hv1.len,hv2.len]
  have fresh:∀j:Nat,s1.heap.objs.size+j∉cells μ1:=fun j hm=>absurd (r1.cell_lt hm) (Nat.not_lt.mpr (Nat.le_add_right _ _))
  have kpI:Kp μ1 s1.heap (μ1.hid [s1.heap.objs.size+4,s1.heap.objs.size+3,s1.heap.objs.size,s1.heap.objs.size+1]) h':=⟨fun _ _ e=>e,fun b o hb e=>⟨fun hm=>(Bg hm).elim (fun q=>absurd (Heap.lt_size e) (Nat.not_lt.mpr (mem4 (P:=fun b=>s1.heap.objs.size<=b) q (Nat.le_add_right _ _) (Nat.le_add_right _ _) (Nat.le_refl _) (Nat.le_add_right _ _)))) hb,z7 b o e⟩⟩
  refine k s1 μ1 h' _ [s1.heap.objs.size+4,s1.heap.objs.size+3,s1.heap.objs.size,s1.heap.objs.size+1] _ _ (fun i v h=>∃T,v=.ref T/\(IsZip h (s1.heap.objs.size+4) (s1.heap.objs.size+2) (s1.heap.objs.size+3) (rawInt T)/\IsPair h (s1.heap.objs.size+2) (.ref s1.heap.objs.size) (.ref (s1.heap.objs.size+1))/\(∃a b,IsPair h (s1.heap.objs.size+3) a b)/\h.IsListIter s1.heap.objs.size l1 (i+1)/\h.IsListIter (s1.heap.objs.size+1) l2 (i+1)/\h.IsList l1 ca.toArray/\h.IsList l2 cb.toArray/\T≠s1.heap.objs.size+4/\T≠s1.heap.objs.size+3/\T≠s1.heap.objs.size/\T≠s1.heap.objs.size+1)) st1 r1 tk1 (fun b o e=>z7 b o e) (by rw [z6];exact Nat.le_add_right _ _) (fun a ha=>?_) (by simp) ⟨W.frame,fun i s Q E hi st kq=>?_,fun i v s Q E hx m kq=>?_,fun s Q E st kq=>?_,W.self,fun i h st a ha=>?_,fun i v h m a ha=>?_,fun b hb=>?_,st0⟩
  . exact mem4 (P:=fun a=>s1.heap.objs.size<=a/\∃o,h'.get? a=some o) ha ⟨Nat.le_add_right _ _,_,z1⟩ ⟨Nat.le_add_right _ _,_,z3⟩ ⟨Nat.le_refl _,z4.elim fun o e=>⟨o,e.1⟩⟩ ⟨Nat.le_add_right _ _,z5.elim fun o e=>⟨o,e.1⟩⟩
  . refine W.item i s _ _ (hln▸hi) st fun TT vals h2 tk hp hT hIs hM hk=>kq (.ref TT) h2 tk ⟨TT,rfl,hM⟩ (fun μ' hlt kp1 kp2 u hu=>?_) hk
    obtain ⟨xa,xb,ga,gb,rfl⟩:=zip_at hu;obtain ⟨cx,cy,g1,g2,rfl⟩:=hp;refine ⟨TT,[cx,cy],rfl,fun hm=>absurd (hlt _ hm) (Nat.not_lt.mpr hT),hIs,?_⟩
    have kp:=(kpI.trans kp1).trans kp2;exact ⟨cx,[cy],rfl,(DJ hv1 g1 ga).kp kp,cy,[],rfl,(DJ hv2 g2 gb).kp kp,rfl⟩
  . obtain ⟨TT,rfl,hM⟩:=m;obtain ⟨xs,kk,tp,rfl⟩:=ht;exact W.go xs kk tp i TT s Q E hM fun h2 st hk=>kq h2 st hk
  . exact W.done s Q E (hln▸st) kq
  . exact mem4 (P:=fun a=>∃o,h.get? a=some o/\¬Hd o) ha ⟨_,st.1,Hd.no rfl⟩ (st.2.2.1.elim fun a e=>e.elim fun b e=>⟨_,e,Hd.not_l rfl⟩) (Dm st.2.2.2.1) (Dm st.2.2.2.2.1)
  . exact m.elim fun TT m=>mem4 (P:=fun a=>∃o,h.get? a=some o) ha ⟨_,m.2.1⟩ (m.2.2.2.1.elim fun a e=>e.elim fun b e=>⟨_,e⟩) (m.2.2.2.2.1.elim fun o e=>⟨o,e.1⟩) (m.2.2.2.2.2.1.elim fun o e=>⟨o,e.1⟩)
  . have low:∀b:Nat,b < s1.heap.objs.size->b∉[s1.heap.objs.size+4,s1.heap.objs.size+3,s1.heap.objs.size,s1.heap.objs.size+1]:=fun b h q=>absurd h (Nat.not_lt.mpr (mem4 (P:=fun b=>s1.heap.objs.size<=b) q (Nat.le_add_right _ _) (Nat.le_add_right _ _) (Nat.le_refl _) (Nat.le_add_right _ _)))
    have off:∀b:Nat,b∉cells μ1->b∉[s1.heap.objs.size+4,s1.heap.objs.size+3,s1.heap.objs.size,s1.heap.objs.size+1]->b∉cells (μ1.hid [s1.heap.objs.size+4,s1.heap.objs.size+3,s1.heap.objs.size,s1.heap.objs.size+1]):=fun b h1 h2 hm=>(Bg hm).elim h2 h1
    simp only [List.mem_cons,List.not_mem_nil,or_false] at hb;rcases hb with rfl | rfl | rfl | rfl | rfl | rfl | rfl
    . exact .inl List.mem_cons_self
    . exact .inr ⟨off _ (fresh 2) (by simp),_,z2⟩
    . exact .inl (List.mem_cons_of_mem _ List.mem_cons_self)
    . exact .inl (List.mem_cons_of_mem _ (List.mem_cons_of_mem _ List.mem_cons_self))
    . exact .inl (List.mem_cons_of_mem _ (List.mem_cons_of_mem _ (List.mem_cons_of_mem _ List.mem_cons_self)))
    . exact .inr ⟨off _ o1 (low _ lt1),_,z7 _ _ hl1⟩
    . exact .inr ⟨off _ o2 (low _ lt2),_,z7 _ _ hl2⟩
theorem get_ge {h:Heap} {a:Addr} (z:h.objs.size<=a):h.get? a=none:=by
  cases e:h.get? a with
  | none=>rfl
  | some ob=>exact absurd (Heap.lt_size e) (Nat.not_lt.mpr z)
theorem tup_is {sc:Scope} {t:ME} {tg:Expr} (h:isTup t=true) (c:ckP sc t tg=true):∃xs k p,tg=Expr.Tuple xs k p:=by
  cases t with
  | tup ts=>exact AY (P:=fun x=>∃xs k p,x=Expr.Tuple xs k p) (c:xT tg _=true) fun xs k p _=>⟨xs,k,p,rfl⟩
  | _=>exact nt h
theorem arm_cmpz (TK:TabOk prog w K hO T) {fv:List String} {elt a b conds t:ME} (iha:(EvOk prog w hO T C n) a) (ihb:(EvOk prog w hO T C n) b) (ihe:(EvOk prog w hO T C n) elt) (ihc:(EvCOk prog w hO T C n) conds) (hc:ckE env.scope (.cmpz fv elt t a b conds) x=true) (he:ev T C (.cmpz fv elt t a b conds) ρ σ=some (v,σ')) (B:Bud A n) (X:Cx A w hO env μ s σ ρ m):Ok prog w hO A (eval x env) μ s v σ':=by
  refine ck_cmpz hc fun elt' tg y q x1 x2 p2 ifs scope pos c0 c6 c4 cg c1 c1' c2 c3=>?_
  refine Mine.ifs he fun hz he=>bd2 he fun va σ1 e1 he=>bd2 he fun vb σ2 e2 he=>bd he fun vs e3 he=>bd2 he fun rs σ3 e4 he=>Mine.ifs he fun hsz he=>sm2 he <| Ok.mk fun Q E k=>?_
  have cz:ckE env.scope (.bui "zip" (.cons a (.cons b .nil))) (.Call (.Name y q) [x1,x2] [] p2)=true:=aI cg (aI rfl (aI c1 (aI c1' rfl)));rw [eval_ListComp];refine CJ ihe ihc c0 c6 c4 (fun v=>A4 cz env v) c2 c3 e4 hsz B X (src_zip TK (tup_is (aR hz) c6) iha ihb (aL hz) cg c1 c1' e1 e2 e3 B X) fun s1 μ1 D Cc s' ps m' ys k' st1 X1 rr ss nn ll vv zC zD hDC tk=>⟨m',nn,fun h' hs'=>?_⟩
  have hs6:∀b o,b≠Cc->s'.heap.get? b=some o->h'.get? b=some o:=fun b o hb e=>(hs'.2 b hb).trans e
  have z:=Dl hDC rr ll vv hs6;have st8:Step μ1 s1 ⟨ps,μ1.ex⟩ { s' with heap:=h' }:=(ss.alt (s2:={ s' with heap:=h' }) (get_ge zC) hs6 rfl rfl).st
  exact k _ _ _ (st1.trans st8) z.1 z.2
end
section
variable {prog:Program} {w:World} {K:Frag} {hO:Heap} {T:Tab} {C:Calls} {n:Nat}
structure All (prog:Program) (w:World) (hO:Heap) (T:Tab) (C:Calls) (n:Nat) (e:ME):Prop where
  ev:EvOk prog w hO T C n e
  evs:EvsOk prog w hO T C n e
  evb:EvBOk prog w hO T C n e
  tr:TrOk prog w hO T C n e
  trb:TrBOk prog w hO T C n e
  pr:PrOk prog w hO T C n e
  evc:EvCOk prog w hO T C n e
theorem All.elem {e:ME} (hl:∀sc xs,ckL sc e xs=false) (a:EvOk prog w hO T C n e) (b:TrOk prog w hO T C n e):All prog w hO T C n e:=
  ⟨a,(fun hc=>absurd hc (by rw [hl];decide)),(fun hc=>absurd hc (by rw [hl];decide)),b,(fun hc=>absurd hc (by rw [hl];decide)),(fun _ hc=>absurd hc (by rw [hl];decide)),(fun hc=>absurd hc (by rw [hl];decide))⟩
theorem All.plain {e:ME} (hl:∀sc xs,ckL sc e xs=false) (hp:plainME e=true) (a:EvOk prog w hO T C n e):All prog w hO T C n e:=All.elem hl a (tr_plain hp a)
theorem Aa (TK:TabOk prog w K hO T) (CO:CallsOk prog w hO C n):∀(e:ME),All prog w hO T C n e
  | .cst v=>.plain (fun _ _=>rfl) rfl fun hc he B X=>BU (hc:xC _ _=true) (fun c k p hc=>sm2 he fun r=>cst_ok r hc) X.r
  | .loc y=>.plain (fun _ _=>rfl) rfl fun hc he B X=>Ai (hc:xN _ _=true) fun y p hc=>mpx (g:=fun v=>v) he fun _ e1=>loc_ok X hc e1
  | .glo y=>.plain (fun _ _=>rfl) rfl fun hc he B X=>Ai (hc:xN _ _=true) fun y p hc=>mpx (g:=fun v=>v) he fun _ e1=>glo_ok TK X hc e1
  | .attr e nm=>.plain (fun _ _=>rfl) rfl (arm_attr TK (Aa TK CO e).ev)
  | .bin mm o l r=>.plain (fun _ _=>rfl) rfl (arm_bin (Aa TK CO l).ev (Aa TK CO r).ev)
  | .neg e=>.plain (fun _ _=>rfl) rfl (arm_neg (Aa TK CO e).ev)
  | .not e=>.elem (fun _ _=>rfl) (arm_not (Aa TK CO e).ev) (tr_not (Aa TK CO e).tr)
  | .cmp o l r=>.elem (fun _ _=>rfl) (arm_cmp TK (Aa TK CO l).ev (Aa TK CO r).ev) (tr_cmp TK (Aa TK CO l).ev (Aa TK CO r).ev)
  | .cmp2 o o' a b c=>.elem (fun _ _=>rfl) (arm_cmp2 TK (Aa TK CO a).ev (Aa TK CO b).ev (Aa TK CO c).ev) (tr_cmp2 TK (Aa TK CO a).ev (Aa TK CO b).ev (Aa TK CO c).ev)
  | .boo o es=>.elem (fun _ _=>rfl) (arm_boo (Aa TK CO es).evb) (tr_boo (Aa TK CO es).trb)
  | .sub e i=>.plain (fun _ _=>rfl) rfl (arm_sub TK (Aa TK CO e).ev (Aa TK CO i).ev)
  | .slc e l u=>.plain (fun _ _=>rfl) rfl (arm_slc (Aa TK CO e).ev (Aa TK CO l).ev (Aa TK CO u).ev)
  | .tup es=>.plain (fun _ _=>rfl) rfl (arm_tup (Aa TK CO es).evs)
  | .lst mm es=>.plain (fun _ _=>rfl) rfl (arm_lst (Aa TK CO es).evs)
  | .dct mm ks es=>.plain (fun _ _=>rfl) rfl (arm_dct (Aa TK CO es).pr)
  | .cal x es=>.plain (fun _ _=>rfl) rfl (arm_cal TK CO (Aa TK CO es).evs)
  | .new x es=>.plain (fun _ _=>rfl) rfl (arm_new TK CO (Aa TK CO es).evs)
  | .bui x es=>.plain (fun _ _=>rfl) rfl (arm_bui TK (Aa TK CO es).evs)
  | .met o nm es kn ks=>.plain (fun _ _=>rfl) rfl (arm_met TK CO (Aa TK CO o).ev (Aa TK CO es).evs (Aa TK CO ks).evs)
  | .rep e a b=>.plain (fun _ _=>rfl) rfl (arm_rep (Aa TK CO e).ev)
  | .has l r=>.elem (fun _ _=>rfl) (arm_has TK CO (Aa TK CO l).ev (Aa TK CO r).ev) (tr_has TK CO (Aa TK CO l).ev (Aa TK CO r).ev)
  | .cmpr fv elt t it conds=>.plain (fun _ _=>rfl) rfl (arm_cmpr TK (Aa TK CO it).ev (Aa TK CO elt).ev (Aa TK CO conds).evc)
  | .cmpz fv elt t a b conds=>.plain (fun _ _=>rfl) rfl (arm_cmpz TK (Aa TK CO a).ev (Aa TK CO b).ev (Aa TK CO elt).ev (Aa TK CO conds).evc)
  | .opq=>.plain (fun _ _=>rfl) rfl fun _ he _ _=>nn he
  | .nil=>⟨fun hc=>nt hc,GS,fun _ he=>nn he,fun hc=>nt hc,fun _ he=>nn he,pr_nil _ _ _ _ _ _,evc_nil⟩
  | .cons a b=>⟨fun hc=>nt hc,CE (Aa TK CO a).ev (Aa TK CO b).evs,evb_cons TK (Aa TK CO a).ev (Aa TK CO b).evb,fun hc=>nt hc,trb_cons (Aa TK CO a).tr (Aa TK CO b).trb,pr_cons (Aa TK CO a).ev (Aa TK CO b).pr,evc_cons (Aa TK CO a).tr (Aa TK CO b).evc⟩
end
section
variable {prog:Program} {w:World} {K:Frag} {hO:Heap} {T:Tab} {C:Calls} {n:Nat}
structure AllT (prog:Program) (w:World) (hO:Heap) (T:Tab) (C:Calls) (n:Nat) (e:ME):Prop where
  as:AsOk prog w hO T C n e
  ass:AssOk prog w hO T C n e
theorem GY (TK:TabOk prog w K hO T) (CO:CallsOk prog w hO C n) (e:ME):AllT prog w hO T C n e:=by
  induction e with
  | loc x=>exact ⟨Fh,fun hc=>nt hc⟩
  | attr e nm ih=>exact ⟨as_attr TK (Aa TK CO e).ev,fun hc=>nt hc⟩
  | tup ts ih=>exact ⟨as_tup ih.ass,fun hc=>nt hc⟩
  | nil=>exact ⟨fun hc=>nt hc,GV⟩
  | cons a b iha ihb=>exact ⟨fun hc=>nt hc,Ey iha.as ihb.ass⟩
  | _=>exact ⟨fun hc=>nt hc,fun hc=>nt hc⟩
end
section
variable {P:Stmt->Prop} {x:Stmt}
set_option genInjectivity false in
structure HdS where
  E:Expr->Bool:=fun _=>false
  A:List Expr->Expr->Bool:=fun _ _=>false
  U:Expr->Operator->Expr->Bool:=fun _ _ _=>false
  I:Expr->List Stmt->List Stmt->Bool:=fun _ _ _=>false
  W:Expr->List Stmt->List Stmt->Bool:=fun _ _ _=>false
  F:Expr->Expr->List Stmt->List Stmt->Bool:=fun _ _ _ _=>false
  R:Option Expr->Bool:=fun _=>false
  T:Expr->Bool:=fun _=>false
  Y:List Stmt->List ExceptHandler->List Stmt->List Stmt->Bool:=fun _ _ _ _=>false
  B:Bool:=false
  P:Bool:=false
noncomputable def yS (x:Stmt) (H:HdS):Bool:=match x with
  | .Expr e _=>H.E e
  | .Assign ts e _=>H.A ts e
  | .AugAssign t o e _=>H.U t o e
  | .If c a b _=>H.I c a b
  | .While c a b _=>H.W c a b
  | .For t i a b _=>H.F t i a b
  | .Return o _=>H.R o
  | .Assert e _ _=>H.T e
  | .Try a hs o f _=>H.Y a hs o f
  | .Break _=>H.B
  | .Pass _=>H.P
  | _=>false
theorem AZ {H:HdS} (h:yS x H=true) (tE:∀e p,H.E e=true->P (.Expr e p)) (tA:∀ts e p,H.A ts e=true->P (.Assign ts e p)) (tU:∀t o e p,H.U t o e=true->P (.AugAssign t o e p)) (tI:∀c a b p,H.I c a b=true->P (.If c a b p)) (tW:∀c a b p,H.W c a b=true->P (.While c a b p)) (tF:∀t i a b p,H.F t i a b=true->P (.For t i a b p)) (tR:∀o p,H.R o=true->P (.Return o p)) (tT:∀e m p,H.T e=true->P (.Assert e m p)) (tY:∀a hs o f p,H.Y a hs o f=true->P (.Try a hs o f p)) (tB:∀p,H.B=true->P (.Break p)) (tP:∀p,H.P=true->P (.Pass p)):P x:=by
  cases x<;>first | exact nt h | exact tE _ _ h | exact tA _ _ _ h | exact tU _ _ _ _ h | exact tI _ _ _ _ h | exact tW _ _ _ _ h | exact tF _ _ _ _ _ h | exact tR _ _ h | exact tT _ _ _ h | exact tY _ _ _ _ _ h | exact tB _ h | exact tP _ h
noncomputable def yE (x:Stmt) (k:Expr->Bool):Bool:=yS x { E:=k }
@[elab_as_elim] theorem yE_inv {k} (h:yE x k=true) (t:∀e p,k e=true->P (.Expr e p)):P x:=AZ h t nt3 nt4 nt4 nt4 nt5 nt2 nt3 nt5 nt1 nt1
noncomputable def yA (x:Stmt) (k:List Expr->Expr->Bool):Bool:=yS x { A:=k }
@[elab_as_elim] theorem Fk {k} (h:yA x k=true) (t:∀ts e p,k ts e=true->P (.Assign ts e p)):P x:=AZ h nt2 t nt4 nt4 nt4 nt5 nt2 nt3 nt5 nt1 nt1
noncomputable def yU (x:Stmt) (k:Expr->Operator->Expr->Bool):Bool:=yS x { U:=k }
@[elab_as_elim] theorem yU_inv {k} (h:yU x k=true) (t:∀t o e p,k t o e=true->P (.AugAssign t o e p)):P x:=AZ h nt2 nt3 t nt4 nt4 nt5 nt2 nt3 nt5 nt1 nt1
noncomputable def yI (x:Stmt) (k:Expr->List Stmt->List Stmt->Bool):Bool:=yS x { I:=k }
@[elab_as_elim] theorem yI_inv {k} (h:yI x k=true) (t:∀c a b p,k c a b=true->P (.If c a b p)):P x:=AZ h nt2 nt3 nt4 t nt4 nt5 nt2 nt3 nt5 nt1 nt1
noncomputable def yW (x:Stmt) (k:Expr->List Stmt->List Stmt->Bool):Bool:=yS x { W:=k }
@[elab_as_elim] theorem yW_inv {k} (h:yW x k=true) (t:∀c a b p,k c a b=true->P (.While c a b p)):P x:=AZ h nt2 nt3 nt4 nt4 t nt5 nt2 nt3 nt5 nt1 nt1
noncomputable def yF (x:Stmt) (k:Expr->Expr->List Stmt->List Stmt->Bool):Bool:=yS x { F:=k }
@[elab_as_elim] theorem yF_inv {k} (h:yF x k=true) (t:∀t i a b p,k t i a b=true->P (.For t i a b p)):P x:=AZ h nt2 nt3 nt4 nt4 nt4 t nt2 nt3 nt5 nt1 nt1
noncomputable def yR (x:Stmt) (k:Option Expr->Bool):Bool:=yS x { R:=k }
@[elab_as_elim] theorem yR_inv {k} (h:yR x k=true) (t:∀o p,k o=true->P (.Return o p)):P x:=AZ h nt2 nt3 nt4 nt4 nt4 nt5 t nt3 nt5 nt1 nt1
noncomputable def yT (x:Stmt) (k:Expr->Bool):Bool:=yS x { T:=k }
@[elab_as_elim] theorem yT_inv {k} (h:yT x k=true) (t:∀e m p,k e=true->P (.Assert e m p)):P x:=AZ h nt2 nt3 nt4 nt4 nt4 nt5 nt2 t nt5 nt1 nt1
noncomputable def yY (x:Stmt) (k:List Stmt->List ExceptHandler->List Stmt->List Stmt->Bool):Bool:=yS x { Y:=k }
@[elab_as_elim] theorem Fn {k} (h:yY x k=true) (t:∀a hs o f p,k a hs o f=true->P (.Try a hs o f p)):P x:=AZ h nt2 nt3 nt4 nt4 nt4 nt5 nt2 nt3 t nt1 nt1
noncomputable def yB (x:Stmt):Bool:=yS x { B:=true }
@[elab_as_elim] theorem yB_inv (h:yB x=true) (t:∀p,P (.Break p)):P x:=AZ h nt2 nt3 nt4 nt4 nt4 nt5 nt2 nt3 nt5 (fun p _=>t p) nt1
end
noncomputable def notComp (e:Expr):Bool:=xE e { allE with M:=fun _ _ _ _=>false }
noncomputable def notTup (e:Expr):Bool:=!xE e { T:=fun _=>true,L:=fun _=>true }
noncomputable def xNp (x:Expr) (k:Str->Pos->Bool):Bool:=xE x { N:=k }
noncomputable def xMp (x:Expr) (k:Scope->Pos->Bool):Bool:=xE x { M:=fun _ _ sc p=>k sc p }
noncomputable def compIn (sc:Scope) (t e:Expr):Bool:=xNp t fun y p=>xMp e fun scope pos=>sc.names.lookup y==some .local&&(p.line==pos.line&&!(scope.names.any fun z=>z.1==y&&(z.2==.local || z.2==.cell)))
@[elab_as_elim] theorem xNp_inv {P:Expr->Prop} {x:Expr} {k:Str->Pos->Bool} (h:xNp x k=true) (t:∀y p,k y p=true->P (.Name y p)):P x:=Ar h nt3 t nt3 nt4 nt3 nt4 nt3 nt4 nt3 nt4 nt3 nt2 nt3 nt4 nt4
theorem comp_t {sc:Scope} {t:ME} {t' e':Expr} (h:compIn sc t' e'=true) (h1:ckT sc t t'=true):∃a p',t=.loc a/\t'=.Name (Str.ofString a) p':=
  xNp_inv (P:=fun t'=>ckT sc t t'=true->∃a p',t=.loc a/\t'=.Name (Str.ofString a) p') (h:xNp t' _=true) (fun y p' _ h1=>by
    cases t<;>first | exact ⟨_,p',rfl,(eq_of_beq (aL h1))▸rfl⟩ | exact nt h1) h1
noncomputable def isCm (e:ME):Bool:=match e with | .cmpr _ _ _ _ _=>true | _=>false
theorem comp_e {e:ME} (h:isCm e=true):∃fv elt xn it c,e=.cmpr fv elt xn it c:=by
  cases e<;>first | exact ⟨_,_,_,_,_,rfl⟩ | exact nt h
noncomputable def hH (h:ExceptHandler) (k:Expr->List Stmt->Bool):Bool:=match h with
  | .ExceptHandler o nm b _=>match o with
    | none=>false
    | some t=>match nm with
      | some _=>false
      | none=>k t b
@[elab_as_elim] theorem hH_inv {P:ExceptHandler->Prop} {h:ExceptHandler} {k:Expr->List Stmt->Bool} (e:hH h k=true) (t:∀x b p,k x b=true->P (.ExceptHandler (some x) none b p)):P h:=by
  obtain ⟨o,nm,b,p⟩:=h;cases o with
  | none=>exact nt e
  | some x=>cases nm with
    | some _=>exact nt e
    | none=>exact t x b p e
noncomputable def ckA (sc:Scope) (t:ME) (x:Expr):Bool:=match t with
  | .loc a=>xN x fun y=>ckN sc a y&&sc.names.lookup y==some .local
  | .attr u n=>xA x fun u' n' _=>Str.ofString n==n'&&ckE sc u u'
  | .sub u i=>xS x fun u' i'=>noSlice i'&&(ckE sc u u'&&ckE sc i i')
  | _=>false
noncomputable def ckF (sc:Scope) (t:ME) (x:Expr):Bool:=match t with
  | .loc a=>ckT sc (.loc a) x
  | .tup ts=>ckT sc (.tup ts) x
  | _=>false
noncomputable def ckSA (sc:Scope) (t e:ME) (x:Stmt):Bool:=yA x fun ts e'=>l1 ts fun t'=>ckT sc t t'&&(ckE sc e e'&&((notComp e'&&(notTup t' || notTup e')) || (isCm e&&compIn sc t' e')))
theorem tlB_inv {sc:Scope} {e:ME} {xn:String} {body:List Stmt} {k:List Stmt->Bool} (h:(lc body fun s0 r=>ckSA sc (.loc xn) e s0&&k r)=true):∃z q e' p rest,body=.Assign [.Name z q] e' p::rest/\ckE sc e e'=true:=
  AK (P:=fun body=>∃z q e' p rest,body=.Assign [.Name z q] e' p::rest/\ckE sc e e'=true) h fun b0 rest hb=>Fk (P:=fun b0=>∃z q e' p r,b0::rest=.Assign [.Name z q] e' p::r/\ckE sc e e'=true) (show yA b0 _=true from aL hb) fun ts e' p hb=>AU (P:=fun ts=>∃z q e'' p' r,.Assign ts e' p::rest=.Assign [.Name z q] e'' p'::r/\ckE sc e e''=true) hb fun t' hb=>Ai (P:=fun t'=>∃z q e'' p' r,.Assign [t'] e' p::rest=.Assign [.Name z q] e'' p'::r/\ckE sc e e''=true) (show xN t' _=true from aL hb) fun z q _=>⟨z,q,e',p,rest,rfl,aL (aR hb)⟩
noncomputable def tlH (sc:Scope) (y:String) (h:ExceptHandler):Bool:=hH h fun t b=>xN t (ckG sc "KeyError")&&l1 b fun s0=>yA s0 fun ts e'=>l1 ts fun t'=>xC e' (ckC .none)&&xN t' fun z=>Str.ofString y==z&&sc.names.lookup z==some .local
@[elab_as_elim] theorem tlH_inv {sc:Scope} {y:String} {P:ExceptHandler->Prop} {h:ExceptHandler} (e:tlH sc y h=true) (t:∀yk pk cc nc pc pz p2 ps,ckG sc "KeyError" yk=true->ckC .none cc=true->sc.names.lookup (Str.ofString y)=some .local->P (.ExceptHandler (some (.Name yk pk)) none [.Assign [.Name (Str.ofString y) pz] (.Constant cc nc pc) p2] ps)):P h:=
  hH_inv (e:hH h _=true) fun x b ps e=>Ai (P:=fun x=>P (.ExceptHandler (some x) none b ps)) (aL e) fun yk pk hk=>AU (P:=fun b=>P (.ExceptHandler (some (.Name yk pk)) none b ps)) (aR e) fun s0 e=>Fk (P:=fun s0=>P (.ExceptHandler (some (.Name yk pk)) none [s0] ps)) e fun ts e' p2 e=>
    AU (P:=fun ts=>P (.ExceptHandler (some (.Name yk pk)) none [.Assign ts e' p2] ps)) e fun t' e=>BU (P:=fun e'=>P (.ExceptHandler (some (.Name yk pk)) none [.Assign [t'] e' p2] ps)) (aL e) fun cc nc pc hc=>Ai (P:=fun t'=>P (.ExceptHandler (some (.Name yk pk)) none [.Assign [t'] (.Constant cc nc pc) p2] ps)) (aR e) fun z pz hz=>
      bq (P:=fun z=>P (.ExceptHandler (some (.Name yk pk)) none [.Assign [.Name z pz] (.Constant cc nc pc) p2] ps)) (aL hz) (t yk pk cc nc pc pz p2 ps hk hc (by rw [eq_of_beq (aL hz)];exact eq_of_beq (aR hz)))
mutual
noncomputable def ckS (sc:Scope):MS->Stmt->Bool
  | .expr e,x=>yE x fun e'=>notComp e'&&ckE sc e e'
  | .asg t e,x=>ckSA sc t e x
  | .aug t o e,x=>yU x fun t' o' e'=>o==o'&&(ckA sc t t'&&ckE sc e e')
  | .ifs c a b,x=>yI x fun c' a' b'=>ckE sc c c'&&(ckB sc a a'&&ckB sc b b')
  | .whl c a,x=>yW x fun c' a' o=>emp o&&(ckE sc c c'&&ckB sc a a')
  | .fors t it a,x=>yF x fun t' it' a' o=>emp o&&(ckF sc t t'&&(ckE sc it it'&&ckB sc a a'))
  | .ret e,x=>yR x fun o=>op o (isN e) (ckE sc e)
  | .brk,x=>yB x
  | .asr e,x=>yT x fun e'=>ckE sc e e'
  | .tlp xn o n es a y,x=>yY x fun body hs o' f=>emp o'&&(emp f&&(lc body (fun s0 r=>ckSA sc (.loc xn) (.met o n es [] .nil) s0&&ckB sc a r)&&l1 hs (tlH sc y)))
  | .tri a,x=>yY x fun a' hs o f=>lc hs (fun _ _=>true)&&(emp o&&(emp f&&ckB sc a a'))
  | .opq,_=>true
  | _,_=>false
noncomputable def ckB (sc:Scope):MS->List Stmt->Bool
  | .nil,xs=>emp xs
  | .cons s r,xs=>lc xs fun x t=>ckS sc s x&&ckB sc r t
  | .gc _ r,xs=>ckB sc r xs
  | .opq,_=>true
  | _,_=>false
end
@[elab_as_elim] theorem mpp {α β γ:Type} {P:γ->Prop} {o:Option (α×β)} {f:α×β->γ} {c:γ} (h:o.map f=some c) (k:∀a b,o=some (a,b)->P (f (a,b))):P c:=
  match o,h with
  | some (a,b),rfl=>k a b rfl
section
variable (A:Around) (w:World) (hO:Heap)
noncomputable def Post (env:Env) (μb:Mu) (sb:Shared) (g:Bool) (μ:Mu) (h:Heap) (Q:Flow->Shared->Prop):Fl->Prop
  | .next ρ σ=>∀s' μ' m',μ'.ex=μ.ex->Kq g env μ h μ' s'.heap->Cx A w hO env μ' s' σ ρ m'->Base μb sb μ' s'->Q .next s'
  | .brk ρ σ=>∀s' μ' m',μ'.ex=μ.ex->Kq g env μ h μ' s'.heap->Cx A w hO env μ' s' σ ρ m'->Base μb sb μ' s'->Q .brk s'
  | .ret v σ=>∀c s' μ',μ'.ex=μ.ex->Kq g env μ h μ' s'.heap->Rel w.params hO σ μ' s'.heap->VR w.params s'.heap μ' v c->Gk A μ' s'->Base μb sb μ' s'->Q (.ret c) s'
end
noncomputable def SOk (prog:Program) (w:World) (hO:Heap) (T:Tab) (C:Calls) (n N:Nat) (a:MS):Prop:=∀{x:Stmt} {env:Env} {ρ:L} {σ:St} {fl:Fl} {A:Around} {μ:Mu} {s:Shared} {m:Str->Option Value} {μb:Mu} {sb:Shared},
  ckS env.scope a x=true->ex T C N μb.ps.length a ρ σ=some fl->Bud A n->Cx A w hO env μ s σ ρ m->Base μb sb μ s->Young env sb->
    ∀(Q:Flow->Shared->Prop) (E:Value->Shared->Prop),Post A w hO env μb sb (hasGc a) μ s.heap Q fl->wpAny (model prog w) A (exec x env) Q E s
noncomputable def BOk (prog:Program) (w:World) (hO:Heap) (T:Tab) (C:Calls) (n N:Nat) (a:MS):Prop:=∀{xs:List Stmt} {env:Env} {ρ:L} {σ:St} {fl:Fl} {A:Around} {μ:Mu} {s:Shared} {m:Str->Option Value} {μb:Mu} {sb:Shared},
  ckB env.scope a xs=true->ex T C N μb.ps.length a ρ σ=some fl->Bud A n->Cx A w hO env μ s σ ρ m->Base μb sb μ s->Young env sb->
    ∀(Q:Flow->Shared->Prop) (E:Value->Shared->Prop),Post A w hO env μb sb (hasGc a) μ s.heap Q fl->wpAny (model prog w) A (execs xs env) Q E s
section
variable {prog:Program} {w:World} {K:Frag} {hO:Heap} {T:Tab} {C:Calls} {n N:Nat} {A:Around} {σ σ':St} {μ:Mu} {s:Shared} {env:Env} {ρ ρ':L} {m:Str->Option Value} {v:V} {c:Value}
theorem CK {e:Expr} (h:notComp e=true) (t:Option Expr) (l:Nat) (env:Env):swapsWith e t l env=pure false:=
  Ar (P:=fun e=>swapsWith e t l env=pure false) (h:xE e _=true) (fun _ _ _ _=>rfl) (fun _ _ _=>rfl) (fun _ _ _ _=>rfl) (fun _ _ _ _ _=>rfl) (fun _ _ _ _=>rfl) (fun _ _ _ _ _=>rfl) (fun _ _ _ _=>rfl) (fun _ _ _ _ _=>rfl) (fun _ _ _ _=>rfl) (fun _ _ _ _ _=>rfl) (fun _ _ _ _=>rfl) (fun _ _ _=>rfl) (fun _ _ _ _=>rfl) (fun _ _ _ _ _=>rfl) fun _ _ _ _ h=>nt h
theorem stores_t {xs:List Expr} {n:Nat} {p:Pos} {e:Expr} {env:Env} (he:okX e=true) (h:notTup e=true):swappedStores [.Tuple xs n p] e env=pure none:=
  Ar (P:=fun e=>notTup e=true->swappedStores [.Tuple xs n p] e env=pure none) (he:xE e _=true) (fun _ _ _ _ _=>rfl) (fun _ _ _ _=>rfl) (fun _ _ _ _ _=>rfl) (fun _ _ _ _ _ _=>rfl) (fun _ _ _ _ _=>rfl) (fun _ _ _ _ _ _=>rfl) (fun _ _ _ _ _=>rfl) (fun _ _ _ _ _ _=>rfl) (fun _ _ _ _ _=>rfl) (fun _ _ _ _ _ _=>rfl) (fun _ _ _ _ h=>nt h) (fun _ _ _ h=>nt h) (fun _ _ _ _ _=>rfl) (fun _ _ _ _ _ _=>rfl) (fun _ _ _ _ _ _=>rfl) h
theorem Ig {sc:Scope} {m:ME} {t e:Expr} (ht:ckT sc m t=true) (he:okX e=true) (h:(notTup t || notTup e)=true) (env:Env):swappedStores [t] e env=pure none:=by
  revert h;cases m with
  | loc a=>exact Ai (ht:xN t _=true) fun _ _ _ _=>rfl
  | attr e n=>exact A3 (ht:xA t _=true) fun _ _ _ _ _=>rfl
  | tup ts=>exact AY (ht:xT t _=true) fun _ _ _ _ h=>stores_t he h
  | _=>exact nt ht
theorem so_brk:(SOk prog w hO T C n N) .brk:=by
  intro x env ρ σ fl A μ s m μb sb hc he B X st hn Q E;exact yB_inv (hc:yB x=true) fun p=>sme (he:some _=some _) fun k=>wpAny_Break (k s μ m rfl Kq.refl X st)
theorem so_ret {e:ME} (ih:EvOk prog w hO T C n e):(SOk prog w hO T C n N) (.ret e):=by
  intro x env ρ σ fl A μ s m μb sb hc he B X st hn Q E;refine yR_inv (hc:yR x _=true) fun o p hc=>mpp (he:Option.map _ _=some fl) fun v σ1 e1=>?_
  cases o with
  | none=>exact isN_ok (P:=fun v σ1=>Post A w hO env μb sb (hasGc (.ret e)) μ s.heap Q (.ret v σ1)->_) hc e1 fun k=>wpAny_Return_none (k _ s μ rfl Kq.refl X.r rfl X.g st)
  | some e'=>exact fun k=>wpAny_Return_some (ih hc e1 B X _ _ fun c1 s1 μ1 st1 r1 v1 tk1=>k c1 s1 μ1 st1.ex (st1.kq X.r) r1 v1 (X.step st1 r1 tk1).g (st.on st1))
theorem so_expr {e:ME} (ih:EvOk prog w hO T C n e):(SOk prog w hO T C n N) (.expr e):=by
  intro x env ρ σ fl A μ s m μb sb hc he B X st hn Q E;refine yE_inv (hc:yE x _=true) fun e' p hc=>mpp (he:Option.map _ _=some fl) fun v σ1 e1 k=>?_
  refine wpAny_Expr_any (ih (aR hc) e1 B X _ _ fun c1 s1 μ1 st1 r1 v1 tk1=>k s1 μ1 m st1.ex (st1.kq X.r) (X.step st1 r1 tk1) (st.on st1)) ?_ (CK (aL hc) _ _ _)
  unfold interactive;rw [X.f.kind];rfl
theorem so_asr {e:ME} (ih:TrOk prog w hO T C n e):(SOk prog w hO T C n N) (.asr e):=by
  intro x env ρ σ fl A μ s m μb sb hc he B X st hn Q E;refine yT_inv (hc:yT x _=true) fun e' mm p hc=>bd2 he fun v σ1 e1 he=>bd he fun t e2 he=>Mine.ifs he fun ht he=>sme he fun k=>?_
  exact wpAny_Assert_holds (ih hc e1 e2 B X _ _ fun s1 μ1 st1 r1 tk1=>⟨ht,k s1 μ1 m st1.ex (st1.kq X.r) (X.step st1 r1 tk1) (st.on st1)⟩)
theorem Ih {y:Str} {p pos:Pos} {elt:Expr} {gs:List Comprehension} {scope:Scope} {l:Nat} (hk:env.scope.kind=.function) (h:compIn env.scope (.Name y p) (.ListComp elt gs scope pos)=true):swapsWith (.ListComp elt gs scope pos) (some (.Name y p)) l env=pure true:=by
  have h:(env.scope.names.lookup y==some .local&&(p.line==pos.line&&!(scope.names.any fun z=>z.1==y&&(z.2==.local || z.2==.cell))))=true:=h
  have h1:env.kindOf y=some .local:=eq_of_beq (aL h);have h2:(p.line==pos.line)=true:=aL (aR h);have h3:=aR (aR h);have hb:env.blockKind=.function:=by unfold Env.blockKind;rw [hk];rfl
  show (pure (env.blockKind==.function&&env.kindOf y==some .local&&p.line==pos.line&&!(scope.names.any fun z=>z.1==y&&(z.2==.local || z.2==.cell))):Sem Bool)=_
  rw [hb,h1,h2,h3];rfl
theorem so_comp (TK:TabOk prog w K hO T) (CO:CallsOk prog w hO C n) {y:String} {fv:List String} {elt it conds xn:ME}:∀{x:Expr} {p' l:Pos} {env:Env} {ρ:L} {σ:St} {fl:Fl} {A:Around} {μ:Mu} {s:Shared} {m:Str->Option Value} {μb:Mu} {sb:Shared},
    compIn env.scope (.Name (Str.ofString y) p') x=true->ckE env.scope (.cmpr fv elt xn it conds) x=true->ex T C N μb.ps.length (.asg (.loc y) (.cmpr fv elt xn it conds)) ρ σ=some fl->Bud A n->Cx A w hO env μ s σ ρ m->Base μb sb μ s->Young env sb->
    ∀(Q:Flow->Shared->Prop) (E:Value->Shared->Prop),Post A w hO env μb sb false μ s.heap Q fl->wpAny (model prog w) A (exec (.Assign [.Name (Str.ofString y) p'] x l) env) Q E s:=by
  intro x p' l env ρ σ fl A μ s m μb sb hi hc he B X st hn Q E;revert hi;refine GL hc fun elt' tg it' ifs scope pos c0 c6 c4 c1 c2 c3 hi=>?_
  refine bd2 he fun v σ' he' he=>?_
  refine mpp he fun ρ2 σ2 e9 k=>?_
  revert e9 k;refine bd2 he' fun a σ1 e1 he'=>bd he' fun vs e2 he'=>Mine.ifs he' fun hok he'=>bd2 he' fun rs σ3 e3 he'=>Mine.ifs he' fun hsz he'=>sm2 he' fun e9=>sm2 (e9:some (put ρ y (.lst rs),σ3)=some (ρ2,σ2)) fun k=>?_
  have hl:env.scope.names.lookup (Str.ofString y)=some .local:=eq_of_beq (aL (show (env.scope.names.lookup (Str.ofString y)==some .local&&_)=true from hi));rw [exec_Assign_Name_used _ _ _ _ (Ih X.f.kind hi)];refine wpAny_bind (wpAny_standAt (wpAny_bind ?_));show wpAny _ A (do let _ <- comprehension (.ListComp elt' [⟨tg,it',ifs,0⟩] scope pos) scope env _ (newList []) false (eval it' env) (some (assign (.Name (Str.ofString y) p') env))) _ _ s
  refine wpAny_bind (wpAny_mono (CJ (use:=some (assign (.Name (Str.ofString y) p') env)) (Q:=fun _ s'=>Q .next s') (Aa TK CO elt).ev (Aa TK CO conds).evc c0 c6 c4 (fun v=>A4 c1 env v) c2 c3 e3 hsz B X (src_it TK (Aa TK CO it).ev c1 e1 e2 hok c6 B X)
    fun s1 μ1 D Cc s' ps m' ys k' st1 X1 rr ss nn ll vv zC zD hDC tk=>?_) (fun _ s' hq=>wpAny_pure (wpAny_pure hq)) fun _ _ e=>e)
  show wpAny _ A (assign (.Name (Str.ofString y) p') env (.ref D)) _ _ _;have lt1:∀{a:Addr} {o:Obj},s1.heap.get? a=some o->a≠Cc:=fun e q=>Nat.lt_irrefl _ (Nat.lt_of_lt_of_le (Heap.lt_size e) (q▸zC))
  have hp:(Cc::D::μ1.ex).Perm (D::Cc::μ1.ex):=List.Perm.swap _ _ _;have rA:Rel w.params hO σ3 ⟨ps,D::Cc::μ1.ex⟩ s'.heap:=Rel.perm rr hp;have rB:Rel w.params hO σ3 ⟨ps,Cc::μ1.ex⟩ s'.heap:=Rel.unhide (μ:=⟨ps,Cc::μ1.ex⟩) rA
  have offD:D∉cells ⟨ps,Cc::μ1.ex⟩:=by
    have z:=rA.nodup;unfold cells pcells at z ⊢;dsimp only at z ⊢;rw [List.nodup_append,List.nodup_cons] at z;intro hm;rcases List.mem_append.mp hm with q | q
    . exact z.2.2 _ q _ List.mem_cons_self rfl
    . exact z.2.1.1 q
  have vB:VR w.params s'.heap ⟨ps,Cc::μ1.ex⟩ (.lst rs) (.ref D):=⟨D,ys,k',rfl,offD,ll,(vv.kp (Kp.perm hp)).kp (Kp.unhide (μ:=⟨ps,Cc::μ1.ex⟩))⟩;have sk:Step μ1 s1 ⟨ps,μ1.ex⟩ s':=ss.st
  have kpB:Kp μ1 s1.heap ⟨ps,Cc::μ1.ex⟩ s'.heap:=⟨fun i q e=>sk.at (μ':=⟨ps,μ1.ex⟩) e,fun a o ha e=>⟨fun hm=>by
    have h1:a∉cells ⟨ps,μ1.ex⟩:=sk.off ha e;unfold cells at hm h1;rcases List.mem_append.mp hm with q | q
    . exact h1 (List.mem_append_left _ q)
    . rcases List.mem_cons.mp q with q | q
      . exact lt1 e q
      . exact h1 (List.mem_append_right _ q),(sk.kp.off a o ha e).2⟩⟩
  have mine:∀a,(a=env.locals∨∃q∈env.cells,q.2=a)->a∈μ1.ex/\a≠Cc/\∃o,s1.heap.get? a=some o:=by
    rintro a (rfl | ⟨q,hq,rfl⟩)
    . obtain ⟨o,es,ep,ho,_⟩:=X1.f.ns;exact ⟨X1.f.off.1,lt1 ho,o,ho⟩
    . obtain ⟨h1,h2,h3,v,⟨o,e,z⟩⟩:=X1.f.coff q hq;exact ⟨h1,lt1 e,o,e⟩
  have gB:Gk A ⟨ps,Cc::μ1.ex⟩ s':=⟨sk.gens.trans X1.g.gens,Nat.lt_of_lt_of_le X1.g.toks tk,(X1.g.ff.step X1.r sk).keep (fun L h=>List.mem_cons_of_mem _ h) fun _ _ _ e=>e⟩
  have XB:Cx A w hO env ⟨ps,Cc::μ1.ex⟩ s' σ3 ρ m:=⟨rB,X1.f.mv kpB fun a ha=>⟨List.mem_cons_of_mem _ (mine a ha).1,rB.ex_off (List.mem_cons_of_mem _ (mine a ha).1),fun o e=>(sk.keep a o (X1.r.ex_off (mine a ha).1) e).d⟩,gB,X1.top⟩
  have nC1:s1.heap.get? Cc=none:=by
    cases e:s1.heap.get? Cc with
    | none=>rfl
    | some o=>exact absurd rfl (lt1 e)
  have nC:sb.heap.get? Cc=none:=(st.on st1).new_none nC1 fun q=>Nat.lt_irrefl _ (Nat.lt_of_lt_of_le (X1.r.cell_lt (List.mem_append_left _ q)) zC)
  have stB:Base μb sb ⟨ps,Cc::μ1.ex⟩ s':=((st.on st1).on sk).hide nC;refine PySem.wpAny_assign_Name (CF hl vB XB stB hn.1 fun s2 m2 kq X2 st2 hs2=>?_)
  have cl:Cc≠env.locals:=fun q=>(mine _ (.inl rfl)).2.1 q.symm
  refine ⟨m',Ns.at nn fun o e=>hs2 Cc o cl e,fun h' hs'=>?_⟩
  have hs6:∀b o,b≠Cc->s2.heap.get? b=some o->h'.get? b=some o:=fun b o hb e=>(hs'.2 b hb).trans e
  have r2:Rel w.params hO σ3 ⟨ps,μ1.ex⟩ h':=Rel.drop (μ:=⟨ps,μ1.ex⟩) (a:=Cc) X2.r hs6;have kp2:Kp ⟨ps,Cc::μ1.ex⟩ s2.heap ⟨ps,μ1.ex⟩ h':=Kp.drop (μ:=⟨ps,μ1.ex⟩) (a:=Cc) hs6;have fC:∀l,A.frames=some l->∀e∈l,e.frame≠some Cc:=X1.g.ff.off nC1
  have ks:∀a o,¬Hd o->a∈μ1.ex->a≠env.locals->(∀q∈env.cells,q.2≠a)->s1.heap.get? a=some o->h'.get? a=some o:=fun a o n ha h1 h2 e=>
    hs6 a o (lt1 e) (hs2 a o h1 (sk.exact (X1.r.ex_off ha) n e))
  refine k { s2 with heap:=h' } ⟨ps,μ1.ex⟩ m2 st1.ex ⟨fun a o ha e=>?_,fun a o n ha h1 h2 e=>ks a o n (st1.ex▸ha) h1 h2 (st1.exact (X.r.ex_off ha) n e),fun _ i q e=>kpB.at_ i q (st1.at e)⟩
    ⟨r2,X2.f.mv kp2 fun a ha=>⟨(mine a ha).1,r2.ex_off (mine a ha).1,fun o e=>⟨o,hs6 a o (mine a ha).2.1 e,rfl⟩⟩,⟨X2.g.gens,X2.g.toks,X2.g.ff.unhide (μ:=⟨ps,μ1.ex⟩) fC hs6⟩,X2.top⟩ ((st2.alt (s2:={ s2 with heap:=h' }) nC hs6 rfl rfl).of (ps:=ps) (ex:=μ1.ex))
  have z1:=kpB.off a o (st1.off ha e) (st1.kp.off a o ha e).2;have z2:=kq.off a o z1.1 z1.2;exact kp2.off a o z2.1 z2.2
theorem so_asg (TK:TabOk prog w K hO T) (CO:CallsOk prog w hO C n) {t e:ME} (iht:AsOk prog w hO T C n t) (ih:EvOk prog w hO T C n e):(SOk prog w hO T C n N) (.asg t e):=by
  intro x env ρ σ fl A μ s m μb sb hc he B X st hn Q E;refine Fk (hc:yA x _=true) fun ts e' p hc=>AU hc fun t' hc=>?_
  have h1:=aL hc;have h2:=aR hc;rcases Bool.or_eq_true_iff.mp (aR h2) with h3 | h3
  . refine bd2 he fun v σ1 e1 he=>mpp he fun ρ2 σ2 e2 k=>?_
    refine wpAny_Assign_stores (ih (aL h2) e1 B X _ _ fun c1 s1 μ1 st1 r1 v1 tk1=>?_) (CK (aL h3) _ _ _) (Ig h1 (CC _ (aL h2)) (aR h3) env)
    rw [DL (DK h1)];show wpAny _ _ (assign t' env c1) _ _ _;exact iht h1 e2 v1 B (X.step st1 r1 tk1) (st.on st1) hn.yo _ _ fun s2 μ2 m2 hex kp X2 st2=>k s2 μ2 m2 (hex.trans st1.ex) ((st1.kq X.r).trans st1.ex kp) X2 st2
  . have h5:=aL h2;obtain ⟨a,p',rfl,rfl⟩:=comp_t (aR h3) h1;obtain ⟨fv,elt,xn,it,c,rfl⟩:=comp_e (aL h3);exact fun k=>so_comp TK CO (aR h3) h5 he B X st hn Q E k
theorem augB_i {o:Operator} {a b:Int} {t u:Tok} {r:V} (rr:Rel w.params hO σ μ s.heap) (e:augI o a b=some r):Ok prog w hO A (PySem.inplaceOp o (.int a t) (.int b u)) μ s r σ:=by
  cases o with
  | Add=>exact sme e (Ok.plain rr fun Q E k=>iadd_int (k _ _ ⟨_,rfl⟩))
  | Sub=>exact sme e (Ok.plain rr fun Q E k=>isub_int (k _ _ ⟨_,rfl⟩))
  | _=>exact nn e
theorem augB_s {o:Operator} {a b:List Nat} {t u:Tok} {r:V} (rr:Rel w.params hO σ μ s.heap) (e:augS o a b=some r):Ok prog w hO A (PySem.inplaceOp o (.str (S a) t) (.str (S b) u)) μ s r σ:=by
  cases o with
  | Add=>exact Mine.ifs e fun hz e=>sme e (Ok.plain rr fun Q E k=>iadd_str (fun t' tk=>k _ _ ⟨t',by rw [Ek]⟩) (by rw [Aj,Aj,<- A2];exact hz))
  | _=>exact nn e
theorem Fo {o:Operator} {a b r:V} {ca cb:Value} (rr:Rel w.params hO σ μ s.heap) (va:VR w.params s.heap μ a ca) (vb:VR w.params s.heap μ b cb) (e:augB o a b=some r):Ok prog w hO A (PySem.inplaceOp o ca cb) μ s r σ:=by
  cases a with
  | int a=>exact bd e fun b' hb e=>VR.i va fun t=>VR.i (Aq hb▸vb:VR w.params s.heap μ (.int b') cb) fun u=>augB_i rr e
  | str a=>exact bd e fun b' hb e=>VR.s va fun t=>VR.s (A8 hb▸vb:VR w.params s.heap μ (.str b') cb) fun u=>augB_s rr e
  | _=>exact nn e
theorem aug_no {i:Expr} (hi:okX i=true) (h:noSlice i=true) (ov iv new:Value):augStore i ov iv new=(do holding [new,ov,iv] (setItem ov iv new);release [new,ov,iv] [];pure .next):=
  Ar (P:=fun i=>noSlice i=true->augStore i ov iv new=(do holding [new,ov,iv] (setItem ov iv new);release [new,ov,iv] [];pure .next)) (hi:xE i _=true) (fun _ _ _ _ _=>rfl) (fun _ _ _ _=>rfl) (fun _ _ _ _ _=>rfl) (fun _ _ _ _ _ _=>rfl) (fun _ _ _ _ _=>rfl) (fun _ _ _ _ _ _=>rfl) (fun _ _ _ _ _=>rfl) (fun _ _ _ _ _ _=>rfl) (fun _ _ _ _ _=>rfl) (fun _ _ _ _ _ h=>nt h) (fun _ _ _ _ _=>rfl) (fun _ _ _ _=>rfl) (fun _ _ _ _ _=>rfl) (fun _ _ _ _ _ _=>rfl) (fun _ _ _ _ _ _=>rfl) h
theorem so_aug (TK:TabOk prog w K hO T) (CO:CallsOk prog w hO C n) {t e:ME} {o:Operator}:(SOk prog w hO T C n N) (.aug t o e):=by
  intro x env ρ σ fl A μ s m μb sb hc he B X st hn Q E;refine yU_inv (hc:yU x _=true) fun t' o' e' p hc=>bq (aL hc) ?_
  have h2:=aR (aR hc);have h1:=aL (aR hc);have ih:EvOk prog w hO T C n e:=(Aa TK CO e).ev;cases t with
  | loc y=>
    refine Ai (h1:xN t' _=true) fun z p' h1=>?_
    have h4:=eq_of_beq (aR h1);revert h4
    refine GO (aL h1) fun hd _ h4=>bd he fun a e0 he=>bd2 he fun b σ1 e1 he=>mp he fun r e2 k=>(X.f.lr y a e0).elim fun ca hr=>hr.1.elim (fun hk=>?_) fun hk=>absurd h4 fun q=>by
      have q:env.kindOf (Str.ofString y)=some .local:=q;exact hk.1.elim (fun z=>by rw [q] at z;cases z) (fun z=>by rw [q] at z;cases z)
    refine wpAny_AugAssign_Name (wpAny_loadName_local X.f.kind hk.1 X.f.ns hk.2 (ih h2 e1 B X _ _ fun c1 s1 μ1 st1 r1 v1 tk1=>?_))
    refine Fo r1 (hr.2.step st1) v1 e2 _ _ fun c2 s2 μ2 st2 r2 v2 tk2=>?_
    have s12:=st1.trans st2;exact BX h4 v2 (X.step s12 r2 (Nat.le_trans tk1 tk2)) (st.on s12) hn.1 fun s3 μ3 m3 hex kp X3 st3=>k s3 μ3 m3 (hex.trans s12.ex) ((s12.kq X.r).trans s12.ex kp) X3 st3
  | attr u nm=>
    refine A3 (h1:xA t' _=true) fun u' n' p' h1=>bq (aL h1) ?_
    refine bd2 he fun q σ0 e0 he=>bd he fun a ea he=>bd2 he fun b σ1 e1 he=>bd he fun r e2 he=>mp he fun σ2 e3 k=>?_
    refine wpAny_AugAssign_AttributeAny ((Aa TK CO u).ev (aR h1) e0 B X _ _ fun cq s0 μ0 st0 r0 v0 tk0=>GI TK r0 v0 ea _ _ fun ca sa μa sta ra va tka=>ih h2 e1 B ((X.step st0 r0 tk0).step sta ra tka) _ _ fun cb s1 μ1 st1 r1 v1 tk1=>?_)
    refine Fo r1 (va.step st1) v1 e2 _ _ fun c2 s2 μ2 st2 r2 v2 tk2=>?_
    refine GJ TK r2 (((v0.step sta).step st1).step st2) v2 e3 _ _ fun s3 μ3 st3 r3 tk3=>?_
    have sB:=(((st0.trans sta).trans st1).trans st2).trans st3;exact k s3 μ3 m sB.ex (sB.kq X.r) (X.step sB r3 (Nat.le_trans tk0 (Nat.le_trans tka (Nat.le_trans tk1 (Nat.le_trans tk2 tk3))))) (st.on sB)
  | sub u i=>
    refine Br (h1:xS t' _=true) fun u' i' p' h1=>?_
    refine bd2 he fun q σ0 e0 he=>bd2 he fun kv σk ek he=>bd he fun a ea he=>bd2 he fun b σ1 e1 he=>bd he fun r e2 he=>mp he fun σ2 e3 k=>?_
    refine wpAny_AugAssign_SubscriptAny ((Aa TK CO u).ev (aL (aR h1)) e0 B X _ _ fun cq s0 μ0 st0 r0 v0 tk0=>(Aa TK CO i).ev (aR (aR h1)) ek B (X.step st0 r0 tk0) _ _ fun ck sk μk stk rk vk tkk=>(DC TK rk (v0.step stk) vk ea).1 _ _ fun ca sa μa sta ra va tka=>ih h2 e1 B (((X.step st0 r0 tk0).step stk rk tkk).step sta ra tka) _ _ fun cb s1 μ1 st1 r1 v1 tk1=>?_) ?_
    . refine Fo r1 (va.step st1) v1 e2 _ _ fun c2 s2 μ2 st2 r2 v2 tk2=>?_
      refine setI_ok r2 ((((v0.step stk).step sta).step st1).step st2) (((vk.step sta).step st1).step st2) v2 e3 _ _ fun s3 μ3 st3 r3 tk3=>?_
      have sB:=((((st0.trans stk).trans sta).trans st1).trans st2).trans st3;exact k s3 μ3 m sB.ex (sB.kq X.r) (X.step sB r3 (Nat.le_trans tk0 (Nat.le_trans tkk (Nat.le_trans tka (Nat.le_trans tk1 (Nat.le_trans tk2 tk3)))))) (st.on sB)
    . exact aug_no (CC _ (aR (aR h1))) (aL h1)
  | _=>exact nt h1
end
section
variable {prog:Program} {w:World} {K:Frag} {hO:Heap} {T:Tab} {C:Calls} {n N:Nat} {A:Around} {σ σ':St} {μ:Mu} {s:Shared} {env:Env} {ρ ρ':L} {m:Str->Option Value} {v:V} {c:Value}
theorem Post.weak {env:Env} {μb:Mu} {sb:Shared} {g g':Bool} {μ μ1:Mu} {h h1:Heap} {Q:Flow->Shared->Prop} {fl:Fl} (hg:g'=true->g=true) (hex:μ1.ex=μ.ex) (kq:Kq g env μ h μ1 h1) (p:Post A w hO env μb sb g μ h Q fl):Post A w hO env μb sb g' μ1 h1 Q fl:=by
  cases fl with
  | next ρ σ=>exact fun s' μ' m' a b c d=>p s' μ' m' (a.trans hex) (kq.trans hex (b.weak hg)) c d
  | brk ρ σ=>exact fun s' μ' m' a b c d=>p s' μ' m' (a.trans hex) (kq.trans hex (b.weak hg)) c d
  | ret v σ=>exact fun c s' μ' a b d e f g=>p c s' μ' (a.trans hex) (kq.trans hex (b.weak hg)) d e f g
theorem gcL1 {a b:Bool} (h:a=true):(a || b)=true:=by rw [h];rfl
theorem gcR1 {a b:Bool} (h:b=true):(a || b)=true:=by rw [h];cases a<;>rfl
theorem so_ifs {e:ME} {a b:MS} (ih:TrOk prog w hO T C n e) (iha:(BOk prog w hO T C n N) a) (ihb:(BOk prog w hO T C n N) b):(SOk prog w hO T C n N) (.ifs e a b):=by
  intro x env ρ σ fl A μ s m μb sb hc he B X st hn Q E k;refine yI_inv (hc:yI x _=true) fun c' a' b' p hc=>bd2 he fun v σ1 e1 he=>bd he fun t e2 he=>?_
  refine wpAny_If (ih (aL hc) e1 e2 B X _ _ fun s1 μ1 st1 r1 tk1=>?_)
  have X1:=X.step st1 r1 tk1;have st':=st.on st1;cases t with
  | true=>exact iha (aL (aR hc)) he B X1 st' hn _ _ (k.weak gcL1 st1.ex (st1.kq X.r))
  | false=>exact ihb (aR (aR hc)) he B X1 st' hn _ _ (k.weak gcR1 st1.ex (st1.kq X.r))
theorem so_tri {a:MS} (iha:(BOk prog w hO T C n N) a):(SOk prog w hO T C n N) (.tri a):=by
  intro x env ρ σ fl A μ s m μb sb hc he B X st hn Q E k;refine Fn (hc:yY x _=true) fun a' hs o f p hc=>AK (aL hc) fun hd tl _=>Al (aL (aR hc)) (Al (aL (aR (aR hc))) ?_)
  refine wpAny_Try_except (iha (aR (aR (aR hc))) he B X st hn _ _ ?_);cases fl with
  | next ρ σ=>exact fun s' μ' m' a b c d=>wpAny_execs_nil (k s' μ' m' a b c d)
  | brk ρ σ=>exact k
  | ret v σ=>exact k
theorem bo_nil:(BOk prog w hO T C n N) .nil:=by
  intro xs env ρ σ fl A μ s m μb sb hc he B X st hn Q E;exact Al (hc:emp xs=true) (sme (he:some _=some _) fun k=>wpAny_execs_nil (k s μ m rfl Kq.refl X st))
theorem GZ {a b:MS} (iha:(SOk prog w hO T C n N) a) (ihb:(BOk prog w hO T C n N) b):(BOk prog w hO T C n N) (.cons a b):=by
  intro xs env ρ σ fl A μ s m μb sb hc he B X st hn Q E k;refine AK (hc:lc xs _=true) fun x xs hc=>bd he fun f1 e1 he=>?_
  refine wpAny_execs_cons (iha (aL hc) e1 B X st hn _ _ ?_);cases f1 with
  | next ρ1 σ1=>exact fun s1 μ1 m1 hex kq X1 st1=>ihb (aR hc) he B X1 st1 hn _ _ (k.weak gcR1 hex (kq.weak gcL1))
  | brk ρ1 σ1=>exact (Option.some.inj he▸k.weak gcL1 rfl Kq.refl:Post A w hO env μb sb (hasGc a) μ s.heap Q (.brk ρ1 σ1))
  | ret v1 σ1=>exact (Option.some.inj he▸k.weak gcL1 rfl Kq.refl:Post A w hO env μb sb (hasGc a) μ s.heap Q (.ret v1 σ1))
set_option genInjectivity false in
structure WSt where
  ρ:L
  σ:St
  μ:Mu
  m:Str->Option Value
structure WI (A:Around) (w:World) (hO:Heap) (env:Env) (μb:Mu) (sb:Shared) (g:Bool) (μ:Mu) (h:Heap) (run:L->St->Option Fl) (fl:Fl) (x:WSt) (s':Shared):Prop where
  ex:x.μ.ex=μ.ex
  kq:Kq g env μ h x.μ s'.heap
  X:Cx A w hO env x.μ s' x.σ x.ρ x.m
  st:Base μb sb x.μ s'
  run:run x.ρ x.σ=some fl
noncomputable def WIE (A:Around) (w:World) (hO:Heap) (env:Env) (μb:Mu) (sb:Shared) (g:Bool) (μ:Mu) (h:Heap) (run:Nat->L->St->Option Fl) (fl:Fl) (j:Nat) (s':Shared):Prop:=∃x,WI A w hO env μb sb g μ h (run j) fl x s'
theorem mpe {α β γ:Type} {o:Option α} {g:α->β} {s:γ} {c:β} {d:γ} {P:Prop} (h:o.map (fun x=>(g x,s))=some (c,d)) (k:∀a,o=some a->g a=c->s=d->P):P:=
  match o,h with
  | some a,h=>k a rfl (Prod.mk.inj (Option.some.inj h)).1 (Prod.mk.inj (Option.some.inj h)).2
theorem so_whl {e:ME} {a:MS} (ih:TrOk prog w hO T C n e) (iha:(BOk prog w hO T C n N) a):(SOk prog w hO T C n N) (.whl e a):=by
  intro x env ρ σ fl A μ s m μb sb hc he B X st hn Q E k;refine yW_inv (hc:yW x _=true) fun c' body o p hc=>Al (aL hc) (wpAny_While ?_)
  refine codeAny_whileLoop (WIE A w hO env μb sb (hasGc a) μ s.heap (whlL (fun ρ σ=>(ev T C e ρ σ).bind fun (v,σ)=>(truth σ v).map fun b=>(b,σ)) (fun ρ σ=>ex T C N μb.ps.length a ρ σ)) fl) (fun j s' hw=>Exists.elim hw fun x hx=>?_) N ⟨⟨ρ,σ,μ,m⟩,⟨rfl,Kq.refl,X,st,he⟩⟩
  cases j with
  | zero=>exact nn hx.run
  | succ j=>
    refine bd2 hx.run fun b σ2 e1 hw=>bd2 e1 fun v σ1 e2 e1=>?_
    refine mpe (g:=fun b=>b) e1 fun t e3 q1 q2=>?_
    refine ih (aL (aR hc)) e2 e3 B hx.X _ _ fun s1 μ1 st1 r1 tk1=>?_
    have r1:=q2▸r1;rw [q1];have X1:=hx.X.step st1 r1 tk1;have st':=hx.st.on st1;have hex1:=st1.ex.trans hx.ex;have kq1:=hx.kq.trans hx.ex (st1.kq hx.X.r);cases b with
    | false=>exact sme (P:=fun fl=>Post A w hO env μb sb (hasGc (.whl e a)) μ s.heap Q fl->_) hw (fun k=>wpAny_execs_nil (k s1 μ1 x.m hex1 kq1 X1 st')) k
    | true=>
      refine bd hw fun f1 e4 hw=>?_
      refine iha (aR (aR hc)) e4 B X1 st' hn _ _ ?_
      cases f1 with
      | next ρ2 σ2=>exact fun s2 μ2 m2 hx' kq2 X2 st2=>⟨j,Nat.lt_succ_self j,⟨ρ2,σ2,μ2,m2⟩,⟨hx'.trans hex1,kq1.trans hex1 kq2,X2,st2,hw⟩⟩
      | brk ρ2 σ2=>exact fun s2 μ2 m2 hx' kq2 X2 st2=>(Option.some.inj (hw:some (Fl.next ρ2 σ2)=some fl)▸k:Post A w hO env μb sb (hasGc (.whl e a)) μ s.heap Q (.next ρ2 σ2)) s2 μ2 m2 (hx'.trans hex1) (kq1.trans hex1 kq2) X2 st2
      | ret v2 σ2=>exact fun c2 s2 μ2 hx' kq2 r2 v2' g2 st2=>(Option.some.inj (hw:some (Fl.ret v2 σ2)=some fl)▸k:Post A w hO env μb sb (hasGc (.whl e a)) μ s.heap Q (.ret v2 σ2)) c2 s2 μ2 (hx'.trans hex1) (kq1.trans hex1 kq2) r2 v2' g2 st2
theorem Cx.unhide {a:Addr} (X:Cx A w hO env (μ.hide a) s σ ρ m) {h':Heap} (hs:∀b o,b≠a->s.heap.get? b=some o->h'.get? b=some o) (hne:a≠env.locals) (hc:∀q∈env.cells,q.2≠a) (hfa:∀l,A.frames=some l->∀e∈l,e.frame≠some a) (tk:Tok) (htk:0 < tk):Cx A w hO env μ { s with heap:=h',toks:=tk } σ ρ m:=by
  have r':=X.r.drop hs;have kp:Kp (μ.hide a) s.heap μ h':=Kp.drop hs;obtain ⟨a1,a2,a3,⟨ob,es,ep,ho,hd,hs',hn⟩,a5,a6,a7,ac,a8⟩:=X.f;have hex:∀b,b∈(μ.hide a).ex->b≠a->b∈μ.ex:=fun b hb hba=>(List.mem_cons.mp hb).resolve_left hba
  refine ⟨r',⟨a1,a2,a3,⟨ob,es,ep,hs _ _ (Ne.symm hne) ho,hd,hs',hn⟩,⟨hex _ a5.1 (Ne.symm hne),a5.2⟩,fun q hq=>?_,a7,ac,fun y v e=>?_⟩,⟨X.g.gens,htk,X.g.ff.unhide hfa hs⟩,X.top⟩
  . obtain ⟨h1,h2,h3,v,⟨ob',e,z⟩⟩:=a6 q hq;exact ⟨hex _ h1 (hc q hq),h2,h3,v,⟨ob',hs _ _ (hc q hq) e,z⟩⟩
  . obtain ⟨c,hcc,hv⟩:=a8 y v e;refine ⟨c,?_,hv.kp kp⟩;rcases hcc with h | ⟨h,a',h1,h2⟩
    . exact .inl h
    . exact .inr ⟨h,a',h1,IsCell.of (fun o e=>hs _ _ (hc _ (Ae h1)) e) h2⟩
end
section
variable {prog:Program} {w:World} {K:Frag} {hO:Heap} {T:Tab} {C:Calls} {n N:Nat} {A:Around} {σ σ':St} {μ:Mu} {s:Shared} {env:Env} {ρ ρ':L} {m:Str->Option Value} {v:V} {c:Value}
theorem scal_any {P:Params} {h h':Heap} {μ μ':Mu} {v:V} {c:Value} (hs:scal v=true) (r:VR P h μ v c):VR P h' μ' v c:=by
  cases v<;>first | exact r | exact nt hs
theorem Cx.change {a:Addr} (X:Cx A w hO env μ s σ ρ m) (ha:a∈μ.ex) (hne:a≠env.locals) (hc:∀q∈env.cells,q.2≠a) (hfa:∀l,A.frames=some l->∀e∈l,e.frame≠some a) {h':Heap} (hs:∀b o,b≠a->s.heap.get? b=some o->h'.get? b=some o) (hz:∃o,h'.get? a=some o) (tk:Tok) (htk:0 < tk):Cx A w hO env μ { s with heap:=h',toks:=tk } σ ρ m:=by
  have kp:Kp μ s.heap μ h':=Kp.change ha hs;obtain ⟨a1,a2,a3,⟨ob,es,ep,ho,hd,hs',hn⟩,a5,a6,a7,ac,a8⟩:=X.f;refine ⟨X.r.change ha hs hz,⟨a1,a2,a3,⟨ob,es,ep,hs _ _ (Ne.symm hne) ho,hd,hs',hn⟩,a5,fun q hq=>?_,a7,ac,fun y v e=>?_⟩,⟨X.g.gens,htk,X.g.ff.chg hfa hs fun _ _ h=>h⟩,X.top⟩
  . obtain ⟨h1,h2,h3,v,⟨ob',e,z⟩⟩:=a6 q hq;exact ⟨h1,h2,h3,v,⟨ob',hs _ _ (hc q hq) e,z⟩⟩
  . obtain ⟨c,hcc,hv⟩:=a8 y v e;refine ⟨c,?_,hv.kp kp⟩;rcases hcc with h | ⟨h,a',h1,h2⟩
    . exact .inl h
    . exact .inr ⟨h,a',h1,IsCell.of (fun o e=>hs _ _ (hc _ (Ae h1)) e) h2⟩
theorem Kq.chg {g:Bool} {I:Addr} {μ1 μi:Mu} {h h' h'':Heap} (hI:h.get? I=none) (x:Kq g env μ1 h μi h') (hs:∀b o,b≠I->h'.get? b=some o->h''.get? b=some o):Kq g env μ1 h μi h'':=by
  have ne:∀a o,h.get? a=some o->a≠I:=fun a o e q=>by rw [q,hI] at e;cases e
  exact ⟨fun a o ha e=>⟨(x.off a o ha e).1,hs a o (ne a o e) (x.off a o ha e).2⟩,fun a o n ha h1 h2 e=>hs a o (ne a o e) (x.hid a o n ha h1 h2 e),x.at_⟩
theorem Fp {I a:Addr} {μ1:Mu} (hne:a≠I) (ha:a∉cells μ1):a∉cells (μ1.hide I):=fun hm=>by
  rcases List.mem_append.mp hm with q | q
  . exact A7 ha q
  . exact (List.mem_cons.mp q).elim hne fun q=>ha (List.mem_append_right _ q)
theorem BD {I a:Addr} {μ1:Mu} (ha:a∉cells (μ1.hide I)):a∉cells μ1/\a≠I:=⟨fun hm=>ha (by
  rcases List.mem_append.mp hm with q | q
  . exact List.mem_append_left _ q
  . exact List.mem_append_right _ (List.mem_cons_of_mem _ q)),fun q=>ha (q▸List.mem_append_right _ List.mem_cons_self)⟩
theorem Kq.under {g:Bool} {I:Addr} {μ1 μi μ2:Mu} {h hA hB:Heap} (hI:h.get? I=none) (x:Kq g env μ1 h μi hA) (hex:μi.ex=μ1.ex) (y:Kq g env (μi.hide I) hA (μ2.hide I) hB):Kq g env μ1 h μ2 hB:=by
  have ne:∀a o,h.get? a=some o->a≠I:=fun a o e q=>by rw [q,hI] at e;cases e
  refine ⟨fun a o ha e=>?_,fun a o n ha h1 h2 e=>y.hid a o n (List.mem_cons_of_mem _ (hex▸ha)) h1 h2 (x.hid a o n ha h1 h2 e),fun hg i p e=>y.at_ hg i p (x.at_ hg i p e)⟩
  obtain ⟨a1,a2⟩:=x.off a o ha e;obtain ⟨b1,b2⟩:=y.off a o (Fp (ne a o e) a1) a2;exact ⟨(BD b1).1,b2⟩
set_option genInjectivity false in
structure FSt where
  i:Nat
  ρ:L
  σ:St
  μ:Mu
  m:Str->Option Value
structure FI (A:Around) (w:World) (hO:Heap) (env:Env) (μb:Mu) (sb:Shared) (g:Bool) (μ1:Mu) (h1 h2:Heap) (I:Addr) (Sn:Nat->Heap->Prop) (run:List V->L->St->Option Fl) (vs:List V) (fl:Fl) (x:FSt) (s':Shared):Prop where
  le:x.i<=vs.length
  ex:x.μ.ex=μ1.ex
  kq:Kq g env μ1 h1 x.μ s'.heap
  ko:∀b ob,b∉cells (μ1.hide I)->h2.get? b=some ob->b∉cells (x.μ.hide I)/\s'.heap.get? b=some ob
  X:Cx A w hO env (x.μ.hide I) s' x.σ x.ρ x.m
  st:Base μb sb x.μ s'
  sn:Sn x.i s'.heap
  run:run (vs.drop x.i) x.ρ x.σ=some fl
noncomputable def FIE (A:Around) (w:World) (hO:Heap) (env:Env) (μb:Mu) (sb:Shared) (g:Bool) (μ1:Mu) (h1 h2:Heap) (I:Addr) (Sn:Nat->Heap->Prop) (run:List V->L->St->Option Fl) (vs:List V) (fl:Fl) (k:Nat) (s':Shared):Prop:=
  ∃x:FSt,k=vs.length+1 - x.i/\FI A w hO env μb sb g μ1 h1 h2 I Sn run vs fl x s'
theorem Kq.sn {prog:Program} {A:Around} {g:Bool} {I:Addr} {fp wr:List Addr} {n:Nat} {Pr:Nat->Value->Prop} {Sn:Nat->Heap->Prop} {M M' μ1:Mu} {hh hh' h2:Heap} (W:Walks prog w A I fp wr n Pr Sn) (hIL:I≠env.locals) (hIc:∀q∈env.cells,q.2≠I) (fpo:∀b∈fp,b=I∨(b∉cells (μ1.hide I)/\∃o,h2.get? b=some o))
    (k:Kq g env (M.hide I) hh M' hh') (ko:∀b ob,b∉cells (μ1.hide I)->h2.get? b=some ob->b∉cells (M.hide I)/\hh.get? b=some ob) (lv:∀i h,Sn i h->∃o,h.get? I=some o/\¬Hd o) {i:Nat} (st:Sn i hh):Sn i hh':=
  W.frame _ _ _ st fun b hb ob e=>(fpo b hb).elim (fun q=>q.symm▸k.hid I ob ((lv _ _ st).elim fun o z=>Option.some.inj ((q▸e:hh.get? I=some ob).symm.trans z.1)▸z.2) List.mem_cons_self hIL hIc (q▸e)) fun h=>h.2.elim fun ob' e'=>(k.off b ob (ko b ob' h.1 e').1 e).2
@[elab_as_elim] theorem Mu.unhid {P:Mu->Prop} {μ2:Mu} {I:Addr} {ex:List Addr} (h:μ2.ex=I::ex) (k:∀ps,P (Mu.hide ⟨ps,ex⟩ I)):P μ2:=by
  cases μ2;dsimp only at h;rw [h];exact k _
theorem flag_ok {g:Bool} {vs:List V} (h:(!g || vs.all scal)=true):g=false∨∀v∈vs,scal v=true:=
  match g,h with
  | false,_=>.inl rfl
  | true,h=>.inr (List.all_eq_true.mp h)
noncomputable def Go (t:ME) (x:Expr):Prop:=(∀I v,letOwnedTupleGo x I v=pure ())∨(∃ts,t=.tup ts)/\∃xs k p,x=.Tuple xs k p
theorem ckF_ok {sc:Scope} {t:ME} {x:Expr} (h:ckF sc t x=true):ckT sc t x=true/\Go t x:=by
  cases t with
  | loc a=>exact ⟨h,.inl fun I v=>Ai (P:=fun x=>letOwnedTupleGo x I v=pure ()) (h:xN x _=true) fun _ _ _=>rfl⟩
  | tup ts=>exact ⟨h,.inr ⟨⟨ts,rfl⟩,AY (P:=fun x=>∃xs k p,x=Expr.Tuple xs k p) (h:xT x _=true) fun xs k p _=>⟨xs,k,p,rfl⟩⟩⟩
  | _=>exact nt h
theorem go_ok {t:ME} {x:Expr} {I:Addr} {v:V} {c:Value} {r:L×St} {Sn:Nat->Heap->Prop} {i:Nat} {Q:Unit->Shared->Prop} {E:Value->Shared->Prop} {h:Heap} {μ':Mu} (g:Go t x) (it:okF t u=true) (hl:isLst u=true->∀i h,Sn i h->∃l,h.IsListIter I l i) (st:Sn i s.heap) (e:asgn T C t v ρ σ=some r) (hv:VR w.params h μ' v c) (k:Q () s):wpAny (model prog w) A (letOwnedTupleGo x (.ref I) c) Q E s:=by
  rcases g with g | ⟨⟨ts,rfl⟩,xs,kk,p,rfl⟩
  . rw [g];exact wpAny_pure k
  . exact bd e fun vs hs _=>VR.t (BR hs▸hv:VR w.params h μ' (.tup vs) c) fun a cvs _ _ _=>(hl it i _ st).elim fun l h=>wpAny_letOwnedTupleGo_listiter h k
theorem fors_run {t:ME} {t':Expr} {body:List Stmt} {a:MS} {vs:List V} {I:Addr} {fp:List Addr} {Pr:Nat->Value->Prop} {Sn:Nat->Heap->Prop} {μ1:Mu} {h1 h2:Heap} {run:List V->L->St->Option Fl} {fl:Fl} {R:Result->Shared->Prop} {μb:Mu} {sb:Shared} {x:FSt}
    (iht:AsOk prog w hO T C n t) (iha:(BOk prog w hO T C n N) a) (hct:ckT env.scope t t'=true) (hca:ckB env.scope a body=true) {u:V} (hgo:Go t t') (hokf:okF t u=true) (hlst:isLst u=true->∀i h,Sn i h->∃l,h.IsListIter I l i) (B:Bud A n) (hn:Young env sb) (IO:IterOk prog w (μ1.hide I) h2 I vs fp Pr Sn) (hI1:h1.get? I=none) (hIb:sb.heap.get? I=none) (hIL:I≠env.locals) (hIc:∀q∈env.cells,q.2≠I) (hfa:∀l,A.frames=some l->∀e∈l,e.frame≠some I)
    (hflag:hasGc a=false∨∀v∈vs,scal v=true) (hrun:run=forL (fun v ρ σ=>(asgn T C t v ρ σ).bind fun (ρ,σ)=>ex T C N μb.ps.length a ρ σ))
    (k:Post A w hO env μb sb (hasGc a) μ1 h1 (fun f s'=>R (.ok f) s') fl) (F:FI A w hO env μb sb (hasGc a) μ1 h1 h2 I Sn run vs fl x s) :
    codeAny (model prog w) A (.forLoop t' (.ref I) body [] env) R s:=by
  have W:=IO.walks A B.handled;refine codeAny_forLoop_any (FIE A w hO env μb sb (hasGc a) μ1 h1 h2 I Sn run vs fl) (fun j s' hj=>Exists.elim hj fun x hx=>?_) _ ⟨x,rfl,F⟩
  have c:=hx.2;rw [hx.1]
  by_cases hlt:x.i < vs.length
  . have e:=c.run;rw [hrun,List.drop_eq_getElem_cons hlt] at e;refine bd e fun f1 e3 hf=>bd2 e3 fun ρ2 σ2 e4 e3=>?_
    refine Ah (W.item x.i _ _ _ hlt c.sn fun cv h' tk hP hst1 hk1 htk=>?_)
    have hs1:∀b ob,b≠I->s'.heap.get? b=some ob->h'.get? b=some ob:=fun b ob hb e=>hk1 b ob (fun q=>hb (List.mem_singleton.mp q)) e
    have kqc:Kq (hasGc a) env μ1 h1 x.μ h':=c.kq.chg hI1 hs1;have koc:∀b ob,b∉cells (μ1.hide I)->h2.get? b=some ob->b∉cells (x.μ.hide I)/\h'.get? b=some ob:=fun b ob hb e=>⟨(c.ko b ob hb e).1,hs1 b ob (BD hb).2 (c.ko b ob hb e).2⟩
    have hv:VR w.params h' (x.μ.hide I) vs[x.i] cv:=hflag.elim (fun q=>IO.val x.i cv _ hP (List.getElem?_eq_getElem hlt) _ _ ⟨kqc.at_ q,koc⟩) (fun q=>scal_any (q _ (List.getElem_mem hlt)) (IO.val x.i cv _ hP (List.getElem?_eq_getElem hlt) _ _ Kp.refl))
    refine go_ok hgo hokf hlst (s:={ s' with heap:=h',toks:=tk }) hst1 e4 hv ?_
    refine iht hct e4 hv B (c.X.change List.mem_cons_self hIL hIc hfa hs1 ((IO.live _ _ hst1).elim fun o z=>⟨o,z.1⟩) tk (Nat.lt_of_lt_of_le c.X.g.toks htk)) ((c.st.alt (s2:={ s' with heap:=h',toks:=tk }) hIb hs1 rfl rfl).hide hIb) hn.yo _ _ fun s2 μ2 m2 hex2=>Mu.unhid hex2 fun ps2 kq2 X2 st2=>?_
    have kqd:Kq (hasGc a) env μ1 h1 ⟨ps2,x.μ.ex⟩ s2.heap:=kqc.under hI1 c.ex (Kq.weak (g:=false) (fun h=>nt h) kq2)
    have kod:∀b ob,b∉cells (μ1.hide I)->h2.get? b=some ob->b∉cells (Mu.hide ⟨ps2,x.μ.ex⟩ I)/\s2.heap.get? b=some ob:=fun b ob hb e=>kq2.off b ob (koc b ob hb e).1 (koc b ob hb e).2
    have hst2:=Kq.sn W hIL hIc IO.fpo kq2 koc IO.live hst1;refine iha hca e3 B X2 st2 hn _ _ ?_
    cases f1 with
    | next ρ3 σ3=>exact fun s3 μ3 m3 hex3=>Mu.unhid hex3 fun ps3 kq3 X3 st3=>⟨vs.length+1 - (x.i+1),low_of hlt,⟨x.i+1,ρ3,σ3,⟨ps3,x.μ.ex⟩,m3⟩,rfl,⟨hlt,c.ex,kqd.under hI1 c.ex kq3,fun b ob hb e=>kq3.off b ob (kod b ob hb e).1 (kod b ob hb e).2,X3,st3.of,Kq.sn W hIL hIc IO.fpo kq3 kod IO.live hst2,by rw [hrun];exact hf⟩⟩
    | brk ρ3 σ3=>exact fun s3 μ3 m3 hex3=>Mu.unhid hex3 fun ps3 kq3 X3 st3=>(Option.some.inj (hf:some (Fl.next ρ3 σ3)=some fl)▸k:Post A w hO env μb sb (hasGc a) μ1 h1 (fun f s'=>R (.ok f) s') (.next ρ3 σ3)) s3 ⟨ps3,x.μ.ex⟩ m3 c.ex (kqd.under hI1 c.ex kq3) (Cx.unhide (h':=s3.heap) X3 (fun _ _ _ e=>e) hIL hIc hfa s3.toks X3.g.toks) st3.of
    | ret v3 σ3=>exact fun c3 s3 μ3 hex3=>Mu.unhid hex3 fun ps3 kq3 r3 v3' g3 st3=>(Option.some.inj (hf:some (Fl.ret v3 σ3)=some fl)▸k:Post A w hO env μb sb (hasGc a) μ1 h1 (fun f s'=>R (.ok f) s') (.ret v3 σ3)) c3 s3 ⟨ps3,x.μ.ex⟩ c.ex (kqd.under hI1 c.ex kq3) (Rel.unhide (μ:=⟨ps3,x.μ.ex⟩) r3) (v3'.kp (Kp.unhide (μ:=⟨ps3,x.μ.ex⟩))) ⟨g3.gens,g3.toks,g3.ff.unhide (μ:=⟨ps3,x.μ.ex⟩) hfa fun _ _ _ e=>e⟩ st3.of
  . have hin:x.i=vs.length:=Nat.le_antisymm c.le (Nat.not_lt.mp hlt);have e:=c.run;rw [hin,List.drop_length,hrun] at e;refine Ah (W.done _ _ _ (hin▸c.sn) fun h' tk hk1 htk=>wpAny_execs_nil ?_)
    have hs1:∀b ob,b≠I->s'.heap.get? b=some ob->h'.get? b=some ob:=fun b ob hb e=>hk1 b ob (fun q=>hb (List.mem_singleton.mp q)) e
    exact (Option.some.inj (e:some (Fl.next x.ρ x.σ)=some fl)▸k:Post A w hO env μb sb (hasGc a) μ1 h1 (fun f s'=>R (.ok f) s') (.next x.ρ x.σ)) _ x.μ x.m c.ex (c.kq.chg hI1 hs1) (Cx.unhide c.X hs1 hIL hIc hfa tk (Nat.lt_of_lt_of_le c.X.g.toks htk)) (c.st.alt hIb hs1 rfl rfl)
structure FO (A:Around) (w:World) (hO:Heap) (env:Env) (μb:Mu) (sb:Shared) (μ1:Mu) (h1:Heap) (I l:Addr) (i:Nat) (run:Nat->Nat->L->St->Option Fl) (fl:Fl) (k:Nat) (x:FSt) (s':Shared):Prop where
  ex:x.μ.ex=μ1.ex
  kq:Kq false env μ1 h1 x.μ s'.heap
  X:Cx A w hO env (x.μ.hide I) s' x.σ x.ρ x.m
  st:Base μb sb x.μ s'
  it:s'.heap.IsListIter I l x.i
  run:run k x.i x.ρ x.σ=some fl
theorem G0 {M M':Mu} {h h':Heap} {I l:Addr} {k:Nat} (x:h.IsListIter I l k) (kq:Kq false env (M.hide I) h M' h') (hIL:I≠env.locals) (hIc:∀q∈env.cells,q.2≠I):h'.IsListIter I l k:=by
  obtain ⟨o,e,c,d⟩:=x;exact ⟨o,kq.hid I o (Hd.no d) List.mem_cons_self hIL hIc e,c,d⟩
theorem own_run {t:ME} {t':Expr} {body:List Stmt} {a:MS} {I l:Addr} {i:Nat} {p:Addr×Addr} {μ1:Mu} {h1:Heap} {fl:Fl} {R:Result->Shared->Prop} {μb:Mu} {sb:Shared} {x:FSt} {k0:Nat} {run:Nat->Nat->L->St->Option Fl}
    (iht:AsOk prog w hO T C n t) (iha:(BOk prog w hO T C n N) a) (hct:ckT env.scope t t'=true) (hca:ckB env.scope a body=true) (hgo:∀v,letOwnedTupleGo t' (.ref I) v=pure ()) (B:Bud A n) (hn:Young env sb) (hp:μ1.ps[i]? = some p) (hpl:p.1=l) (hI1:h1.get? I=none) (hIb:sb.heap.get? I=none) (hIL:I≠env.locals) (hIc:∀q∈env.cells,q.2≠I) (hfa:∀l,A.frames=some l->∀e∈l,e.frame≠some I)
    (hgc:hasGc a=false) (hrun:run=forO (fun v ρ σ=>(asgn T C t v ρ σ).bind fun (ρ,σ)=>ex T C N μb.ps.length a ρ σ) i)
    (k:Post A w hO env μb sb (hasGc a) μ1 h1 (fun f s'=>R (.ok f) s') fl) (F:FO A w hO env μb sb μ1 h1 I l i run fl k0 x s) :
    codeAny (model prog w) A (.forLoop t' (.ref I) body [] env) R s:=by
  rw [hgc] at k;refine codeAny_forLoop_any (fun j s'=>∃x,FO A w hO env μb sb μ1 h1 I l i run fl j x s') (fun j s' hj=>Exists.elim hj fun x c=>?_) _ ⟨x,F⟩
  have e:=c.run;rw [hrun] at e;cases j with
  | zero=>exact nn e
  | succ j=>
    refine bd e fun vs ho e=>?_
    have hpx:(x.μ.hide I).ps[i]? = some p:=c.kq.at_ rfl _ _ hp;have vo:VR w.params s'.heap (x.μ.hide I) (.obj i) (.ref p.1):=⟨p,hpx,rfl⟩;have ob:=c.X.r.ob (Cg ho) hpx;obtain ⟨hp12,cvs,nn',hls,hvs⟩:=ob;have hl:IsL s'.heap l cvs.toArray nn':=by rw [<- hpl,hp12];exact hls
    revert e;cases hk:vs[x.i]? with
    | none=>
      intro e
      have hsz:cvs.toArray[x.i]? = none:=by
        rw [List.getElem?_toArray];exact List.getElem?_eq_none_iff.mpr (by rw [hvs.len];exact List.getElem?_eq_none_iff.mp hk)
      refine Ah (wpAny_pyNext_list_end B.handled c.it hl.isList hsz fun h' hs1 htk=>wpAny_execs_nil ?_)
      exact (Option.some.inj (e:some (Fl.next x.ρ x.σ)=some fl)▸k:Post A w hO env μb sb false μ1 h1 (fun f s'=>R (.ok f) s') (.next x.ρ x.σ)) _ x.μ x.m c.ex (c.kq.chg hI1 hs1) (Cx.unhide c.X hs1 hIL hIc hfa s'.toks (Nat.lt_of_lt_of_le c.X.g.toks htk)) (c.st.alt hIb hs1 rfl rfl)
    | some v=>
      refine fun e=>bd e fun f1 e3 hf=>bd2 e3 fun ρ2 σ2 e4 e3=>?_
      obtain ⟨cv,hcv,hv0⟩:=hvs.get hk;refine Ah (wpAny_pyNext_list_item c.it hl.isList (by rw [List.getElem?_toArray];exact hcv) fun h' hit hs' htk=>?_)
      have hs1:∀b ob,b≠I->s'.heap.get? b=some ob->h'.get? b=some ob:=fun b ob hb e=>(hs'.2 b hb).trans e
      have kqc:Kq false env μ1 h1 x.μ h':=c.kq.chg hI1 hs1;have hv:VR w.params h' (x.μ.hide I) v cv:=hv0.kp (Kp.change List.mem_cons_self hs1);show wpAny _ _ (letOwnedTupleGo t' (.ref I) cv) _ _ _;rw [hgo];refine wpAny_pure ?_
      refine iht hct e4 hv B (c.X.change List.mem_cons_self hIL hIc hfa hs1 (hit.elim fun o z=>⟨o,z.1⟩) s'.toks (Nat.lt_of_lt_of_le c.X.g.toks htk)) ((c.st.alt (s2:={ s' with heap:=h' }) hIb hs1 rfl rfl).hide hIb) hn.yo _ _ fun s2 μ2 m2 hex2=>Mu.unhid hex2 fun ps2 kq2 X2 st2=>?_
      have kqd:Kq false env μ1 h1 ⟨ps2,x.μ.ex⟩ s2.heap:=kqc.under hI1 c.ex kq2;have hst2:=G0 hit kq2 hIL hIc;refine iha hca e3 B X2 st2 hn _ _ ?_
      rw [hgc];cases f1 with
      | next ρ3 σ3=>exact fun s3 μ3 m3 hex3=>Mu.unhid hex3 fun ps3 kq3 X3 st3=>⟨j,Nat.lt_succ_self _,⟨x.i+1,ρ3,σ3,⟨ps3,x.μ.ex⟩,m3⟩,⟨c.ex,kqd.under hI1 c.ex kq3,X3,st3.of,G0 (M:=⟨ps2,x.μ.ex⟩) hst2 kq3 hIL hIc,by rw [hrun];exact hf⟩⟩
      | brk ρ3 σ3=>exact fun s3 μ3 m3 hex3=>Mu.unhid hex3 fun ps3 kq3 X3 st3=>(Option.some.inj (hf:some (Fl.next ρ3 σ3)=some fl)▸k:Post A w hO env μb sb false μ1 h1 (fun f s'=>R (.ok f) s') (.next ρ3 σ3)) s3 ⟨ps3,x.μ.ex⟩ m3 c.ex (kqd.under hI1 c.ex kq3) (Cx.unhide (h':=s3.heap) X3 (fun _ _ _ e=>e) hIL hIc hfa s3.toks X3.g.toks) st3.of
      | ret v3 σ3=>exact fun c3 s3 μ3 hex3=>Mu.unhid hex3 fun ps3 kq3 r3 v3' g3 st3=>(Option.some.inj (hf:some (Fl.ret v3 σ3)=some fl)▸k:Post A w hO env μb sb false μ1 h1 (fun f s'=>R (.ok f) s') (.ret v3 σ3)) c3 s3 ⟨ps3,x.μ.ex⟩ c.ex (kqd.under hI1 c.ex kq3) (Rel.unhide (μ:=⟨ps3,x.μ.ex⟩) r3) (v3'.kp (Kp.unhide (μ:=⟨ps3,x.μ.ex⟩))) ⟨g3.gens,g3.toks,g3.ff.unhide (μ:=⟨ps3,x.μ.ex⟩) hfa fun _ _ _ e=>e⟩ st3.of
theorem forO_obj {f:V->L->St->Option Fl} {i N k:Nat} {ρ:L} {σ:St} {fl:Fl} (h:forO f i N k ρ σ=some fl):∃vs,objL σ i=some vs:=by
  cases N with
  | zero=>exact nn h
  | succ n=>exact bd h fun vs ho _=>⟨vs,ho⟩
theorem asOb_is {v:V} {i:Nat} (e:asOb v=some i):v=.obj i:=by
  cases v<;>first | exact nn e | exact congrArg V.obj (Option.some.inj e)
theorem loc_go {t:ME} {sc:Scope} {t':Expr} (h:isLoc t=true) (hc:ckT sc t t'=true) (I:Addr) (v:Value):letOwnedTupleGo t' (.ref I) v=pure ():=by
  cases t with
  | loc a=>exact Ai (P:=fun x=>letOwnedTupleGo x (.ref I) v=pure ()) (hc:xN t' _=true) fun _ _ _=>rfl
  | _=>exact nt h
theorem not_tt {b:Bool} (h:(!b)=true):b=false:=by cases b<;>first | rfl | exact nt h
structure OffL (A:Around) (env:Env) (L:Addr):Prop where
  l:L≠env.locals
  c:∀q∈env.cells,q.2≠L
  f:∀l,A.frames=some l->∀e∈l,e.frame≠some L
theorem off_l (X:Cx A w hO env μ s σ ρ m):OffL A env s.heap.objs.size:=
  ⟨X.f.ns.elim fun o h=>h.elim fun es h=>h.elim fun ep h=>Nat.ne_of_gt (Heap.lt_size h.1),fun q hq=>(X.f.coff q hq).2.2.2.elim fun v h=>h.elim fun o h=>Nat.ne_of_lt (Heap.lt_size h.1),X.g.ff.off (Au _)⟩
theorem G1 {g:Bool} {o:Obj}:Kq g env μ s.heap μ (s.heap.push o):=⟨fun b ob hb e=>⟨hb,Heap.get?_push_of_some _ e⟩,fun b ob _ _ _ _ e=>Heap.get?_push_of_some _ e,fun _ _ _ e=>e⟩
theorem so_fors (TK:TabOk prog w K hO T) {t it:ME} {a:MS} (iht:AsOk prog w hO T C n t) (ihi:EvOk prog w hO T C n it) (iha:(BOk prog w hO T C n N) a):(SOk prog w hO T C n N) (.fors t it a):=by
  intro x env ρ σ fl A μ s m μb sb hc he B X st hn Q E k;refine yF_inv (hc:yF x _=true) fun t' it' body o p hc=>Al (aL hc) (bd2 he fun v σ1 e1 he=>?_)
  have hc:=aR hc;have hct:=ckF_ok (aL hc);refine wpAny_For (ihi (aL (aR hc)) e1 B X _ _ fun c1 s1 μ1 st1 r1 v1 tk1=>?_) (fun v=>A4 (aL (aR hc)) env v)
  have X1:=X.step st1 r1 tk1;have stb:=st.on st1;have of:=off_l X1;have hib:=stb.new_none (Au _) (A7 r1.fresh);have k:=k.weak id st1.ex (st1.kq X.r);dsimp only at he;revert he;cases hov:asOb v with
  | some i=>
    exact fun he=>Mine.ifs he fun hfl he=>(forO_obj he).elim fun vs ho=>Rel.ol r1 (asOb_is hov▸v1:VR w.params s1.heap μ1 (.obj i) c1) (Cg ho) fun p cvs nn' hp hp12 hl hvs=>wpAny_pyIter_list hl.isList
      (own_run (x:=⟨0,ρ,σ1,μ1,m⟩) (k0:=N) (h1:=s1.heap) iht iha hct.1 (aR (aR hc)) (loc_go (aL hfl) hct.1 _) B hn hp rfl (Au _) hib of.l of.c of.f (not_tt (aR hfl)) rfl k
        ⟨rfl,G1,X1.hide _ rfl,stb.alt hib (fun b ob _ e=>Heap.get?_push_of_some _ e) rfl rfl,⟨_,Heap.get?_push_size _ rfl,rfl,rfl⟩,he⟩)
  | none=>
    exact fun he=>bd he fun vs e2 he=>Mine.ifs he fun hflag he=>GU TK r1 v1 e2 fun o fp Pr Sn hfr IO hlst=>
      fors_run (x:=⟨0,ρ,σ1,μ1,m⟩) (vs:=vs) (h1:=s1.heap) iht iha hct.1 (aR (aR hc)) hct.2 (aL hflag) hlst B hn IO (Au _) hib of.l of.c of.f (flag_ok (aR hflag)) rfl k
        ⟨Nat.zero_le _,rfl,G1,fun _ _ hb e=>⟨hb,e⟩,X1.hide o hfr,stb.alt hib (fun b ob _ e=>Heap.get?_push_of_some _ e) rfl rfl,IO.st,he⟩
end
theorem fun_of {h:Heap} {as:List Addr}:∀{l:List Env},(∀env∈l,env.scope.kind≠.module/\∃L,env.frame=some L/\∃o,h.get? L=some o/\Hd o)->(∀env∈l,∀a,env.frame=some a->a∈as)->h.FunFrames (hideAll h as) l
  | [],_,_=>trivial
  | env::r,hl,hin=>by
    obtain ⟨h1,L,h2,o,h3,h4⟩:=hl env (.head _);exact ⟨h1,⟨L,o,h2,hideAll_none _ (hin env (.head _) L h2),h3,fun vs q=>Hd.no q h4⟩,fun_of (fun e he=>hl e (.tail _ he)) fun e he=>hin e (.tail _ he)⟩
noncomputable def KeOk (hO:Heap):Prop:=∃mg mb,hO.Ns mainGlobals mg/\hO.Ns builtinsNs mb/\mg (Str.ofString "KeyError")=none/\mb (Str.ofString "KeyError")=some (.type "KeyError")
section
variable {prog:Program} {w:World} {K:Frag} {hO:Heap} {T:Tab} {C:Calls} {n N:Nat} {A:Around} {σ σ':St} {μ:Mu} {s:Shared} {env:Env} {ρ ρ':L} {m:Str->Option Value} {v:V} {c:Value}
theorem fly_step {l:List Env} {h':Heap} {tk:Nat} (r:Rel w.params hO σ μ s.heap) (f:FF A μ s.heap) (hfr:A.frames=some l) {base:Heap} (hb:∀b o,s.heap.get? b=some o->(∀env∈l,env.frame≠some b)->base.get? b=some o) (st:base.StaysIn h') (up:s.heap.UpToSlots h') :
    Step μ s μ { s with heap:=h',toks:=tk }/\Rel w.params hO σ μ h':=by
  obtain ⟨l',hl',hf⟩:=f;rw [hfr] at hl';cases hl'
  have key:∀b o,b∉pcells μ->s.heap.get? b=some o->Sl μ.ex b o h':=fun b o hp e=>by
    by_cases q:∃env∈l,env.frame=some b
    . obtain ⟨env,he,hq⟩:=q;obtain ⟨_,L,h1,h2,o',h3,h4⟩:=hf env he;rw [hq] at h1;cases h1;rw [e] at h3;cases h3;obtain ⟨sl,z⟩:=up b o e fun vs q=>Hd.no q h4
      exact .inr ⟨h2,h4,sl,z⟩
    . exact .inl (st b o (hb b o e fun env he hq=>q ⟨env,he,hq⟩))
  have exact_:∀b o,(b∉μ.ex)->s.heap.get? b=some o->h'.get? b=some o:=fun b o hx e=>st b o (hb b o e fun env he hq=>by
    obtain ⟨_,L,h1,h2,_⟩:=hf env he;rw [hq] at h1;cases h1;exact hx h2)
  have stp:Step μ s μ { s with heap:=h',toks:=tk }:=⟨⟨[],by simp,by simp⟩,key,rfl,rfl⟩
  refine ⟨stp,⟨fun b o e=>exact_ b o (fun hx=>?_) (r.keep b o e),r.len,fun i ob p e1 e2=>(r.obj i ob p e1 e2).kp stp.kp fun o e=>exact_ _ _ (fun hx=>(List.nodup_append.mp r.nodup).2.2 _ (Ao e2) _ hx rfl) e,r.new,r.nodup,r.low,fun a ha=>?_⟩⟩
  . have:=(r.new b (List.mem_append_right _ hx)).1
    rw [e] at this;cases this
  . obtain ⟨o,e⟩:=r.exl a ha;obtain ⟨o',e',_⟩:=(key a o (r.ex_off ha) e).d;exact ⟨o',e'⟩
theorem raise_ke (KE:KeOk hO) {es:ME} (ih:EvsOk prog w hO T C n es) {y:Str} {p1 p3 p4:Pos} (hy:ckG env.scope "KeyError" y=true) {xs:List Expr} (hl:ckL env.scope es xs=true) {vs:List V} (e1:evs T C es ρ σ=some (vs,σ')) (hv:vs.length<=10)
    (B:Bud A n) (X:Cx A w hO env μ s σ ρ m) {Q:Flow->Shared->Prop} {E:Value->Shared->Prop}
    (k:∀s1 μ1 h' e,Step μ s μ1 s1->Rel w.params hO σ' μ1 s1.heap->s.toks<=s1.toks->s1.heap.NewExc h' e "KeyError"->E (.ref e) { s1 with heap:=h' }) :
    wpAny (model prog w) A (exec (.Raise (some (.Call (.Name y p1) xs [] p3)) none p4) env) Q E s:=by
  obtain ⟨mg,mb,h1,h2,h3,h4⟩:=KE;refine Raise_new B.handled ?_
  refine Call_Name (by rw [AG _ _ hl,Am]) (globb X hy h1 h3 h2 h4 (Av (P:=fun _=>True) rfl (fun h _=>⟨.machine,.inr (.inl rfl),AV nofun⟩) ?_))
  refine AX ih p3 hl e1 B X _ _ fun cs s1 μ1 st1 r1 v1 tk1=>evalAll_nil ⟨trivial,?_⟩
  refine call_exc_raise excClass_KeyError (fun h' e hx=>k s1 μ1 h' e st1 r1 tk1 hx) ?_
  show ([]++cs).length<=sizeLine;rw [List.nil_append,v1.len,sizeLine_eq];exact Nat.le_trans hv (by decide)
theorem Cx.around {A':Around} (X:Cx A w hO env μ s σ ρ m) (e:A'.frames=A.frames):Cx A' w hO env μ s σ ρ m:=⟨X.r,X.f,⟨X.g.gens,X.g.toks,X.g.ff.around e⟩,fun q=>(X.top q).elim fun l h=>⟨l,e.trans h⟩⟩
noncomputable def Out (w:World) (hO:Heap) (A:Around) (σ:St) (μ:Mu) (s:Shared) (R:Value->Shared->Prop):Prop:=
  ∀l base a0 e s',A.frames=some l->Heap.FlyingW base l e (.type "KeyError") a0 s'.heap->(∀s4:Shared,s4.gens=s'.gens->s4.os=s'.os->base.StaysIn s4.heap->s'.heap.UpToSlots s4.heap->Step μ s μ s4/\Rel w.params hO σ μ s4.heap)->s.toks<=s'.toks->R (.ref e) s'
noncomputable def LpxOk (prog:Program) (w:World) (hO:Heap) (T:Tab) (n:Nat):Prop:=∀f vs,T.lpx f vs=true->10<=n/\
  ∀(A:Around) (σ:St) (μ:Mu) (s:Shared) (cs:List Value),A.handled=none->A.depth+60 < recursionLimit->A.units+800 < cLine->Rel w.params hO σ μ s.heap->Gk A μ s->VRs w.params s.heap μ vs cs->
    ∀R:Result->Shared->Prop,Out w hO A σ μ s (fun e s'=>R (.error e) s')->codeAny (model prog w) A (.call (.ref f) ⟨cs,[]⟩) R s
theorem catch_ke {l:List Env} {base:Heap} {a0:Value} {e:Addr} {s':Shared} {y:String} {yk:Str} {pk pc pz p2 ps:Pos} {cc:Const} {nc:Nat} (KE:KeOk hO) (X:Cx A w hO env μ s σ ρ m) (hfr:A.frames=some l) (hfl:Heap.FlyingW base l e (.type "KeyError") a0 s'.heap) (hyk:ckG env.scope "KeyError" yk=true) (hcc:ckC .none cc=true) (hy:env.scope.names.lookup (Str.ofString y)=some .local)
    (cx:∀h4,base.StaysIn h4->s'.heap.UpToSlots h4->Cx A w hO env μ { s' with heap:=h4 } σ ρ m/\Step μ s μ { s' with heap:=h4 }) {μb:Mu} {sb:Shared} (st:Base μb sb μ s) (hn:Young env sb) {Q:Flow->Shared->Prop} {E:Value->Shared->Prop}
    (k:∀s8 μ8 m8,μ8.ex=μ.ex->Kq false env μ s.heap μ8 s8.heap->Cx A w hO env μ8 s8 σ (put ρ y .none) m8->Base μb sb μ8 s8->Q .next s8) :
    wpAny (model prog w) A (noteFrame (.ref e) env) (fun _ s₂=>wpAny (model prog w) A (setFlight (.ref e) none) (fun _ s₃=>wpAny (model prog w) A (handleBy (.ref e) env [.ExceptHandler (some (.Name yk pk)) none [.Assign [.Name (Str.ofString y) pz] (.Constant cc nc pc) p2] ps]) Q E s₃) E s₂) E s':=by
  obtain ⟨mg,mb,k1,k2,k3,k4⟩:=KE;obtain ⟨outer,htop⟩:=X.top hn.2.2;rw [hfr] at htop;cases htop;obtain ⟨l',hl',hff⟩:=X.g.ff;rw [hfr] at hl';cases hl';obtain ⟨_,L,hf,_⟩:=hff env (.head _);refine wpAny_looks_onW hfr hf hfl fun h4 held4 up4=>?_
  refine wpAny_landsW held4 fun h5 fly5 up5=>?_
  refine wpAny_handleBy_builtin (X:="KeyError") (T:="KeyError") (b:=true) kr_isExc_KeyError kr_notTuple_KeyError (by rw [isSubtype_type];kernel_rfl) ?_
  refine globb ((cx h5 fly5.1 (up4.trans up5)).1.around (A':=A.mark (some (.ref e))) rfl) hyk k1 k3 k2 k4 ⟨rfl,fly5.there,ite_tt ?_⟩;refine lands_againW fly5 fun h6 fly6 up6=>?_
  have c6:=cx h6 fly6.1 ((up4.trans up5).trans up6);have X6:=c6.1.around (A':=A.mark (some (.ref e))) rfl;refine wpAny_execs_cons (wpAny_Assign_stores (cst_ok (v:=.none) X6.r hcc _ _ fun c1 s7 μ7 st7 r7 v7 tk7=>?_) rfl rfl)
  have sB:=c6.2.trans st7;refine PySem.wpAny_assign_Name (BX hy v7 (X6.step st7 r7 tk7) (st.on sB) hn.1 fun s8 μ8 m8 hex8 kq8 X8 st8=>wpAny_execs_nil ?_)
  exact k s8 μ8 m8 (hex8.trans sB.ex) ((sB.kq X.r).trans sB.ex kq8) (X8.around rfl) st8
theorem tl_tri {sc:Scope} {xn y nm:String} {o es:ME} {a:MS} {body:List Stmt} {hs:List ExceptHandler} {o' f:List Stmt} (hc:(emp o'&&(emp f&&((lc body fun s0 r=>ckSA sc (.loc xn) (.met o nm es [] .nil) s0&&ckB sc a r)&&l1 hs (tlH sc y))))=true) :
    (lc hs (fun _ _=>true)&&(emp o'&&(emp f&&ckB sc (.cons (.asg (.loc xn) (.met o nm es [] .nil)) a) body)))=true:=by
  have h1:=aL hc;have h2:=aL (aR hc);have h3:ckB sc (.cons (.asg (.loc xn) (.met o nm es [] .nil)) a) body=true:=aL (aR (aR hc));have h4:lc hs (fun _ _=>true)=true:=AU (P:=fun hs=>lc hs (fun _ _=>true)=true) (aR (aR (aR hc))) fun _ _=>rfl
  rw [h1,h2,h3,h4];rfl
theorem so_tlp (TK:TabOk prog w K hO T) (CO:CallsOk prog w hO C n) (LO:LpxOk prog w hO T n) (KE:KeOk hO) {xn y nm:String} {o es:ME} {a:MS} (iha:BOk prog w hO T C n N a):SOk prog w hO T C n N (.tlp xn o nm es a y):=by
  intro x env ρ σ fl A μ s m μb sb hc he B X st hn Q E k;refine bd2 he fun q σ1 e1 he=>bd he fun c e2 he=>bd2 he fun vs σ2 e3 he=>?_
  revert k;refine ife he (fun e4 he=>sme he fun k=>?_) fun e4 he k=>?_
  . refine so_tri (a:=.cons (.asg (.loc xn) (.met o nm es [] .nil)) a) (GZ (so_asg TK CO Fh (Aa TK CO (.met o nm es [] .nil)).ev) iha) (Fn (P:=fun x=>ckS env.scope (.tri (.cons (.asg (.loc xn) (.met o nm es [] .nil)) a)) x=true) (hc:yY x _=true) fun body hs o' f p hc=>tl_tri hc) ?_ B X st hn Q E k
    show (((ev T C o ρ σ).bind fun (a,σ)=>(getM T a nm σ).bind fun c=>(evs T C es ρ σ).bind fun (vs,σ)=>some (([]:List V),σ) |>.bind fun (ws,σ)=>if ([]:List String).length=ws.length then calM C c vs (([]:List String).zip ws) σ else none).bind fun (v,σ)=>(some (put ρ xn v,σ)).map fun (ρ,σ)=>Fl.next ρ σ).bind _=_
    rw [e1];show (((getM T q nm σ1).bind fun c=>(evs T C es ρ σ1).bind fun (vs,σ)=>some (([]:List V),σ) |>.bind fun (ws,σ)=>if ([]:List String).length=ws.length then calM C c vs (([]:List String).zip ws) σ else none).bind fun (v,σ)=>(some (put ρ xn v,σ)).map fun (ρ,σ)=>Fl.next ρ σ).bind _=_
    rw [e2];show (((evs T C es ρ σ1).bind fun (vs,σ)=>some (([]:List V),σ) |>.bind fun (ws,σ)=>if ([]:List String).length=ws.length then calM C c vs (([]:List String).zip ws) σ else none).bind fun (v,σ)=>(some (put ρ xn v,σ)).map fun (ρ,σ)=>Fl.next ρ σ).bind _=_
    rw [e3];show ((calM C c vs [] σ2).bind fun (v,σ)=>some (Fl.next (put ρ xn v) σ)).bind _=_
    refine bd2 he fun v3 σ3 e5 he=>?_
    rw [e5];exact he
  refine Fn (hc:yY x _=true) fun body hs o' f p hc=>Al (aL hc) (Al (aL (aR hc)) ?_)
  obtain ⟨z,pz',e',p1,rest,rfl,b3⟩:=tlB_inv (aL (aR (aR hc)));refine AU (aR (aR (aR hc))) fun hd hh=>?_
  refine tlH_inv hh fun yk pk cc nc pc pz p2 ps hyk hcc hy=>?_
  cases c with
  | mt _ _=>exact nt e4
  | bm _ _=>exact nt e4
  | fn f first=>
  obtain ⟨hn10,LO⟩:=LO _ _ e4;have hd:=B.depth;have hu:=B.units;refine wpAny_Try_except (wpAny_execs_cons (wpAny_Assign_stores (targets:=[.Name z pz']) (value:=e') (pos:=p1) (env:=env) ?_ (CK (ck_met (P:=fun e'=>notComp e'=true) b3 fun _ _ _ _ _ _ _ _ _ _ _ _=>rfl) (some (.Name z pz')) p1.line env) rfl))
  refine Ew (σ3:=σ2) (ws:=[]) TK (Aa TK CO o).ev (Aa TK CO es).evs (Aa TK CO .nil).evs b3 e1 e2 e3 rfl B X fun f' fs cs ds s3 μ3 st3 tk3 X3 hx3 v2 v3=>?_
  rw [show f'=.ref f from hx3.1];refine VRs.n v3 (wpAny_call (LO A σ2 μ3 s3 (fs++cs) B.handled (by omega) (by omega) X3.r X3.g (hx3.2.2.append v2) _ fun l base a0 e s' hfr hfl land tk=>?_))
  refine catch_ke KE X3 hfr hfl hyk hcc hy (fun h4 b1 b2=>have z:=land { s' with heap:=h4 } rfl rfl b1 b2;⟨X3.step z.1 z.2 tk,z.1⟩) (st.on st3) hn fun s8 μ8 m8 hex8 kq8 X8 st8=>?_
  exact k s8 μ8 m8 (hex8.trans st3.ex) (((st3.kq X.r).trans st3.ex kq8).weak fun h=>nt h) X8 st8
end
noncomputable def Mu.cut (μ:Mu) (n:Nat):Mu:=⟨μ.ps.take n,μ.ex⟩
section
variable {P:Params} {hO:Heap} {σ:St} {μ:Mu} {h:Heap} {n:Nat}
theorem AE {a:Addr} (ha:a∉cells μ):a∉cells (μ.cut n):=fun hm=>ha (by
  rcases List.mem_append.mp hm with q | q
  . unfold pcells Mu.cut at q;rw [List.map_take] at q;exact List.mem_append_left _ (List.mem_of_mem_take q)
  . exact List.mem_append_right _ q)
theorem EB (r:Rel P hO σ μ h) {i:Nat} {p:Addr×Addr} (hp:μ.ps[i]? = some p) (hi:n<=i):p.2∉cells (μ.cut n):=by
  intro hm;have z:=List.nodup_append.mp r.nodup;have hpi:(pcells μ)[i]? = some p.2:=by unfold pcells;rw [List.getElem?_map,hp];rfl
  rcases List.mem_append.mp hm with q | q
  . unfold pcells Mu.cut at q;rw [List.map_take] at q;obtain ⟨j,hj,hjp⟩:=List.mem_iff_getElem.mp q;rw [List.length_take] at hj;rw [List.getElem_take] at hjp;have hlt:j < (pcells μ).length:=by unfold pcells;omega
    have e1:(pcells μ)[j]? = some p.2:=by
      unfold pcells;rw [List.getElem?_eq_getElem (by assumption)];exact congrArg some hjp
    have:=(List.getElem?_inj hlt z.1).mp (e1.trans hpi.symm)
    omega
  . exact z.2.2 p.2 (Ao hp) p.2 q rfl
theorem cut_at {i:Nat} {p:Addr×Addr} (hp:μ.ps[i]? = some p) (hi:i < n):(μ.cut n).ps[i]? = some p:=by
  show (μ.ps.take n)[i]? = some p;rw [List.getElem?_take,if_pos hi];exact hp
noncomputable def Cut (P:Params) (h:Heap) (μ:Mu) (n:Nat) (f:V->V):Prop:=∀v c,VR P h μ v c->VR P h (μ.cut n) (f v) c
theorem CL {f:V->V} (hf:Cut P h μ n f):∀{vs:List V} {cs:List Value},VRs P h μ vs cs->VRs P h (μ.cut n) (vs.map f) cs
  | [],_,e=>e
  | v::vs,_,r=>VRs.c r fun c r hv hr=>⟨c,r,rfl,hf v c hv,CL hf (vs:=vs) hr⟩
theorem Ci {f:V->V} (hf:Cut P h μ n f):∀{vs:List (List Nat×V)} {cs:List DictEntry},VRd P h μ vs cs->VRd P h (μ.cut n) (vs.map fun e=>(e.1,f e.2)) cs
  | [],_,e=>e
  | v::vs,_,r=>VRd.c r fun t c r hv hr=>⟨t,c,r,rfl,hf _ c hv,Ci hf (vs:=vs) hr⟩
theorem G2 {f:V->V} (hf:Cut P h μ n f):∀{vs:List (String×V)} {cs:List DictEntry},VRf P h μ vs cs->VRf P h (μ.cut n) (vs.map fun e=>(e.1,f e.2)) cs
  | [],_,e=>e
  | v::vs,_,r=>VRf.c r fun t c r hv hr=>⟨t,c,r,rfl,hf _ c hv,G2 hf (vs:=vs) hr⟩
theorem BY {f:V->V} (es:List (List Nat×V)):(es.map fun e=>(e.1,f e.2)).map Prod.fst=es.map Prod.fst:=by
  rw [List.map_map];rfl
theorem frzOb_ok (r:Rel P hO σ μ h) {f:V->V} (hf:Cut P h μ n f) {i:Nat} {c:Value} (hi:¬i < n) (hv:VR P h μ (.obj i) c):VR P h (μ.cut n) (frzOb f σ[i]?) c:=by
  have hi:=Nat.not_lt.mp hi;cases ho:σ[i]? with
  | none=>exact AO hv
  | some o=>cases o with
    | list vs=>exact Rel.ol r hv ho fun p cvs k hp h1 hl hvs=>⟨p.1,cvs,k,rfl,h1▸EB r hp hi,hl,CL hf hvs⟩
    | dict es=>exact Rel.od r hv ho fun p ces k hp h1 hn hl hvs=>⟨p.1,ces,k,rfl,⟨h1▸(r.new _ (Cw hp)).2,(BY es).symm▸hn⟩,h1▸EB r hp hi,hl,Ci hf hvs⟩
    | inst _ _=>exact AO hv
theorem BZ (r:Rel P hO σ μ h):∀(d:Nat),Cut P h μ n (frz σ n d)
  | 0,v,c,hv=>AO hv
  | d+1,v,c,hv=>by
    have ih:=BZ r d;cases v with
    | obj i=>
      show VR P h (μ.cut n) (if i < n then .obj i else frzOb (frz σ n d) σ[i]?) c
      by_cases hi:i < n
      . rw [if_pos hi];exact VR.o hv fun p hp=>⟨p,cut_at hp hi,rfl⟩
      . rw [if_neg hi];exact frzOb_ok r ih hi hv
    | meth f i=>
      show VR P h (μ.cut n) (if i < n then .meth f i else .junk) c
      by_cases hi:i < n
      . rw [if_pos hi];exact VR.m hv fun a p hp ha ho=>⟨a,p,cut_at hp hi,rfl,AE ha,ho⟩
      . rw [if_neg hi];exact AO hv
    | tup vs=>exact VR.t hv fun a cvs ha ho hvs=>⟨a,cvs,rfl,AE ha,ho,CL ih hvs⟩
    | lst vs=>exact VR.l hv fun a cvs k ha ho hvs=>⟨a,cvs,k,rfl,AE ha,ho,CL ih hvs⟩
    | dct es=>exact VR.d hv fun a ces k h1 h2 ha ho hvs=>⟨a,ces,k,rfl,⟨h1,(BY es).symm▸h2⟩,AE ha,ho,Ci ih hvs⟩
    | rng i j k=>exact VR.r hv fun a t u y ha ho=>⟨a,t,u,y,rfl,AE ha,ho⟩
    | none=>exact hv
    | bool b=>exact hv
    | int i=>exact hv
    | str l=>exact hv
    | stat a=>exact hv
    | junk=>exact hv
theorem frzO_ok (r:Rel P hO σ μ h) {p:Addr×Addr} {o:O} (x:OR P h μ p o):OR P h (μ.cut n) p (frzO σ n o):=by
  cases o with
  | inst C fs=>exact ⟨x.1,AE x.2.1,x.2.2.elim fun ces x=>x.elim fun k x=>⟨ces,k,x.1,G2 (BZ r 6) x.2⟩⟩
  | list vs=>exact ⟨x.1,x.2.elim fun cvs x=>x.elim fun k x=>⟨cvs,k,x.1,CL (BZ r 6) x.2⟩⟩
  | dict es=>exact ⟨⟨x.1.1,(BY es).symm▸x.1.2⟩,x.2.elim fun ces x=>x.elim fun k x=>⟨ces,k,x.1,Ci (BZ r 6) x.2⟩⟩
theorem Rel.cut (r:Rel P hO σ μ h) (n:Nat):Rel P hO (gcS n σ) (μ.cut n) h:=by
  refine ⟨r.keep,by simp [gcS,Mu.cut,r.len],fun i o p e1 e2=>?_,fun a ha=>?_,?_,r.low,r.exl⟩
  . unfold gcS at e1;rw [List.getElem?_map] at e1;obtain ⟨o',ho',rfl⟩:=Option.map_eq_some_iff.mp e1;have e2:(μ.ps.take n)[i]? = some p:=e2;rw [List.getElem?_take] at ho' e2;split at ho'
    . rename_i hi;rw [if_pos hi] at e2;exact frzO_ok r (r.obj i o' p ho' e2)
    . cases ho'
  . exact r.new a (by
      rcases List.mem_append.mp ha with q | q
      . unfold pcells Mu.cut at q;rw [List.map_take] at q;exact List.mem_append_left _ (List.mem_of_mem_take q)
      . exact List.mem_append_right _ q)
  . have z:=List.nodup_append.mp r.nodup;unfold cells pcells Mu.cut;dsimp only;rw [List.map_take,List.nodup_append];exact ⟨z.1.sublist (List.take_sublist _ _),z.2.1,fun a ha b hb=>z.2.2 a (List.mem_of_mem_take ha) b hb⟩
theorem lk_gc (ρ:L) (x:String) (v:V) (e:lk (gcL n σ ρ) x=some v):∃u,lk ρ x=some u/\v=frz σ n 6 u:=by
  induction ρ with
  | nil=>cases e
  | cons a r ih=>
    unfold gcL at e;rw [List.map_cons] at e;unfold lk at e ⊢;dsimp only at e
    by_cases hx:a.1=x
    . rw [if_pos hx] at e ⊢;cases e;exact ⟨_,rfl,rfl⟩
    . rw [if_neg hx] at e ⊢;exact ih e
end
section
variable {prog:Program} {w:World} {K:Frag} {hO:Heap} {T:Tab} {C:Calls} {n N:Nat} {A:Around} {σ σ':St} {μ:Mu} {s:Shared} {env:Env} {ρ ρ':L} {m:Str->Option Value} {v:V} {c:Value}
theorem Cx.cut (X:Cx A w hO env μ s σ ρ m) (k:Nat):Cx A w hO env (μ.cut k) s (gcS k σ) (gcL k σ ρ) m:=by
  have off:∀{a:Addr},a∉pcells μ->a∉pcells (μ.cut k):=fun ha hm=>ha (by
    unfold pcells Mu.cut at hm;rw [List.map_take] at hm;exact List.mem_of_mem_take hm)
  refine ⟨X.r.cut k,⟨X.f.kind,X.f.glob,X.f.blt,X.f.ns,⟨X.f.off.1,off X.f.off.2⟩,fun q hq=>?_,X.f.apart,X.f.cel,fun y v e=>?_⟩,⟨X.g.gens,X.g.toks,X.g.ff.keep (fun _ h=>h) fun _ _ _ e=>e⟩,X.top⟩
  . obtain ⟨h1,h2,h3⟩:=X.f.coff q hq;exact ⟨h1,off h2,h3⟩
  . obtain ⟨u,hu,rfl⟩:=lk_gc ρ y v e;obtain ⟨c,hc,hv⟩:=X.f.lr y u hu;exact ⟨c,hc,BZ X.r 6 u c hv⟩
theorem bo_gc {k:Nat} {r:MS} (ih:(BOk prog w hO T C n N) r):(BOk prog w hO T C n N) (.gc k r):=by
  intro xs env ρ σ fl A μ s m μb sb hc he B X st hn Q E kk;have hc':ckB env.scope r xs=true:=hc;have he:ex T C N μb.ps.length r (gcL (μb.ps.length+k) σ ρ) (gcS (μb.ps.length+k) σ)=some fl:=he
  have st':Base μb sb (μ.cut (μb.ps.length+k)) s:=by
    obtain ⟨ν,q,h1⟩:=st.st.ext;have hps:μ.ps=μb.ps++ν:=congrArg Mu.ps q;refine ⟨⟨⟨ν.take k,?_,fun x hx=>h1 x (List.mem_of_mem_take hx)⟩,st.st.keep,st.st.gens,st.st.os⟩,st.yg⟩
    unfold Mu.cut;rw [hps,List.take_length_add_append]
  have kq:Kq true env μ s.heap (μ.cut (μb.ps.length+k)) s.heap:=⟨fun a o ha e=>⟨AE ha,e⟩,fun a o _ _ _ _ e=>e,fun h=>by cases h⟩
  have kk':Post A w hO env μb sb true μ s.heap Q fl:=kk;exact ih hc' he B (X.cut _) st' hn Q E (Post.weak (g:=true) (μ:=μ) (h:=s.heap) (fun _=>rfl) rfl kq kk')
structure AllS (prog:Program) (w:World) (hO:Heap) (T:Tab) (C:Calls) (n N:Nat) (a:MS):Prop where
  so:SOk prog w hO T C n N a
  bo:BOk prog w hO T C n N a
theorem Cj (TK:TabOk prog w K hO T) (CO:CallsOk prog w hO C n) (LO:LpxOk prog w hO T n) (KE:KeOk hO) (a:MS):AllS prog w hO T C n N a:=by
  induction a with
  | nil=>exact ⟨fun hc=>nt hc,bo_nil⟩
  | cons a b iha ihb=>exact ⟨fun hc=>nt hc,GZ iha.so ihb.bo⟩
  | gc k r ih=>exact ⟨fun hc=>nt hc,bo_gc ih.bo⟩
  | expr e=>exact ⟨so_expr (Aa TK CO e).ev,fun hc=>nt hc⟩
  | asg t e=>exact ⟨so_asg TK CO (GY TK CO t).as (Aa TK CO e).ev,fun hc=>nt hc⟩
  | aug t o e=>exact ⟨so_aug TK CO,fun hc=>nt hc⟩
  | ifs c a b iha ihb=>exact ⟨so_ifs (Aa TK CO c).tr iha.bo ihb.bo,fun hc=>nt hc⟩
  | whl c a ih=>exact ⟨so_whl (Aa TK CO c).tr ih.bo,fun hc=>nt hc⟩
  | fors t it a ih=>exact ⟨so_fors TK (GY TK CO t).as (Aa TK CO it).ev ih.bo,fun hc=>nt hc⟩
  | ret e=>exact ⟨so_ret (Aa TK CO e).ev,fun hc=>nt hc⟩
  | brk=>exact ⟨so_brk,fun hc=>nt hc⟩
  | asr e=>exact ⟨so_asr (Aa TK CO e).tr,fun hc=>nt hc⟩
  | tlp xn o nm es a y ih=>exact ⟨so_tlp TK CO LO KE ih.bo,fun hc=>nt hc⟩
  | tri a ih=>exact ⟨so_tri ih.bo,fun hc=>nt hc⟩
  | opq=>exact ⟨fun _ he=>nn he,fun _ he=>nn he⟩
end
structure DefAt (K:Frag) (f:Addr) (fd:FuncData) (body:List Stmt):Prop where
  at_:∃oc od osl,K.lookup f=some ⟨oc,od,.func fd,osl⟩
  body:fd.body=.stmts body
  glob:fd.globals=mainGlobals
  blt:fd.builtins=builtinsNs
  clo:fd.closure=[]
  code:codeIn K fd.code fd.qualname=true
  kind:fd.scope.kind=.function
  co:fd.scope.isCoroutine=false
  gen:fd.scope.isGenerator=false
  nd:((cellsFrom 0 fd.scope.names []).map (·.1)).Nodup
section
variable {prog:Program} {w:World} {K:Frag} {hO:Heap} {T:Tab} {C:Calls} {n N:Nat} {A:Around} {σ σ':St} {μ:Mu} {s:Shared} {v:V}
noncomputable def HdAt (h:Heap) (L:Addr):Prop:=∃o,h.get? L=some o/\Hd o
theorem Ba {M:Model} {E:Value->Shared->Prop} {s₀:Shared} {env:Env} (f:Str×Value->PUnit->Sem (ForInStep PUnit)) (hf:∀n v u,f (n,v) u=(do storeName env n v;pure (.yield ⟨⟩))) (hk:env.scope.kind=.function) :
    ∀(binds:List (Str×Value)) (m cm:Str->Option Value) (s:Shared) (Q:PUnit->Shared->Prop),InCallC s₀ env.locals m env.cells cm s->HdAt s.heap env.locals->
      (∀x∈binds,env.kindOf x.1=some .local∨(env.kindOf x.1=some .cell/\(env.cells.lookup x.1).isSome=true))->
      (∀s',InCallC s₀ env.locals (bindL env.kindOf binds m) env.cells (bindC env.kindOf binds cm) s'->HdAt s'.heap env.locals->Q ⟨⟩ s')->wpAny M A (forIn binds ⟨⟩ f) Q E s
  | [],m,cm,s,Q,x,d,_,h=>by rw [List.forIn_nil];exact wpAny_pure (h s x d)
  | (n,v)::r,m,cm,s,Q,x,d,hkind,h=>by
    rw [List.forIn_cons,hf];have hr:∀y∈r,env.kindOf y.1=some .local∨(env.kindOf y.1=some .cell/\(env.cells.lookup y.1).isSome=true):=fun y hy=>hkind y (List.mem_cons_of_mem _ hy)
    rcases hkind (n,v) List.mem_cons_self with hl | ⟨hl,hc⟩
    . refine wpAny_bind (wpAny_bind (stLC x hk hl fun s' x'=>wpAny_pure (Ba f hf hk r _ _ s' Q x' (Hd.of_ns (x:=n) (v:=v) x'.toInCall.ns (by simp)) hr fun s'' x''=>h s'' ?_)))
      unfold bindL bindC;rw [if_pos hl,if_pos hl];exact x''
    . obtain ⟨c,hc⟩:=Option.isSome_iff_exists.mp hc;have hnl:¬env.kindOf n=some .local:=by rw [hl];decide
      have hLc:=x.above n c (mem_of_lookup hc);refine wpAny_bind (wpAny_bind (wpAny_storeName_cell hk hl hc (x.cell n c hc) fun h' hc' hs'=>wpAny_pure (Ba f hf hk r m (fun y=>if y=n then some v else cm y) _ Q ⟨⟨?_,x.toInCall.ns.sameBut hs' (Nat.ne_of_lt hLc),fun b o e=>?_,x.toInCall.fresh⟩,fun k c' hk'=>?_,x.apart,x.above⟩ ?_ hr fun s'' x''=>h s'' ?_)))
      . obtain ⟨h₁,tk,rfl⟩:=x.toInCall.same;exact ⟨h',_,rfl⟩
      . exact hs'.extBut b o (Nat.ne_of_lt (Nat.lt_trans (Nat.lt_of_lt_of_le (Heap.lt_size e) x.toInCall.fresh) hLc)) (x.toInCall.keep b o e)
      . by_cases hkn:k=n
        . subst hkn;rw [hc] at hk';cases hk';simpa using hc'
        . rw [if_neg hkn];exact (x.cell k c' hk').sameBut hs' fun e=>hkn (name_of_addr x.apart (mem_of_lookup hk') (e▸mem_of_lookup hc))
      . obtain ⟨o,e,d⟩:=d;exact ⟨o,(hs'.2 _ (Nat.ne_of_lt hLc)).trans e,d⟩
      . unfold bindL bindC;rw [if_neg hnl,if_neg hnl];exact x''
theorem DP {M:Model} {E:Value->Shared->Prop} {s:Shared} {scope:Scope} {globals:Addr} {binds:List (Str×Value)} {qual:Str} {func:Option Addr} {code:Value} {builtins:Addr} {Q:Env->Shared->Prop}
    (hk:scope.kind=.function) (hkind:∀x∈binds,scope.names.lookup x.1=some .local∨scope.names.lookup x.1=some .cell)
    (hQ:∀env,env=newEnv scope s.heap.objs.size globals (cellsFrom (s.heap.objs.size+1) scope.names []) qual func code none builtins->
      ∀s',InCallC s env.locals (bindL env.kindOf binds fun _=>none) env.cells (bindC env.kindOf binds fun _=>none) s'->HdAt s'.heap env.locals->Q env s') :
    wpAny M A (newFunctionEnv scope globals [] binds qual func code none builtins) Q E s:=by
  simp only [newFunctionEnv,Option.isSome_none,Bool.false_eq_true,if_false];refine wpAny_bind (wpAny_alloc ?_);refine wpAny_bind (wpAny_layCells _ (fun name kind cells=>by cases hkc:kind==NameKind.cell<;>simp [hkc]) _ _ _ _ ?_)
  have ok:=cellsFrom_ok scope.names (s.heap.push { cls:=.type "frame",data:=.dict #[] }) (s.heap.objs.size+1) [] ⟨fun _ _ hm=>(nomatch hm),List.Pairwise.nil⟩ (by rw [Heap.size_push];exact Nat.le_refl _)
  rw [Heap.size_push] at ok;rw [show ({ s with heap:=s.heap.push { cls:=.type "frame",data:=.dict #[] } }:Shared).heap.objs.size=s.heap.objs.size+1 from Heap.size_push ..]
  refine wpAny_bind (Ba (s₀:=s) (env:=newEnv scope s.heap.objs.size globals (cellsFrom (s.heap.objs.size+1) scope.names []) qual func code none builtins)
    _ (fun _ _ _=>rfl) hk binds (fun _=>none) (fun _=>none) _ _
    ⟨⟨⟨_,_,rfl⟩,(Heap.Ns.new s.heap (.type "frame")).keeps (pushCells_keeps _ _),fun b o e=>pushCells_keeps _ _ b o (Heap.get?_push_of_some _ e),Nat.le_refl _⟩,
      fun n c hc=>(ok.empty n c (mem_of_lookup hc)).1,ok.apart,fun n c hm=>(ok.empty n c hm).2⟩
    ⟨_,pushCells_keeps _ _ _ _ (Heap.get?_push_size _ rfl),#[],0,rfl,.inr (by show (Value.type "frame")≠Value.type "dict";simp)⟩
    (fun x hx=>(hkind x hx).imp id fun h=>⟨h,cellsFrom_some _ _ _ (.inl h)⟩) fun s' x d=>wpAny_pure (hQ _ rfl s' x d))
theorem Dn {r:List (Str×Value)} {n x:Str} {v:Value}:((n,v)::r).reverse.lookup x=(r.reverse.lookup x).or (if x=n then some v else none):=by
  rw [List.reverse_cons,List.lookup_append]
  congr 1
  rw [List.lookup_cons,List.lookup_nil]
  by_cases h:x=n
  . subst h;simp
  . rw [if_neg h,beq_eq_false_iff_ne.mpr h]
theorem EC {kf:Str->Option NameKind} {x:Str} (hx:kf x=some .local):∀(binds:List (Str×Value)) (m:Str->Option Value),bindL kf binds m x=(binds.reverse.lookup x).or (m x)
  | [],m=>rfl
  | (n,v)::r,m=>by
    unfold bindL;rw [EC hx r,Dn]
    by_cases h:x=n
    . subst h;rw [if_pos hx,if_pos rfl,if_pos rfl];cases r.reverse.lookup x<;>rfl
    . rw [if_neg h]
      have:(if kf n=some .local then (fun y=>if y=n then some v else m y) else m) x=m x:=by split<;>first | exact if_neg h | rfl
      rw [this];cases r.reverse.lookup x<;>rfl
theorem ED {kf:Str->Option NameKind} {x:Str} (hx:kf x=some .cell):∀(binds:List (Str×Value)) (m:Str->Option Value),bindC kf binds m x=(binds.reverse.lookup x).or (m x)
  | [],m=>rfl
  | (n,v)::r,m=>by
    unfold bindC;rw [ED hx r,Dn]
    by_cases h:x=n
    . subst h;rw [if_neg (by rw [hx];decide),if_pos rfl,if_pos rfl];cases r.reverse.lookup x<;>rfl
    . rw [if_neg h]
      have:(if kf n=some .local then m else fun y=>if y=n then some v else m y) x=m x:=by split<;>first | exact if_neg h | rfl
      rw [this];cases r.reverse.lookup x<;>rfl
theorem Dp (TK:TabOk prog w K hO T) {f:Addr} {fd:FuncData} {body:List Stmt} (D:DefAt K f fd body) {cs:List Value} {ks:List (Str×Value)} {binds:List (Str×Value)} {ρ:L} (hh:A.handled=none) (hdep:A.depth+1+2 * n+51 < recursionLimit) (hun:A.units+3+20 * n+710 < cLine) (r:Rel w.params hO σ μ s.heap) (hg:Gk A μ s)
    (hb:BindsTo s fd ⟨cs,ks⟩ binds) (hloc:∀y∈binds,fd.scope.names.lookup y.1=some .local∨fd.scope.names.lookup y.1=some .cell) (hρ:∀x v,lk ρ x=some v->∃c,binds.reverse.lookup (Str.ofString x)=some c/\VR w.params s.heap μ v c/\(fd.scope.names.lookup (Str.ofString x)=some .local∨fd.scope.names.lookup (Str.ofString x)=some .cell)) {R:Result->Shared->Prop}
    (h:∀env0 m0 h₁ tk as,env0.scope=fd.scope->env0.frame=some s.heap.objs.size->s.toks<=tk->Bud (A.deeper env0) n->Cx (A.deeper env0) w hO env0 (μ.hid as) { s with heap:=h₁,toks:=tk } σ ρ m0->Base μ s (μ.hid as) { s with heap:=h₁,toks:=tk }->Young env0 s->
      wpAny (model prog w) (A.deeper env0) (execs body env0) (fun f s'=>R (.ok (.ret (match f with | .ret v=>v | _=>.none))) s')
        (fun e s'=>wpAny (model prog w) (A.deeper env0) (leaving env0 e) (fun _ s''=>R (.error e) s'') (fun e' s''=>R (.error e') s'') s') { s with heap:=h₁,toks:=tk }):codeAny (model prog w) A (.call (.ref f) ⟨cs,ks⟩) R s:=by
  have X:=r.X TK;obtain ⟨oc,od,osl,hf⟩:=D.at_;have hlim:=TK.nolimit.keeps r.keep;have hcd:=codeRec_of X D.code;refine codeAny_call_function (show A.depth < recursionLimit by omega) (X _ _ hf) rfl D.co D.gen D.body hcd (hb _ _ _ _ ?_)
  rw [D.clo];refine Ah (DP D.kind hloc fun env0 he s' x d htk=>?_)
  have hL:env0.locals=s.heap.objs.size:=by rw [he];rfl
  have hsc:env0.scope=fd.scope:=by rw [he];rfl
  have hcells:env0.cells=cellsFrom (s.heap.objs.size+1) fd.scope.names []:=by rw [he];rfl
  have hfr:env0.frame=some s.heap.objs.size:=by rw [he];rfl
  obtain ⟨h₁,tk,hs',hk⟩:=x.done;subst hs';refine ⟨hlim.keeps hk,codeAny_func ?_⟩
  have none1:∀a:Nat,s.heap.objs.size<=a->s.heap.get? a=none:=fun a ha=>by
    cases e:s.heap.get? a with
    | none=>rfl
    | some ob=>exact absurd (Heap.lt_size e) (Nat.not_lt.mpr ha)
  have above:∀q∈env0.cells,s.heap.objs.size < q.2:=fun q hq=>hL▸x.above q.1 q.2 hq
  have cval:∀q∈env0.cells,∃v,h₁.IsCell q.2 v:=fun q hq=>⟨_,x.cell q.1 q.2 (by rw [hcells] at hq ⊢;exact lookup_of_mem_nodup (cellsFrom_names fd.scope.names 0 (s.heap.objs.size+1) [] [] rfl▸D.nd) hq)⟩
  have allN:∀a∈env0.locals::env0.cells.map (·.2),s.heap.objs.size<=a/\∃o,h₁.get? a=some o:=fun a ha=>by
    rcases List.mem_cons.mp ha with rfl | ha
    . exact ⟨Nat.le_of_eq hL.symm,let ⟨o,e,_⟩:=d;⟨o,e⟩⟩
    . obtain ⟨q,hq,rfl⟩:=List.mem_map.mp ha;exact ⟨Nat.le_of_lt (above q hq),let ⟨v,o,e,_⟩:=cval q hq;⟨o,e⟩⟩
  have hnd:(env0.locals::env0.cells.map (·.2)).Nodup:=List.nodup_cons.mpr ⟨fun hm=>by
      obtain ⟨q,hq,e⟩:=List.mem_map.mp hm;exact Nat.lt_irrefl _ (hL▸e▸above q hq),List.pairwise_map.mpr x.apart⟩
  obtain ⟨rL,kpL⟩:=r.hideL hk allN hnd
  have hff:FF (A.deeper env0) (μ.hid (env0.locals::env0.cells.map (·.2))) h₁:=by
    obtain ⟨l,h1,h2⟩:=hg.ff;refine ⟨_,Around.frames_deeper h1,fun env he=>?_⟩
    rcases List.mem_cons.mp he with rfl | he
    . exact ⟨by rw [hsc,D.kind];decide,_,hfr,by rw [<- hL];exact List.mem_cons_self,hL▸d⟩
    . obtain ⟨h3,L,h4,h5,o,h6,h7⟩:=h2 env he;exact ⟨h3,L,h4,List.mem_append_right _ h5,o,hk _ _ h6,h7⟩
  have offp:∀a∈env0.locals::env0.cells.map (·.2),a∉pcells μ:=fun a ha q=>absurd (r.cell_lt (List.mem_append_left _ q)) (Nat.not_lt.mpr (allN a ha).1)
  refine h env0 _ h₁ tk _ hsc hfr htk ⟨hh,hdep,hun⟩ ⟨rL,⟨by rw [hsc];exact D.kind,by rw [he];exact D.glob,by rw [he];exact D.blt,x.toInCall.ns,⟨List.mem_cons_self,offp _ List.mem_cons_self⟩,fun q hq=>?_,x.apart,fun y hy=>?_,fun y v e=>?_⟩,⟨hg.gens,Nat.lt_of_lt_of_le hg.toks htk,hff⟩,fun _=>hg.ff.elim fun l z=>⟨l,Around.frames_deeper z.1⟩⟩
    ⟨⟨⟨[],by simp [Mu.hid],by simp⟩,fun b o _ e=>.inl (hk b o e),rfl,rfl⟩,fun b hb=>(List.mem_append.mp hb).elim (fun q=>.inr (none1 _ (allN b q).1)) .inl⟩ ⟨none1 _ (Nat.le_of_eq hL.symm),fun q hq=>none1 _ (Nat.le_of_lt (above q hq)),by rw [he];rfl⟩
  . have hm:q.2∈env0.locals::env0.cells.map (·.2):=List.mem_cons_of_mem _ (List.mem_map.mpr ⟨q,hq,rfl⟩);exact ⟨List.mem_append_left _ hm,offp _ hm,by rw [hL];exact Nat.ne_of_gt (above q hq),cval q hq⟩
  . rw [hsc] at hy;rw [hcells];exact Option.isSome_iff_exists.mp (cellsFrom_some _ _ _ (.inl hy))
  . obtain ⟨c,h1,h2,h3⟩:=hρ y v e;refine ⟨c,?_,h2.kp kpL⟩;rcases h3 with h3 | h3
    . have h4:env0.kindOf (Str.ofString y)=some .local:=by show env0.scope.names.lookup _=_;rw [hsc];exact h3
      exact .inl ⟨h4,by rw [EC h4,h1];rfl⟩
    . have h4:env0.kindOf (Str.ofString y)=some .cell:=by show env0.scope.names.lookup _=_;rw [hsc];exact h3
      obtain ⟨a,ha⟩:=Option.isSome_iff_exists.mp (cellsFrom_some (x:=Str.ofString y) fd.scope.names (s.heap.objs.size+1) [] (.inl h3));rw [<- hcells] at ha;exact .inr ⟨.inl h4,a,ha,by have:=x.cell _ _ ha;rw [ED h4,h1] at this;exact this⟩
theorem def_ok (TK:TabOk prog w K hO T) (CO:CallsOk prog w hO C n) (LO:LpxOk prog w hO T n) (KE:KeOk hO) {f:Addr} {fd:FuncData} {body:List Stmt} {ms:MS} (D:DefAt K f fd body) (ck:ckB fd.scope ms body=true) {cs:List Value} {ks:List (Str×Value)} {binds:List (Str×Value)} {ρ:L} {keep:Bool}
    (hh:A.handled=none) (hdep:A.depth+2 * (n+1)+50 < recursionLimit) (hun:A.units+20 * (n+1)+700 < cLine) (r:Rel w.params hO σ μ s.heap) (hg:Gk A μ s)
    (hb:BindsTo s fd ⟨cs,ks⟩ binds) (hloc:∀y∈binds,fd.scope.names.lookup y.1=some .local∨fd.scope.names.lookup y.1=some .cell) (hρ:∀x v,lk ρ x=some v->∃c,binds.reverse.lookup (Str.ofString x)=some c/\VR w.params s.heap μ v c/\(fd.scope.names.lookup (Str.ofString x)=some .local∨fd.scope.names.lookup (Str.ofString x)=some .cell))
    (e:fcall T C N keep ms ρ σ=some (v,σ')):OkC prog w hO A (.call (.ref f) ⟨cs,ks⟩) μ s v σ':=by
  refine OkC.mk fun R k=>?_
  refine Dp (n:=n) TK D hh (by omega) (by omega) r hg hb hloc hρ fun env0 m0 h₁ tk as hsc hfr htk B XL st0 yg=>?_
  unfold fcall at e;obtain ⟨fl,e1,e⟩:=Option.bind_eq_some_iff.mp e;have e1':ex T C N μ.ps.length ms ρ σ=some fl:=by rw [r.len];exact e1
  have fin:∀(v0:V) (c:Value) (σ0:St) (s':Shared) (μ':Mu),μ'.ex=as++μ.ex->Rel w.params hO σ0 μ' s'.heap->VR w.params s'.heap μ' v0 c->Base μ s μ' s'->
      (if keep then (v0,σ0) else (frz σ0 σ.length 6 v0,gcS σ.length σ0))=(v,σ')->R (.ok (.ret c)) s':=by
    intro v0 c σ0 s' μ' hex rr vv st hkeep;have st:=st.st;obtain ⟨ps,ex'⟩:=μ';have hex:ex'=as++μ.ex:=hex;subst hex;have rk:=Rel.unhideL rr;have rr2:Rel w.params hO σ0 ⟨ps,μ.ex⟩ s'.heap:=rk.1;have vv2:VR w.params s'.heap ⟨ps,μ.ex⟩ v0 c:=vv.kp rk.2;cases keep with
    | true=>
      simp only [if_true] at hkeep;cases hkeep;exact k c s' _ st rr2 vv2
    | false=>
      simp only [Bool.false_eq_true,if_false] at hkeep;cases hkeep;obtain ⟨ν,hps,h1⟩:=st.ext;have hps:ps=μ.ps++ν:=congrArg Mu.ps hps
      have hcut:(⟨ps,μ.ex⟩:Mu).cut σ.length=μ:=by
        unfold Mu.cut;rw [hps,<- r.len,List.take_left'];rfl
      have r3:=rr2.cut σ.length;have v3:=BZ (n:=σ.length) rr2 6 v0 c vv2;rw [hcut] at r3 v3;exact k c s' μ ⟨⟨[],by simp,by simp⟩,st.keep,st.gens,st.os⟩ r3 v3
  refine (Cj (N:=N) TK CO LO KE ms).bo (μb:=μ) (sb:=s) (hsc▸ck) e1' B XL st0 yg _ _ ?_
  cases fl with
  | next ρ1 σ1=>
    dsimp only at e;injection e with e
    intro s' μ' m' hex kq Xe st;refine fin .none .none σ1 s' μ' hex Xe.r rfl st ?_
    rw [<- e];cases keep<;>rfl
  | brk ρ1 σ1=>cases e
  | ret v1 σ1=>
    dsimp only at e;injection e with e
    intro c s' μ' hex kq re ve ge st;exact fin v1 c σ1 s' μ' hex re ve st e
theorem Fq (TK:TabOk prog w K hO T) (CO:CallsOk prog w hO C n) (LO:LpxOk prog w hO T n) (KE:KeOk hO) {f:Addr} {fd:FuncData} {x1 x2:Stmt} {y:Str} {xs:List Expr} {p1 p3 p4:Pos} {m1 m2:MS} {es:ME} (D:DefAt K f fd [x1,x2,.Raise (some (.Call (.Name y p1) xs [] p3)) none p4])
    (ck1:ckS fd.scope m1 x1=true) (ck2:ckS fd.scope m2 x2=true) (hy:ckG fd.scope "KeyError" y=true) (hl:ckL fd.scope es xs=true) {cs:List Value} {ks:List (Str×Value)} {binds:List (Str×Value)} {ρ ρ1 ρ2:L} {vs:List V}
    (hh:A.handled=none) (hdep:A.depth+1+2 * n+51 < recursionLimit) (hun:A.units+3+20 * n+710 < cLine) (r:Rel w.params hO σ μ s.heap) (hg:Gk A μ s)
    (hb:BindsTo s fd ⟨cs,ks⟩ binds) (hloc:∀y∈binds,fd.scope.names.lookup y.1=some .local∨fd.scope.names.lookup y.1=some .cell) (hρ:∀x v,lk ρ x=some v->∃c,binds.reverse.lookup (Str.ofString x)=some c/\VR w.params s.heap μ v c/\(fd.scope.names.lookup (Str.ofString x)=some .local∨fd.scope.names.lookup (Str.ofString x)=some .cell))
    (e1:ex T C N σ.length m1 ρ σ=some (.next ρ1 σ)) (e2:ex T C N σ.length m2 ρ1 σ=some (.next ρ2 σ)) (e3:evs T C es ρ2 σ=some (vs,σ)) (hv:vs.length<=10) {R:Result->Shared->Prop} (k:Out w hO A σ μ s fun e s'=>R (.error e) s') :
    codeAny (model prog w) A (.call (.ref f) ⟨cs,ks⟩) R s:=by
  refine Bp (Dp (n:=n) TK D hh hdep hun r hg hb hloc hρ fun env0 m0 h₁ tk as hsc hfr htk B XL st0 yg=>?_)
  rw [<- r.len] at e1 e2;refine wpAny_execs_cons ((Cj (N:=N) TK CO LO KE m1).so (μb:=μ) (sb:=s) (hsc▸ck1) e1 B XL st0 yg _ _ fun s1 μ1 m1' hex1 kq1 X1 st1=>?_)
  refine wpAny_execs_cons ((Cj (N:=N) TK CO LO KE m2).so (μb:=μ) (sb:=s) (hsc▸ck2) e2 B X1 st1 yg _ _ fun s2 μ2 m2' hex2 kq2 X2 st2=>?_)
  refine wpAny_execs_cons (raise_ke KE (Aa TK CO es).evs (hsc▸hy) (hsc▸hl) e3 hv B X2 fun s3 μ3 h' e st3 r3 tk3 hx=>?_)
  have X3:=X2.step st3 r3 tk3;have st3':=st2.on st3;have hex3:μ3.ex=as++μ.ex:=st3.ex.trans (hex2.trans hex1)
  have hps:μ3.ps=μ.ps:=by
    obtain ⟨ν,q,_⟩:=st3'.st.ext;have q:μ3.ps=μ.ps++ν:=congrArg Mu.ps q
    have:=X3.r.len
    rw [q,List.length_append,r.len] at this
    have:ν=[]:=List.length_eq_zero_iff.mp (by omega)
    rw [q,this,List.append_nil]
  have hμ:μ3=μ.hid as:=by
    obtain ⟨a,b⟩:=μ3;have hps:a=μ.ps:=hps;have hex3:b=as++μ.ex:=hex3;rw [hps,hex3];rfl
  subst hμ;obtain ⟨l,hl1,hl2⟩:=hg.ff;have hd:(A.deeper env0).frames=some (env0::l):=Around.frames_deeper hl1;obtain ⟨l',hl3,hl4⟩:=X3.g.ff;rw [hd] at hl3;cases hl3;obtain ⟨ob,t,he,hcls,hdt⟩:=hx.there;have stays:(hideAll s3.heap ((env0::l).filterMap (·.frame))).StaysIn h':=fun b o q=>hx.keeps b o (of_hideAll _ q)
  have hen:(hideAll s3.heap ((env0::l).filterMap (·.frame))).get? e=none:=by
    cases q:(hideAll s3.heap ((env0::l).filterMap (·.frame))).get? e with
    | none=>rfl
    | some o=>have:=of_hideAll _ q;rw [hx.new] at this;cases this
  have hfun:=fun_of (h:=s3.heap) (as:=(env0::l).filterMap (·.frame)) (l:=env0::l) (fun env he=>let ⟨a,L,b,_,c⟩:=hl4 env he;⟨a,L,b,c⟩) fun env he a ha=>List.mem_filterMap.mpr ⟨env,he,ha⟩
  have hupk:s3.heap.UpToSlots h':=Heap.UpToSlots.of_keeps hx.keeps;refine wpAny_leaving_firstW (s:={ s3 with heap:=h' }) hd (hfun.of_keeps fun b o hb _=>⟨o,hx.keeps b o hb,rfl⟩) hfr he stays hen hdt rfl rfl fun h2 hL=>?_
  rw [hcls] at hL;obtain ⟨w1,⟨_,_,w2⟩,w3,w4⟩:=hL;refine k l _ _ e _ hl1 ⟨w1,hen,w2,w3⟩ fun s4 g4 o4 b4 u4=>?_
  have z:=fly_step (h':=s4.heap) (tk:=s4.toks) X3.r X3.g.ff hd (base:=hideAll s3.heap ((env0::l).filterMap (·.frame))) (fun b o q hq=>hideAll_get _ q fun hm=>by
    obtain ⟨env,he,hf⟩:=List.mem_filterMap.mp hm;exact hq env he hf) b4 ((hupk.trans w4).trans u4)
  have zz:=(st3'.on z.1).st;exact ⟨⟨zz.ext,zz.keep,g4.trans zz.gens,o4.trans zz.os⟩,(Rel.unhideL z.2).1⟩
end
noncomputable def fdOf (K:Frag) (f:Addr):Option FuncData:=match K.lookup f with
  | some ⟨_,_,.func fd,_⟩=>some fd
  | _=>none
noncomputable def fdCk (K:Frag) (g:Scope->List Stmt->Bool) (fd:FuncData):Bool:=match fd.body with
  | .stmts b=>g fd.scope b&&fd.globals==mainGlobals&&fd.builtins==builtinsNs&&fd.closure.isEmpty&&codeIn K fd.code fd.qualname&&fd.scope.kind==.function&&!fd.scope.isCoroutine&&!fd.scope.isGenerator&&nd ((cellsFrom 0 fd.scope.names []).map (·.1))
  | _=>false
noncomputable def defG (K:Frag) (f:Addr) (g:Scope->List Stmt->Bool):Bool:=match fdOf K f with
  | some fd=>fdCk K g fd
  | none=>false
noncomputable def defCk (K:Frag) (f:Addr) (ms:MS):Bool:=defG K f fun sc b=>ckB sc ms b
noncomputable def rz (x:Stmt) (k:Expr->Bool):Bool:=match x with
  | .Raise o c _=>match o with
    | none=>false
    | some e=>match c with
      | some _=>false
      | none=>k e
  | _=>false
@[elab_as_elim] theorem rz_inv {P:Stmt->Prop} {x:Stmt} {k:Expr->Bool} (h:rz x k=true) (t:∀e p,k e=true->P (.Raise (some e) none p)):P x:=by
  cases x with
  | Raise o c p=>cases o with
    | none=>exact nt h
    | some e=>cases c with
      | some _=>exact nt h
      | none=>exact t e p h
  | _=>exact nt h
noncomputable def lpCk (m1 m2:MS) (es:ME) (sc:Scope) (b:List Stmt):Bool:=lc b fun x1 r=>lc r fun x2 r=>l1 r fun x3=>ckS sc m1 x1&&(ckS sc m2 x2&&rz x3 fun e=>xF e fun f xs kws _=>xN f (ckG sc "KeyError")&&(emp kws&&ckL sc es xs))
theorem lpCk_inv {P:List Stmt->Prop} {m1 m2:MS} {es:ME} {sc:Scope} {b:List Stmt} (h:lpCk m1 m2 es sc b=true) (t:∀x1 x2 y xs p1 p3 p4,ckS sc m1 x1=true->ckS sc m2 x2=true->ckG sc "KeyError" y=true->ckL sc es xs=true->P [x1,x2,.Raise (some (.Call (.Name y p1) xs [] p3)) none p4]):P b:=
  AK (h:lc b _=true) fun x1 r h=>AK h fun x2 r h=>AU h fun x3 h=>rz_inv (P:=fun x3=>P [x1,x2,x3]) (aR (aR h)) fun e p4 h3=>Az (P:=fun e=>P [x1,x2,.Raise (some e) none p4]) h3 fun f xs kws p3 h3=>
    Ai (P:=fun f=>P [x1,x2,.Raise (some (.Call f xs kws p3)) none p4]) (aL h3) fun y p1 hy=>Al (P:=fun kws=>P [x1,x2,.Raise (some (.Call (.Name y p1) xs kws p3)) none p4]) (aL (aR h3)) (t x1 x2 y xs p1 p3 p4 (aL h) (aL (aR h)) hy (aR (aR h3)))
theorem G3 {K:Frag} {f:Addr} {g:Scope->List Stmt->Bool} (h:defG K f g=true):∃fd body,fdOf K f=some fd/\DefAt K f fd body/\g fd.scope body=true:=by
  unfold defG at h;split at h
  . rename_i fd hfd
    have hl:∃oc od osl,K.lookup f=some ⟨oc,od,.func fd,osl⟩:=by
      unfold fdOf at hfd;split at hfd
      . rename_i q;cases hfd;exact ⟨_,_,_,q⟩
      . cases hfd
    unfold fdCk at h;split at h
    . rename_i b hb;simp only [Bool.and_eq_true,beq_iff_eq,Bool.not_eq_true',List.isEmpty_iff] at h;obtain ⟨⟨⟨⟨⟨⟨⟨⟨h1,h2⟩,h3⟩,h4⟩,h5⟩,h6⟩,h7⟩,h8⟩,h9⟩:=h;exact ⟨fd,b,hfd,⟨hl,hb,h2,h3,h4,h5,h6,h7,h8,nd_ok h9⟩,h1⟩
    . cases h
  . cases h
end Mine
end
section
set_option maxRecDepth 100000
namespace Mine
noncomputable def errB:MS:=(.cons (.ifs (.cal "_is_invalid" (.cons (.bui "ord" (.cons (.loc "c") .nil)) .nil)) (.cons (.expr (.met (.attr (.loc "self") "errors") "append" (.cons (.cst (.str [105,110,118,97,108,105,100,45,99,111,100,101,112,111,105,110,116])) .nil) [] .nil)) .nil) .nil) .nil)
noncomputable def rdG:MS:=(.ifs (.cmp .Gt (.bui "len" (.cons (.loc "data") .nil)) (.cst (.int 1))) (.cons (.asg (.loc "lastv") (.bui "ord" (.cons (.sub (.loc "data") (.neg (.cst (.int 1)))) .nil))) (.cons (.ifs (.boo .Or (.cons (.cmp .Eq (.loc "lastv") (.cst (.int 13))) (.cons (.cmp2 .LtE .LtE (.cst (.int 55296)) (.loc "lastv") (.cst (.int 56319))) .nil))) (.cons (.asg (.attr (.loc "self") "_bufferedCharacter") (.sub (.loc "data") (.neg (.cst (.int 1))))) (.cons (.asg (.loc "data") (.slc (.loc "data") (.cst .none) (.neg (.cst (.int 1))))) .nil)) .nil) .nil)) .nil)
noncomputable def rdT:MS:=(.cons (.ifs (.attr (.loc "self") "reportCharacterErrors") (.cons (.expr (.met (.loc "self") "reportCharacterErrors" (.cons (.loc "data") .nil) [] .nil)) .nil) .nil) (.cons (.asg (.loc "data") (.rep (.loc "data") [13,10] [10])) (.cons (.asg (.loc "data") (.rep (.loc "data") [13] [10])) (.cons (.asg (.attr (.loc "self") "chunk") (.loc "data")) (.cons (.asg (.attr (.loc "self") "chunkSize") (.bui "len" (.cons (.loc "data") .nil))) (.cons (.ret (.cst (.bool true))) .nil))))))
noncomputable def rdS:MS:=(.ifs (.attr (.loc "self") "_bufferedCharacter") (.cons (.asg (.loc "data") (.bin false .Add (.attr (.loc "self") "_bufferedCharacter") (.loc "data"))) (.cons (.asg (.attr (.loc "self") "_bufferedCharacter") (.cst .none)) .nil)) (.cons (.ifs (.not (.loc "data")) (.cons (.ret (.cst (.bool false))) .nil) .nil) .nil))
noncomputable def cuC:ME:=.boo .And (.cons (.cmp .NotEq (.loc "end") (.attr (.loc "self") "chunkSize")) (.cons (.cmp .Eq (.cmp .In (.sub (.attr (.loc "self") "chunk") (.loc "end")) (.loc "characters")) (.loc "opposite")) .nil))
noncomputable def cuW:MS:=.cons (.aug (.loc "end") .Add (.cst (.int 1))) .nil
noncomputable def cuJ:MS:=(.cons (.ifs (.cmp .NotEq (.attr (.loc "self") "chunkOffset") (.attr (.loc "self") "chunkSize")) (.cons .brk .nil) .nil) .nil)
noncomputable def cuK:MS:=(.cons (.ifs (.cmp .NotEq (.loc "end") (.attr (.loc "self") "chunkSize")) (.cons (.expr (.met (.loc "rv") "append" (.cons (.slc (.attr (.loc "self") "chunk") (.attr (.loc "self") "chunkOffset") (.loc "end")) .nil) [] .nil)) (.cons (.asg (.attr (.loc "self") "chunkOffset") (.loc "end")) (.cons .brk .nil))) .nil) .nil)
noncomputable def cuT:MS:=(.cons (.expr (.met (.loc "rv") "append" (.cons (.slc (.attr (.loc "self") "chunk") (.attr (.loc "self") "chunkOffset") (.cst .none)) .nil) [] .nil)) (.cons (.ifs (.not (.met (.loc "self") "readChunk" .nil [] .nil)) (.cons .brk .nil) .nil) .nil))
noncomputable def cuA:MS:=(.cons (.asg (.loc "end") (.attr (.loc "self") "chunkOffset")) (.cons (.whl cuC cuW) (.cons (.ifs (.cmp .Eq (.loc "end") (.attr (.loc "self") "chunkOffset")) cuJ cuK) cuT)))
noncomputable def biC:ME:=.cmp .Lt (.loc "low") (.loc "high")
noncomputable def biB:MS:=(.cons (.asg (.loc "middle") (.bin false .FloorDiv (.bin false .Add (.loc "low") (.loc "high")) (.cst (.int 2)))) (.cons (.ifs (.cmp .Lt (.sub (.loc "rows") (.loc "middle")) (.loc "key")) (.cons (.asg (.loc "low") (.bin false .Add (.loc "middle") (.cst (.int 1)))) .nil) (.cons (.asg (.loc "high") (.loc "middle")) .nil)) .nil))
noncomputable def lpA:MS:=.ifs (.has (.loc "prefix") (.loc "self")) (.cons (.ret (.loc "prefix")) .nil) .nil
noncomputable def lpS:ME:=.slc (.loc "prefix") (.cst .none) (.neg (.loc "i"))
noncomputable def lpW:MS:=.cons (.ifs (.has lpS (.loc "self")) (.cons (.ret lpS) .nil) .nil) .nil
noncomputable def lpR:ME:=.bui "range" (.cons (.cst (.int 1)) (.cons (.bin false .Add (.bui "len" (.cons (.loc "prefix") .nil)) (.cst (.int 1))) .nil))
noncomputable def lpB:MS:=.fors (.loc "i") lpR lpW
noncomputable def eFin:MS:=(.ifs (.loc "fromAttribute") (.cons (.aug (.sub (.sub (.sub (.attr (.loc "self") "currentToken") (.cst (.str [100,97,116,97]))) (.neg (.cst (.int 1)))) (.cst (.int 1))) .Add (.loc "output")) .nil) (.cons (.ifs (.cmp .In (.loc "output") (.glo "spaceCharacters")) (.cons (.asg (.loc "tokenType") (.cst (.str [83,112,97,99,101,67,104,97,114,97,99,116,101,114,115]))) .nil) (.cons (.asg (.loc "tokenType") (.cst (.str [67,104,97,114,97,99,116,101,114,115]))) .nil)) (.cons (.expr (.met (.attr (.loc "self") "tokenQueue") "append" (.cons (.dct false [[116,121,112,101],[100,97,116,97]] (.cons (.sub (.glo "tokenTypes") (.loc "tokenType")) (.cons (.loc "output") .nil))) .nil) [] .nil)) .nil)))
noncomputable def eCond:ME:=(.boo .Or (.cons (.cmp .In (.sub (.loc "charStack") (.cst (.int 0))) (.glo "spaceCharacters")) (.cons (.cmp .In (.sub (.loc "charStack") (.cst (.int 0))) (.tup (.cons (.glo "EOF") (.cons (.cst (.str [60])) (.cons (.cst (.str [38])) .nil))))) (.cons (.boo .And (.cons (.cmp .IsNot (.loc "allowedChar") (.cst .none)) (.cons (.cmp .Eq (.loc "allowedChar") (.sub (.loc "charStack") (.cst (.int 0)))) .nil))) .nil))))
noncomputable def eW:MS:=(.cons (.ifs (.not (.met (.glo "entitiesTrie") "has_keys_with_prefix" (.cons (.met (.cst (.str [])) "join" (.cons (.loc "charStack") .nil) [] .nil) .nil) [] .nil)) (.cons .brk .nil) .nil) (.cons (.expr (.met (.loc "charStack") "append" (.cons (.met (.attr (.loc "self") "stream") "char" .nil [] .nil) .nil) [] .nil)) .nil))
noncomputable def eWc:ME:=(.cmp .IsNot (.sub (.loc "charStack") (.neg (.cst (.int 1)))) (.glo "EOF"))
noncomputable def sNam:List Nat:=[101,120,112,101,99,116,101,100,45,110,97,109,101,100,45,101,110,116,105,116,121]
noncomputable def sNwo:List Nat:=[110,97,109,101,100,45,101,110,116,105,116,121,45,119,105,116,104,111,117,116,45,115,101,109,105,99,111,108,111,110]
noncomputable def eTlp:MS:=(.tlp "entityName" (.glo "entitiesTrie") "longest_prefix" (.cons (.met (.cst (.str [])) "join" (.cons (.slc (.loc "charStack") (.cst .none) (.neg (.cst (.int 1)))) .nil) [] .nil) .nil) (.cons (.asg (.loc "entityLength") (.bui "len" (.cons (.loc "entityName") .nil))) .nil) "entityName")
noncomputable def eElse:MS:=(.cons (.expr (.met (.attr (.loc "self") "tokenQueue") "append" (.cons (.dct false [[116,121,112,101],[100,97,116,97]] (.cons (.sub (.glo "tokenTypes") (.cst (.str [80,97,114,115,101,69,114,114,111,114]))) (.cons (.cst (.str [101,120,112,101,99,116,101,100,45,110,97,109,101,100,45,101,110,116,105,116,121])) .nil))) .nil) [] .nil)) (.cons (.expr (.met (.attr (.loc "self") "stream") "unget" (.cons (.met (.loc "charStack") "pop" .nil [] .nil) .nil) [] .nil)) (.cons (.asg (.loc "output") (.bin false .Add (.cst (.str [38])) (.met (.cst (.str [])) "join" (.cons (.loc "charStack") .nil) [] .nil))) .nil)))
noncomputable def eIf1:MS:=(.ifs (.cmp .NotEq (.sub (.loc "entityName") (.neg (.cst (.int 1)))) (.cst (.str [59]))) (.cons (.expr (.met (.attr (.loc "self") "tokenQueue") "append" (.cons (.dct false [[116,121,112,101],[100,97,116,97]] (.cons (.sub (.glo "tokenTypes") (.cst (.str [80,97,114,115,101,69,114,114,111,114]))) (.cons (.cst (.str [110,97,109,101,100,45,101,110,116,105,116,121,45,119,105,116,104,111,117,116,45,115,101,109,105,99,111,108,111,110])) .nil))) .nil) [] .nil)) .nil) .nil)
noncomputable def eC2:ME:=(.boo .And (.cons (.cmp .NotEq (.sub (.loc "entityName") (.neg (.cst (.int 1)))) (.cst (.str [59]))) (.cons (.loc "fromAttribute") (.cons (.boo .Or (.cons (.cmp .In (.sub (.loc "charStack") (.loc "entityLength")) (.glo "asciiLetters")) (.cons (.cmp .In (.sub (.loc "charStack") (.loc "entityLength")) (.glo "digits")) (.cons (.cmp .Eq (.sub (.loc "charStack") (.loc "entityLength")) (.cst (.str [61]))) .nil)))) .nil))))
noncomputable def eA2:MS:=(.cons (.expr (.met (.attr (.loc "self") "stream") "unget" (.cons (.met (.loc "charStack") "pop" .nil [] .nil) .nil) [] .nil)) (.cons (.asg (.loc "output") (.bin false .Add (.cst (.str [38])) (.met (.cst (.str [])) "join" (.cons (.loc "charStack") .nil) [] .nil))) .nil))
noncomputable def eB2:MS:=(.cons (.asg (.loc "output") (.sub (.glo "entities") (.loc "entityName"))) (.cons (.expr (.met (.attr (.loc "self") "stream") "unget" (.cons (.met (.loc "charStack") "pop" .nil [] .nil) .nil) [] .nil)) (.cons (.aug (.loc "output") .Add (.met (.cst (.str [])) "join" (.cons (.slc (.loc "charStack") (.loc "entityLength") (.cst .none)) .nil) [] .nil)) .nil)))
noncomputable def eSel:MS:=.ifs (.cmp .IsNot (.loc "entityName") (.cst .none)) (.cons eIf1 (.cons (.ifs eC2 eA2 eB2) .nil)) eElse
noncomputable def qCond:ME:=(.cmp .Eq (.met (.attr (.loc "reader") "stream") "char" .nil [] .nil) (.cst (.str [38])))
noncomputable def qz0:MS:=(.asg (.attr (.loc "reader") "tokenQueue") (.lst true .nil))
noncomputable def q1E:ME:=(.dct true [[116,121,112,101],[110,97,109,101],[100,97,116,97],[115,101,108,102,67,108,111,115,105,110,103]] (.cons (.sub (.glo "tokenTypes") (.cst (.str [83,116,97,114,116,84,97,103]))) (.cons (.cst (.str [105])) (.cons (.lst true (.cons (.lst true (.cons (.cst (.str [107])) (.cons (.cst (.str [])) .nil))) .nil)) (.cons (.cst (.bool false)) .nil)))))
noncomputable def qz1:MS:=(.asg (.attr (.loc "reader") "currentToken") q1E)
noncomputable def qz2:MS:=(.ifs (.loc "inside") (.cons (.expr (.met (.loc "reader") "processEntityInAttribute" (.cons (.cst (.str [34])) .nil) [] .nil)) .nil) (.cons (.expr (.met (.loc "reader") "consumeEntity" .nil [] .nil)) .nil))
noncomputable def qz3:MS:=(.asg (.loc "signs") (.sub (.sub (.sub (.attr (.loc "reader") "currentToken") (.cst (.str [100,97,116,97]))) (.cst (.int 0))) (.cst (.int 1))))
noncomputable def qz4:MS:=(.asg (.loc "told") (.lst true .nil))
noncomputable def qC:ME:=(.boo .And (.cons (.cmp .Eq (.sub (.loc "token") (.cst (.str [116,121,112,101]))) (.sub (.glo "tokenTypes") (.cst (.str [67,104,97,114,97,99,116,101,114,115])))) (.cons (.not (.loc "inside")) .nil)))
noncomputable def qF:MS:=(.cons (.ifs qC (.cons (.asg (.loc "signs") (.bin false .Add (.loc "signs") (.sub (.loc "token") (.cst (.str [100,97,116,97]))))) .nil) (.cons (.expr (.met (.loc "told") "append" (.cons (.sub (.loc "token") (.cst (.str [100,97,116,97]))) .nil) [] .nil)) .nil)) .nil)
noncomputable def qz5:MS:=(.fors (.loc "token") (.attr (.loc "reader") "tokenQueue") qF)
noncomputable def q6E:ME:=(.tup (.cons (.bin false .Add (.loc "signs") (.met (.attr (.loc "reader") "stream") "charsUntil" (.cons (.tup (.cons (.cst (.str [38])) .nil)) .nil) [] .nil)) (.cons (.loc "told") .nil)))
noncomputable def qz6:MS:=(.expr (.met (.loc "row") "append" (.cons q6E .nil) [] .nil))
noncomputable def qB:MS:=(.cons qz0 (.cons qz1 (.cons qz2 (.cons qz3 (.cons qz4 (.cons qz5 (.cons qz6 .nil)))))))
noncomputable def aRg (p q:Nat):ME:=.cmp2 .LtE .LtE (.cst (.str [p])) (.loc "sign") (.cst (.str [q]))
noncomputable def lLen (x:String):ME:=.bui "len" (.cons (.loc x) .nil)
noncomputable def lC:ME:=(.boo .And (.cons (.cmp .Eq (.slc (.loc "words") (.cst .none) (lLen "name")) (.loc "name")) (.cons (.cmp .Gt (lLen "name") (lLen "best")) .nil)))
noncomputable def lB:MS:=.cons (.ifs lC (.cons (.asg (.loc "best") (.loc "name")) .nil) .nil) .nil
noncomputable def tLen:ME:=lLen "best"
noncomputable def tBeh:ME:=(.slc (.loc "words") tLen (.bin false .Add tLen (.cst (.int 1))))
noncomputable def tAmp:ME:=(.bin false .Add (.cst (.str [38,97,109,112,59])) (.loc "words"))
noncomputable def tNwo:ME:=(.lst false (.cons (.cst (.str sNwo)) .nil))
noncomputable def tR (a b:ME):MS:=(.cons (.ret (.tup (.cons a (.cons b .nil)))) .nil)
noncomputable def tFin:ME:=(.bin false .Add (.bin false .Add (.bin false .Add (.cst (.str [38])) (.loc "best")) (.cst (.str [59]))) (.slc (.loc "words") tLen (.cst .none)))
noncomputable def rC1:ME:=(.cmp .Eq (.sub (.loc "name") (.neg (.cst (.int 1)))) (.cst (.str [59])))
noncomputable def rE1:ME:=(.cmpr [] (.loc "name") (.loc "name") (.glo "entities") (.cons rC1 .nil))
noncomputable def rLen (x:String):ME:=.bui "len" (.cons (.loc x) .nil)
noncomputable def rN1:ME:=(.bin false .Sub (rLen "name") (.cst (.int 1)))
noncomputable def rC2:ME:=(.boo .And (.cons (.cmp .Eq (.slc (.loc "other") (.cst .none) rN1) (.slc (.loc "name") (.cst .none) (.neg (.cst (.int 1))))) (.cons (.cmp .GtE (rLen "other") (rLen "name")) .nil)))
noncomputable def rE2:ME:=(.cmpr ["name"] (.loc "other") (.loc "other") (.glo "entities") (.cons rC2 .nil))
noncomputable def rP:ME:=(.sub (.loc "alike") (.bin false .Mod (.bin false .Add (.bin false .FloorDiv (.loc "a") (.cst (.int 27))) (.loc "b")) (rLen "alike")))
noncomputable def rX1:ME:=(.slc (.slc (.loc "other") rN1 (.cst .none)) (.cst .none) (.bin false .Mod (.loc "b") (.cst (.int 5))))
noncomputable def rX2:ME:=(.sub (.cal "_law_SIGNS" .nil) (.bin false .Mod (.bin false .FloorDiv (.loc "b") (.cst (.int 5))) (.cst (.int 30))))
noncomputable def wPT:ME:=(.tup (.cons (.loc "name") (.cons (.loc "tail") .nil)))
noncomputable def wST:ME:=(.tup (.cons (.loc "signs") (.cons (.loc "told") .nil)))
noncomputable def wWT:ME:=(.tup (.cons (.loc "written") (.cons (.loc "told") .nil)))
noncomputable def wB0:ME:=(.slc (.loc "name") (.cst .none) (.neg (.cst (.int 1))))
noncomputable def wSh:ME:=(.bin false .Add wB0 (.loc "tail"))
noncomputable def wE2:ME:=(.bin false .Add (.bin false .Add (.cst (.str [38])) (.loc "name")) (.loc "tail"))
noncomputable def wE3:ME:=(.bin false .Add (.bin false .Add (.cst (.str [38])) wB0) (.loc "tail"))
noncomputable def wJ (e t:ME) (x:String):ME:=(.met (.cst (.str [])) "join" (.cons (.cmpr [] e t (.loc x) .nil) .nil) [] .nil)
noncomputable def wRd (e:ME):ME:=(.cal "_law_reading" (.cons e (.cons (.loc "inside") (.cons (.loc "size") .nil))))
noncomputable def wTw:ME:=(.cal "_law_twin" (.cons wSh (.cons (.loc "inside") .nil)))
noncomputable def wD5:ME:=(.tup (.cons (.bin false .Add (.sub (.glo "entities") (.loc "name")) (.loc "tail")) (.cons (.lst false .nil) .nil)))
noncomputable def wD6:ME:=(.tup (.cons (.loc "signs") (.cons (.lst false .nil) .nil)))
noncomputable def wK7:ME:=(.boo .And (.cons (.cmp .Eq (.cal "_law_longest" (.cons wSh .nil)) wB0) (.cons (.not (.boo .And (.cons (.loc "inside") (.cons (.cal "_law_close" (.cons (.slc (.loc "tail") (.cst .none) (.cst (.int 1))) .nil)) .nil)))) .nil)))
noncomputable def wT8:ME:=(.tup (.cons wST (.cons (.tup (.cons (.loc "due") (.cons (.loc "none") .nil))) .nil)))
noncomputable def wF:MS:=(.cons (.ret (.cst (.bool false))) .nil)
noncomputable def wq1:MS:=(.asg (.loc "twins") (.cmpr ["inside"] wTw wPT (.loc "pairs") .nil))
noncomputable def wq2:MS:=(.asg (.loc "whole") (wRd (wJ wE2 wPT "pairs")))
noncomputable def wq3:MS:=(.asg (.loc "short") (wRd (wJ wE3 wPT "pairs")))
noncomputable def wq4:MS:=(.asg (.loc "right") (wRd (wJ (.loc "written") wWT "twins")))
noncomputable def wq5:MS:=(.ifs (.cmp .NotEq (.loc "whole") (.cmpr [] wD5 wPT (.loc "pairs") .nil)) wF .nil)
noncomputable def wq6:MS:=(.ifs (.boo .Or (.cons (.cmp .NotEq (.loc "right") (.cmpr [] wD6 wST (.loc "short") .nil)) (.cons (.cmp .NotEq (.cmpr [] (.loc "told") wST (.loc "short") .nil) (.cmpr [] (.loc "told") wWT (.loc "twins") .nil)) .nil))) wF .nil)
noncomputable def wq7:MS:=(.asg (.loc "kept") (.cmpr ["inside"] wK7 wPT (.loc "pairs") .nil))
noncomputable def wq8:MS:=(.ifs (.cmp .NotEq (.cmpz [] (.cmp .Eq (.loc "signs") (.loc "due")) wT8 (.loc "short") (.loc "whole") .nil) (.loc "kept")) wF .nil)
noncomputable def bAll:MS:=(.cons wq1 (.cons wq2 (.cons wq3 (.cons wq4 (.cons wq5 (.cons wq6 (.cons wq7 (.cons wq8 .nil))))))))
noncomputable def wa0:MS:=(.asg (.loc "numbers") (.boo .Or (.cons (.slc (.loc "script") (.cst .none) (.cst (.int 6))) (.cons (.lst false (.cons (.cst (.int 0)) .nil)) .nil))))
noncomputable def wa1:MS:=(.asg (.loc "size") (.bin false .Add (.cst (.int 1)) (.bin false .Mod (.bui "sum" (.cons (.loc "numbers") .nil)) (.cst (.int 16)))))
noncomputable def a2E:ME:=(.cal "_law_reference" (.cons (.sub (.loc "numbers") (.loc "i")) (.cons (.bui "sum" (.cons (.slc (.loc "numbers") (.bin false .Add (.loc "i") (.cst (.int 1))) (.bin false .Add (.loc "i") (.cst (.int 2)))) .nil)) .nil)))
noncomputable def a2R:ME:=(.bui "range" (.cons (.cst (.int 0)) (.cons (.bui "len" (.cons (.loc "numbers") .nil)) (.cons (.cst (.int 2)) .nil))))
noncomputable def wa2:MS:=(.asg (.loc "pairs") (.cmpr ["numbers"] a2E (.loc "i") a2R .nil))
noncomputable def wa3:MS:=(.fors (.loc "inside") (.tup (.cons (.cst (.bool false)) (.cons (.cst (.bool true)) .nil))) bAll)
noncomputable def ms63:MS:=(.cons (.asg (.attr (.loc "self") "text") (.loc "text")) (.cons (.asg (.attr (.loc "self") "place") (.cst (.int 0))) .nil))
noncomputable def ms70:MS:=(.cons (.asg (.loc "part") (.slc (.attr (.loc "self") "text") (.attr (.loc "self") "place") (.bin false .Add (.attr (.loc "self") "place") (.loc "size")))) (.cons (.aug (.attr (.loc "self") "place") .Add (.bui "len" (.cons (.loc "part") .nil))) (.cons (.ret (.loc "part")) .nil)))
noncomputable def ms84:MS:=(.cons (.ret (.boo .Or (.cons (.cmp2 .LtE .LtE (.cst (.int 1)) (.loc "codepoint") (.cst (.int 8))) (.cons (.cmp .Eq (.loc "codepoint") (.cst (.int 11))) (.cons (.cmp2 .LtE .LtE (.cst (.int 14)) (.loc "codepoint") (.cst (.int 31))) (.cons (.cmp2 .LtE .LtE (.cst (.int 127)) (.loc "codepoint") (.cst (.int 159))) (.cons (.cmp2 .LtE .LtE (.cst (.int 64976)) (.loc "codepoint") (.cst (.int 65007))) (.cons (.cmp .In (.bin false .Mod (.loc "codepoint") (.cst (.int 65536))) (.tup (.cons (.cst (.int 65534)) (.cons (.cst (.int 65535)) .nil)))) (.cons (.cmp2 .LtE .LtE (.cst (.int 55296)) (.loc "codepoint") (.cst (.int 57343))) .nil))))))))) .nil)
noncomputable def ms98:MS:=(.cons (.asg (.attr (.loc "self") "reportCharacterErrors") (.attr (.loc "self") "characterErrorsUCS4")) (.cons (.asg (.attr (.loc "self") "newLines") (.lst true (.cons (.cst (.int 0)) .nil))) (.cons (.asg (.attr (.loc "self") "dataStream") (.met (.loc "self") "openStream" (.cons (.loc "source") .nil) [] .nil)) (.cons (.expr (.met (.loc "self") "reset" .nil [] .nil)) .nil))))
noncomputable def ms105:MS:=(.cons (.asg (.attr (.loc "self") "chunk") (.cst (.str []))) (.cons (.asg (.attr (.loc "self") "chunkSize") (.cst (.int 0))) (.cons (.asg (.attr (.loc "self") "chunkOffset") (.cst (.int 0))) (.cons (.asg (.attr (.loc "self") "errors") (.lst true .nil)) (.cons (.asg (.attr (.loc "self") "prevNumLines") (.cst (.int 0))) (.cons (.asg (.attr (.loc "self") "prevNumCols") (.cst (.int 0))) (.cons (.asg (.attr (.loc "self") "_bufferedCharacter") (.cst .none)) .nil)))))))
noncomputable def ms112:MS:=(.cons (.asg (.loc "stream") (.new "Text" (.cons (.loc "source") .nil))) (.cons (.ret (.loc "stream")) .nil))
noncomputable def ms119:MS:=(.cons (.asg (.loc "chunk") (.attr (.loc "self") "chunk")) (.cons (.asg (.loc "nLines") (.met (.loc "chunk") "count" (.cons (.cst (.str [10])) (.cons (.cst (.int 0)) (.cons (.loc "offset") .nil))) [] .nil)) (.cons (.asg (.loc "positionLine") (.bin false .Add (.attr (.loc "self") "prevNumLines") (.loc "nLines"))) (.cons (.asg (.loc "lastLinePos") (.met (.loc "chunk") "rfind" (.cons (.cst (.str [10])) (.cons (.cst (.int 0)) (.cons (.loc "offset") .nil))) [] .nil)) (.cons (.ifs (.cmp .Eq (.loc "lastLinePos") (.neg (.cst (.int 1)))) (.cons (.asg (.loc "positionColumn") (.bin false .Add (.attr (.loc "self") "prevNumCols") (.loc "offset"))) .nil) (.cons (.asg (.loc "positionColumn") (.bin false .Sub (.loc "offset") (.bin false .Add (.loc "lastLinePos") (.cst (.int 1))))) .nil)) (.cons (.ret (.tup (.cons (.loc "positionLine") (.cons (.loc "positionColumn") .nil)))) .nil))))))
noncomputable def ms133:MS:=(.cons (.ifs (.cmp .GtE (.attr (.loc "self") "chunkOffset") (.attr (.loc "self") "chunkSize")) (.cons (.ifs (.not (.met (.loc "self") "readChunk" .nil [] .nil)) (.cons (.ret (.glo "EOF")) .nil) .nil) .nil) .nil) (.cons (.asg (.loc "chunkOffset") (.attr (.loc "self") "chunkOffset")) (.cons (.asg (.loc "char") (.sub (.attr (.loc "self") "chunk") (.loc "chunkOffset"))) (.cons (.asg (.attr (.loc "self") "chunkOffset") (.bin false .Add (.loc "chunkOffset") (.cst (.int 1)))) (.cons (.ret (.loc "char")) .nil)))))
noncomputable def ms141:MS:=(.cons (.ifs (.cmp .Is (.loc "chunkSize") (.cst .none)) (.cons (.asg (.loc "chunkSize") (.attr (.loc "self") "_defaultChunkSize")) .nil) .nil) (.cons (.asg (.tup (.cons (.attr (.loc "self") "prevNumLines") (.cons (.attr (.loc "self") "prevNumCols") .nil))) (.met (.loc "self") "_position" (.cons (.attr (.loc "self") "chunkSize") .nil) [] .nil)) (.cons (.asg (.attr (.loc "self") "chunk") (.cst (.str []))) (.cons (.asg (.attr (.loc "self") "chunkSize") (.cst (.int 0))) (.cons (.asg (.attr (.loc "self") "chunkOffset") (.cst (.int 0))) (.cons (.asg (.loc "data") (.met (.attr (.loc "self") "dataStream") "read" (.cons (.loc "chunkSize") .nil) [] .nil)) (.cons rdS (.cons rdG rdT))))))))
noncomputable def ms148:MS:=(.cons (.fors (.loc "c") (.loc "data") errB) .nil)
noncomputable def ms156:MS:=(.cons (.asg (.loc "rv") (.lst true .nil)) (.cons (.whl (.cst (.bool true)) cuA) (.cons (.asg (.loc "r") (.met (.cst (.str [])) "join" (.cons (.loc "rv") .nil) [] .nil)) (.cons (.ret (.loc "r")) .nil))))
noncomputable def ms163:MS:=(.cons (.ifs (.cmp .IsNot (.loc "char") (.glo "EOF")) (.cons (.ifs (.cmp .Eq (.attr (.loc "self") "chunkOffset") (.cst (.int 0))) (.cons (.asg (.attr (.loc "self") "chunk") (.bin false .Add (.loc "char") (.attr (.loc "self") "chunk"))) (.cons (.aug (.attr (.loc "self") "chunkSize") .Add (.cst (.int 1))) .nil)) (.cons (.aug (.attr (.loc "self") "chunkOffset") .Sub (.cst (.int 1))) (.cons (.asr (.cmp .Eq (.sub (.attr (.loc "self") "chunk") (.attr (.loc "self") "chunkOffset")) (.loc "char"))) .nil))) .nil) .nil) .nil)
noncomputable def ms178:MS:=(.cons (.ifs (.cmp .Is (.loc "high") (.cst .none)) (.cons (.asg (.loc "high") (.bui "len" (.cons (.loc "rows") .nil))) .nil) .nil) (.cons (.whl biC biB) (.cons (.ret (.loc "low")) .nil)))
noncomputable def ms199:MS:=(.cons (.ret (.cmp .In (.loc "key") (.attr (.loc "self") "_data"))) .nil)
noncomputable def ms220:MS:=(.cons (.ifs (.cmp .In (.loc "prefix") (.attr (.loc "self") "_data")) (.cons (.ret (.cst (.bool true))) .nil) .nil) (.cons (.ifs (.met (.loc "prefix") "startswith" (.cons (.attr (.loc "self") "_cachestr") .nil) [] .nil) (.cons (.asg (.tup (.cons (.loc "lo") (.cons (.loc "hi") .nil))) (.attr (.loc "self") "_cachepoints")) (.cons (.asg (.loc "i") (.cal "bisect_left" (.cons (.attr (.loc "self") "_keys") (.cons (.loc "prefix") (.cons (.loc "lo") (.cons (.loc "hi") .nil)))))) .nil)) (.cons (.asg (.loc "i") (.cal "bisect_left" (.cons (.attr (.loc "self") "_keys") (.cons (.loc "prefix") .nil)))) .nil)) (.cons (.ifs (.cmp .Eq (.loc "i") (.bui "len" (.cons (.attr (.loc "self") "_keys") .nil))) (.cons (.ret (.cst (.bool false))) .nil) .nil) (.cons (.ret (.met (.sub (.attr (.loc "self") "_keys") (.loc "i")) "startswith" (.cons (.loc "prefix") .nil) [] .nil)) .nil))))
noncomputable def ms227:MS:=.cons lpA (.cons lpB (.cons .opq .nil))
noncomputable def ms261:MS:=(.cons (.asg (.attr (.loc "self") "stream") (.new "HTMLUnicodeInputStream" (.cons (.loc "stream") .nil))) (.cons (.asg (.attr (.loc "self") "parser") (.loc "parser")) (.cons (.asg (.attr (.loc "self") "escapeFlag") (.cst (.bool false))) (.cons (.asg (.attr (.loc "self") "lastFourChars") (.lst true .nil)) (.cons (.asg (.attr (.loc "self") "state") (.attr (.loc "self") "dataState")) (.cons (.asg (.attr (.loc "self") "escape") (.cst (.bool false))) (.cons (.asg (.attr (.loc "self") "currentToken") (.cst .none)) .nil)))))))
noncomputable def ms283:MS:=(.cons (.asg (.loc "output") (.cst (.str [38]))) (.cons (.asg (.loc "charStack") (.lst true (.cons (.met (.attr (.loc "self") "stream") "char" .nil [] .nil) .nil))) (.cons (.ifs eCond (.cons (.expr (.met (.attr (.loc "self") "stream") "unget" (.cons (.sub (.loc "charStack") (.cst (.int 0))) .nil) [] .nil)) .nil) (.cons (.ifs (.cmp .Eq (.sub (.loc "charStack") (.cst (.int 0))) (.cst (.str [35]))) .opq (.cons (.whl eWc eW) (.cons eTlp (.cons eSel .nil)))) .nil)) (.cons eFin .nil))))
noncomputable def ms290:MS:=(.cons (.expr (.met (.loc "self") "consumeEntity" .nil ["allowedChar","fromAttribute"] (.cons (.loc "allowedChar") (.cons (.cst (.bool true)) .nil)))) .nil)
noncomputable def ms773:MS:=(.cons (.ret (.lst false (.cons (.cst (.str [])) (.cons (.cst (.str [59])) (.cons (.cst (.str [61])) (.cons (.cst (.str [48])) (.cons (.cst (.str [57])) (.cons (.cst (.str [65])) (.cons (.cst (.str [90])) (.cons (.cst (.str [97])) (.cons (.cst (.str [122])) (.cons (.cst (.str [47])) (.cons (.cst (.str [58])) (.cons (.cst (.str [60])) (.cons (.cst (.str [64])) (.cons (.cst (.str [91])) (.cons (.cst (.str [96])) (.cons (.cst (.str [123])) (.cons (.cst (.str [32])) (.cons (.cst (.str [10])) (.cons (.cst (.str [233])) (.cons (.cst (.str [34])) (.cons (.cst (.str [0])) (.cons (.cst (.str [98])) (.cons (.cst (.str [69,59])) (.cons (.cst (.str [49])) (.cons (.cst (.str [50,59])) (.cons (.cst (.str [105,110,59])) (.cons (.cst (.str [110,105,59])) (.cons (.cst (.str [105])) (.cons (.cst (.str [108])) (.cons (.cst (.str [1635])) .nil)))))))))))))))))))))))))))))))) .nil)
noncomputable def ms780:MS:=(.cons (.ret (.boo .Or (.cons (.cmp .Eq (.loc "sign") (.cst (.str [61]))) (.cons (aRg 48 57) (.cons (aRg 65 90) (.cons (aRg 97 122) .nil)))))) .nil)
noncomputable def ms787:MS:=(.cons (.asg (.loc "best") (.cst (.str []))) (.cons (.fors (.loc "name") (.glo "entities") lB) (.cons (.ret (.loc "best")) .nil)))
noncomputable def ms792:MS:=(.cons (.asg (.loc "closed") rE1) (.cons (.asg (.loc "name") (.sub (.loc "closed") (.bin false .Mod (.loc "a") (rLen "closed")))) (.cons (.asg (.loc "alike") rE2) (.cons (.asg (.loc "other") rP) (.cons (.ret (.tup (.cons (.loc "name") (.cons (.bin false .Add rX1 rX2) .nil)))) .nil)))))
noncomputable def ms799:MS:=(.cons (.asg (.loc "best") (.cal "_law_longest" (.cons (.loc "words") .nil))) (.cons (.ifs (.cmp .Eq (.loc "best") (.cst (.str []))) (tR tAmp (.lst false (.cons (.cst (.str sNam)) .nil))) .nil) (.cons (.ifs (.cmp .Eq (.sub (.loc "best") (.neg (.cst (.int 1)))) (.cst (.str [59]))) (tR (.bin false .Add (.cst (.str [38])) (.loc "words")) (.lst false .nil)) .nil) (.cons (.ifs (.boo .And (.cons (.loc "inside") (.cons (.cal "_law_close" (.cons tBeh .nil)) .nil))) (tR tAmp tNwo) .nil) (tR tFin tNwo)))))
noncomputable def ms806:MS:=(.cons (.asg (.loc "reader") (.new "HTMLTokenizer" (.cons (.loc "text") .nil))) (.cons (.expr (.met (.attr (.loc "reader") "stream") "readChunk" (.cons (.loc "size") .nil) [] .nil)) (.cons (.asg (.loc "row") (.lst true .nil)) (.cons (.whl qCond (.gc 7 qB)) (.cons (.ret (.loc "row")) .nil)))))
noncomputable def ms811:MS:=(.cons wa0 (.cons wa1 (.cons wa2 (.cons wa3 (.cons (.ret (.cst (.bool true))) .nil)))))
end Mine
end
section
open PySem PySem.W PyProof.Rows PySem.Calls PySem.SeqAt
set_option maxRecDepth 100000
namespace Mine
set_option genInjectivity false in
structure Sh where
  f:Addr
  np:Nat
  names:List String
  dfl:List V
  dfc:List Value
  keep:Bool
  ms:MS
  kn:List String:=[]
noncomputable def disp (T:Tab) (C:Calls) (N:Nat):List Sh->Calls
  | [],_,_,_,_=>none
  | sh::r,f,vs,kw,σ=>if sh.f=f/\sh.np=vs.length/\kw.map Prod.fst=sh.kn then fcall T C N sh.keep sh.ms (sh.names.zip (vs++(kw.map Prod.snd++sh.dfl))) σ else disp T C N r f vs kw σ
noncomputable def callsL (T:Tab) (N:Nat) (L:List Sh):Nat->Calls
  | 0=>fun _ _ _ _=>none
  | k+1=>disp T (callsL T N L k) N L
noncomputable def sh63_2:Sh:=⟨63,2,["self","text"],[],[],true,ms63,[]⟩
noncomputable def sh70_2:Sh:=⟨70,2,["self","size"],[],[],true,ms70,[]⟩
noncomputable def sh84_1:Sh:=⟨84,1,["codepoint"],[],[],true,ms84,[]⟩
noncomputable def sh98_2:Sh:=⟨98,2,["self","source"],[],[],true,ms98,[]⟩
noncomputable def sh105_1:Sh:=⟨105,1,["self"],[],[],true,ms105,[]⟩
noncomputable def sh112_2:Sh:=⟨112,2,["self","source"],[],[],true,ms112,[]⟩
noncomputable def sh119_2:Sh:=⟨119,2,["self","offset"],[],[],true,ms119,[]⟩
noncomputable def sh133_1:Sh:=⟨133,1,["self"],[],[],true,ms133,[]⟩
noncomputable def sh141_1:Sh:=⟨141,1,["self","chunkSize"],[.none],[.none],true,ms141,[]⟩
noncomputable def sh141_2:Sh:=⟨141,2,["self","chunkSize"],[],[],true,ms141,[]⟩
noncomputable def sh148_2:Sh:=⟨148,2,["self","data"],[],[],true,ms148,[]⟩
noncomputable def sh156_2:Sh:=⟨156,2,["self","characters","opposite"],[(.bool false)],[(.bool false)],true,ms156,[]⟩
noncomputable def sh163_2:Sh:=⟨163,2,["self","char"],[],[],true,ms163,[]⟩
noncomputable def sh261_2:Sh:=⟨261,2,["self","stream","parser"],[.none],[.none],true,ms261,[]⟩
noncomputable def sh178_4:Sh:=⟨178,4,["rows","key","low","high"],[],[],true,ms178,[]⟩
noncomputable def sh199_2:Sh:=⟨199,2,["self","key"],[],[],true,ms199,[]⟩
noncomputable def sh220_2:Sh:=⟨220,2,["self","prefix"],[],[],true,ms220,[]⟩
noncomputable def sh227_2:Sh:=⟨227,2,["self","prefix"],[],[],true,ms227,[]⟩
noncomputable def sh283_1:Sh:=⟨283,1,["self","allowedChar","fromAttribute"],[.none,.bool false],[.none,.bool false],true,ms283,[]⟩
noncomputable def sh283_k:Sh:=⟨283,1,["self","allowedChar","fromAttribute"],[],[],true,ms283,["allowedChar","fromAttribute"]⟩
noncomputable def sh290_2:Sh:=⟨290,2,["self","allowedChar"],[],[],true,ms290,[]⟩
noncomputable def sh773_0:Sh:=⟨773,0,[],[],[],true,ms773,[]⟩
noncomputable def sh780_1:Sh:=⟨780,1,["sign"],[],[],true,ms780,[]⟩
noncomputable def sh787_1:Sh:=⟨787,1,["words"],[],[],true,ms787,[]⟩
noncomputable def sh792_2:Sh:=⟨792,2,["a","b"],[],[],true,ms792,[]⟩
noncomputable def sh799_2:Sh:=⟨799,2,["words","inside"],[],[],true,ms799,[]⟩
noncomputable def sh806_3:Sh:=⟨806,3,["text","inside","size"],[],[],false,ms806,[]⟩
noncomputable def shs2:List Sh:=[sh63_2,sh70_2,sh84_1,sh98_2,sh105_1,sh112_2,sh119_2,sh133_1,sh141_1,sh141_2,sh148_2,sh156_2,sh163_2,sh178_4,sh199_2,sh220_2,sh227_2,sh261_2,sh283_1,sh283_k,sh290_2,sh773_0,sh780_1,sh787_1,sh792_2,sh799_2,sh806_3]
noncomputable def lkN {α:Type}:List (Nat×α)->Nat->Option α
  | [],_=>none
  | e::r,x=>if e.1=x then some e.2 else lkN r x
noncomputable def lkS {α:Type}:List (String×α)->String->Option α
  | [],_=>none
  | e::r,x=>if e.1=x then some e.2 else lkS r x
noncomputable def methL:List (Nat×List (String×Nat)):=[(230,[("__contains__",199),("has_keys_with_prefix",220),("longest_prefix",227)]),(73,[("read",70)]),(166,[("reset",105),("openStream",112),("_position",119),("char",133),("readChunk",141),("characterErrorsUCS4",148),("charsUntil",156),("unget",163)]),(762,[("consumeEntity",283),("processEntityInAttribute",290),("dataState",304)])]
noncomputable def datL:List (Nat×List (String×Unit)):=[(73,[("text",()),("place",())]),(166,[("reportCharacterErrors",()),("newLines",()),("dataStream",()),("chunk",()),("chunkSize",()),("chunkOffset",()),("errors",()),("prevNumLines",()),("prevNumCols",()),("_bufferedCharacter",())]),(762,[("stream",()),("parser",()),("escapeFlag",()),("lastFourChars",()),("state",()),("escape",()),("currentToken",()),("tokenQueue",())])]
noncomputable def fnL:List (Nat×Unit):=[(178,()),(199,()),(220,()),(227,()),(63,()),(70,()),(84,()),(98,()),(105,()),(112,()),(119,()),(133,()),(141,()),(148,()),(156,()),(163,()),(261,()),(283,()),(290,()),(773,()),(780,()),(787,()),(792,()),(799,()),(806,())]
noncomputable def gloL:L:=[("entitiesTrie",.stat 236),("entities",.stat 43),("EOF",.none),("spaceCharacters",.tup [.str [9],.str [10],.str [12],.str [32],.str [13]]),("digits",.tup [.str [48],.str [49],.str [50],.str [51],.str [52],.str [53],.str [54],.str [55],.str [56],.str [57]]),("asciiLetters",.tup [.str [97],.str [98],.str [99],.str [100],.str [101],.str [102],.str [103],.str [104],.str [105],.str [106],.str [107],.str [108],.str [109],.str [110],.str [111],.str [112],.str [113],.str [114],.str [115],.str [116],.str [117],.str [118],.str [119],.str [120],.str [121],.str [122],.str [65],.str [66],.str [67],.str [68],.str [69],.str [70],.str [71],.str [72],.str [73],.str [74],.str [75],.str [76],.str [77],.str [78],.str [79],.str [80],.str [81],.str [82],.str [83],.str [84],.str [85],.str [86],.str [87],.str [88],.str [89],.str [90]]),("tokenTypes",.stat 48)]
noncomputable def fnGL:List (String×Nat):=[("bisect_left",178),("_is_invalid",84),("_law_SIGNS",773),("_law_close",780),("_law_longest",787),("_law_reference",792),("_law_twin",799),("_law_reading",806)]
noncomputable def clsGL:List (String×(Nat×Nat)):=[("Text",(73,63)),("HTMLUnicodeInputStream",(166,98)),("HTMLTokenizer",(762,261))]
noncomputable def buiGL:List (String×Unit):=[("len",()),("ord",()),("sum",()),("range",()),("zip",())]
noncomputable def ttL:List (List Nat×V):=[([68,111,99,116,121,112,101],.int 0),([67,104,97,114,97,99,116,101,114,115],.int 1),([83,112,97,99,101,67,104,97,114,97,99,116,101,114,115],.int 2),([83,116,97,114,116,84,97,103],.int 3),([69,110,100,84,97,103],.int 4),([69,109,112,116,121,84,97,103],.int 5),([67,111,109,109,101,110,116],.int 6),([80,97,114,115,101,69,114,114,111,114],.int 7)]
noncomputable def entL:List (List Nat×V):=[([65,77,80],.str [38]),([65,77,80,59],.str [38]),([69,97,99,117,116,101],.str [201]),([69,97,99,117,116,101,59],.str [201]),([77,111,112,102,59],.str [120132]),([97,99,59],.str [8766]),([97,99,69,59],.str [8766,819]),([97,99,117,116,101],.str [180]),([97,99,117,116,101,59],.str [180]),([97,109,112],.str [38]),([97,109,112,59],.str [38]),([97,110,103,59],.str [8736]),([97,110,103,108,101,59],.str [8736]),([98,110,101,59],.str [61,8421]),([99,111,112,121],.str [169]),([99,111,112,121,59],.str [169]),([101,97,99,117,116,101],.str [233]),([101,97,99,117,116,101,59],.str [233]),([102,114,97,99,49,50],.str [189]),([102,114,97,99,49,50,59],.str [189]),([103,116],.str [62]),([103,116,59],.str [62]),([108,116],.str [60]),([108,116,59],.str [60]),([110,98,115,112],.str [160]),([110,98,115,112,59],.str [160]),([110,111,116],.str [172]),([110,111,116,59],.str [172]),([110,111,116,105,110,59],.str [8713]),([110,111,116,110,105,59],.str [8716]),([112,97,114,97],.str [182]),([112,97,114,97,59],.str [182]),([112,97,114,97,108,108,101,108,59],.str [8741]),([113,117,111,116],.str [34]),([113,117,111,116,59],.str [34]),([115,117,112,49],.str [185]),([115,117,112,49,59],.str [185]),([115,117,112,50],.str [178]),([115,117,112,50,59],.str [178]),([115,117,112,59],.str [8835]),([116,105,109,101,115],.str [215]),([116,105,109,101,115,59],.str [215]),([116,105,109,101,115,98,59],.str [8864])]
noncomputable def kysL:List V:=[.str [65,77,80],.str [65,77,80,59],.str [69,97,99,117,116,101],.str [69,97,99,117,116,101,59],.str [77,111,112,102,59],.str [97,99,59],.str [97,99,69,59],.str [97,99,117,116,101],.str [97,99,117,116,101,59],.str [97,109,112],.str [97,109,112,59],.str [97,110,103,59],.str [97,110,103,108,101,59],.str [98,110,101,59],.str [99,111,112,121],.str [99,111,112,121,59],.str [101,97,99,117,116,101],.str [101,97,99,117,116,101,59],.str [102,114,97,99,49,50],.str [102,114,97,99,49,50,59],.str [103,116],.str [103,116,59],.str [108,116],.str [108,116,59],.str [110,98,115,112],.str [110,98,115,112,59],.str [110,111,116],.str [110,111,116,59],.str [110,111,116,105,110,59],.str [110,111,116,110,105,59],.str [112,97,114,97],.str [112,97,114,97,59],.str [112,97,114,97,108,108,101,108,59],.str [113,117,111,116],.str [113,117,111,116,59],.str [115,117,112,49],.str [115,117,112,49,59],.str [115,117,112,50],.str [115,117,112,50,59],.str [115,117,112,59],.str [116,105,109,101,115],.str [116,105,109,101,115,59],.str [116,105,109,101,115,98,59]]
noncomputable def noPre (s:List Nat):Bool:=decide (s.length<=1000)&&(List.range (s.length+1)).all fun k=>(lkD entL (s.take k)).isNone
noncomputable def Tc:Tab where
  meth:=fun C n=>(lkN methL C).bind fun l=>lkS l n
  cattr:=fun C n=>if C=166/\n = "_defaultChunkSize" then some (.int 10240) else none
  dat:=fun C n=>((lkN datL C).bind fun l=>lkS l n).isSome
  scls:=fun a=>if a=236 then some 230 else none
  sattr:=fun a n=>if a=236 then (if n = "_data" then some (.stat 43) else if n = "_keys" then some (.lst kysL) else if n = "_cachestr" then some (.str []) else if n = "_cachepoints" then some (.tup [.int 0,.int 43]) else none) else none
  sdS:=fun a=>if a=48 then some ttL else if a=43 then some entL else none
  fn:=fun f=>(lkN fnL f).isSome
  glo:=lk gloL
  fnG:=lkS fnGL
  clsG:=lkS clsGL
  buiG:=fun x=>(lkS buiGL x).isSome
  lpx:=fun f vs=>(as2 vs).any fun p=>f==227&&(asSt p.1==some 236&&(asS p.2).any noPre)
noncomputable def Cc:Nat->Calls:=callsL Tc 1000000 shs2
noncomputable def locCk (K:Frag) (f:Addr) (names:List String):Bool:=match fdOf K f with
  | some fd=>names.all fun x=>fd.scope.names.lookup (Str.ofString x)==some .local || fd.scope.names.lookup (Str.ofString x)==some .cell
  | none=>false
section
variable {prog:Program} {w:World} {K:Frag} {hO:Heap} {T:Tab} {C:Calls} {n N:Nat} {A:Around} {σ σ':St} {μ:Mu} {s:Shared} {v:V}
theorem EE {P:Params} {h:Heap} {μ:Mu}:∀{names:List String} {vs:List V} {cs:List Value},VRs P h μ vs cs->names.length=vs.length->∀x v,lk (names.zip vs) x=some v->x∈names/\∃c,((names.map Str.ofString).zip cs).lookup (Str.ofString x)=some c/\VR P h μ v c
  | [],_,_,_,_,x,v,e=>by simp [lk] at e
  | a::names,[],_,_,hl,_,_,_=>by simp at hl
  | a::names,u::vs,_,⟨c,r,rfl,hu,hr⟩,hl,x,v,e=>by
    rw [List.zip_cons_cons] at e;unfold lk at e;dsimp only at e;rw [List.map_cons,List.zip_cons_cons,List.lookup_cons]
    by_cases h:a=x
    . subst h;rw [if_pos rfl] at e;cases e;exact ⟨List.mem_cons_self,c,by simp,hu⟩
    . rw [if_neg h] at e;obtain ⟨h1,c',h2,h3⟩:=EE hr (by simpa using hl) x v e
      have hb:(Str.ofString x==Str.ofString a)=false:=beq_eq_false_iff_ne.mpr fun q=>h (Ch q).symm
      exact ⟨List.mem_cons_of_mem _ h1,c',by rw [hb];exact h2,h3⟩
theorem rev_look {α:Type}:∀{l:List (Str×α)} {x:Str} {c:α},(l.map Prod.fst).Nodup->l.lookup x=some c->l.reverse.lookup x=some c:=by
  intro l x c hn h;have hm:=Ae h
  have:∀{l:List (Str×α)},(l.map Prod.fst).Nodup->(x,c)∈l->l.lookup x=some c:=by
    intro l
    induction l with
    | nil=>intro _ h;cases h
    | cons e r ih=>
      intro hn hm;rw [List.map_cons,List.nodup_cons] at hn;obtain ⟨k,b⟩:=e;rw [List.lookup_cons];rcases List.mem_cons.mp hm with q | q
      . cases q;simp
      . have:(x==k)=false:=beq_eq_false_iff_ne.mpr fun z=>hn.1 (List.mem_map.mpr ⟨(x,c),q,z⟩)
        rw [this];exact ih hn.2 q
  exact this (by rw [List.map_reverse];exact (List.reverse_perm _).nodup_iff.mpr hn) (List.mem_reverse.mpr hm)
theorem entry_ok (TK:TabOk prog w K hO T) (CO:CallsOk prog w hO C n) (LO:LpxOk prog w hO T n) (KE:KeOk hO) {f:Addr} {ms:MS} (ck:defCk K f ms=true) {names:List String} (hl:locCk K f names=true) (hnd:(names.map Str.ofString).Nodup) {args:Args} {vs:List V} {cs:List Value} {keep:Bool}
    (hh:A.handled=none) (hdep:A.depth+2 * (n+1)+50 < recursionLimit) (hun:A.units+20 * (n+1)+700 < cLine) (r:Rel w.params hO σ μ s.heap) (hg:Gk A μ s) (hv:VRs w.params s.heap μ vs cs) (hlen:names.length=vs.length)
    (hb:∀S,(fdOf K f).map (fun fd=>peek K S (bindArgs fd args))=some (some ((names.map Str.ofString).zip cs))) (e:fcall T C N keep ms (names.zip vs) σ=some (v,σ')):OkC prog w hO A (.call (.ref f) args) μ s v σ':=by
  obtain ⟨fd,body,hf,D,hck⟩:=G3 ck;unfold locCk at hl;rw [hf] at hl;simp only [List.all_eq_true,Bool.or_eq_true,beq_iff_eq] at hl
  have hfst:((names.map Str.ofString).zip cs).map Prod.fst=names.map Str.ofString:=by
    rw [List.map_fst_zip];rw [List.length_map,hlen,hv.len];exact Nat.le_refl _
  obtain ⟨ps,ks⟩:=args;refine def_ok TK CO LO KE D hck (binds:=(names.map Str.ofString).zip cs) hh hdep (by omega) r hg (kp_binds (r.X TK) fun S=>?_) (fun y hy=>?_) (fun x u hx=>?_) e
  . have:=hb S
    rw [hf] at this;simpa using this
  . have:y.1∈names.map Str.ofString:=by rw [<- hfst];exact List.mem_map_of_mem hy
    obtain ⟨x,hx,e⟩:=List.mem_map.mp this;rw [<- e];exact hl x hx
  . obtain ⟨h1,c,h2,h3⟩:=EE hv hlen x u hx;exact ⟨c,rev_look (by rw [hfst];exact hnd) h2,h3,hl x h1⟩
end
structure ShOk (K:Frag) (sh:Sh):Prop where
  ck:defCk K sh.f sh.ms=true
  loc:locCk K sh.f sh.names=true
  nd:(sh.names.map Str.ofString).Nodup
  dfl:∀(P:Params) (h:Heap) (μ:Mu),VRs P h μ sh.dfl sh.dfc
  len:sh.names.length=sh.np+(sh.kn.length+sh.dfl.length)
  bd:∀(S:Setting) (cs kc:List Value),cs.length=sh.np->kc.length=sh.kn.length->(fdOf K sh.f).map (fun fd=>peek K S (bindArgs fd ⟨cs,(sh.kn.map Str.ofString).zip kc⟩))=some (some ((sh.names.map Str.ofString).zip (cs++(kc++sh.dfc))))
section
variable {prog:Program} {w:World} {K:Frag} {hO:Heap} {T:Tab} {N:Nat}
theorem Dq {P:Params} {h:Heap} {μ:Mu}:∀{kw:List (String×V)} {ks:List (Str×Value)},KwR P h μ kw ks->∃kc,ks=((kw.map Prod.fst).map Str.ofString).zip kc/\VRs P h μ (kw.map Prod.snd) kc
  | [],ks,e=>⟨[],e,rfl⟩
  | e::es,ks,⟨c,r,h1,h2,h3⟩=>(Dq h3).elim fun kc q=>⟨c::kc,by rw [h1,q.1];rfl,c,kc,rfl,h2,q.2⟩
theorem G4 (TK:TabOk prog w K hO T) {C:Calls} {n:Nat} (CO:CallsOk prog w hO C n) (LO:LpxOk prog w hO T n) (KE:KeOk hO):∀{L:List Sh},(∀sh∈L,ShOk K sh)->CallsOk prog w hO (disp T C N L) (n+1)
  | [],_=>fun f vs kw σ v σ' e=>by simp [disp] at e
  | sh::r,H=>fun f vs kw σ v σ' e A μ s cs ks hh hdep hun rr hg hv hk=>by
    unfold disp at e;split at e
    . rename_i hc;obtain ⟨rfl,hnp,hkn⟩:=hc;have O:=H sh List.mem_cons_self;obtain ⟨kc,h1,h2⟩:=Dq hk;have hl:kc.length=sh.kn.length:=by rw [h2.len,List.length_map,<- hkn,List.length_map]
      rw [h1,hkn];refine entry_ok TK CO LO KE O.ck O.loc O.nd hh hdep hun rr hg (hv.append (h2.append (O.dfl w.params s.heap μ))) ?_ (fun S=>O.bd S cs kc ?_ hl) e
      . rw [O.len,List.length_append,List.length_append,hnp,List.length_map,<- hkn,List.length_map]
      . rw [hv.len];exact hnp.symm
    . exact G4 TK CO LO KE (fun sh h=>H sh (List.mem_cons_of_mem _ h)) f vs kw σ v σ' e A μ s cs ks hh hdep hun rr hg hv hk
theorem B0 (TK:TabOk prog w K hO T) (KE:KeOk hO) {b:Nat} (LO:∀n,b<=n->LpxOk prog w hO T n) {L:List Sh} (H:∀sh∈L,ShOk K sh):∀n,CallsOk prog w hO (callsL T N L n) (n+b)
  | 0=>fun f vs kw σ v σ' e=>by simp [callsL] at e
  | n+1=>by
    have:=G4 (N:=N) TK (B0 TK KE LO H n) (LO _ (Nat.le_add_left _ _)) KE H
    rw [show n+1+b=n+b+1 by exact Nat.succ_add _ _]
    exact this
end
end Mine
end
open PySem PySem.W PyProof.Rows
set_option maxRecDepth 100000
namespace Mine
noncomputable def kv:Option V->St->Option (V×St):=fun x σ=>x.map fun v=>(v,σ)
noncomputable def kBl:Option Bool->St->Option (V×St):=fun x σ=>x.map fun b=>(.bool b,σ)
noncomputable def kAttr (T:Tab) (n:String):Option (V×St)->Option (V×St):=fun x=>x.bind fun (v,σ)=>kv (attrV T v n σ) σ
noncomputable def kBin2 (m:Bool) (o:Operator) (a:V):Option (V×St)->Option (V×St):=fun x=>x.bind fun (b,σ)=>bin m o a b σ
noncomputable def kBin1 (T:Tab) (C:Calls) (m:Bool) (o:Operator) (r:ME) (ρ:L):Option (V×St)->Option (V×St):=fun x=>x.bind fun (a,σ)=>kBin2 m o a (ev T C r ρ σ)
noncomputable def kNeg:Option (V×St)->Option (V×St):=fun x=>x.bind fun (v,σ)=>(asI v).map fun i=>(.int (-i),σ)
noncomputable def kNot2:Option Bool->St->Option (V×St):=fun x σ=>x.map fun b=>(.bool (!b),σ)
noncomputable def kNot:Option (V×St)->Option (V×St):=fun x=>x.bind fun (v,σ)=>kNot2 (truth σ v) σ
noncomputable def kCmp2 (T:Tab) (o:CmpOp) (a:V):Option (V×St)->Option (V×St):=fun x=>x.bind fun (b,σ)=>kBl (cmpV T o a b σ) σ
noncomputable def kCmp1 (T:Tab) (C:Calls) (o:CmpOp) (r:ME) (ρ:L):Option (V×St)->Option (V×St):=fun x=>x.bind fun (a,σ)=>kCmp2 T o a (ev T C r ρ σ)
noncomputable def kCc3 (T:Tab) (C:Calls) (o:CmpOp) (c:ME) (ρ:L) (b:V) (σ:St):Option Bool->Option (V×St):=fun x=>x.bind fun t=>if t then kCmp2 T o b (ev T C c ρ σ) else some (.bool false,σ)
noncomputable def kCc2 (T:Tab) (C:Calls) (o o':CmpOp) (a:V) (c:ME) (ρ:L):Option (V×St)->Option (V×St):=fun x=>x.bind fun (b,σ)=>kCc3 T C o' c ρ b σ (cmpV T o a b σ)
noncomputable def kCc1 (T:Tab) (C:Calls) (o o':CmpOp) (b c:ME) (ρ:L):Option (V×St)->Option (V×St):=fun x=>x.bind fun (a,σ)=>kCc2 T C o o' a c ρ (ev T C b ρ σ)
noncomputable def kBoo2 (T:Tab) (C:Calls) (o:BoolOp) (b:ME) (ρ:L) (v:V) (σ:St):Option Bool->Option (V×St):=fun x=>x.bind fun t=>if stops o t then some (v,σ) else evB T C o b ρ σ
noncomputable def kBoo (T:Tab) (C:Calls) (o:BoolOp) (b:ME) (ρ:L):Option (V×St)->Option (V×St):=fun x=>x.bind fun (v,σ)=>kBoo2 T C o b ρ v σ (truth σ v)
noncomputable def kSub2 (T:Tab) (a:V):Option (V×St)->Option (V×St):=fun x=>x.bind fun (k,σ)=>kv (subV T a k σ) σ
noncomputable def kSub1 (T:Tab) (C:Calls) (i:ME) (ρ:L):Option (V×St)->Option (V×St):=fun x=>x.bind fun (a,σ)=>kSub2 T a (ev T C i ρ σ)
noncomputable def kSlc3 (a l:V):Option (V×St)->Option (V×St):=fun x=>x.bind fun (u,σ)=>kv (slcV a l u σ) σ
noncomputable def kSlc2 (T:Tab) (C:Calls) (a:V) (u:ME) (ρ:L):Option (V×St)->Option (V×St):=fun x=>x.bind fun (l,σ)=>kSlc3 a l (ev T C u ρ σ)
noncomputable def kSlc1 (T:Tab) (C:Calls) (l u:ME) (ρ:L):Option (V×St)->Option (V×St):=fun x=>x.bind fun (a,σ)=>kSlc2 T C a u ρ (ev T C l ρ σ)
noncomputable def kTup:Option (List V×St)->Option (V×St):=fun x=>x.bind fun (vs,σ)=>if vs.length<=big then some (.tup vs,σ) else none
noncomputable def kLst (m:Bool):Option (List V×St)->Option (V×St):=fun x=>x.bind fun (vs,σ)=>mkList m vs σ
noncomputable def kDct (m:Bool) (ks:List (List Nat)):Option (List V×St)->Option (V×St):=fun x=>x.bind fun (vs,σ)=>if ks.length=vs.length then mkDict m (ks.zip vs) σ else none
noncomputable def kCal2 (C:Calls) (f:Addr):Option (List V×St)->Option (V×St):=fun x=>x.bind fun (vs,σ)=>C f vs [] σ
noncomputable def kCal (T:Tab) (C:Calls) (es:ME) (ρ:L) (σ:St):Option Addr->Option (V×St):=fun x=>x.bind fun f=>kCal2 C f (evs T C es ρ σ)
noncomputable def kNew3 (σ0:St):Option (V×St)->Option (V×St):=fun x=>x.bind fun (r,σ')=>if isNo r=true then some (.obj σ0.length,σ') else none
noncomputable def kNew2 (C:Calls) (K f:Addr):Option (List V×St)->Option (V×St):=fun x=>x.bind fun (vs,σ)=>kNew3 σ (C f (.obj σ.length::vs) [] (σ++[.inst K []]))
noncomputable def kNew (T:Tab) (C:Calls) (es:ME) (ρ:L) (σ:St):Option (Addr×Addr)->Option (V×St):=fun x=>x.bind fun (K,f)=>kNew2 C K f (evs T C es ρ σ)
noncomputable def kBui2 (T:Tab) (x:String):Option (List V×St)->Option (V×St):=fun y=>y.bind fun (vs,σ)=>bui T x vs σ
noncomputable def kBui (T:Tab) (C:Calls) (x:String) (es:ME) (ρ:L) (σ:St):Bool->Option (V×St):=fun b=>if b then kBui2 T x (evs T C es ρ σ) else none
noncomputable def kMet3 (C:Calls) (c:Cal):Option (List V×St)->Option (V×St):=fun x=>x.bind fun (vs,σ)=>calM C c vs [] σ
noncomputable def kMet2 (T:Tab) (C:Calls) (es:ME) (ρ:L) (σ:St):Option Cal->Option (V×St):=fun x=>x.bind fun c=>kMet3 C c (evs T C es ρ σ)
noncomputable def kMet1 (T:Tab) (C:Calls) (n:String) (es:ME) (ρ:L):Option (V×St)->Option (V×St):=fun x=>x.bind fun (a,σ)=>kMet2 T C es ρ σ (getM T a n σ)
noncomputable def kCs2 (v:V):Option (List V×St)->Option (List V×St):=fun x=>x.map fun (vs,σ)=>(v::vs,σ)
noncomputable def kCs1 (T:Tab) (C:Calls) (b:ME) (ρ:L):Option (V×St)->Option (List V×St):=fun x=>x.bind fun (v,σ)=>kCs2 v (evs T C b ρ σ)
noncomputable def kS (T:Tab) (C:Calls) (N nb:Nat) (r:MS):Option Fl->Option Fl:=fun x=>x.bind fun f=>match f with
    | .next ρ σ=>ex T C N nb r ρ σ
    | f=>some f
noncomputable def kX (ρ:L):Option (V×St)->Option Fl:=fun x=>x.map fun (_,σ)=>.next ρ σ
noncomputable def kAs2:Option (L×St)->Option Fl:=fun x=>x.map fun (ρ,σ)=>.next ρ σ
noncomputable def kAs (T:Tab) (C:Calls) (t:ME) (ρ:L):Option (V×St)->Option Fl:=fun x=>x.bind fun (v,σ)=>kAs2 (asgn T C t v ρ σ)
noncomputable def kSA2 (ρ:L):Option St->Option (L×St):=fun x=>x.map fun σ=>(ρ,σ)
noncomputable def kSA (T:Tab) (n:String) (v:V) (ρ:L):Option (V×St)->Option (L×St):=fun x=>x.bind fun (o,σ)=>kSA2 ρ (setA T o n v σ)
noncomputable def kTs (T:Tab) (C:Calls) (ts:ME) (vs:List V):Option (L×St)->Option (L×St):=fun x=>x.bind fun (ρ,σ)=>asgns T C ts vs ρ σ
noncomputable def kNx (ρ:L):Option St->Option Fl:=fun x=>x.map fun σ=>.next ρ σ
noncomputable def kAg3 (x:String) (ρ:L) (σ:St):Option V->Option Fl:=fun y=>y.map fun c=>.next (put ρ x c) σ
noncomputable def kAg2 (x:String) (o:Operator) (a:V) (ρ:L):Option (V×St)->Option Fl:=fun y=>y.bind fun (b,σ)=>kAg3 x ρ σ (augB o a b)
noncomputable def kAg1 (T:Tab) (C:Calls) (x:String) (o:Operator) (e:ME) (ρ:L) (σ:St):Option V->Option Fl:=fun y=>y.bind fun a=>kAg2 x o a ρ (ev T C e ρ σ)
noncomputable def kAA4 (T:Tab) (q:V) (n:String) (ρ:L) (σ:St):Option V->Option Fl:=fun y=>y.bind fun c=>kNx ρ (setA T q n c σ)
noncomputable def kAA3 (T:Tab) (q:V) (n:String) (o:Operator) (a:V) (ρ:L):Option (V×St)->Option Fl:=fun y=>y.bind fun (b,σ)=>kAA4 T q n ρ σ (augB o a b)
noncomputable def kAA2 (T:Tab) (C:Calls) (q:V) (n:String) (o:Operator) (e:ME) (ρ:L) (σ:St):Option V->Option Fl:=fun y=>y.bind fun a=>kAA3 T q n o a ρ (ev T C e ρ σ)
noncomputable def kAA1 (T:Tab) (C:Calls) (n:String) (o:Operator) (e:ME) (ρ:L):Option (V×St)->Option Fl:=fun y=>y.bind fun (q,σ)=>kAA2 T C q n o e ρ σ (attrV T q n σ)
noncomputable def kAI5 (q k:V) (ρ:L) (σ:St):Option V->Option Fl:=fun y=>y.bind fun c=>kNx ρ (setI q k c σ)
noncomputable def kAI4 (q k:V) (o:Operator) (a:V) (ρ:L):Option (V×St)->Option Fl:=fun y=>y.bind fun (b,σ)=>kAI5 q k ρ σ (augB o a b)
noncomputable def kAI3 (T:Tab) (C:Calls) (q k:V) (o:Operator) (e:ME) (ρ:L) (σ:St):Option V->Option Fl:=fun y=>y.bind fun a=>kAI4 q k o a ρ (ev T C e ρ σ)
noncomputable def kAI2 (T:Tab) (C:Calls) (q:V) (o:Operator) (e:ME) (ρ:L):Option (V×St)->Option Fl:=fun y=>y.bind fun (k,σ)=>kAI3 T C q k o e ρ σ (subV T q k σ)
noncomputable def kAI1 (T:Tab) (C:Calls) (i:ME) (o:Operator) (e:ME) (ρ:L):Option (V×St)->Option Fl:=fun y=>y.bind fun (q,σ)=>kAI2 T C q o e ρ (ev T C i ρ σ)
noncomputable def kIf2 (T:Tab) (C:Calls) (N nb:Nat) (a b:MS) (ρ:L) (σ:St):Option Bool->Option Fl:=fun x=>x.bind fun t=>if t then ex T C N nb a ρ σ else ex T C N nb b ρ σ
noncomputable def kIf (T:Tab) (C:Calls) (N nb:Nat) (a b:MS) (ρ:L):Option (V×St)->Option Fl:=fun x=>x.bind fun (v,σ)=>kIf2 T C N nb a b ρ σ (truth σ v)
noncomputable def kAsr2 (ρ:L) (σ:St):Option Bool->Option Fl:=fun x=>x.bind fun t=>if t then some (.next ρ σ) else none
noncomputable def kAsr (ρ:L):Option (V×St)->Option Fl:=fun x=>x.bind fun (v,σ)=>kAsr2 ρ σ (truth σ v)
noncomputable def kRet:Option (V×St)->Option Fl:=fun x=>x.map fun (v,σ)=>.ret v σ
noncomputable def kF (keep:Bool) (n:Nat):Option Fl->Option (V×St):=fun x=>x.bind fun f=>match f with
    | .next _ σ'=>some (.none,if keep then σ' else gcS n σ')
    | .ret v σ'=>some (if keep then (v,σ') else (frz σ' n 6 v,gcS n σ'))
    | .brk _ _=>none
noncomputable def kW2:Option Bool->St->Option (Bool×St):=fun x σ=>x.map fun b=>(b,σ)
noncomputable def kW1:Option (V×St)->Option (Bool×St):=fun x=>x.bind fun (v,σ)=>kW2 (truth σ v) σ
noncomputable def kB (f:L->St->Option Fl):Option Fl->Option Fl:=fun x=>x.bind fun r=>match r with
    | .next ρ σ=>f ρ σ
    | .brk ρ σ=>some (.next ρ σ)
    | .ret v σ=>some (.ret v σ)
noncomputable def kL (T:Tab) (C:Calls) (N nb:Nat) (a:MS):Option (L×St)->Option Fl:=fun x=>x.bind fun (ρ,σ)=>ex T C N nb a ρ σ
noncomputable def wc (T:Tab) (C:Calls) (c:ME):L->St->Option (Bool×St):=fun ρ σ=>kW1 (ev T C c ρ σ)
noncomputable def wb (T:Tab) (C:Calls) (N nb:Nat) (a:MS):L->St->Option Fl:=fun ρ σ=>ex T C N nb a ρ σ
noncomputable def fb (T:Tab) (C:Calls) (N nb:Nat) (t:ME) (a:MS):V->L->St->Option Fl:=fun v ρ σ=>kL T C N nb a (asgn T C t v ρ σ)
noncomputable def kFr2 (f:V->L->St->Option Fl) (ρ:L) (σ:St):Option (List V)->Option Fl:=fun x=>x.bind fun vs=>forL f vs ρ σ
noncomputable def kFr (T:Tab) (N:Nat) (f:V->L->St->Option Fl) (ρ:L):Option (V×St)->Option Fl:=fun x=>x.bind fun (v,σ)=>match asOb v with
  | some i=>forO f i N 0 ρ σ
  | none=>kFr2 f ρ σ (itemsV T v)
section
variable {T:Tab} {C:Calls} {N nb:Nat} {ρ:L} {σ:St}
theorem AL (v):ev T C (.cst v) ρ σ=some (v,σ):=rfl
theorem An (x):ev T C (.loc x) ρ σ=kv (lk ρ x) σ:=rfl
theorem CM (x):ev T C (.glo x) ρ σ=kv (T.glo x) σ:=rfl
theorem Ck (e n):ev T C (.attr e n) ρ σ=kAttr T n (ev T C e ρ σ):=rfl
theorem Ft (m o l r):ev T C (.bin m o l r) ρ σ=kBin1 T C m o r ρ (ev T C l ρ σ):=rfl
theorem ev_neg (e):ev T C (.neg e) ρ σ=kNeg (ev T C e ρ σ):=rfl
theorem CN (e):ev T C (.not e) ρ σ=kNot (ev T C e ρ σ):=rfl
theorem DQ (o l r):ev T C (.cmp o l r) ρ σ=kCmp1 T C o r ρ (ev T C l ρ σ):=rfl
theorem DR (o o' a b c):ev T C (.cmp2 o o' a b c) ρ σ=kCc1 T C o o' b c ρ (ev T C a ρ σ):=rfl
theorem Aw (o es):ev T C (.boo o es) ρ σ=evB T C o es ρ σ:=rfl
theorem ev_sub (e i):ev T C (.sub e i) ρ σ=kSub1 T C i ρ (ev T C e ρ σ):=rfl
theorem Fu (e l u):ev T C (.slc e l u) ρ σ=kSlc1 T C l u ρ (ev T C e ρ σ):=rfl
theorem Fv (es):ev T C (.tup es) ρ σ=kTup (evs T C es ρ σ):=rfl
theorem ev_lst (m es):ev T C (.lst m es) ρ σ=kLst m (evs T C es ρ σ):=rfl
theorem ev_dct (m ks es):ev T C (.dct m ks es) ρ σ=kDct m ks (evs T C es ρ σ):=rfl
theorem ev_cal (x es):ev T C (.cal x es) ρ σ=kCal T C es ρ σ (T.fnG x):=rfl
theorem ev_new (x es):ev T C (.new x es) ρ σ=kNew T C es ρ σ (T.clsG x):=rfl
theorem DS (x es):ev T C (.bui x es) ρ σ=kBui T C x es ρ σ (T.buiG x):=rfl
theorem ev_met (o n es):ev T C (.met o n es [] .nil) ρ σ=kMet1 T C n es ρ (ev T C o ρ σ):=rfl
theorem evsN:evs T C .nil ρ σ=some ([],σ):=rfl
theorem evsK (a b):evs T C (.cons a b) ρ σ=kCs1 T C b ρ (ev T C a ρ σ):=rfl
theorem AH (o a):evB T C o (.cons a .nil) ρ σ=ev T C a ρ σ:=rfl
theorem AW (o a b c):evB T C o (.cons a (.cons b c)) ρ σ=kBoo T C o (.cons b c) ρ (ev T C a ρ σ):=rfl
theorem B1:ex T C N nb .nil ρ σ=some (.next ρ σ):=rfl
theorem Ac (s r):ex T C N nb (.cons s r) ρ σ=kS T C N nb r (ex T C N nb s ρ σ):=rfl
theorem ex_gc (k r):ex T C N nb (.gc k r) ρ σ=ex T C N nb r (gcL (nb+k) σ ρ) (gcS (nb+k) σ):=rfl
theorem G5 (e):ex T C N nb (.expr e) ρ σ=kX ρ (ev T C e ρ σ):=rfl
theorem CP (t e):ex T C N nb (.asg t e) ρ σ=kAs T C t ρ (ev T C e ρ σ):=rfl
theorem G6 (x o e):ex T C N nb (.aug (.loc x) o e) ρ σ=kAg1 T C x o e ρ σ (lk ρ x):=rfl
theorem ex_aug2 (u n o e):ex T C N nb (.aug (.attr u n) o e) ρ σ=kAA1 T C n o e ρ (ev T C u ρ σ):=rfl
theorem ex_aug3 (u i o e):ex T C N nb (.aug (.sub u i) o e) ρ σ=kAI1 T C i o e ρ (ev T C u ρ σ):=rfl
theorem AM (c a b):ex T C N nb (.ifs c a b) ρ σ=kIf T C N nb a b ρ (ev T C c ρ σ):=rfl
theorem BE (x it a) (h:hasGc a=false):ex T C N nb (.fors (.loc x) it a) ρ σ=kFr T N (fb T C N nb (.loc x) a) ρ (ev T C it ρ σ):=by
  have e:ex T C N nb (.fors (.loc x) it a) ρ σ=(ev T C it ρ σ).bind fun (z,σ)=>match asOb z with
    | some i=>if (isLoc (.loc x)&&!hasGc a)=true then forO (fb T C N nb (.loc x) a) i N 0 ρ σ else none
    | none=>(itemsV T z).bind fun vs=>if (okF (.loc x) z&&(!hasGc a || vs.all scal))=true then forL (fb T C N nb (.loc x) a) vs ρ σ else none:=rfl
  rw [e,h];cases ev T C it ρ σ with
  | none=>rfl
  | some z=>
    obtain ⟨v,σ⟩:=z;cases v<;>rfl
noncomputable def kRep (x y:List Nat):Option (V×St)->Option (V×St):=fun z=>z.bind fun (a,σ)=>(asS a).bind fun l=>if l.length<=4000/\x≠[]/\y.length<=4/\x≠y then some (.str (replL x y l),σ) else none
theorem ev_rep (e x y):ev T C (.rep e x y) ρ σ=kRep x y (ev T C e ρ σ):=rfl
theorem kRep_s (x y l:List Nat) (h:l.length<=4000/\x≠[]/\y.length<=4/\x≠y):kRep x y (some (.str l,σ))=some (.str (replL x y l),σ):=if_pos h
theorem ex_tlp {x o n es a y q c vs} (h1:ev T C o ρ σ=some (q,σ)) (h2:getM T q n σ=some c) (h3:evs T C es ρ σ=some (vs,σ)):ex T C N nb (.tlp x o n es a y) ρ σ=if lpC T c vs=true then some (.next (put ρ y .none) σ) else (calM C c vs [] σ).bind fun (v,σ)=>ex T C N nb a (put ρ x v) σ:=by
  show (ev T C o ρ σ).bind _=_;rw [h1];show (getM T q n σ).bind _=_;rw [h2];show (evs T C es ρ σ).bind _=_;rw [h3];rfl
noncomputable def cB (T:Tab) (C:Calls) (fv:List String) (elt t conds:ME) (ρ:L):V->St->Option (Option V×St):=fun v σ=>(bindP t v (ρ.filter fun e=>fv.contains e.1)).bind fun ρ=>(evC T C conds ρ σ).bind fun (b,σ)=>if b then (ev T C elt ρ σ).map fun (r,σ)=>(some r,σ) else some (none,σ)
theorem Cm {fv elt t it conds a vs rs σ1 σ2} (h1:ev T C it ρ σ=some (a,σ1)) (h2:itemsV T a=some vs) (h0:okF t a=true) (h3:vs.length<=big) (h4:cmprL (cB T C fv elt t conds ρ) vs σ1=some (rs,σ2)):ev T C (.cmpr fv elt t it conds) ρ σ=some (.lst rs,σ2):=by
  show (ev T C it ρ σ).bind _=_;rw [h1];show (itemsV T a).bind _=_;rw [h2];show (if okF t a=true then (cmprL (cB T C fv elt t conds ρ) vs σ1).bind _ else none)=_
  rw [if_pos h0,h4];exact if_pos h3
theorem ev_cmpz {fv elt t e1 e2 conds a b vs rs σ1 σ2 σ3} (h0:(T.buiG "zip"&&isTup t)=true) (h1:ev T C e1 ρ σ=some (a,σ1)) (h2:ev T C e2 ρ σ1=some (b,σ2)) (hz:asLs2 a b=some vs) (h3:vs.length<=big) (h4:cmprL (cB T C fv elt t conds ρ) vs σ2=some (rs,σ3)):ev T C (.cmpz fv elt t e1 e2 conds) ρ σ=some (.lst rs,σ3):=by
  show (if (T.buiG "zip"&&isTup t)=true then (ev T C e1 ρ σ).bind _ else none)=_
  rw [if_pos h0,h1];show (ev T C e2 ρ σ1).bind _=_;rw [h2];show (asLs2 a b).bind _=_;rw [hz];show (cmprL (cB T C fv elt t conds ρ) vs σ2).bind _=_;rw [h4];exact if_pos h3
theorem B2 {f:V->St->Option (Option V×St)} {p:V->Bool}:∀{vs:List V},(∀v∈vs,f v σ=some (if p v then some v else none,σ))->cmprL f vs σ=some (vs.filter p,σ)
  | [],_=>rfl
  | v::vs,h=>by
    show (f v σ).bind _=_;rw [h v List.mem_cons_self];show (cmprL f vs σ).map _=_;rw [B2 fun v hv=>h v (List.mem_cons_of_mem _ hv),List.filter_cons]
    cases p v<;>rfl
theorem Bb (e):ex T C N nb (.ret e) ρ σ=kRet (ev T C e ρ σ):=rfl
theorem ex_brk:ex T C N nb .brk ρ σ=some (.brk ρ σ):=rfl
theorem ex_asr (e):ex T C N nb (.asr e) ρ σ=kAsr ρ (ev T C e ρ σ):=rfl
theorem Ax (keep body):fcall T C N keep body ρ σ=kF keep σ.length (ex T C N σ.length body ρ σ):=rfl
theorem Ay (x v):asgn T C (.loc x) v ρ σ=some (put ρ x v,σ):=rfl
theorem Bh (e n v):asgn T C (.attr e n) v ρ σ=kSA T n v ρ (ev T C e ρ σ):=rfl
theorem EF (ts vs):asgn T C (.tup ts) (.tup vs) ρ σ=asgns T C ts vs ρ σ:=rfl
theorem Dr:asgns T C .nil [] ρ σ=some (ρ,σ):=rfl
theorem Bu (t ts v vs):asgns T C (.cons t ts) (v::vs) ρ σ=kTs T C ts vs (asgn T C t v ρ σ):=rfl
theorem kv_s (v):kv (some v) σ=some (v,σ):=rfl
theorem kBl_s (v):kBl (some v) σ=some (.bool v,σ):=rfl
theorem Cn (n v):kAttr T n (some (v,σ))=kv (attrV T v n σ) σ:=rfl
theorem DT (m o a b):kBin2 m o a (some (b,σ))=bin m o a b σ:=rfl
theorem DU (m o r a):kBin1 T C m o r ρ (some (a,σ))=kBin2 m o a (ev T C r ρ σ):=rfl
theorem kNeg_s (i):kNeg (some (.int i,σ))=some (.int (-i),σ):=rfl
theorem G7 (b):kNot2 (some b) σ=some (.bool (!b),σ):=rfl
theorem Fw (v):kNot (some (v,σ))=kNot2 (truth σ v) σ:=rfl
theorem Bj (o a b):kCmp2 T o a (some (b,σ))=kBl (cmpV T o a b σ) σ:=rfl
theorem Co (o r a):kCmp1 T C o r ρ (some (a,σ))=kCmp2 T o a (ev T C r ρ σ):=rfl
theorem Fx (o c b):kCc3 T C o c ρ b σ (some true)=kCmp2 T o b (ev T C c ρ σ):=rfl
theorem kCc3_f (o c b):kCc3 T C o c ρ b σ (some false)=some (.bool false,σ):=rfl
theorem Fy (o o' a c b):kCc2 T C o o' a c ρ (some (b,σ))=kCc3 T C o' c ρ b σ (cmpV T o a b σ):=rfl
theorem Fz (o o' b c a):kCc1 T C o o' b c ρ (some (a,σ))=kCc2 T C o o' a c ρ (ev T C b ρ σ):=rfl
theorem kBoo2_af (b v):kBoo2 T C .And b ρ v σ (some false)=some (v,σ):=rfl
theorem CQ (b v):kBoo2 T C .And b ρ v σ (some true)=evB T C .And b ρ σ:=rfl
theorem EG (b v):kBoo2 T C .Or b ρ v σ (some false)=evB T C .Or b ρ σ:=rfl
theorem B3 (o b v):kBoo T C o b ρ (some (v,σ))=kBoo2 T C o b ρ v σ (truth σ v):=rfl
theorem G8 (a k):kSub2 T a (some (k,σ))=kv (subV T a k σ) σ:=rfl
theorem G9 (i a):kSub1 T C i ρ (some (a,σ))=kSub2 T a (ev T C i ρ σ):=rfl
theorem DV (a l u):kSlc3 a l (some (u,σ))=kv (slcV a l u σ) σ:=rfl
theorem DW (a u l):kSlc2 T C a u ρ (some (l,σ))=kSlc3 a l (ev T C u ρ σ):=rfl
theorem DX (l u a):kSlc1 T C l u ρ (some (a,σ))=kSlc2 T C a u ρ (ev T C l ρ σ):=rfl
theorem kTup_2 (a b):kTup (some ([a,b],σ))=some (.tup [a,b],σ):=rfl
theorem kTup_3 (a b c):kTup (some ([a,b,c],σ))=some (.tup [a,b,c],σ):=rfl
theorem kLstt_0:kLst true (some ([],σ))=some (.obj σ.length,σ++[.list []]):=rfl
theorem FA (ks vs) (h:ks.length=vs.length) (h2:((ks.zip vs).map Prod.fst).Nodup/\(ks.zip vs).length<=12):kDct false ks (some (vs,σ))=some (.dct (ks.zip vs),σ):=by
  show (if _ then _ else _)=_
  rw [if_pos h];show (if _ then _ else _)=_
  rw [if_pos h2];rfl
theorem Ha (f vs):kCal2 C f (some (vs,σ))=C f vs [] σ:=rfl
theorem kCal_s (es f):kCal T C es ρ σ (some f)=kCal2 C f (evs T C es ρ σ):=rfl
theorem kNew3_s (σ0):kNew3 σ0 (some (.none,σ))=some (.obj σ0.length,σ):=rfl
theorem kNew2_s (K f vs):kNew2 C K f (some (vs,σ))=kNew3 σ (C f (.obj σ.length::vs) [] (σ++[.inst K []])):=rfl
theorem kNew_s (es K f):kNew T C es ρ σ (some (K,f))=kNew2 C K f (evs T C es ρ σ):=rfl
theorem Cp (x vs):kBui2 T x (some (vs,σ))=bui T x vs σ:=rfl
theorem DY (x es):kBui T C x es ρ σ true=kBui2 T x (evs T C es ρ σ):=rfl
theorem Hb (c vs):kMet3 C c (some (vs,σ))=calM C c vs [] σ:=rfl
theorem Hc (es c):kMet2 T C es ρ σ (some c)=kMet3 C c (evs T C es ρ σ):=rfl
theorem He (n es a):kMet1 T C n es ρ (some (a,σ))=kMet2 T C es ρ σ (getM T a n σ):=rfl
theorem Bv (v vs):kCs2 v (some (vs,σ))=some (v::vs,σ):=rfl
theorem Bc (b v):kCs1 T C b ρ (some (v,σ))=kCs2 v (evs T C b ρ σ):=rfl
theorem kS_n (r ρ'):kS T C N nb r (some (.next ρ' σ))=ex T C N nb r ρ' σ:=rfl
theorem kS_b (r ρ'):kS T C N nb r (some (.brk ρ' σ))=some (.brk ρ' σ):=rfl
theorem kS_r (r v):kS T C N nb r (some (.ret v σ))=some (.ret v σ):=rfl
theorem kX_s (v):kX ρ (some (v,σ))=some (.next ρ σ):=rfl
theorem FB:kAs2 (some (ρ,σ))=some (.next ρ σ):=rfl
theorem kAs_s (t v):kAs T C t ρ (some (v,σ))=kAs2 (asgn T C t v ρ σ):=rfl
theorem FC:kSA2 ρ (some σ)=some (ρ,σ):=rfl
theorem kSA_s (n v o):kSA T n v ρ (some (o,σ))=kSA2 ρ (setA T o n v σ):=rfl
theorem kTs_s (ts vs):kTs T C ts vs (some (ρ,σ))=asgns T C ts vs ρ σ:=rfl
theorem kNx_s:kNx ρ (some σ)=some (.next ρ σ):=rfl
theorem kAg3_s (x c):kAg3 x ρ σ (some c)=some (.next (put ρ x c) σ):=rfl
theorem kAg2_s (x o a b):kAg2 x o a ρ (some (b,σ))=kAg3 x ρ σ (augB o a b):=rfl
theorem kAg1_s (x o e a):kAg1 T C x o e ρ σ (some a)=kAg2 x o a ρ (ev T C e ρ σ):=rfl
theorem kAA4_s (q n c):kAA4 T q n ρ σ (some c)=kNx ρ (setA T q n c σ):=rfl
theorem kAA3_s (q n o a b):kAA3 T q n o a ρ (some (b,σ))=kAA4 T q n ρ σ (augB o a b):=rfl
theorem kAA2_s (q n o e a):kAA2 T C q n o e ρ σ (some a)=kAA3 T q n o a ρ (ev T C e ρ σ):=rfl
theorem kAA1_s (n o e q):kAA1 T C n o e ρ (some (q,σ))=kAA2 T C q n o e ρ σ (attrV T q n σ):=rfl
theorem kAI5_s (q k c):kAI5 q k ρ σ (some c)=kNx ρ (setI q k c σ):=rfl
theorem kAI4_s (q k o a b):kAI4 q k o a ρ (some (b,σ))=kAI5 q k ρ σ (augB o a b):=rfl
theorem kAI3_s (q k o e a):kAI3 T C q k o e ρ σ (some a)=kAI4 q k o a ρ (ev T C e ρ σ):=rfl
theorem kAI2_s (q o e k):kAI2 T C q o e ρ (some (k,σ))=kAI3 T C q k o e ρ σ (subV T q k σ):=rfl
theorem kAI1_s (i o e q):kAI1 T C i o e ρ (some (q,σ))=kAI2 T C q o e ρ (ev T C i ρ σ):=rfl
theorem FD (a b):kIf2 T C N nb a b ρ σ (some true)=ex T C N nb a ρ σ:=rfl
theorem DZ (a b):kIf2 T C N nb a b ρ σ (some false)=ex T C N nb b ρ σ:=rfl
theorem CR (a b v):kIf T C N nb a b ρ (some (v,σ))=kIf2 T C N nb a b ρ σ (truth σ v):=rfl
theorem kAsr2_s:kAsr2 ρ σ (some true)=some (.next ρ σ):=rfl
theorem kAsr_s (v):kAsr ρ (some (v,σ))=kAsr2 ρ σ (truth σ v):=rfl
theorem D0 (v):kRet (some (v,σ))=some (.ret v σ):=rfl
theorem kF_n (n ρ'):kF true n (some (.next ρ' σ))=some (.none,σ):=rfl
theorem kF_r (n v):kF true n (some (.ret v σ))=some (v,σ):=rfl
theorem kF_rf (n v):kF false n (some (.ret v σ))=some (frz σ n 6 v,gcS n σ):=rfl
theorem kW2_s (b):kW2 (some b) σ=some (b,σ):=rfl
theorem kW1_s (v):kW1 (some (v,σ))=kW2 (truth σ v) σ:=rfl
theorem EH (c):wc T C c ρ σ=kW1 (ev T C c ρ σ):=rfl
theorem CS (a):wb T C N nb a ρ σ=ex T C N nb a ρ σ:=rfl
theorem Cd (t a v):fb T C N nb t a v ρ σ=kL T C N nb a (asgn T C t v ρ σ):=rfl
theorem kL_s (a ρ'):kL T C N nb a (some (ρ',σ))=ex T C N nb a ρ' σ:=rfl
theorem D1 (f vs):kFr2 f ρ σ (some vs)=forL f vs ρ σ:=rfl
theorem kFr_s (f:V->L->St->Option Fl) (v:V) (h:asOb v=none):kFr T N f ρ (some (v,σ))=kFr2 f ρ σ (itemsV T v):=by
  show (match asOb v with | some i=>forO f i N 0 ρ σ | none=>kFr2 f ρ σ (itemsV T v))=_
  rw [h]
theorem kFr_o (f:V->L->St->Option Fl) (i:Nat):kFr T N f ρ (some (.obj i,σ))=forO f i N 0 ρ σ:=rfl
theorem kB_n (f ρ'):kB f (some (.next ρ' σ))=f ρ' σ:=rfl
theorem kB_b (f):kB f (some (.brk ρ σ))=some (.next ρ σ):=rfl
theorem forL_nil (f):forL f [] ρ σ=some (.next ρ σ):=rfl
theorem AS (f v vs):forL f (v::vs) ρ σ=kB (forL f vs) (f v ρ σ):=rfl
theorem CT {c f} {n:Nat} {σ':St} (h:c ρ σ=some (true,σ')):whlL c f (n+1) ρ σ=kB (whlL c f n) (f ρ σ'):=by
  show (c ρ σ).bind _=_;rw [h];rfl
theorem Ds {c f} {n:Nat} {σ':St} (h:c ρ σ=some (false,σ')):whlL c f (n+1) ρ σ=some (.next ρ σ'):=by
  show (c ρ σ).bind _=_;rw [h];rfl
theorem AN (x v):lk ((x,v)::ρ) x=some v:=if_pos rfl
theorem As {x y} (v) (h:y≠x):lk ((y,v)::ρ) x=lk ρ x:=if_neg h
theorem put_nil (x v):put [] x v=[(x,v)]:=rfl
theorem Cq (x v u):put ((x,v)::ρ) x u=(x,u)::ρ:=if_pos rfl
theorem BF {x y} (v u) (h:y≠x):put ((y,v)::ρ) x u=(y,v)::put ρ x u:=if_neg h
theorem Hf (f first as):calM C (.fn f first) as [] σ=C f (first++as) [] σ:=rfl
theorem calM_mt (f i as):calM C (.mt f i) as [] σ=C f (.obj i::as) [] σ:=rfl
theorem calM_bm (o n as):calM C (.bm o n) as [] σ=bmet o n as σ:=rfl
theorem AQ (b):truth σ (.bool b)=some b:=rfl
theorem Hg (m a b):bin m .Add (.int a) (.int b) σ=some (.int (a+b),σ):=rfl
theorem bin_sub (m a b):bin m .Sub (.int a) (.int b) σ=some (.int (a - b),σ):=rfl
theorem Bk (m a b) (h:b≠0):bin m .Mod (.int a) (.int b) σ=some (.int (a.fmod b),σ):=congrArg (Option.map fun i=>(V.int i,σ)) (if_pos h:(if b≠0 then some (a.fmod b) else none)=_)
theorem Ag (m a b) (h:a.length+b.length<=big):bin m .Add (.str a) (.str b) σ=some (.str (a++b),σ):=if_pos h
theorem c_eqi (a b):cmpV T .Eq (.int a) (.int b) σ=some (a==b):=rfl
theorem c_eqs (a b):cmpV T .Eq (.str a) (.str b) σ=some (decide (a=b)):=rfl
theorem c_eqb (a b):cmpV T .Eq (.bool a) (.bool b) σ=some (a==b):=rfl
theorem c_eqsn (b):cmpV T .Eq (.str b) .none σ=some false:=rfl
theorem c_nei (a b):cmpV T .NotEq (.int a) (.int b) σ=some (!(a==b)):=rfl
theorem c_nes (a b):cmpV T .NotEq (.str a) (.str b) σ=some (!(decide (a=b))):=rfl
theorem c_lt (a b):cmpV T .Lt (.int a) (.int b) σ=some (decide (a < b)):=rfl
theorem c_le (a b):cmpV T .LtE (.int a) (.int b) σ=some (decide (a<=b)):=rfl
theorem c_gt (a b):cmpV T .Gt (.int a) (.int b) σ=some (decide (b < a)):=rfl
theorem c_ge (a b):cmpV T .GtE (.int a) (.int b) σ=some (decide (b<=a)):=rfl
theorem c_isn:cmpV T .Is .none .none σ=some true:=rfl
theorem c_isi (x):cmpV T .Is (.int x) .none σ=some false:=rfl
theorem c_inn:cmpV T .IsNot .none .none σ=some false:=rfl
theorem c_ins (x):cmpV T .IsNot (.str x) .none σ=some true:=rfl
theorem c_in (a b):cmpV T .In a b σ=vin T σ a b:=rfl
theorem aug_i (a b):augB .Add (.int a) (.int b)=some (.int (a+b)):=rfl
theorem aug_m (a b):augB .Sub (.int a) (.int b)=some (.int (a - b)):=rfl
theorem aug_s (a b) (h:a.length+b.length<=big):augB .Add (.str a) (.str b)=some (.str (a++b)):=if_pos h
theorem up_ok {c:Nat} {k:Int} (h0:0<=k) (h1:k<=half):upTo (.str [c],.int 0,.int k)=some (c,k.toNat):=if_pos ⟨rfl,h0,h1⟩
theorem m_cnt4 {l:List Nat} {c:Nat} {k:Int} (h:l.length<=big) (h0:0<=k) (h1:k<=half):bmet (.str l) "count" [.str [c],.int 0,.int k] σ=some (.int (cnt1 c (l.take k.toNat)),σ):=
  (if_pos h).trans ((if_pos rfl).trans (congrArg (Option.map fun q:Nat×Nat=>(V.int (cnt1 q.1 (l.take q.2)),σ)) (up_ok h0 h1)))
theorem m_rf4 {l:List Nat} {c:Nat} {k:Int} (h:l.length<=big) (h0:0<=k) (h1:k<=half):bmet (.str l) "rfind" [.str [c],.int 0,.int k] σ=some (.int (rfind1 c (l.take k.toNat)),σ):=
  (if_pos h).trans ((if_neg (by decide)).trans ((if_pos rfl).trans (congrArg (Option.map fun q:Nat×Nat=>(V.int (rfind1 q.1 (l.take q.2)),σ)) (up_ok h0 h1))))
theorem u_join {l:List Nat} (as):bmS l "join" as σ=(as1 as).bind fun a=>bJoin l a σ:=(if_neg (by decide)).trans ((if_neg (by decide)).trans (if_pos rfl))
theorem FE {a:V} {ss:List (List Nat)} {vs:List V} (h:listOf σ a=some vs) (h1:toStrs vs=some ss) (h2:ss.flatten.length<=big):bmet (.str []) "join" [a] σ=some (.str ss.flatten,σ):=by
  refine (if_pos (Nat.zero_le _):(if ([]:List Nat).length<=big then bmS [] "join" [a] σ else none)=_).trans ((u_join _).trans ?_)
  show bJoin [] a σ=_;unfold bJoin;rw [h,Option.bind_some,if_pos rfl,h1,Option.bind_some,if_pos h2]
theorem m_app {i:Nat} {vs:List V} {x:V} (h:objL σ i=some vs) (h1:vs.length < big):bmet (.obj i) "append" [x] σ=some (.none,σ.set i (.list (vs++[x]))):=by
  show (objL σ i).bind _=_;rw [h,Option.bind_some];exact (if_pos rfl).trans (if_pos h1)
theorem m_pop {i:Nat} {vs:List V} {x:V} (h:objL σ i=some vs) (h1:vs.getLast? = some x) (h2:vs.length<=big):bmet (.obj i) "pop" [] σ=some (x,σ.set i (.list vs.dropLast)):=by
  show (objL σ i).bind _=_;rw [h,Option.bind_some];refine (if_neg (by decide)).trans ((if_pos rfl).trans ((if_pos ⟨rfl,h2⟩).trans ?_))
  rw [h1];rfl
theorem s_seq {a:V} {vs:List V} {k:Int} {j:Nat} {v:V} (h:seqOf σ a=some vs) (hk:-half<=k/\k<=half) (hj:idx? k vs.length=some j) (hv:vs[j]? = some v):(seqOf σ a).bind (fun vs=>if -half<=k/\k<=half then (idx? k vs.length).bind fun j=>vs[j]? else none)=some v:=by
  rw [h,Option.bind_some,if_pos hk,hj];exact hv
theorem s_obj {i:Nat} {vs:List V} {k:Int} {j:Nat} {v:V} (h:objL σ i=some vs) (hk:-half<=k/\k<=half) (hj:idx? k vs.length=some j) (hv:vs[j]? = some v):subV T (.obj i) (.int k) σ=some v:=s_seq (a:=.obj i) h hk hj hv
theorem Dt {vs:List V} {k:Int} {j:Nat} {v:V} (hk:-half<=k/\k<=half) (hj:idx? k vs.length=some j) (hv:vs[j]? = some v):subV T (.lst vs) (.int k) σ=some v:=s_seq (σ:=σ) (a:=.lst vs) rfl hk hj hv
theorem s_str {l:List Nat} {k:Int} {j c:Nat} (hk:-half<=k/\k<=half) (hj:idx? k l.length=some j) (hv:l[j]? = some c):subV T (.str l) (.int k) σ=some (.str [c]):=by
  refine (if_pos hk).trans ?_
  rw [hj,Option.bind_some,hv];rfl
theorem D2 {x:List Nat} {a b:V} {l u:Option Int} (ha:bound a=some l) (hb:bound b=some u) (h:x.length<=big):slcV (.str x) a b σ=some (.str (cut l u x)):=by
  unfold slcV;rw [ha,Option.bind_some,hb];exact if_pos h
theorem sl_lst {x:List V} {a b:V} {l u:Option Int} (ha:bound a=some l) (hb:bound b=some u) (h:x.length<=big):slcV (.lst x) a b σ=some (.lst (cut l u x)):=by
  unfold slcV;rw [ha,Option.bind_some,hb];exact if_pos h
theorem sl_obj {i:Nat} {x:List V} {a b:V} {l u:Option Int} (ha:bound a=some l) (hb:bound b=some u) (hx:objL σ i=some x) (h:x.length<=big):slcV (.obj i) a b σ=some (.lst (cut l u x)):=by
  unfold slcV;rw [ha,Option.bind_some,hb];show (objL σ i).bind _=_;rw [hx];exact if_pos h
theorem u_len (as):bui T "len" as σ=(as1 as).bind fun a=>buiLen a σ:=if_pos rfl
theorem u_ord (as):bui T "ord" as σ=(as1 as).bind fun a=>buiOrd a σ:=(if_neg (by decide)).trans (if_pos rfl)
theorem u_sum (as):bui T "sum" as σ=(as1 as).bind fun a=>buiSum a σ:=(if_neg (by decide)).trans ((if_neg (by decide)).trans (if_pos rfl))
theorem u_rng (as):bui T "range" as σ=buiRng as σ:=(if_neg (by decide)).trans ((if_neg (by decide)).trans ((if_neg (by decide)).trans (if_pos rfl)))
theorem b_rng2 {a b:Int} (h:-half<=b/\b<=half/\-half<=a/\a<=half):bui T "range" [.int a,.int b] σ=some (.rng a b 1,σ):=(u_rng _).trans (if_pos h)
theorem Du (l) (h:l.length<=big):bui T "len" [.str l] σ=some (.int l.length,σ):=(u_len _).trans (if_pos h)
theorem b_ord (c):bui T "ord" [.str [c]] σ=some (.int c,σ):=u_ord _
end
theorem Bd:Tc.buiG "len" = true:=by decide +kernel
theorem tc_ord:Tc.buiG "ord" = true:=by decide +kernel
theorem tc_sum:Tc.buiG "sum" = true:=by decide +kernel
theorem tc_range:Tc.buiG "range" = true:=by decide +kernel
section
variable {C:Calls} {ρ:L} {σ σ1 σ2 σ3 σ4:St} {N nb:Nat} {a b c d:ME} {u v w z:V} {x y n:String} {rest A B:MS} {m t:Bool} {f:Addr}
theorem jl (h:lk ρ x=some v):ev Tc C (.loc x) ρ σ=some (v,σ):=by rw [An,h];rfl
theorem jbin {o:Operator} (h1:ev Tc C a ρ σ=some (u,σ1)) (h2:ev Tc C b ρ σ1=some (v,σ2)) (h3:bin m o u v σ2=some (w,σ3)):ev Tc C (.bin m o a b) ρ σ=some (w,σ3):=by rw [Ft,h1,DU,h2,DT,h3]
theorem jcmp {o:CmpOp} (h1:ev Tc C a ρ σ=some (u,σ1)) (h2:ev Tc C b ρ σ1=some (v,σ2)) (h3:cmpV Tc o u v σ2=some t):ev Tc C (.cmp o a b) ρ σ=some (.bool t,σ2):=by rw [DQ,h1,Co,h2,Bj,h3];rfl
theorem jsub (h1:ev Tc C a ρ σ=some (u,σ1)) (h2:ev Tc C b ρ σ1=some (v,σ2)) (h3:subV Tc u v σ2=some w):ev Tc C (.sub a b) ρ σ=some (w,σ2):=by rw [ev_sub,h1,G9,h2,G8,h3];rfl
theorem jslc (h1:ev Tc C a ρ σ=some (u,σ1)) (h2:ev Tc C b ρ σ1=some (v,σ2)) (h3:ev Tc C c ρ σ2=some (w,σ3)) (h4:slcV u v w σ3=some z):ev Tc C (.slc a b c) ρ σ=some (z,σ3):=by rw [Fu,h1,DX,h2,DW,h3,DV,h4];rfl
theorem Ak (h1:ev Tc C a ρ σ=some (u,σ1)) (h2:attrV Tc u n σ1=some v):ev Tc C (.attr a n) ρ σ=some (v,σ1):=by rw [Ck,h1,Cn,h2];rfl
theorem js1 (h1:ev Tc C a ρ σ=some (u,σ1)):evs Tc C (.cons a .nil) ρ σ=some ([u],σ1):=by rw [evsK,h1];rfl
theorem jsc {us:List V} (h1:ev Tc C a ρ σ=some (u,σ1)) (h2:evs Tc C b ρ σ1=some (us,σ2)):evs Tc C (.cons a b) ρ σ=some (u::us,σ2):=by rw [evsK,h1,Bc,h2];rfl
theorem jtup (h1:ev Tc C a ρ σ=some (u,σ1)) (h2:ev Tc C b ρ σ1=some (v,σ2)):ev Tc C (.tup (.cons a (.cons b .nil))) ρ σ=some (.tup [u,v],σ2):=by rw [Fv,jsc h1 (js1 h2)];rfl
theorem jcal {us:List V} (hf:Tc.fnG x=some f) (h1:evs Tc C a ρ σ=some (us,σ1)) (h:C f us [] σ1=some (w,σ2)):ev Tc C (.cal x a) ρ σ=some (w,σ2):=by rw [ev_cal,hf,kCal_s,h1,Ha,h]
theorem jbui {us:List V} (hb:Tc.buiG x=true) (h1:evs Tc C a ρ σ=some (us,σ1)) (h:bui Tc x us σ1=some (w,σ2)):ev Tc C (.bui x a) ρ σ=some (w,σ2):=by rw [DS,hb,DY,h1,Cp,h]
theorem jmet {us:List V} {k:Cal} (h0:ev Tc C b ρ σ=some (u,σ1)) (hc:getM Tc u n σ1=some k) (h1:evs Tc C a ρ σ1=some (us,σ2)) (h:calM C k us [] σ2=some (w,σ3)):ev Tc C (.met b n a [] .nil) ρ σ=some (w,σ3):=by rw [ev_met,h0,He,hc,Hc,h1,Hb,h]
theorem jasg (h:ev Tc C c ρ σ=some (v,σ1)):ex Tc C N nb (.cons (.asg (.loc x) c) rest) ρ σ=ex Tc C N nb rest (put ρ x v) σ1:=by rw [Ac,CP,h];rfl
theorem jasa (h:ev Tc C c ρ σ=some (v,σ1)) (h1:lk ρ y=some u) (h2:setA Tc u n v σ1=some σ2):ex Tc C N nb (.cons (.asg (.attr (.loc y) n) c) rest) ρ σ=ex Tc C N nb rest ρ σ2:=by rw [Ac,CP,h,kAs_s,Bh,jl h1,kSA_s,h2];rfl
theorem jexp (h:ev Tc C c ρ σ=some (v,σ1)):ex Tc C N nb (.cons (.expr c) rest) ρ σ=ex Tc C N nb rest ρ σ1:=by rw [Ac,G5,h];rfl
theorem jret (h:ev Tc C c ρ σ=some (v,σ1)):ex Tc C N nb (.cons (.ret c) rest) ρ σ=some (.ret v σ1):=by rw [Ac,Bb,h];rfl
theorem jiff (h:ev Tc C c ρ σ=some (.bool false,σ1)):ex Tc C N nb (.cons (.ifs c A .nil) rest) ρ σ=ex Tc C N nb rest ρ σ1:=by rw [Ac,AM,h];rfl
theorem jift {r:Option Fl} (h:ev Tc C c ρ σ=some (.bool true,σ1)) (hA:ex Tc C N nb A ρ σ1=r):ex Tc C N nb (.cons (.ifs c A B) rest) ρ σ=kS Tc C N nb rest r:=by rw [Ac,AM,h,<- hA];rfl
theorem jife {r:Option Fl} (h:ev Tc C c ρ σ=some (.bool false,σ1)) (hA:ex Tc C N nb B ρ σ1=r):ex Tc C N nb (.cons (.ifs c A B) rest) ρ σ=kS Tc C N nb rest r:=by rw [Ac,AM,h,<- hA];rfl
theorem jwc (h:ev Tc C c ρ σ=some (.bool t,σ1)):wc Tc C c ρ σ=some (t,σ1):=by rw [EH,h];rfl
theorem jnot (h:ev Tc C c ρ σ=some (.bool t,σ1)):ev Tc C (.not c) ρ σ=some (.bool (!t),σ1):=by rw [CN,h];rfl
theorem jlst (h:ev Tc C a ρ σ=some (u,σ1)):ev Tc C (.lst true (.cons a .nil)) ρ σ=some (.obj σ1.length,σ1++[.list [u]]):=by rw [ev_lst,js1 h];rfl
theorem jaug {o:Operator} (h0:lk ρ x=some u) (h:ev Tc C c ρ σ=some (v,σ1)) (h1:augB o u v=some w):ex Tc C N nb (.cons (.aug (.loc x) o c) rest) ρ σ=ex Tc C N nb rest (put ρ x w) σ1:=by rw [Ac,G6,h0,kAg1_s,h,kAg2_s,h1];rfl
theorem jit (h:ev Tc C c ρ σ=some (.bool true,σ1)):ex Tc C N nb (.ifs c A B) ρ σ=ex Tc C N nb A ρ σ1:=by rw [AM,h];rfl
theorem jie (h:ev Tc C c ρ σ=some (.bool false,σ1)):ex Tc C N nb (.ifs c A B) ρ σ=ex Tc C N nb B ρ σ1:=by rw [AM,h];rfl
theorem jf (h:ex Tc C 1000000 σ.length A ρ σ=some (.ret v σ1)):fcall Tc C 1000000 true A ρ σ=some (v,σ1):=by rw [Ax,h];rfl
end
end Mine
open Mine
local macro_rules
  | `(tactic| open_k with [$ts,*])=>do
    let b:Array (Lean.TSyntax `term):=("AL An CM Ck Ft ev_neg CN DQ DR Aw ev_sub Fu Fv ev_lst ev_dct ev_cal DS ev_met ev_rep evsN evsK AH AW B1 Ac G5 CP G6 ex_aug2 ex_aug3 AM Bb ex_brk ex_asr Ax Ay Bh EF Dr Bu kv_s kBl_s Cn DT DU kNeg_s G7 Fw Bj Co Fx kCc3_f Fy Fz kBoo2_af CQ EG B3 G8 G9 DV DW DX kTup_2 kTup_3 kLstt_0 Ha kCal_s Cp DY Hb Hc He Bv Bc kS_n kS_b kS_r kX_s FB kAs_s FC kSA_s kTs_s kNx_s kAg3_s kAg2_s kAg1_s kAA4_s kAA3_s kAA2_s kAA1_s kAI5_s kAI4_s kAI3_s kAI2_s kAI1_s FD DZ CR kAsr2_s kAsr_s D0 kF_n kF_r kW2_s kW1_s AN As put_nil Cq BF Hf calM_mt calM_bm AQ Hg bin_sub c_eqi c_eqs c_eqb c_eqsn c_nei c_nes c_lt c_le c_gt c_ge c_isn c_isi c_inn c_ins c_in aug_i aug_m b_ord Bd tc_ord ne_eq String.reduceEq not_false_eq_true beq_self_eq_true if_true Bool.not_true Bool.not_false".splitOn " ").toArray.map (fun s=>Lean.mkIdent s.toName)++ts.getElems
    `(tactic| simp only [$[$b:term],*])
open PySem PySem.W PyProof.Rows
set_option maxRecDepth 100000
set_option maxHeartbeats 2000000
namespace Mine
set_option genInjectivity false in
structure R where
  text:List Nat
  place:Int
  chunk:List Nat
  csz:Int
  off:Int
  pl:Int
  pc:Int
  er:Nat
  fl:L
noncomputable def o0 (fl:L):O:=.inst 762 (("stream",.obj 1)::("parser",.none)::("escapeFlag",.bool false)::("lastFourChars",.obj 5)::("state",.meth 304 0)::("escape",.bool false)::fl)
noncomputable def sInv:V:=.str [105,110,118,97,108,105,100,45,99,111,100,101,112,111,105,110,116]
noncomputable def o1 (chunk:List Nat) (csz off pl pc:Int):O:=.inst 166 [("reportCharacterErrors",.meth 148 1),("newLines",.obj 2),("dataStream",.obj 3),("chunk",.str chunk),("chunkSize",.int csz),("chunkOffset",.int off),("errors",.obj 4),("prevNumLines",.int pl),("prevNumCols",.int pc),("_bufferedCharacter",.none)]
noncomputable def R.st (r:R) (tl:St):St:=
  o0 r.fl::o1 r.chunk r.csz r.off r.pl r.pc::.list [.int 0]::.inst 73 [("text",.str r.text),("place",.int r.place)]::.list (List.replicate r.er sInv)::.list []::tl
section
variable (r:R) (tl:St)
theorem stlen:(r.st tl).length=tl.length+6:=rfl
-- reads
theorem Ap:attrV Tc (.obj 0) "stream" (r.st tl)=some (.obj 1):=by rfl
theorem a1_rep:attrV Tc (.obj 1) "reportCharacterErrors" (r.st tl)=some (.meth 148 1):=by rfl
theorem a1_ds:attrV Tc (.obj 1) "dataStream" (r.st tl)=some (.obj 3):=by rfl
theorem CU:attrV Tc (.obj 1) "chunk" (r.st tl)=some (.str r.chunk):=by rfl
theorem D3:attrV Tc (.obj 1) "chunkSize" (r.st tl)=some (.int r.csz):=by rfl
theorem B4:attrV Tc (.obj 1) "chunkOffset" (r.st tl)=some (.int r.off):=by rfl
theorem a1_pl:attrV Tc (.obj 1) "prevNumLines" (r.st tl)=some (.int r.pl):=by rfl
theorem a1_pc:attrV Tc (.obj 1) "prevNumCols" (r.st tl)=some (.int r.pc):=by rfl
theorem FG:attrV Tc (.obj 1) "_bufferedCharacter" (r.st tl)=some .none:=by rfl
theorem a1_def:attrV Tc (.obj 1) "_defaultChunkSize" (r.st tl)=some (.int 10240):=by rfl
theorem a3_text:attrV Tc (.obj 3) "text" (r.st tl)=some (.str r.text):=by rfl
theorem a3_place:attrV Tc (.obj 3) "place" (r.st tl)=some (.int r.place):=by rfl
-- stores
theorem CV (c):setA Tc (.obj 1) "chunk" (.str c) (r.st tl)=some (R.st ⟨r.text,r.place,c,r.csz,r.off,r.pl,r.pc,r.er,r.fl⟩ tl):=by rfl
theorem FH (c):setA Tc (.obj 1) "chunkSize" (.int c) (r.st tl)=some (R.st ⟨r.text,r.place,r.chunk,c,r.off,r.pl,r.pc,r.er,r.fl⟩ tl):=by rfl
theorem FJ (c):setA Tc (.obj 1) "chunkOffset" (.int c) (r.st tl)=some (R.st ⟨r.text,r.place,r.chunk,r.csz,c,r.pl,r.pc,r.er,r.fl⟩ tl):=by rfl
theorem s1_pl (c):setA Tc (.obj 1) "prevNumLines" (.int c) (r.st tl)=some (R.st ⟨r.text,r.place,r.chunk,r.csz,r.off,c,r.pc,r.er,r.fl⟩ tl):=by rfl
theorem s1_pc (c):setA Tc (.obj 1) "prevNumCols" (.int c) (r.st tl)=some (R.st ⟨r.text,r.place,r.chunk,r.csz,r.off,r.pl,c,r.er,r.fl⟩ tl):=by rfl
theorem a1_err:attrV Tc (.obj 1) "errors" (r.st tl)=some (.obj 4):=by rfl
theorem m4_app:getM Tc (.obj 4) "append" (r.st tl)=some (.bm (.obj 4) "append"):=by rfl
theorem b4_app (h:r.er < big):bmet (.obj 4) "append" [sInv] (r.st tl)=some (.none,R.st ⟨r.text,r.place,r.chunk,r.csz,r.off,r.pl,r.pc,r.er+1,r.fl⟩ tl):=by
  have e:bmet (.obj 4) "append" [sInv] (r.st tl)=_:=m_app (i:=4) (vs:=List.replicate r.er sInv) rfl (by rw [List.length_replicate];exact h)
  rw [e,<- List.replicate_succ'];rfl
theorem s3_place (c):setA Tc (.obj 3) "place" (.int c) (r.st tl)=some (R.st ⟨r.text,c,r.chunk,r.csz,r.off,r.pl,r.pc,r.er,r.fl⟩ tl):=by rfl
-- methods
theorem Hh:getM Tc (.obj 1) "_position" (r.st tl)=some (.fn 119 [.obj 1]):=by rfl
theorem Cr:getM Tc (.obj 1) "char" (r.st tl)=some (.fn 133 [.obj 1]):=by rfl
theorem m1_rc:getM Tc (.obj 1) "readChunk" (r.st tl)=some (.fn 141 [.obj 1]):=by rfl
theorem m1_cu:getM Tc (.obj 1) "charsUntil" (r.st tl)=some (.fn 156 [.obj 1]):=by rfl
theorem m1_un:getM Tc (.obj 1) "unget" (r.st tl)=some (.fn 163 [.obj 1]):=by rfl
theorem m1_rep:getM Tc (.obj 1) "reportCharacterErrors" (r.st tl)=some (.mt 148 1):=by rfl
theorem Hi:getM Tc (.obj 3) "read" (r.st tl)=some (.fn 70 [.obj 3]):=by rfl
theorem mS_count (x) (σ):getM Tc (.str x) "count" σ=some (.bm (.str x) "count"):=by rfl
theorem mS_rfind (x) (σ):getM Tc (.str x) "rfind" σ=some (.bm (.str x) "rfind"):=by rfl
theorem mS_sw (x) (σ):getM Tc (.str x) "startswith" σ=some (.bm (.str x) "startswith"):=by rfl
theorem AR (x) (σ):getM Tc (.str x) "join" σ=some (.bm (.str x) "join"):=by rfl
end
-- globals
theorem g_eof:Tc.glo "EOF" = some .none:=by rfl
theorem g_sp:Tc.glo "spaceCharacters" = some (.tup [.str [9],.str [10],.str [12],.str [32],.str [13]]):=by rfl
theorem g_al:Tc.glo "asciiLetters" = some (.tup ("abcdefghijklmnopqrstuvwxyzABCDEFGHIJKLMNOPQRSTUVWXYZ".toList.map fun c=>V.str [c.toNat])):=by rfl
theorem g_dg:Tc.glo "digits" = some (.tup ("0123456789".toList.map fun c=>V.str [c.toNat])):=by rfl
theorem FK:Tc.glo "entities" = some (.stat 43):=by rfl
theorem g_trie:Tc.glo "entitiesTrie" = some (.stat 236):=by rfl
theorem g_tt:Tc.glo "tokenTypes" = some (.stat 48):=by rfl
theorem tt_pe (σ):subV Tc (.stat 48) (.str [80,97,114,115,101,69,114,114,111,114]) σ=some (.int 7):=by rfl
theorem tt_ch (σ):subV Tc (.stat 48) (.str [67,104,97,114,97,99,116,101,114,115]) σ=some (.int 1):=by rfl
theorem tt_sp (σ):subV Tc (.stat 48) (.str [83,112,97,99,101,67,104,97,114,97,99,116,101,114,115]) σ=some (.int 2):=by rfl
noncomputable def colOf (chunk:List Nat) (off:Int) (pc:Int):Int:=if rfind1 10 (chunk.take off.toNat)=-1 then pc+off else off - (rfind1 10 (chunk.take off.toNat)+1)
end Mine
local macro_rules
  | `(tactic| wide_line with [$ts,*])=>do
    let b:Array (Lean.TSyntax `term):=("a1_rep a1_ds CU D3 B4 a1_pl a1_pc FG a1_def a3_text a3_place CV FH FJ s1_pl s1_pc s3_place Hh m1_rc m1_rep Hi mS_count mS_rfind AR mS_sw g_eof g_sp g_tt tt_pe tt_ch tt_sp".splitOn " ").toArray.map (fun s=>Lean.mkIdent s.toName)++ts.getElems
    `(tactic| open_k with [$[$b:term],*])
namespace Mine
theorem pos_ok (n:Nat) (r:R) (tl:St) (k:Int) (h0:0<=k) (h1:k<=half) (hc:r.chunk.length<=big) :
    Cc (n+1) 119 [.obj 1,.int k] [] (r.st tl)=some (.tup [.int (r.pl+cnt1 10 (r.chunk.take k.toNat)),.int (colOf r.chunk k r.pc)],r.st tl):=by
  have e1:bmet (.str r.chunk) "count" [.str [10],.int 0,.int k] (r.st tl)=some (.int (cnt1 10 (r.chunk.take k.toNat)),r.st tl):=m_cnt4 hc h0 h1;have e2:bmet (.str r.chunk) "rfind" [.str [10],.int 0,.int k] (r.st tl)=some (.int (rfind1 10 (r.chunk.take k.toNat)),r.st tl):=m_rf4 hc h0 h1;show fcall Tc (Cc n) 1000000 true ms119 [("self",.obj 1),("offset",.int k)] (r.st tl)=_;unfold colOf
  by_cases h:rfind1 10 (r.chunk.take k.toNat)=-1
  . wide_line with [ms119,e1,e2,h]
  . wide_line with [ms119,e1,e2,beq_eq_false_iff_ne.mpr h,h,if_false]
end Mine
open PySem PySem.W PyProof.Rows
set_option maxRecDepth 100000
set_option maxHeartbeats 2000000
namespace Mine
section
variable {T:Tab} {C:Calls} {N nb:Nat} {ρ:L} {σ:St}
theorem CW (o:CmpOp) (x:String) (a b v:Int) (h:lk ρ x=some (.int v)):ev T C (.cmp2 .LtE .LtE (.cst (.int a)) (.loc x) (.cst (.int b))) ρ σ=some (.bool (decide (a<=v)&&decide (v<=b)),σ):=by
  by_cases q:a<=v<;>open_k with [h,q,decide_true,decide_false,Bool.true_and,Bool.false_and]
theorem A5 (a vs) (h1:plainV a=true) (h2:vs.all plainV=true):vin T σ a (.tup vs)=some (vs.any (scEq a)):=if_pos (by rw [h1,h2];rfl)
theorem or_b {a b c:ME} {x y:Bool} (h:ev T C a ρ σ=some (.bool x,σ)) (h2:evB T C .Or (.cons b c) ρ σ=some (.bool y,σ)):evB T C .Or (.cons a (.cons b c)) ρ σ=some (.bool (x || y),σ):=by
  rw [AW,h,B3,AQ];cases x
  . rw [EG,h2];rfl
  . rfl
theorem CX {a b c:ME} {x y:Bool} (h:ev T C a ρ σ=some (.bool x,σ)) (h2:evB T C .And (.cons b c) ρ σ=some (.bool y,σ)):evB T C .And (.cons a (.cons b c)) ρ σ=some (.bool (x&&y),σ):=by
  rw [AW,h,B3,AQ];cases x
  . rfl
  . rw [CQ,h2];rfl
end
noncomputable def okC (c:Nat):Bool:=!(c==13)&&(!(c==35)&&(decide (c < 55296) || decide (57343 < c)))
theorem D4 {c:Nat} (h:okC c=true):c≠13/\c≠35/\(c < 55296∨57343 < c):=by
  simpa [okC] using h
theorem fm {a b:Int} (h:0 < b):a.fmod b=a % b:=Int.fmod_eq_emod_of_nonneg _ (Int.le_of_lt h)
noncomputable def invB (c:Nat):Bool:=(decide (1<=(c:Int))&&decide ((c:Int)<=8) || ((c:Int)==11 || (decide (14<=(c:Int))&&decide ((c:Int)<=31) || (decide (127<=(c:Int))&&decide ((c:Int)<=159) || (decide (64976<=(c:Int))&&decide ((c:Int)<=65007) || ([V.int 65534,.int 65535].any (scEq (.int ((c:Int) % 65536))) || decide (55296<=(c:Int))&&decide ((c:Int)<=57343)))))))
theorem inv_eq (n:Nat) (σ:St) (c:Nat):Cc (n+1) 84 [.int c] [] σ=some (.bool (invB c),σ):=by
  have hm:(c:Int).fmod 65536=(c:Int) % 65536:=fm (by decide)
  have e1:ev Tc (Cc n) (.cmp .In (.bin false .Mod (.loc "codepoint") (.cst (.int 65536))) (.tup (.cons (.cst (.int 65534)) (.cons (.cst (.int 65535)) .nil)))) [("codepoint",.int c)] σ=some (.bool ([V.int 65534,.int 65535].any (scEq (.int ((c:Int) % 65536)))),σ):=by
    open_k with [Bk _ _ _ (show (65536:Int)≠0 by decide),hm,A5 _ _ (show plainV (.int ((c:Int) % 65536))=true from rfl) (show [V.int 65534,.int 65535].all plainV=true from rfl)]
  show fcall Tc (Cc n) 1000000 true ms84 [("codepoint",.int c)] σ=_;have l:lk [("codepoint",V.int c)] "codepoint" = some (.int c):=rfl
  have e:evB Tc (Cc n) .Or _ [("codepoint",V.int c)] σ=some (.bool _,σ):=
    or_b (CW .Eq "codepoint" 1 8 c l) (or_b (a:=.cmp .Eq (.loc "codepoint") (.cst (.int 11))) (x:=((c:Int)==11)) (by open_k with []) (or_b (CW .Eq "codepoint" 14 31 c l) (or_b (CW .Eq "codepoint" 127 159 c l) (or_b (CW .Eq "codepoint" 64976 65007 c l) (or_b e1 (by rw [AH];exact CW .Eq "codepoint" 55296 57343 c l))))))
  rw [Ax,ms84,Ac,Bb,Aw,e];open_k with [];rfl
noncomputable def R.errs (r:R) (k:Nat):R:=⟨r.text,r.place,r.chunk,r.csz,r.off,r.pl,r.pc,r.er+k,r.fl⟩
theorem ms148_eq:ms148=(.cons (.fors (.loc "c") (.loc "data") errB) .nil):=rfl
theorem Ab {ρ:L} {x:String} {v:V}:lk (put ρ x v) x=some v:=by
  induction ρ with
  | nil=>exact if_pos rfl
  | cons e ρ ih=>
    obtain ⟨k,u⟩:=e
    by_cases q:k=x
    . subst q;rw [Cq,AN]
    . rw [BF _ _ q,As _ q];exact ih
theorem Ad {ρ:L} {x y:String} {v:V} (h:y≠x):lk (put ρ y v) x=lk ρ x:=by
  induction ρ with
  | nil=>exact if_neg h
  | cons e ρ ih=>
    obtain ⟨k,u⟩:=e
    by_cases q:k=y
    . subst q;rw [Cq,As _ h,As _ h]
    . rw [BF _ _ q]
      by_cases q2:k=x
      . subst q2;rw [AN,AN]
      . rw [As _ q2,As _ q2,ih]
noncomputable def erC (l:List Nat):Nat:=(l.filter invB).length
theorem Hj (c:Nat) (l:List Nat):erC (c::l)=(if invB c=true then 1 else 0)+erC l:=by
  unfold erC;rw [List.filter_cons];cases invB c
  . simp
  . rw [if_pos rfl,if_pos rfl,List.length_cons];exact Nat.add_comm _ _
theorem B5 (n nb:Nat) (tl:St):∀(data:List Nat) (r:R) (ρ:L),r.er+data.length < big->lk ρ "self" = some (.obj 1)->
    ∃ρ',forL (fb Tc (Cc (n+1)) 1000000 nb (.loc "c") errB) (data.map fun c=>V.str [c]) ρ (r.st tl)=some (.next ρ' ((r.errs (erC data)).st tl))
  | [],r,ρ,_,_=>⟨ρ,rfl⟩
  | c::data,r,ρ,hb,hs=>by
    have iv:=inv_eq n (r.st tl) c;have hg:Tc.fnG "_is_invalid" = some 84:=rfl;have hl:lk (put ρ "c" (.str [c])) "c" = some (.str [c]):=Ab;have hs2:lk (put ρ "c" (.str [c])) "self" = some (.obj 1):=by rw [Ad (by decide),hs]
    rw [List.length_cons] at hb;cases hc:invB c with
    | true=>
      rw [hc] at iv;have b4:=b4_app r tl (by exact Nat.lt_of_le_of_lt (Nat.le_add_right _ _) (by assumption))
      obtain ⟨ρ',e⟩:=B5 n nb tl data (r.errs 1) (put ρ "c" (.str [c])) (by show r.er+1+_ < _;omega) hs2
      refine ⟨ρ',?_⟩
      have body:ex Tc (Cc (n+1)) 1000000 nb errB (put ρ "c" (.str [c])) (r.st tl)=some (.next (put ρ "c" (.str [c])) ((r.errs 1).st tl)):=by
        unfold sInv at b4;open_k with [errB,hl,hg,iv,hs2,a1_err,m4_app,b4];rfl
      rw [List.map_cons,AS,Cd,Ay,kL_s,body,kB_n,e,Hj,hc];show some (Fl.next ρ' (R.st ⟨_,_,_,_,_,_,_,r.er+1+erC data,_⟩ tl))=some (Fl.next ρ' (R.st ⟨_,_,_,_,_,_,_,r.er+(1+erC data),_⟩ tl));rw [Nat.add_assoc];rfl
    | false=>
      rw [hc] at iv;obtain ⟨ρ',e⟩:=B5 n nb tl data r (put ρ "c" (.str [c])) (by exact Nat.lt_of_succ_lt (by assumption)) hs2
      refine ⟨ρ',?_⟩
      have body:ex Tc (Cc (n+1)) 1000000 nb errB (put ρ "c" (.str [c])) (r.st tl)=some (.next (put ρ "c" (.str [c])) (r.st tl)):=by
        open_k with [errB,hl,hg,iv]
      rw [List.map_cons,AS,Cd,Ay,kL_s,body,kB_n,e,Hj,hc];show some (Fl.next ρ' (R.st ⟨_,_,_,_,_,_,_,r.er+erC data,_⟩ tl))=some (Fl.next ρ' (R.st ⟨_,_,_,_,_,_,_,r.er+(0+erC data),_⟩ tl));rw [Nat.zero_add]
theorem errs_ok (n:Nat) (r:R) (tl:St) (data:List Nat) (hb:r.er+data.length < big):Cc (n+2) 148 [.obj 1,.str data] [] (r.st tl)=some (.none,(r.errs (erC data)).st tl):=by
  have hf:Cc (n+2) 148 [.obj 1,.str data] [] (r.st tl)=fcall Tc (Cc (n+1)) 1000000 true ms148 [("self",.obj 1),("data",.str data)] (r.st tl):=rfl;obtain ⟨ρ',e⟩:=B5 n (r.st tl).length tl data r [("self",.obj 1),("data",.str data)] hb rfl;have hi:itemsV Tc (.str data)=some (data.map fun c=>V.str [c]):=rfl
  have ef:=BE (T:=Tc) (C:=Cc (n+1)) (N:=1000000) (nb:=(r.st tl).length) (ρ:=[("self",.obj 1),("data",.str data)]) (σ:=r.st tl) "c" (.loc "data") errB rfl;rw [hf,Ax,ms148_eq,Ac,ef,An,As _ (by decide),AN,kv_s,kFr_s _ _ rfl,hi,D1,e]
  rfl
end Mine
open PySem PySem.W PyProof.Rows
set_option maxRecDepth 100000
set_option maxHeartbeats 2000000
namespace Mine
theorem cut_pk' {α:Type} (xs:List α) (p k:Nat):(xs.drop (min p xs.length)).take (min (p+k) xs.length - min p xs.length)=(xs.drop p).take k:=by
  by_cases h:p<=xs.length
  . rw [Nat.min_eq_left h,<- Nat.sub_min_sub_right,Nat.add_sub_cancel_left,<- List.length_drop];exact List.take_eq_take_min.symm
  . rw [List.drop_of_length_le (Nat.le_of_not_le h),Nat.min_eq_right (Nat.le_of_not_le h),List.drop_length,List.take_nil,List.take_nil]
theorem cut_pk {α:Type} (xs:List α) (p k:Int) (hp:0<=p) (hk:0<=k):cut (some p) (some (p+k)) xs=(xs.drop p.toNat).take k.toNat:=by
  obtain ⟨p,rfl⟩:=Int.eq_ofNat_of_zero_le hp;obtain ⟨k,rfl⟩:=Int.eq_ofNat_of_zero_le hk;exact cut_pk' xs p k
theorem FL (l:List Nat) (p k:Int) (σ:St) (hp:0<=p) (hk:0<=k) (h:p+k<=half) (hl:l.length<=big):slcV (.str l) (.int p) (.int (p+k)) σ=some (.str ((l.drop p.toNat).take k.toNat)):=by
  have hh:half=1000000000:=rfl;have b1:bound (.int p)=some (some p):=if_pos ⟨by omega,by omega⟩
  have b2:bound (.int (p+k))=some (some (p+k)):=if_pos ⟨by omega,by omega⟩
  rw [D2 b1 b2 hl,cut_pk _ _ _ hp hk]
noncomputable def dataOf (r:R) (k:Int):List Nat:=(r.text.drop r.place.toNat).take k.toNat
theorem Bl (r:R) (k:Int):(dataOf r k).length<=r.text.length:=Nat.le_trans (List.length_take_le' ..) (by rw [List.length_drop];exact Nat.sub_le _ _)
theorem read_ok (n:Nat) (r:R) (tl:St) (k:Int) (h0:0<=r.place) (hk:0<=k) (h:r.place+k<=half) (hl:r.text.length<=big) :
    Cc (n+1) 70 [.obj 3,.int k] [] (r.st tl)=some (.str (dataOf r k),R.st ⟨r.text,r.place+(dataOf r k).length,r.chunk,r.csz,r.off,r.pl,r.pc,r.er,r.fl⟩ tl):=by
  show fcall Tc (Cc n) 1000000 true ms70 [("self",.obj 3),("size",.int k)] (r.st tl)=_
  have hd:(dataOf r k).length<=big:=by
    exact Nat.le_trans (Bl r k) hl
  have e:=FL r.text r.place k (r.st tl) h0 hk h hl;wide_line with [ms70,e,Bd];rw [show (r.text.drop r.place.toNat).take k.toNat=dataOf r k from rfl,Du _ hd];wide_line with []
theorem AI (l:List Nat) (z:Nat) (σ:St) (h:l.length < half):subV Tc (.str (l++[z])) (.int (-1)) σ=some (.str [z]):=by
  have hh:half=1000000000:=rfl
  have:idx? (-1) (l++[z]).length=some l.length:=by
    unfold idx?;rw [if_neg (by decide),if_pos (by rw [List.length_append];simp;omega)]
    congr 1
    rw [List.length_append];simp;omega
  exact s_str (by decide) this (by rw [List.getElem?_append_right (Nat.le_refl _)];simp)
theorem Ce (c:Nat) (r:List Nat):∀(n:Nat) (l:List Nat),c∉l->l.length < n->splitF (c::r) n l=[l]
  | 0,_,_,h=>absurd h (Nat.not_lt_zero _)
  | n+1,[],_,_=>rfl
  | n+1,a::l,h,hn=>by
    have h1:¬c=a:=fun q=>h (q▸List.mem_cons_self)
    show (if (c::r).isPrefixOf (a::l)=true then _ else consH a (splitF (c::r) n l))=_
    rw [if_neg (by simp [List.isPrefixOf,h1]),Ce c r n l (fun q=>h (List.mem_cons_of_mem _ q)) (Nat.lt_of_succ_lt_succ hn)];rfl
theorem rep_ok (l:List Nat) (c:Nat) (a b:List Nat) (σ:St) (h:l.length<=4000) (hc:l.contains c=false) (hb:b.length<=4/\c::a≠b):kRep (c::a) b (some (.str l,σ))=some (.str l,σ):=by
  have hm:c∉l:=fun q=>by rw [List.contains_iff_mem.mpr q] at hc;exact nomatch hc
  rw [kRep_s _ _ _ ⟨h,List.cons_ne_nil _ _,hb.1,hb.2⟩];unfold replL splitL;rw [Ce c a _ l hm (Nat.lt_succ_self _)];simp [List.intercalate]
structure RdOk (r:R) (k:Int):Prop where
  c0:0<=r.csz
  c1:r.csz<=half
  ch:r.chunk.length<=big
  p0:0<=r.place
  k0:0<=k
  pk:r.place+k<=half
  t0:r.text.length<=4000
  tg:∀c∈r.text,okC c=true
  er:r.er<=1000000
noncomputable def rdR (r:R) (k:Int):R:=⟨r.text,r.place+(dataOf r k).length,dataOf r k,(dataOf r k).length,0,r.pl+cnt1 10 (r.chunk.take r.csz.toNat),colOf r.chunk r.csz r.pc,r.er+erC (dataOf r k),r.fl⟩
theorem ms141_eq:ms141=(.cons (.ifs (.cmp .Is (.loc "chunkSize") (.cst .none)) (.cons (.asg (.loc "chunkSize") (.attr (.loc "self") "_defaultChunkSize")) .nil) .nil) (.cons (.asg (.tup (.cons (.attr (.loc "self") "prevNumLines") (.cons (.attr (.loc "self") "prevNumCols") .nil))) (.met (.loc "self") "_position" (.cons (.attr (.loc "self") "chunkSize") .nil) [] .nil)) (.cons (.asg (.attr (.loc "self") "chunk") (.cst (.str []))) (.cons (.asg (.attr (.loc "self") "chunkSize") (.cst (.int 0))) (.cons (.asg (.attr (.loc "self") "chunkOffset") (.cst (.int 0))) (.cons (.asg (.loc "data") (.met (.attr (.loc "self") "dataStream") "read" (.cons (.loc "chunkSize") .nil) [] .nil)) (.cons rdS (.cons rdG rdT)))))))):=rfl
section
variable {C:Calls} {ρ:L} {σ σ1:St} {N nb:Nat} {a b c:ME} {v:V} {rest A B:MS} {t:Bool}
theorem jvf {r:Option Fl} (h:ev Tc C c ρ σ=some (v,σ1)) (ht:truth σ1 v=some false) (hB:ex Tc C N nb B ρ σ1=r):ex Tc C N nb (.cons (.ifs c A B) rest) ρ σ=kS Tc C N nb rest r:=by rw [Ac,AM,h,CR,ht,DZ,hB]
theorem jvt {r:Option Fl} (h:ev Tc C c ρ σ=some (v,σ1)) (ht:truth σ1 v=some true) (hA:ex Tc C N nb A ρ σ1=r):ex Tc C N nb (.cons (.ifs c A B) rest) ρ σ=kS Tc C N nb rest r:=by rw [Ac,AM,h,CR,ht,FD,hA]
theorem jnv (h:ev Tc C c ρ σ=some (v,σ1)) (ht:truth σ1 v=some t):ev Tc C (.not c) ρ σ=some (.bool (!t),σ1):=by rw [CN,h,Fw,ht];rfl
theorem jpos (r:R) (tl:St) {x y:Int} (h1:lk ρ "self" = some (.obj 1)) (h:ev Tc C c ρ σ=some (.tup [.int x,.int y],r.st tl)):ex Tc C N nb (.cons (.asg (.tup (.cons (.attr (.loc "self") "prevNumLines") (.cons (.attr (.loc "self") "prevNumCols") .nil))) c) rest) ρ σ=ex Tc C N nb rest ρ (R.st ⟨r.text,r.place,r.chunk,r.csz,r.off,x,y,r.er,r.fl⟩ tl):=by
  rw [Ac,CP,h,kAs_s,EF,Bu,Bh,jl h1,kSA_s,s1_pl,FC,kTs_s,Bu,Bh,jl h1,kSA_s,s1_pc,FC,kTs_s,Dr,FB,kS_n]
theorem rdT_ok (n nb:Nat) (r:R) (tl:St) (d:List Nat) {ρ:L} (h1:lk ρ "self" = some (.obj 1)) (h2:lk ρ "data" = some (.str d)) (hd:d.length<=4000) (hcr:d.contains 13=false) (he:r.er+d.length < big) :
    ex Tc (Cc (n+2)) 1000000 nb rdT ρ (r.st tl)=some (.ret (.bool true) (R.st ⟨r.text,r.place,d,d.length,r.off,r.pl,r.pc,r.er+erC d,r.fl⟩ tl)):=by
  have e4:=errs_ok n r tl d he;have r1:=fun σ=>rep_ok d 13 [10] [10] σ hd hcr (by decide)
  have r2:=fun σ=>rep_ok d 13 [] [10] σ hd hcr (by decide)
  have k1:lk (put ρ "data" (.str d)) "self" = some (.obj 1):=by rw [Ad (by decide),h1]
  have k3:lk (put (put ρ "data" (.str d)) "data" (.str d)) "self" = some (.obj 1):=by rw [Ad (by decide),k1]
  have g1:∀{ρ σ x y},lk ρ "data" = some (.str d)->kRep x y (some (.str d,σ))=some (.str d,σ)->ev Tc (Cc (n+2)) (.rep (.loc "data") x y) ρ σ=some (.str d,σ):=fun h k=>by rw [ev_rep,jl h,k]
  have bl:=fun σ:St=>Du (T:=Tc) (σ:=σ) d (Nat.le_trans hd (by decide))
  refine (jvt (Ak (jl h1) (a1_rep _ _)) rfl (jexp (jmet (jl h1) (m1_rep _ _) (js1 (jl h2)) e4))).trans ?_
  refine (jasg (g1 h2 (r1 _))).trans ((jasg (g1 Ab (r2 _))).trans ?_);exact (jasa (jl Ab) k3 (CV _ _ _)).trans ((jasa (jbui Bd (js1 (jl Ab)) (bl _)) k3 (FH _ _ _)).trans (jret rfl))
theorem rdG_ok (n nb:Nat) (σ:St) (d:List Nat) {ρ:L} (h2:lk ρ "data" = some (.str d)) (hd:d.length<=4000) (hn:d≠[]) (hg:∀c∈d,okC c=true) (rest:MS) :
    ∃ρ',(∀x,x≠"lastv"->lk ρ' x=lk ρ x)/\ex Tc (Cc (n+2)) 1000000 nb (.cons rdG rest) ρ σ=ex Tc (Cc (n+2)) 1000000 nb rest ρ' σ:=by
  have bl:=Du (T:=Tc) (σ:=σ) d (Nat.le_trans hd (by decide))
  have c1:∀{b},decide ((1:Int) < (d.length:Nat))=b->ev Tc (Cc (n+2)) (.cmp .Gt (.bui "len" (.cons (.loc "data") .nil)) (.cst (.int 1))) ρ σ=some (.bool b,σ):=fun h=>jcmp (jbui Bd (js1 (jl h2)) bl) rfl (congrArg some h)
  by_cases hl:(1:Int) < (d.length:Nat)
  . obtain ⟨l,z,rfl⟩:∃l z,d=l++[z]:=⟨_,_,(List.dropLast_concat_getLast hn).symm⟩;have hz:=D4 (hg z (List.mem_append_right _ List.mem_cons_self));have es:=AI l z σ (by have hh:half=1000000000:=rfl;rw [List.length_append] at hd;omega)
    have lv:lk (put ρ "lastv" (.int z)) "lastv" = some (.int z):=Ab;have q1:((z:Int)==13)=false:=beq_eq_false_iff_ne.mpr (by omega)
    have q2:ev Tc (Cc (n+2)) (.cmp2 .LtE .LtE (.cst (.int 55296)) (.loc "lastv") (.cst (.int 56319))) (put ρ "lastv" (.int z)) σ=some (.bool false,σ):=by
      rw [DR,AL,Fz,jl lv,Fy,c_le]
      by_cases q3:(55296:Int)<=z
      . rw [decide_eq_true q3,Fx,AL,Bj,c_le,decide_eq_false (by omega)];rfl
      . rw [decide_eq_false q3];rfl
    have q0:ev Tc (Cc (n+2)) (.boo .Or (.cons (.cmp .Eq (.loc "lastv") (.cst (.int 13))) (.cons (.cmp2 .LtE .LtE (.cst (.int 55296)) (.loc "lastv") (.cst (.int 56319))) .nil))) (put ρ "lastv" (.int z)) σ=some (.bool false,σ):=by
      rw [Aw];exact or_b (x:=false) (y:=false) (jcmp (jl lv) rfl (congrArg some q1)) q2
    exact ⟨_,fun x hx=>Ad hx.symm,jift (c1 (decide_eq_true hl)) ((jasg (jbui tc_ord (js1 (jsub (jl h2) rfl es)) (b_ord z))).trans (jiff q0))⟩
  . exact ⟨_,fun _ _=>rfl,jiff (c1 (decide_eq_false hl))⟩
end
theorem rd_ok (n:Nat) (r:R) (tl:St) (k:Int) (h:RdOk r k):fcall Tc (Cc (n+2)) 1000000 true ms141 [("self",.obj 1),("chunkSize",.int k)] (r.st tl)=some (.bool (!(dataOf r k).isEmpty),(rdR r k).st tl):=by
  have hh:half=1000000000:=rfl;have hb:big=16777216:=rfl
  have hd:(dataOf r k).length<=big:=by
    have:=h.t0
    exact Nat.le_trans (Bl r k) (Nat.le_trans this (by decide))
  have hg:∀c∈dataOf r k,okC c=true:=fun c hc=>h.tg c (List.mem_of_mem_drop (List.mem_of_mem_take hc))
  have e1:=pos_ok (n+1) r tl r.csz h.c0 h.c1 h.ch;have e2:=fun (x1 x2 x3 x4 x5 x6 x7)=>read_ok (n+1) ⟨r.text,r.place,x1,x2,x3,x4,x5,x6,x7⟩ tl k h.p0 h.k0 h.pk (Nat.le_trans h.t0 (by decide))
  have e3:∀x1 x2 x3 x4 x5 x6 x7,dataOf ⟨r.text,r.place,x1,x2,x3,x4,x5,x6,x7⟩ k=dataOf r k:=fun _ _ _ _ _ _ _=>rfl
  have hd4:(dataOf r k).length<=4000:=Nat.le_trans (Bl r k) h.t0;have t2:∀σ,truth σ (.str (dataOf r k))=some (!(dataOf r k).isEmpty):=fun _=>if_pos hd
  have hcr:(dataOf r k).contains 13=false:=by
    rw [List.contains_eq_any_beq,List.any_eq_false];intro c hc e
    have:=D4 (hg c hc)
    have e:13=c:=by simpa using e
    exact this.1 e.symm
  have st:∀nb,ex Tc (Cc (n+2)) 1000000 nb ms141 [("self",.obj 1),("chunkSize",.int k)] (r.st tl)=ex Tc (Cc (n+2)) 1000000 nb (.cons rdS (.cons rdG rdT)) [("self",.obj 1),("chunkSize",.int k),("data",.str (dataOf r k))] (R.st ⟨r.text,r.place+(dataOf r k).length,[],0,0,r.pl+cnt1 10 (r.chunk.take r.csz.toNat),colOf r.chunk r.csz r.pc,r.er,r.fl⟩ tl):=fun nb=>by
    rw [ms141_eq];exact (jiff (jcmp (jl rfl) rfl rfl)).trans ((jpos r tl rfl (jmet (jl rfl) (Hh _ _) (js1 (Ak (jl rfl) (D3 _ _))) e1)).trans ((jasa rfl rfl (CV _ _ _)).trans ((jasa rfl rfl (FH _ _ _)).trans ((jasa rfl rfl (FJ _ _ _)).trans (jasg (jmet (Ak (jl rfl) (a1_ds _ _)) (Hi _ _) (js1 (jl rfl)) (e2 [] 0 0 (r.pl+cnt1 10 (r.chunk.take r.csz.toNat)) (colOf r.chunk r.csz r.pc) r.er r.fl)))))))
  refine jf ((st _).trans ?_)
  by_cases hn:dataOf r k=[]
  . rw [hn] at t2;refine (jvf (Ak (jl rfl) (FG _ _)) rfl (jift (jnv (t:=false) (jl rfl) (by rw [hn];exact t2 _)) (jret rfl))).trans ?_
    simp [rdR,hn,erC,kS_r]
  . have hne:(dataOf r k).isEmpty=false:=by
      cases hq:dataOf r k with
      | nil=>exact absurd hq hn
      | cons=>rfl
    rw [hne] at t2;obtain ⟨ρ',hρ,eg⟩:=rdG_ok n (r.st tl).length (R.st ⟨r.text,r.place+(dataOf r k).length,[],0,0,r.pl+cnt1 10 (r.chunk.take r.csz.toNat),colOf r.chunk r.csz r.pc,r.er,r.fl⟩ tl) (dataOf r k) (ρ:=[("self",.obj 1),("chunkSize",.int k),("data",.str (dataOf r k))]) rfl hd4 hn hg rdT;refine (jvf (Ak (jl rfl) (FG _ _)) rfl (jiff (jnv (t:=true) (jl rfl) (t2 _)))).trans (eg.trans ?_);rw [hne];exact rdT_ok n _ ⟨r.text,r.place+(dataOf r k).length,[],0,0,r.pl+cnt1 10 (r.chunk.take r.csz.toNat),colOf r.chunk r.csz r.pc,r.er,r.fl⟩ tl (dataOf r k) (by rw [hρ _ (by decide)];rfl) (by rw [hρ _ (by decide)];rfl) hd4 hcr (by have h1:=h.er;have h2:=Bl r k;have h3:=h.t0;show r.er+_ < _;omega)
theorem FM (n:Nat) (r:R) (tl:St) (h:RdOk r 10240):Cc (n+3) 141 [.obj 1] [] (r.st tl)=some (.bool (!(dataOf r 10240).isEmpty),(rdR r 10240).st tl):=by
  show fcall Tc (Cc (n+2)) 1000000 true ms141 [("self",.obj 1),("chunkSize",.none)] (r.st tl)=_;rw [<- rd_ok n r tl 10240 h];wide_line with [ms141]
theorem rd2_ok (n:Nat) (r:R) (tl:St) (k:Int) (h:RdOk r k):Cc (n+3) 141 [.obj 1,.int k] [] (r.st tl)=some (.bool (!(dataOf r k).isEmpty),(rdR r k).st tl):=rd_ok n r tl k h
end Mine
open PySem PySem.W PyProof.Rows
set_option maxRecDepth 100000
set_option maxHeartbeats 2000000
namespace Mine
theorem cnt_app (k:Nat) (a b:List Nat):cnt1 k (a++b)=cnt1 k a+cnt1 k b:=by
  unfold cnt1;rw [List.filter_append,List.length_append]
theorem rf_ge (c:Nat):∀l:List Nat,-1<=rfind1 c l
  | []=>Int.le_refl _
  | x::r=>by
    have:=rf_ge c r
    show -1<=(if 0<=rfind1 c r then rfind1 c r+1 else if x=c then 0 else -1)
    split
    . exact Int.le_add_one (by assumption)
    . split<;>exact Int.natCast_nonneg _
theorem rf_app (c:Nat) (b:List Nat):∀a:List Nat,rfind1 c (a++b)=if rfind1 c b=-1 then rfind1 c a else a.length+rfind1 c b
  | []=>by
    rw [List.nil_append]
    split
    . rename_i h;rw [h];rfl
    . simp
  | x::a=>by
    have ih:=rf_app c b a;have h1:=rf_ge c b;have h2:=rf_ge c a;show (if 0<=rfind1 c (a++b) then rfind1 c (a++b)+1 else if x=c then 0 else -1)=if rfind1 c b=-1 then (if 0<=rfind1 c a then rfind1 c a+1 else if x=c then 0 else -1) else _
    rw [ih]
    by_cases h:rfind1 c b=-1
    . rw [if_pos h,if_pos h]
    . rw [if_neg h,if_neg h,if_pos (by omega),List.length_cons]
      omega
noncomputable def colM (l:List Nat):Int:=(l.length:Int) - (rfind1 10 l+1)
theorem col_ok (a ch:List Nat) (off:Nat) (h:off<=ch.length):colOf ch off (colM a)=colM (a++ch.take off):=by
  unfold colOf colM;rw [Int.toNat_natCast,rf_app,List.length_append,List.length_take,Nat.min_eq_left h]
  by_cases q:rfind1 10 (ch.take off)=-1
  . rw [if_pos q,if_pos q];omega
  . rw [if_neg q,if_neg q];omega
noncomputable def R.fwd (r:R):R:=⟨r.text,r.place,r.chunk,r.csz,r.off+1,r.pl,r.pc,r.er,r.fl⟩
structure At (t:List Nat) (p:Nat) (r:R):Prop where
  tx:r.text=t
  p0:0<=r.place
  p1:r.place<=t.length
  csz:r.csz=r.chunk.length
  o0:0<=r.off
  o1:r.off<=r.csz
  le:r.off.toNat<=p
  ple:p<=t.length
  rm:t.drop (p - r.off.toNat)=r.chunk++t.drop r.place.toNat
  pl:r.pl=(cnt1 10 (t.take (p - r.off.toNat)):Nat)
  pc:r.pc=colM (t.take (p - r.off.toNat))
  er:r.er+(t.length - r.place.toNat)<=600
  tl:t.length<=600
  tg:∀c∈t,okC c=true
  cl:r.chunk.length<=1000
section
variable {t:List Nat} {p:Nat} {r:R}
theorem At.rem (a:At t p r):r.chunk.drop r.off.toNat++t.drop r.place.toNat=t.drop p:=by
  have ho:r.off.toNat<=r.chunk.length:=by have:=a.o0;have:=a.o1;have:=a.csz;omega
  have h:t.drop p=(t.drop (p - r.off.toNat)).drop r.off.toNat:=by rw [List.drop_drop];congr 1;have:=a.le;omega
  rw [h,a.rm,List.drop_append_of_le_length ho]
theorem At.rd (a:At t p r):RdOk r 10240:=by
  have hh:half=1000000000:=rfl;have hb:big=16777216:=rfl;obtain ⟨tx,p0,p1,csz,o0,o1,le,ple,rm,pl,pc,er,tl,tg,cl⟩:=a;exact ⟨by exact Int.le_trans (by assumption) (by assumption),by omega,by exact Nat.le_trans cl (by decide),p0,by decide,by omega,by rw [tx];exact Nat.le_trans tl (by decide),by rw [tx];exact tg,by omega⟩
theorem At.data (a:At t p r):dataOf r 10240=t.drop r.place.toNat:=by
  unfold dataOf;rw [a.tx];apply List.take_of_length_le
  have:=a.tl
  rw [List.length_drop];show _<=10240;exact Nat.le_trans (Nat.sub_le _ _) (Nat.le_trans (by assumption) (by decide))
theorem er_le (l:List Nat):erC l<=l.length:=List.length_filter_le _ _
theorem At.next (a:At t p r):At t (p - r.off.toNat+r.csz.toNat) (rdR r 10240):=by
  have d:=a.data;obtain ⟨tx,p0,p1,csz,o0,o1,le,ple,rm,pl,pc,er,tl,tg,cl⟩:=a;generalize hs:p - r.off.toNat=s at rm pl pc;have hcz:r.csz.toNat=r.chunk.length:=by omega
  have hdl:(dataOf r 10240).length=t.length - r.place.toNat:=by rw [d,List.length_drop]
  have hp:(r.place+((dataOf r 10240).length:Int)).toNat=t.length:=by omega
  have tk:t.take (s+r.chunk.length)=t.take s++r.chunk:=by rw [List.take_add,rm,List.take_left]
  have dr:t.drop (s+r.chunk.length)=t.drop r.place.toNat:=by rw [<- List.drop_drop,rm,List.drop_left]
  have he:=er_le (dataOf r 10240);rw [hcz];refine ⟨tx,?_,?_,rfl,Int.le_refl _,?_,Nat.zero_le _,?_,?_,?_,?_,?_,tl,tg,?_⟩
  . show 0<=r.place+((dataOf r 10240).length:Int);omega
  . show r.place+((dataOf r 10240).length:Int)<=_;omega
  . show (0:Int)<=((dataOf r 10240).length:Nat);exact Int.natCast_nonneg _
  . have:=congrArg List.length rm
    rw [List.length_drop,List.length_append] at this;omega
  . show t.drop (s+r.chunk.length - 0)=dataOf r 10240++t.drop (r.place+((dataOf r 10240).length:Int)).toNat;rw [Nat.sub_zero,dr,hp,List.drop_length,List.append_nil,d]
  . show r.pl+(cnt1 10 (r.chunk.take r.csz.toNat):Int)=((cnt1 10 (t.take (s+r.chunk.length - 0)):Nat):Int);rw [Nat.sub_zero,tk,cnt_app,hcz,List.take_length,pl];rfl
  . show colOf r.chunk r.csz r.pc=colM (t.take (s+r.chunk.length - 0));rw [Nat.sub_zero,tk,pc,csz,col_ok _ _ _ (Nat.le_refl _),List.take_length]
  . show r.er+erC (dataOf r 10240)+(t.length - (r.place+((dataOf r 10240).length:Int)).toNat)<=600;omega
  . show (dataOf r 10240).length<=1000;omega
theorem At.adv {c} (a:At t p r) (h:r.off < r.csz) (hc:r.chunk[r.off.toNat]? = some c):At t (p+1) r.fwd:=by
  have rem:=a.rem;obtain ⟨tx,p0,p1,csz,o0,o1,le,ple,rm,pl,pc,er,tl,tg,cl⟩:=a;have e:(r.off+1).toNat=r.off.toNat+1:=by omega
  have es:p+1 - (r.off+1).toNat=p - r.off.toNat:=by omega
  have hlt:r.off.toNat < r.chunk.length:=by omega
  have hl:p < t.length:=by
    apply Nat.lt_of_not_le;intro q;rw [List.drop_of_length_le q,List.drop_eq_getElem_cons hlt] at rem;cases rem
  refine ⟨tx,p0,p1,csz,?_,?_,?_,hl,?_,?_,?_,er,tl,tg,cl⟩
  . show 0<=r.off+1;exact Int.le_add_one (by assumption)
  . show r.off+1<=r.csz;exact h
  . show (r.off+1).toNat<=p+1;omega
  . show t.drop (p+1 - (r.off+1).toNat)=_;rw [es];exact rm
  . show r.pl=(cnt1 10 (t.take (p+1 - (r.off+1).toNat)):Nat);rw [es];exact pl
  . show r.pc=colM (t.take (p+1 - (r.off+1).toNat));rw [es];exact pc
end
theorem BG (l:List Nat) (k:Int) (c:Nat) (σ:St) (h0:0<=k) (h1:k<=half) (h:l[k.toNat]? = some c):subV Tc (.str l) (.int k) σ=some (.str [c]):=by
  have hh:half=1000000000:=rfl;obtain ⟨hlt,hget⟩:=List.getElem?_eq_some_iff.mp h
  have:idx? k l.length=some k.toNat:=by
    unfold idx?;rw [if_pos h0,if_pos (by omega)]
  exact s_str (by omega) this h
theorem char1 (n:Nat) (r:R) (tl:St) (c:Nat) (h0:0<=r.off) (h1:r.off<=half) (h:r.off < r.csz) (hc:r.chunk[r.off.toNat]? = some c):Cc (n+4) 133 [.obj 1] [] (r.st tl)=some (.str [c],r.fwd.st tl):=by
  show fcall Tc (Cc (n+3)) 1000000 true ms133 [("self",.obj 1)] (r.st tl)=_;have q:decide (r.csz<=r.off)=false:=decide_eq_false (by exact Int.not_le.mpr (by assumption))
  have e:=fun σ=>BG r.chunk r.off c σ h0 h1 hc
  wide_line with [ms133,q,e];rfl
theorem char2 (n:Nat) (r:R) (tl:St) (c:Nat) (h:r.csz<=r.off) (hr:RdOk r 10240) (hc:(dataOf r 10240)[0]? = some c):Cc (n+4) 133 [.obj 1] [] (r.st tl)=some (.str [c],(rdR r 10240).fwd.st tl):=by
  show fcall Tc (Cc (n+3)) 1000000 true ms133 [("self",.obj 1)] (r.st tl)=_;have q:decide (r.csz<=r.off)=true:=decide_eq_true h;have e:=fun σ=>BG (dataOf r 10240) 0 c σ (Int.le_refl _) (by decide) hc
  have e1:=FM n r tl hr
  have hne:(dataOf r 10240).isEmpty=false:=by
    cases hq:dataOf r 10240 with
    | nil=>rw [hq] at hc;cases hc
    | cons=>rfl
  have x1:(rdR r 10240).off=0:=rfl;have x2:(rdR r 10240).chunk=dataOf r 10240:=rfl;wide_line with [ms133,q,e,e1,hne,List.append_nil,x1,x2];rfl
theorem char3 (n:Nat) (r:R) (tl:St) (h:r.csz<=r.off) (hr:RdOk r 10240) (hc:dataOf r 10240=[]):Cc (n+4) 133 [.obj 1] [] (r.st tl)=some (.none,(rdR r 10240).st tl):=by
  show fcall Tc (Cc (n+3)) 1000000 true ms133 [("self",.obj 1)] (r.st tl)=_;have q:decide (r.csz<=r.off)=true:=decide_eq_true h;have e1:=FM n r tl hr;wide_line with [ms133,q,e1,hc,List.isEmpty_nil,List.append_nil]
section
variable {t:List Nat} {p:Nat} {r:R}
theorem At.nextE (a:At t p r) (h:r.csz<=r.off):At t p (rdR r 10240):=by
  have b:=a.next
  have:p - r.off.toNat+r.csz.toNat=p:=by have:=a.le;have:=a.o1;omega
  rw [this] at b;exact b
end
theorem At.char {t p r} (a:At t p r) (n:Nat) (tl:St) {c:Nat} (hp:t[p]? = some c):∃r1,At t p r1/\r1.fl=r.fl/\r1.off < r1.csz/\r1.chunk[r1.off.toNat]? = some c/\Cc (n+4) 133 [.obj 1] [] (r.st tl)=some (.str [c],r1.fwd.st tl):=by
  have hh:half=1000000000:=rfl
  have hdr:t.drop p=c::t.drop (p+1):=by
    obtain ⟨hlt,hget⟩:=List.getElem?_eq_some_iff.mp hp;rw [List.drop_eq_getElem_cons hlt,hget]
  by_cases h:r.off < r.csz
  . have hc:r.chunk[r.off.toNat]? = some c:=by
      have:=a.rem
      rw [hdr] at this;have hl:r.off.toNat < r.chunk.length:=by have:=a.csz;have:=a.o0;omega
      rw [List.drop_eq_getElem_cons hl] at this;rw [List.getElem?_eq_getElem hl];exact congrArg some (List.cons.inj this).1
    exact ⟨r,a,rfl,h,hc,char1 n r tl c a.o0 (by have:=a.o1;have:=a.csz;have:=a.cl;omega) h hc⟩
  . have h:r.csz<=r.off:=by exact Int.not_lt.mp (by assumption)
    have a':=a.nextE h;have hcz:=a'.csz;have hr:=a'.rem;have x1:(rdR r 10240).off=0:=rfl;have x2:(rdR r 10240).chunk=dataOf r 10240:=rfl
    have hd:dataOf r 10240=t.drop p:=by
      have:=a.rem
      rw [List.drop_of_length_le (by have:=a.csz;have:=a.o1;omega),List.nil_append] at this
      rw [a.data,this]
    have hc:(dataOf r 10240)[0]? = some c:=by rw [hd,hdr];rfl
    refine ⟨_,a',rfl,?_,?_,char2 n r tl c h a.rd hc⟩
    . rw [hcz,x1,x2,hd,hdr];simp only [List.length_cons];omega
    . exact hc
theorem At.eof {t p r} (a:At t p r) (n:Nat) (tl:St) (hp:p=t.length):∃r1,At t p r1/\r1.fl=r.fl/\Cc (n+4) 133 [.obj 1] [] (r.st tl)=some (.none,r1.st tl):=by
  have hr:=a.rem;rw [hp,List.drop_length,List.append_eq_nil_iff] at hr
  have h:r.csz<=r.off:=by
    have:=List.drop_eq_nil_iff.mp hr.1
    have:=a.csz;have:=a.o0;omega
  exact ⟨_,a.nextE h,rfl,char3 n r tl h a.rd (by rw [a.data];exact hr.2)⟩
theorem unget_ok (n:Nat) (r:R) (tl:St) (c:Nat) (h0:0<=r.off) (h1:r.off<=half) (hc:r.chunk[r.off.toNat]? = some c):Cc (n+1) 163 [.obj 1,.str [c]] [] (r.fwd.st tl)=some (.none,r.st tl):=by
  show fcall Tc (Cc n) 1000000 true ms163 [("self",.obj 1),("char",.str [c])] (r.fwd.st tl)=_;have e:=fun σ=>BG r.chunk r.off c σ h0 h1 hc
  have x1:r.fwd.off=r.off+1:=rfl;have x2:r.fwd.chunk=r.chunk:=rfl;have x3:r.off+1 - 1=r.off:=by omega
  have q:(r.off+1==0)=false:=beq_eq_false_iff_ne.mpr (by omega)
  wide_line with [ms163,x1,x2,x3,q,e,decide_true];rfl
theorem FN (n:Nat) (r:R) (tl:St):Cc (n+1) 163 [.obj 1,.none] [] (r.st tl)=some (.none,r.st tl):=by
  show fcall Tc (Cc n) 1000000 true ms163 [("self",.obj 1),("char",.none)] (r.st tl)=_;wide_line with [ms163]
theorem At.unget {t p r c} (a:At t p r) (n:Nat) (tl:St) (hc:r.chunk[r.off.toNat]? = some c):Cc (n+1) 163 [.obj 1,.str [c]] [] (r.fwd.st tl)=some (.none,r.st tl):=
  unget_ok n r tl c a.o0 (by have hh:half=1000000000:=rfl;have:=a.o1;have:=a.csz;have:=a.cl;omega) hc
end Mine
open PySem PySem.W PyProof.Rows
set_option maxRecDepth 100000
set_option maxHeartbeats 2000000
namespace Mine
theorem st_app (r:R) (tl xs:St):r.st tl++xs=r.st (tl++xs):=rfl
theorem CY (r:R) (tl xs:St) (o:O):(r.st (tl++o::xs))[tl.length+6]? = some o:=by
  show (tl++o::xs)[tl.length]? = _;rw [List.getElem?_append_right (Nat.le_refl _),Nat.sub_self];rfl
theorem EI (r:R) (tl xs:St) (o o':O):(r.st (tl++o::xs)).set (tl.length+6) o'=r.st (tl++o'::xs):=by
  have:(tl++o::xs).set tl.length o'=tl++o'::xs:=by
    rw [List.set_append_right _ _ (Nat.le_refl _),Nat.sub_self];rfl
  show o0 r.fl::o1 r.chunk r.csz r.off r.pl r.pc::_::_::_::_::(tl++o::xs).set tl.length o'=_;rw [this];rfl
theorem FP (r:R) (tl xs:St) (vs:List V):getM Tc (.obj (tl.length+6)) "append" (r.st (tl++.list vs::xs))=some (.bm (.obj (tl.length+6)) "append"):=by
  show ((r.st (tl++.list vs::xs))[tl.length+6]?).bind _=_;rw [CY];rfl
theorem mt_pop (r:R) (tl xs:St) (vs:List V):getM Tc (.obj (tl.length+6)) "pop" (r.st (tl++.list vs::xs))=some (.bm (.obj (tl.length+6)) "pop"):=by
  show ((r.st (tl++.list vs::xs))[tl.length+6]?).bind _=_;rw [CY];rfl
theorem AT (r:R) (tl xs:St) (vs:List V):objL (r.st (tl++.list vs::xs)) (tl.length+6)=some vs:=by
  unfold objL;rw [CY]
theorem D5 (r:R) (tl xs:St) (vs:List V) (v:V) (h:vs.length < big):bmet (.obj (tl.length+6)) "append" [v] (r.st (tl++.list vs::xs))=some (.none,r.st (tl++.list (vs++[v])::xs)):=by
  rw [m_app (AT r tl xs vs) h,EI]
theorem bt_pop (r:R) (tl xs:St) (vs:List V) (v:V) (h:(vs++[v]).length<=big):bmet (.obj (tl.length+6)) "pop" [] (r.st (tl++.list (vs++[v])::xs))=some (v,r.st (tl++.list vs::xs)):=by
  rw [m_pop (AT r tl xs (vs++[v])) (by rw [List.getLast?_concat]) h,EI,List.dropLast_concat]
theorem EJ (r:R) (tl xs:St) (vs:List V) (ss:List (List Nat)) (h:toStrs vs=some ss) (hb:ss.flatten.length<=big):bmet (.str []) "join" [.obj (tl.length+6)] (r.st (tl++.list vs::xs))=some (.str ss.flatten,r.st (tl++.list vs::xs)):=by
  exact FE (AT r tl xs vs) h hb
theorem CZ (l:List Nat) (p:Int) (σ:St) (hp:0<=p) (h:p<=half) (hl:l.length<=big):slcV (.str l) (.int p) .none σ=some (.str (l.drop p.toNat)):=by
  have hh:half=1000000000:=rfl;have b1:bound (.int p)=some (some p):=if_pos ⟨by omega,by omega⟩
  rw [D2 (u:=none) b1 rfl hl]
  congr 2
  unfold cut
  have e1:lo (some p) l.length=min p.toNat l.length:=by
    show (if p < 0 then _ else _)=_
    rw [if_neg (by exact Int.not_lt.mpr (by assumption))]
  have e2:hi none l.length=l.length:=rfl;rw [e1,e2]
  by_cases q:p.toNat<=l.length
  . rw [Nat.min_eq_left q,List.take_of_length_le (by rw [List.length_drop];exact Nat.le_refl _)]
  . rw [List.drop_of_length_le (by omega),List.drop_of_length_le (by omega),List.take_nil]
noncomputable def cuL (i:Nat) (e:Int):L:=[("self",.obj 1),("characters",.tup [.str [38]]),("opposite",.bool false),("rv",.obj i),("end",.int e)]
noncomputable def cu0 (i:Nat):L:=[("self",.obj 1),("characters",.tup [.str [38]]),("opposite",.bool false),("rv",.obj i)]
theorem ms156_eq:ms156=(.cons (.asg (.loc "rv") (.lst true .nil)) (.cons (.whl (.cst (.bool true)) cuA) (.cons (.asg (.loc "r") (.met (.cst (.str [])) "join" (.cons (.loc "rv") .nil) [] .nil)) (.cons (.ret (.loc "r")) .nil)))):=rfl
noncomputable def nA (c:Nat):Bool:=!(c==38)
theorem Hk (c:Nat) (σ:St):vin Tc σ (.str [c]) (.tup [.str [38]])=some (c==38):=by
  rw [A5 _ _ rfl rfl,List.any_cons,List.any_nil,Bool.or_false];show some (decide ([c]=[38]))=_
  congr 1
  rw [Bool.beq_eq_decide_eq,decide_eq_decide];exact ⟨fun h=>(List.cons.inj h).1,fun h=>by rw [h]⟩
theorem EK {f:Nat->Bool} {l:List Nat} {i c:Nat} (h:l[i]? = some c):(l.drop i).takeWhile f=if f c then c::(l.drop (i+1)).takeWhile f else []:=by
  obtain ⟨hlt,hget⟩:=List.getElem?_eq_some_iff.mp h;rw [List.drop_eq_getElem_cons hlt,hget,List.takeWhile_cons]
theorem EL (C:Calls) (N nb:Nat) (r:R) (tl:St) (i:Nat) (hl:r.csz=r.chunk.length) (hh:r.csz<=half):∀(v:List Nat) (e f:Nat),v=(r.chunk.drop e).takeWhile nA->e<=r.chunk.length->
    whlL (wc Tc C cuC) (wb Tc C N nb cuW) (f+v.length+1) (cuL i e) (r.st tl)=some (.next (cuL i ((e+v.length:Nat):Int)) (r.st tl))
  | [],e,f,hv,he=>by
    refine Ds ?_
    rw [EH]
    by_cases q:e=r.chunk.length
    . have q1:(((e:Nat):Int)==r.csz)=true:=by rw [hl,q];exact beq_self_eq_true _
      wide_line with [cuC,cuL,q1]
    . have q1:(((e:Nat):Int)==r.csz)=false:=beq_eq_false_iff_ne.mpr (by omega)
      obtain ⟨c,hc⟩:∃c,r.chunk[e]? = some c:=⟨_,List.getElem?_eq_getElem (by exact Nat.lt_of_le_of_ne (by assumption) (by assumption))⟩
      have s:=fun σ=>BG r.chunk (e:Int) c σ (by exact Int.natCast_nonneg _) (by omega) (by rw [Int.toNat_natCast];exact hc)
      rw [EK hc] at hv
      have hn:nA c=false:=by
        cases h:nA c with
        | false=>rfl
        | true=>rw [h] at hv;cases hv
      have hn:(c==38)=true:=by unfold nA at hn;simpa using hn
      have v:=Hk c;wide_line with [cuC,cuL,q1,s,v,hn];rfl
  | d::v,e,f,hv,he=>by
    have hlt:e < r.chunk.length:=by
      apply Nat.lt_of_not_le;intro q;rw [List.drop_of_length_le q] at hv;cases hv
    obtain ⟨c,hc⟩:∃c,r.chunk[e]? = some c:=⟨_,List.getElem?_eq_getElem hlt⟩;have q1:(((e:Nat):Int)==r.csz)=false:=beq_eq_false_iff_ne.mpr (by omega)
    have s:=fun σ=>BG r.chunk (e:Int) c σ (by exact Int.natCast_nonneg _) (by omega) (by rw [Int.toNat_natCast];exact hc)
    rw [EK hc] at hv
    have hn:nA c=true:=by
      cases h:nA c with
      | true=>rfl
      | false=>rw [h] at hv;cases hv
    rw [hn,if_pos rfl] at hv;have hn:(c==38)=false:=by unfold nA at hn;simpa using hn
    have e2:=EL C N nb r tl i hl hh v (e+1) f (List.cons.inj hv).2 hlt;have vi:=Hk c;have ff:(false==false)=true:=rfl;rw [show f+(d::v).length+1=(f+v.length+1)+1 by rw [List.length_cons];exact Nat.succ_add _ _,CT (σ':=r.st tl)]
    . rw [CS]
      have body:ex Tc C N nb cuW (cuL i e) (r.st tl)=some (.next (cuL i ((e+1:Nat):Int)) (r.st tl)):=by
        wide_line with [cuW,cuL];rfl
      rw [body,kB_n,e2,List.length_cons,show e+1+v.length=e+(v.length+1) by exact Nat.succ_add _ _]
    . rw [EH];wide_line with [cuC,cuL,q1,s,vi,hn,ff]
noncomputable def R.to (r:R) (k:Int):R:=⟨r.text,r.place,r.chunk,r.csz,k,r.pl,r.pc,r.er,r.fl⟩
theorem At.to {t:List Nat} {p:Nat} {r:R} (a:At t p r) (k:Nat) (h:r.off+k<=r.csz):At t (p+k) (r.to (r.off+k)):=by
  obtain ⟨tx,p0,p1,csz,o0,o1,le,ple,rm,pl,pc,er,tl,tg,cl⟩:=a;have es:p+k - (r.off+k).toNat=p - r.off.toNat:=by (clear cl er csz pc pl;omega)
  have hlen:=congrArg List.length rm;rw [List.length_drop,List.length_append] at hlen;refine ⟨tx,p0,p1,csz,?_,h,?_,by (clear es cl er pc pl le;omega),?_,?_,?_,er,tl,tg,cl⟩
  . show 0<=r.off+k;omega
  . show (r.off+k).toNat<=p+k;(clear hlen es er pc pl ple o0 csz cl;omega)
  . show t.drop (p+k - (r.off+k).toNat)=_;rw [es];exact rm
  . show r.pl=(cnt1 10 (t.take (p+k - (r.off+k).toNat)):Nat);rw [es];exact pl
  . show r.pc=colM (t.take (p+k - (r.off+k).toNat));rw [es];exact pc
theorem FQ {f:Nat->Bool}:∀{a b:List Nat},(∀c∈a,f c=true)->(a++b).takeWhile f=a++b.takeWhile f
  | [],_,_=>rfl
  | x::a,b,h=>by
    rw [List.cons_append,List.takeWhile_cons,h x List.mem_cons_self,if_pos rfl,FQ fun c hc=>h c (List.mem_cons_of_mem _ hc)];rfl
theorem tw_all {f:Nat->Bool}:∀{l:List Nat},l.takeWhile f=l->∀c∈l,f c=true
  | [],_,_,h=>by cases h
  | x::l,h,c,hc=>by
    rw [List.takeWhile_cons] at h;cases q:f x with
    | true=>
      rw [q,if_pos rfl] at h;rcases List.mem_cons.mp hc with rfl | hc
      . exact q
      . exact tw_all (List.cons.inj h).2 c hc
    | false=>rw [q] at h;cases h
theorem tw_stop {f:Nat->Bool} {a b:List Nat} (h:(a.takeWhile f).length < a.length):(a++b).takeWhile f=a.takeWhile f:=by
  induction a with
  | nil=>simp at h
  | cons x a ih=>
    rw [List.cons_append,List.takeWhile_cons,List.takeWhile_cons];cases q:f x with
    | true=>
      rw [List.takeWhile_cons,q,if_pos rfl,List.length_cons,List.length_cons] at h;rw [if_pos rfl,if_pos rfl,ih (by exact Nat.lt_of_succ_lt_succ (by assumption))]
    | false=>rfl
theorem slc_mid (l:List Nat) (p k:Nat) (σ:St) (h:p+k<=1000) (hl:l.length<=big):slcV (.str l) (.int p) (.int ((p+k:Nat):Int)) σ=some (.str ((l.drop p).take k)):=by
  have hh:half=1000000000:=rfl
  have:=FL l p k σ (by exact Int.natCast_nonneg _) (by exact Int.natCast_nonneg _) (by exact Int.ofNat_le.mpr (Nat.le_trans (by assumption) (by decide))) hl
  rw [Int.toNat_natCast,Int.toNat_natCast] at this;exact this
theorem Hl (f:Nat->Bool) (l:List Nat):l.take (l.takeWhile f).length=l.takeWhile f:=by
  induction l with
  | nil=>rfl
  | cons x l ih=>
    rw [List.takeWhile_cons];cases q:f x with
    | true=>rw [if_pos rfl,List.length_cons,List.take_succ_cons,ih]
    | false=>rfl
theorem FR (f:Nat->Bool) (l:List Nat):(l.takeWhile f).length<=l.length:=(List.takeWhile_sublist f).length_le
theorem Hm {t:List Nat} {p:Nat} {r:R} (n nb:Nat) (a:At t p r) (tl:St) (vs:List V) (ρ:L) (hρ:ρ=cu0 (tl.length+6)∨∃e,ρ=cuL (tl.length+6) e) (hv:vs.length < big) :
    ∃ρ',(∃e,ρ'=cuL (tl.length+6) e)/\
      ((∃(r':R) (ws:List (List Nat)),ex Tc (Cc (n+3)) 1000000 nb cuA ρ (r.st (tl++[.list vs]))=some (.brk ρ' (r'.st (tl++[.list (vs++ws.map V.str)])))/\At t (p+((t.drop p).takeWhile nA).length) r'/\r'.fl=r.fl/\ws.flatten=(t.drop p).takeWhile nA/\ws.length<=1)∨
       (∃(w:List Nat) (k:Nat),ex Tc (Cc (n+3)) 1000000 nb cuA ρ (r.st (tl++[.list vs]))=some (.next ρ' ((rdR r 10240).st (tl++[.list (vs++[V.str w])])))/\At t (p+k) (rdR r 10240)/\w.length=k/\(t.drop p).takeWhile nA=w++(t.drop (p+k)).takeWhile nA/\t.drop r.place.toNat≠[])):=by
  have hh:half=1000000000:=rfl;have hb:big=16777216:=rfl;have rem:=a.rem.symm;have rd:=a.rd;have cl:=a.cl;have csz:=a.csz;have o0:=a.o0;have o1:=a.o1;obtain ⟨o,ho⟩:=Int.eq_ofNat_of_zero_le o0
  have hp:put ρ "end" (.int r.off)=cuL (tl.length+6) r.off:=by
    rcases hρ with rfl | ⟨e,rfl⟩<;>rfl
  have hs:lk ρ "self" = some (.obj 1):=by
    rcases hρ with rfl | ⟨e,rfl⟩<;>rfl
  generalize hvw:(r.chunk.drop o).takeWhile nA=v;have hvl:v.length<=(r.chunk.drop o).length:=by rw [<- hvw];exact FR _ _
  rw [List.length_drop] at hvl
  have hw:∀σs,ex Tc (Cc (n+3)) 1000000 nb (.whl cuC cuW) (cuL (tl.length+6) r.off) (r.st σs)=some (.next (cuL (tl.length+6) ((o+v.length:Nat):Int)) (r.st σs)):=by
    intro σs
    have:=EL (Cc (n+3)) 1000000 nb r σs (tl.length+6) csz rd.c1 v o (999999 - v.length) hvw.symm (by omega)
    rw [show 999999 - v.length+v.length+1=1000000 by (clear ho csz hh;omega)] at this
    rw [ho];exact this
  have ap:=fun w=>D5 r tl [] vs w hv
  have ma:=FP r tl [] vs;have off1:((r.off.toNat:Nat))=o:=by omega
  rw [off1] at rem
  have st0:ex Tc (Cc (n+3)) 1000000 nb cuA ρ (r.st (tl++[.list vs]))=ex Tc (Cc (n+3)) 1000000 nb (.cons (.ifs (.cmp .Eq (.loc "end") (.attr (.loc "self") "chunkOffset")) cuJ cuK) cuT) (cuL (tl.length+6) ((o+v.length:Nat):Int)) (r.st (tl++[.list vs])):=by
    rw [cuA,jasg (Ak (jl hs) (B4 _ _)),hp,Ac,hw,kS_n]
  have c1:∀{b},(((o+v.length:Nat):Int)==r.off)=b->ev Tc (Cc (n+3)) (.cmp .Eq (.loc "end") (.attr (.loc "self") "chunkOffset")) (cuL (tl.length+6) ((o+v.length:Nat):Int)) (r.st (tl++[.list vs]))=some (.bool b,r.st (tl++[.list vs])):=fun h=>jcmp (jl rfl) (Ak (jl rfl) (B4 _ _)) (congrArg some h)
  have c2:∀{b},(r.off==r.csz)=b->ev Tc (Cc (n+3)) (.cmp .NotEq (.attr (.loc "self") "chunkOffset") (.attr (.loc "self") "chunkSize")) (cuL (tl.length+6) ((o+v.length:Nat):Int)) (r.st (tl++[.list vs]))=some (.bool (!b),r.st (tl++[.list vs])):=fun h=>jcmp (Ak (jl rfl) (B4 _ _)) (Ak (jl rfl) (D3 _ _)) (congrArg (fun b=>some (!b)) h)
  have c3:∀{b},(((o+v.length:Nat):Int)==r.csz)=b->ev Tc (Cc (n+3)) (.cmp .NotEq (.loc "end") (.attr (.loc "self") "chunkSize")) (cuL (tl.length+6) ((o+v.length:Nat):Int)) (r.st (tl++[.list vs]))=some (.bool (!b),r.st (tl++[.list vs])):=fun h=>jcmp (jl rfl) (Ak (jl rfl) (D3 _ _)) (congrArg (fun b=>some (!b)) h)
  refine ⟨cuL (tl.length+6) ((o+v.length:Nat):Int),⟨_,rfl⟩,?_⟩;rw [st0]
  by_cases hend:o+v.length=r.chunk.length
  . -- the chunk is read to its end
    have hall:(r.chunk.drop o).takeWhile nA=r.chunk.drop o:=by
      have h1:=Hl nA (r.chunk.drop o);rw [hvw,List.take_of_length_le (by rw [List.length_drop];(clear off1 ho csz hh hv o1 o0 hb;omega))] at h1
      rw [hvw,h1]
    have hv2:v=r.chunk.drop o:=by rw [<- hvw,hall]
    have sl:=fun σ=>CZ r.chunk r.off σ o0 (by (clear hend off1 hvl ho hv hb;omega)) (by exact Nat.le_trans (by assumption) (by decide))
    rw [off1,<- hv2] at sl;have e1:=fun xs=>FM n r xs rd
    have nx:=a.next;have hpk:p - r.off.toNat+r.csz.toNat=p+v.length:=by have:=a.le;(clear hvl ho cl hh hv hb;omega)
    rw [hpk] at nx;have ce:(((o+v.length:Nat):Int)==r.csz)=true:=by rw [csz,hend];exact beq_self_eq_true _
    have tw:(t.drop p).takeWhile nA=v++(t.drop r.place.toNat).takeWhile nA:=by rw [rem,<- hv2,FQ (tw_all (by rw [hv2];exact hall))]
    have dr:t.drop (p+v.length)=t.drop r.place.toNat:=by rw [<- List.drop_drop,rem,<- hv2,List.drop_left]
    have mid:ex Tc (Cc (n+3)) 1000000 nb (.cons (.ifs (.cmp .Eq (.loc "end") (.attr (.loc "self") "chunkOffset")) cuJ cuK) cuT) (cuL (tl.length+6) ((o+v.length:Nat):Int)) (r.st (tl++[.list vs]))=ex Tc (Cc (n+3)) 1000000 nb (.cons (.ifs (.not (.met (.loc "self") "readChunk" .nil [] .nil)) (.cons .brk .nil) .nil) .nil) (cuL (tl.length+6) ((o+v.length:Nat):Int)) (r.st (tl++[.list (vs++[.str v])])):=by
      have tail:ex Tc (Cc (n+3)) 1000000 nb cuT (cuL (tl.length+6) ((o+v.length:Nat):Int)) (r.st (tl++[.list vs]))=ex Tc (Cc (n+3)) 1000000 nb (.cons (.ifs (.not (.met (.loc "self") "readChunk" .nil [] .nil)) (.cons .brk .nil) .nil) .nil) (cuL (tl.length+6) ((o+v.length:Nat):Int)) (r.st (tl++[.list (vs++[.str v])])):=jexp (jmet (jl rfl) ma (js1 (jslc (Ak (jl rfl) (CU _ _)) (Ak (jl rfl) (B4 _ _)) rfl (sl _))) (ap _));refine Eq.trans ?_ tail
      by_cases q:r.csz=r.off
      . have q2:(r.off==r.csz)=true:=by rw [q];exact beq_self_eq_true _
        exact jift (c1 (by rw [<- q];exact ce)) (jiff (c2 q2))
      . exact jife (c1 (beq_eq_false_iff_ne.mpr (by (clear hpk off1 hvl ho hh hv hb;omega)))) (jiff (c3 ce))
    rw [mid]
    by_cases hn:t.drop r.place.toNat=[]
    . have hd:(dataOf r 10240).isEmpty=true:=by rw [a.data,hn];rfl
      refine .inl ⟨rdR r 10240,[v],?_,?_,rfl,?_,Nat.le_refl _⟩
      . have e1:=e1 (tl++[.list (vs++[.str v])]);rw [hd] at e1;exact jift (jnot (t:=false) (jmet (jl rfl) (m1_rc _ _) rfl e1)) rfl
      . rw [tw,hn,List.takeWhile_nil,List.append_nil];exact nx
      . rw [tw,hn,List.takeWhile_nil,List.append_nil,List.flatten_cons,List.flatten_nil,List.append_nil]
    . have hd:(dataOf r 10240).isEmpty=false:=by
        rw [a.data];cases q:t.drop r.place.toNat with
        | nil=>exact absurd q hn
        | cons=>rfl
      refine .inr ⟨v,v.length,?_,nx,rfl,by rw [tw,dr],hn⟩
      have e1:=e1 (tl++[.list (vs++[.str v])]);rw [hd] at e1;exact jiff (jnot (t:=true) (jmet (jl rfl) (m1_rc _ _) rfl e1))
  . -- it stands at an &
    have ce:(((o+v.length:Nat):Int)==r.csz)=false:=beq_eq_false_iff_ne.mpr (by omega)
    have tw:(t.drop p).takeWhile nA=v:=by rw [rem,tw_stop (by rw [hvw,List.length_drop];(clear off1 cl hh hv hb;omega)),hvw]
    rw [tw]
    by_cases hv0:v=[]
    . subst hv0;have q1:(((o+([]:List Nat).length:Nat):Int)==r.off)=true:=by rw [ho];exact beq_self_eq_true _
      have q2:(r.off==r.csz)=false:=beq_eq_false_iff_ne.mpr (by intro q;apply hend;simp;omega)
      refine .inl ⟨r,[],?_,a,rfl,rfl,Nat.zero_le _⟩;rw [List.map_nil,List.append_nil];exact jift (c1 q1) (jift (c2 q2) rfl)
    . have hlp:0 < v.length:=List.length_pos_iff.mpr hv0;have q1:(((o+v.length:Nat):Int)==r.off)=false:=beq_eq_false_iff_ne.mpr (by omega)
      have sl:=fun σ=>slc_mid r.chunk o v.length σ (by (clear hend off1 ho csz hh hv o1 o0 hb;omega)) (by exact Nat.le_trans (by assumption) (by decide))
      rw [<- hvw,Hl,hvw,<- ho] at sl;have at2:=a.to v.length (by (clear hend off1 o1 hh hv hb;omega))
      have hto:r.off+(v.length:Int)=((o+v.length:Nat):Int):=by omega
      refine .inl ⟨r.to (r.off+v.length),[v],?_,at2,rfl,by simp,Nat.le_refl _⟩
      rw [hto];exact jife (c1 q1) (jift (c3 ce) ((jexp (jmet (jl rfl) ma (js1 (jslc (Ak (jl rfl) (CU _ _)) (Ak (jl rfl) (B4 _ _)) (jl rfl) (sl _))) (ap _))).trans (jasa (jl rfl) rfl (FJ _ _ _))))
theorem At.rmn {t:List Nat} {p:Nat} {r:R} (a:At t p r):t.drop (rdR r 10240).place.toNat=[]:=by
  have hdl:(dataOf r 10240).length=t.length - r.place.toNat:=by rw [a.data,List.length_drop]
  have hp:(r.place+((dataOf r 10240).length:Int)).toNat=t.length:=by have:=a.p0;have:=a.p1;omega
  show t.drop (r.place+((dataOf r 10240).length:Int)).toNat=[];rw [hp,List.drop_length]
theorem Hn {t:List Nat} (n nb:Nat) (tl:St):∀(m:Nat) (p:Nat) (r:R) (vs:List V) (ρ:L) (f:Nat),At t p r->(t.drop r.place.toNat).length<=m->(ρ=cu0 (tl.length+6)∨∃e,ρ=cuL (tl.length+6) e)->vs.length+m < 10000->
    ∃(ρ':L) (r':R) (ws:List (List Nat)),(∃e,ρ'=cuL (tl.length+6) e)/\whlL (wc Tc (Cc (n+3)) (.cst (.bool true))) (wb Tc (Cc (n+3)) 1000000 nb cuA) (f+m+1) ρ (r.st (tl++[.list vs]))=some (.next ρ' (r'.st (tl++[.list (vs++ws.map V.str)])))/\
      At t (p+((t.drop p).takeWhile nA).length) r'/\r'.fl=r.fl/\ws.flatten=(t.drop p).takeWhile nA
  | 0,p,r,vs,ρ,f,a,hm,hρ,hv=>by
    have wt:∀ρ σ,wc Tc (Cc (n+3)) (.cst (.bool true)) ρ σ=some (true,σ):=fun _ _=>rfl
    obtain ⟨ρ',hρ',h | h⟩:=Hm n nb a tl vs ρ hρ (by show _ < 16777216;exact Nat.lt_of_lt_of_le (by assumption) (by decide))
    . obtain ⟨r',ws,e,a',h1,h3,_⟩:=h;refine ⟨ρ',r',ws,hρ',?_,a',h1,h3⟩;rw [CT (wt _ _),CS,e,kB_b]
    . obtain ⟨w,k,_,_,_,_,hn⟩:=h;exact absurd (List.length_eq_zero_iff.mp (Nat.le_zero.mp hm)) hn
  | m+1,p,r,vs,ρ,f,a,hm,hρ,hv=>by
    have wt:∀ρ σ,wc Tc (Cc (n+3)) (.cst (.bool true)) ρ σ=some (true,σ):=fun _ _=>rfl
    obtain ⟨ρ',hρ',h | h⟩:=Hm n nb a tl vs ρ hρ (by show _ < 16777216;omega)
    . obtain ⟨r',ws,e,a',h1,h3,_⟩:=h;refine ⟨ρ',r',ws,hρ',?_,a',h1,h3⟩;rw [CT (wt _ _),CS,e,kB_b]
    . obtain ⟨w,k,e,a',hk,tw,hn⟩:=h;have hlt:(t.drop (rdR r 10240).place.toNat).length < (t.drop r.place.toNat).length:=by rw [a.rmn];exact List.length_pos_iff.mpr hn
      obtain ⟨ρ2,r2,ws,k1,e2,a2,q2,fl⟩:=Hn n nb tl m (p+k) (rdR r 10240) (vs++[V.str w]) ρ' f a' (by omega) (.inr hρ') (by rw [List.length_append,List.length_singleton];omega)
      refine ⟨ρ2,r2,w::ws,k1,?_,?_,q2,?_⟩
      . rw [show f+(m+1)+1=(f+m+1)+1 from rfl,CT (wt _ _),CS,e,kB_n,e2,List.append_assoc];rfl
      . rw [tw,List.length_append,hk,<- Nat.add_assoc];exact a2
      . rw [tw,List.flatten_cons,fl]
theorem EM (ws:List (List Nat)):toStrs (ws.map V.str)=some ws:=by
  induction ws with
  | nil=>rfl
  | cons w ws ih=>show (toStrs (ws.map V.str)).map _=_;rw [ih];rfl
theorem At.until {t:List Nat} {p:Nat} {r:R} (a:At t p r) (n:Nat) (tl:St):∃(r':R) (ws:List (List Nat)),At t (p+((t.drop p).takeWhile nA).length) r'/\r'.fl=r.fl/\Cc (n+4) 156 [.obj 1,.tup [.str [38]]] [] (r.st tl)=some (.str ((t.drop p).takeWhile nA),r'.st (tl++[.list (ws.map V.str)])):=by
  have hb:big=16777216:=rfl;have hf:Cc (n+4) 156 [.obj 1,.tup [.str [38]]] [] (r.st tl)=fcall Tc (Cc (n+3)) 1000000 true ms156 [("self",.obj 1),("characters",.tup [.str [38]]),("opposite",.bool false)] (r.st tl):=rfl
  have rml:(t.drop r.place.toNat).length<=601:=by
    have:=a.tl
    rw [List.length_drop];exact Nat.le_trans (Nat.sub_le _ _) (Nat.le_trans (by assumption) (by decide))
  obtain ⟨ρ',r',ws,⟨e,rfl⟩,e1,a',q',fl⟩:=Hn n (tl.length+6) tl 601 p r [] (cu0 (tl.length+6)) 999398 a rml (.inl rfl) (by show 0+601 < _;decide)
  have hw:ex Tc (Cc (n+3)) 1000000 (tl.length+6) (.whl (.cst (.bool true)) cuA) (cu0 (tl.length+6)) (r.st (tl++[.list []]))=_:=e1;have hl:=a.tl;have tl2:=FR nA (t.drop p);rw [List.length_drop] at tl2;rw [List.nil_append] at hw;have jn:=EJ r' tl [] (ws.map V.str) ws (EM ws) (by rw [fl];omega)
  rw [fl] at jn;refine ⟨r',ws,a',q',?_⟩;rw [hf];unfold cu0 at hw;open_k with [ms156_eq,stlen,st_app,hw,AR];open_k with [cuL,AR,jn]
end Mine
open PySem PySem.W PyProof.Rows
set_option maxRecDepth 100000
set_option maxHeartbeats 2000000
namespace Mine
noncomputable def kyN:List (List Nat):=entL.map Prod.fst
theorem kys_eq:kysL=kyN.map V.str:=by rfl
theorem B6:kyN.length=43:=by decide +kernel
theorem Ho:kysL.length=43:=by decide +kernel
theorem kn_sort:kyN.Pairwise (· < ·):=by decide +kernel
theorem EN:(kyN.all fun k=>decide (k.length<=9)&&decide (0 < k.length))=true:=by decide +kernel
theorem EO {x:List Nat}:∀{es:List (List Nat×V)},(lkD es x).isSome=(es.map Prod.fst).contains x
  | []=>rfl
  | e::r=>by
    rw [List.map_cons,List.contains_cons];show (if e.1=x then some e.2 else lkD r x).isSome=_
    by_cases h:e.1=x
    . rw [if_pos h,h];simp
    . rw [if_neg h,EO]
      have:(x==e.1)=false:=beq_eq_false_iff_ne.mpr (Ne.symm h)
      rw [this,Bool.false_or]
noncomputable def inK (x:List Nat):Bool:=kyN.contains x
theorem D6 (x:List Nat):(lkD entL x).isSome=inK x:=EO
theorem D7 {x:List Nat} (h:inK x=true):x∈kyN:=List.contains_iff_mem.mp h
theorem kn_at {i:Nat} (h:i < 43):∃k,kyN[i]? = some k/\kysL[i]? = some (.str k):=by
  have hl:i < kyN.length:=by rw [B6];exact h
  refine ⟨kyN[i],List.getElem?_eq_getElem hl,?_⟩;rw [kys_eq,List.getElem?_map,List.getElem?_eq_getElem hl];rfl
-- the order of texts
theorem Bw:∀{p k:List Nat},p <+: k->¬k < p
  | [],k,_,h=>List.not_lt_nil _ h
  | c::p,k,hp,h=>by
    obtain ⟨s,rfl⟩:=hp;rw [List.cons_append,List.cons_lt_cons_iff] at h;rcases h with h | ⟨_,h⟩
    . exact Nat.lt_irrefl _ h
    . exact Bw (List.prefix_append p s) h
theorem Hp:∀{p m k:List Nat},¬m < p->(m=k∨m < k)->p <+: k->p <+: m
  | [],m,k,_,_,_=>List.nil_prefix
  | c::p,m,k,h1,h2,hp=>by
    rcases h2 with rfl | h2
    . exact hp
    obtain ⟨s,rfl⟩:=hp;cases m with
    | nil=>exact absurd (List.nil_lt_cons c p) h1
    | cons d m=>
      rw [List.cons_lt_cons_iff] at h1;rw [List.cons_append,List.cons_lt_cons_iff] at h2;rcases h2 with h2 | ⟨rfl,h2⟩
      . exact absurd (.inl h2) h1
      . exact List.cons_prefix_cons.mpr ⟨rfl,Hp (fun q=>h1 (.inr ⟨rfl,q⟩)) (.inr h2) (List.prefix_append p s)⟩
theorem kn_lt {i j:Nat} {a b:List Nat} (hi:kyN[i]? = some a) (hj:kyN[j]? = some b) (h:i < j):a < b:=by
  obtain ⟨h1,rfl⟩:=List.getElem?_eq_some_iff.mp hi;obtain ⟨h2,rfl⟩:=List.getElem?_eq_some_iff.mp hj;exact List.pairwise_iff_getElem.mp kn_sort i j h1 h2 h
-- bisect_left
theorem bin_fd {σ:St} (m:Bool) (a:Nat):bin m .FloorDiv (.int a) (.int 2) σ=some (.int ((a / 2:Nat):Int),σ):=by
  have:(a:Int).fdiv 2=((a / 2:Nat):Int):=by
    rw [Int.fdiv_eq_ediv_of_nonneg _ (by decide)];rfl
  show (if (0:Int) < 2/\(2:Int)<=half then some ((a:Int).fdiv 2) else none).map (fun i=>(V.int i,σ))=_
  rw [if_pos (by decide),this];rfl
theorem ms178_eq:ms178=(.cons (.ifs (.cmp .Is (.loc "high") (.cst .none)) (.cons (.asg (.loc "high") (.bui "len" (.cons (.loc "rows") .nil))) .nil) .nil) (.cons (.whl biC biB) (.cons (.ret (.loc "low")) .nil))):=rfl
noncomputable def Bi (p:List Nat) (lo hi:Nat):Prop:=(∀j k,j < lo->kyN[j]? = some k->k < p)/\(∀j k,hi<=j->kyN[j]? = some k->¬k < p)
structure Bs (p:List Nat) (lo hi:Nat) (ρ:L):Prop where
  r:lk ρ "rows" = some (.lst kysL)
  k:lk ρ "key" = some (.str p)
  l:lk ρ "low" = some (.int (lo:Nat))
  h:lk ρ "high" = some (.int (hi:Nat))
theorem bi_c {C:Calls} {σ:St} {p:List Nat} {lo hi:Nat} {ρ:L} (B:Bs p lo hi ρ):wc Tc C biC ρ σ=some (decide (((lo:Nat):Int) < (hi:Nat)),σ):=by
  exact jwc (jcmp (jl B.l) (jl B.h) rfl)
theorem bi_b {C:Calls} {N nb:Nat} {σ:St} {p k:List Nat} {lo hi m:Nat} {ρ:L} (B:Bs p lo hi ρ) (hm:m=(lo+hi) / 2) (h43:m < 43) (hkv:kysL[m]? = some (.str k)) :
    ∃ρ',ex Tc C N nb biB ρ σ=some (.next ρ' σ)/\if strLt k p=true then Bs p (m+1) hi ρ' else Bs p lo m ρ':=by
  have hh:half=1000000000:=rfl
  have e1:bin false .FloorDiv (.int ((lo:Int)+(hi:Int))) (.int 2) σ=some (.int (m:Nat),σ):=by
    have:=bin_fd (σ:=σ) false (lo+hi)
    rw [hm];exact this
  have e2:subV Tc (.lst kysL) (.int (m:Nat)) σ=some (.str k):=Dt ⟨by exact Int.natCast_nonneg _,by omega⟩ (by
    unfold idx?;rw [if_pos (Int.natCast_nonneg _),if_pos (by rw [Ho];exact Int.ofNat_lt.mpr (by assumption)),Int.toNat_natCast]) hkv
  generalize hr:put ρ "middle" (.int (m:Nat))=r1
  have b1:Bs p lo hi r1:=by
    rw [<- hr];exact ⟨by rw [Ad (by decide),B.r],by rw [Ad (by decide),B.k],by rw [Ad (by decide),B.l],by rw [Ad (by decide),B.h]⟩
  have b2:lk r1 "middle" = some (.int (m:Nat)):=by rw [<- hr,Ab]
  have e3:ev Tc C (.cmp .Lt (.sub (.loc "rows") (.loc "middle")) (.loc "key")) r1 σ=some (.bool (strLt k p),σ):=jcmp (jsub (jl b1.r) (jl b2) e2) (jl b1.k) rfl;rw [biB,jasg (jbin (jbin (jl B.l) (jl B.h) rfl) rfl e1),hr];cases hs:strLt k p with
  | true=>
    refine ⟨put r1 "low" (.int ((m+1:Nat):Int)),?_,?_⟩
    . rw [hs] at e3;exact jift e3 (jasg (jbin (jl b2) rfl rfl))
    . rw [if_pos rfl];exact ⟨by rw [Ad (by decide),b1.r],by rw [Ad (by decide),b1.k],Ab,by rw [Ad (by decide),b1.h]⟩
  | false=>
    refine ⟨put r1 "high" (.int (m:Nat)),?_,?_⟩
    . rw [hs] at e3;exact jife e3 (jasg (jl b2))
    . rw [if_neg Bool.false_ne_true];exact ⟨by rw [Ad (by decide),b1.r],by rw [Ad (by decide),b1.k],by rw [Ad (by decide),b1.l],Ab⟩
theorem D8 (C:Calls) (N nb:Nat) (σ:St) (p:List Nat) (f:Nat):∀(d lo hi:Nat) (ρ:L),hi - lo<=d->lo<=hi->hi<=43->Bi p lo hi->Bs p lo hi ρ->
    ∃ρ' i,whlL (wc Tc C biC) (wb Tc C N nb biB) (f+d+1) ρ σ=some (.next ρ' σ)/\lk ρ' "low" = some (.int (i:Nat))/\Bi p i i/\i<=43
  | d,lo,hi,ρ,hd,h1,h2,B,hρ=>by
    have wt:=bi_c (C:=C) (σ:=σ) hρ
    match d,hd with
    | 0,hd=>
      have e:lo=hi:=by omega
      subst e;rw [decide_eq_false (by omega)] at wt
      exact ⟨ρ,lo,Ds wt,hρ.l,B,h2⟩
    | d+1,hd=>
      by_cases hlt:lo < hi
      . rw [decide_eq_true (Int.ofNat_lt.mpr hlt)] at wt;obtain ⟨m,hm⟩:∃m,m=(lo+hi) / 2:=⟨_,rfl⟩;have hm1:lo<=m/\m < hi:=by omega
        obtain ⟨k,hk,hkv⟩:=kn_at (i:=m) (Nat.lt_of_lt_of_le hm1.2 h2);obtain ⟨ρ1,e1,b1⟩:=bi_b (C:=C) (N:=N) (nb:=nb) (σ:=σ) hρ hm (Nat.lt_of_lt_of_le hm1.2 h2) hkv;rw [show f+(d+1)+1=(f+d+1)+1 from rfl,CT wt,CS,e1,kB_n];cases hc:strLt k p with
        | true=>
          have hkp:k < p:=of_decide_eq_true hc;rw [hc,if_pos rfl] at b1;refine D8 C N nb σ p f d (m+1) hi ρ1 (by omega) hm1.2 h2 ⟨fun j x hj hx=>?_,B.2⟩ b1
          rcases Nat.lt_or_eq_of_le (Nat.lt_succ_iff.mp hj) with h | rfl
          . exact List.lt_trans (kn_lt hx hk h) hkp
          . rw [hk] at hx;cases hx;exact hkp
        | false=>
          have hkp:¬k < p:=of_decide_eq_false hc;rw [hc,if_neg Bool.false_ne_true] at b1;refine D8 C N nb σ p f d lo m ρ1 (by omega) hm1.1 (Nat.le_trans (Nat.le_of_lt hm1.2) h2) ⟨B.1,fun j x hj hx=>?_⟩ b1
          rcases Nat.lt_or_eq_of_le hj with h | rfl
          . exact fun z=>hkp (List.lt_trans (kn_lt hk hx h) z)
          . rw [hk] at hx;cases hx;exact hkp
      . have e:lo=hi:=Nat.le_antisymm h1 (Nat.not_lt.mp hlt);subst e;rw [decide_eq_false (by omega)] at wt
        exact ⟨ρ,lo,Ds wt,hρ.l,B,h2⟩
theorem bi_ok (n:Nat) (σ:St) (p:List Nat):∃i,Cc (n+1) 178 [.lst kysL,.str p,.int 0,.int 43] [] σ=some (.int (i:Nat),σ)/\Bi p i i/\i<=43:=by
  obtain ⟨ρ',i,e,l,B,h⟩:=D8 (Cc n) 1000000 σ.length σ p 999956 43 0 43 [("rows",.lst kysL),("key",.str p),("low",.int 0),("high",.int 43)] (Nat.le_refl _) (by decide) (Nat.le_refl _) ⟨fun j k h=>absurd h (Nat.not_lt_zero _),fun j k h1 h2=>by
    have:=(List.getElem?_eq_some_iff.mp h2).1
    rw [B6] at this;exact absurd (by assumption) (Nat.not_lt.mpr (by assumption))⟩ ⟨rfl,rfl,rfl,rfl⟩
  refine ⟨i,?_,B,h⟩;show fcall Tc (Cc n) 1000000 true ms178 [("rows",.lst kysL),("key",.str p),("low",.int 0),("high",.int 43)] σ=_;have e':ex Tc (Cc n) 1000000 σ.length (.whl biC biB) [("rows",.lst kysL),("key",.str p),("low",.int 0),("high",.int 43)] σ=some (.next ρ' σ):=e;rw [Ax,ms178_eq,Ac,AM,DQ,An,As _ (by decide),As _ (by decide),As _ (by decide),AN,kv_s,Co,AL,Bj,c_isi,kBl_s,CR,AQ,DZ,B1,kS_n,Ac,e',kS_n,Ac,Bb,An,l,kv_s,D0,kS_r,kF_r]
noncomputable def hasP (p:List Nat):Bool:=kyN.any fun k=>p.isPrefixOf k
theorem hasP_iff {p:List Nat}:hasP p=true ↔ ∃k∈kyN,p <+: k:=by
  unfold hasP;rw [List.any_eq_true];constructor
  . exact fun ⟨k,h1,h2⟩=>⟨k,h1,List.isPrefixOf_iff_prefix.mp h2⟩
  . exact fun ⟨k,h1,h2⟩=>⟨k,h1,List.isPrefixOf_iff_prefix.mpr h2⟩
theorem D9 (σ:St):attrV Tc (.stat 236) "_data" σ=some (.stat 43):=rfl
theorem a_keys (σ:St):attrV Tc (.stat 236) "_keys" σ=some (.lst kysL):=rfl
theorem a_cs (σ:St):attrV Tc (.stat 236) "_cachestr" σ=some (.str []):=rfl
theorem a_cp (σ:St):attrV Tc (.stat 236) "_cachepoints" σ=some (.tup [.int 0,.int 43]):=rfl
theorem Cs (x:List Nat) (σ:St):vin Tc σ (.str x) (.stat 43)=some (inK x):=congrArg some (D6 x)
theorem m_sw {σ:St} (l x:List Nat) (h:l.length<=big):bmet (.str l) "startswith" [.str x] σ=some (.bool (x.isPrefixOf l),σ):=
  (if_pos h).trans ((if_neg (by decide)).trans ((if_neg (by decide)).trans ((if_neg (by decide)).trans ((if_pos rfl)))))
theorem hasP_ok (n:Nat) (σ:St) (p:List Nat) (hp:p.length<=1000):Cc (n+2) 220 [.stat 236,.str p] [] σ=some (.bool (hasP p),σ):=by
  show fcall Tc (Cc (n+1)) 1000000 true ms220 [("self",.stat 236),("prefix",.str p)] σ=_;cases hk:inK p with
  | true=>
    have:hasP p=true:=hasP_iff.mpr ⟨p,D7 hk,List.prefix_refl p⟩
    rw [this];wide_line with [ms220,D9,Cs,hk]
  | false=>
    have s1:=fun σ:St=>m_sw (σ:=σ) p [] (Nat.le_trans hp (by decide))
    rw [show ([]:List Nat).isPrefixOf p=true by cases p<;>rfl] at s1
    obtain ⟨i,e,B,hi⟩:=bi_ok n σ p;have hlen:bui Tc "len" [.lst kysL] σ=some (.int 43,σ):=by rfl
    have hg:Tc.fnG "bisect_left" = some 178:=rfl
    by_cases q:i=43
    . subst q
      have:hasP p=false:=by
        cases h:hasP p with
        | false=>rfl
        | true=>
          obtain ⟨k,h1,h2⟩:=hasP_iff.mp h;obtain ⟨j,hj⟩:=List.mem_iff_getElem?.mp h1;have hl:=(List.getElem?_eq_some_iff.mp hj).1;rw [B6] at hl;exact absurd (B.1 j k hl hj) (Bw h2)
      rw [this];have q:(((43:Nat):Int)==43)=true:=rfl;wide_line with [ms220,D9,Cs,hk,a_cs,s1,a_cp,a_keys,hg,e,hlen,q]
    . have hi2:i < 43:=by exact Nat.lt_of_le_of_ne (by assumption) (by assumption)
      obtain ⟨k,hk1,hk2⟩:=kn_at hi2
      have hks:k.length<=9:=by
        have:=List.all_eq_true.mp EN k (List.mem_of_getElem? hk1)
        simp only [Bool.and_eq_true,decide_eq_true_eq] at this;exact this.1
      have s2:=fun σ:St=>m_sw (σ:=σ) k p (Nat.le_trans hks (by decide))
      have s3:∀σ:St,subV Tc (.lst kysL) (.int (i:Nat)) σ=some (.str k):=fun σ=>Dt ⟨by unfold half;exact Int.natCast_nonneg _,by unfold half;exact Int.ofNat_le.mpr (Nat.le_trans (by assumption) (by decide))⟩ (by
        unfold idx?;rw [if_pos (Int.natCast_nonneg _),if_pos (by rw [Ho];exact Int.ofNat_lt.mpr (by assumption)),Int.toNat_natCast]) hk2
      have q2:(((i:Nat):Int)==43)=false:=beq_eq_false_iff_ne.mpr (by omega)
      have:hasP p=p.isPrefixOf k:=by
        cases h:p.isPrefixOf k with
        | true=>exact hasP_iff.mpr ⟨k,List.mem_of_getElem? hk1,List.isPrefixOf_iff_prefix.mp h⟩
        | false=>
          cases h3:hasP p with
          | false=>rfl
          | true=>
            obtain ⟨x,h1,h2⟩:=hasP_iff.mp h3;obtain ⟨j,hj⟩:=List.mem_iff_getElem?.mp h1
            have hij:i<=j:=by
              apply Nat.le_of_not_lt;intro z;exact Bw h2 (B.1 j x z hj)
            have hle:k=x∨k < x:=by
              rcases Nat.lt_or_eq_of_le hij with z | rfl
              . exact .inr (kn_lt hk1 hj z)
              . rw [hk1] at hj;exact .inl (Option.some.inj hj)
            have:=List.isPrefixOf_iff_prefix.mpr (Hp (B.2 i k (Nat.le_refl _) hk1) hle h2)
            rw [this] at h;cases h
      rw [this];wide_line with [ms220,D9,Cs,hk,a_cs,s1,a_cp,a_keys,hg,e,hlen,q2,s3,s2]
end Mine
open PySem PySem.W PyProof.Rows
set_option maxRecDepth 100000
set_option maxHeartbeats 2000000
namespace Mine
noncomputable def lpE:ME:=.cons (.loc "prefix") .nil
theorem ms227_eq:ms227=.cons lpA (.cons lpB (.cons .opq .nil)):=rfl
noncomputable def lpT (s:List Nat):Nat->Option (List Nat)
  | 0=>none
  | d+1=>if inK (s.take d)=true then some (s.take d) else lpT s d
structure LpC (T:Tab) (C:Calls):Prop where
  s:T.scls 236=some 230
  m:T.meth 230 "__contains__" = some 199
  c:∀x σ,C 199 [.stat 236,.str x] [] σ=some (.bool (inK x),σ)
  r:T.buiG "range" = true
  l:T.buiG "len" = true
section
variable {T:Tab} {C:Calls} {N nb:Nat} {ρ:L} {σ:St}
theorem ev_has {a b:ME} {s:List Nat} (K:LpC T C) (h1:ev T C a ρ σ=some (.str s,σ)) (h2:ev T C b ρ σ=some (.stat 236,σ)):ev T C (.has a b) ρ σ=some (.bool (inK s),σ):=by
  show (ev T C a ρ σ).bind _=_;rw [h1];show (ev T C b ρ σ).bind _=_;rw [h2];show (T.scls 236).bind _=_;rw [K.s];show (T.meth 230 "__contains__").bind _=_;rw [K.m];show (C 199 [.stat 236,.str s] [] σ).bind _=_;rw [K.c];rfl
theorem lpA_ok (K:LpC T C) {s:List Nat} (h1:lk ρ "prefix" = some (.str s)) (h2:lk ρ "self" = some (.stat 236)):ex T C N nb lpA ρ σ=some (if inK s=true then .ret (.str s) σ else .next ρ σ):=by
  have e:ev T C (.has (.loc "prefix") (.loc "self")) ρ σ=some (.bool (inK s),σ):=ev_has K (by rw [An,h1];rfl) (by rw [An,h2];rfl)
  unfold lpA;rw [AM,e,CR,AQ];cases inK s with
  | true=>open_k with [h1]
  | false=>open_k with [Bool.false_eq_true,if_false]
theorem Hq (s:List Nat) (z:Int) (hz:z < 0) (h:-1000<=z) (hs:s.length<=1000):slcV (.str s) .none (.int z) σ=some (.str (s.take (z+s.length).toNat)):=by
  have hh:half=1000000000:=rfl;have b2:bound (.int z)=some (some z):=if_pos ⟨by omega,by omega⟩
  rw [D2 (l:=none) rfl b2 (Nat.le_trans hs (by decide))]
  congr 2
  show (s.drop 0).take ((if z < 0 then (z+(s.length:Int)).toNat else min z.toNat s.length) - 0)=_
  rw [if_pos hz,List.drop_zero,Nat.sub_zero]
theorem sl_neg (s:List Nat) (k:Nat) (h:k+1<=s.length) (hs:s.length<=1000):slcV (.str s) .none (.int (-((k:Int)+1))) σ=some (.str (s.take (s.length - (k+1)))):=by
  rw [Hq s _ (by omega) (by omega) hs]
  congr 3
  omega
theorem lpW_ok (K:LpC T C) {s:List Nat} {k:Nat} (h1:lk ρ "prefix" = some (.str s)) (h2:lk ρ "self" = some (.stat 236)) (h3:lk ρ "i" = some (.int ((k:Int)+1))) (h:k+1<=s.length) (hs:s.length<=1000):ex T C N nb lpW ρ σ=some (if inK (s.take (s.length - (k+1)))=true then .ret (.str (s.take (s.length - (k+1)))) σ else .next ρ σ):=by
  have sl:=sl_neg (σ:=σ) s k h hs
  have es:ev T C lpS ρ σ=some (.str (s.take (s.length - (k+1))),σ):=by
    rw [lpS,Fu,An,h1,kv_s,DX,AL,DW,ev_neg,An,h3,kv_s,kNeg_s,DV,sl,kv_s]
  have e:ev T C (.has lpS (.loc "self")) ρ σ=some (.bool (inK (s.take (s.length - (k+1)))),σ):=ev_has K es (by rw [An,h2];rfl)
  unfold lpW;rw [Ac,AM,e,CR,AQ];cases inK (s.take (s.length - (k+1))) with
  | true=>open_k with [es]
  | false=>open_k with [Bool.false_eq_true,if_false]
theorem Hr (K:LpC T C) {s:List Nat} (hs:s.length<=1000):∀(d k:Nat) (ρ:L),k+d=s.length->lk ρ "prefix" = some (.str s)->lk ρ "self" = some (.stat 236)->
    ∃ρ',lk ρ' "prefix" = some (.str s)/\forL (fb T C N nb (.loc "i") lpW) ((List.range' k d).map fun (k:Nat)=>V.int (1+(k:Int))) ρ σ=some (match lpT s d with | some x=>.ret (.str x) σ | none=>.next ρ' σ)
  | 0,k,ρ,_,h1,_=>⟨ρ,h1,rfl⟩
  | d+1,k,ρ,hk,h1,h2=>by
    have p1:lk (put ρ "i" (.int (1+(k:Int)))) "prefix" = some (.str s):=by rw [Ad (by decide),h1]
    have p2:lk (put ρ "i" (.int (1+(k:Int)))) "self" = some (.stat 236):=by rw [Ad (by decide),h2]
    have b:=lpW_ok (N:=N) (nb:=nb) (σ:=σ) K p1 p2 (k:=k) (by rw [Ab,Int.add_comm]) (by omega) hs
    rw [show s.length - (k+1)=d by omega] at b
    obtain ⟨ρ',h3,e⟩:=Hr K hs d (k+1) _ (by omega) p1 p2
    refine ⟨ρ',h3,?_⟩;rw [List.range'_succ,List.map_cons,AS,Cd,Ay,kL_s,b];unfold lpT;cases inK (s.take d) with
    | true=>rfl
    | false=>
      rw [if_neg Bool.false_ne_true,if_neg Bool.false_ne_true,kB_n,e]
theorem it_rng (a z:Int) (ha:-half<=a/\a<=half) (hz:-half<=z/\z<=half):itemsV T (.rng a z 1)=some (rangeL a z 1):=if_pos ⟨ha.1,ha.2,hz.1,hz.2,by decide,by decide⟩
theorem rangeL1 (a z:Int):rangeL a z 1=(List.range (z - a).toNat).map fun (k:Nat)=>V.int (a+k):=by
  have h:rangeN a z 1=(z - a).toNat:=by
    unfold rangeN;rw [Int.ediv_one]
    split<;>omega
  unfold rangeL;rw [h];simp only [Int.mul_one]
theorem lpB_ok (K:LpC T C) {s:List Nat} (hs:s.length<=1000) (h1:lk ρ "prefix" = some (.str s)) (h2:lk ρ "self" = some (.stat 236)) :
    ∃ρ',lk ρ' "prefix" = some (.str s)/\ex T C N nb lpB ρ σ=some (match lpT s s.length with | some x=>.ret (.str x) σ | none=>.next ρ' σ):=by
  have hh:half=1000000000:=rfl;obtain ⟨ρ',h3,e⟩:=Hr (N:=N) (nb:=nb) (σ:=σ) K hs s.length 0 ρ (Nat.zero_add _) h1 h2;refine ⟨ρ',h3,?_⟩;have bl:=Du (T:=T) (σ:=σ) s (Nat.le_trans hs (by decide))
  have br:=b_rng2 (T:=T) (σ:=σ) (a:=1) (b:=(s.length:Int)+1) ⟨by omega,by omega,by decide,by decide⟩
  have er:ev T C lpR ρ σ=some (.rng 1 ((s.length:Int)+1) 1,σ):=by
    rw [lpR,DS,K.r,DY,evsK,AL,Bc,evsK,Ft,DS,K.l,DY,evsK,An,h1,kv_s,Bc,evsN,Bv,Cp,bl,DU,AL,DT,Hg,Bc,evsN,Bv,Bv,Cp,br]
  have it:itemsV T (.rng 1 ((s.length:Int)+1) 1)=some ((List.range' 0 s.length).map fun (k:Nat)=>V.int (1+(k:Int))):=by
    rw [it_rng 1 _ ⟨by decide,by decide⟩ ⟨by omega,by omega⟩]
    rw [rangeL1];rw [show ((s.length:Int)+1 - 1).toNat=s.length by omega,List.range_eq_range']
  unfold lpB;rw [BE _ _ _ rfl,er,kFr_s _ _ rfl,it,D1,e]
end
theorem cont_ok (n:Nat) (x:List Nat) (σ:St):Cc (n+1) 199 [.stat 236,.str x] [] σ=some (.bool (inK x),σ):=by
  show fcall Tc (Cc n) 1000000 true ms199 [("self",.stat 236),("key",.str x)] σ=_;wide_line with [ms199,D9,Cs]
theorem lpC_c (n:Nat):LpC Tc (Cc (n+1)):=⟨rfl,rfl,cont_ok n,rfl,rfl⟩
theorem lp_ok (n:Nat) (σ:St) (s x:List Nat) (hs:s.length<=1000) (h:lpT s (s.length+1)=some x):Cc (n+2) 227 [.stat 236,.str s] [] σ=some (.str x,σ):=by
  show fcall Tc (Cc (n+1)) 1000000 true ms227 [("self",.stat 236),("prefix",.str s)] σ=_;rw [Ax,ms227_eq,Ac,lpA_ok (lpC_c n) rfl rfl];unfold lpT at h;rw [List.take_length] at h;cases hk:inK s with
  | true=>
    rw [hk,if_pos rfl] at h;cases h;rfl
  | false=>
    rw [hk,if_neg Bool.false_ne_true] at h;obtain ⟨ρ',_,e⟩:=lpB_ok (N:=1000000) (nb:=σ.length) (σ:=σ) (ρ:=[("self",.stat 236),("prefix",.str s)]) (lpC_c n) hs rfl rfl;rw [h] at e;rw [if_neg Bool.false_ne_true,kS_n,Ac,e];rfl
theorem B7 (s:List Nat):noPre s=true ↔ s.length<=1000/\lpT s (s.length+1)=none:=by
  have key:∀d,((List.range d).all fun k=>(lkD entL (s.take k)).isNone)=true ↔ lpT s d=none:=by
    intro d
    induction d with
    | zero=>exact ⟨fun _=>rfl,fun _=>rfl⟩
    | succ d ih=>
      rw [List.range_succ,List.all_append,Bool.and_eq_true,ih];show _ ↔ (if inK (s.take d)=true then some (s.take d) else lpT s d)=none
      have:([d].all fun k=>(lkD entL (s.take k)).isNone)=!inK (s.take d):=by
        rw [<- D6,List.all_cons,List.all_nil,Bool.and_true];cases lkD entL (s.take d)<;>rfl
      rw [this];cases inK (s.take d) with
      | true=>rw [if_pos rfl];exact ⟨fun h=>(nomatch h.2:False).elim,fun h=>(nomatch h:False).elim⟩
      | false=>rw [if_neg Bool.false_ne_true];exact ⟨fun h=>h.1,fun h=>⟨h,rfl⟩⟩
  unfold noPre;rw [Bool.and_eq_true,decide_eq_true_iff,key]
end Mine
open PySem PySem.W PyProof.Rows
set_option maxRecDepth 100000
set_option maxHeartbeats 2000000
namespace Mine
noncomputable def tErr (s:List Nat):V:=.dct [([116,121,112,101],.int 7),([100,97,116,97],.str s)]
noncomputable def flE:L:=[("currentToken",.obj 10),("tokenQueue",.obj 7)]
set_option genInjectivity false in
structure E where
  r:R
  row:List V
  q:List V
noncomputable def R.on (r:R):R:=⟨r.text,r.place,r.chunk,r.csz,r.off,r.pl,r.pc,r.er,flE⟩
noncomputable abbrev E.st (e:E) (tl:St):St:=e.r.on.st (.list e.row::.list e.q::tl)
noncomputable def E.queue (e:E) (q:List V):E:=⟨e.r,e.row,q⟩
noncomputable def E.fwd (e:E):E:=⟨e.r.fwd,e.row,e.q⟩
theorem AA (r:R) (tl:St):attrV Tc (.obj 0) "currentToken" (r.on.st tl)=some (.obj 10):=by rfl
theorem a0_q (r:R) (tl:St):attrV Tc (.obj 0) "tokenQueue" (r.on.st tl)=some (.obj 7):=by rfl
theorem m0_ent (r:R) (tl:St):getM Tc (.obj 0) "consumeEntity" (r.on.st tl)=some (.fn 283 [.obj 0]):=by rfl
theorem AB (r:R) (tl:St) (a b:List V):getM Tc (.obj 7) "append" (r.on.st (.list a::.list b::tl))=some (.bm (.obj 7) "append"):=by rfl
theorem b7_q (e:E) (tl:St) (v:V) (hq:e.q.length < big):bmet (.obj 7) "append" [v] (e.st tl)=some (.none,(e.queue (e.q++[v])).st tl):=D5 e.r.on [.list e.row] tl e.q v hq
theorem At.on {t p r} (a:At t p r):At t p r.on:=by
  obtain ⟨tx,p0,p1,csz,o0,o1,le,ple,rm,pl,pc,er,tl,tg,cl⟩:=a;exact ⟨tx,p0,p1,csz,o0,o1,le,ple,rm,pl,pc,er,tl,tg,cl⟩
theorem on_of {r:R} (h:r.fl=flE):r.on=r:=by
  obtain ⟨a,b,c,d,e,f,g,i,k⟩:=r;cases h;rfl
noncomputable def Cur (t:List Nat) (p:Nat) (v:V) (s e1:E):Prop:=
  At t p e1.r/\((∃x,t[p]? = some x/\v=.str [x]/\s=e1.fwd/\e1.r.off < e1.r.csz/\e1.r.chunk[e1.r.off.toNat]? = some x)∨(p=t.length/\v=.none/\s=e1))
theorem At.cur {t p} {e:E} (a:At t p e.r) (n:Nat) (tl:St):∃v s e1,Cur t p v s e1/\e1.q=e.q/\e1.row=e.row/\Cc (n+4) 133 [.obj 1] [] (e.st tl)=some (v,s.st tl):=by
  cases h:t[p]? with
  | some x=>
    obtain ⟨r1,h1,h2,h4,h5,h6⟩:=a.on.char n (.list e.row::.list e.q::tl) h;have o:r1.on=r1:=on_of h2;refine ⟨_,_,⟨r1,e.row,e.q⟩,⟨h1,.inl ⟨x,h,rfl,rfl,h4,h5⟩⟩,rfl,rfl,h6.trans ?_⟩;show some (V.str [x],r1.fwd.st _)=some (V.str [x],r1.fwd.on.st _);rw [show r1.fwd.on=r1.on.fwd from rfl,o];rfl
  | none=>
    have:p=t.length:=by have:=a.ple;have:=List.getElem?_eq_none_iff.mp h;exact Nat.le_antisymm (by assumption) (by assumption)
    obtain ⟨r1,h1,h2,h6⟩:=a.on.eof n (.list e.row::.list e.q::tl) this;have o:r1.on=r1:=on_of h2;refine ⟨_,_,⟨r1,e.row,e.q⟩,⟨h1,.inr ⟨this,rfl,rfl⟩⟩,rfl,rfl,h6.trans ?_⟩;show some (V.none,r1.st _)=some (V.none,r1.on.st _);rw [o]
theorem Cur.unget {t p v} {s e1:E} (c:Cur t p v s e1) (n:Nat) (tl:St):Cc (n+1) 163 [.obj 1,v] [] (s.st tl)=some (.none,e1.st tl):=by
  obtain ⟨a,⟨x,h1,rfl,rfl,h4,h5⟩ | ⟨h1,rfl,rfl⟩⟩:=c
  . exact a.on.unget n (.list e1.row::.list e1.q::tl) h5
  . exact FN n _ (.list s.row::.list s.q::tl)
theorem Cur.queue {t p v} {s e1:E} (c:Cur t p v s e1) (q:List V):Cur t p v (s.queue q) (e1.queue q):=by
  obtain ⟨a,⟨x,h1,rfl,rfl,h4,h5⟩ | ⟨h1,rfl,rfl⟩⟩:=c
  . exact ⟨a,.inl ⟨x,h1,rfl,rfl,h4,h5⟩⟩
  . exact ⟨a,.inr ⟨h1,rfl,rfl⟩⟩
theorem EP (r:E) (tl xs:St) (l:List V) (v:V) (h:l.length < 1000):subV Tc (.obj (tl.length+8)) (.int (-1)) (r.st (tl++.list (l++[v])::xs))=some v:=by
  have hh:half=1000000000:=rfl
  have:idx? (-1) (l++[v]).length=some l.length:=by
    unfold idx?;rw [if_neg (by decide),if_pos (by rw [List.length_append];simp;omega)]
    congr 1
    rw [List.length_append];simp;omega
  exact s_obj (AT r.r.on (.list r.row::.list r.q::tl) xs (l++[v])) (by decide) this (by rw [List.getElem?_append_right (Nat.le_refl _)];simp)
theorem Dv (r:E) (tl xs:St) (v:V):subV Tc (.obj (tl.length+8)) (.int 0) (r.st (tl++.list [v]::xs))=some v:=by
  exact s_obj (AT r.r.on (.list r.row::.list r.q::tl) xs [v]) (by decide) (j:=0) (by rfl) rfl
noncomputable def A (av:List Nat):St:=[.list [.str [107],.str av],.list [.obj 8],.dict [([116,121,112,101],.int 3),([110,97,109,101],.str [105]),([100,97,116,97],.obj 9),([115,101,108,102,67,108,111,115,105,110,103],.bool false)]]
theorem s9 (r:R) (a b:O) (av:List Nat) (tl:St):subV Tc (.obj 10) (.str [100,97,116,97]) (r.st (a::b::(A av++tl)))=some (.obj 9):=by rfl
theorem s8 (r:R) (a b:O) (av:List Nat) (tl:St):subV Tc (.obj 9) (.int (-1)) (r.st (a::b::(A av++tl)))=some (.obj 8):=by rfl
theorem s7 (r:R) (a b:O) (av:List Nat) (tl:St):subV Tc (.obj 8) (.int 1) (r.st (a::b::(A av++tl)))=some (.str av):=by rfl
theorem i7 (r:R) (a b:O) (av:List Nat) (tl:St) (c:List Nat):setI (.obj 8) (.int 1) (.str c) (r.st (a::b::(A av++tl)))=some (r.st (a::b::(A c++tl))):=by rfl
noncomputable def isSp (o:List Nat):Bool:=[V.str [9],.str [10],.str [12],.str [32],.str [13]].any (scEq (.str o))
noncomputable def tOut (o:List Nat):V:=.dct [([116,121,112,101],.int (if isSp o then 2 else 1)),([100,97,116,97],.str o)]
theorem kd_out (k:Int) (o:List Nat) (σ:St):kDct false [[116,121,112,101],[100,97,116,97]] (some ([V.int k,.str o],σ))=some (.dct [([116,121,112,101],.int k),([100,97,116,97],.str o)],σ):=FA _ _ rfl (by simp)
theorem eFin_t (C:Calls) (nb:Nat) (r:E) (av:List Nat) (tl:St) (ρ:L) (o:List Nat) (h1:lk ρ "self" = some (.obj 0)) (h2:lk ρ "fromAttribute" = some (.bool true)) (h3:lk ρ "output" = some (.str o)) (hb:av.length+o.length<=big) :
    ex Tc C 1000000 nb eFin ρ (r.st (A av++tl))=some (.next ρ (r.st (A (av++o)++tl))):=by
  have a:=aug_s av o hb;wide_line with [eFin,AA,a0_q,AB,h1,h2,h3,s9,s8,s7,i7,a]
theorem eFin_f (C:Calls) (nb:Nat) (r:E) (tl:St) (ρ:L) (o:List Nat) (h1:lk ρ "self" = some (.obj 0)) (h2:lk ρ "fromAttribute" = some (.bool false)) (h3:lk ρ "output" = some (.str o)) (hq:r.q.length < big) :
    ∃ρ',ex Tc C 1000000 nb eFin ρ (r.st tl)=some (.next ρ' ((r.queue (r.q++[tOut o])).st tl)):=by
  have vi:∀σ:St,vin Tc σ (.str o) (.tup [.str [9],.str [10],.str [12],.str [32],.str [13]])=some (isSp o):=fun σ=>A5 _ _ rfl rfl
  have b:=fun v=>b7_q r tl v hq
  have p1:∀v,lk (put ρ "tokenType" v) "self" = some (.obj 0):=fun v=>by rw [Ad (by decide),h1]
  have p3:∀v,lk (put ρ "tokenType" v) "output" = some (.str o):=fun v=>by rw [Ad (by decide),h3]
  have pt:∀v,lk (put ρ "tokenType" v) "tokenType" = some v:=fun v=>by
    clear h1 h2 h3 p1 p3
    induction ρ with
    | nil=>rfl
    | cons e ρ ih=>
      obtain ⟨k,u⟩:=e
      by_cases q:k = "tokenType"
      . subst q;rw [Cq,AN]
      . rw [BF _ _ q,As _ q];exact ih
  cases hs:isSp o with
  | true=>
    refine ⟨put ρ "tokenType" (.str [83,112,97,99,101,67,104,97,114,97,99,116,101,114,115]),?_⟩;have e:tOut o=.dct [([116,121,112,101],.int 2),([100,97,116,97],.str o)]:=by unfold tOut;rw [hs];rfl
    rw [e];wide_line with [eFin,AA,a0_q,AB,h1,h2,h3,vi,hs,p1,p3,pt,kd_out,b]
  | false=>
    refine ⟨put ρ "tokenType" (.str [67,104,97,114,97,99,116,101,114,115]),?_⟩;have e:tOut o=.dct [([116,121,112,101],.int 1),([100,97,116,97],.str o)]:=by unfold tOut;rw [hs];rfl
    rw [e];wide_line with [eFin,AA,a0_q,AB,h1,h2,h3,vi,hs,p1,p3,pt,kd_out,b]
noncomputable def okCl (cl:V):Prop:=cl=.none∨∃c,cl=.str [c]
noncomputable def clB (cl v:V):Bool:=match cl with
  | .str q=>match v with
    | .str x=>decide (q=x)
    | _=>false
  | _=>false
theorem clB_n (v:V):clB .none v=false:=rfl
theorem clB_z (q:List Nat):clB (.str q) .none=false:=rfl
theorem clB_s (q x:List Nat):clB (.str q) (.str x)=decide (q=x):=rfl
noncomputable def stopB (cl v:V):Bool:=[V.str [9],.str [10],.str [12],.str [32],.str [13]].any (scEq v) || ([V.none,.str [60],.str [38]].any (scEq v) || clB cl v)
theorem eCond_ok (C:Calls) (nb:Nat) (r:E) (tl:St) (cl:V) (ins:Bool) (h:okCl cl) (v:V) (hv:v=.none∨∃x,v=.str [x]):ev Tc C eCond [("self",.obj 0),("allowedChar",cl),("fromAttribute",.bool ins),("output",.str [38]),("charStack",.obj (tl.length+8))] (r.st (tl++[.list [v]]))=some (.bool (stopB cl v),r.st (tl++[.list [v]])):=by
  have fs:=Dv r tl [] v;have pv:plainV v=true:=by rcases hv with rfl | ⟨x,rfl⟩<;>rfl
  have v1:∀σ:St,vin Tc σ v (.tup [.str [9],.str [10],.str [12],.str [32],.str [13]])=some ([V.str [9],.str [10],.str [12],.str [32],.str [13]].any (scEq v)):=fun σ=>A5 _ _ pv rfl
  have v2:∀σ:St,vin Tc σ v (.tup [.none,.str [60],.str [38]])=some ([V.none,.str [60],.str [38]].any (scEq v)):=fun σ=>A5 _ _ pv rfl
  unfold eCond stopB;rw [Aw];refine or_b (by wide_line with [AA,a0_q,AB,fs,v1]) (or_b (by wide_line with [AA,a0_q,AB,fs,v2]) ?_)
  rw [AH];rcases h with rfl | ⟨c,rfl⟩
  . wide_line with [AA,a0_q,AB,clB_n]
  . rcases hv with rfl | ⟨x,rfl⟩
    . wide_line with [AA,a0_q,AB,fs,clB_z]
    . wide_line with [AA,a0_q,AB,fs,clB_s]
theorem FS (e:E) (tl xs:St) (vs:List V):objL (e.st (tl++.list vs::xs)) (tl.length+8)=some vs:=AT e.r.on (.list e.row::.list e.q::tl) xs vs
theorem e_mapp (e:E) (tl xs:St) (vs:List V):getM Tc (.obj (tl.length+8)) "append" (e.st (tl++.list vs::xs))=some (.bm (.obj (tl.length+8)) "append"):=FP e.r.on (.list e.row::.list e.q::tl) xs vs
theorem e_mpop (e:E) (tl xs:St) (vs:List V):getM Tc (.obj (tl.length+8)) "pop" (e.st (tl++.list vs::xs))=some (.bm (.obj (tl.length+8)) "pop"):=mt_pop e.r.on (.list e.row::.list e.q::tl) xs vs
theorem e_bapp (e:E) (tl xs:St) (vs:List V) (v:V) (h:vs.length < big):bmet (.obj (tl.length+8)) "append" [v] (e.st (tl++.list vs::xs))=some (.none,e.st (tl++.list (vs++[v])::xs)):=D5 e.r.on (.list e.row::.list e.q::tl) xs vs v h
theorem e_bpop (e:E) (tl xs:St) (vs:List V) (v:V) (h:(vs++[v]).length<=big):bmet (.obj (tl.length+8)) "pop" [] (e.st (tl++.list (vs++[v])::xs))=some (v,e.st (tl++.list vs::xs)):=bt_pop e.r.on (.list e.row::.list e.q::tl) xs vs v h
theorem e_join (e:E) (tl xs:St) (vs:List V) (ss:List (List Nat)) (h:toStrs vs=some ss) (hb:ss.flatten.length<=big):bmet (.str []) "join" [.obj (tl.length+8)] (e.st (tl++.list vs::xs))=some (.str ss.flatten,e.st (tl++.list vs::xs)):=EJ e.r.on (.list e.row::.list e.q::tl) xs vs ss h hb
end Mine
open PySem PySem.W PyProof.Rows
set_option maxRecDepth 100000
set_option maxHeartbeats 2000000
namespace Mine
noncomputable def sg (l:List Nat):List V:=l.map fun c=>V.str [c]
theorem Hs (l:List Nat):toStrs (sg l)=some (l.map fun c=>[c]):=by
  induction l with
  | nil=>rfl
  | cons c l ih=>show (toStrs (sg l)).map _=_;rw [ih];rfl
theorem Ct (l:List Nat):(l.map fun c=>[c]).flatten=l:=by
  induction l with
  | nil=>rfl
  | cons c l ih=>rw [List.map_cons,List.flatten_cons,ih];rfl
theorem A0 (l:List Nat):(sg l).length=l.length:=List.length_map _
theorem sg_one (l:List Nat) (x:Nat):sg l++[V.str [x]]=sg (l++[x]):=by unfold sg;rw [List.map_append];rfl
theorem Ea (r:E) (tl xs:St) (l:List Nat) (h:l.length<=big):bmet (.str []) "join" [.obj (tl.length+8)] (r.st (tl++.list (sg l)::xs))=some (.str l,r.st (tl++.list (sg l)::xs)):=by
  have:=e_join r tl xs (sg l) _ (Hs l) (by rw [Ct];exact h)
  rw [Ct] at this;exact this
theorem Ht (l:List Nat) (h:l.length<=big) (σ:St):bmet (.str []) "join" [.lst (sg l)] σ=some (.str l,σ):=by
  have:=FE (σ:=σ) (a:=.lst (sg l)) (vs:=sg l) rfl (Hs l) (by rw [Ct];exact h)
  rw [Ct] at this;exact this
noncomputable def alg (u:List Nat):Nat->Nat->Nat
  | 0,a=>a
  | f+1,a=>if a < u.length/\hasP (u.take (a+1))=true then alg u f (a+1) else a
theorem FT (u:List Nat):∀(f a:Nat),a<=u.length->a<=alg u f a/\alg u f a<=u.length
  | 0,a,h=>⟨Nat.le_refl _,h⟩
  | f+1,a,h=>by
    show a<=(if _ then _ else _)/\(if _ then _ else _)<=_
    split
    . rename_i q
      have:=FT u f (a+1) q.1
      exact ⟨Nat.le_trans (Nat.le_succ a) this.1,this.2⟩
    . exact ⟨Nat.le_refl _,h⟩
theorem take_one {u:List Nat} {a x:Nat} (h:u[a]? = some x):u.take (a+1)=u.take a++[x]:=by rw [List.take_add_one,h];rfl
theorem m_has (σ:St):getM Tc (.stat 236) "has_keys_with_prefix" σ=some (.fn 220 [.stat 236]):=by rfl
theorem m_lp (σ:St):getM Tc (.stat 236) "longest_prefix" σ=some (.fn 227 [.stat 236]):=by rfl
noncomputable def eNL (cl:V) (ins:Bool) (i:Nat):L:=[("self",.obj 0),("allowedChar",cl),("fromAttribute",.bool ins),("output",.str [38]),("charStack",.obj i)]
theorem eW_loop (n nb:Nat) (tl:St) (cl:V) (ins:Bool) {t:List Nat} {p:Nat}:∀(f a g:Nat) (v:V) (s r1:E),Cur t (p+a) v s r1->(t.drop p).length - a<=f->p+a<=t.length->
    ∃v' s' r1',Cur t (p+alg (t.drop p) f a) v' s' r1'/\r1'.q=r1.q/\r1'.row=r1.row/\
      whlL (wc Tc (Cc (n+5)) eWc) (wb Tc (Cc (n+5)) 1000000 nb eW) (g+f+1) (eNL cl ins (tl.length+8)) (s.st (tl++[.list (sg ((t.drop p).take a)++[v])]))=some (.next (eNL cl ins (tl.length+8)) (s'.st (tl++[.list (sg ((t.drop p).take (alg (t.drop p) f a))++[v'])]))):=by
  intro f
  induction f with
  | zero=>
    intro a g v s r1 c hf hp;have hl:t.length<=600:=c.1.tl;have ls:=EP s tl [] (sg ((t.drop p).take a)) v (by rw [A0,List.length_take,List.length_drop];omega)
    refine ⟨v,s,r1,c,rfl,rfl,Ds ?_⟩;obtain ⟨_,⟨x,h1,rfl,rfl,h4,h5⟩ | ⟨h1,rfl,rfl⟩⟩:=c
    . have:=(List.getElem?_eq_some_iff.mp h1).1
      rw [List.length_drop] at hf;omega
    . exact jwc (jcmp (jsub (jl rfl) rfl ls) rfl rfl)
  | succ f ih=>
    intro a g v s r1 c hf hp;have hl:t.length<=600:=c.1.tl;have ls:=EP s tl [] (sg ((t.drop p).take a)) v (by rw [A0,List.length_take,List.length_drop];omega)
    obtain ⟨a1,⟨x,h1,rfl,rfl,h4,h5⟩ | ⟨h1,rfl,rfl⟩⟩:=id c
    . have hlt:=(List.getElem?_eq_some_iff.mp h1).1;have hu:(t.drop p)[a]? = some x:=by rw [List.getElem?_drop];exact h1
      have ha:a < (t.drop p).length:=(List.getElem?_eq_some_iff.mp hu).1;have tk:=take_one hu;rw [sg_one,<- tk] at ls ⊢;have hk:=fun σ=>hasP_ok (n+3) σ ((t.drop p).take (a+1)) (by rw [List.length_take,List.length_drop];omega)
      have jn:=Ea r1.fwd tl [] ((t.drop p).take (a+1)) (by rw [List.length_take,List.length_drop];exact Nat.le_trans (Nat.min_le_right _ _) (Nat.le_trans (Nat.sub_le _ _) (Nat.le_trans hl (by decide))))
      have ct:wc Tc (Cc (n+5)) eWc (eNL cl ins (tl.length+8)) (r1.fwd.st (tl++[.list (sg ((t.drop p).take (a+1)))]))=some (true,r1.fwd.st (tl++[.list (sg ((t.drop p).take (a+1)))])):=by
        exact jwc (jcmp (jsub (jl rfl) rfl ls) rfl rfl)
      rw [show g+(f+1)+1=(g+f+1)+1 from rfl,CT ct,CS];have hc:=jnot (C:=Cc (n+5)) (ρ:=eNL cl ins (tl.length+8)) (jmet (b:=.glo "entitiesTrie") (a:=.cons (.met (.cst (.str [])) "join" (.cons (.loc "charStack") .nil) [] .nil) .nil) rfl (m_has _) (js1 (jmet rfl (AR [] _) (js1 (jl rfl)) jn)) (hk _));cases hh:hasP ((t.drop p).take (a+1)) with
      | false=>
        have e:alg (t.drop p) (f+1) a=a:=if_neg (by rw [hh];exact fun z=>nomatch z.2)
        rw [e];refine ⟨_,_,_,c,rfl,rfl,?_⟩;rw [hh] at hc
        have:ex Tc (Cc (n+5)) 1000000 nb eW (eNL cl ins (tl.length+8)) (r1.fwd.st (tl++[.list (sg ((t.drop p).take (a+1)))]))=some (.brk (eNL cl ins (tl.length+8)) (r1.fwd.st (tl++[.list (sg ((t.drop p).take (a+1)))]))):=by
          exact jift hc rfl
        rw [this,kB_b,sg_one,<- tk]
      | true=>
        have e:alg (t.drop p) (f+1) a=alg (t.drop p) f (a+1):=if_pos ⟨ha,hh⟩;rw [e];rw [hh] at hc;obtain ⟨v2,s2,r2,c2,q2,w2,e2⟩:=(At.cur (e:=r1.fwd) (a1.adv h4 h5)) (n+1) (tl++[.list (sg ((t.drop p).take (a+1)))]);have ma:=e_mapp r1.fwd tl [] (sg ((t.drop p).take (a+1)));have ba:=e_bapp s2 tl [] (sg ((t.drop p).take (a+1))) v2 (by rw [A0,List.length_take,List.length_drop];exact Nat.lt_of_le_of_lt (Nat.min_le_right _ _) (Nat.lt_of_le_of_lt (Nat.sub_le _ _) (Nat.lt_of_le_of_lt hl (by decide))))
        have:ex Tc (Cc (n+5)) 1000000 nb eW (eNL cl ins (tl.length+8)) (r1.fwd.st (tl++[.list (sg ((t.drop p).take (a+1)))]))=some (.next (eNL cl ins (tl.length+8)) (s2.st (tl++[.list (sg ((t.drop p).take (a+1))++[v2])]))):=by
          exact (jiff hc).trans (jexp (jmet (jl rfl) ma (js1 (jmet (Ak (jl rfl) (Ap _ _)) (Cr _ _) rfl e2)) ba))
        rw [this,kB_n];obtain ⟨v3,s3,r3,c3,q3,w3,e3⟩:=ih (a+1) g v2 s2 r2 c2 (by omega) (by assumption)
        exact ⟨v3,s3,r3,c3,q3.trans q2,w3.trans w2,e3⟩
    . have hla:(t.drop p).length=a:=by rw [List.length_drop];omega
      have e:alg (t.drop p) (f+1) a=a:=if_neg (by rw [hla];exact fun z=>Nat.lt_irrefl _ z.1)
      rw [e];refine ⟨_,_,_,c,rfl,rfl,Ds ?_⟩;exact jwc (jcmp (jsub (jl rfl) rfl ls) rfl rfl)
end Mine
open PySem PySem.W PyProof.Rows
set_option maxRecDepth 100000
set_option maxHeartbeats 2000000
namespace Mine
noncomputable def eBody:MS:=(.cons (.asg (.loc "output") (.cst (.str [38]))) (.cons (.asg (.loc "charStack") (.lst true (.cons (.met (.attr (.loc "self") "stream") "char" .nil [] .nil) .nil))) (.cons (.ifs eCond (.cons (.expr (.met (.attr (.loc "self") "stream") "unget" (.cons (.sub (.loc "charStack") (.cst (.int 0))) .nil) [] .nil)) .nil) (.cons (.ifs (.cmp .Eq (.sub (.loc "charStack") (.cst (.int 0))) (.cst (.str [35]))) .opq (.cons (.whl eWc eW) (.cons eTlp (.cons eSel .nil)))) .nil)) .nil)))
theorem kd_nam (σ:St):kDct false [[116,121,112,101],[100,97,116,97]] (some ([V.int 7,.str [101,120,112,101,99,116,101,100,45,110,97,109,101,100,45,101,110,116,105,116,121]],σ))=some (tErr sNam,σ):=FA _ _ rfl (by simp)
theorem kd_nwo (σ:St):kDct false [[116,121,112,101],[100,97,116,97]] (some ([V.int 7,.str [110,97,109,101,100,45,101,110,116,105,116,121,45,119,105,116,104,111,117,116,45,115,101,109,105,99,111,108,111,110]],σ))=some (tErr sNwo,σ):=FA _ _ rfl (by simp)
theorem dn_nam (C:Calls) (ρ:L) (σ:St):ev Tc C (.dct false [[116,121,112,101],[100,97,116,97]] (.cons (.sub (.glo "tokenTypes") (.cst (.str [80,97,114,115,101,69,114,114,111,114]))) (.cons (.cst (.str sNam)) .nil))) ρ σ=some (tErr sNam,σ):=kd_nam σ
theorem BH (u:List Nat) (a:Nat):∀d,d<=a+1->lpT (u.take a) d=lpT u d
  | 0,_=>rfl
  | d+1,h=>by
    unfold lpT;rw [BH u a d (Nat.le_of_succ_le h),List.take_take,Nat.min_eq_left (Nat.lt_succ_iff.mp h)]
theorem AJ {u x:List Nat}:∀{d},lpT u d=some x->∃l,l < d/\x=u.take l/\inK x=true
  | 0,h=>nomatch h
  | d+1,h=>by
    unfold lpT at h;cases hk:inK (u.take d) with
    | true=>rw [hk,if_pos rfl] at h;cases h;exact ⟨d,Nat.lt_succ_self d,rfl,hk⟩
    | false=>
      rw [hk,if_neg Bool.false_ne_true] at h;obtain ⟨l,h1,h2⟩:=AJ h;exact ⟨l,Nat.lt_succ_of_lt h1,h2⟩
theorem AF {x:List Nat} (h:inK x=true):x.length<=9/\0 < x.length:=by
  have:=List.all_eq_true.mp EN x (D7 h)
  simpa using this
noncomputable def entV (x:List Nat):List Nat:=match lkD entL x with | some (.str v)=>v | _=>[]
noncomputable def strV (v:V):Bool:=match v with | .str s=>decide (s.length<=2)&&(match s with | c::_=>!(c==9 || c==10 || c==12 || c==13 || c==32) | []=>false) | _=>false
theorem ent_strs:(entL.all fun e=>strV e.2)=true:=by decide +kernel
theorem EQ {x:List Nat} {v:V}:∀{es:List (List Nat×V)},lkD es x=some v->(x,v)∈es
  | [],h=>nomatch h
  | e::r,h=>by
    have h:(if e.1=x then some e.2 else lkD r x)=some v:=h
    by_cases q:e.1=x
    . rw [if_pos q] at h;cases h;subst q;exact List.mem_cons_self
    . rw [if_neg q] at h;exact List.mem_cons_of_mem _ (EQ h)
theorem Cu {x:List Nat} (h:inK x=true):lkD entL x=some (.str (entV x))/\strV (.str (entV x))=true:=by
  rw [<- D6] at h;obtain ⟨v,hv⟩:=Option.isSome_iff_exists.mp h;have e:=List.all_eq_true.mp ent_strs _ (EQ hv);unfold entV;rw [hv];cases v with
  | str s=>exact ⟨rfl,e⟩
  | _=>exact nomatch (show false=true from e)
theorem BI {x:List Nat} (h:inK x=true):(entV x).length<=2:=by
  have:=(Cu h).2
  unfold strV at this;rw [Bool.and_eq_true] at this;exact of_decide_eq_true this.1
theorem cut_from {α:Type} (xs:List α) (k:Nat):cut (some (k:Int)) none xs=xs.drop k:=by
  unfold cut
  have e1:lo (some (k:Int)) xs.length=min k xs.length:=by
    show (if (k:Int) < 0 then ((k:Int)+(xs.length:Int)).toNat else min (k:Int).toNat xs.length)=_
    rw [if_neg (by omega),Int.toNat_natCast]
  rw [e1,show hi none xs.length=xs.length from rfl]
  by_cases q:k<=xs.length
  . rw [Nat.min_eq_left q,List.take_of_length_le (by rw [List.length_drop];exact Nat.le_refl _)]
  . rw [List.drop_of_length_le (by omega),List.drop_of_length_le (by omega),List.take_nil]
theorem cut_last {α:Type} (xs:List α) (v:α):cut none (some (-1)) (xs++[v])=xs:=by
  show ((xs++[v]).drop 0).take ((if (-1:Int) < 0 then ((-1:Int)+((xs++[v]).length:Int)).toNat else min (-1:Int).toNat (xs++[v]).length) - 0)=_
  rw [if_pos (by decide),List.drop_zero,Nat.sub_zero,List.length_append,List.length_singleton,show ((-1:Int)+((xs.length+1:Nat):Int)).toNat=xs.length by omega,List.take_left]
noncomputable def alV:List V:="abcdefghijklmnopqrstuvwxyzABCDEFGHIJKLMNOPQRSTUVWXYZ".toList.map fun c=>V.str [c.toNat]
noncomputable def dgV:List V:="0123456789".toList.map fun c=>V.str [c.toNat]
noncomputable def wA (u:List Nat) (l:Nat):V:=match u[l]? with | some c=>.str [c] | none=>.none
noncomputable def eqB (v:V):Bool:=scEq v (.str [61])
noncomputable def closeB (v:V):Bool:=alV.any (scEq v) || (dgV.any (scEq v) || eqB v)
theorem wA_is (u:List Nat) (l:Nat):wA u l=.none∨∃c,wA u l=.str [c]:=by
  unfold wA;cases u[l]? with
  | none=>exact .inl rfl
  | some c=>exact .inr ⟨c,rfl⟩
theorem Cur.wA {t p v} {s r1:E} (c:Cur t p v s r1):v=Mine.wA t p:=by
  unfold Mine.wA;obtain ⟨_,⟨x,h1,rfl,_⟩ | ⟨h1,rfl,_⟩⟩:=c
  . rw [h1]
  . rw [List.getElem?_eq_none (Nat.le_of_eq h1.symm)]
theorem Hu (t:List Nat) (p a:Nat):wA (t.drop p) a=wA t (p+a):=by unfold wA;rw [List.getElem?_drop]
theorem stack_at (u:List Nat) (a l:Nat) (h:l<=a) (ha:a<=u.length):(sg (u.take a)++[wA u a])[l]? = some (wA u l):=by
  rcases Nat.lt_or_eq_of_le h with q | rfl
  . rw [List.getElem?_append_left (by rw [A0,List.length_take];omega)]
    unfold sg wA;rw [List.getElem?_map,List.getElem?_take_of_lt q,List.getElem?_eq_getElem (by omega)];rfl
  . have:l=(sg (u.take l)).length:=by rw [A0,List.length_take];omega
    conv=>lhs;rw [List.getElem?_append_right (by omega)]
    rw [show l - (sg (u.take l)).length=0 by omega];rfl
theorem eC2_ok (C:Calls) (ρ:L) (r:E) (tl:St) (u x:List Nat) (a z:Nat) (ins:Bool) (h1:lk ρ "entityName" = some (.str (x++[z]))) (h2:lk ρ "fromAttribute" = some (.bool ins)) (h3:lk ρ "charStack" = some (.obj (tl.length+8))) (h4:lk ρ "entityLength" = some (.int (x.length+1:Nat))) (hx:x.length+1<=a) (ha:a<=u.length) (hu:u.length<=600) :
    ev Tc C eC2 ρ (r.st (tl++[.list (sg (u.take a)++[wA u a])]))=some (.bool (!(decide (z=59))&&(ins&&closeB (wA u (x.length+1)))),r.st (tl++[.list (sg (u.take a)++[wA u a])])):=by
  have hh:half=1000000000:=rfl;have gl:=AI x z (r.st (tl++[.list (sg (u.take a)++[wA u a])])) (by omega)
  have ss:subV Tc (.obj (tl.length+8)) (.int (x.length+1:Nat)) (r.st (tl++[.list (sg (u.take a)++[wA u a])]))=some (wA u (x.length+1)):=s_obj (FS r tl [] _) ⟨by omega,by omega⟩ (by
    unfold idx?;rw [if_pos (Int.natCast_nonneg _),if_pos (by rw [List.length_append,A0,List.length_take,List.length_singleton];omega),Int.toNat_natCast]) (stack_at u a _ hx ha)
  have pv:plainV (wA u (x.length+1))=true:=by rcases wA_is u (x.length+1) with h | ⟨c,h⟩<;>rw [h]<;>rfl
  have v1:∀σ:St,vin Tc σ (wA u (x.length+1)) (.tup alV)=some (alV.any (scEq (wA u (x.length+1)))):=fun σ=>A5 _ _ pv (by decide +kernel)
  have v2:∀σ:St,vin Tc σ (wA u (x.length+1)) (.tup dgV)=some (dgV.any (scEq (wA u (x.length+1)))):=fun σ=>A5 _ _ pv (by decide +kernel)
  have v3:∀σ:St,cmpV Tc .Eq (wA u (x.length+1)) (.str [61]) σ=some (eqB (wA u (x.length+1))):=fun σ=>by
    rcases wA_is u (x.length+1) with h | ⟨c,h⟩<;>rw [h]<;>rfl
  have ga:Tc.glo "asciiLetters" = some (.tup alV):=g_al;have gd:Tc.glo "digits" = some (.tup dgV):=g_dg;have d1:(decide ([z]=[59]))=decide (z=59):=by simp
  unfold eC2;rw [Aw];refine CX (by wide_line with [AA,a0_q,AB,h1,gl,d1]) (CX (by open_k with [h2]) ?_)
  rw [AH,Aw];refine or_b (by wide_line with [AA,a0_q,AB,h3,h4,ss,ga,v1]) (or_b (by wide_line with [AA,a0_q,AB,h3,h4,ss,gd,v2]) ?_)
  rw [AH];wide_line with [AA,a0_q,AB,h3,h4,ss,v3]
end Mine
open PySem PySem.W PyProof.Rows
set_option maxRecDepth 100000
set_option maxHeartbeats 2000000
namespace Mine
theorem tlp_arg (C:Calls) (r:E) (tl:St) (cl:V) (ins:Bool) (w:List Nat) (v:V) (hw:w.length<=600):evs Tc C (.cons (.met (.cst (.str [])) "join" (.cons (.slc (.loc "charStack") (.cst .none) (.neg (.cst (.int 1)))) .nil) [] .nil) .nil) (eNL cl ins (tl.length+8)) (r.st (tl++[.list (sg w++[v])]))=some ([.str w],r.st (tl++[.list (sg w++[v])])):=by
  have sl:slcV (.obj (tl.length+8)) .none (.int (-1)) (r.st (tl++[.list (sg w++[v])]))=some (.lst (sg w)):=by
    have:=sl_obj (σ:=r.st (tl++[.list (sg w++[v])])) (l:=none) (u:=some (-1)) (a:=.none) (b:=.int (-1)) rfl rfl (FS r tl [] _) (by rw [List.length_append,A0];exact Nat.le_trans (Nat.add_le_add hw (Nat.le_refl 1)) (by decide))
    rw [cut_last] at this;exact this
  have jn:=Ht w (Nat.le_trans hw (by decide)) (r.st (tl++[.list (sg w++[v])]))
  exact js1 (jmet rfl (AR [] _) (js1 (jslc (jl rfl) rfl rfl sl)) jn)
noncomputable def eNM (cl:V) (ins:Bool) (i:Nat) (x:List Nat):L:=[("self",.obj 0),("allowedChar",cl),("fromAttribute",.bool ins),("output",.str [38]),("charStack",.obj i),("entityName",.str x),("entityLength",.int x.length)]
noncomputable def eN0 (cl:V) (ins:Bool) (i:Nat):L:=[("self",.obj 0),("allowedChar",cl),("fromAttribute",.bool ins),("output",.str [38]),("charStack",.obj i),("entityName",.none)]
theorem lpC_is (w:List Nat):lpC Tc (.fn 227 [.stat 236]) [.str w]=noPre w:=rfl
theorem tlp_ok (n nb:Nat) (r:E) (tl:St) (cl:V) (ins:Bool) (u:List Nat) (a:Nat) (v:V) (hu:u.length<=600) (ha:a<=u.length) :
    ex Tc (Cc (n+5)) 1000000 nb eTlp (eNL cl ins (tl.length+8)) (r.st (tl++[.list (sg (u.take a)++[v])]))=some (.next (match lpT u (a+1) with | none=>eN0 cl ins (tl.length+8) | some x=>eNM cl ins (tl.length+8) x) (r.st (tl++[.list (sg (u.take a)++[v])]))):=by
  have hl:(u.take a).length=a:=by rw [List.length_take];omega
  have ht:=BH u a (a+1) (Nat.le_refl _);rw [eTlp,ex_tlp (q:=.stat 236) (c:=.fn 227 [.stat 236]) (vs:=[.str (u.take a)]) (by rw [CM,g_trie];rfl) (m_lp _) (tlp_arg _ r tl cl ins (u.take a) v (by omega)),lpC_is]
  cases h:lpT u (a+1) with
  | none=>
    rw [if_pos ((B7 _).mpr ⟨by omega,by rw [hl,ht,h]⟩)]
    rfl
  | some x=>
    rw [if_neg (fun q=>by have:=((B7 _).mp q).2;rw [hl,ht,h] at this;cases this)]
    have e:=lp_ok (n+3) (r.st (tl++[.list (sg (u.take a)++[v])])) (u.take a) x (by omega) (by rw [hl,ht,h])
    rw [Hf];refine (congrArg (fun z=>Option.bind z _) e).trans ?_
    obtain ⟨_,_,_,hk⟩:=AJ h;have bl:=Du (T:=Tc) (σ:=r.st (tl++[.list (sg (u.take a)++[v])])) x (Nat.le_trans (AF hk).1 (by decide))
    show ex Tc (Cc (n+5)) 1000000 nb _ (put (eNL cl ins (tl.length+8)) "entityName" (.str x)) (r.st (tl++[.list (sg (u.take a)++[v])]))=_;exact jasg (jbui Bd (js1 (jl rfl)) bl)
noncomputable def al (u:List Nat):Nat:=alg u 600 0
theorem ER (u:List Nat):al u<=u.length:=(FT u 600 0 (Nat.zero_le _)).2
theorem Cur.q {t p v} {s r1:E} (c:Cur t p v s r1):s.q=r1.q/\s.row=r1.row:=by
  obtain ⟨_,⟨x,_,_,rfl,_⟩ | ⟨_,_,rfl⟩⟩:=c
  . exact ⟨rfl,rfl⟩
  . exact ⟨rfl,rfl⟩
theorem sel_0 (n nb:Nat) {t p v} {s r1:E} (c:Cur t p v s r1) (tl:St) (cl:V) (ins:Bool) (w:List Nat) (hw:w.length<=600) (hq:r1.q.length < 1000000) :
    ∃ρ',lk ρ' "self" = some (.obj 0)/\lk ρ' "fromAttribute" = some (.bool ins)/\lk ρ' "output" = some (.str (38::w))/\ex Tc (Cc (n+5)) 1000000 nb eSel (eN0 cl ins (tl.length+8)) (s.st (tl++[.list (sg w++[v])]))=some (.next ρ' ((r1.queue (r1.q++[tErr sNam])).st (tl++[.list (sg w)]))):=by
  have hb:big=16777216:=rfl;have b6:=fun tl v=>b7_q s tl v (by rw [c.q.1];exact Nat.lt_of_lt_of_le hq (by decide))
  rw [c.q.1] at b6;have cq:=c.queue (r1.q++[tErr sNam]);have mp:=e_mpop (s.queue (r1.q++[tErr sNam])) tl [] (sg w++[v]);have bp:=e_bpop (s.queue (r1.q++[tErr sNam])) tl [] (sg w) v (by rw [List.length_append,A0];exact Nat.le_trans (Nat.add_le_add hw (Nat.le_refl 1)) (by decide))
  have un:=cq.unget (n+4) (tl++[.list (sg w)]);have jn:=Ea (r1.queue (r1.q++[tErr sNam])) tl [] w (Nat.le_trans hw (by decide))
  have bc:∀σ:St,bin false .Add (.str [38]) (.str w) σ=some (.str (38::w),σ):=fun σ=>Ag _ _ _ (by show 1+_<=_;omega)
  refine ⟨[("self",.obj 0),("allowedChar",cl),("fromAttribute",.bool ins),("output",.str (38::w)),("charStack",.obj (tl.length+8)),("entityName",.none)],rfl,rfl,rfl,?_⟩;refine (jie (jcmp (t:=false) (jl rfl) rfl rfl)).trans ((jexp (jmet (Ak (jl rfl) (a0_q _ _)) (AB _ _ _ _) (js1 (dn_nam _ _ _)) (b6 _ _))).trans ((jexp (jmet (Ak (jl rfl) (Ap _ _)) (m1_un _ _) (js1 (jmet (jl rfl) mp rfl bp)) un)).trans (jasg (jbin rfl (jmet rfl (AR [] _) (js1 (jl rfl)) jn) (bc _)))))
noncomputable def wo (x:List Nat):Bool:=!(x.getLast?==some 59)
noncomputable def toldN (x:List Nat):List V:=if wo x then [tErr sNwo] else []
noncomputable def outN (ins:Bool) (u x:List Nat) (a:Nat):List Nat:=if wo x&&(ins&&closeB (wA u x.length)) then 38::u.take a else entV x++(u.take a).drop x.length
theorem if1_ok (C:Calls) (N nb:Nat) (s:E) (tl:St) (ρ:L) (x:List Nat) (h1:lk ρ "entityName" = some (.str x)) (h2:lk ρ "self" = some (.obj 0)) (hk:inK x=true) (hq:s.q.length < big) :
    ex Tc C N nb eIf1 ρ (s.st tl)=some (.next ρ ((s.queue (s.q++toldN x)).st tl)):=by
  have hh:half=1000000000:=rfl;obtain ⟨hx1,hx2⟩:=AF hk;obtain ⟨l,z,rfl⟩:∃l z,x=l++[z]:=⟨_,_,(List.dropLast_concat_getLast (List.length_pos_iff.mp hx2)).symm⟩;have gl:=fun σ=>AI l z σ (by rw [List.length_append] at hx1;omega)
  have b6:=fun v=>b7_q s tl v hq
  have d1:(decide ([z]=[59]))=decide (z=59):=by simp
  have hw:wo (l++[z])=!(decide (z=59)):=by
    unfold wo;rw [List.getLast?_concat]
    by_cases q:z=59
    . subst q;rfl
    . rw [beq_eq_false_iff_ne.mpr (fun h=>q (Option.some.inj h)),decide_eq_false q]
  unfold toldN;rw [hw]
  by_cases q:z=59
  . have d2:decide (z=59)=true:=decide_eq_true q;wide_line with [eIf1,AA,a0_q,AB,h1,gl,d1,d2,Bool.false_eq_true,if_false,List.append_nil];rfl
  . have d2:decide (z=59)=false:=decide_eq_false q;wide_line with [eIf1,AA,a0_q,AB,h1,h2,gl,d1,d2,kd_nwo,b6,if_true]
theorem sel_1 (n nb:Nat) {t p v} {s r1:E} (tl:St) (cl:V) (ins:Bool) (u x:List Nat) (a:Nat) (c:Cur t p v s r1) (hv:v=wA u a) (hu:u.length<=600) (ha:a<=u.length) (hk:inK x=true) (hx:x.length<=a) (hq:r1.q.length < 1000000) :
    ∃ρ',lk ρ' "self" = some (.obj 0)/\lk ρ' "fromAttribute" = some (.bool ins)/\lk ρ' "output" = some (.str (outN ins u x a))/\ex Tc (Cc (n+5)) 1000000 nb eSel (eNM cl ins (tl.length+8) x) (s.st (tl++[.list (sg (u.take a)++[v])]))=some (.next ρ' ((r1.queue (r1.q++toldN x)).st (tl++[.list (sg (u.take a))]))):=by
  have hb:big=16777216:=rfl;have hh:half=1000000000:=rfl;subst hv;have e1:=if1_ok (Cc (n+5)) 1000000 nb s (tl++[.list (sg (u.take a)++[wA u a])]) (eNM cl ins (tl.length+8) x) x rfl rfl hk (by rw [c.q.1];exact Nat.lt_of_lt_of_le hq (by decide))
  rw [c.q.1] at e1;have cq:=c.queue (r1.q++toldN x);have hw:(u.take a).length<=600:=by rw [List.length_take];omega
  have mp:=e_mpop (s.queue (r1.q++toldN x)) tl [] (sg (u.take a)++[wA u a]);have bp:=e_bpop (s.queue (r1.q++toldN x)) tl [] (sg (u.take a)) (wA u a) (by rw [List.length_append,A0];exact Nat.le_trans (Nat.add_le_add hw (Nat.le_refl 1)) (by decide))
  have un:=cq.unget (n+4) (tl++[.list (sg (u.take a))]);have jn:=Ea (r1.queue (r1.q++toldN x)) tl [] (u.take a) (Nat.le_trans hw (by decide))
  have bc:∀σ:St,bin false .Add (.str [38]) (.str (u.take a)) σ=some (.str (38::u.take a),σ):=fun σ=>Ag _ _ _ (by show 1+_<=_;omega)
  obtain ⟨hx1,hx2⟩:=AF hk
  have e2:ev Tc (Cc (n+5)) eC2 (eNM cl ins (tl.length+8) x) ((s.queue (r1.q++toldN x)).st (tl++[.list (sg (u.take a)++[wA u a])]))=some (.bool (wo x&&(ins&&closeB (wA u x.length))),(s.queue (r1.q++toldN x)).st (tl++[.list (sg (u.take a)++[wA u a])])):=by
    obtain ⟨l,z,rfl⟩:∃l z,x=l++[z]:=⟨_,_,(List.dropLast_concat_getLast (List.length_pos_iff.mp hx2)).symm⟩;have hl:(l++[z]).length=l.length+1:=by rw [List.length_append];rfl
    have:=eC2_ok (Cc (n+5)) (eNM cl ins (tl.length+8) (l++[z])) (s.queue (r1.q++toldN (l++[z]))) tl u l a z ins rfl rfl rfl (by rw [<- hl];rfl) (by rw [<- hl];exact hx) ha hu
    rw [<- hl] at this;rw [this]
    have hw:wo (l++[z])=!(decide (z=59)):=by
      unfold wo;rw [List.getLast?_concat]
      by_cases q:z=59
      . subst q;rfl
      . rw [beq_eq_false_iff_ne.mpr (fun h=>q (Option.some.inj h)),decide_eq_false q]
    rw [hw]
  have i0:ex Tc (Cc (n+5)) 1000000 nb eSel (eNM cl ins (tl.length+8) x) (s.st (tl++[.list (sg (u.take a)++[wA u a])]))=ex Tc (Cc (n+5)) 1000000 nb (.cons eIf1 (.cons (.ifs eC2 eA2 eB2) .nil)) (eNM cl ins (tl.length+8) x) (s.st (tl++[.list (sg (u.take a)++[wA u a])])):=by
    exact jit (jcmp (t:=true) (jl rfl) rfl rfl)
  rw [i0,Ac,e1,kS_n,Ac,AM,e2,CR,AQ];cases ho:(wo x&&(ins&&closeB (wA u x.length))) with
  | true=>
    have:outN ins u x a=38::u.take a:=by unfold outN;rw [ho];rfl
    rw [this,FD];refine ⟨[("self",.obj 0),("allowedChar",cl),("fromAttribute",.bool ins),("output",.str (38::u.take a)),("charStack",.obj (tl.length+8)),("entityName",.str x),("entityLength",.int x.length)],rfl,rfl,rfl,?_⟩;exact congrArg (kS Tc (Cc (n+5)) 1000000 nb .nil) ((jexp (jmet (Ak (jl rfl) (Ap _ _)) (m1_un _ _) (js1 (jmet (jl rfl) mp rfl bp)) un)).trans (jasg (jbin rfl (jmet rfl (AR [] _) (js1 (jl rfl)) jn) (bc _))))
  | false=>
    have:outN ins u x a=entV x++(u.take a).drop x.length:=by unfold outN;rw [ho];rfl
    rw [this,DZ];have se:∀σ:St,subV Tc (.stat 43) (.str x) σ=some (.str (entV x)):=fun σ=>(Cu hk).1
    have sl:slcV (.obj (tl.length+8)) (.int x.length) .none ((r1.queue (r1.q++toldN x)).st (tl++[.list (sg (u.take a))]))=some (.lst (sg ((u.take a).drop x.length))):=by
      have:=sl_obj (σ:=(r1.queue (r1.q++toldN x)).st (tl++[.list (sg (u.take a))])) (l:=some (x.length:Int)) (u:=none) (a:=.int x.length) (b:=.none) (if_pos ⟨by exact Int.natCast_nonneg _,by exact Int.ofNat_le.mpr (Nat.le_trans (by assumption) (by decide))⟩) rfl (FS _ tl [] _) (by rw [A0];exact Nat.le_trans hw (by decide))
      rw [cut_from] at this;rw [this];unfold sg;rw [List.map_drop]
    have jls:=fun σ=>Ht ((u.take a).drop x.length) (by rw [List.length_drop];exact Nat.le_trans (Nat.sub_le _ _) (Nat.le_trans hw (by decide))) σ
    have ag:=aug_s (entV x) ((u.take a).drop x.length) (by have:=BI hk;rw [List.length_drop];omega)
    refine ⟨[("self",.obj 0),("allowedChar",cl),("fromAttribute",.bool ins),("output",.str (entV x++(u.take a).drop x.length)),("charStack",.obj (tl.length+8)),("entityName",.str x),("entityLength",.int x.length)],rfl,rfl,rfl,?_⟩;exact congrArg (kS Tc (Cc (n+5)) 1000000 nb .nil) ((jasg (jsub (u:=.stat 43) rfl (jl rfl) (se _))).trans ((jexp (jmet (Ak (jl rfl) (Ap _ _)) (m1_un _ _) (js1 (jmet (jl rfl) mp rfl bp)) un)).trans (jaug (u:=.str (entV x)) rfl (jmet rfl (AR [] _) (js1 (jslc (jl rfl) (jl rfl) rfl sl)) (jls _)) ag)))
end Mine
open PySem PySem.W PyProof.Rows
set_option maxRecDepth 100000
set_option maxHeartbeats 2000000
namespace Mine
theorem ES (C:Calls) (N nb:Nat) (ρ ρ':L) (σ σ':St) (h:ex Tc C N nb eBody ρ σ=some (.next ρ' σ')):ex Tc C N nb ms283 ρ σ=ex Tc C N nb (.cons eFin .nil) ρ' σ':=by
  have key:∀a b c:MS,∀ρ σ,ex Tc C N nb (.cons a (.cons b (.cons c .nil))) ρ σ=some (.next ρ' σ')->ex Tc C N nb (.cons a (.cons b (.cons c (.cons eFin .nil)))) ρ σ=ex Tc C N nb (.cons eFin .nil) ρ' σ':=by
    intro a b c ρ σ h;rw [Ac] at h ⊢;cases ha:ex Tc C N nb a ρ σ with
    | none=>rw [ha] at h;cases h
    | some f=>
      rw [ha] at h;cases f with
      | brk _ _=>cases h
      | ret _ _=>cases h
      | next ρ1 σ1=>
        rw [kS_n,Ac] at h ⊢;cases hb:ex Tc C N nb b ρ1 σ1 with
        | none=>rw [hb] at h;cases h
        | some f=>
          rw [hb] at h;cases f with
          | brk _ _=>cases h
          | ret _ _=>cases h
          | next ρ2 σ2=>
            rw [kS_n,Ac] at h ⊢;cases hc:ex Tc C N nb c ρ2 σ2 with
            | none=>rw [hc] at h;cases h
            | some f=>
              rw [hc] at h;cases f with
              | brk _ _=>cases h
              | ret _ _=>cases h
              | next ρ3 σ3=>
                rw [kS_n,B1] at h;cases h;rw [kS_n]
  exact key _ _ _ _ _ h
noncomputable def ansE (cl:V) (ins:Bool) (u:List Nat):List Nat×List V×Nat:=
  if stopB cl (wA u 0)=true then ([38],[],0) else match lpT u (al u+1) with | none=>(38::u.take (al u),[tErr sNam],al u) | some x=>(outN ins u x (al u),toldN x,al u)
theorem Hv (n nb:Nat) {t p} {r:E} (a:At t p r.r) (tl:St) (cl:V) (ins:Bool) (hc:okCl cl) (hq:r.q.length < 1000000) :
    ∃(r':E) (l:List V) (ρ:L),At t (p+(ansE cl ins (t.drop p)).2.2) r'.r/\r'.q=r.q++(ansE cl ins (t.drop p)).2.1/\r'.row=r.row/\lk ρ "self" = some (.obj 0)/\lk ρ "fromAttribute" = some (.bool ins)/\lk ρ "output" = some (.str (ansE cl ins (t.drop p)).1)/\
      ex Tc (Cc (n+5)) 1000000 nb eBody [("self",.obj 0),("allowedChar",cl),("fromAttribute",.bool ins)] (r.st tl)=some (.next ρ (r'.st (tl++[.list l]))):=by
  have hb:big=16777216:=rfl;have hl:t.length<=600:=a.tl;obtain ⟨v,s,r1,c,q1,w1,e1⟩:=a.cur (n+1) tl
  have hv:v=.none∨∃x,v=.str [x]:=by
    obtain ⟨_,⟨x,_,h,_⟩ | ⟨_,h,_⟩⟩:=c
    . exact .inr ⟨x,h⟩
    . exact .inl h
  have hvt:wA (t.drop p) 0=v:=by rw [Hu];exact c.wA.symm
  have fs:=Dv s tl [] v;have un:=c.unget (n+4) (tl++[.list [v]]);have cf:=fun nb=>eCond_ok (Cc (n+5)) nb s tl cl ins hc v hv
  have b1:∀rest,ex Tc (Cc (n+5)) 1000000 nb (.cons (.asg (.loc "output") (.cst (.str [38]))) (.cons (.asg (.loc "charStack") (.lst true (.cons (.met (.attr (.loc "self") "stream") "char" .nil [] .nil) .nil))) rest)) [("self",.obj 0),("allowedChar",cl),("fromAttribute",.bool ins)] (r.st tl)=ex Tc (Cc (n+5)) 1000000 nb rest [("self",.obj 0),("allowedChar",cl),("fromAttribute",.bool ins),("output",.str [38]),("charStack",.obj (tl.length+8))] (s.st (tl++[.list [v]])):=fun rest=>(jasg rfl).trans (jasg (jlst (jmet (Ak (jl rfl) (Ap _ _)) (Cr _ _) rfl e1)))
  unfold ansE;rw [hvt];cases hst:stopB cl v with
  | true=>
    rw [hst] at cf;rw [if_pos rfl];refine ⟨r1,[v],[("self",.obj 0),("allowedChar",cl),("fromAttribute",.bool ins),("output",.str [38]),("charStack",.obj (tl.length+8))],c.1,by rw [q1];exact (List.append_nil _).symm,w1,rfl,rfl,rfl,?_⟩
    exact (b1 _).trans (jift (cf 0) (jexp (jmet (Ak (jl rfl) (Ap _ _)) (m1_un _ _) (js1 (jsub (jl rfl) rfl fs)) un)))
  | false=>
    rw [if_neg Bool.false_ne_true];rw [hst] at cf
    obtain ⟨x,rfl⟩:∃x,v=.str [x]:=by
      rcases hv with rfl | h
      . exact nomatch (show true=false from hst)
      . exact h
    have hx:t[p]? = some x:=by
      obtain ⟨_,⟨y,h1,h,_⟩ | ⟨_,h,_⟩⟩:=c
      . cases h;exact h1
      . cases h
    have h35:x≠35:=(D4 (a.tg x (List.mem_of_getElem? hx))).2.1;have d35:decide ([x]=[35])=false:=decide_eq_false (by simpa using h35)
    obtain ⟨v2,s2,r2,c2,q2,w2,e2⟩:=eW_loop n nb tl cl ins (p:=p) 600 0 999399 (.str [x]) s r1 c (by rw [List.length_drop];omega) c.1.ple
    have e2:ex Tc (Cc (n+5)) 1000000 nb (.whl eWc eW) (eNL cl ins (tl.length+8)) (s.st (tl++[.list [.str [x]]]))=some (.next (eNL cl ins (tl.length+8)) (s2.st (tl++[.list (sg ((t.drop p).take (al (t.drop p)))++[v2])]))):=e2;have c2:Cur t (p+al (t.drop p)) v2 s2 r2:=c2;have hv2:v2=wA (t.drop p) (al (t.drop p)):=by rw [Hu];exact c2.wA
    have hul:(t.drop p).length<=600:=by rw [List.length_drop];exact Nat.le_trans (Nat.sub_le _ _) (by assumption)
    have e3:=tlp_ok n nb s2 tl cl ins (t.drop p) (al (t.drop p)) v2 hul (ER _)
    have i0:ex Tc (Cc (n+5)) 1000000 nb eBody [("self",.obj 0),("allowedChar",cl),("fromAttribute",.bool ins)] (r.st tl)=kS Tc (Cc (n+5)) 1000000 nb .nil (kS Tc (Cc (n+5)) 1000000 nb .nil (ex Tc (Cc (n+5)) 1000000 nb (.cons (.whl eWc eW) (.cons eTlp (.cons eSel .nil))) (eNL cl ins (tl.length+8)) (s.st (tl++[.list [.str [x]]])))):=by
      exact (b1 _).trans (jife (cf 0) (jife (jcmp (t:=false) (jsub (jl rfl) rfl fs) rfl (congrArg some d35)) rfl))
    rw [i0,Ac,e2,kS_n,Ac,e3,kS_n,Ac];cases h:lpT (t.drop p) (al (t.drop p)+1) with
    | none=>
      obtain ⟨ρ',k1,k2,k3,e4⟩:=sel_0 n nb c2 tl cl ins ((t.drop p).take (al (t.drop p))) (by rw [List.length_take];omega) (by rw [q2,q1];exact hq)
      refine ⟨r2.queue (r2.q++[tErr sNam]),sg ((t.drop p).take (al (t.drop p))),ρ',c2.1,by rw [<- q1,<- q2];rfl,w2.trans w1,k1,k2,k3,?_⟩
      refine (congrArg (fun z=>kS Tc (Cc (n+5)) 1000000 nb .nil (kS Tc (Cc (n+5)) 1000000 nb .nil (kS Tc (Cc (n+5)) 1000000 nb .nil z))) e4).trans ?_
      rfl
    | some x=>
      obtain ⟨l,hl1,hl2,hk⟩:=AJ h;have hxl:x.length<=al (t.drop p):=by rw [hl2,List.length_take];omega
      obtain ⟨ρ',k1,k2,k3,e4⟩:=sel_1 n nb tl cl ins (t.drop p) x (al (t.drop p)) c2 hv2 hul (ER _) hk hxl (by rw [q2,q1];exact hq)
      refine ⟨r2.queue (r2.q++toldN x),sg ((t.drop p).take (al (t.drop p))),ρ',c2.1,by rw [<- q1,<- q2];rfl,w2.trans w1,k1,k2,k3,?_⟩
      refine (congrArg (fun z=>kS Tc (Cc (n+5)) 1000000 nb .nil (kS Tc (Cc (n+5)) 1000000 nb .nil (kS Tc (Cc (n+5)) 1000000 nb .nil z))) e4).trans ?_
      rfl
theorem ET (cl:V) (ins:Bool) (u:List Nat):(ansE cl ins u).1.length<=u.length+3:=by
  unfold ansE
  split
  . show 1<=_;exact Nat.succ_pos _
  . split
    . show (38::u.take _).length<=_;rw [List.length_cons,List.length_take];omega
    . rename_i x h;obtain ⟨_,_,_,hk⟩:=AJ h
      have:=BI hk
      show (outN ins u x (al u)).length<=_;unfold outN
      split
      . rw [List.length_cons,List.length_take];omega
      . rw [List.length_append,List.length_drop,List.length_take];omega
theorem ent_t (n:Nat) {t p} {r:E} (a:At t p r.r) (av:List Nat) (cl:V) (hc:okCl cl) (hq:r.q.length < 1000000) (hv:av.length < 1000) :
    ∃(r':E) (l:List V),At t (p+(ansE cl true (t.drop p)).2.2) r'.r/\r'.q=r.q++(ansE cl true (t.drop p)).2.1/\r'.row=r.row/\
      Cc (n+6) 283 [.obj 0] [("allowedChar",cl),("fromAttribute",.bool true)] (r.st (A av))=some (.none,r'.st (A (av++(ansE cl true (t.drop p)).1)++[.list l])):=by
  have hb:big=16777216:=rfl;have hf:Cc (n+6) 283 [.obj 0] [("allowedChar",cl),("fromAttribute",.bool true)] (r.st (A av))=fcall Tc (Cc (n+5)) 1000000 true ms283 [("self",.obj 0),("allowedChar",cl),("fromAttribute",.bool true)] (r.st (A av)):=rfl;obtain ⟨r',l,ρ,a',q',w',x1,x2,x3,e'⟩:=Hv n (r.st (A av)).length a (A av) cl true hc hq;have hl:=ET cl true (t.drop p);have hd:(t.drop p).length<=600:=by rw [List.length_drop];have:=a.tl;exact Nat.le_trans (Nat.sub_le _ _) (by assumption)
  rw [hf,Ax,ES _ _ _ _ _ _ _ e',Ac,eFin_t _ _ r' av _ ρ _ x1 x2 x3 (by omega)]
  exact ⟨r',l,a',q',w',rfl⟩
theorem ent_f (n:Nat) {t p} {r:E} (a:At t p r.r) (tl:St) (hq:r.q.length < 1000000 - 2) :
    ∃(r':E) (l:List V),At t (p+(ansE .none false (t.drop p)).2.2) r'.r/\r'.q=r.q++(ansE .none false (t.drop p)).2.1++[tOut (ansE .none false (t.drop p)).1]/\r'.row=r.row/\
      Cc (n+6) 283 [.obj 0] [] (r.st tl)=some (.none,r'.st (tl++[.list l])):=by
  have hb:big=16777216:=rfl;have hf:Cc (n+6) 283 [.obj 0] [] (r.st tl)=fcall Tc (Cc (n+5)) 1000000 true ms283 [("self",.obj 0),("allowedChar",.none),("fromAttribute",.bool false)] (r.st tl):=rfl;obtain ⟨r',l,ρ,a',q',w',x1,x2,x3,e'⟩:=Hv n (r.st tl).length a tl .none false (.inl rfl) (by exact Nat.le_trans (by assumption) (by decide))
  have h2:(ansE .none false (t.drop p)).2.1.length<=1:=by
    unfold ansE toldN
    split
    . exact Nat.zero_le _
    . split
      . exact Nat.le_refl _
      . show (if _ then _ else _:List V).length<=1
        split
        . exact Nat.le_refl _
        . exact Nat.zero_le _
  obtain ⟨ρ',e2⟩:=eFin_f (Cc (n+5)) (r.st tl).length r' (tl++[.list l]) ρ _ x1 x2 x3 (by rw [q',List.length_append];omega)
  rw [hf,Ax,ES _ _ _ _ _ _ _ e',Ac,e2,q'];exact ⟨r'.queue (r.q++(ansE .none false (t.drop p)).2.1++[tOut (ansE .none false (t.drop p)).1]),l,a',rfl,w',rfl⟩
end Mine
open PySem PySem.W PyProof.Rows
set_option maxRecDepth 100000
set_option maxHeartbeats 2000000
namespace Mine
theorem pea_eq (n:Nat) (e:E) (tl:St) (cl:V):Cc (n+7) 290 [.obj 0,cl] [] (e.st tl)=kF true (e.st tl).length (kS Tc (Cc (n+6)) 1000000 (e.st tl).length .nil (kX [("self",.obj 0),("allowedChar",cl)] (Cc (n+6) 283 [.obj 0] [("allowedChar",cl),("fromAttribute",.bool true)] (e.st tl)))):=by
  have hf:Cc (n+7) 290 [.obj 0,cl] [] (e.st tl)=fcall Tc (Cc (n+6)) 1000000 true ms290 [("self",.obj 0),("allowedChar",cl)] (e.st tl):=rfl;rw [hf];rfl
theorem pea_ok (n:Nat) {t p} {r:E} (a:At t p r.r) (av:List Nat) (cl:V) (hc:okCl cl) (hq:r.q.length < 1000000) (hv:av.length < 1000) :
    ∃(r':E) (l:List V),At t (p+(ansE cl true (t.drop p)).2.2) r'.r/\r'.q=r.q++(ansE cl true (t.drop p)).2.1/\r'.row=r.row/\
      Cc (n+7) 290 [.obj 0,cl] [] (r.st (A av))=some (.none,r'.st (A (av++(ansE cl true (t.drop p)).1)++[.list l])):=by
  obtain ⟨r',l,h1,h2,h3,e⟩:=ent_t n a av cl hc hq hv;refine ⟨r',l,h1,h2,h3,?_⟩;rw [pea_eq,e,kX_s,kS_n,B1,kF_n]
end Mine
open PySem PySem.W PyProof.Rows
set_option maxRecDepth 100000
set_option maxHeartbeats 2000000
namespace Mine
noncomputable def vS (l:List (List Nat)):List V:=l.map V.str
theorem Bx (l:List (List Nat)):(vS l).length=l.length:=List.length_map _
noncomputable def toldS (x:List Nat):List (List Nat):=if wo x then [sNwo] else []
theorem toldS_N (x:List Nat):toldN x=(toldS x).map tErr:=by
  unfold toldN toldS;cases wo x<;>rfl
noncomputable def nsE (cl:V) (u:List Nat):List (List Nat):=if stopB cl (wA u 0)=true then [] else match lpT u (al u+1) with | none=>[sNam] | some x=>toldS x
theorem Hw (cl:V) (ins:Bool) (u:List Nat):(ansE cl ins u).2.1=(nsE cl u).map tErr:=by
  unfold ansE nsE;cases stopB cl (wA u 0) with
  | true=>rfl
  | false=>
    rw [if_neg Bool.false_ne_true,if_neg Bool.false_ne_true];cases lpT u (al u+1) with
    | none=>rfl
    | some x=>exact toldS_N x
theorem nsE_le (cl:V) (u:List Nat):(nsE cl u).length<=1:=by
  unfold nsE toldS
  split
  . exact Nat.zero_le _
  . split
    . exact Nat.le_refl _
    . split
      . exact Nat.le_refl _
      . exact Nat.zero_le _
theorem kn_38:(kyN.all fun k=>k.all fun c=>!(c==38))=true:=by decide +kernel
theorem not38 {w:List Nat} {k:List Nat} (hk:k∈kyN):¬w++[38] <+: k:=fun h=>by
  have:=List.all_eq_true.mp (List.all_eq_true.mp kn_38 k hk) 38 (h.subset (List.mem_append_right _ List.mem_cons_self))
  exact nomatch (show false=true from this)
noncomputable def Nx (r:List Nat):Prop:=r=[]∨∃s,r=38::s
section
variable {w r:List Nat}
theorem Hx (hr:Nx r):∀(f a:Nat),a<=w.length->alg (w++r) f a=alg w f a
  | 0,a,_=>rfl
  | f+1,a,h=>by
    show (if _ then _ else _)=(if _ then _ else _)
    by_cases q:a < w.length
    . rw [List.take_append_of_le_length q,Hx hr f (a+1) q]
      by_cases q2:hasP (w.take (a+1))=true
      . rw [if_pos ⟨by rw [List.length_append];omega,q2⟩,if_pos ⟨q,q2⟩]
      . rw [if_neg fun z=>q2 z.2,if_neg fun z=>q2 z.2]
    . have e:a=w.length:=by omega
      rw [if_neg (c:=a < w.length/\_) fun z=>q z.1,if_neg]
      rintro ⟨q1,q2⟩
      rcases hr with rfl | ⟨s,rfl⟩
      . rw [List.append_nil] at q1;exact q q1
      . obtain ⟨k,hk,hp⟩:=hasP_iff.mp q2;rw [e,List.take_append,List.take_of_length_le (by exact Nat.le_succ _),show w.length+1 - w.length=1 by omega] at hp
        exact not38 hk hp
theorem wA_seg {l:Nat} (h:l < w.length):wA (w++r) l=wA w l:=by
  unfold wA;rw [List.getElem?_append_left h]
theorem Ii (hr:Nx r) {l:Nat} (h:l<=w.length):closeB (wA (w++r) l)=closeB (wA w l):=by
  by_cases q:l < w.length
  . rw [wA_seg q]
  . have e:l=w.length:=by omega
    have e1:wA w l=.none:=by unfold wA;rw [List.getElem?_eq_none (by exact Nat.le_of_not_lt (by assumption))]
    rw [e1];rcases hr with rfl | ⟨s,rfl⟩
    . rw [List.append_nil,e1]
    . have:wA (w++38::s) l=.str [38]:=by unfold wA;rw [List.getElem?_append_right (by exact Nat.le_of_not_lt (by assumption)),e,Nat.sub_self];rfl
      rw [this];decide +kernel
theorem ans_seg (hr:Nx r) (hw:w≠[]) (cl:V) (ins:Bool):ansE cl ins (w++r)=ansE cl ins w/\nsE cl (w++r)=nsE cl w:=by
  have h0:wA (w++r) 0=wA w 0:=wA_seg (List.length_pos_iff.mpr hw);have h1:al (w++r)=al w:=Hx hr 600 0 (Nat.zero_le _);have h3:=ER w;have h2:(w++r).take (al w)=w.take (al w):=List.take_append_of_le_length h3
  have h4:lpT (w++r) (al w+1)=lpT w (al w+1):=by
    rw [<- BH (w++r) (al w) _ (Nat.le_refl _),h2,BH w (al w) _ (Nat.le_refl _)]
  constructor
  . unfold ansE;rw [h0,h1,h4,h2];cases hl:lpT w (al w+1) with
    | none=>rfl
    | some x=>
      have:outN ins (w++r) x (al w)=outN ins w x (al w):=by
        obtain ⟨l,q1,q2,_⟩:=AJ hl;unfold outN;rw [h2,Ii hr (by rw [q2,List.length_take];exact Nat.min_le_right _ _)]
      dsimp only;rw [this]
  . unfold nsE;rw [h0,h1,h4]
end
theorem ans_le (cl:V) (ins:Bool) (u:List Nat):(ansE cl ins u).2.2<=u.length:=by
  have h:=ER u;unfold ansE
  split
  . exact Nat.zero_le _
  . split
    . exact h
    . exact h
noncomputable def cl5 (ins:Bool):V:=if ins then .str [34] else .none
noncomputable def rdW (ins:Bool) (w:List Nat):List Nat×List (List Nat):=((ansE (cl5 ins) ins w).1++w.drop (ansE (cl5 ins) ins w).2.2,nsE (cl5 ins) w)
theorem nA_all {w:List Nat} (h:∀c∈w,c≠38):∀c∈w,nA c=true:=fun c hc=>by
  have:=h c hc
  unfold nA;simpa using this
theorem Nx.tw {r:List Nat} (hr:Nx r):r.takeWhile nA=[]:=by
  rcases hr with rfl | ⟨s,rfl⟩<;>rfl
theorem tw_seg {w r:List Nat} (hr:Nx r) (h:∀c∈w,c≠38) (k:Nat) (hk:k<=w.length):((w++r).drop k).takeWhile nA=w.drop k:=by
  rw [List.drop_append_of_le_length hk,FQ fun c hc=>nA_all h c (List.mem_of_mem_drop hc),hr.tw,List.append_nil]
-- the longest name
noncomputable def Bst (w b:List Nat):Prop:=(b=[]∨(b∈kyN/\b <+: w))/\∀k∈kyN,k <+: w->k.length<=b.length
theorem Bst.pre {w b} (h:Bst w b):b <+: w:=by
  rcases h.1 with rfl | h
  . exact List.nil_prefix
  . exact h.2
theorem Bst.uniq {w a b:List Nat} (ha:Bst w a) (hb:Bst w b):a=b:=by
  have key:∀{a b},Bst w a->Bst w b->a.length<=b.length:=fun {a b} ha hb=>by
    rcases ha.1 with rfl | h
    . exact Nat.zero_le _
    . exact hb.2 _ h.1 h.2
  have e:=Nat.le_antisymm (key ha hb) (key hb ha);rw [List.prefix_iff_eq_take.mp ha.pre,List.prefix_iff_eq_take.mp hb.pre,e]
theorem Bm {x:List Nat} (h:x∈kyN):inK x=true:=List.contains_iff_mem.mpr h
theorem Hy {s k:List Nat} (hk:k∈kyN) (hp:k <+: s):∀d,k.length < d->∃x,lpT s d=some x/\k.length<=x.length
  | 0,h=>absurd h (Nat.not_lt_zero _)
  | d+1,h=>by
    unfold lpT;cases q:inK (s.take d) with
    | true=>
      rw [if_pos rfl]
      have:=hp.length_le
      exact ⟨_,rfl,by rw [List.length_take];omega⟩
    | false=>
      rw [if_neg Bool.false_ne_true];refine Hy hk hp d ?_
      apply Nat.lt_of_le_of_ne (Nat.lt_succ_iff.mp h);intro e;rw [<- e,<- List.prefix_iff_eq_take.mp hp,Bm hk] at q;cases q
theorem alg_ge {u k:List Nat} (hk:k∈kyN) (hp:k <+: u):∀f a,a<=k.length->k.length - a<=f->k.length<=alg u f a
  | 0,a,h,hf=>by show k.length<=a;omega
  | f+1,a,h,hf=>by
    show k.length<=(if _ then _ else _)
    have hl:k.length<=u.length:=hp.length_le
    by_cases q:a < k.length
    . have h1:hasP (u.take (a+1))=true:=hasP_iff.mpr ⟨k,hk,by
        have e:u.take (a+1)=k.take (a+1):=by
          rw [List.prefix_iff_eq_take.mp hp,List.take_take,Nat.min_eq_left q]
        rw [e];exact List.take_prefix _ _⟩
      rw [if_pos ⟨by exact Nat.lt_of_lt_of_le (by assumption) (by assumption),h1⟩]
      exact alg_ge hk hp f (a+1) q (by omega)
    . split
      . have:=(FT u f (a+1) (by rename_i z;exact z.1)).1
        omega
      . exact Nat.le_of_not_lt (by assumption)
theorem bst_lp (w:List Nat):Bst w ((lpT w (al w+1)).getD []):=by
  have mx:∀k∈kyN,k <+: w->∃x,lpT w (al w+1)=some x/\k.length<=x.length:=fun k hk hp=>by
    have h9:k.length<=9:=(AF (Bm hk)).1;exact Hy hk hp _ (Nat.lt_succ_of_le (alg_ge hk hp 600 0 (Nat.zero_le _) (by exact Nat.le_trans (by assumption) (by decide))))
  refine ⟨?_,fun k hk hp=>?_⟩
  . cases h:lpT w (al w+1) with
    | none=>exact .inl rfl
    | some x=>
      obtain ⟨l,_,h2,h3⟩:=AJ h;exact .inr ⟨D7 h3,h2▸List.take_prefix _ _⟩
  . obtain ⟨x,h,hl⟩:=mx k hk hp;rw [h];exact hl
noncomputable def rdB (ins:Bool) (w x:List Nat):List Nat×List (List Nat):=if x=[] then (38::w,[sNam]) else if (wo x&&(ins&&closeB (wA w x.length)))=true then (38::w,toldS x) else (entV x++w.drop x.length,toldS x)
theorem EU {ins:Bool} {w x:List Nat} (hx:Bst w x) (hs:stopB (cl5 ins) (wA w 0)=false):rdW ins w=rdB ins w x:=by
  have hu:=hx.uniq (bst_lp w);unfold rdW rdB ansE nsE;rw [hs,if_neg Bool.false_ne_true,if_neg Bool.false_ne_true];cases h:lpT w (al w+1) with
  | none=>
    rw [h] at hu;have hu:x=[]:=hu;rw [if_pos hu];show (38::w.take (al w)++w.drop (al w),_)=_;rw [List.cons_append,List.take_append_drop]
  | some y=>
    rw [h] at hu;have hu:x=y:=hu;subst hu;obtain ⟨l,q1,q2,q3⟩:=AJ h;have hl:=ER w;have hxl:x.length<=al w:=by rw [q2,List.length_take];omega
    rw [if_neg (List.ne_nil_of_length_pos (AF q3).2)];show (outN ins w x (al w)++w.drop (al w),toldS x)=_;unfold outN;cases hc:wo x&&(ins&&closeB (wA w x.length)) with
    | true=>
      rw [if_pos rfl,if_pos rfl,List.cons_append,List.take_append_drop]
    | false=>
      rw [if_neg Bool.false_ne_true,if_neg Bool.false_ne_true,List.append_assoc]
      congr 2
      rw [List.drop_take];have e:w.drop (al w)=(w.drop x.length).drop (al w - x.length):=by rw [List.drop_drop];congr 1;omega
      rw [e,List.take_append_drop]
end Mine
open PySem PySem.W PyProof.Rows
set_option maxRecDepth 100000
set_option maxHeartbeats 2000000
namespace Mine
theorem ms806_eq:ms806=(.cons (.asg (.loc "reader") (.new "HTMLTokenizer" (.cons (.loc "text") .nil))) (.cons (.expr (.met (.attr (.loc "reader") "stream") "readChunk" (.cons (.loc "size") .nil) [] .nil)) (.cons (.asg (.loc "row") (.lst true .nil)) (.cons (.whl qCond (.gc 7 qB)) (.cons (.ret (.loc "row")) .nil))))):=rfl
noncomputable def R.flw (r:R) (f:L):R:=⟨r.text,r.place,r.chunk,r.csz,r.off,r.pl,r.pc,r.er,f⟩
theorem At.flw {t p r} (a:At t p r) (f:L):At t p (r.flw f):=by
  obtain ⟨tx,p0,p1,csz,o0,o1,le,ple,rm,pl,pc,er,tl,tg,cl⟩:=a;exact ⟨tx,p0,p1,csz,o0,o1,le,ple,rm,pl,pc,er,tl,tg,cl⟩
noncomputable def F1 (f:L):Prop:=(∃x,f=[("currentToken",x)])∨∃x y,f=[("currentToken",x),("tokenQueue",y)]
theorem F1.map {f:L} (h:F1 f) (g:V->V):F1 (f.map fun e=>(e.1,g e.2)):=by
  rcases h with ⟨x,rfl⟩ | ⟨x,y,rfl⟩
  . exact .inl ⟨_,rfl⟩
  . exact .inr ⟨_,_,rfl⟩
noncomputable def dv (x:List Nat×List (List Nat)):V:=.tup [.str x.1,.lst (vS x.2)]
theorem EV (σ:St) (n d:Nat) (l:List (List Nat)):(vS l).map (frz σ n (d+1))=vS l:=by
  unfold vS;rw [List.map_map];rfl
theorem frz_dv (σ:St) (n d:Nat) (x):frz σ n (d+3) (dv x)=dv x:=by
  show V.tup [.str x.1,.lst ((vS x.2).map (frz σ n (d+1)))]=_;rw [EV];rfl
noncomputable def RowIs (row:List V) (tl:St) (dn:List (List Nat×List (List Nat))):Prop:=row=dn.map dv∨∃d o ns,dn=d++[(o,ns)]/\row=d.map dv++[.tup [.str o,.obj 12]]/\tl[5]? = some (.list (vS ns))
theorem RowIs.frz {row:List V} {tl:St} {dn} (h:RowIs row tl dn) (r:R) (n d:Nat) (hn:n<=7):row.map (frz (r.st (.list row::tl)) n (d+3))=dn.map dv:=by
  have e1:∀(l:List (List Nat×List (List Nat))) (σ:St),(l.map dv).map (Mine.frz σ n (d+3))=l.map dv:=fun l σ=>by
    rw [List.map_map];exact List.map_congr_left fun x _=>frz_dv σ n d x
  rcases h with h | ⟨dn',o,ns,rfl,h,ht⟩
  . rw [h,e1]
  . generalize hσ:r.st (.list row::tl)=σ;have hg:σ[12]? = some (.list (vS ns)):=by rw [<- hσ];exact ht
    rw [h,List.map_append,List.map_append,e1]
    congr 1
    show [V.tup [.str o,if 12 < n then .obj 12 else frzOb (Mine.frz σ n (d+1)) σ[12]?]]=_
    rw [if_neg (by omega),hg]
    show [V.tup [.str o,.lst ((vS ns).map (Mine.frz σ n (d+1)))]]=_;rw [EV];rfl
theorem gcS_ok (r:R) (row:List V) (tl:St):gcS 7 (r.st (.list row::tl))=(r.flw (r.fl.map fun e=>(e.1,frz (r.st (.list row::tl)) 7 6 e.2))).st [.list (row.map (frz (r.st (.list row::tl)) 7 6))]:=by
  generalize hσ:r.st (.list row::tl)=σ;have h4:(List.replicate r.er sInv).map (frz σ 7 6)=List.replicate r.er sInv:=by rw [List.map_replicate];rfl
  have e:gcS 7 (r.st (.list row::tl))=[frzO (r.st (.list row::tl)) 7 (o0 r.fl),frzO (r.st (.list row::tl)) 7 (o1 r.chunk r.csz r.off r.pl r.pc),.list [.int 0],.inst 73 [("text",.str r.text),("place",.int r.place)],.list ((List.replicate r.er sInv).map (frz (r.st (.list row::tl)) 7 6)),.list [],.list (row.map (frz (r.st (.list row::tl)) 7 6))]:=rfl;rw [hσ,h4] at e;rw [e];rfl
theorem FU (n:Nat) (σ:St) (ρ:L) (x:String):lk (gcL n σ ρ) x=(lk ρ x).map (frz σ n 6):=by
  induction ρ with
  | nil=>rfl
  | cons e ρ ih=>
    show (if e.1=x then some (frz σ n 6 e.2) else lk (gcL n σ ρ) x)=Option.map _ (if e.1=x then some e.2 else lk ρ x)
    split
    . rfl
    . exact ih
theorem pk {ρ:L} {x:String} {v:V} (y:String) (u:V) (h:lk ρ x=some v) (n:y≠x):lk (put ρ y u) x=some v:=by rw [Ad n,h]
structure Fr5 (ins:Bool) (ρ:L):Prop where
  r:lk ρ "reader" = some (.obj 0)
  i:lk ρ "inside" = some (.bool ins)
  w:lk ρ "row" = some (.obj 6)
theorem Fr5.gc {ins ρ} (h:Fr5 ins ρ) (σ:St):Fr5 ins (gcL 7 σ ρ):=⟨by rw [FU,h.r];rfl,by rw [FU,h.i];rfl,by rw [FU,h.w];rfl⟩
theorem Fr5.put {ins ρ} (h:Fr5 ins ρ) (x:String) (v:V) (h1:x≠"reader") (h2:x≠"inside") (h3:x≠"row"):Fr5 ins (put ρ x v):=⟨pk _ _ h.r h1,pk _ _ h.i h2,pk _ _ h.w h3⟩
section
variable {ins:Bool} {ρ:L}
theorem q0_ok (C:Calls) (r:R) (f:F1 r.fl) (h:Fr5 ins ρ) (row:List V) (rest:MS):∃x,ex Tc C 1000000 0 (.cons qz0 rest) ρ (r.st [.list row])=ex Tc C 1000000 0 rest ρ ((r.flw [("currentToken",x),("tokenQueue",.obj 7)]).st [.list row,.list []]):=by
  have e:ev Tc C (.lst true .nil) ρ (r.st [.list row])=some (.obj 7,r.st [.list row,.list []]):=rfl
  obtain ⟨x,hs⟩:∃x,setA Tc (.obj 0) "tokenQueue" (.obj 7) (r.st [.list row,.list []])=some ((r.flw [("currentToken",x),("tokenQueue",.obj 7)]).st [.list row,.list []]):=by
    obtain ⟨a,b,c,d,e,f',g,i,k⟩:=r;rcases f with ⟨x,h⟩ | ⟨x,y,h⟩<;>(have h:k=_:=h;subst h;exact ⟨x,rfl⟩)
  refine ⟨x,?_⟩;exact jasa e h.r hs
theorem q1_ok (C:Calls) (r:R) (x:V) (h:Fr5 ins ρ) (row:List V) (rest:MS):ex Tc C 1000000 0 (.cons qz1 rest) ρ ((r.flw [("currentToken",x),("tokenQueue",.obj 7)]).st [.list row,.list []])=ex Tc C 1000000 0 rest ρ (E.st ⟨r,row,[]⟩ (A [])):=by
  have e:ev Tc C q1E ρ ((r.flw [("currentToken",x),("tokenQueue",.obj 7)]).st [.list row,.list []])=some (.obj 10,(r.flw [("currentToken",x),("tokenQueue",.obj 7)]).st (.list row::.list []::A [])):=by kernel_rfl
  have hs:setA Tc (.obj 0) "currentToken" (.obj 10) ((r.flw [("currentToken",x),("tokenQueue",.obj 7)]).st (.list row::.list []::A []))=some (E.st ⟨r,row,[]⟩ (A [])):=rfl;exact jasa e h.r hs
theorem m0_pea (r:R) (tl:St):getM Tc (.obj 0) "processEntityInAttribute" (r.on.st tl)=some (.fn 290 [.obj 0]):=by rfl
theorem q2_ok {t p} {r:R} (a:At t p r) (h:Fr5 ins ρ) (row:List V) (rest:MS):∃(r':E) (l:List V),At t (p+(ansE (cl5 ins) ins (t.drop p)).2.2) r'.r/\r'.row=row/\r'.q=(nsE (cl5 ins) (t.drop p)).map tErr++(if ins then [] else [tOut (ansE (cl5 ins) ins (t.drop p)).1])/\
    ex Tc (Cc 8) 1000000 0 (.cons qz2 rest) ρ (E.st ⟨r,row,[]⟩ (A []))=ex Tc (Cc 8) 1000000 0 rest ρ (r'.st (A (if ins then (ansE (cl5 ins) ins (t.drop p)).1 else [])++[.list l])):=by
  cases ins with
  | true=>
    have a':At t p (E.mk r row []).r:=a;obtain ⟨r',l,a1,h1,h2,e⟩:=pea_ok 1 a' [] (.str [34]) (.inr ⟨34,rfl⟩) (by show 0 < _;decide) (by decide)
    rw [show 1+7=8 from rfl] at e;refine ⟨r',l,a1,h2,?_,?_⟩
    . rw [h1,Hw];exact (List.append_nil _).symm
    . exact jift (jl h.i) (jexp (jmet (jl h.r) (m0_pea _ _) rfl e))
  | false=>
    have a':At t p (E.mk r row []).r:=a;obtain ⟨r',l,a1,h1,h2,e⟩:=ent_f 2 a' (A []) (by show 0 < _;decide)
    rw [show 2+6=8 from rfl] at e;refine ⟨r',l,a1,h2,?_,?_⟩
    . rw [h1,Hw];rfl
    . exact jife (jl h.i) (jexp (jmet (jl h.r) (m0_ent _ _) rfl e))
theorem s8z (r:R) (a b:O) (av:List Nat) (tl:St):subV Tc (.obj 9) (.int 0) (r.st (a::b::(A av++tl)))=some (.obj 8):=by rfl
theorem q3_ok (C:Calls) (e:E) (av:List Nat) (tl:St) (h:Fr5 ins ρ) (rest:MS):ex Tc C 1000000 0 (.cons qz3 rest) ρ (e.st (A av++tl))=ex Tc C 1000000 0 rest (put ρ "signs" (.str av)) (e.st (A av++tl)):=by
  exact jasg (jsub (jsub (jsub (Ak (jl h.r) (AA _ _)) rfl (s9 _ _ _ _ _)) rfl (s8z _ _ _ _ _)) rfl (s7 _ _ _ _ _))
theorem q4_ok (C:Calls) (e:E) (av:List Nat) (l:List V) (rest:MS):ex Tc C 1000000 0 (.cons qz4 rest) ρ (e.st (A av++[.list l]))=ex Tc C 1000000 0 rest (put ρ "told" (.obj 12)) (e.st (A av++[.list l]++[.list []])):=by
  exact jasg rfl
-- the loop over the queue
theorem Bn {f:V->L->St->Option Fl} {i n k:Nat} {ρ:L} {σ:St} {vs:List V} {v:V} (h:objL σ i=some vs) (hv:vs[k]? = some v):forO f i (n+1) k ρ σ=kB (forO f i n (k+1)) (f v ρ σ):=by
  show (objL σ i).bind _=_;rw [h,Option.bind_some,hv];dsimp only;cases f v ρ σ with
  | none=>rfl
  | some z=>cases z<;>rfl
theorem BJ {f:V->L->St->Option Fl} {i n k:Nat} {ρ:L} {σ:St} {vs:List V} (h:objL σ i=some vs) (hv:vs[k]? = none):forO f i (n+1) k ρ σ=some (.next ρ σ):=by
  show (objL σ i).bind _=_;rw [h,Option.bind_some,hv]
theorem obj7 (e:E) (tl:St):objL (e.st tl) 7=some e.q:=rfl
structure Fs (ins:Bool) (s:List Nat) (ρ:L):Prop extends Fr5 ins ρ where
  s:lk ρ "signs" = some (.str s)
  t:lk ρ "told" = some (.obj 12)
theorem m12 (e:E) (av:List Nat) (l ts:List V):getM Tc (.obj 12) "append" (e.st (A av++[.list l]++[.list ts]))=some (.bm (.obj 12) "append"):=by
  have z:=e_mapp e (A av++[O.list l]) [] ts;exact z
theorem b12 (e:E) (av:List Nat) (l ts:List V) (v:V) (h:ts.length < big):bmet (.obj 12) "append" [v] (e.st (A av++[.list l]++[.list ts]))=some (.none,e.st (A av++[.list l]++[.list (ts++[v])])):=by
  have z:=e_bapp e (A av++[O.list l]) [] ts v h;exact z
theorem Fs.put {ins s ρ} (h:Fs ins s ρ) (v:V):Fs ins s (put ρ "token" v):=⟨h.toFr5.put _ _ (by decide) (by decide) (by decide),pk _ _ h.s (by decide),pk _ _ h.t (by decide)⟩
theorem qF_err (C:Calls) (e:E) (av:List Nat) (l ts:List V) (s n:List Nat) (h:Fs ins s ρ) (ht:lk ρ "token" = some (tErr n)) (hs:ts.length < big):ex Tc C 1000000 0 qF ρ (e.st (A av++[.list l]++[.list ts]))=some (.next ρ (e.st (A av++[.list l]++[.list (ts++[.str n])]))):=by
  have s1:∀σ:St,subV Tc (tErr n) (.str [116,121,112,101]) σ=some (.int 7):=fun _=>rfl
  have s2:∀σ:St,subV Tc (tErr n) (.str [100,97,116,97]) σ=some (.str n):=fun _=>rfl
  have c:∀σ:St,ev Tc C qC ρ σ=some (.bool false,σ):=fun σ=>by
    rw [qC,Aw,AW,jcmp (t:=false) (jsub (jl ht) rfl (s1 σ)) (jsub rfl rfl (tt_ch σ)) rfl];rfl
  have b:=b12 e av l ts (.str n) hs;have mm:=m12 e av l ts;generalize e.st (A av++[O.list l]++[O.list ts])=z at b mm ⊢;exact jife (c _) (jexp (jmet (jl h.t) mm (js1 (jsub (jl ht) rfl (s2 z))) b))
theorem qF_out (C:Calls) (σ:St) (s o:List Nat) (h:Fs false s ρ) (ht:lk ρ "token" = some (tOut o)) (ho:isSp o=false) (hb:s.length+o.length<=big):ex Tc C 1000000 0 qF ρ σ=some (.next (put ρ "signs" (.str (s++o))) σ):=by
  have et:tOut o=.dct [([116,121,112,101],.int 1),([100,97,116,97],.str o)]:=by unfold tOut;rw [ho];rfl
  rw [et] at ht;have s1:∀σ:St,subV Tc (.dct [([116,121,112,101],.int 1),([100,97,116,97],.str o)]) (.str [116,121,112,101]) σ=some (.int 1):=fun _=>rfl
  have s2:∀σ:St,subV Tc (.dct [([116,121,112,101],.int 1),([100,97,116,97],.str o)]) (.str [100,97,116,97]) σ=some (.str o):=fun _=>rfl
  have c:ev Tc C qC ρ σ=some (.bool true,σ):=by
    rw [qC,Aw,AW,jcmp (t:=true) (jsub (jl ht) rfl (s1 σ)) (jsub rfl rfl (tt_ch σ)) rfl,B3,AQ,CQ,AH,CN,jl h.i];rfl
  exact jift c (jasg (jbin (jl h.s) (jsub (jl ht) rfl (s2 _)) (Ag _ _ _ hb)))
end
end Mine
open PySem PySem.W PyProof.Rows
set_option maxRecDepth 100000
set_option maxHeartbeats 2000000
namespace Mine
theorem Eb {c:Nat} {l:List Nat} (h:(c==9 || c==10 || c==12 || c==13 || c==32)=false):isSp (c::l)=false:=by
  simp only [Bool.or_eq_false_iff,beq_eq_false_iff_ne] at h;obtain ⟨⟨⟨⟨h1,h2⟩,h3⟩,h4⟩,h5⟩:=h;have d:∀k:Nat,c≠k->scEq (.str (c::l)) (.str [k])=false:=fun k hk=>decide_eq_false (by intro q;exact hk (List.cons.inj q).1)
  unfold isSp;rw [List.any_cons,List.any_cons,List.any_cons,List.any_cons,List.any_cons,List.any_nil,d 9 h1,d 10 h2,d 12 h3,d 32 h5,d 13 h4];rfl
theorem ans_sp (cl:V) (ins:Bool) (u:List Nat):isSp (ansE cl ins u).1=false:=by
  unfold ansE
  split
  . exact Eb rfl
  . split
    . exact Eb rfl
    . rename_i x h;obtain ⟨l,h1,h2,hk⟩:=AJ h;have hv:=(Cu hk).2;unfold strV at hv;rw [Bool.and_eq_true] at hv;show isSp (outN ins u x (al u))=false;unfold outN
      split
      . exact Eb rfl
      . cases q:entV x with
        | nil=>rw [q] at hv;exact nomatch (show false=true from hv.2)
        | cons c r=>
          rw [q] at hv;rw [List.cons_append];exact Eb (by simpa using hv.2)
section
variable {ins:Bool} {ρ:L}
theorem q5_ok (C:Calls) (e:E) (ns:List (List Nat)) (o:List Nat) (l:List V) (hn:ns.length<=1) (ho:isSp o=false) (hb:o.length<=big) (hq:e.q=ns.map tErr++(if ins then [] else [tOut o])) (h:Fs ins (if ins then o else []) ρ) (rest:MS) :
    ∃ρ',Fs ins o ρ'/\ex Tc C 1000000 0 (.cons qz5 rest) ρ (e.st (A (if ins then o else [])++[.list l]++[.list []]))=ex Tc C 1000000 0 rest ρ' (e.st (A (if ins then o else [])++[.list l]++[.list (vS ns)])):=by
  generalize hav:(if ins then o else [])=av at h ⊢
  have ob:∀ts:List V,objL (e.st (A av++[.list l]++[.list ts])) 7=some e.q:=fun ts=>obj7 e _
  have start:∀ts,ex Tc C 1000000 0 (.cons qz5 rest) ρ (e.st (A av++[.list l]++[.list ts]))=kS Tc C 1000000 0 rest (forO (fb Tc C 1000000 0 (.loc "token") qF) 7 1000000 0 ρ (e.st (A av++[.list l]++[.list ts]))):=fun ts=>by
    rw [Ac,qz5,BE _ _ _ rfl,Ck,An,h.r,kv_s,Cn,a0_q,kv_s,kFr_o]
  have er:∀n ts (ρ:L),Fs ins av ρ->ts.length < big->fb Tc C 1000000 0 (.loc "token") qF (tErr n) ρ (e.st (A av++[.list l]++[.list ts]))=some (.next (put ρ "token" (tErr n)) (e.st (A av++[.list l]++[.list (ts++[.str n])]))):=fun n ts ρ h ht=>by
    rw [Cd,Ay,kL_s,qF_err C e av l ts av n (h.put _) Ab ht]
  rw [start]
  have out:ins=false->∀(ρ:L) σ,Fs ins av ρ->∃ρ',Fs ins o ρ'/\fb Tc C 1000000 0 (.loc "token") qF (tOut o) ρ σ=some (.next ρ' σ):=fun hi ρ σ h=>by
    subst hi;have hav:[]=av:=hav;subst hav;refine ⟨put (put ρ "token" (tOut o)) "signs" (.str ([]++o)),⟨(h.put _).toFr5.put _ _ (by decide) (by decide) (by decide),Ab,pk _ _ (h.put _).t (by decide)⟩,?_⟩
    rw [Cd,Ay,kL_s,qF_out C σ [] o (h.put _) Ab ho (by rw [List.length_nil,Nat.zero_add];exact hb)]
  cases hi:ins with
  | true=>
    subst hi;have hav:o=av:=hav;subst hav;rw [if_pos rfl,List.append_nil] at hq
    match ns,hn,hq with
    | [],_,hq=>
      exact ⟨ρ,h,by rw [show 1000000=999999+1 from rfl,BJ (ob []) (by rw [hq];rfl),kS_n];rfl⟩
    | [n],_,hq=>
      refine ⟨_,h.put (tErr n),?_⟩;rw [show 1000000=999998+1+1 from rfl,Bn (ob []) (v:=tErr n) (by rw [hq];rfl),er n [] ρ h (by decide),kB_n,BJ (ob _) (by rw [hq];rfl),kS_n];rfl
  | false=>
    rw [hi,if_neg Bool.false_ne_true] at hq
    match ns,hn,hq with
    | [],_,hq=>
      obtain ⟨ρ',h',e'⟩:=out hi ρ (e.st (A av++[.list l]++[.list []])) h;rw [hi] at h';refine ⟨ρ',h',?_⟩;rw [show 1000000=999998+1+1 from rfl,Bn (ob []) (v:=tOut o) (by rw [hq];rfl),e',kB_n,BJ (ob _) (by rw [hq];rfl),kS_n];rfl
    | [n],_,hq=>
      obtain ⟨ρ',h',e'⟩:=out hi (put ρ "token" (tErr n)) (e.st (A av++[.list l]++[.list ([]++[.str n])])) (h.put _);rw [hi] at h';refine ⟨ρ',h',?_⟩;rw [show 1000000=999997+1+1+1 from rfl,Bn (ob []) (v:=tErr n) (by rw [hq];rfl),er n [] ρ h (by decide),kB_n,Bn (ob _) (v:=tOut o) (by rw [hq];rfl),e',kB_n,BJ (ob _) (by rw [hq];rfl),kS_n];rfl
theorem q6_ok {t p} (e:E) (a:At t p e.r) (tl:St) (s:List Nat) (h:Fs ins s ρ) (hs:s.length<=1000) (hr:e.row.length < big) (rest:MS) :
    ∃(r':R) (ws:List V),At t (p+((t.drop p).takeWhile nA).length) r'/\r'.fl=flE/\
      ex Tc (Cc 8) 1000000 0 (.cons qz6 rest) ρ (e.st tl)=ex Tc (Cc 8) 1000000 0 rest ρ (r'.st (.list (e.row++[.tup [.str (s++(t.drop p).takeWhile nA),.obj 12]])::.list e.q::(tl++[.list ws]))):=by
  have hb:big=16777216:=rfl;obtain ⟨r',ws,a',f',e'⟩:=a.on.until 4 (.list e.row::.list e.q::tl);rw [show 4+4=8 from rfl] at e';have mp:getM Tc (.obj 6) "append" (e.r.on.st (.list e.row::.list e.q::tl))=some (.bm (.obj 6) "append"):=FP e.r.on [] (.list e.q::tl) e.row;have bp:=fun v=>D5 r' [] (.list e.q::tl++[.list (ws.map V.str)]) e.row v hr
  have hl:((t.drop p).takeWhile nA).length<=600:=by
    have:=FR nA (t.drop p)
    have:=a.tl
    rw [List.length_drop] at *;omega
  refine ⟨r',ws.map V.str,a',f',?_⟩
  have ea:ev Tc (Cc 8) q6E ρ (e.r.on.st (.list e.row::.list e.q::tl))=some (.tup [.str (s++(t.drop p).takeWhile nA),.obj 12],r'.st (.list e.row::.list e.q::tl++[.list (ws.map V.str)])):=by
    exact jtup (jbin (jl h.s) (jmet (Ak (jl h.r) (Ap _ _)) (m1_cu _ _) rfl e') (Ag _ _ _ (by omega))) (jl h.t)
  exact jexp (jmet (jl h.w) mp (js1 ea) (bp _))
theorem cond_t {t p} {r:R} (a:At t p r) (h:Fr5 ins ρ) (tl:St) (hc:t[p]? = some 38):∃r1:R,At t (p+1) r1/\r1.fl=r.fl/\wc Tc (Cc 8) qCond ρ (r.st tl)=some (true,r1.st tl):=by
  obtain ⟨r1,a1,f1,c1,c2,e⟩:=a.char 4 tl hc;rw [show 4+4=8 from rfl] at e;refine ⟨r1.fwd,a1.adv c1 c2,f1,?_⟩;have q:ev Tc (Cc 8) qCond ρ (r.st tl)=some (.bool true,r1.fwd.st tl):=jcmp (jmet (Ak (jl h.r) (Ap _ _)) (Cr _ _) rfl e) rfl rfl;rw [EH,q];rfl
theorem cond_f {t p} {r:R} (a:At t p r) (h:Fr5 ins ρ) (tl:St) (hc:p=t.length):∃r1:R,wc Tc (Cc 8) qCond ρ (r.st tl)=some (false,r1.st tl):=by
  obtain ⟨r1,a1,f1,e⟩:=a.eof 4 tl hc;rw [show 4+4=8 from rfl] at e;refine ⟨r1,?_⟩;have q:ev Tc (Cc 8) qCond ρ (r.st tl)=some (.bool false,r1.st tl):=jcmp (jmet (Ak (jl h.r) (Ap _ _)) (Cr _ _) rfl e) rfl rfl;rw [EH,q];rfl
end
noncomputable def flt (segs:List (List Nat)):List Nat:=(segs.map (38::·)).flatten
theorem nx_flt (segs:List (List Nat)):Nx (flt segs):=by
  cases segs with
  | nil=>exact .inl rfl
  | cons w s=>exact .inr ⟨_,rfl⟩
noncomputable def okS (w:List Nat):Prop:=w≠[]/\∀c∈w,c≠38
theorem RowIs.len {row tl dn} (h:RowIs row tl dn):row.length=dn.length:=by
  rcases h with h | ⟨d,o,ns,h1,h2,_⟩
  . rw [h,List.length_map]
  . rw [h1,h2,List.length_append,List.length_append,List.length_map];rfl
theorem body_rd {t:List Nat} {ins:Bool} {p:Nat} {r:R} {w:List Nat} {segs:List (List Nat)} {dn} {ρ:L} (a:At t p r) (f:F1 r.fl) (h:Fr5 ins ρ) (hw:okS w) (hd:t.drop p=w++flt segs) (hl:dn.length < 1000) :
    ∃(ρ':L) (r':R) (row':List V) (tl':St),ex Tc (Cc 8) 1000000 0 qB ρ (r.st [.list (dn.map dv)])=some (.next ρ' (r'.st (.list row'::tl')))/\At t (p+w.length) r'/\F1 r'.fl/\Fr5 ins ρ'/\RowIs row' tl' (dn++[rdW ins w]):=by
  have hb:big=16777216:=rfl;obtain ⟨x,e0⟩:=q0_ok (Cc 8) r f h (dn.map dv) (.cons qz1 (.cons qz2 (.cons qz3 (.cons qz4 (.cons qz5 (.cons qz6 .nil))))));have e1:=q1_ok (Cc 8) r x h (dn.map dv) (.cons qz2 (.cons qz3 (.cons qz4 (.cons qz5 (.cons qz6 .nil)))));obtain ⟨e,l,a2,w2,k2,e2⟩:=q2_ok a h (dn.map dv) (.cons qz3 (.cons qz4 (.cons qz5 (.cons qz6 .nil))));have sg:=ans_seg (nx_flt segs) hw.1 (cl5 ins) ins;rw [hd,sg.1,sg.2] at k2;rw [hd,sg.1] at a2 e2;have hln:=ET (cl5 ins) ins w;have hle:=ans_le (cl5 ins) ins w
  have hwl:w.length<=600:=by
    have h1:=congrArg List.length hd;rw [List.length_drop,List.length_append] at h1
    have:=a.tl
    omega
  have hsp:=ans_sp (cl5 ins) ins w;have e3:=q3_ok (Cc 8) e (if ins then (ansE (cl5 ins) ins w).1 else []) [.list l] h (.cons qz4 (.cons qz5 (.cons qz6 .nil)))
  have hF:Fs ins (if ins then (ansE (cl5 ins) ins w).1 else []) (put (put ρ "signs" (.str (if ins then (ansE (cl5 ins) ins w).1 else []))) "told" (.obj 12)):=⟨(h.put _ _ (by decide) (by decide) (by decide)).put _ _ (by decide) (by decide) (by decide),pk _ _ Ab (by decide),Ab⟩
  have e4:=q4_ok (ρ:=put ρ "signs" (.str (if ins then (ansE (cl5 ins) ins w).1 else []))) (Cc 8) e (if ins then (ansE (cl5 ins) ins w).1 else []) l (.cons qz5 (.cons qz6 .nil))
  obtain ⟨ρ5,h5,e5⟩:=q5_ok (Cc 8) e (nsE (cl5 ins) w) (ansE (cl5 ins) ins w).1 l (nsE_le _ _) hsp (by omega) k2 hF (.cons qz6 .nil)
  obtain ⟨r',ws,a6,f6,e6⟩:=q6_ok e a2 (A (if ins then (ansE (cl5 ins) ins w).1 else [])++[.list l]++[.list (vS (nsE (cl5 ins) w))]) (ansE (cl5 ins) ins w).1 h5 (by omega) (by rw [w2,List.length_map];exact Nat.le_trans (by assumption) (by decide)) .nil
  have hdr:t.drop (p+(ansE (cl5 ins) ins w).2.2)=(w++flt segs).drop (ansE (cl5 ins) ins w).2.2:=by rw [<- hd,List.drop_drop]
  rw [hdr,tw_seg (nx_flt segs) hw.2 _ hle] at a6 e6;rw [w2] at e6;refine ⟨ρ5,r',_,.list e.q::(A (if ins then (ansE (cl5 ins) ins w).1 else [])++[.list l]++[.list (vS (nsE (cl5 ins) w))]++[.list ws]),?_,?_,?_,h5.toFr5,.inr ⟨dn,_,_,rfl,rfl,?_⟩⟩
  . rw [qB,e0,e1,e2,e3,e4,e5,e6,B1]
  . rw [List.length_drop,show p+(ansE (cl5 ins) ins w).2.2+(w.length - (ansE (cl5 ins) ins w).2.2)=p+w.length by omega] at a6
    exact a6
  . rw [f6];exact .inr ⟨_,_,rfl⟩
  . rfl
theorem Hz {t:List Nat} {ins:Bool}:∀(segs:List (List Nat)) (p:Nat) (r:R) (row:List V) (tl:St) (dn) (ρ:L) (f:Nat),At t p r->F1 r.fl->RowIs row tl dn->Fr5 ins ρ->t.drop p=flt segs->(∀w∈segs,okS w)->dn.length+segs.length < 1000->
    ∃(ρ':L) (r':R) (row':List V) (tl':St),whlL (wc Tc (Cc 8) qCond) (wb Tc (Cc 8) 1000000 0 (.gc 7 qB)) (f+segs.length+1) ρ (r.st (.list row::tl))=some (.next ρ' (r'.st (.list row'::tl')))/\Fr5 ins ρ'/\RowIs row' tl' (dn++segs.map (rdW ins))
  | [],p,r,row,tl,dn,ρ,f,a,hf,hr,h,hd,hs,hl=>by
    have hp:p=t.length:=by
      have:=a.ple
      have:=List.drop_eq_nil_iff.mp hd
      exact Nat.le_antisymm (by assumption) (by assumption)
    obtain ⟨r1,e⟩:=cond_f a h (.list row::tl) hp;exact ⟨ρ,r1,row,tl,Ds e,h,by rw [List.map_nil,List.append_nil];exact hr⟩
  | w::segs,p,r,row,tl,dn,ρ,f,a,hf,hr,h,hd,hs,hl=>by
    have hd:t.drop p=38::(w++flt segs):=hd
    have hc:t[p]? = some 38:=by
      have:=congrArg (fun l:List Nat=>l[0]?) hd
      rw [List.getElem?_drop] at this;exact this
    have hd1:t.drop (p+1)=w++flt segs:=by
      have:=congrArg (List.drop 1) hd
      rw [List.drop_drop] at this;exact this
    obtain ⟨r1,a1,f1,e1⟩:=cond_t a h (.list row::tl) hc;rw [List.length_cons] at hl;have hg:=gcS_ok r1 row tl;rw [hr.frz r1 7 3 (Nat.le_refl _)] at hg;obtain ⟨ρ',r',row',tl',e2,a2,f2,h2,k2⟩:=body_rd (dn:=dn) (a1.flw (r1.fl.map fun e:String×V=>(e.1,frz (r1.st (.list row::tl)) 7 6 e.2))) (F1.map (f:=r1.fl) (by rw [f1];exact hf) (frz (r1.st (.list row::tl)) 7 6)) (h.gc (r1.st (.list row::tl))) (hs w List.mem_cons_self) hd1 (by exact Nat.lt_of_le_of_lt (Nat.le_add_right _ _) (by assumption))
    have hd2:t.drop (p+1+w.length)=flt segs:=by rw [<- List.drop_drop,hd1,List.drop_left]
    obtain ⟨ρ3,r3,row3,tl3,e3,h3,k3⟩:=Hz segs (p+1+w.length) r' row' tl' (dn++[rdW ins w]) ρ' f a2 f2 k2 h2 hd2 (fun v hv=>hs v (List.mem_cons_of_mem _ hv)) (by rw [List.length_append,List.length_singleton];omega)
    refine ⟨ρ3,r3,row3,tl3,?_,h3,?_⟩
    . rw [List.length_cons,show f+(segs.length+1)+1=(f+segs.length+1)+1 from rfl,CT e1,CS,ex_gc,Nat.zero_add,hg,e2,kB_n,e3]
    . rw [List.append_assoc] at k3;exact k3
end Mine
open PySem PySem.W PyProof.Rows
set_option maxRecDepth 100000
set_option maxHeartbeats 2000000
namespace Mine
noncomputable def R0 (t:List Nat):R:=⟨t,0,[],0,0,0,0,0,[("currentToken",.none)]⟩
theorem ini_ok (n:Nat) (t:List Nat):Cc (n+7) 261 [.obj 0,.str t] [] [.inst 762 []]=some (.none,(R0 t).st []):=by kernel_rfl
theorem data_at (T:List Nat) (k:Nat) (hk2:k<=1000) (ht:T.length<=600) (hg:∀c∈T,okC c=true):RdOk (R0 T) k/\At T 0 (rdR (R0 T) k):=by
  have hh:half=1000000000:=rfl;have hb:big=16777216:=rfl;have hdo:dataOf (R0 T) k=T.take k:=rfl;have hl:((dataOf (R0 T) k).length:Int)=(min k T.length:Nat):=by rw [hdo,List.length_take]
  have he:=er_le (dataOf (R0 T) k);have hN:(dataOf (R0 T) k).length=min k T.length:=by rw [hdo,List.length_take]
  refine ⟨⟨Int.le_refl _,by show (0:Int)<=half;exact Int.natCast_nonneg _,by show 0<=big;exact Nat.zero_le _,Int.le_refl _,by exact Int.natCast_nonneg _,by show (0:Int)+k<=half;omega,by show T.length<=4000;exact Nat.le_trans (by assumption) (by decide),hg,by show 0<=1000000;exact Nat.zero_le _⟩,⟨rfl,?_,?_,rfl,Int.le_refl _,?_,Nat.zero_le _,Nat.zero_le _,?_,rfl,rfl,?_,ht,hg,?_⟩⟩
  . show (0:Int)<=0+((dataOf (R0 T) k).length:Int);exact Int.add_nonneg (Int.le_refl _) (Int.natCast_nonneg _)
  . show (0:Int)+((dataOf (R0 T) k).length:Int)<=_;omega
  . show (0:Int)<=((dataOf (R0 T) k).length:Int);exact Int.natCast_nonneg _
  . show T.drop 0=dataOf (R0 T) k++T.drop ((0:Int)+((dataOf (R0 T) k).length:Int)).toNat;rw [hdo,List.drop_zero,Int.zero_add,Int.toNat_natCast,List.length_take]
    by_cases q:k<=T.length
    . rw [Nat.min_eq_left q,List.take_append_drop]
    . rw [Nat.min_eq_right (by omega),List.drop_length,List.append_nil,List.take_of_length_le (by omega)]
  . show 0+erC (dataOf (R0 T) k)+(T.length - ((0:Int)+((dataOf (R0 T) k).length:Int)).toNat)<=600;omega
  . show (dataOf (R0 T) k).length<=1000;omega
theorem FV (ins:Bool) (segs:List (List Nat)) (k:Nat) (hk:k<=1000) (hl:(flt segs).length<=600) (hg:∀c∈flt segs,okC c=true) (hs:∀w∈segs,okS w) (hn:segs.length < 900) :
    Cc 9 806 [.str (flt segs),.bool ins,.int k] [] []=some (.lst ((segs.map (rdW ins)).map dv),[]):=by
  generalize hT:flt segs=T at hl hg ⊢;have hf:Cc 9 806 [.str T,.bool ins,.int k] [] []=fcall Tc (Cc 8) 1000000 false ms806 [("text",.str T),("inside",.bool ins),("size",.int k)] []:=rfl;have g:Tc.clsG "HTMLTokenizer" = some (762,261):=rfl;have e0:=ini_ok 1 T;rw [show 1+7=8 from rfl] at e0;obtain ⟨rk,ak⟩:=data_at T k hk hl hg;have e1:=rd2_ok 5 (R0 T) [] (k:Int) rk;rw [show 5+3=8 from rfl] at e1;have hF:Fr5 ins (put (put [("text",.str T),("inside",.bool ins),("size",.int k)] "reader" (.obj 0)) "row" (.obj 6)):=⟨rfl,rfl,rfl⟩;obtain ⟨ρ',r',row',tl',e2,h2,k2⟩:=Hz (t:=T) (ins:=ins) segs 0 (rdR (R0 T) k) [] [] [] _ (999999 - segs.length) ak (.inl ⟨_,rfl⟩) (.inl rfl) hF (by rw [List.drop_zero,hT]) hs (by rw [List.length_nil];omega)
  rw [show 999999 - segs.length+segs.length+1=1000000 by omega] at e2
  have ew:ex Tc (Cc 8) 1000000 0 (.whl qCond (.gc 7 qB)) (put (put [("text",.str T),("inside",.bool ins),("size",.int k)] "reader" (.obj 0)) "row" (.obj 6)) ((rdR (R0 T) k).st [.list []])=_:=e2
  have c0:ex Tc (Cc 8) 1000000 0 (.asg (.loc "reader") (.new "HTMLTokenizer" (.cons (.loc "text") .nil))) [("text",.str T),("inside",.bool ins),("size",.int k)] []=some (.next (put [("text",.str T),("inside",.bool ins),("size",.int k)] "reader" (.obj 0)) ((R0 T).st [])):=by
    rw [CP,ev_new,g,kNew_s,evsK,An,AN,kv_s,Bc,evsN,Bv,kNew2_s,List.length_nil,List.nil_append,e0,kNew3_s,kAs_s,Ay,FB];rfl
  have c1:ex Tc (Cc 8) 1000000 0 (.expr (.met (.attr (.loc "reader") "stream") "readChunk" (.cons (.loc "size") .nil) [] .nil)) (put [("text",.str T),("inside",.bool ins),("size",.int k)] "reader" (.obj 0)) ((R0 T).st [])=some (.next (put [("text",.str T),("inside",.bool ins),("size",.int k)] "reader" (.obj 0)) ((rdR (R0 T) k).st [])):=by
    exact congrArg (kX _) (jmet (Ak (jl rfl) (Ap _ _)) (m1_rc _ _) (js1 (jl rfl)) e1)
  have c2:∀ρ,ex Tc (Cc 8) 1000000 0 (.asg (.loc "row") (.lst true .nil)) ρ ((rdR (R0 T) k).st [])=some (.next (put ρ "row" (.obj 6)) ((rdR (R0 T) k).st [.list []])):=fun ρ=>rfl
  rw [hf,Ax,ms806_eq,List.length_nil,Ac,c0,kS_n,Ac,c1,kS_n,Ac,c2,kS_n,Ac,ew,kS_n,Ac,Bb,An,h2.w,kv_s,D0,kS_r,kF_rf];have fz:=k2.frz r' 0 2 (Nat.zero_le _);rw [List.nil_append] at fz
  have:frz (r'.st (.list row'::tl')) 0 6 (.obj 6)=.lst (row'.map (frz (r'.st (.list row'::tl')) 0 5)):=rfl
  rw [this,fz];rfl
end Mine
open PySem PySem.W PyProof.Rows
set_option maxRecDepth 100000
set_option maxHeartbeats 2000000
namespace Mine
noncomputable def lnF (w:List Nat) (b k:List Nat):List Nat:=if w.take k.length=k/\b.length < k.length then k else b
noncomputable def lng (w:List Nat):List Nat:=kyN.foldl (lnF w) []
theorem HA (w:List Nat):∀(ks:List (List Nat)) (b:List Nat),(∀k∈ks,k∈kyN)->(b=[]∨(b∈kyN/\b <+: w))->(ks.foldl (lnF w) b=[]∨(ks.foldl (lnF w) b∈kyN/\ks.foldl (lnF w) b <+: w))/\b.length<=(ks.foldl (lnF w) b).length/\∀k∈ks,k <+: w->k.length<=(ks.foldl (lnF w) b).length
  | [],b,_,h=>⟨h,Nat.le_refl _,fun _ h=>nomatch h⟩
  | k::ks,b,hk,h=>by
    have hp:w.take k.length=k ↔ k <+: w:=by rw [List.prefix_iff_eq_take];exact eq_comm
    have h1:lnF w b k=[]∨(lnF w b k∈kyN/\lnF w b k <+: w):=by
      unfold lnF
      split
      . rename_i q;exact .inr ⟨hk k List.mem_cons_self,hp.mp q.1⟩
      . exact h
    have h2:b.length<=(lnF w b k).length/\(k <+: w->k.length<=(lnF w b k).length):=by
      unfold lnF
      split
      . rename_i q;exact ⟨Nat.le_of_lt q.2,fun _=>Nat.le_refl _⟩
      . rename_i q;refine ⟨Nat.le_refl _,fun z=>?_⟩
        apply Nat.le_of_not_lt;exact fun y=>q ⟨hp.mpr z,y⟩
    obtain ⟨g1,g2,g3⟩:=HA w ks (lnF w b k) (fun j hj=>hk j (List.mem_cons_of_mem _ hj)) h1
    refine ⟨g1,Nat.le_trans h2.1 g2,fun j hj z=>?_⟩
    rcases List.mem_cons.mp hj with rfl | hj
    . exact Nat.le_trans (h2.2 z) g2
    . exact g3 j hj z
theorem BK (w:List Nat):Bst w (lng w):=by
  obtain ⟨a,_,c⟩:=HA w kyN [] (fun _ h=>h) (.inl rfl)
  exact ⟨a,c⟩
noncomputable def clN:List (List Nat):=kyN.filter fun k=>k.getLast?==some 59
theorem C2:clN.length=27:=by decide +kernel
theorem AC {n:List Nat} (h:n∈clN):n∈kyN:=(List.mem_filter.mp h).1
noncomputable def okH (c:Nat):Bool:=!stopB .none (.str [c])&&!stopB (.str [34]) (.str [c])
noncomputable def hdB (k:List Nat):Bool:=match k with | c::_=>okH c | []=>false
theorem tb1:(clN.all fun n=>kyN.all fun k=>!(n.isPrefixOf k) || decide (k=n))=true:=by decide +kernel
theorem tb2:(kyN.all fun k=>!wo k || (clN.contains (k++[59])&&decide (entV (k++[59])=entV k)))=true:=by decide +kernel
theorem tb3:(clN.all fun n=>decide (3<=n.length)&&(decide (n.dropLast++[59]=n)&&(wo n.dropLast&&(!wo n&&hdB n.dropLast))))=true:=by decide +kernel
theorem tb4:(clN.all fun n=>kyN.all fun x=>!(x.isPrefixOf n.dropLast&&decide (x.length < n.dropLast.length)) || !decide (entV x++n.dropLast.drop x.length=entV n))=true:=by decide +kernel
theorem tb5:(clN.all fun n=>kyN.all fun x=>!(n.dropLast.isPrefixOf x&&decide (n.dropLast.length < x.length)) || !decide (entV x=entV n++x.drop n.dropLast.length))=true:=by decide +kernel
theorem tb6:(kyN.all fun k=>hdB k&&k.all okC)=true:=by decide +kernel
noncomputable def ampN:List Nat:=[97,109,112,59]
theorem tb7:clN.contains ampN=true/\entV ampN=[38]:=by decide +kernel
structure Cl (n:List Nat):Prop where
  l:3<=n.length
  e:n.dropLast++[59]=n
  w:wo n.dropLast=true
  f:wo n=false
  h:hdB n.dropLast=true
theorem Dw {n:List Nat} (h:n∈clN):Cl n:=by
  have:=List.all_eq_true.mp tb3 n h
  simp only [Bool.and_eq_true,decide_eq_true_eq,Bool.not_eq_true'] at this;exact ⟨this.1,this.2.1,this.2.2.1,this.2.2.2.1,this.2.2.2.2⟩
theorem FW {k r:List Nat} (h:hdB k=true):hdB (k++r)=true:=by
  cases k with
  | nil=>exact nomatch (show false=true from h)
  | cons c k=>exact h
theorem hd_ne {k:List Nat} (h:hdB k=true):k≠[]:=by
  rintro rfl
  exact nomatch (show false=true from h)
theorem HB {w:List Nat} (h:hdB w=true) (ins:Bool):stopB (cl5 ins) (wA w 0)=false:=by
  cases w with
  | nil=>exact nomatch (show false=true from h)
  | cons c w=>
    have h:okH c=true:=h;unfold okH at h;rw [Bool.and_eq_true,Bool.not_eq_true',Bool.not_eq_true'] at h;cases ins with
    | true=>exact h.2
    | false=>exact h.1
theorem kn_hd {k:List Nat} (h:k∈kyN):hdB k=true:=by
  have:=List.all_eq_true.mp tb6 k h
  rw [Bool.and_eq_true] at this;exact this.1
theorem Dx {x a b:List Nat} (h:x <+: a++b):x <+: a∨a <+: x:=by
  by_cases q:x.length<=a.length
  . exact .inl (List.prefix_of_prefix_length_le h (List.prefix_append _ _) q)
  . exact .inr (List.prefix_of_prefix_length_le (List.prefix_append _ _) h (by omega))
theorem bst_cl {n:List Nat} (h:n∈clN) (t:List Nat):Bst (n++t) n:=by
  refine ⟨.inr ⟨AC h,List.prefix_append _ _⟩,fun k hk hp=>?_⟩
  rcases Dx hp with q | q
  . exact q.length_le
  . have:=List.all_eq_true.mp (List.all_eq_true.mp tb1 n h) k hk
    rw [List.isPrefixOf_iff_prefix.mpr q,Bool.not_true,Bool.false_or,decide_eq_true_eq] at this;rw [this];exact Nat.le_refl _
theorem cl_ne {n:List Nat} (h:n∈clN):n≠[]:=fun q=>by
  have:=(Dw h).l
  rw [q] at this;exact absurd this (by decide)
theorem Ec {n:List Nat} (h:wo n=false):toldS n=[]:=by unfold toldS;rw [h];rfl
theorem rd_cl {n:List Nat} (h:n∈clN) (t:List Nat) (ins:Bool):rdW ins (n++t)=(entV n++t,[]):=by
  have c:=Dw h;rw [EU (bst_cl h t) (HB (FW (kn_hd (AC h))) ins)];unfold rdB;rw [if_neg (cl_ne h),c.f,Bool.false_and,if_neg Bool.false_ne_true,List.drop_left,Ec c.f]
theorem rd_is {w:List Nat} (h:hdB w=true) (ins:Bool):rdW ins w=rdB ins w (lng w):=EU (BK w) (HB h ins)
noncomputable def tws (ins:Bool) (w:List Nat):List Nat:=if lng w=[] then ampN++w else if wo (lng w)=false then w else if (ins&&closeB (wA w (lng w).length))=true then ampN++w else lng w++59::w.drop (lng w).length
noncomputable def twt (w:List Nat):List (List Nat):=if lng w=[] then [sNam] else toldS (lng w)
theorem rd_told {w:List Nat} (h:hdB w=true) (ins:Bool):(rdW ins w).2=twt w:=by
  rw [rd_is h];unfold rdB twt
  split
  . rfl
  . split<;>rfl
theorem amp_cl:ampN∈clN:=List.contains_iff_mem.mp tb7.1
theorem rd_amp (w:List Nat) (ins:Bool):rdW ins (ampN++w)=(38::w,[]):=by
  rw [rd_cl amp_cl,tb7.2];rfl
theorem rd_twin {w:List Nat} (h:hdB w=true) (ins:Bool):rdW ins (tws ins w)=((rdW ins w).1,[]):=by
  have b:=BK w;rw [rd_is h];unfold tws rdB
  by_cases q:lng w=[]
  . rw [if_pos q,if_pos q,rd_amp]
  . rw [if_neg q,if_neg q];have hk:lng w∈kyN:=(b.1.resolve_left q).1;cases hw:wo (lng w) with
    | false=>
      rw [if_pos rfl,rd_is h];unfold rdB;rw [if_neg q,hw,Bool.false_and,if_neg Bool.false_ne_true,Ec hw]
    | true=>
      rw [if_neg (by decide),Bool.true_and]
      cases hc:ins&&closeB (wA w (lng w).length) with
      | true=>rw [if_pos rfl,if_pos rfl,rd_amp]
      | false=>
        have z:=List.all_eq_true.mp tb2 _ hk;rw [hw,Bool.not_true,Bool.false_or,Bool.and_eq_true,decide_eq_true_eq] at z;rw [if_neg Bool.false_ne_true,if_neg Bool.false_ne_true,show lng w++59::w.drop (lng w).length=(lng w++[59])++w.drop (lng w).length by rw [List.append_assoc];rfl,rd_cl (List.contains_iff_mem.mp z.1),z.2]
theorem rd_kept {n:List Nat} (hn:n∈clN) (t:List Nat) (ins:Bool):decide ((rdW ins (n.dropLast++t)).1=entV n++t)=(decide (lng (n.dropLast++t)=n.dropLast)&&!(ins&&closeB (wA t 0))):=by
  have c:=Dw hn;have b:=BK (n.dropLast++t);have hv:=BI (Bm (AC hn));have hl:=congrArg List.length c.e;rw [List.length_append,List.length_singleton] at hl;have h3:=c.l
  have far:decide (38::(n.dropLast++t)=entV n++t)=false:=decide_eq_false fun q=>by
    have:=congrArg List.length q
    rw [List.length_cons,List.length_append,List.length_append] at this;omega
  rw [rd_is (FW c.h)];generalize hx:lng (n.dropLast++t)=x at b;unfold rdB
  by_cases q:x=[]
  . rw [if_pos q,far,decide_eq_false (fun z=>hd_ne c.h (z.symm.trans q)),Bool.false_and]
  . rw [if_neg q];have hk:x∈kyN:=(b.1.resolve_left q).1
    by_cases e:x=n.dropLast
    . rw [e,decide_eq_true rfl,Bool.true_and,c.w,Bool.true_and]
      have hw:wA (n.dropLast++t) n.dropLast.length=wA t 0:=by
        unfold wA;rw [List.getElem?_append_right (Nat.le_refl _),Nat.sub_self]
      have hkb:n.dropLast∈kyN:=e▸hk;have z:=List.all_eq_true.mp tb2 _ hkb;rw [c.w,Bool.not_true,Bool.false_or,Bool.and_eq_true,decide_eq_true_eq,c.e] at z;rw [hw];cases hc:ins&&closeB (wA t 0) with
      | true=>rw [if_pos rfl];exact far
      | false=>rw [if_neg Bool.false_ne_true,List.drop_left,<- z.2,decide_eq_true rfl];rfl
    . rw [decide_eq_false e,Bool.false_and]
      by_cases hc:(wo x&&(ins&&closeB (wA (n.dropLast++t) x.length)))=true
      . rw [if_pos hc];exact far
      . rw [if_neg hc];apply decide_eq_false;show ¬entV x++(n.dropLast++t).drop x.length=entV n++t;intro z;rcases Dx b.pre with p | p
        . have hlt:x.length < n.dropLast.length:=by
            apply Nat.lt_of_le_of_ne p.length_le;intro y;exact e (p.eq_of_length y)
          rw [List.drop_append_of_le_length (Nat.le_of_lt hlt),<- List.append_assoc] at z;have y:=List.all_eq_true.mp (List.all_eq_true.mp tb4 n hn) x hk;rw [List.isPrefixOf_iff_prefix.mpr p,decide_eq_true hlt,List.append_cancel_right z,decide_eq_true rfl] at y;exact nomatch (show false=true from y)
        . have hlt:n.dropLast.length < x.length:=by
            apply Nat.lt_of_le_of_ne p.length_le;intro y;exact e (p.eq_of_length y).symm
          obtain ⟨tb1,ht1⟩:=p;obtain ⟨tb2,ht2⟩:=b.pre
          have ht:t=tb1++tb2:=by
            rw [<- ht1,List.append_assoc] at ht2;exact (List.append_cancel_left ht2).symm
          have hd:(n.dropLast++t).drop x.length=tb2:=by rw [<- ht2,List.drop_left]
          rw [hd,ht,<- List.append_assoc] at z;have y:=List.all_eq_true.mp (List.all_eq_true.mp tb5 n hn) x hk;have hxd:x.drop n.dropLast.length=tb1:=by rw [<- ht1,List.drop_left]
          rw [List.isPrefixOf_iff_prefix.mpr ⟨tb1,ht1⟩,decide_eq_true hlt,hxd,List.append_cancel_right z,decide_eq_true rfl] at y;exact nomatch (show false=true from y)
end Mine
open PySem PySem.W PyProof.Rows
set_option maxRecDepth 100000
set_option maxHeartbeats 2000000
namespace Mine
theorem HC (a b:Nat):strLt [a] [b]=decide (a < b):=by
  unfold strLt
  by_cases h:a < b
  . rw [decide_eq_true h,decide_eq_true];exact List.Lex.rel h
  . rw [decide_eq_false h,decide_eq_false];intro k;cases k with
    | rel k=>exact h k
    | cons k=>cases k
theorem al_any (c:Nat):alV.any (scEq (.str [c]))=(decide (65<=c/\c<=90) || decide (97<=c/\c<=122)):=by
  by_cases h:c < 128
  . have:∀c:Fin 128,alV.any (scEq (.str [c.1]))=(decide (65<=c.1/\c.1<=90) || decide (97<=c.1/\c.1<=122)):=by decide +kernel
    exact this ⟨c,h⟩
  . rw [decide_eq_false (by omega),decide_eq_false (by omega),Bool.or_false]
    refine List.any_eq_false.mpr fun v hv=>?_
    have key:∀v∈alV,∀c,scEq (.str [c]) v=true->c < 128:=by
      have:(alV.all fun v=>match v with | .str [k]=>decide (k < 128) | _=>false)=true:=by decide +kernel
      intro v hv c e
      have:=List.all_eq_true.mp this v hv
      split at this
      . have e:decide ([c]=[_])=true:=e
        have:=of_decide_eq_true this
        have e:=of_decide_eq_true e;cases e;exact this
      . cases this
    exact fun e=>h (key v hv c e)
theorem dg_any (c:Nat):dgV.any (scEq (.str [c]))=decide (48<=c/\c<=57):=by
  by_cases h:c < 128
  . have:∀c:Fin 128,dgV.any (scEq (.str [c.1]))=decide (48<=c.1/\c.1<=57):=by decide +kernel
    exact this ⟨c,h⟩
  . rw [decide_eq_false (by omega)]
    refine List.any_eq_false.mpr fun v hv=>?_
    have key:∀v∈dgV,∀c,scEq (.str [c]) v=true->c < 128:=by
      have:(dgV.all fun v=>match v with | .str [k]=>decide (k < 128) | _=>false)=true:=by decide +kernel
      intro v hv c e
      have:=List.all_eq_true.mp this v hv
      split at this
      . have e:decide ([c]=[_])=true:=e
        have:=of_decide_eq_true this
        have e:=of_decide_eq_true e;cases e;exact this
      . cases this
    exact fun e=>h (key v hv c e)
noncomputable def bB (b:List Nat) (p q:Nat):Bool:=(!strLt b [p])&&(!strLt [q] b)
theorem bB_1 (c p q:Nat):bB [c] p q=decide (p<=c/\c<=q):=by
  unfold bB;rw [HC,HC]
  by_cases h:p<=c/\c<=q
  . rw [decide_eq_true h,decide_eq_false (by omega),decide_eq_false (by omega)];rfl
  . rw [decide_eq_false h]
    by_cases h1:c < p
    . rw [decide_eq_true h1];rfl
    . rw [decide_eq_false h1,decide_eq_true (by omega)];rfl
theorem close_eq (u:List Nat) (l:Nat):closeB (wA u l)=(decide ((u.drop l).take 1=[61]) || (bB ((u.drop l).take 1) 48 57 || (bB ((u.drop l).take 1) 65 90 || bB ((u.drop l).take 1) 97 122))):=by
  unfold wA;cases h:u[l]? with
  | none=>
    rw [List.drop_of_length_le (List.getElem?_eq_none_iff.mp h),List.take_nil];decide +kernel
  | some c=>
    rw [List.drop_eq_getElem_cons (List.getElem?_eq_some_iff.mp h).1,(List.getElem?_eq_some_iff.mp h).2,List.take_succ_cons,List.take_zero,bB_1,bB_1,bB_1];show (alV.any (scEq (.str [c])) || (dgV.any (scEq (.str [c])) || decide ([c]=[61])))=_
    rw [al_any,dg_any];generalize decide ([c]=[61])=x1;generalize decide (48<=c/\c<=57)=x2;generalize decide (65<=c/\c<=90)=x3;generalize decide (97<=c/\c<=122)=x4
    ac_rfl
theorem ms780_eq:ms780=(.cons (.ret (.boo .Or (.cons (.cmp .Eq (.loc "sign") (.cst (.str [61]))) (.cons (aRg 48 57) (.cons (aRg 65 90) (.cons (aRg 97 122) .nil)))))) .nil):=rfl
section
variable {C:Calls} {ρ:L} {σ:St}
theorem aR_ok {b:List Nat} (h:lk ρ "sign" = some (.str b)) (p q:Nat):ev Tc C (aRg p q) ρ σ=some (.bool (bB b p q),σ):=by
  rw [aRg,DR,AL,Fz,jl h,Fy,show cmpV Tc .LtE (.str [p]) (.str b) σ=some (!strLt b [p]) from rfl];unfold bB;cases strLt b [p] with
  | true=>rfl
  | false=>
    rw [Bool.not_false,Fx,AL,Bj,show cmpV Tc .LtE (.str b) (.str [q]) σ=some (!strLt [q] b) from rfl,kBl_s];rfl
end
theorem EW (n:Nat) (σ:St) (u:List Nat) (l:Nat):Cc (n+1) 780 [.str ((u.drop l).take 1)] [] σ=some (.bool (closeB (wA u l)),σ):=by
  have hf:Cc (n+1) 780 [.str ((u.drop l).take 1)] [] σ=fcall Tc (Cc n) 1000000 true ms780 [("sign",.str ((u.drop l).take 1))] σ:=rfl;have h:lk [("sign",V.str ((u.drop l).take 1))] "sign" = some (.str ((u.drop l).take 1)):=rfl;have e:=or_b (T:=Tc) (C:=Cc n) (σ:=σ) (ρ:=[("sign",.str ((u.drop l).take 1))]) (a:=.cmp .Eq (.loc "sign") (.cst (.str [61]))) (x:=decide ((u.drop l).take 1=[61])) (jcmp (jl h) rfl rfl) (or_b (aR_ok h 48 57) (or_b (aR_ok h 65 90) (by rw [AH];exact aR_ok h 97 122)))
  rw [hf,Ax,ms780_eq,Ac,Bb,Aw,e,close_eq];rfl
-- the longest name
theorem sl_to (x:List Nat) (n:Nat) (σ:St) (hn:n<=1000) (h:x.length<=1000):slcV (.str x) .none (.int (n:Nat)) σ=some (.str (x.take n)):=by
  have hh:half=1000000000:=rfl;have b2:bound (.int (n:Nat))=some (some (n:Int)):=if_pos ⟨by exact Int.natCast_nonneg _,by exact Int.ofNat_le.mpr (Nat.le_trans (by assumption) (by decide))⟩
  rw [D2 (l:=none) rfl b2 (Nat.le_trans h (by decide))]
  congr 2
  show (x.drop 0).take ((if (n:Int) < 0 then ((n:Int)+(x.length:Int)).toNat else min (n:Int).toNat x.length) - 0)=_
  rw [if_neg (by omega),List.drop_zero,Nat.sub_zero,Int.toNat_natCast]
  by_cases q:n<=x.length
  . rw [Nat.min_eq_left q]
  . rw [Nat.min_eq_right (by omega),List.take_length,List.take_of_length_le (by omega)]
theorem HD (s:List Nat) (σ:St) (hs:s.length<=1000):slcV (.str s) .none (.int (-1)) σ=some (.str s.dropLast):=by
  rw [Hq s (-1) (by decide) (by decide) hs,List.dropLast_eq_take]
  congr 3
  omega
theorem Ed:itemsV Tc (.stat 43)=some (vS kyN):=by
  show some (entL.map fun e=>V.str e.1)=some ((entL.map Prod.fst).map V.str)
  rw [List.map_map];rfl
theorem kn_9 {k:List Nat} (h:k∈kyN):k.length<=9:=(AF (Bm h)).1
theorem ms787_eq:ms787=(.cons (.asg (.loc "best") (.cst (.str []))) (.cons (.fors (.loc "name") (.glo "entities") lB) (.cons (.ret (.loc "best")) .nil))):=rfl
section
variable {C:Calls} {ρ:L} {σ:St} {N nb:Nat}
theorem BL {y:String} {x:List Nat} (h:lk ρ y=some (.str x)) (hl:x.length<=1000):ev Tc C (lLen y) ρ σ=some (.int (x.length:Nat),σ):=by
  exact jbui Bd (js1 (jl h)) (Du x (Nat.le_trans hl (by decide)))
theorem lB_ok {w b k:List Nat} (hw:w.length<=1000) (h1:lk ρ "words" = some (.str w)) (h2:lk ρ "best" = some (.str b)) (h3:lk ρ "name" = some (.str k)) (hb:b.length<=9) (hk:k.length<=9):∃ρ',ex Tc C N nb lB ρ σ=some (.next ρ' σ)/\lk ρ' "words" = some (.str w)/\lk ρ' "best" = some (.str (lnF w b k)):=by
  have c:ev Tc C lC ρ σ=some (.bool (decide (w.take k.length=k)&&decide (((b.length:Nat):Int) < (k.length:Nat))),σ):=by
    rw [lC,Aw];refine CX ?_ ?_
    . exact jcmp (jslc (jl h1) rfl (BL h3 (Nat.le_trans hk (by decide))) (sl_to w _ σ (Nat.le_trans hk (by decide)) hw)) (jl h3) rfl
    . exact jcmp (BL h3 (Nat.le_trans hk (by decide))) (BL h2 (Nat.le_trans hb (by decide))) rfl
  unfold lnF
  by_cases q:w.take k.length=k/\b.length < k.length
  . rw [decide_eq_true q.1,decide_eq_true (Int.ofNat_lt.mpr q.2),Bool.and_self] at c;rw [if_pos q];refine ⟨put ρ "best" (.str k),?_,by rw [Ad (by decide),h1],Ab⟩
    exact jift c (jasg (jl h3))
  . have:(decide (w.take k.length=k)&&decide (((b.length:Nat):Int) < (k.length:Nat)))=false:=by
      cases hh:(decide (w.take k.length=k)&&decide (((b.length:Nat):Int) < (k.length:Nat))) with
      | false=>rfl
      | true=>
        rw [Bool.and_eq_true,decide_eq_true_iff,decide_eq_true_iff,Int.ofNat_lt] at hh;exact absurd hh q
    rw [this] at c;rw [if_neg q];refine ⟨ρ,?_,h1,h2⟩;exact jiff c
theorem HE {w:List Nat} (hw:w.length<=1000):∀(ks:List (List Nat)) (b:List Nat) (ρ:L),(∀k∈ks,k.length<=9)->b.length<=9->lk ρ "words" = some (.str w)->lk ρ "best" = some (.str b)->∃ρ',forL (fb Tc C N nb (.loc "name") lB) (vS ks) ρ σ=some (.next ρ' σ)/\lk ρ' "best" = some (.str (ks.foldl (lnF w) b))
  | [],b,ρ,_,_,_,h2=>⟨ρ,rfl,h2⟩
  | k::ks,b,ρ,hk,hb,h1,h2=>by
    obtain ⟨ρ1,e1,a1,a2⟩:=lB_ok (C:=C) (σ:=σ) (N:=N) (nb:=nb) (ρ:=put ρ "name" (.str k)) hw (pk _ _ h1 (by decide)) (pk _ _ h2 (by decide)) Ab hb (hk k List.mem_cons_self)
    obtain ⟨ρ2,e2,b2⟩:=HE hw ks (lnF w b k) ρ1 (fun j hj=>hk j (List.mem_cons_of_mem _ hj)) (by unfold lnF;split;exact hk k List.mem_cons_self;exact hb) a1 a2
    refine ⟨ρ2,?_,b2⟩;show forL (fb Tc C N nb (.loc "name") lB) (V.str k::vS ks) ρ σ=_;rw [AS,Cd,Ay,kL_s,e1,kB_n,e2]
end
theorem C3 (n:Nat) (σ:St) (w:List Nat) (hw:w.length<=1000):Cc (n+1) 787 [.str w] [] σ=some (.str (lng w),σ):=by
  have hf:Cc (n+1) 787 [.str w] [] σ=fcall Tc (Cc n) 1000000 true ms787 [("words",.str w)] σ:=rfl;obtain ⟨ρ',e,h⟩:=HE (C:=Cc n) (σ:=σ) (N:=1000000) (nb:=σ.length) hw kyN [] [("words",.str w),("best",.str [])] (fun k hk=>kn_9 hk) (by decide) rfl rfl
  rw [hf,ms787_eq];refine jf ((jasg rfl).trans ?_);rw [Ac,BE _ _ _ rfl,CM,FK,kv_s,kFr_s _ _ rfl,Ed,D1];exact (congrArg (kS Tc (Cc n) 1000000 σ.length _) e).trans (jret (jl h))
-- the mended twin
theorem ms799_eq:ms799=(.cons (.asg (.loc "best") (.cal "_law_longest" (.cons (.loc "words") .nil))) (.cons (.ifs (.cmp .Eq (.loc "best") (.cst (.str []))) (tR tAmp (.lst false (.cons (.cst (.str sNam)) .nil))) .nil) (.cons (.ifs (.cmp .Eq (.sub (.loc "best") (.neg (.cst (.int 1)))) (.cst (.str [59]))) (tR (.bin false .Add (.cst (.str [38])) (.loc "words")) (.lst false .nil)) .nil) (.cons (.ifs (.boo .And (.cons (.loc "inside") (.cons (.cal "_law_close" (.cons tBeh .nil)) .nil))) (tR tAmp tNwo) .nil) (tR tFin tNwo))))):=rfl
section
variable {C:Calls} {ρ:L} {σ:St} {N nb:Nat}
theorem tR_ok {a b:ME} {u v:V} (h1:ev Tc C a ρ σ=some (u,σ)) (h2:ev Tc C b ρ σ=some (v,σ)):ex Tc C N nb (tR a b) ρ σ=some (.ret (.tup [u,v]) σ):=by
  exact jret (jtup h1 h2)
theorem HF {w:List Nat} (h:lk ρ "words" = some (.str w)) (hw:w.length<=1000):ev Tc C tAmp ρ σ=some (.str (38::(ampN++w)),σ):=by
  have hb:big=16777216:=rfl;exact jbin rfl (jl h) (Ag _ _ _ (by simp only [List.length_cons,List.length_nil];omega))
theorem HG:ev Tc C tNwo ρ σ=some (.lst [.str sNwo],σ):=by
  rfl
end
theorem twin_ok (n:Nat) (σ:St) (w:List Nat) (ins:Bool) (hw:w.length<=500):Cc (n+2) 799 [.str w,.bool ins] [] σ=some (.tup [.str (38::tws ins w),.lst (vS (twt w))],σ):=by
  have hb:big=16777216:=rfl;have hh:half=1000000000:=rfl;have hf:Cc (n+2) 799 [.str w,.bool ins] [] σ=fcall Tc (Cc (n+1)) 1000000 true ms799 [("words",.str w),("inside",.bool ins)] σ:=rfl;have e0:=C3 n σ w (by exact Nat.le_trans (by assumption) (by decide))
  have b:=BK w;unfold tws twt;generalize lng w=x at e0 b;have hp:put [("words",V.str w),("inside",.bool ins)] "best" (.str x)=[("words",.str w),("inside",.bool ins),("best",.str x)]:=rfl;generalize hρ:[("words",V.str w),("inside",.bool ins),("best",.str x)]=ρ at hp;have h1:lk ρ "words" = some (.str w):=by rw [<- hρ];rfl
  have h2:lk ρ "inside" = some (.bool ins):=by rw [<- hρ];rfl
  have h3:lk ρ "best" = some (.str x):=by rw [<- hρ];rfl
  have q1:ev Tc (Cc (n+1)) (.cmp .Eq (.loc "best") (.cst (.str []))) ρ σ=some (.bool (decide (x=[])),σ):=jcmp (jl h3) rfl rfl;rw [hf,ms799_eq];refine jf ((jasg (jcal (f:=787) rfl (js1 (jl rfl)) e0)).trans ?_);rw [hp]
  by_cases q:x=[]
  . rw [decide_eq_true q] at q1;rw [if_pos q,if_pos q];exact jift q1 (tR_ok (HF h1 (by exact Nat.le_trans (by assumption) (by decide))) rfl)
  . obtain ⟨hk,hpre⟩:=b.1.resolve_left q;have h9:=kn_9 hk;obtain ⟨y,z,rfl⟩:∃y z,x=y++[z]:=⟨x.dropLast,x.getLast q,(List.dropLast_concat_getLast _).symm⟩;have hlw:=hpre.length_le;have gl:=AI y z σ (by rw [List.length_append] at h9;omega)
    have hwo:wo (y++[z])=!decide ([z]=[59]):=by
      unfold wo;rw [List.getLast?_concat]
      congr 1
      by_cases q:z=59
      . subst q;rfl
      . rw [decide_eq_false (by simpa using q)];exact beq_eq_false_iff_ne.mpr (by simpa using q)
    have q2:ev Tc (Cc (n+1)) (.cmp .Eq (.sub (.loc "best") (.neg (.cst (.int 1)))) (.cst (.str [59]))) ρ σ=some (.bool (decide ([z]=[59])),σ):=jcmp (jsub (jl h3) rfl gl) rfl rfl;rw [decide_eq_false q] at q1;rw [if_neg q,if_neg q];refine (jiff q1).trans ?_
    cases hz:decide ([z]=[59]) with
    | true=>
      rw [hz] at hwo q2;have hwo:wo (y++[z])=false:=hwo;rw [if_pos hwo,Ec hwo];exact jift q2 (tR_ok (u:=.str (38::w)) (jbin rfl (jl h1) (Ag false [38] w (by rw [List.length_singleton];omega))) rfl)
    | false=>
      rw [hz] at hwo q2;have hwo:wo (y++[z])=true:=hwo;have ht:toldS (y++[z])=[sNwo]:=by unfold toldS;rw [hwo];rfl
      have el:=BL (C:=Cc (n+1)) (σ:=σ) h3 (Nat.le_trans h9 (by decide))
      refine (jiff q2).trans ?_
      generalize y++[z]=x at h3 hwo ht el h9 hlw ⊢;have e2:=FL w (x.length:Nat) 1 σ (Int.natCast_nonneg _) (by decide) (by omega) (by exact Nat.le_trans hw (by decide))
      rw [Int.toNat_natCast] at e2;have eb:ev Tc (Cc (n+1)) tBeh ρ σ=some (.str ((w.drop x.length).take 1),σ):=jslc (jl h1) el (jbin el rfl rfl) e2
      have ec:ev Tc (Cc (n+1)) (.boo .And (.cons (.loc "inside") (.cons (.cal "_law_close" (.cons tBeh .nil)) .nil))) ρ σ=some (.bool (ins&&closeB (wA w x.length)),σ):=by
        rw [Aw];exact CX (jl h2) (jcal (f:=780) rfl (js1 eb) (EW n σ w x.length))
      rw [if_neg (by rw [hwo];decide),ht]
      cases hc:ins&&closeB (wA w x.length) with
      | true=>
        rw [hc] at ec;exact jift ec (tR_ok (HF h1 (by exact Nat.le_trans hw (by decide))) HG)
      | false=>
        rw [hc] at ec;have sf:=CZ w (x.length:Nat) σ (Int.natCast_nonneg _) (by omega) (by exact Nat.le_trans hw (by decide))
        rw [Int.toNat_natCast] at sf;have ef:ev Tc (Cc (n+1)) tFin ρ σ=some (.str ((([38]++x)++[59])++w.drop x.length),σ):=jbin (jbin (jbin rfl (jl h3) (Ag false [38] x (by rw [List.length_singleton];omega))) rfl (Ag false ([38]++x) [59] (by rw [List.length_append,List.length_singleton,List.length_singleton];omega))) (jslc (jl h1) el rfl sf) (Ag _ _ _ (by rw [List.length_append,List.length_append,List.length_singleton,List.length_singleton,List.length_drop];omega))
        rw [if_neg Bool.false_ne_true,show 38::(x++59::w.drop x.length)=(([38]++x)++[59])++w.drop x.length by simp]
        exact (jiff ec).trans (tR_ok ef HG)
end Mine
open PySem PySem.W PyProof.Rows
set_option maxRecDepth 100000
set_option maxHeartbeats 2000000
namespace Mine
theorem bin_fl {σ:St} (m a b) (h:0 < b/\b<=half):bin m .FloorDiv (.int a) (.int b) σ=some (.int (a.fdiv b),σ):=congrArg (Option.map fun i=>(V.int i,σ)) (if_pos h:(if 0 < b/\b<=half then some (a.fdiv b) else none)=_)
theorem EX {a b:Int} (h:0 < b):0<=a.fmod b/\a.fmod b < b:=by rw [fm h];exact ⟨Int.emod_nonneg _ (by exact Int.ne_of_gt (by assumption)),Int.emod_lt_of_pos _ h⟩
noncomputable def sgL:List (List Nat):=[[],[59],[61],[48],[57],[65],[90],[97],[122],[47],[58],[60],[64],[91],[96],[123],[32],[10],[233],[34],[0],[98],[69,59],[49],[50,59],[105,110,59],[110,105,59],[105],[108],[1635]]
theorem signs_ok (n:Nat) (σ:St):Cc (n+1) 773 [] [] σ=some (.lst (vS sgL),σ):=by rfl
theorem sgL_ok:(sgL.all fun s=>decide (s.length<=3)&&s.all fun c=>okC c&&!(c==38))=true:=by decide +kernel
theorem vs_at {l:List (List Nat)} {j:Nat} {x:List Nat} (h:l[j]? = some x):(vS l)[j]? = some (.str x):=by
  unfold vS;rw [List.getElem?_map,h];rfl
theorem idx_p {z:Int} {n:Nat} (h:0<=z) (h2:z < n):idx? z n=some z.toNat:=by unfold idx?;rw [if_pos h,if_pos h2]
noncomputable def onS (f:List Nat->Bool) (v:V):Bool:=match v with | .str k=>f k | _=>false
theorem vs_fil (f:List Nat->Bool) (l:List (List Nat)):(vS l).filter (onS f)=vS (l.filter f):=by
  unfold vS;rw [List.filter_map];rfl
theorem C4 {p:String->Bool} {x:String} (hx:p x=true):∀ρ:L,lk (ρ.filter fun e=>p e.1) x=lk ρ x
  | []=>rfl
  | e::ρ=>by
    obtain ⟨y,v⟩:=e;rw [List.filter_cons]
    by_cases q:y=x
    . subst q;rw [if_pos hx,AN,AN]
    . rw [As _ q]
      split
      . rw [As _ q,C4 hx ρ]
      . exact C4 hx ρ
section
variable {C:Calls} {ρ:L} {σ:St} {N nb:Nat}
theorem evC_1 (c:ME) (ρ:L) (b:Bool) (h:ev Tc C c ρ σ=some (.bool b,σ)):evC Tc C (.cons c .nil) ρ σ=some (b,σ):=by
  show (ev Tc C c ρ σ).bind _=_;rw [h];cases b<;>rfl
theorem cB_c {fv:List String} {x:String} {c:ME} {v:V} {b:Bool} (h:ev Tc C c (put (ρ.filter fun e=>fv.contains e.1) x v) σ=some (.bool b,σ)):cB Tc C fv (.loc x) (.loc x) (.cons c .nil) ρ v σ=some (if b=true then some v else none,σ):=by
  show (evC Tc C (.cons c .nil) (put (ρ.filter fun e=>fv.contains e.1) x v) σ).bind _=_
  rw [evC_1 _ _ _ h];cases b with
  | false=>rfl
  | true=>
    show (ev Tc C (.loc x) (put (ρ.filter fun e=>fv.contains e.1) x v) σ).map _=_
    rw [An,Ab];rfl
theorem cB_e {fv:List String} {t elt:ME} {v u:V} {ρ':L} (hb:bindP t v (ρ.filter fun e=>fv.contains e.1)=some ρ') (h:ev Tc C elt ρ' σ=some (u,σ)):cB Tc C fv elt t .nil ρ v σ=some (some u,σ):=by
  show (bindP t v (ρ.filter fun e=>fv.contains e.1)).bind _=_
  rw [hb];show (ev Tc C elt ρ' σ).map _=_;rw [h];rfl
end
theorem ms792_eq:ms792=(.cons (.asg (.loc "closed") rE1) (.cons (.asg (.loc "name") (.sub (.loc "closed") (.bin false .Mod (.loc "a") (rLen "closed")))) (.cons (.asg (.loc "alike") rE2) (.cons (.asg (.loc "other") rP) (.cons (.ret (.tup (.cons (.loc "name") (.cons (.bin false .Add rX1 rX2) .nil)))) .nil))))):=rfl
section
variable {C:Calls} {ρ:L} {σ:St} {N nb:Nat}
theorem b_lenl (l:List (List Nat)) (h:l.length<=1000):bui Tc "len" [.lst (vS l)] σ=some (.int (l.length:Nat),σ):=by
  rw [u_len];show (if (vS l).length<=big then some (V.int (vS l).length,σ) else none)=_
  rw [if_pos (by rw [Bx];exact Nat.le_trans h (by decide)),Bx]
theorem rLen_l {y:String} {l:List (List Nat)} (h:lk ρ y=some (.lst (vS l))) (hl:l.length<=1000):ev Tc C (rLen y) ρ σ=some (.int (l.length:Nat),σ):=by
  exact jbui Bd (js1 (jl h)) (b_lenl l hl)
theorem FX {y:String} {x:List Nat} (h:lk ρ y=some (.str x)) (hl:x.length<=1000):ev Tc C (rLen y) ρ σ=some (.int (x.length:Nat),σ):=BL h hl
theorem rC1_ok {k:List Nat} (hk:k∈kyN) (h:lk ρ "name" = some (.str k)):ev Tc C rC1 ρ σ=some (.bool (k.getLast?==some 59),σ):=by
  have h9:=kn_9 hk;have h0:=(AF (Bm hk)).2;obtain ⟨y,z,rfl⟩:∃y z,k=y++[z]:=⟨k.dropLast,k.getLast (List.ne_nil_of_length_pos h0),(List.dropLast_concat_getLast _).symm⟩;have gl:=AI y z σ (by have hh:half=1000000000:=rfl;rw [List.length_append] at h9;omega)
  have e:ev Tc C rC1 ρ σ=some (.bool (decide ([z]=[59])),σ):=jcmp (jsub (jl h) rfl gl) rfl rfl;rw [e,List.getLast?_concat]
  by_cases q:z=59
  . subst q;rfl
  . rw [decide_eq_false (by simpa using q),beq_eq_false_iff_ne.mpr (by simpa using q)]
theorem rE1_ok:ev Tc C rE1 ρ σ=some (.lst (vS clN),σ):=by
  unfold clN;rw [<- vs_fil,rE1];refine Cm (a:=.stat 43) (vs:=vS kyN) (σ1:=σ) (by rw [CM,FK];rfl) Ed rfl (by rw [Bx,B6];decide) (B2 fun v hv=>?_)
  obtain ⟨k,hk,rfl⟩:=List.mem_map.mp hv;exact cB_c (rC1_ok hk Ab)
noncomputable def alF (n k:List Nat):Bool:=decide (k.take (n.length - 1)=n.dropLast)&&decide (n.length<=k.length)
theorem rN1_ok {n:List Nat} (h:lk ρ "name" = some (.str n)) (h9:n.length<=9) (h0:0 < n.length):ev Tc C rN1 ρ σ=some (.int (n.length - 1:Nat),σ):=by
  have e:ev Tc C rN1 ρ σ=some (.int ((n.length:Nat) - 1),σ):=jbin (FX h (Nat.le_trans h9 (by decide))) rfl rfl
  rw [e]
  congr 3
  omega
theorem rC2_ok {n k:List Nat} (h1:lk ρ "name" = some (.str n)) (h2:lk ρ "other" = some (.str k)) (h9:n.length<=9) (h0:0 < n.length) (hk:k.length<=9):ev Tc C rC2 ρ σ=some (.bool (alF n k),σ):=by
  unfold alF;rw [rC2,Aw];refine CX ?_ ?_
  . exact jcmp (jslc (jl h2) rfl (rN1_ok h1 h9 h0) (sl_to k _ σ (by omega) (by exact Nat.le_trans hk (by decide)))) (jslc (jl h1) rfl rfl (HD n σ (by exact Nat.le_trans h9 (by decide)))) rfl
  . rw [AH,jcmp (t:=decide (((n.length:Nat):Int)<=(k.length:Nat))) (FX h2 (by exact Nat.le_trans hk (by decide))) (FX h1 (by exact Nat.le_trans h9 (by decide))) rfl]
    congr 3
    exact decide_eq_decide.mpr Int.ofNat_le
theorem rE2_ok {n:List Nat} (h1:lk ρ "name" = some (.str n)) (h9:n.length<=9) (h0:0 < n.length):ev Tc C rE2 ρ σ=some (.lst (vS (kyN.filter (alF n))),σ):=by
  rw [<- vs_fil,rE2];refine Cm (a:=.stat 43) (vs:=vS kyN) (σ1:=σ) (by rw [CM,FK];rfl) Ed rfl (by rw [Bx,B6];decide) (B2 fun v hv=>?_)
  obtain ⟨k,hk,rfl⟩:=List.mem_map.mp hv;exact cB_c (rC2_ok (by rw [Ad (by decide),C4 (p:=fun x=>["name"].contains x) rfl,h1]) Ab h9 h0 (kn_9 hk))
end
noncomputable def Tl (t:List Nat):Prop:=t.length<=13/\∀c∈t,okC c=true/\c≠38
theorem kn_ok {k:List Nat} (h:k∈kyN):∀c∈k,okC c=true/\c≠38:=fun c hc=>by
  have a:=List.all_eq_true.mp tb6 k h;rw [Bool.and_eq_true] at a;have b:=List.all_eq_true.mp (List.all_eq_true.mp kn_38 k h) c hc;exact ⟨List.all_eq_true.mp a.2 c hc,by simpa using b⟩
theorem ref_ok (n:Nat) (σ:St) (a b:Int):∃nm tail,nm∈clN/\Tl tail/\Cc (n+2) 792 [.int a,.int b] [] σ=some (.tup [.str nm,.str tail],σ):=by
  have hh:half=1000000000:=rfl;have hb:big=16777216:=rfl;have hf:Cc (n+2) 792 [.int a,.int b] [] σ=fcall Tc (Cc (n+1)) 1000000 true ms792 [("a",.int a),("b",.int b)] σ:=rfl;generalize hr:put [("a",V.int a),("b",.int b)] "closed" (.lst (vS clN))=r1;have a1:lk r1 "a" = some (.int a):=by rw [<- hr];rfl
  have a2:lk r1 "b" = some (.int b):=by rw [<- hr];rfl
  have a3:lk r1 "closed" = some (.lst (vS clN)):=by rw [<- hr];rfl
  have m:=EX (a:=a) (b:=27) (by decide)
  obtain ⟨nm,hn⟩:∃nm,clN[(a.fmod 27).toNat]? = some nm:=⟨_,List.getElem?_eq_getElem (by rw [C2];omega)⟩
  have hm:nm∈clN:=List.mem_of_getElem? hn;have h9:=kn_9 (AC hm);have h3:=(Dw hm).l;have es:subV Tc (.lst (vS clN)) (.int (a.fmod 27)) σ=some (.str nm):=Dt ⟨by omega,by omega⟩ (idx_p m.1 (by rw [Bx,C2];omega)) (vs_at hn)
  have e1:ev Tc (Cc (n+1)) (.sub (.loc "closed") (.bin false .Mod (.loc "a") (rLen "closed"))) r1 σ=some (.str nm,σ):=by
    refine jsub (jl a3) (jbin (jl a1) (rLen_l a3 (by rw [C2];decide)) (Bk _ _ _ (by rw [C2];decide))) ?_
    rw [C2];exact es
  generalize hr2:put r1 "name" (.str nm)=r2;have b1:lk r2 "a" = some (.int a):=by rw [<- hr2];exact pk _ _ a1 (by decide)
  have b2:lk r2 "b" = some (.int b):=by rw [<- hr2];exact pk _ _ a2 (by decide)
  have b3:lk r2 "name" = some (.str nm):=by rw [<- hr2];exact Ab
  have e2:=rE2_ok (C:=Cc (n+1)) (σ:=σ) b3 h9 (by exact Nat.le_trans (Nat.le_add_left _ _) (by assumption))
  generalize hal:kyN.filter (alF nm)=al2 at e2;have hlen:al2.length<=43:=by rw [<- hal,<- B6];exact List.length_filter_le _ _
  have hpos:0 < al2.length:=by
    have:nm∈al2:=by
      rw [<- hal];refine List.mem_filter.mpr ⟨AC hm,?_⟩;unfold alF;rw [Bool.and_eq_true,decide_eq_true_iff,decide_eq_true_iff];exact ⟨List.dropLast_eq_take.symm,Nat.le_refl _⟩
    exact List.length_pos_of_mem this
  generalize hr3:put r2 "alike" (.lst (vS al2))=r3;have c1:lk r3 "a" = some (.int a):=by rw [<- hr3];exact pk _ _ b1 (by decide)
  have c2:lk r3 "b" = some (.int b):=by rw [<- hr3];exact pk _ _ b2 (by decide)
  have c3:lk r3 "name" = some (.str nm):=by rw [<- hr3];exact pk _ _ b3 (by decide)
  have c4:lk r3 "alike" = some (.lst (vS al2)):=by rw [<- hr3];exact Ab
  generalize hK:(a.fdiv 27+b).fmod (al2.length:Nat)=K;have mk:=EX (a:=a.fdiv 27+b) (b:=(al2.length:Nat)) (by exact Int.ofNat_lt.mpr (by assumption))
  rw [hK] at mk;obtain ⟨ot,ho⟩:∃ot,al2[K.toNat]? = some ot:=⟨_,List.getElem?_eq_getElem (by omega)⟩
  have hot:ot∈kyN:=by
    have:=List.mem_of_getElem? ho
    rw [<- hal] at this;exact (List.mem_filter.mp this).1
  have es2:subV Tc (.lst (vS al2)) (.int K) σ=some (.str ot):=Dt ⟨by omega,by omega⟩ (idx_p mk.1 (by rw [Bx];exact mk.2)) (vs_at ho)
  have e3:ev Tc (Cc (n+1)) rP r3 σ=some (.str ot,σ):=by
    refine jsub (jl c4) (jbin (jbin (jbin (jl c1) rfl (bin_fl _ _ _ (by decide))) (jl c2) rfl) (rLen_l c4 (by omega)) (Bk _ _ _ (by omega))) ?_
    rw [hK];exact es2
  generalize hr4:put r3 "other" (.str ot)=r4;have d2:lk r4 "b" = some (.int b):=by rw [<- hr4];exact pk _ _ c2 (by decide)
  have d3:lk r4 "name" = some (.str nm):=by rw [<- hr4];exact pk _ _ c3 (by decide)
  have d4:lk r4 "other" = some (.str ot):=by rw [<- hr4];exact Ab
  have m5:=EX (a:=b) (b:=5) (by decide)
  obtain ⟨j,hj⟩:=Int.eq_ofNat_of_zero_le m5.1;have ho9:=kn_9 hot;have sf:=CZ ot ((nm.length - 1:Nat):Int) σ (Int.natCast_nonneg _) (by omega) (by exact Nat.le_trans (by assumption) (by decide))
  rw [Int.toNat_natCast] at sf;have st:=sl_to (ot.drop (nm.length - 1)) j σ (by omega) (by rw [List.length_drop];exact Nat.le_trans (Nat.sub_le _ _) (Nat.le_trans (by assumption) (by decide)))
  have e4:ev Tc (Cc (n+1)) rX1 r4 σ=some (.str ((ot.drop (nm.length - 1)).take j),σ):=by
    exact jslc (jslc (jl d4) (rN1_ok d3 h9 (by omega)) rfl sf) rfl (jbin (jl d2) rfl (Bk _ _ _ (by decide))) (hj▸st)
  have m30:=EX (a:=b.fdiv 5) (b:=30) (by decide)
  have hsl:sgL.length=30:=rfl;obtain ⟨sg,hsg⟩:∃sg,sgL[((b.fdiv 5).fmod 30).toNat]? = some sg:=⟨_,List.getElem?_eq_getElem (by rw [hsl];omega)⟩
  have es3:subV Tc (.lst (vS sgL)) (.int ((b.fdiv 5).fmod 30)) σ=some (.str sg):=Dt ⟨by omega,by omega⟩ (idx_p m30.1 (by rw [Bx,hsl];omega)) (vs_at hsg)
  have sok:=List.all_eq_true.mp sgL_ok sg (List.mem_of_getElem? hsg);simp only [Bool.and_eq_true,decide_eq_true_eq,List.all_eq_true,Bool.not_eq_true',beq_eq_false_iff_ne] at sok
  have e5:ev Tc (Cc (n+1)) rX2 r4 σ=some (.str sg,σ):=by
    exact jsub (jcal (f:=773) rfl rfl (signs_ok n σ)) (jbin (jbin (jl d2) rfl (bin_fl _ _ _ (by decide))) rfl (Bk _ _ _ (by decide))) es3
  have hlt:((ot.drop (nm.length - 1)).take j).length+sg.length<=13:=by
    have:=sok.1
    rw [List.length_take,List.length_drop];omega
  refine ⟨nm,(ot.drop (nm.length - 1)).take j++sg,hm,⟨by rw [List.length_append];exact hlt,fun c hc=>?_⟩,?_⟩
  . rcases List.mem_append.mp hc with hc | hc
    . exact kn_ok hot c (List.mem_of_mem_drop (List.mem_of_mem_take hc))
    . exact sok.2 c hc
  . rw [hf,ms792_eq];refine jf ((jasg rE1_ok).trans ?_);rw [hr,jasg e1,hr2,jasg e2,hr3,jasg e3,hr4];exact jret (jtup (jl d3) (jbin e4 e5 (Ag _ _ _ (by omega))))
end Mine
open PySem PySem.W PyProof.Rows
set_option maxRecDepth 100000
set_option maxHeartbeats 2000000
namespace Mine
theorem tc_zip:Tc.buiG "zip" = true:=by decide +kernel
-- pieces that can be read
structure Gd (w:List Nat):Prop where
  n:w≠[]
  l:w.length<=60
  o:∀c∈w,okC c=true/\c≠38
theorem FY:∀{segs:List (List Nat)},(∀w∈segs,Gd w)->(flt segs).length<=61 * segs.length/\∀c∈flt segs,okC c=true
  | [],_=>⟨Nat.le_refl _,fun _ h=>nomatch h⟩
  | w::segs,h=>by
    obtain ⟨a,b⟩:=FY fun v hv=>h v (List.mem_cons_of_mem _ hv)
    have g:=h w List.mem_cons_self;have e:flt (w::segs)=38::(w++flt segs):=rfl;rw [e];constructor
    . rw [List.length_cons,List.length_append,List.length_cons]
      have:=g.l
      omega
    . intro c hc;rcases List.mem_cons.mp hc with rfl | hc
      . rfl
      . rcases List.mem_append.mp hc with hc | hc
        . exact (g.o c hc).1
        . exact b c hc
theorem read_gd {segs:List (List Nat)} (ins:Bool) (k:Nat) (hk:k<=1000) (h:∀w∈segs,Gd w) (hl:segs.length<=3):Cc 9 806 [.str (flt segs),.bool ins,.int k] [] []=some (.lst ((segs.map (rdW ins)).map dv),[]):=by
  obtain ⟨a,b⟩:=FY h;exact FV ins segs k hk (by omega) b (fun w hw=>⟨(h w hw).n,fun c hc=>((h w hw).o c hc).2⟩) (by exact Nat.lt_of_le_of_lt (by assumption) (by decide))
abbrev PR:=List Nat×List Nat
noncomputable def wh (p:PR):List Nat:=p.1++p.2
noncomputable def sh (p:PR):List Nat:=p.1.dropLast++p.2
noncomputable def Po (p:PR):Prop:=p.1∈clN/\Tl p.2
theorem gd_wh {p:PR} (h:Po p):Gd (wh p):=by
  have c:=Dw h.1;have h9:=kn_9 (AC h.1);have ht:=h.2.1;refine ⟨fun q=>cl_ne h.1 (List.append_eq_nil_iff.mp q).1,by unfold wh;rw [List.length_append];omega,fun x hx=>?_⟩
  rcases List.mem_append.mp hx with hx | hx
  . exact kn_ok (AC h.1) x hx
  . exact h.2.2 x hx
theorem hd_sh {p:PR} (h:Po p):hdB (sh p)=true:=FW (Dw h.1).h
theorem Ee {p:PR} (h:Po p):(sh p).length<=30:=by
  have h9:=kn_9 (AC h.1);have ht:=h.2.1;unfold sh;rw [List.length_append,List.length_dropLast];omega
theorem gd_sh {p:PR} (h:Po p):Gd (sh p):=by
  refine ⟨hd_ne (hd_sh h),Nat.le_trans (Ee h) (by decide),fun x hx=>?_⟩
  rcases List.mem_append.mp hx with hx | hx
  . exact kn_ok (AC h.1) x ((List.dropLast_sublist _).subset hx)
  . exact h.2.2 x hx
theorem gd_tw {p:PR} (h:Po p) (ins:Bool):Gd (tws ins (sh p)):=by
  have g:=gd_sh h;have gl:=Ee h
  have ga:Gd (ampN++sh p):=by
    refine ⟨fun q=>g.n (List.append_eq_nil_iff.mp q).2,by rw [List.length_append];show 4+_<=60;omega,fun x hx=>?_⟩
    rcases List.mem_append.mp hx with hx | hx
    . exact kn_ok (AC amp_cl) x hx
    . exact g.o x hx
  have bp:=(BK (sh p)).pre;have bl:=bp.length_le;unfold tws
  split
  . exact ga
  . rename_i q
    split
    . exact g
    . split
      . exact ga
      . refine ⟨fun z=>q (List.append_eq_nil_iff.mp z).1,by rw [List.length_append,List.length_cons,List.length_drop];omega,fun x hx=>?_⟩
        rcases List.mem_append.mp hx with hx | hx
        . exact g.o x (bp.subset hx)
        . rcases List.mem_cons.mp hx with rfl | hx
          . exact ⟨rfl,by decide⟩
          . exact g.o x (List.mem_of_mem_drop hx)
-- equal values
theorem B8 {f:V->V->Option Bool}:∀{l:List V},(∀v∈l,f v v=some true)->all2 f l l=some true
  | [],_=>rfl
  | x::l,h=>by
    show (f x x).bind _=_;rw [h x List.mem_cons_self,B8 fun v hv=>h v (List.mem_cons_of_mem _ hv)];rfl
theorem veq_tup (n:Nat) (σ:St) (xs:List V) (h:∀e∈xs,veq σ n e e=some true):veq σ (n+1) (.tup xs) (.tup xs)=some true:=by
  have:veq σ (n+1) (.tup xs) (.tup xs)=all2 (veq σ n) xs xs:=rfl
  rw [this,B8 h]
theorem HH (n:Nat) (σ:St) (xs:List V) (h:∀e∈xs,veq σ n e e=some true):veq σ (n+1) (.lst xs) (.lst xs)=some true:=by
  have:veq σ (n+1) (.lst xs) (.lst xs)=lst2 (veq σ n) xs xs:=rfl
  rw [this];unfold lst2;rw [if_pos rfl,B8 h]
theorem HI (n:Nat) (σ:St) (l:List Nat):veq σ (n+1) (.str l) (.str l)=some true:=by
  have:veq σ (n+1) (.str l) (.str l)=some (decide (l=l)):=rfl
  rw [this,decide_eq_true rfl]
theorem veq_bool (n:Nat) (σ:St) (b:Bool):veq σ (n+1) (.bool b) (.bool b)=some true:=by cases b<;>rfl
theorem veq_ss (n:Nat) (σ:St) (l:List (List Nat)):veq σ (n+2) (.lst (vS l)) (.lst (vS l))=some true:=HH _ _ _ fun e he=>by
  obtain ⟨s,_,rfl⟩:=List.mem_map.mp he;exact HI _ _ _
theorem veq_dv (n:Nat) (σ:St) (x):veq σ (n+3) (dv x) (dv x)=some true:=veq_tup _ _ _ fun e he=>by
  rcases List.mem_cons.mp he with rfl | he
  . exact HI _ _ _
  . rw [List.mem_singleton.mp he];exact veq_ss _ _ _
section
variable {α:Type} {C:Calls} {ρ:L} {σ:St} {N nb:Nat}
theorem Ef {a:ME} {b:ME} {l:List α} {f:α->V} (h1:ev Tc C a ρ σ=some (.lst (l.map f),σ)) (h2:ev Tc C b ρ σ=some (.lst (l.map f),σ)) (h:∀x∈l,veq σ 8 (f x) (f x)=some true):ev Tc C (.cmp .NotEq a b) ρ σ=some (.bool false,σ):=by
  have e:cmpV Tc .NotEq (.lst (l.map f)) (.lst (l.map f)) σ=some false:=by
    show (veq σ 9 (.lst (l.map f)) (.lst (l.map f))).map (!·)=_
    rw [HH 8 σ _ fun e he=>by
      obtain ⟨x,hx,rfl⟩:=List.mem_map.mp he;exact h x hx]
    rfl
  exact jcmp h1 h2 e
theorem B9 {f:V->St->Option (Option V×St)} {a b:α->V}:∀{l:List α},(∀x∈l,f (a x) σ=some (some (b x),σ))->cmprL f (l.map a) σ=some (l.map b,σ)
  | [],_=>rfl
  | x::l,h=>by
    show (f (a x) σ).bind _=_;rw [h x List.mem_cons_self];show (cmprL f (l.map a) σ).map _=_;rw [B9 fun v hv=>h v (List.mem_cons_of_mem _ hv)];rfl
theorem okF_l (t:ME) (vs:List V):okF t (.lst vs)=true:=by cases t<;>rfl
theorem C5 {fv:List String} {elt t:ME} {x:String} {l:List α} {a b:α->V} (h1:lk ρ x=some (.lst (l.map a))) (hl:l.length<=3) (hf:∀y∈l,cB Tc C fv elt t .nil ρ (a y) σ=some (some (b y),σ)):ev Tc C (.cmpr fv elt t (.loc x) .nil) ρ σ=some (.lst (l.map b),σ):=
  Cm (a:=.lst (l.map a)) (vs:=l.map a) (σ1:=σ) (by rw [An,h1];rfl) rfl (okF_l _ _) (by rw [List.length_map];exact Nat.le_trans hl (by decide)) (B9 hf)
theorem HJ {a b:α->V}:∀l:List α,asLs2 (.lst (l.map a)) (.lst (l.map b))=some (l.map fun x=>.tup [a x,b x])
  | []=>rfl
  | x::l=>by
    have:=HJ (a:=a) (b:=b) l
    have e:∀l:List α,asLs2 (.lst (l.map a)) (.lst (l.map b))=some (((l.map a).zip (l.map b)).map fun p=>.tup [p.1,p.2]):=fun _=>rfl
    rw [e] at this ⊢;rw [List.map_cons,List.map_cons,List.zip_cons_cons,List.map_cons,Option.some.inj this];rfl
end
-- the law's expressions
section
variable {C:Calls} {ρ:L} {σ:St} {N nb:Nat}
structure Pn (p:PR) (ρ:L):Prop where
  n:lk ρ "name" = some (.str p.1)
  t:lk ρ "tail" = some (.str p.2)
noncomputable def pv (p:PR):V:=.tup [.str p.1,.str p.2]
noncomputable def pB (p:PR) (r:L):L:=put (put r "name" (.str p.1)) "tail" (.str p.2)
theorem EY (p:PR) (r:L):Pn p (pB p r):=⟨pk _ _ Ab (by decide),Ab⟩
theorem BM (p:PR) (r:L):bindP wPT (pv p) r=some (pB p r):=rfl
theorem FZ {p:PR} (hp:Po p) (h:Pn p ρ):ev Tc C wB0 ρ σ=some (.str p.1.dropLast,σ):=by
  have h9:=kn_9 (AC hp.1);exact jslc (jl h.n) rfl rfl (HD _ σ (by exact Nat.le_trans (by assumption) (by decide)))
theorem wSh_ok {p:PR} (hp:Po p) (h:Pn p ρ):ev Tc C wSh ρ σ=some (.str (sh p),σ):=by
  have hb:big=16777216:=rfl;have h9:=kn_9 (AC hp.1);have ht:=hp.2.1;exact jbin (FZ hp h) (jl h.t) (Ag _ _ _ (by rw [List.length_dropLast];omega))
theorem wE2_ok {p:PR} (hp:Po p) (h:Pn p ρ):ev Tc C wE2 ρ σ=some (.str (38::wh p),σ):=by
  have hb:big=16777216:=rfl;have h9:=kn_9 (AC hp.1);have ht:=hp.2.1;exact jbin (jbin rfl (jl h.n) (Ag false [38] p.1 (by rw [List.length_singleton];omega))) (jl h.t) (Ag false ([38]++p.1) p.2 (by rw [List.length_append,List.length_singleton];omega))
theorem wE3_ok {p:PR} (hp:Po p) (h:Pn p ρ):ev Tc C wE3 ρ σ=some (.str (38::sh p),σ):=by
  have hb:big=16777216:=rfl;have h9:=kn_9 (AC hp.1);have ht:=hp.2.1;exact jbin (jbin rfl (FZ hp h) (Ag false [38] p.1.dropLast (by rw [List.length_singleton,List.length_dropLast];omega))) (jl h.t) (Ag false ([38]++p.1.dropLast) p.2 (by rw [List.length_append,List.length_singleton,List.length_dropLast];omega))
theorem wD5_ok {p:PR} (hp:Po p) (h:Pn p ρ):ev Tc C wD5 ρ σ=some (dv (entV p.1++p.2,[]),σ):=by
  have hb:big=16777216:=rfl;have hk:=Bm (AC hp.1);have hv:=BI hk;have ht:=hp.2.1;have es:subV Tc (.stat 43) (.str p.1) σ=some (.str (entV p.1)):=(Cu hk).1;exact jtup (jbin (jsub (u:=.stat 43) rfl (jl h.n) es) (jl h.t) (Ag _ _ _ (by omega))) rfl
theorem wTw_ok {p:PR} {ins:Bool} (hp:Po p) (h:Pn p ρ) (hi:lk ρ "inside" = some (.bool ins)):ev Tc (Cc 9) wTw ρ σ=some (dv (38::tws ins (sh p),twt (sh p)),σ):=by
  have hl:=Ee hp;have e:=twin_ok 7 σ (sh p) ins (by exact Nat.le_trans (by assumption) (by decide))
  rw [show 7+2=9 from rfl] at e;exact jcal (f:=799) rfl (jsc (wSh_ok hp h) (js1 (jl hi))) e
theorem wK7_ok {p:PR} {ins:Bool} (hp:Po p) (h:Pn p ρ) (hi:lk ρ "inside" = some (.bool ins)):ev Tc (Cc 9) wK7 ρ σ=some (.bool (decide (lng (sh p)=p.1.dropLast)&&!(ins&&closeB (wA p.2 0))),σ):=by
  have hl:=Ee hp;have ht:=hp.2.1;have e:=C3 8 σ (sh p) (by exact Nat.le_trans (by assumption) (by decide))
  rw [show 8+1=9 from rfl] at e;have ec:=EW 8 σ p.2 0;rw [show 8+1=9 from rfl,List.drop_zero] at ec;have st:=sl_to p.2 1 σ (by decide) (by exact Nat.le_trans (by assumption) (by decide))
  rw [wK7,Aw];refine CX ?_ ?_
  . exact jcmp (jcal (f:=787) rfl (js1 (wSh_ok hp h)) e) (FZ hp h) rfl
  . have e2:ev Tc (Cc 9) (.boo .And (.cons (.loc "inside") (.cons (.cal "_law_close" (.cons (.slc (.loc "tail") (.cst .none) (.cst (.int 1))) .nil)) .nil))) ρ σ=some (.bool (ins&&closeB (wA p.2 0)),σ):=by
      rw [Aw];exact CX (jl hi) (jcal (f:=780) rfl (js1 (jslc (jl h.t) rfl rfl st)) ec)
    rw [AH,CN,e2,Fw,AQ,G7]
theorem wJ_ok {α:Type} {l:List α} {seg:α->List Nat} {a:α->V} {e t:ME} {x:String} (h1:lk ρ x=some (.lst (l.map a))) (hl:l.length<=3) (hf:∀y∈l,cB Tc C [] e t .nil ρ (a y) σ=some (some (.str (38::seg y)),σ)) (hg:∀y∈l,Gd (seg y)):ev Tc C (wJ e t x) ρ σ=some (.str (flt (l.map seg)),σ):=by
  have hb:big=16777216:=rfl;have e1:=C5 (C:=C) (σ:=σ) h1 hl hf;have hm:l.map (fun y=>V.str (38::seg y))=((l.map seg).map (38::·)).map V.str:=by rw [List.map_map,List.map_map];rfl
  obtain ⟨f1,_⟩:=FY (segs:=l.map seg) fun w hw=>by
    obtain ⟨y,hy,rfl⟩:=List.mem_map.mp hw;exact hg y hy
  rw [List.length_map] at f1;have jn:=FE (σ:=σ) (a:=.lst (l.map fun y=>V.str (38::seg y))) rfl (by rw [hm];exact EM _) (by show (flt (l.map seg)).length<=_;omega)
  exact jmet rfl (AR [] _) (js1 e1) jn
theorem F0 {e:ME} {segs:List (List Nat)} {ins:Bool} {k:Nat} (h:ev Tc (Cc 9) e ρ []=some (.str (flt segs),[])) (hi:lk ρ "inside" = some (.bool ins)) (hs:lk ρ "size" = some (.int k)) (hk:k<=1000) (hg:∀w∈segs,Gd w) (hl:segs.length<=3):ev Tc (Cc 9) (wRd e) ρ []=some (.lst ((segs.map (rdW ins)).map dv),[]):=by
  exact jcal (f:=806) rfl (jsc h (jsc (jl hi) (js1 (jl hs)))) (read_gd ins k hk hg hl)
end
end Mine
open PySem PySem.W PyProof.Rows
set_option maxRecDepth 100000
set_option maxHeartbeats 2000000
namespace Mine
theorem ms811_eq:ms811=(.cons wa0 (.cons wa1 (.cons wa2 (.cons wa3 (.cons (.ret (.cst (.bool true))) .nil))))):=rfl
structure Lw (prs:List PR) (k:Nat) (ρ:L):Prop where
  p:lk ρ "pairs" = some (.lst (prs.map pv))
  s:lk ρ "size" = some (.int k)
theorem Lw.put {prs k ρ} (h:Lw prs k ρ) (x:String) (v:V) (h1:x≠"pairs") (h2:x≠"size"):Lw prs k (put ρ x v):=⟨pk _ _ h.p h1,pk _ _ h.s h2⟩
section
variable {ρ:L} {prs:List PR} {k:Nat} {ins:Bool}
noncomputable def sB (s u:V) (r:L):L:=put (put r "signs" s) "told" u
noncomputable def tB (s u:V) (r:L):L:=put (put r "written" s) "told" u
theorem EZ (hk:k<=1000) (hp:∀p∈prs,Po p) (hl:prs.length<=3) (h:Lw prs k ρ) (hi:lk ρ "inside" = some (.bool ins)):∃ρ',ex Tc (Cc 9) 1000000 0 bAll ρ []=some (.next ρ' [])/\Lw prs k ρ':=by
  have fi:∀{r:L},lk r "inside" = some (.bool ins)->lk (r.filter fun e=>["inside"].contains e.1) "inside" = some (.bool ins):=fun {r} h=>by
    rw [C4 (p:=fun x=>["inside"].contains x) rfl,h]
  -- twins
  have e1:ev Tc (Cc 9) (.cmpr ["inside"] wTw wPT (.loc "pairs") .nil) ρ []=some (.lst (prs.map fun p=>dv (38::tws ins (sh p),twt (sh p))),[]):=
    C5 h.p hl fun p hm=>cB_e (BM p _) (wTw_ok (hp p hm) (EY p _) (pk _ _ (pk _ _ (fi hi) (by decide)) (by decide)))
  generalize hr1:put ρ "twins" (.lst (prs.map fun p=>dv (38::tws ins (sh p),twt (sh p))))=r1
  have h1:Lw prs k r1:=hr1▸h.put _ _ (by decide) (by decide)
  have i1:lk r1 "inside" = some (.bool ins):=by rw [<- hr1];exact pk _ _ hi (by decide)
  have tb1:lk r1 "twins" = some (.lst (prs.map fun p=>dv (38::tws ins (sh p),twt (sh p)))):=by rw [<- hr1];exact Ab
  -- whole
  have e2:ev Tc (Cc 9) (wRd (wJ wE2 wPT "pairs")) r1 []=some (.lst (prs.map fun p=>dv (entV p.1++p.2,[])),[]):=by
    rw [F0 (wJ_ok h1.p hl (fun p hm=>cB_e (BM p _) (wE2_ok (hp p hm) (EY p _))) (fun p hm=>gd_wh (hp p hm))) i1 h1.s hk (fun w hw=>by
      obtain ⟨p,hm,rfl⟩:=List.mem_map.mp hw;exact gd_wh (hp p hm)) (by rw [List.length_map];exact hl),List.map_map,List.map_map]
    congr 3
    exact List.map_congr_left fun p hm=>congrArg dv (rd_cl (hp p hm).1 p.2 ins)
  generalize hr2:put r1 "whole" (.lst (prs.map fun p=>dv (entV p.1++p.2,[])))=r2
  have h2:Lw prs k r2:=hr2▸h1.put _ _ (by decide) (by decide)
  have i2:lk r2 "inside" = some (.bool ins):=by rw [<- hr2];exact pk _ _ i1 (by decide)
  have tb2:lk r2 "twins" = some (.lst (prs.map fun p=>dv (38::tws ins (sh p),twt (sh p)))):=by rw [<- hr2];exact pk _ _ tb1 (by decide)
  have w2:lk r2 "whole" = some (.lst (prs.map fun p=>dv (entV p.1++p.2,[]))):=by rw [<- hr2];exact Ab
  -- short
  have e3:ev Tc (Cc 9) (wRd (wJ wE3 wPT "pairs")) r2 []=some (.lst (prs.map fun p=>dv ((rdW ins (sh p)).1,twt (sh p))),[]):=by
    rw [F0 (wJ_ok h2.p hl (fun p hm=>cB_e (BM p _) (wE3_ok (hp p hm) (EY p _))) (fun p hm=>gd_sh (hp p hm))) i2 h2.s hk (fun w hw=>by
      obtain ⟨p,hm,rfl⟩:=List.mem_map.mp hw;exact gd_sh (hp p hm)) (by rw [List.length_map];exact hl),List.map_map,List.map_map]
    congr 3
    refine List.map_congr_left fun p hm=>congrArg dv ?_
    show rdW ins (sh p)=((rdW ins (sh p)).1,twt (sh p));rw [<- rd_told (hd_sh (hp p hm)) ins]
  generalize hr3:put r2 "short" (.lst (prs.map fun p=>dv ((rdW ins (sh p)).1,twt (sh p))))=r3
  have h3:Lw prs k r3:=hr3▸h2.put _ _ (by decide) (by decide)
  have i3:lk r3 "inside" = some (.bool ins):=by rw [<- hr3];exact pk _ _ i2 (by decide)
  have tb3:lk r3 "twins" = some (.lst (prs.map fun p=>dv (38::tws ins (sh p),twt (sh p)))):=by rw [<- hr3];exact pk _ _ tb2 (by decide)
  have w3:lk r3 "whole" = some (.lst (prs.map fun p=>dv (entV p.1++p.2,[]))):=by rw [<- hr3];exact pk _ _ w2 (by decide)
  have s3:lk r3 "short" = some (.lst (prs.map fun p=>dv ((rdW ins (sh p)).1,twt (sh p)))):=by rw [<- hr3];exact Ab
  -- right
  have e4:ev Tc (Cc 9) (wRd (wJ (.loc "written") wWT "twins")) r3 []=some (.lst (prs.map fun p=>dv ((rdW ins (sh p)).1,[])),[]):=by
    rw [F0 (wJ_ok (seg:=fun p=>tws ins (sh p)) tb3 hl (fun p hm=>cB_e (ρ':=tB (.str (38::tws ins (sh p))) (.lst (vS (twt (sh p)))) _) rfl (jl (pk _ _ Ab (by decide)))) (fun p hm=>gd_tw (hp p hm) ins)) i3 h3.s hk (fun w hw=>by
      obtain ⟨p,hm,rfl⟩:=List.mem_map.mp hw;exact gd_tw (hp p hm) ins) (by rw [List.length_map];exact hl),List.map_map,List.map_map]
    congr 3
    exact List.map_congr_left fun p hm=>congrArg dv (rd_twin (hd_sh (hp p hm)) ins)
  generalize hr4:put r3 "right" (.lst (prs.map fun p=>dv ((rdW ins (sh p)).1,[])))=r4
  have h4:Lw prs k r4:=hr4▸h3.put _ _ (by decide) (by decide)
  have i4:lk r4 "inside" = some (.bool ins):=by rw [<- hr4];exact pk _ _ i3 (by decide)
  have tb4:lk r4 "twins" = some (.lst (prs.map fun p=>dv (38::tws ins (sh p),twt (sh p)))):=by rw [<- hr4];exact pk _ _ tb3 (by decide)
  have w4:lk r4 "whole" = some (.lst (prs.map fun p=>dv (entV p.1++p.2,[]))):=by rw [<- hr4];exact pk _ _ w3 (by decide)
  have s4:lk r4 "short" = some (.lst (prs.map fun p=>dv ((rdW ins (sh p)).1,twt (sh p)))):=by rw [<- hr4];exact pk _ _ s3 (by decide)
  have g4:lk r4 "right" = some (.lst (prs.map fun p=>dv ((rdW ins (sh p)).1,[]))):=by rw [<- hr4];exact Ab
  -- the comparisons
  have e5:ev Tc (Cc 9) (.cmp .NotEq (.loc "whole") (.cmpr [] wD5 wPT (.loc "pairs") .nil)) r4 []=some (.bool false,[]):=
    Ef (jl w4) (C5 h4.p hl fun p hm=>cB_e (BM p _) (wD5_ok (hp p hm) (EY p _))) fun p _=>veq_dv 5 _ _
  have ca:ev Tc (Cc 9) (.cmp .NotEq (.loc "right") (.cmpr [] wD6 wST (.loc "short") .nil)) r4 []=some (.bool false,[]):=
    Ef (jl g4) (C5 s4 hl fun p hm=>cB_e (ρ':=sB (.str (rdW ins (sh p)).1) (.lst (vS (twt (sh p)))) _) rfl (jtup (jl (pk _ _ Ab (by decide))) rfl)) fun p _=>veq_dv 5 _ _
  have cb:ev Tc (Cc 9) (.cmp .NotEq (.cmpr [] (.loc "told") wST (.loc "short") .nil) (.cmpr [] (.loc "told") wWT (.loc "twins") .nil)) r4 []=some (.bool false,[]):=
    Ef (f:=fun p=>.lst (vS (twt (sh p)))) (C5 s4 hl fun p hm=>cB_e (ρ':=sB (.str (rdW ins (sh p)).1) (.lst (vS (twt (sh p)))) _) rfl (jl Ab))
      (C5 tb4 hl fun p hm=>cB_e (ρ':=tB (.str (38::tws ins (sh p))) (.lst (vS (twt (sh p)))) _) rfl (jl Ab)) fun p _=>veq_ss 6 _ _
  have e6:ev Tc (Cc 9) (.boo .Or (.cons (.cmp .NotEq (.loc "right") (.cmpr [] wD6 wST (.loc "short") .nil)) (.cons (.cmp .NotEq (.cmpr [] (.loc "told") wST (.loc "short") .nil) (.cmpr [] (.loc "told") wWT (.loc "twins") .nil)) .nil))) r4 []=some (.bool false,[]):=by
    rw [Aw];exact or_b ca (by rw [AH];exact cb)
  have e7:ev Tc (Cc 9) (.cmpr ["inside"] wK7 wPT (.loc "pairs") .nil) r4 []=some (.lst (prs.map fun p=>.bool (decide (lng (sh p)=p.1.dropLast)&&!(ins&&closeB (wA p.2 0)))),[]):=
    C5 h4.p hl fun p hm=>cB_e (BM p _) (wK7_ok (hp p hm) (EY p _) (pk _ _ (pk _ _ (fi i4) (by decide)) (by decide)))
  generalize hr5:put r4 "kept" (.lst (prs.map fun p=>.bool (decide (lng (sh p)=p.1.dropLast)&&!(ins&&closeB (wA p.2 0)))))=r5
  have h5:Lw prs k r5:=hr5▸h4.put _ _ (by decide) (by decide)
  have w5:lk r5 "whole" = some (.lst (prs.map fun p=>dv (entV p.1++p.2,[]))):=by rw [<- hr5];exact pk _ _ w4 (by decide)
  have s5:lk r5 "short" = some (.lst (prs.map fun p=>dv ((rdW ins (sh p)).1,twt (sh p)))):=by rw [<- hr5];exact pk _ _ s4 (by decide)
  have k5:lk r5 "kept" = some (.lst (prs.map fun p=>.bool (decide (lng (sh p)=p.1.dropLast)&&!(ins&&closeB (wA p.2 0))))):=by rw [<- hr5];exact Ab
  have ez:ev Tc (Cc 9) (.cmpz [] (.cmp .Eq (.loc "signs") (.loc "due")) wT8 (.loc "short") (.loc "whole") .nil) r5 []=some (.lst (prs.map fun p=>.bool (decide (lng (sh p)=p.1.dropLast)&&!(ins&&closeB (wA p.2 0)))),[]):=by
    refine ev_cmpz (σ1:=[]) (σ2:=[]) (a:=.lst (prs.map fun p=>dv ((rdW ins (sh p)).1,twt (sh p)))) (b:=.lst (prs.map fun p=>dv (entV p.1++p.2,[]))) (by rw [tc_zip];rfl) (jl s5) (jl w5) (HJ prs) (by rw [List.length_map];exact Nat.le_trans hl (by decide)) (B9 fun p hm=>?_)
    refine cB_e (ρ':=put (put (sB (.str (rdW ins (sh p)).1) (.lst (vS (twt (sh p)))) _) "due" (.str (entV p.1++p.2))) "none" (.lst [])) rfl ?_
    exact (jcmp (jl (pk _ _ (pk _ _ (pk _ _ Ab (by decide)) (by decide)) (by decide))) (jl (pk _ _ Ab (by decide))) rfl).trans (congrArg (fun z=>some (V.bool z,([]:St))) (rd_kept (hp p hm).1 p.2 ins))
  have e8:ev Tc (Cc 9) (.cmp .NotEq (.cmpz [] (.cmp .Eq (.loc "signs") (.loc "due")) wT8 (.loc "short") (.loc "whole") .nil) (.loc "kept")) r5 []=some (.bool false,[]):=
    Ef ez (jl k5) fun p _=>veq_bool 7 _ _
  refine ⟨r5,?_,h5⟩;rw [bAll,wq1,jasg e1,hr1,wq2,jasg e2,hr2,wq3,jasg e3,hr3,wq4,jasg e4,hr4,wq5,jiff e5,wq6,jiff e6,wq7,jasg e7,hr5,wq8,jiff e8,B1]
end
-- the law's head
theorem F2 (l:List V) (k:Nat) (σ:St) (hk:k<=1000) (hl:l.length<=big):slcV (.lst l) .none (.int k) σ=some (.lst (l.take k)):=by
  have hh:half=1000000000:=rfl;have wq2:bound (.int k)=some (some (k:Int)):=if_pos ⟨by exact Int.natCast_nonneg _,by exact Int.ofNat_le.mpr (Nat.le_trans (by assumption) (by decide))⟩
  have wq1:bound .none=some none:=rfl;rw [sl_lst wq1 wq2 hl]
  congr 2
  unfold cut;have e1:lo none l.length=0:=rfl
  have e2:hi (some (k:Int)) l.length=min k l.length:=by
    show (if (k:Int) < 0 then ((k:Int)+(l.length:Int)).toNat else min (k:Int).toNat l.length)=_
    rw [if_neg (by simp)];rfl
  rw [e1,e2,List.drop_zero,Nat.sub_zero,List.take_eq_take_iff];omega
theorem F3 (l:List Int):toInts (l.map V.int)=some l:=by
  induction l with
  | nil=>rfl
  | cons x l ih=>show (toInts (l.map V.int)).map _=_;rw [ih];rfl
theorem b_sum (l:List Int) (σ:St):bui Tc "sum" [.lst (l.map .int)] σ=some (.int (l.foldl (· + ·) 0),σ):=by
  rw [u_sum];show (toInts (l.map V.int)).map _=_;rw [F3];rfl
theorem cut_map {α β:Type} (f:α->β) (l u:Option Int) (xs:List α):cut l u (xs.map f)=(cut l u xs).map f:=by
  unfold cut;rw [List.length_map,List.map_take,List.map_drop]
theorem slc_int (ms:List Int) (a b:Int) (σ:St) (h:ms.length<=1000) (ha:-1000<=a/\a<=1000) (hb:-1000<=b/\b<=1000):∃l:List Int,slcV (.lst (ms.map .int)) (.int a) (.int b) σ=some (.lst (l.map .int)):=by
  have hh:half=1000000000:=rfl;have wq1:bound (.int a)=some (some a):=if_pos ⟨by omega,by omega⟩
  have wq2:bound (.int b)=some (some b):=if_pos ⟨by omega,by omega⟩
  refine ⟨cut (some a) (some b) ms,?_⟩;rw [sl_lst wq1 wq2 (by rw [List.length_map];exact Nat.le_trans h (by decide)),cut_map]
theorem a0_ok (ns:List Int) (hn:ns.length<=63) (C:Calls) (rest:MS):∃ms:List Int,0 < ms.length/\ms.length<=6/\ex Tc C 1000000 0 (.cons wa0 rest) [("script",.lst (ns.map .int))] []=ex Tc C 1000000 0 rest [("script",.lst (ns.map .int)),("numbers",.lst (ms.map .int))] []:=by
  have sl:=F2 (ns.map .int) 6 [] (by decide) (by rw [List.length_map];exact Nat.le_trans hn (by decide))
  have e1:ev Tc C (.slc (.loc "script") (.cst .none) (.cst (.int 6))) [("script",.lst (ns.map .int))] []=some (.lst ((ns.take 6).map .int),[]):=by
    rw [List.map_take];exact jslc (jl rfl) rfl rfl sl
  have tr:truth [] (.lst ((ns.take 6).map V.int))=some (!((ns.take 6).map V.int).isEmpty):=if_pos (by rw [List.length_map,List.length_take];exact Nat.le_trans (Nat.min_le_left _ _) (by decide))
  cases h:ns.take 6 with
  | nil=>
    rw [h] at e1 tr;refine ⟨[0],by decide,by decide,?_⟩
    refine jasg ?_
    rw [Aw,AW,e1,B3,tr];rfl
  | cons x l=>
    have hl:(x::l).length<=6:=by rw [<- h,List.length_take];exact Nat.min_le_left _ _
    rw [h] at e1 tr;refine ⟨x::l,by rw [List.length_cons];exact Nat.succ_pos _,hl,?_⟩
    refine jasg ?_
    rw [Aw,AW,e1,B3,tr];rfl
theorem rng_six:∀n:Nat,n<=6->∃js:List Nat,rangeL 0 (n:Nat) 2=js.map (fun (i:Nat)=>V.int i)/\js.length<=3/\∀i∈js,i < n
  | 0,_=>⟨[],rfl,by decide,by decide⟩
  | 1,_=>⟨[0],rfl,by decide,by decide⟩
  | 2,_=>⟨[0],rfl,by decide,by decide⟩
  | 3,_=>⟨[0,2],rfl,by decide,by decide⟩
  | 4,_=>⟨[0,2],rfl,by decide,by decide⟩
  | 5,_=>⟨[0,2,4],rfl,by decide,by decide⟩
  | 6,_=>⟨[0,2,4],rfl,by decide,by decide⟩
  | n+7,h=>absurd h (by omega)
theorem prs_ok (ms:List Int) (hm:ms.length<=6) (ρ:L) (hρ:lk ρ "numbers" = some (.lst (ms.map .int))):∀js:List Nat,(∀i∈js,i < ms.length)->∃prs:List PR,prs.length=js.length/\(∀p∈prs,Po p)/\cmprL (cB Tc (Cc 9) ["numbers"] a2E (.loc "i") .nil ρ) (js.map fun (i:Nat)=>V.int i) []=some (prs.map pv,[])
  | [],_=>⟨[],rfl,(fun _ h=>nomatch h),rfl⟩
  | i::js,h=>by
    have hh:half=1000000000:=rfl;obtain ⟨prs,h1,h2,h3⟩:=prs_ok ms hm ρ hρ js fun j hj=>h j (List.mem_cons_of_mem _ hj)
    have hi:=h i List.mem_cons_self;obtain ⟨l,el⟩:=slc_int ms ((i:Int)+1) ((i:Int)+2) [] (by exact Nat.le_trans (by assumption) (by decide)) (by omega) (by omega)
    have hx:(ms.map V.int)[i]? = some (.int ms[i]):=by rw [List.getElem?_map,List.getElem?_eq_getElem hi];rfl
    have es:subV Tc (.lst (ms.map V.int)) (.int (i:Nat)) []=some (.int ms[i]):=Dt ⟨by exact Int.natCast_nonneg _,by omega⟩ (idx_p (Int.natCast_nonneg _) (by rw [List.length_map];exact Int.ofNat_lt.mpr (by assumption))) (by rw [Int.toNat_natCast];exact hx)
    obtain ⟨nm,tail,q1,q2,e⟩:=ref_ok 7 [] ms[i] (l.foldl (· + ·) 0);rw [show 7+2=9 from rfl] at e;have n1:lk (put (ρ.filter fun e=>["numbers"].contains e.1) "i" (.int (i:Nat))) "numbers" = some (.lst (ms.map .int)):=by rw [Ad (by decide),C4 (p:=fun x=>["numbers"].contains x) rfl,hρ]
    have i1:lk (put (ρ.filter fun e=>["numbers"].contains e.1) "i" (.int (i:Nat))) "i" = some (.int (i:Nat)):=Ab
    have c:cB Tc (Cc 9) ["numbers"] a2E (.loc "i") .nil ρ (.int (i:Nat)) []=some (some (pv (nm,tail)),[]):=by
      refine cB_e (ρ':=put (ρ.filter fun e=>["numbers"].contains e.1) "i" (.int (i:Nat))) rfl ?_
      exact jcal (f:=792) rfl (jsc (jsub (jl n1) (jl i1) es) (js1 (jbui tc_sum (js1 (jslc (jl n1) (jbin (jl i1) rfl rfl) (jbin (jl i1) rfl rfl) el)) (b_sum l [])))) e
    refine ⟨(nm,tail)::prs,by rw [List.length_cons,List.length_cons,h1],fun p hp=>?_,?_⟩
    . rcases List.mem_cons.mp hp with rfl | hp
      . exact ⟨q1,q2⟩
      . exact h2 p hp
    . show (cB Tc (Cc 9) ["numbers"] a2E (.loc "i") .nil ρ (.int (i:Nat)) []).bind _=_;rw [c,Option.bind_some];dsimp only;rw [h3];rfl
theorem law_ok (ns:List Int) (hn:ns.length<=63):∃σ,ex Tc (Cc 9) 1000000 0 ms811 [("script",.lst (ns.map V.int))] []=some (.ret (.bool true) σ):=by
  have hh:half=1000000000:=rfl;obtain ⟨ms,m0,m6,e0⟩:=a0_ok ns hn (Cc 9) (.cons wa1 (.cons wa2 (.cons wa3 (.cons (.ret (.cst (.bool true))) .nil))));have m:=EX (a:=ms.foldl (· + ·) 0) (b:=16) (by decide)
  obtain ⟨j,hj⟩:=Int.eq_ofNat_of_zero_le m.1;generalize hr0:[("script",V.lst (ns.map .int)),("numbers",.lst (ms.map .int))]=r0 at e0;have n0:lk r0 "numbers" = some (.lst (ms.map .int)):=by rw [<- hr0];rfl
  have e1:ev Tc (Cc 9) (.bin false .Add (.cst (.int 1)) (.bin false .Mod (.bui "sum" (.cons (.loc "numbers") .nil)) (.cst (.int 16)))) r0 []=some (.int ((1+j:Nat):Int),[]):=by
    exact jbin rfl (jbin (jbui tc_sum (js1 (jl n0)) (b_sum ms [])) rfl (hj▸Bk _ _ _ (by decide))) rfl
  generalize hr1:put r0 "size" (.int ((1+j:Nat):Int))=r1;have n1:lk r1 "numbers" = some (.lst (ms.map .int)):=by rw [<- hr1];exact pk _ _ n0 (by decide)
  have s1:lk r1 "size" = some (.int ((1+j:Nat):Int)):=by rw [<- hr1];exact Ab
  obtain ⟨js,g1,g2,g3⟩:=rng_six ms.length m6;obtain ⟨prs,p1,p2,p3⟩:=prs_ok ms m6 r1 n1 js g3
  have bl:bui Tc "len" [.lst (ms.map V.int)] []=some (.int (ms.length:Nat),[]):=by
    rw [u_len];show (if (ms.map V.int).length<=big then some (V.int (ms.map V.int).length,([]:St)) else none)=_
    rw [if_pos (by rw [List.length_map];exact Nat.le_trans m6 (by decide)),List.length_map]
  have br:bui Tc "range" [.int 0,.int (ms.length:Nat),.int 2] []=some (.rng 0 (ms.length:Nat) 2,[]):=(u_rng _).trans (by rfl)
  have er:ev Tc (Cc 9) a2R r1 []=some (.rng 0 (ms.length:Nat) 2,[]):=by
    exact jbui tc_range (jsc rfl (jsc (jbui Bd (js1 (jl n1)) bl) rfl)) br
  have it:itemsV Tc (.rng 0 (ms.length:Nat) 2)=some (js.map fun (i:Nat)=>V.int i):=by
    rw [<- g1];exact if_pos ⟨by decide,by decide,by exact Int.natCast_nonneg _,by exact Int.ofNat_le.mpr (Nat.le_trans (by assumption) (by decide)),by decide,by decide⟩
  have e2:ev Tc (Cc 9) (.cmpr ["numbers"] a2E (.loc "i") a2R .nil) r1 []=some (.lst (prs.map pv),[]):=Cm (σ1:=[]) er it rfl (by rw [List.length_map];exact Nat.le_trans g2 (by decide)) p3
  generalize hr2:put r1 "pairs" (.lst (prs.map pv))=r2;have h2:Lw prs (1+j) r2:=⟨by rw [<- hr2];exact Ab,by rw [<- hr2];exact pk _ _ s1 (by decide)⟩
  obtain ⟨r3,e3,h3⟩:=EZ (by omega) p2 (by rw [p1];exact g2) (h2.put "inside" (.bool false) (by decide) (by decide)) Ab
  obtain ⟨r4,e4,h4⟩:=EZ (by omega) p2 (by rw [p1];exact g2) (h3.put "inside" (.bool true) (by decide) (by decide)) Ab
  refine ⟨[],?_⟩;rw [ms811_eq,e0,wa1,jasg e1,hr1,wa2,jasg e2,hr2,Ac,wa3,BE _ _ _ rfl,Fv,evsK,AL,Bc,evsK,AL,Bc,evsN,Bv,Bv,kTup_2,kFr_s _ _ rfl,show itemsV Tc (.tup [.bool false,.bool true])=some [.bool false,.bool true] from rfl,D1,AS,Cd,Ay,kL_s,e3,kB_n,AS,Cd,Ay,kL_s,e4,kB_n,forL_nil,kS_n,Ac,Bb,AL,D0,kS_r]
end Mine
section
open PySem PySem.W PyProof.Rows PySem.Calls PySem.SeqAt
set_option maxRecDepth 100000
namespace Mine
noncomputable def T0:Tab:={ Tc with lpx:=fun _ _=>false }
noncomputable def C0:Calls:=callsL T0 1000000 shs2 1
theorem lpC_0:LpC T0 C0:=⟨rfl,rfl,fun x σ=>by
  have h:C0 199 [.stat 236,.str x] [] σ=fcall T0 (callsL T0 1000000 shs2 0) 1000000 true ms199 [("self",.stat 236),("key",.str x)] σ:=rfl;have e:vin T0 σ (.str x) (.stat 43)=some (inK x):=congrArg some (D6 x);have a:attrV T0 (.stat 236) "_data" σ=some (.stat 43):=rfl;rw [h,Ax,ms199,Ac,Bb,DQ,An,As _ (by decide),AN,kv_s,Co,Ck,An,AN,kv_s,Cn,a,kv_s,Bj,c_in,e]
  rfl,rfl,rfl⟩
theorem tab0 {prog:Program} {w:World} {K:Frag} {hO:Heap} (TK:TabOk prog w K hO Tc):TabOk prog w K hO T0:=⟨TK.X,TK.meth,TK.dat,TK.cattr,TK.scls,TK.sattr,TK.sdS,TK.sdK,TK.fn,TK.names,TK.nolimit⟩
theorem BN {α:Type} {o:Option α} {f:α->Bool} (h:o.any f=true):∃a,o=some a/\f a=true:=by
  cases o with
  | none=>cases h
  | some a=>exact ⟨a,rfl,h⟩
theorem lpx_is {f:Addr} {vs:List V} (h:Tc.lpx f vs=true):∃s,f=227/\vs=[.stat 236,.str s]/\s.length<=1000/\lpT s (s.length+1)=none:=by
  obtain ⟨p,h1,h2⟩:=BN (show (as2 vs).any (fun p=>f==227&&(asSt p.1==some 236&&(asS p.2).any noPre))=true from h)
  obtain ⟨s,h3,h4⟩:=BN (aR (aR h2));have e1:asSt p.1=some 236:=eq_of_beq (aL (aR h2));obtain ⟨h5,h6⟩:=(B7 s).mp h4;refine ⟨s,eq_of_beq (aL h2),?_,h5,h6⟩
  rw [DG h1,A8 h3,show p.1=.stat 236 by
    revert e1;cases p.1<;>intro e1<;>first | exact nn e1 | exact sme e1 rfl]
theorem lpx_ok {prog:Program} {w:World} {K:Frag} {hO:Heap} (TK:TabOk prog w K hO Tc) (KE:KeOk hO) (H:∀sh∈shs2,ShOk K sh) (hck:defG K 227 (lpCk lpA lpB lpE)=true) (hl:locCk K 227 ["self","prefix"]=true)
    (hbd:∀(S:Setting) (a b:Value),(fdOf K 227).map (fun fd=>peek K S (bindArgs fd ⟨[a,b],[]⟩))=some (some [(Str.ofString "self",a),(Str.ofString "prefix",b)])) (n:Nat):LpxOk prog w hO Tc (n+10):=by
  intro f vs h;obtain ⟨s,rfl,rfl,hs,hno⟩:=lpx_is h;refine ⟨Nat.le_add_left _ _,fun A σ μ st cs hh hd hu rr hg hv R k=>?_⟩
  have TK0:=tab0 TK;have LO0:∀n,0<=n->LpxOk prog w hO T0 n:=fun n _ f vs h=>nt h
  obtain ⟨fd,body,hf,D,hck⟩:=G3 hck;unfold locCk at hl;rw [hf] at hl;simp only [List.all_eq_true,Bool.or_eq_true,beq_iff_eq] at hl;obtain ⟨c1,r1,rfl,v1,hv⟩:=hv;obtain ⟨c2,r2,rfl,v2,hv⟩:=hv;cases (show r2=[] from hv);unfold lpT at hno;rw [List.take_length] at hno
  have hk:inK s=false:=by
    cases hk:inK s with
    | false=>rfl
    | true=>rw [hk,if_pos rfl] at hno;cases hno
  rw [hk,if_neg Bool.false_ne_true] at hno;have hl1:lk [("self",V.stat 236),("prefix",.str s)] "prefix" = some (.str s):=rfl;have hl2:lk [("self",V.stat 236),("prefix",.str s)] "self" = some (.stat 236):=rfl;have e1:=lpA_ok (N:=1000000) (nb:=σ.length) (σ:=σ) lpC_0 hl1 hl2;rw [hk,if_neg Bool.false_ne_true] at e1;obtain ⟨ρ',hρ,e2⟩:=lpB_ok (N:=1000000) (nb:=σ.length) (σ:=σ) lpC_0 hs hl1 hl2;rw [hno] at e2;have e3:evs T0 C0 lpE ρ' σ=some ([.str s],σ):=by rw [lpE,evsK,An,hρ];rfl
  refine lpCk_inv (P:=fun body=>DefAt K 227 fd body->codeAny (model prog w) A (.call (.ref 227) ⟨[c1,c2],[]⟩) R st) hck (fun x1 x2 y xs p1 p3 p4 k1 k2 k3 k4 D=>?_) D
  refine Fq (n:=1) (N:=1000000) TK0 (B0 (b:=0) TK0 KE LO0 H 1) (LO0 _ (Nat.zero_le _)) KE D k1 k2 k3 k4 (binds:=[(Str.ofString "self",c1),(Str.ofString "prefix",c2)]) hh (by omega) (by omega) rr hg (kp_binds (rr.X TK0) fun S=>?_) (fun z hz=>?_) (fun z u hz=>?_) e1 e2 e3 (by show 1<=10;decide) k
  . have:=hbd S c1 c2
    rw [hf] at this;simpa using this
  . rcases List.mem_cons.mp hz with rfl | hz
    . exact hl "self" (by simp)
    . rw [List.mem_singleton.mp hz];exact hl "prefix" (by simp)
  . unfold lk at hz;split at hz
    . rename_i q;cases hz;subst q;exact ⟨c1,by rw [List.reverse_cons,List.reverse_cons,List.reverse_nil];show List.lookup _ [(_,c2),(_,c1)]=_;rw [List.lookup_cons,show (Str.ofString "self"==Str.ofString "prefix")=false from by decide +kernel];simp,v1,hl "self" (by simp)⟩
    . unfold lk at hz;split at hz
      . rename_i q;cases hz;subst q;exact ⟨c2,by simp,v2,hl "prefix" (by simp)⟩
      . cases hz
end Mine
end
section
open PySem PySem.W PyProof.Rows
set_option maxRecDepth 100000
set_option maxHeartbeats 8000000
namespace Mine
noncomputable def pE:Program:=PySem.Challenge.rw_te0030_05.row.prog
noncomputable def vs (s:String) (n:Nat):Value:=.str (Str.ofString s) n
noncomputable def vr (a:Nat):Value:=.ref a
noncomputable def vi (i:Int) (n:Nat):Value:=.int i n
noncomputable def vt (s:String):Value:=.type s
noncomputable def vn:Value:=.none
noncomputable def vT:Value:=.bool true
noncomputable def vF:Value:=.bool false
noncomputable def de (P:Params) (s:String) (n:Nat) (v:Value):DictEntry:=⟨PyData.keyHash P (Str.ofString s),.str (Str.ofString s) n,v⟩
noncomputable def ar {α:Type}:Array α:=#[]
noncomputable def la {α:Type} (l:List α):Array α:=⟨l⟩
noncomputable def no {α:Type}:Option α:=none
noncomputable def ob (c:Value) (d:Option Addr) (x:Data) (s:Array (Option Value)):Obj:=⟨c,d,x,s⟩
noncomputable def so (s:String):Str:=Str.ofString s
noncomputable def fdm (a b:Str) (ps:Arguments) (bd:FuncBody) (sc:Scope) (g:Addr) (cl:List (Str×Addr)) (df kw doc pm:Value) (an:Option Addr) (cd ct:Value) (bl:Addr):FuncData:=⟨a,b,ps,bd,sc,g,cl,df,kw,doc,pm,an,cd,ct,bl⟩
noncomputable def d3 (l:List DictEntry) (n:Nat):Obj:=ob (vt "dict") no (Data.dict (la l) n) ar
noncomputable def st (i:Nat):Stmt:=((behindTheImports pE)[i]?).getD default
noncomputable def cbd:Stmt->List Stmt
  | .ClassDef _ _ _ b ..=>b
  | _=>[]
noncomputable def sm (i j:Nat):Stmt:=((cbd (st i))[j]?).getD default
noncomputable def fps:Stmt->Arguments
  | .FunctionDef _ a ..=>a
  | _=>default
noncomputable def fbd:Stmt->List Stmt
  | .FunctionDef _ _ b ..=>b
  | _=>[]
noncomputable def fsc:Stmt->Scope
  | .FunctionDef _ _ _ _ _ _ s ..=>s
  | _=>default
noncomputable def lf:Life:=(Life.mk [] [] [] 0 [] [] Bool.false ar [] 0 Bool.false Bool.false Bool.false 0 [2000,10,10] Bool.false 0 Bool.true [] [] 0 Bool.false)
noncomputable def putL (t:BT):List (Nat×Obj)->BT
  | []=>t
  | e::r=>putL (t.ins e.1 e.2) r
noncomputable def h0 (xa:String) (xb:Nat) (xc:String) (xd:Nat) (xe:Nat) (xf:Nat) (xg:Nat) (xh:Nat):Obj:=(ob (vt "code") no (Data.fields (la [(vs xa xb),(vs xc (xb+1)),(vs "/claim/cut.py" (xb+2)),(vi xd 0),(vi xe 0),(vi 0 0),(vi 0 0),(vi xf 0),(vr xg),vT,(vi 181 0),(vr (xg+1)),vn,(vr (xg+2)),(vr (xg+3)),(vr (xg+4)),(vi xh 0),(vi xd 0),(vs "/claim/cut.py" (xh+1))])) ar)
noncomputable def h1 (xa:String) (xb:String) (xc:Nat) (xd:Nat) (xe:Nat) (xf:Nat) (xg:String) (xh:Nat) (xi:Nat):Obj:=(ob (vt "function") no (Data.func (fdm (so xa) (so xb) (fps (sm xc xd)) (FuncBody.stmts (fbd (sm xc xd))) (fsc (sm xe xf)) 3 [] vn vn vn (vs xg xh) no (vr xi) vn 0)) ar)
noncomputable def h2 (xa:String) (xb:String) (xc:Nat) (xd:Nat) (xe:Nat) (xf:Nat):Obj:=(ob vn no (Data.func (fdm (so xa) (so xb) (fps (sm xc xd)) (FuncBody.stmts (fbd (sm xc xd))) (fsc (sm xe xf)) 0 [] vn vn vn vn no vn vn 0)) ar)
noncomputable def h3 (xa:String):Obj:=(ob (vt xa) no (Data.seq ar 0) ar)
noncomputable def h4  : Obj:=(ob vn no (Data.fields ar) ar)
noncomputable def h5 (xa:String) (xb:Nat) (xc:String):Obj:=(ob (vt "tuple") no (Data.seq (la [(vs xa xb),(vs xc (xb+1))]) 0) ar)
noncomputable def h6 (xa:String) (xb:Nat):Obj:=(ob (vt "tuple") no (Data.seq (la [(vs xa xb)]) 0) ar)
noncomputable def h7 (xa:String) (xb:Nat) (xc:String) (xd:Nat) (xe:Nat):Obj:=(ob (vt "function") no (Data.func (fdm (so xa) (so xa) (fps (st xb)) (FuncBody.stmts (fbd (st xb))) (fsc (st xb)) 3 [] vn vn vn (vs xc xd) no (vr xe) vn 0)) ar)
noncomputable def h8 (xa:String) (xb:Nat):Obj:=(ob vn no (Data.func (fdm (so xa) (so xa) (fps (st xb)) (FuncBody.stmts (fbd (st xb))) (fsc (st xb)) 0 [] vn vn vn vn no vn vn 0)) ar)
noncomputable def h9 (xa:String) (xb:Nat):Obj:=(ob (vt xa) no (Data.seq (la [(vs "AMP" 299),(vs "AMP;" 302),(vs "Eacute" 305),(vs "Eacute;" 308),(vs "Mopf;" 311),(vs "ac;" 314),(vs "acE;" 317),(vs "acute" 320),(vs "acute;" 323),(vs "amp" 326),(vs "amp;" 329),(vs "ang;" 332),(vs "angle;" 335),(vs "bne;" 338),(vs "copy" 341),(vs "copy;" 344),(vs "eacute" 347),(vs "eacute;" 350),(vs "frac12" 353),(vs "frac12;" 356),(vs "gt" 359),(vs "gt;" 362),(vs "lt" 365),(vs "lt;" 368),(vs "nbsp" 371),(vs "nbsp;" 374),(vs "not" 377),(vs "not;" 380),(vs "notin;" 383),(vs "notni;" 386),(vs "para" 389),(vs "para;" 392),(vs "parallel;" 395),(vs "quot" 398),(vs "quot;" 401),(vs "sup1" 403),(vs "sup1;" 405),(vs "sup2" 407),(vs "sup2;" 409),(vs "sup;" 411),(vs "times" 413),(vs "times;" 415),(vs "timesb;" 417)]) xb) ar)
noncomputable def h10 (xa:String) (xb:Nat) (xc:Nat) (xd:Nat):Obj:=(ob (vt "code") no (Data.fields (la [(vs xa xb),(vs xa (xb+1)),(vs "/claim/cut.py" (xb+2)),(vi xc 0),(vi 0 0),(vi 0 0),(vi 0 0),(vi 0 0),(vr xd),vF,(vi 181 0),(vr (xd+1)),vn,vn,vn,vn,(vi (xb+3) 0),(vi xc 0),(vs "/claim/cut.py" (xb+4))])) ar)
noncomputable def h11 (xa:String) (xb:Nat) (xc:Nat) (xd:Nat) (xe:Nat):Obj:=(ob (vt "type") no (Data.cls (PySem.ClassData.mk (so xa) [(vt "object")] [(vr xb),(vt "object")] xc (so xa) Bool.true [] [] Bool.false no Bool.false)) (la [(some (vr xd)),no,(some (vs xa xe)),(some (vs xa (xe+8))),(some (PySem.Value.builtin "object.__new__")),(some vT)]))
noncomputable def h12 (xa:String) (xb:Nat) (xc:Nat) (xd:Nat) (xe:Nat):Obj:=(ob (vt "code") no (Data.fields (la [(vs xa xb),(vs xa (xb+1)),(vs "/claim/cut.py" (xb+2)),(vi xc 0),(vi xd 0),(vi 0 0),(vi 0 0),(vi 3 0),(vr xe),vT,(vi 181 0),(vr (xe+1)),vn,vn,vn,(vr (xe+2)),(vi (xb+3) 0),(vi xc 0),(vs "/claim/cut.py" (xb+4))])) ar)
noncomputable def h13 (xa:String) (xb:String) (xc:Nat) (xd:Nat) (xe:Nat) (xf:String) (xg:Nat):Obj:=(ob (vt "function") no (Data.func (fdm (so xa) (so xb) (fps (sm xc xd)) (FuncBody.stmts (fbd (sm xc xd))) (fsc (sm xc xd)) 3 [] (vr xe) vn vn (vs xf xg) no (vr (xe+6)) vn 0)) ar)
noncomputable def h14 (xa:String) (xb:Nat) (xc:String) (xd:String):Obj:=(ob (vt "tuple") no (Data.seq (la [(vs xa xb),(vs xc (xb+1)),(vs xd (xb+2))]) 0) ar)
noncomputable def h15 (xa:Nat) (xb:Nat) (xc:String) (xd:Nat):Obj:=(ob (vt "frame") no Data.plain (la [(some (vr xa)),(some (vr 3)),(some (vr xb)),no,(some (vs xc xd)),no,(some (vr 0))]))
noncomputable def h16 (xa:Nat) (xb:Nat):Obj:=(ob (vt "getset_descriptor") no (Data.fields (la [(vs "__dict__" xa),(vr xb),(PySem.Value.builtin "function.__dict__"),(PySem.Value.builtin "function.__dict__#set")])) ar)
noncomputable def h17 (xa:String) (xb:String) (xc:Nat) (xd:String) (xe:String) (xf:String) (xg:String) (xh:String) (xi:String) (xj:String) (xk:String) (xl:String) (xm:Nat):Obj:=(ob (vt xa) no (Data.seq (la [(vs xb xc),(vs xd (xc+1)),(vs xe (xc+2)),(vs xf (xc+3)),(vs xg (xc+4)),(vs xh (xc+5)),(vs xi (xc+6)),(vs xj (xc+7)),(vs xk (xc+8)),(vs xl (xc+9))]) xm) ar)
noncomputable def h18 (xa:String) (xb:Nat) (xc:String) (xd:String) (xe:String):Obj:=(ob (vt "tuple") no (Data.seq (la [(vs xa xb),(vs xc (xb+1)),(vs xd (xb+2)),(vs xe (xb+3))]) 0) ar)
noncomputable def h19 (xa:Nat):Obj:=(ob (vt "StopIteration") no (Data.fields (la [(vr xa),vn,vn,vn,vF,vn])) ar)
noncomputable def h20 (xa:Nat) (xb:Nat):Obj:=(ob (vt "getset_descriptor") no (Data.fields (la [(vs "__weakref__" xa),(vr xb),(PySem.Value.builtin "ExceptionGroup.__weakref__"),vn])) ar)
noncomputable def h21  : Obj:=(ob (vt "builtin_function_or_method") no (Data.fields (la [(PySem.Value.builtin "type.__prepare__"),(vt "type")])) ar)
noncomputable def h22 (xa:Nat):Obj:=(ob (vt "builtin_function_or_method") no (Data.fields (la [(PySem.Value.builtin "object.__init_subclass__"),(vr xa)])) ar)
noncomputable def h23 (xa:String) (xb:Nat) (xc:String) (xd:String) (xe:String) (xf:String):Obj:=(ob (vt "tuple") no (Data.seq (la [(vs xa xb),(vs xc (xb+1)),(vs xd (xb+2)),(vs xe (xb+3)),(vs xf (xb+4))]) 0) ar)
noncomputable def h24 (xa:Nat):Obj:=(ob (vt "super") no (Data.fields (la [(vr xa),(vr xa),(vr xa)])) ar)
noncomputable def h25  : Obj:=(ob (vt "tuple") no (Data.seq (la [(vt "object")]) 0) ar)
noncomputable def h26 (xa:Nat):Obj:=(ob (vt "str_ascii_iterator") no (Data.fields (la [vn,(vi xa 0)])) ar)
noncomputable def o5:=h3 "tuple"
noncomputable def o6:=h4
noncomputable def o9z:=h10 "<module>" 182 1 11
noncomputable def oa0:=h15 13 3 "__main__" 164
noncomputable def n3_0 (P:Params):List DictEntry:=[(de P "__name__" 165 (vs "__main__" 164)),(de P "__doc__" 166 vn),(de P "__package__" 167 vn),(de P "__loader__" 168 (PySem.Value.builtin "__main__.__loader__#opaque")),(de P "__spec__" 169 vn),(de P "__annotations__" 170 (vr 6)),(de P "__builtins__" 171 (vr 4)),(de P "__file__" 173 (vs "/claim/cut.py" 172)),(de P "__cached__" 174 vn),(de P "_wall" 193 (vr 21))]
noncomputable def oe4 (P:Params):=d3 (n3_0 P) 10
noncomputable def oe5:=(ob vn no (Data.fields (la [(vi 1 0),(vi 0 0),(vr 20)])) ar)
noncomputable def oa:=h6 "k" 190
noncomputable def oa1:=h8 "_wall" 0
noncomputable def oe:=h0 "_wall" 187 "_wall" 1 1 3 15 191
noncomputable def og:=h7 "_wall" 0 "__main__" 164 20
noncomputable def n3_1 (P:Params):List DictEntry:=(de P "__name__" 165 (vs "html5lib.constants" 194))::(n3_0 P).drop 1
noncomputable def oe6 (P:Params):=d3 (n3_1 P) 10
noncomputable def n3_2 (P:Params):List DictEntry:=n3_1 P++[(de P "EOF" 196 vn)]
noncomputable def oe7 (P:Params):=d3 (n3_2 P) 11
noncomputable def n3_3 (P:Params):List DictEntry:=n3_2 P++[(de P "spaceCharacters" 202 (vr 22))]
noncomputable def oe8 (P:Params):=d3 (n3_3 P) 12
noncomputable def oh:=h23 "\t" 197 "\n" "\x0c" " " "\x0d"
noncomputable def n3_4 (P:Params):List DictEntry:=n3_3 P++[(de P "asciiLetters" 256 (vr 27))]
noncomputable def oe9 (P:Params):=d3 (n3_4 P) 13
noncomputable def oa2 (P:Params):=(ob (vt "list") no (Data.seq (la [(vs "a" 204),(vs "b" 205),(vs "c" 206),(vs "d" 207),(vs "e" 208),(vs "f" 209),(vs "g" 210),(vs "h" 211),(vs "i" 212),(vs "j" 213),(vs "k" 214),(vs "l" 215),(vs "m" 216),(vs "n" 217),(vs "o" 218),(vs "p" 219),(vs "q" 220),(vs "r" 221),(vs "s" 222),(vs "t" 223),(vs "u" 224),(vs "v" 225),(vs "w" 226),(vs "x" 227),(vs "y" 228),(vs "z" 229),(vs "A" 230),(vs "B" 231),(vs "C" 232),(vs "D" 233),(vs "E" 234),(vs "F" 235),(vs "G" 236),(vs "H" 237),(vs "I" 238),(vs "J" 239),(vs "K" 240),(vs "L" 241),(vs "M" 242),(vs "N" 243),(vs "O" 244),(vs "P" 245),(vs "Q" 246),(vs "R" 247),(vs "S" 248),(vs "T" 249),(vs "U" 250),(vs "V" 251),(vs "W" 252),(vs "X" 253),(vs "Y" 254),(vs "Z" 255)]) 52) ar)
noncomputable def oa3:=h26 52
noncomputable def oa4:=h19 25
noncomputable def oj (P:Params):=(ob (vt "tuple") no (Data.seq (la [(vs "a" 204),(vs "b" 205),(vs "c" 206),(vs "d" 207),(vs "e" 208),(vs "f" 209),(vs "g" 210),(vs "h" 211),(vs "i" 212),(vs "j" 213),(vs "k" 214),(vs "l" 215),(vs "m" 216),(vs "n" 217),(vs "o" 218),(vs "p" 219),(vs "q" 220),(vs "r" 221),(vs "s" 222),(vs "t" 223),(vs "u" 224),(vs "v" 225),(vs "w" 226),(vs "x" 227),(vs "y" 228),(vs "z" 229),(vs "A" 230),(vs "B" 231),(vs "C" 232),(vs "D" 233),(vs "E" 234),(vs "F" 235),(vs "G" 236),(vs "H" 237),(vs "I" 238),(vs "J" 239),(vs "K" 240),(vs "L" 241),(vs "M" 242),(vs "N" 243),(vs "O" 244),(vs "P" 245),(vs "Q" 246),(vs "R" 247),(vs "S" 248),(vs "T" 249),(vs "U" 250),(vs "V" 251),(vs "W" 252),(vs "X" 253),(vs "Y" 254),(vs "Z" 255)]) 0) ar)
noncomputable def n3_5 (P:Params):List DictEntry:=n3_4 P++[(de P "digits" 268 (vr 32))]
noncomputable def oea (P:Params):=d3 (n3_5 P) 14
noncomputable def oa5:=h17 "list" "0" 258 "1" "2" "3" "4" "5" "6" "7" "8" "9" 10
noncomputable def oa6:=h26 10
noncomputable def oa7:=h19 30
noncomputable def om:=h17 "tuple" "0" 258 "1" "2" "3" "4" "5" "6" "7" "8" "9" 0
noncomputable def n3_6 (P:Params):List DictEntry:=n3_5 P++[(de P "hexDigits" 292 (vr 37))]
noncomputable def oeb (P:Params):=d3 (n3_6 P) 15
noncomputable def oa8:=(ob (vt "list") no (Data.seq (la [(vs "0" 270),(vs "1" 271),(vs "2" 272),(vs "3" 273),(vs "4" 274),(vs "5" 275),(vs "6" 276),(vs "7" 277),(vs "8" 278),(vs "9" 279),(vs "a" 280),(vs "b" 281),(vs "c" 282),(vs "d" 283),(vs "e" 284),(vs "f" 285),(vs "A" 286),(vs "B" 287),(vs "C" 288),(vs "D" 289),(vs "E" 290),(vs "F" 291)]) 22) ar)
noncomputable def oa9:=h26 22
noncomputable def oaa:=h19 35
noncomputable def oo:=(ob (vt "tuple") no (Data.seq (la [(vs "0" 270),(vs "1" 271),(vs "2" 272),(vs "3" 273),(vs "4" 274),(vs "5" 275),(vs "6" 276),(vs "7" 277),(vs "8" 278),(vs "9" 279),(vs "a" 280),(vs "b" 281),(vs "c" 282),(vs "d" 283),(vs "e" 284),(vs "f" 285),(vs "A" 286),(vs "B" 287),(vs "C" 288),(vs "D" 289),(vs "E" 290),(vs "F" 291)]) 0) ar)
noncomputable def n3_7 (P:Params):List DictEntry:=n3_6 P++[(de P "asciiLower" 298 (vr 42))]
noncomputable def oec (P:Params):=d3 (n3_7 P) 16
noncomputable def oed:=(ob vn no (Data.fields (la [(vi 1 0),(vi 0 0),(vr 20),(vi 10 0),(vi 0 0),(vr 41)])) ar)
noncomputable def oab:=h8 "asciiLower" 7
noncomputable def oq:=h12 "asciiLower" 293 10 1 38
noncomputable def ou:=h7 "asciiLower" 7 "html5lib.constants" 194 41
noncomputable def n3_8 (P:Params):List DictEntry:=n3_7 P++[(de P "entities" 428 (vr 43))]
noncomputable def oee (P:Params):=d3 (n3_8 P) 17
noncomputable def ow (P:Params):=(ob (vt "dict") no (Data.dict (la [(de P "AMP" 299 (vs "&" 300)),(de P "AMP;" 302 (vs "&" 303)),(de P "Eacute" 305 (vs "É" 306)),(de P "Eacute;" 308 (vs "É" 309)),(de P "Mopf;" 311 (vs "𝕄" 312)),(de P "ac;" 314 (vs "∾" 315)),(de P "acE;" 317 (vs "∾̳" 318)),(de P "acute" 320 (vs "´" 321)),(de P "acute;" 323 (vs "´" 324)),(de P "amp" 326 (vs "&" 327)),(de P "amp;" 329 (vs "&" 330)),(de P "ang;" 332 (vs "∠" 333)),(de P "angle;" 335 (vs "∠" 336)),(de P "bne;" 338 (vs "=⃥" 339)),(de P "copy" 341 (vs "©" 342)),(de P "copy;" 344 (vs "©" 345)),(de P "eacute" 347 (vs "é" 348)),(de P "eacute;" 350 (vs "é" 351)),(de P "frac12" 353 (vs "½" 354)),(de P "frac12;" 356 (vs "½" 357)),(de P "gt" 359 (vs ">" 360)),(de P "gt;" 362 (vs ">" 363)),(de P "lt" 365 (vs "<" 366)),(de P "lt;" 368 (vs "<" 369)),(de P "nbsp" 371 (vs " " 372)),(de P "nbsp;" 374 (vs " " 375)),(de P "not" 377 (vs "¬" 378)),(de P "not;" 380 (vs "¬" 381)),(de P "notin;" 383 (vs "∉" 384)),(de P "notni;" 386 (vs "∌" 387)),(de P "para" 389 (vs "¶" 390)),(de P "para;" 392 (vs "¶" 393)),(de P "parallel;" 395 (vs "∥" 396)),(de P "quot" 398 (vs "\"" 399)),(de P "quot;" 401 (vs "\"" 402)),(de P "sup1" 403 (vs "¹" 404)),(de P "sup1;" 405 (vs "¹" 406)),(de P "sup2" 407 (vs "²" 408)),(de P "sup2;" 409 (vs "²" 410)),(de P "sup;" 411 (vs "⊃" 412)),(de P "times" 413 (vs "×" 414)),(de P "times;" 415 (vs "×" 416)),(de P "timesb;" 417 (vs "⊠" 418))]) 43) ar)
noncomputable def oac (P:Params):=(ob (vt "dict") no (Data.dict (la [(de P "eacute;" 350 (vs "é" 351)),(de P "frac12" 353 (vs "½" 354)),(de P "frac12;" 356 (vs "½" 357)),(de P "gt" 359 (vs ">" 360)),(de P "gt;" 362 (vs ">" 363)),(de P "lt" 365 (vs "<" 366)),(de P "lt;" 368 (vs "<" 369)),(de P "nbsp" 371 (vs " " 372)),(de P "nbsp;" 374 (vs " " 375)),(de P "not" 377 (vs "¬" 378)),(de P "not;" 380 (vs "¬" 381)),(de P "notin;" 383 (vs "∉" 384)),(de P "notni;" 386 (vs "∌" 387)),(de P "para" 389 (vs "¶" 390)),(de P "para;" 392 (vs "¶" 393)),(de P "parallel;" 395 (vs "∥" 396)),(de P "quot" 398 (vs "\"" 399))]) 17) ar)
noncomputable def oad (P:Params):=(ob (vt "dict") no (Data.dict (la [(de P "quot;" 401 (vs "\"" 402)),(de P "sup1" 403 (vs "¹" 404)),(de P "sup1;" 405 (vs "¹" 406)),(de P "sup2" 407 (vs "²" 408)),(de P "sup2;" 409 (vs "²" 410)),(de P "sup;" 411 (vs "⊃" 412)),(de P "times" 413 (vs "×" 414)),(de P "times;" 415 (vs "×" 416)),(de P "timesb;" 417 (vs "⊠" 418))]) 9) ar)
noncomputable def n3_9 (P:Params):List DictEntry:=n3_8 P++[(de P "replacementCharacters" 531 (vr 46))]
noncomputable def oef (P:Params):=d3 (n3_9 P) 18
noncomputable def oy:=(ob (vt "dict") no (Data.dict (la [(PySem.DictEntry.mk 0 (vi 0 429) (vs "�" 430)),(PySem.DictEntry.mk 13 (vi 13 432) (vs "\x0d" 433)),(PySem.DictEntry.mk 128 (vi 128 435) (vs "€" 436)),(PySem.DictEntry.mk 129 (vi 129 438) (vs "" 439)),(PySem.DictEntry.mk 130 (vi 130 441) (vs "‚" 442)),(PySem.DictEntry.mk 131 (vi 131 444) (vs "ƒ" 445)),(PySem.DictEntry.mk 132 (vi 132 447) (vs "„" 448)),(PySem.DictEntry.mk 133 (vi 133 450) (vs "…" 451)),(PySem.DictEntry.mk 134 (vi 134 453) (vs "†" 454)),(PySem.DictEntry.mk 135 (vi 135 456) (vs "‡" 457)),(PySem.DictEntry.mk 136 (vi 136 459) (vs "ˆ" 460)),(PySem.DictEntry.mk 137 (vi 137 462) (vs "‰" 463)),(PySem.DictEntry.mk 138 (vi 138 465) (vs "Š" 466)),(PySem.DictEntry.mk 139 (vi 139 468) (vs "‹" 469)),(PySem.DictEntry.mk 140 (vi 140 471) (vs "Œ" 472)),(PySem.DictEntry.mk 141 (vi 141 474) (vs "" 475)),(PySem.DictEntry.mk 142 (vi 142 477) (vs "Ž" 478)),(PySem.DictEntry.mk 143 (vi 143 480) (vs "" 481)),(PySem.DictEntry.mk 144 (vi 144 483) (vs "" 484)),(PySem.DictEntry.mk 145 (vi 145 486) (vs "‘" 487)),(PySem.DictEntry.mk 146 (vi 146 489) (vs "’" 490)),(PySem.DictEntry.mk 147 (vi 147 492) (vs "“" 493)),(PySem.DictEntry.mk 148 (vi 148 495) (vs "”" 496)),(PySem.DictEntry.mk 149 (vi 149 498) (vs "•" 499)),(PySem.DictEntry.mk 150 (vi 150 501) (vs "–" 502)),(PySem.DictEntry.mk 151 (vi 151 504) (vs "—" 505)),(PySem.DictEntry.mk 152 (vi 152 507) (vs "˜" 508)),(PySem.DictEntry.mk 153 (vi 153 510) (vs "™" 511)),(PySem.DictEntry.mk 154 (vi 154 513) (vs "š" 514)),(PySem.DictEntry.mk 155 (vi 155 516) (vs "›" 517)),(PySem.DictEntry.mk 156 (vi 156 519) (vs "œ" 520)),(PySem.DictEntry.mk 157 (vi 157 522) (vs "" 523)),(PySem.DictEntry.mk 158 (vi 158 525) (vs "ž" 526)),(PySem.DictEntry.mk 159 (vi 159 528) (vs "Ÿ" 529))]) 34) ar)
noncomputable def oae:=(ob (vt "dict") no (Data.dict (la [(PySem.DictEntry.mk 143 (vi 143 480) (vs "" 481)),(PySem.DictEntry.mk 144 (vi 144 483) (vs "" 484)),(PySem.DictEntry.mk 145 (vi 145 486) (vs "‘" 487)),(PySem.DictEntry.mk 146 (vi 146 489) (vs "’" 490)),(PySem.DictEntry.mk 147 (vi 147 492) (vs "“" 493)),(PySem.DictEntry.mk 148 (vi 148 495) (vs "”" 496)),(PySem.DictEntry.mk 149 (vi 149 498) (vs "•" 499)),(PySem.DictEntry.mk 150 (vi 150 501) (vs "–" 502)),(PySem.DictEntry.mk 151 (vi 151 504) (vs "—" 505)),(PySem.DictEntry.mk 152 (vi 152 507) (vs "˜" 508)),(PySem.DictEntry.mk 153 (vi 153 510) (vs "™" 511)),(PySem.DictEntry.mk 154 (vi 154 513) (vs "š" 514)),(PySem.DictEntry.mk 155 (vi 155 516) (vs "›" 517)),(PySem.DictEntry.mk 156 (vi 156 519) (vs "œ" 520)),(PySem.DictEntry.mk 157 (vi 157 522) (vs "" 523)),(PySem.DictEntry.mk 158 (vi 158 525) (vs "ž" 526)),(PySem.DictEntry.mk 159 (vi 159 528) (vs "Ÿ" 529))]) 17) ar)
noncomputable def n3_10 (P:Params):List DictEntry:=n3_9 P++[(de P "tokenTypes" 556 (vr 48))]
noncomputable def oeg (P:Params):=d3 (n3_10 P) 19
noncomputable def oz (P:Params):=(ob (vt "dict") no (Data.dict (la [(de P "Doctype" 532 (vi 0 533)),(de P "Characters" 534 (vi 1 535)),(de P "SpaceCharacters" 536 (vi 2 537)),(de P "StartTag" 538 (vi 3 539)),(de P "EndTag" 540 (vi 4 541)),(de P "EmptyTag" 542 (vi 5 543)),(de P "Comment" 544 (vi 6 545)),(de P "ParseError" 546 (vi 7 547))]) 8) ar)
noncomputable def n3_11 (P:Params):List DictEntry:=n3_10 P++[(de P "tagTokenTypes" 563 (vr 49))]
noncomputable def oeh (P:Params):=d3 (n3_11 P) 20
noncomputable def o10:=(ob (vt "tuple") no (Data.seq (la [(vi 3 539),(vi 4 541),(vi 5 543)]) 0) ar)
noncomputable def n3_12 (P:Params):List DictEntry:=(de P "__name__" 165 (vs "html5lib._inputstream" 564))::(n3_11 P).drop 1
noncomputable def oei (P:Params):=d3 (n3_12 P) 20
noncomputable def n3_13 (P:Params):List DictEntry:=n3_12 P++[(de P "Text" 604 (vr 73))]
noncomputable def oej (P:Params):=d3 (n3_13 P) 21
noncomputable def oek:=(ob vn no (Data.fields (la [(vi 1 0),(vi 0 0),(vr 20),(vi 10 0),(vi 0 0),(vr 41),(vi 17 0),(vi 0 0),(vr 55)])) ar)
noncomputable def o7:=h25
noncomputable def o8:=h21
noncomputable def oaf (P:Params):=(ob (vt "dict") no (Data.dict (la [(de P "__module__" 573 (vs "html5lib._inputstream" 564)),(de P "__qualname__" 575 (vs "Text" 574)),(de P "__firstlineno__" 577 (vi 17 576)),(de P "__init__" 585 (vr 63)),(de P "read" 594 (vr 70)),(de P "__static_attributes__" 597 (vr 71))]) 6) ar)
noncomputable def oag:=(ob vn no (Data.fields (la [(vi 19 0),(vi 4 0),(vr 62),(vi 23 0),(vi 4 0),(vr 69)])) ar)
noncomputable def oah:=h10 "Text" 568 17 53
noncomputable def oai:=h15 55 52 "html5lib._inputstream" 564
noncomputable def o11:=h5 "self" 581 "text"
noncomputable def oaj:=h2 "__init__" "Text.__init__" 13 0 13 0
noncomputable def o12:=h0 "__init__" 578 "Text.__init__" 19 2 3 57 583
noncomputable def o13:=h1 "__init__" "Text.__init__" 13 0 13 0 "html5lib._inputstream" 564 62
noncomputable def o14:=h14 "self" 589 "size" "part"
noncomputable def oak:=h2 "read" "Text.read" 13 1 13 1
noncomputable def o15:=h0 "read" 586 "Text.read" 23 2 3 64 592
noncomputable def o16:=h1 "read" "Text.read" 13 1 13 1 "html5lib._inputstream" 564 69
noncomputable def o17:=h5 "place" 595 "text"
noncomputable def o18 (P:Params):=(ob (vt "dict") no (Data.dict (la [(de P "__module__" 573 (vs "html5lib._inputstream" 564)),(de P "__firstlineno__" 577 (vi 17 576)),(de P "__init__" 585 (vr 63)),(de P "read" 594 (vr 70)),(de P "__static_attributes__" 597 (vr 71)),(de P "__dict__" 599 (vr 74)),(de P "__weakref__" 601 (vr 75)),(de P "__doc__" 602 vn)]) 4) ar)
noncomputable def o19:=h11 "Text" 73 72 50 566
noncomputable def o1a:=h16 598 73
noncomputable def o1b:=h20 600 73
noncomputable def oal:=h24 73
noncomputable def oam:=h22 73
noncomputable def n3_14 (P:Params):List DictEntry:=n3_13 P++[(de P "_is_invalid" 611 (vr 84))]
noncomputable def oel (P:Params):=d3 (n3_14 P) 22
noncomputable def oem:=(ob vn no (Data.fields (la [(vi 1 0),(vi 0 0),(vr 20),(vi 10 0),(vi 0 0),(vr 41),(vi 17 0),(vi 0 0),(vr 55),(vi 27 0),(vi 0 0),(vr 83)])) ar)
noncomputable def o1c:=h6 "codepoint" 608
noncomputable def oan:=h8 "_is_invalid" 14
noncomputable def o1d:=h0 "_is_invalid" 605 "_is_invalid" 27 1 3 78 609
noncomputable def o1e:=h7 "_is_invalid" 14 "html5lib._inputstream" 564 83
noncomputable def n3_15 (P:Params):List DictEntry:=n3_14 P++[(de P "HTMLUnicodeInputStream" 735 (vr 166))]
noncomputable def oen (P:Params):=d3 (n3_15 P) 23
noncomputable def oeo:=(ob vn no (Data.fields (la [(vi 1 0),(vi 0 0),(vr 20),(vi 10 0),(vi 0 0),(vr 41),(vi 17 0),(vi 0 0),(vr 55),(vi 27 0),(vi 0 0),(vr 83),(vi 29 0),(vi 0 0),(vr 90)])) ar)
noncomputable def oao (P:Params):=(ob (vt "dict") no (Data.dict (la [(de P "__module__" 619 (vs "html5lib._inputstream" 564)),(de P "__qualname__" 621 (vs "HTMLUnicodeInputStream" 620)),(de P "__firstlineno__" 623 (vi 29 622)),(de P "_defaultChunkSize" 625 (vi 10240 624)),(de P "__init__" 633 (vr 98)),(de P "reset" 640 (vr 105)),(de P "openStream" 649 (vr 112)),(de P "_position" 662 (vr 119)),(de P "position" 669 (vr 126)),(de P "char" 678 (vr 133)),(de P "readChunk" 688 (vr 141)),(de P "characterErrorsUCS4" 697 (vr 148)),(de P "charsUntil" 709 (vr 156)),(de P "unget" 717 (vr 163)),(de P "__static_attributes__" 728 (vr 164))]) 15) ar)
noncomputable def oap:=(ob vn no (Data.fields (la [(vi 32 0),(vi 4 0),(vr 97),(vi 38 0),(vi 4 0),(vr 104),(vi 47 0),(vi 4 0),(vr 111),(vi 51 0),(vi 4 0),(vr 118),(vi 62 0),(vi 4 0),(vr 125),(vi 65 0),(vi 4 0),(vr 132),(vi 74 0),(vi 4 0),(vr 140),(vi 100 0),(vi 4 0),(vr 147),(vi 105 0),(vi 4 0),(vr 155),(vi 124 0),(vi 4 0),(vr 162)])) ar)
noncomputable def oaq:=h10 "HTMLUnicodeInputStream" 614 29 88
noncomputable def oar:=h15 90 87 "html5lib._inputstream" 564
noncomputable def o1f:=h5 "self" 629 "source"
noncomputable def oas:=h2 "__init__" "HTMLUnicodeInputStream.__init__" 15 1 15 1
noncomputable def o1g:=h0 "__init__" 626 "HTMLUnicodeInputStream.__init__" 32 2 3 92 631
noncomputable def o1h:=h1 "__init__" "HTMLUnicodeInputStream.__init__" 15 1 15 1 "html5lib._inputstream" 564 97
noncomputable def o1i:=h6 "self" 637
noncomputable def oat:=h2 "reset" "HTMLUnicodeInputStream.reset" 15 2 21 7
noncomputable def o1j:=h0 "reset" 634 "HTMLUnicodeInputStream.reset" 38 1 3 99 638
noncomputable def o1k:=h1 "reset" "HTMLUnicodeInputStream.reset" 15 2 21 7 "html5lib._inputstream" 564 104
noncomputable def o1l:=h14 "self" 644 "source" "stream"
noncomputable def oau:=h2 "openStream" "HTMLUnicodeInputStream.openStream" 15 3 15 3
noncomputable def o1m:=h0 "openStream" 641 "HTMLUnicodeInputStream.openStream" 47 2 3 106 647
noncomputable def o1n:=h1 "openStream" "HTMLUnicodeInputStream.openStream" 15 3 15 3 "html5lib._inputstream" 564 111
noncomputable def o1o:=(ob (vt "tuple") no (Data.seq (la [(vs "self" 653),(vs "offset" 654),(vs "chunk" 655),(vs "nLines" 656),(vs "positionLine" 657),(vs "lastLinePos" 658),(vs "positionColumn" 659)]) 0) ar)
noncomputable def oav:=h2 "_position" "HTMLUnicodeInputStream._position" 15 4 15 4
noncomputable def o1p:=h0 "_position" 650 "HTMLUnicodeInputStream._position" 51 2 3 113 660
noncomputable def o1q:=h1 "_position" "HTMLUnicodeInputStream._position" 15 4 15 4 "html5lib._inputstream" 564 118
noncomputable def o1r:=h6 "self" 666
noncomputable def oaw:=h2 "position" "HTMLUnicodeInputStream.position" 15 5 21 38
noncomputable def o1s:=h0 "position" 663 "HTMLUnicodeInputStream.position" 62 1 3 120 667
noncomputable def o1t:=h1 "position" "HTMLUnicodeInputStream.position" 15 5 21 38 "html5lib._inputstream" 564 125
noncomputable def o1u:=h14 "self" 673 "chunkOffset" "char"
noncomputable def oax:=h2 "char" "HTMLUnicodeInputStream.char" 15 6 15 6
noncomputable def o1v:=h0 "char" 670 "HTMLUnicodeInputStream.char" 65 1 3 127 676
noncomputable def o1w:=h1 "char" "HTMLUnicodeInputStream.char" 15 6 15 6 "html5lib._inputstream" 564 132
noncomputable def o9:=(ob (vt "tuple") no (Data.seq (la [vn]) 0) ar)
noncomputable def o1x:=h18 "self" 682 "chunkSize" "data" "lastv"
noncomputable def oay:=h2 "readChunk" "HTMLUnicodeInputStream.readChunk" 15 7 15 7
noncomputable def o1y:=h0 "readChunk" 679 "HTMLUnicodeInputStream.readChunk" 74 2 3 135 686
noncomputable def o1z:=h13 "readChunk" "HTMLUnicodeInputStream.readChunk" 15 7 134 "html5lib._inputstream" 564
noncomputable def o20:=h14 "self" 692 "data" "c"
noncomputable def oaz:=h2 "characterErrorsUCS4" "HTMLUnicodeInputStream.characterErrorsUCS4" 15 8 15 8
noncomputable def o21:=h0 "characterErrorsUCS4" 689 "HTMLUnicodeInputStream.characterErrorsUCS4" 100 2 3 142 695
noncomputable def o22:=h1 "characterErrorsUCS4" "HTMLUnicodeInputStream.characterErrorsUCS4" 15 8 15 8 "html5lib._inputstream" 564 147
noncomputable def o23:=(ob (vt "tuple") no (Data.seq (la [vF]) 0) ar)
noncomputable def o24:=(ob (vt "tuple") no (Data.seq (la [(vs "self" 701),(vs "characters" 702),(vs "opposite" 703),(vs "rv" 704),(vs "end" 705),(vs "r" 706)]) 0) ar)
noncomputable def ob0:=h2 "charsUntil" "HTMLUnicodeInputStream.charsUntil" 15 9 15 9
noncomputable def o25:=h0 "charsUntil" 698 "HTMLUnicodeInputStream.charsUntil" 105 3 3 150 707
noncomputable def o26:=h13 "charsUntil" "HTMLUnicodeInputStream.charsUntil" 15 9 149 "html5lib._inputstream" 564
noncomputable def o27:=h5 "self" 713 "char"
noncomputable def ob1:=h2 "unget" "HTMLUnicodeInputStream.unget" 15 10 15 10
noncomputable def o28:=h0 "unget" 710 "HTMLUnicodeInputStream.unget" 124 2 3 157 715
noncomputable def o29:=h1 "unget" "HTMLUnicodeInputStream.unget" 15 10 15 10 "html5lib._inputstream" 564 162
noncomputable def o2a:=h17 "tuple" "_bufferedCharacter" 718 "chunk" "chunkOffset" "chunkSize" "dataStream" "errors" "newLines" "prevNumCols" "prevNumLines" "reportCharacterErrors" 0
noncomputable def o2b (P:Params):=(ob (vt "dict") no (Data.dict (la [(de P "__module__" 619 (vs "html5lib._inputstream" 564)),(de P "__firstlineno__" 623 (vi 29 622)),(de P "_defaultChunkSize" 625 (vi 10240 624)),(de P "__init__" 633 (vr 98)),(de P "reset" 640 (vr 105)),(de P "openStream" 649 (vr 112)),(de P "_position" 662 (vr 119)),(de P "position" 669 (vr 126)),(de P "char" 678 (vr 133)),(de P "readChunk" 688 (vr 141)),(de P "characterErrorsUCS4" 697 (vr 148)),(de P "charsUntil" 709 (vr 156)),(de P "unget" 717 (vr 163)),(de P "__static_attributes__" 728 (vr 164)),(de P "__dict__" 730 (vr 167)),(de P "__weakref__" 732 (vr 168)),(de P "__doc__" 733 vn)]) 4) ar)
noncomputable def o2c:=h11 "HTMLUnicodeInputStream" 166 165 85 612
noncomputable def o2d:=h16 729 166
noncomputable def o2e:=h20 731 166
noncomputable def ob2:=h24 166
noncomputable def ob3:=h22 166
noncomputable def n3_16 (P:Params):List DictEntry:=(de P "__name__" 165 (vs "html5lib._trie.py" 736))::(n3_15 P).drop 1
noncomputable def oep (P:Params):=d3 (n3_16 P) 23
noncomputable def n3_17 (P:Params):List DictEntry:=n3_16 P++[(de P "bisect_left" 749 (vr 178))]
noncomputable def oeq (P:Params):=d3 (n3_17 P) 24
noncomputable def oer:=(ob vn no (Data.fields (la [(vi 1 0),(vi 0 0),(vr 20),(vi 10 0),(vi 0 0),(vr 41),(vi 17 0),(vi 0 0),(vr 55),(vi 27 0),(vi 0 0),(vr 83),(vi 29 0),(vi 0 0),(vr 90),(vi 133 0),(vi 0 0),(vr 177)])) ar)
noncomputable def o2f:=(ob (vt "tuple") no (Data.seq (la [(vi 0 738),vn]) 0) ar)
noncomputable def o2g:=h23 "rows" 742 "key" "low" "high" "middle"
noncomputable def ob4:=h8 "bisect_left" 17
noncomputable def o2h:=h0 "bisect_left" 739 "bisect_left" 133 4 3 172 747
noncomputable def o2i:=(ob (vt "function") no (Data.func (fdm (so "bisect_left") (so "bisect_left") (fps (st 17)) (FuncBody.stmts (fbd (st 17))) (fsc (st 17)) 3 [] (vr 171) vn vn (vs "html5lib._trie.py" 736) no (vr 177) vn 0)) ar)
noncomputable def n3_18 (P:Params):List DictEntry:=n3_17 P++[(de P "Trie" 824 (vr 230))]
noncomputable def oes (P:Params):=d3 (n3_18 P) 25
noncomputable def oet:=(ob vn no (Data.fields (la [(vi 1 0),(vi 0 0),(vr 20),(vi 10 0),(vi 0 0),(vr 41),(vi 17 0),(vi 0 0),(vr 55),(vi 27 0),(vi 0 0),(vr 83),(vi 29 0),(vi 0 0),(vr 90),(vi 133 0),(vi 0 0),(vr 177),(vi 143 0),(vi 0 0),(vr 184)])) ar)
noncomputable def ob5 (P:Params):=(ob (vt "dict") no (Data.dict (la [(de P "__module__" 757 (vs "html5lib._trie.py" 736)),(de P "__qualname__" 759 (vs "Trie" 758)),(de P "__firstlineno__" 761 (vi 143 760)),(de P "__init__" 769 (vr 192)),(de P "__contains__" 777 (vr 199)),(de P "__len__" 784 (vr 206)),(de P "__getitem__" 792 (vr 213)),(de P "has_keys_with_prefix" 803 (vr 220)),(de P "longest_prefix" 812 (vr 227)),(de P "__static_attributes__" 817 (vr 228))]) 10) ar)
noncomputable def ob6:=(ob vn no (Data.fields (la [(vi 145 0),(vi 4 0),(vr 191),(vi 151 0),(vi 4 0),(vr 198),(vi 154 0),(vi 4 0),(vr 205),(vi 157 0),(vi 4 0),(vr 212),(vi 160 0),(vi 4 0),(vr 219),(vi 172 0),(vi 4 0),(vr 226)])) ar)
noncomputable def ob7:=h10 "Trie" 752 143 182
noncomputable def ob8:=h15 184 181 "html5lib._trie.py" 736
noncomputable def o2j:=h5 "self" 765 "data"
noncomputable def ob9:=h2 "__init__" "Trie.__init__" 18 0 18 0
noncomputable def o2k:=h0 "__init__" 762 "Trie.__init__" 145 2 3 186 767
noncomputable def o2l:=h1 "__init__" "Trie.__init__" 18 0 18 0 "html5lib._trie.py" 736 191
noncomputable def o2m:=h5 "self" 773 "key"
noncomputable def oba:=h2 "__contains__" "Trie.__contains__" 18 1 18 3
noncomputable def o2n:=h0 "__contains__" 770 "Trie.__contains__" 151 2 3 193 775
noncomputable def o2o:=h1 "__contains__" "Trie.__contains__" 18 1 18 3 "html5lib._trie.py" 736 198
noncomputable def o2p:=h6 "self" 781
noncomputable def obb:=h2 "__len__" "Trie.__len__" 18 2 18 2
noncomputable def o2q:=h0 "__len__" 778 "Trie.__len__" 154 1 3 200 782
noncomputable def o2r:=h1 "__len__" "Trie.__len__" 18 2 18 2 "html5lib._trie.py" 736 205
noncomputable def o2s:=h5 "self" 788 "key"
noncomputable def obc:=h2 "__getitem__" "Trie.__getitem__" 18 3 18 3
noncomputable def o2t:=h0 "__getitem__" 785 "Trie.__getitem__" 157 2 3 207 790
noncomputable def o2u:=h1 "__getitem__" "Trie.__getitem__" 18 3 18 3 "html5lib._trie.py" 736 212
noncomputable def o2v:=h23 "self" 796 "prefix" "lo" "hi" "i"
noncomputable def obd:=h2 "has_keys_with_prefix" "Trie.has_keys_with_prefix" 18 4 18 4
noncomputable def o2w:=h0 "has_keys_with_prefix" 793 "Trie.has_keys_with_prefix" 160 2 3 214 801
noncomputable def o2x:=h1 "has_keys_with_prefix" "Trie.has_keys_with_prefix" 18 4 18 4 "html5lib._trie.py" 736 219
noncomputable def o2y:=h14 "self" 807 "prefix" "i"
noncomputable def obe:=h2 "longest_prefix" "Trie.longest_prefix" 18 5 18 5
noncomputable def o2z:=h0 "longest_prefix" 804 "Trie.longest_prefix" 172 2 3 221 810
noncomputable def o30:=h1 "longest_prefix" "Trie.longest_prefix" 18 5 18 5 "html5lib._trie.py" 736 226
noncomputable def o31:=h18 "_cachepoints" 813 "_cachestr" "_data" "_keys"
noncomputable def o32 (P:Params):=(ob (vt "dict") no (Data.dict (la [(de P "__module__" 757 (vs "html5lib._trie.py" 736)),(de P "__firstlineno__" 761 (vi 143 760)),(de P "__init__" 769 (vr 192)),(de P "__contains__" 777 (vr 199)),(de P "__len__" 784 (vr 206)),(de P "__getitem__" 792 (vr 213)),(de P "has_keys_with_prefix" 803 (vr 220)),(de P "longest_prefix" 812 (vr 227)),(de P "__static_attributes__" 817 (vr 228)),(de P "__dict__" 819 (vr 231)),(de P "__weakref__" 821 (vr 232)),(de P "__doc__" 822 vn)]) 4) ar)
noncomputable def o33:=h11 "Trie" 230 229 179 750
noncomputable def o34:=h16 818 230
noncomputable def o35:=h20 820 230
noncomputable def obf:=h24 230
noncomputable def obg:=h22 230
noncomputable def n3_19 (P:Params):List DictEntry:=(de P "__name__" 165 (vs "html5lib._tokenizer" 825))::(n3_18 P).drop 1
noncomputable def oeu (P:Params):=d3 (n3_19 P) 25
noncomputable def n3_20 (P:Params):List DictEntry:=n3_19 P++[(de P "entitiesTrie" 841 (vr 236))]
noncomputable def oev (P:Params):=d3 (n3_20 P) 26
noncomputable def o36 (P:Params):=(ob (vt "dict") no (Data.dict (la [(de P "_data" 830 (vr 43)),(de P "_keys" 832 (vr 243)),(de P "_cachestr" 835 (vs "" 833)),(de P "_cachepoints" 840 (vr 246))]) 4) ar)
noncomputable def o37:=(ob (vr 230) (some 235) Data.plain ar)
noncomputable def obh (P:Params):=(ob (vt "frame") no (Data.dict (la [(de P "self" 827 (vr 236)),(de P "data" 828 (vr 43))]) 2) ar)
noncomputable def obi:=(ob (vt "dict_keys") no (Data.fields (la [(vr 43)])) ar)
noncomputable def obk:=h9 "list" 45
noncomputable def obl:=(ob (vt "dict_keyiterator") no (Data.fields (la [vn,(vi 43 0),(vi 43 0),(vi 43 0)])) ar)
noncomputable def obm:=h19 241
noncomputable def o38:=h9 "list" 2
noncomputable def obn:=h9 "tuple" 0
noncomputable def obo:=h3 "list"
noncomputable def o39:=(ob (vt "tuple") no (Data.seq (la [(vi 0 836),(vi 43 838)]) 0) ar)
noncomputable def n3_21 (P:Params):List DictEntry:=n3_20 P++[(de P "HTMLTokenizer" 1441 (vr 762))]
noncomputable def oew (P:Params):=d3 (n3_21 P) 27
noncomputable def oex:=(ob vn no (Data.fields (la [(vi 1 0),(vi 0 0),(vr 20),(vi 10 0),(vi 0 0),(vr 41),(vi 17 0),(vi 0 0),(vr 55),(vi 27 0),(vi 0 0),(vr 83),(vi 29 0),(vi 0 0),(vr 90),(vi 133 0),(vi 0 0),(vr 177),(vi 143 0),(vi 0 0),(vr 184),(vi 181 0),(vi 0 0),(vr 252)])) ar)
noncomputable def obp (P:Params):=(ob (vt "dict") no (Data.dict (la [(de P "__module__" 849 (vs "html5lib._tokenizer" 825)),(de P "__qualname__" 851 (vs "HTMLTokenizer" 850)),(de P "__firstlineno__" 853 (vi 181 852)),(de P "__init__" 862 (vr 261)),(de P "__iter__" 869 (vr 268)),(de P "consumeNumberEntity" 884 (vr 275)),(de P "consumeEntity" 899 (vr 283)),(de P "processEntityInAttribute" 907 (vr 290)),(de P "emitCurrentToken" 917 (vr 297)),(de P "dataState" 926 (vr 304)),(de P "entityDataState" 933 (vr 311)),(de P "rcdataState" 940 (vr 318)),(de P "characterReferenceInRcdata" 947 (vr 325)),(de P "rawtextState" 954 (vr 332)),(de P "scriptDataState" 961 (vr 339)),(de P "plaintextState" 968 (vr 346)),(de P "tagOpenState" 976 (vr 353)),(de P "closeTagOpenState" 984 (vr 360)),(de P "tagNameState" 992 (vr 367)),(de P "rcdataLessThanSignState" 999 (vr 374)),(de P "rcdataEndTagOpenState" 1006 (vr 381)),(de P "rcdataEndTagNameState" 1013 (vr 388)),(de P "rawtextLessThanSignState" 1020 (vr 395)),(de P "rawtextEndTagOpenState" 1027 (vr 402)),(de P "rawtextEndTagNameState" 1034 (vr 409)),(de P "scriptDataLessThanSignState" 1041 (vr 416)),(de P "scriptDataEndTagOpenState" 1048 (vr 423)),(de P "scriptDataEndTagNameState" 1055 (vr 430)),(de P "scriptDataEscapeStartState" 1062 (vr 437)),(de P "scriptDataEscapeStartDashState" 1069 (vr 444)),(de P "scriptDataEscapedState" 1076 (vr 451)),(de P "scriptDataEscapedDashState" 1083 (vr 458)),(de P "scriptDataEscapedDashDashState" 1090 (vr 465)),(de P "scriptDataEscapedLessThanSignState" 1097 (vr 472)),(de P "scriptDataEscapedEndTagOpenState" 1104 (vr 479)),(de P "scriptDataEscapedEndTagNameState" 1111 (vr 486)),(de P "scriptDataDoubleEscapeStartState" 1118 (vr 493)),(de P "scriptDataDoubleEscapedState" 1125 (vr 500)),(de P "scriptDataDoubleEscapedDashState" 1132 (vr 507)),(de P "scriptDataDoubleEscapedDashDashState" 1139 (vr 514)),(de P "scriptDataDoubleEscapedLessThanSignState" 1146 (vr 521)),(de P "scriptDataDoubleEscapeEndState" 1153 (vr 528)),(de P "beforeAttributeNameState" 1161 (vr 535)),(de P "attributeNameState" 1173 (vr 542)),(de P "afterAttributeNameState" 1181 (vr 549)),(de P "beforeAttributeValueState" 1189 (vr 556)),(de P "attributeValueDoubleQuotedState" 1197 (vr 563)),(de P "attributeValueSingleQuotedState" 1205 (vr 570)),(de P "attributeValueUnQuotedState" 1213 (vr 577)),(de P "afterAttributeValueState" 1221 (vr 584)),(de P "selfClosingStartTagState" 1229 (vr 591)),(de P "bogusCommentState" 1237 (vr 598)),(de P "markupDeclarationOpenState" 1247 (vr 605)),(de P "commentStartState" 1255 (vr 612)),(de P "commentStartDashState" 1263 (vr 619)),(de P "commentState" 1271 (vr 626)),(de P "commentEndDashState" 1279 (vr 633)),(de P "commentEndState" 1287 (vr 640)),(de P "commentEndBangState" 1295 (vr 647)),(de P "doctypeState" 1303 (vr 654)),(de P "beforeDoctypeNameState" 1311 (vr 661)),(de P "doctypeNameState" 1319 (vr 668)),(de P "afterDoctypeNameState" 1329 (vr 675)),(de P "afterDoctypePublicKeywordState" 1337 (vr 682)),(de P "beforeDoctypePublicIdentifierState" 1345 (vr 689)),(de P "doctypePublicIdentifierDoubleQuotedState" 1353 (vr 696)),(de P "doctypePublicIdentifierSingleQuotedState" 1361 (vr 703)),(de P "afterDoctypePublicIdentifierState" 1369 (vr 710)),(de P "betweenDoctypePublicAndSystemIdentifiersState" 1377 (vr 717)),(de P "afterDoctypeSystemKeywordState" 1385 (vr 724)),(de P "beforeDoctypeSystemIdentifierState" 1393 (vr 731)),(de P "doctypeSystemIdentifierDoubleQuotedState" 1401 (vr 738)),(de P "doctypeSystemIdentifierSingleQuotedState" 1409 (vr 745)),(de P "afterDoctypeSystemIdentifierState" 1417 (vr 752)),(de P "bogusDoctypeState" 1425 (vr 759)),(de P "__static_attributes__" 1434 (vr 760))]) 76) ar)
noncomputable def obq:=(ob vn no (Data.fields (la [(vi 183 0),(vi 4 0),(vr 260),(vi 192 0),(vi 4 0),(vr 267),(vi 200 0),(vi 4 0),(vr 274),(vi 231 0),(vi 4 0),(vr 282),(vi 282 0),(vi 4 0),(vr 289),(vi 285 0),(vi 4 0),(vr 296),(vi 303 0),(vi 4 0),(vr 303),(vi 321 0),(vi 4 0),(vr 310),(vi 326 0),(vi 4 0),(vr 317),(vi 329 0),(vi 4 0),(vr 324),(vi 332 0),(vi 4 0),(vr 331),(vi 335 0),(vi 4 0),(vr 338),(vi 338 0),(vi 4 0),(vr 345),(vi 341 0),(vi 4 0),(vr 352),(vi 365 0),(vi 4 0),(vr 359),(vi 383 0),(vi 4 0),(vr 366),(vi 401 0),(vi 4 0),(vr 373),(vi 404 0),(vi 4 0),(vr 380),(vi 407 0),(vi 4 0),(vr 387),(vi 410 0),(vi 4 0),(vr 394),(vi 413 0),(vi 4 0),(vr 401),(vi 416 0),(vi 4 0),(vr 408),(vi 419 0),(vi 4 0),(vr 415),(vi 422 0),(vi 4 0),(vr 422),(vi 425 0),(vi 4 0),(vr 429),(vi 428 0),(vi 4 0),(vr 436),(vi 431 0),(vi 4 0),(vr 443),(vi 434 0),(vi 4 0),(vr 450),(vi 437 0),(vi 4 0),(vr 457),(vi 440 0),(vi 4 0),(vr 464),(vi 443 0),(vi 4 0),(vr 471),(vi 446 0),(vi 4 0),(vr 478),(vi 449 0),(vi 4 0),(vr 485),(vi 452 0),(vi 4 0),(vr 492),(vi 455 0),(vi 4 0),(vr 499),(vi 458 0),(vi 4 0),(vr 506),(vi 461 0),(vi 4 0),(vr 513),(vi 464 0),(vi 4 0),(vr 520),(vi 467 0),(vi 4 0),(vr 527),(vi 470 0),(vi 4 0),(vr 534),(vi 497 0),(vi 4 0),(vr 541),(vi 536 0),(vi 4 0),(vr 548),(vi 565 0),(vi 4 0),(vr 555),(vi 595 0),(vi 4 0),(vr 562),(vi 611 0),(vi 4 0),(vr 569),(vi 627 0),(vi 4 0),(vr 576),(vi 648 0),(vi 4 0),(vr 583),(vi 666 0),(vi 4 0),(vr 590),(vi 681 0),(vi 4 0),(vr 597),(vi 689 0),(vi 4 0),(vr 604),(vi 714 0),(vi 4 0),(vr 611),(vi 734 0),(vi 4 0),(vr 618),(vi 754 0),(vi 4 0),(vr 625),(vi 769 0),(vi 4 0),(vr 632),(vi 786 0),(vi 4 0),(vr 639),(vi 811 0),(vi 4 0),(vr 646),(vi 832 0),(vi 4 0),(vr 653),(vi 847 0),(vi 4 0),(vr 660),(vi 870 0),(vi 4 0),(vr 667),(vi 893 0),(vi 4 0),(vr 674),(vi 933 0),(vi 4 0),(vr 681),(vi 951 0),(vi 4 0),(vr 688),(vi 977 0),(vi 4 0),(vr 695),(vi 998 0),(vi 4 0),(vr 702),(vi 1019 0),(vi 4 0),(vr 709),(vi 1045 0),(vi 4 0),(vr 716),(vi 1069 0),(vi 4 0),(vr 723),(vi 1087 0),(vi 4 0),(vr 730),(vi 1113 0),(vi 4 0),(vr 737),(vi 1134 0),(vi 4 0),(vr 744),(vi 1155 0),(vi 4 0),(vr 751),(vi 1172 0),(vi 4 0),(vr 758)])) ar)
noncomputable def obr:=h10 "HTMLTokenizer" 844 181 250
noncomputable def obt:=h15 252 249 "html5lib._tokenizer" 825
noncomputable def o3a:=h14 "self" 857 "stream" "parser"
noncomputable def obu:=h2 "__init__" "HTMLTokenizer.__init__" 21 0 21 0
noncomputable def o3b:=h0 "__init__" 854 "HTMLTokenizer.__init__" 183 3 3 255 860
noncomputable def o3c:=h13 "__init__" "HTMLTokenizer.__init__" 21 0 254 "html5lib._tokenizer" 825
noncomputable def o3d:=h6 "self" 866
noncomputable def obv:=h2 "__iter__" "HTMLTokenizer.__iter__" 21 1 21 1
noncomputable def o3e:=h0 "__iter__" 863 "HTMLTokenizer.__iter__" 192 1 35 262 867
noncomputable def o3f:=h1 "__iter__" "HTMLTokenizer.__iter__" 21 1 21 1 "html5lib._tokenizer" 825 267
noncomputable def o3g:=(ob (vt "tuple") no (Data.seq (la [(vs "self" 873),(vs "isHex" 874),(vs "allowed" 875),(vs "radix" 876),(vs "charStack" 877),(vs "c" 878),(vs "charAsInt" 879),(vs "char" 880),(vs "v" 881)]) 0) ar)
noncomputable def obw:=h2 "consumeNumberEntity" "HTMLTokenizer.consumeNumberEntity" 21 2 21 2
noncomputable def o3h:=h0 "consumeNumberEntity" 870 "HTMLTokenizer.consumeNumberEntity" 200 2 3 269 882
noncomputable def o3i:=h1 "consumeNumberEntity" "HTMLTokenizer.consumeNumberEntity" 21 2 21 2 "html5lib._tokenizer" 825 274
noncomputable def o3j:=(ob (vt "tuple") no (Data.seq (la [vn,vF]) 0) ar)
noncomputable def o3k:=(ob (vt "tuple") no (Data.seq (la [(vs "self" 888),(vs "allowedChar" 889),(vs "fromAttribute" 890),(vs "output" 891),(vs "charStack" 892),(vs "hex" 893),(vs "entityName" 894),(vs "entityLength" 895),(vs "tokenType" 896)]) 0) ar)
noncomputable def obx:=h2 "consumeEntity" "HTMLTokenizer.consumeEntity" 21 3 21 3
noncomputable def o3l:=h0 "consumeEntity" 885 "HTMLTokenizer.consumeEntity" 231 3 3 277 897
noncomputable def o3m:=h13 "consumeEntity" "HTMLTokenizer.consumeEntity" 21 3 276 "html5lib._tokenizer" 825
noncomputable def o3n:=h5 "self" 903 "allowedChar"
noncomputable def oby:=h2 "processEntityInAttribute" "HTMLTokenizer.processEntityInAttribute" 21 4 21 4
noncomputable def o3o:=h0 "processEntityInAttribute" 900 "HTMLTokenizer.processEntityInAttribute" 282 2 3 284 905
noncomputable def o3p:=h1 "processEntityInAttribute" "HTMLTokenizer.processEntityInAttribute" 21 4 21 4 "html5lib._tokenizer" 825 289
noncomputable def o3q:=h18 "self" 911 "token" "raw" "data"
noncomputable def obz:=h2 "emitCurrentToken" "HTMLTokenizer.emitCurrentToken" 21 5 21 5
noncomputable def o3r:=h0 "emitCurrentToken" 908 "HTMLTokenizer.emitCurrentToken" 285 1 3 291 915
noncomputable def o3s:=h1 "emitCurrentToken" "HTMLTokenizer.emitCurrentToken" 21 5 21 5 "html5lib._tokenizer" 825 296
noncomputable def o3t:=h14 "self" 921 "data" "chars"
noncomputable def oc0:=h2 "dataState" "HTMLTokenizer.dataState" 21 6 21 6
noncomputable def o3u:=h0 "dataState" 918 "HTMLTokenizer.dataState" 303 1 3 298 924
noncomputable def o3v:=h1 "dataState" "HTMLTokenizer.dataState" 21 6 21 6 "html5lib._tokenizer" 825 303
noncomputable def o3w:=h6 "self" 930
noncomputable def oc1:=h2 "entityDataState" "HTMLTokenizer.entityDataState" 21 7 21 7
noncomputable def o3x:=h0 "entityDataState" 927 "HTMLTokenizer.entityDataState" 321 1 3 305 931
noncomputable def o3y:=h1 "entityDataState" "HTMLTokenizer.entityDataState" 21 7 21 7 "html5lib._tokenizer" 825 310
noncomputable def o3z:=h6 "self" 937
noncomputable def oc2:=h2 "rcdataState" "HTMLTokenizer.rcdataState" 21 8 21 38
noncomputable def o40:=h0 "rcdataState" 934 "HTMLTokenizer.rcdataState" 326 1 3 312 938
noncomputable def o41:=h1 "rcdataState" "HTMLTokenizer.rcdataState" 21 8 21 38 "html5lib._tokenizer" 825 317
noncomputable def o42:=h6 "self" 944
noncomputable def oc3:=h2 "characterReferenceInRcdata" "HTMLTokenizer.characterReferenceInRcdata" 21 9 21 38
noncomputable def o43:=h0 "characterReferenceInRcdata" 941 "HTMLTokenizer.characterReferenceInRcdata" 329 1 3 319 945
noncomputable def o44:=h1 "characterReferenceInRcdata" "HTMLTokenizer.characterReferenceInRcdata" 21 9 21 38 "html5lib._tokenizer" 825 324
noncomputable def o45:=h6 "self" 951
noncomputable def oc4:=h2 "rawtextState" "HTMLTokenizer.rawtextState" 21 10 21 38
noncomputable def o46:=h0 "rawtextState" 948 "HTMLTokenizer.rawtextState" 332 1 3 326 952
noncomputable def o47:=h1 "rawtextState" "HTMLTokenizer.rawtextState" 21 10 21 38 "html5lib._tokenizer" 825 331
noncomputable def o48:=h6 "self" 958
noncomputable def oc5:=h2 "scriptDataState" "HTMLTokenizer.scriptDataState" 21 11 21 38
noncomputable def o49:=h0 "scriptDataState" 955 "HTMLTokenizer.scriptDataState" 335 1 3 333 959
noncomputable def o4a:=h1 "scriptDataState" "HTMLTokenizer.scriptDataState" 21 11 21 38 "html5lib._tokenizer" 825 338
noncomputable def o4b:=h6 "self" 965
noncomputable def oc6:=h2 "plaintextState" "HTMLTokenizer.plaintextState" 21 12 21 38
noncomputable def o4c:=h0 "plaintextState" 962 "HTMLTokenizer.plaintextState" 338 1 3 340 966
noncomputable def o4d:=h1 "plaintextState" "HTMLTokenizer.plaintextState" 21 12 21 38 "html5lib._tokenizer" 825 345
noncomputable def o4e:=h5 "self" 972 "data"
noncomputable def oc7:=h2 "tagOpenState" "HTMLTokenizer.tagOpenState" 21 13 21 13
noncomputable def o4f:=h0 "tagOpenState" 969 "HTMLTokenizer.tagOpenState" 341 1 3 347 974
noncomputable def o4g:=h1 "tagOpenState" "HTMLTokenizer.tagOpenState" 21 13 21 13 "html5lib._tokenizer" 825 352
noncomputable def o4h:=h5 "self" 980 "data"
noncomputable def oc8:=h2 "closeTagOpenState" "HTMLTokenizer.closeTagOpenState" 21 14 21 14
noncomputable def o4i:=h0 "closeTagOpenState" 977 "HTMLTokenizer.closeTagOpenState" 365 1 3 354 982
noncomputable def o4j:=h1 "closeTagOpenState" "HTMLTokenizer.closeTagOpenState" 21 14 21 14 "html5lib._tokenizer" 825 359
noncomputable def o4k:=h5 "self" 988 "data"
noncomputable def oc9:=h2 "tagNameState" "HTMLTokenizer.tagNameState" 21 15 21 70
noncomputable def o4l:=h0 "tagNameState" 985 "HTMLTokenizer.tagNameState" 383 1 3 361 990
noncomputable def o4m:=h1 "tagNameState" "HTMLTokenizer.tagNameState" 21 15 21 70 "html5lib._tokenizer" 825 366
noncomputable def o4n:=h6 "self" 996
noncomputable def oca:=h2 "rcdataLessThanSignState" "HTMLTokenizer.rcdataLessThanSignState" 21 16 21 38
noncomputable def o4o:=h0 "rcdataLessThanSignState" 993 "HTMLTokenizer.rcdataLessThanSignState" 401 1 3 368 997
noncomputable def o4p:=h1 "rcdataLessThanSignState" "HTMLTokenizer.rcdataLessThanSignState" 21 16 21 38 "html5lib._tokenizer" 825 373
noncomputable def o4q:=h6 "self" 1003
noncomputable def ocb:=h2 "rcdataEndTagOpenState" "HTMLTokenizer.rcdataEndTagOpenState" 21 17 21 38
noncomputable def o4r:=h0 "rcdataEndTagOpenState" 1000 "HTMLTokenizer.rcdataEndTagOpenState" 404 1 3 375 1004
noncomputable def o4s:=h1 "rcdataEndTagOpenState" "HTMLTokenizer.rcdataEndTagOpenState" 21 17 21 38 "html5lib._tokenizer" 825 380
noncomputable def o4t:=h6 "self" 1010
noncomputable def occ:=h2 "rcdataEndTagNameState" "HTMLTokenizer.rcdataEndTagNameState" 21 18 21 38
noncomputable def o4u:=h0 "rcdataEndTagNameState" 1007 "HTMLTokenizer.rcdataEndTagNameState" 407 1 3 382 1011
noncomputable def o4v:=h1 "rcdataEndTagNameState" "HTMLTokenizer.rcdataEndTagNameState" 21 18 21 38 "html5lib._tokenizer" 825 387
noncomputable def o4w:=h6 "self" 1017
noncomputable def ocd:=h2 "rawtextLessThanSignState" "HTMLTokenizer.rawtextLessThanSignState" 21 19 21 38
noncomputable def o4x:=h0 "rawtextLessThanSignState" 1014 "HTMLTokenizer.rawtextLessThanSignState" 410 1 3 389 1018
noncomputable def o4y:=h1 "rawtextLessThanSignState" "HTMLTokenizer.rawtextLessThanSignState" 21 19 21 38 "html5lib._tokenizer" 825 394
noncomputable def o4z:=h6 "self" 1024
noncomputable def oce:=h2 "rawtextEndTagOpenState" "HTMLTokenizer.rawtextEndTagOpenState" 21 20 21 38
noncomputable def o50:=h0 "rawtextEndTagOpenState" 1021 "HTMLTokenizer.rawtextEndTagOpenState" 413 1 3 396 1025
noncomputable def o51:=h1 "rawtextEndTagOpenState" "HTMLTokenizer.rawtextEndTagOpenState" 21 20 21 38 "html5lib._tokenizer" 825 401
noncomputable def o52:=h6 "self" 1031
noncomputable def ocf:=h2 "rawtextEndTagNameState" "HTMLTokenizer.rawtextEndTagNameState" 21 21 21 38
noncomputable def o53:=h0 "rawtextEndTagNameState" 1028 "HTMLTokenizer.rawtextEndTagNameState" 416 1 3 403 1032
noncomputable def o54:=h1 "rawtextEndTagNameState" "HTMLTokenizer.rawtextEndTagNameState" 21 21 21 38 "html5lib._tokenizer" 825 408
noncomputable def o55:=h6 "self" 1038
noncomputable def ocg:=h2 "scriptDataLessThanSignState" "HTMLTokenizer.scriptDataLessThanSignState" 21 22 21 38
noncomputable def o56:=h0 "scriptDataLessThanSignState" 1035 "HTMLTokenizer.scriptDataLessThanSignState" 419 1 3 410 1039
noncomputable def o57:=h1 "scriptDataLessThanSignState" "HTMLTokenizer.scriptDataLessThanSignState" 21 22 21 38 "html5lib._tokenizer" 825 415
noncomputable def o58:=h6 "self" 1045
noncomputable def och:=h2 "scriptDataEndTagOpenState" "HTMLTokenizer.scriptDataEndTagOpenState" 21 23 21 38
noncomputable def o59:=h0 "scriptDataEndTagOpenState" 1042 "HTMLTokenizer.scriptDataEndTagOpenState" 422 1 3 417 1046
noncomputable def o5a:=h1 "scriptDataEndTagOpenState" "HTMLTokenizer.scriptDataEndTagOpenState" 21 23 21 38 "html5lib._tokenizer" 825 422
noncomputable def o5b:=h6 "self" 1052
noncomputable def oci:=h2 "scriptDataEndTagNameState" "HTMLTokenizer.scriptDataEndTagNameState" 21 24 21 38
noncomputable def o5c:=h0 "scriptDataEndTagNameState" 1049 "HTMLTokenizer.scriptDataEndTagNameState" 425 1 3 424 1053
noncomputable def o5d:=h1 "scriptDataEndTagNameState" "HTMLTokenizer.scriptDataEndTagNameState" 21 24 21 38 "html5lib._tokenizer" 825 429
noncomputable def o5e:=h6 "self" 1059
noncomputable def ocj:=h2 "scriptDataEscapeStartState" "HTMLTokenizer.scriptDataEscapeStartState" 21 25 21 38
noncomputable def o5f:=h0 "scriptDataEscapeStartState" 1056 "HTMLTokenizer.scriptDataEscapeStartState" 428 1 3 431 1060
noncomputable def o5g:=h1 "scriptDataEscapeStartState" "HTMLTokenizer.scriptDataEscapeStartState" 21 25 21 38 "html5lib._tokenizer" 825 436
noncomputable def o5h:=h6 "self" 1066
noncomputable def ock:=h2 "scriptDataEscapeStartDashState" "HTMLTokenizer.scriptDataEscapeStartDashState" 21 26 21 38
noncomputable def o5i:=h0 "scriptDataEscapeStartDashState" 1063 "HTMLTokenizer.scriptDataEscapeStartDashState" 431 1 3 438 1067
noncomputable def o5j:=h1 "scriptDataEscapeStartDashState" "HTMLTokenizer.scriptDataEscapeStartDashState" 21 26 21 38 "html5lib._tokenizer" 825 443
noncomputable def o5k:=h6 "self" 1073
noncomputable def ocl:=h2 "scriptDataEscapedState" "HTMLTokenizer.scriptDataEscapedState" 21 27 21 38
noncomputable def o5l:=h0 "scriptDataEscapedState" 1070 "HTMLTokenizer.scriptDataEscapedState" 434 1 3 445 1074
noncomputable def o5m:=h1 "scriptDataEscapedState" "HTMLTokenizer.scriptDataEscapedState" 21 27 21 38 "html5lib._tokenizer" 825 450
noncomputable def o5n:=h6 "self" 1080
noncomputable def ocm:=h2 "scriptDataEscapedDashState" "HTMLTokenizer.scriptDataEscapedDashState" 21 28 21 38
noncomputable def o5o:=h0 "scriptDataEscapedDashState" 1077 "HTMLTokenizer.scriptDataEscapedDashState" 437 1 3 452 1081
noncomputable def o5p:=h1 "scriptDataEscapedDashState" "HTMLTokenizer.scriptDataEscapedDashState" 21 28 21 38 "html5lib._tokenizer" 825 457
noncomputable def o5q:=h6 "self" 1087
noncomputable def ocn:=h2 "scriptDataEscapedDashDashState" "HTMLTokenizer.scriptDataEscapedDashDashState" 21 29 21 38
noncomputable def o5r:=h0 "scriptDataEscapedDashDashState" 1084 "HTMLTokenizer.scriptDataEscapedDashDashState" 440 1 3 459 1088
noncomputable def o5s:=h1 "scriptDataEscapedDashDashState" "HTMLTokenizer.scriptDataEscapedDashDashState" 21 29 21 38 "html5lib._tokenizer" 825 464
noncomputable def o5t:=h6 "self" 1094
noncomputable def oco:=h2 "scriptDataEscapedLessThanSignState" "HTMLTokenizer.scriptDataEscapedLessThanSignState" 21 30 21 38
noncomputable def o5u:=h0 "scriptDataEscapedLessThanSignState" 1091 "HTMLTokenizer.scriptDataEscapedLessThanSignState" 443 1 3 466 1095
noncomputable def o5v:=h1 "scriptDataEscapedLessThanSignState" "HTMLTokenizer.scriptDataEscapedLessThanSignState" 21 30 21 38 "html5lib._tokenizer" 825 471
noncomputable def o5w:=h6 "self" 1101
noncomputable def ocp:=h2 "scriptDataEscapedEndTagOpenState" "HTMLTokenizer.scriptDataEscapedEndTagOpenState" 21 31 21 38
noncomputable def o5x:=h0 "scriptDataEscapedEndTagOpenState" 1098 "HTMLTokenizer.scriptDataEscapedEndTagOpenState" 446 1 3 473 1102
noncomputable def o5y:=h1 "scriptDataEscapedEndTagOpenState" "HTMLTokenizer.scriptDataEscapedEndTagOpenState" 21 31 21 38 "html5lib._tokenizer" 825 478
noncomputable def o5z:=h6 "self" 1108
noncomputable def ocq:=h2 "scriptDataEscapedEndTagNameState" "HTMLTokenizer.scriptDataEscapedEndTagNameState" 21 32 21 38
noncomputable def o60:=h0 "scriptDataEscapedEndTagNameState" 1105 "HTMLTokenizer.scriptDataEscapedEndTagNameState" 449 1 3 480 1109
noncomputable def o61:=h1 "scriptDataEscapedEndTagNameState" "HTMLTokenizer.scriptDataEscapedEndTagNameState" 21 32 21 38 "html5lib._tokenizer" 825 485
noncomputable def o62:=h6 "self" 1115
noncomputable def ocr:=h2 "scriptDataDoubleEscapeStartState" "HTMLTokenizer.scriptDataDoubleEscapeStartState" 21 33 21 38
noncomputable def o63:=h0 "scriptDataDoubleEscapeStartState" 1112 "HTMLTokenizer.scriptDataDoubleEscapeStartState" 452 1 3 487 1116
noncomputable def o64:=h1 "scriptDataDoubleEscapeStartState" "HTMLTokenizer.scriptDataDoubleEscapeStartState" 21 33 21 38 "html5lib._tokenizer" 825 492
noncomputable def o65:=h6 "self" 1122
noncomputable def ocs:=h2 "scriptDataDoubleEscapedState" "HTMLTokenizer.scriptDataDoubleEscapedState" 21 34 21 38
noncomputable def o66:=h0 "scriptDataDoubleEscapedState" 1119 "HTMLTokenizer.scriptDataDoubleEscapedState" 455 1 3 494 1123
noncomputable def o67:=h1 "scriptDataDoubleEscapedState" "HTMLTokenizer.scriptDataDoubleEscapedState" 21 34 21 38 "html5lib._tokenizer" 825 499
noncomputable def o68:=h6 "self" 1129
noncomputable def oct:=h2 "scriptDataDoubleEscapedDashState" "HTMLTokenizer.scriptDataDoubleEscapedDashState" 21 35 21 38
noncomputable def o69:=h0 "scriptDataDoubleEscapedDashState" 1126 "HTMLTokenizer.scriptDataDoubleEscapedDashState" 458 1 3 501 1130
noncomputable def o6a:=h1 "scriptDataDoubleEscapedDashState" "HTMLTokenizer.scriptDataDoubleEscapedDashState" 21 35 21 38 "html5lib._tokenizer" 825 506
noncomputable def o6b:=h6 "self" 1136
noncomputable def ocu:=h2 "scriptDataDoubleEscapedDashDashState" "HTMLTokenizer.scriptDataDoubleEscapedDashDashState" 21 36 21 38
noncomputable def o6c:=h0 "scriptDataDoubleEscapedDashDashState" 1133 "HTMLTokenizer.scriptDataDoubleEscapedDashDashState" 461 1 3 508 1137
noncomputable def o6d:=h1 "scriptDataDoubleEscapedDashDashState" "HTMLTokenizer.scriptDataDoubleEscapedDashDashState" 21 36 21 38 "html5lib._tokenizer" 825 513
noncomputable def o6e:=h6 "self" 1143
noncomputable def ocv:=h2 "scriptDataDoubleEscapedLessThanSignState" "HTMLTokenizer.scriptDataDoubleEscapedLessThanSignState" 21 37 21 38
noncomputable def o6f:=h0 "scriptDataDoubleEscapedLessThanSignState" 1140 "HTMLTokenizer.scriptDataDoubleEscapedLessThanSignState" 464 1 3 515 1144
noncomputable def o6g:=h1 "scriptDataDoubleEscapedLessThanSignState" "HTMLTokenizer.scriptDataDoubleEscapedLessThanSignState" 21 37 21 38 "html5lib._tokenizer" 825 520
noncomputable def o6h:=h6 "self" 1150
noncomputable def ocw:=h2 "scriptDataDoubleEscapeEndState" "HTMLTokenizer.scriptDataDoubleEscapeEndState" 21 38 21 38
noncomputable def o6i:=h0 "scriptDataDoubleEscapeEndState" 1147 "HTMLTokenizer.scriptDataDoubleEscapeEndState" 467 1 3 522 1151
noncomputable def o6j:=h1 "scriptDataDoubleEscapeEndState" "HTMLTokenizer.scriptDataDoubleEscapeEndState" 21 38 21 38 "html5lib._tokenizer" 825 527
noncomputable def o6k:=h5 "self" 1157 "data"
noncomputable def ocx:=h2 "beforeAttributeNameState" "HTMLTokenizer.beforeAttributeNameState" 21 39 21 41
noncomputable def o6l:=h0 "beforeAttributeNameState" 1154 "HTMLTokenizer.beforeAttributeNameState" 470 1 3 529 1159
noncomputable def o6m:=h1 "beforeAttributeNameState" "HTMLTokenizer.beforeAttributeNameState" 21 39 21 41 "html5lib._tokenizer" 825 534
noncomputable def o6n:=(ob (vt "tuple") no (Data.seq (la [(vs "self" 1165),(vs "data" 1166),(vs "leavingThisState" 1167),(vs "emitToken" 1168),(vs "name" 1169),(vs "_" 1170)]) 0) ar)
noncomputable def ocy:=h2 "attributeNameState" "HTMLTokenizer.attributeNameState" 21 40 21 40
noncomputable def o6o:=h0 "attributeNameState" 1162 "HTMLTokenizer.attributeNameState" 497 1 3 536 1171
noncomputable def o6p:=h1 "attributeNameState" "HTMLTokenizer.attributeNameState" 21 40 21 40 "html5lib._tokenizer" 825 541
noncomputable def o6q:=h5 "self" 1177 "data"
noncomputable def ocz:=h2 "afterAttributeNameState" "HTMLTokenizer.afterAttributeNameState" 21 41 21 41
noncomputable def o6r:=h0 "afterAttributeNameState" 1174 "HTMLTokenizer.afterAttributeNameState" 536 1 3 543 1179
noncomputable def o6s:=h1 "afterAttributeNameState" "HTMLTokenizer.afterAttributeNameState" 21 41 21 41 "html5lib._tokenizer" 825 548
noncomputable def o6t:=h5 "self" 1185 "data"
noncomputable def od0:=h2 "beforeAttributeValueState" "HTMLTokenizer.beforeAttributeValueState" 21 42 21 67
noncomputable def o6u:=h0 "beforeAttributeValueState" 1182 "HTMLTokenizer.beforeAttributeValueState" 565 1 3 550 1187
noncomputable def o6v:=h1 "beforeAttributeValueState" "HTMLTokenizer.beforeAttributeValueState" 21 42 21 67 "html5lib._tokenizer" 825 555
noncomputable def o6w:=h5 "self" 1193 "data"
noncomputable def od1:=h2 "attributeValueDoubleQuotedState" "HTMLTokenizer.attributeValueDoubleQuotedState" 21 43 21 69
noncomputable def o6x:=h0 "attributeValueDoubleQuotedState" 1190 "HTMLTokenizer.attributeValueDoubleQuotedState" 595 1 3 557 1195
noncomputable def o6y:=h1 "attributeValueDoubleQuotedState" "HTMLTokenizer.attributeValueDoubleQuotedState" 21 43 21 69 "html5lib._tokenizer" 825 562
noncomputable def o6z:=h5 "self" 1201 "data"
noncomputable def od2:=h2 "attributeValueSingleQuotedState" "HTMLTokenizer.attributeValueSingleQuotedState" 21 44 21 69
noncomputable def o70:=h0 "attributeValueSingleQuotedState" 1198 "HTMLTokenizer.attributeValueSingleQuotedState" 611 1 3 564 1203
noncomputable def o71:=h1 "attributeValueSingleQuotedState" "HTMLTokenizer.attributeValueSingleQuotedState" 21 44 21 69 "html5lib._tokenizer" 825 569
noncomputable def o72:=h5 "self" 1209 "data"
noncomputable def od3:=h2 "attributeValueUnQuotedState" "HTMLTokenizer.attributeValueUnQuotedState" 21 45 21 67
noncomputable def o73:=h0 "attributeValueUnQuotedState" 1206 "HTMLTokenizer.attributeValueUnQuotedState" 627 1 3 571 1211
noncomputable def o74:=h1 "attributeValueUnQuotedState" "HTMLTokenizer.attributeValueUnQuotedState" 21 45 21 67 "html5lib._tokenizer" 825 576
noncomputable def o75:=h5 "self" 1217 "data"
noncomputable def od4:=h2 "afterAttributeValueState" "HTMLTokenizer.afterAttributeValueState" 21 46 21 70
noncomputable def o76:=h0 "afterAttributeValueState" 1214 "HTMLTokenizer.afterAttributeValueState" 648 1 3 578 1219
noncomputable def o77:=h1 "afterAttributeValueState" "HTMLTokenizer.afterAttributeValueState" 21 46 21 70 "html5lib._tokenizer" 825 583
noncomputable def o78:=h5 "self" 1225 "data"
noncomputable def od5:=h2 "selfClosingStartTagState" "HTMLTokenizer.selfClosingStartTagState" 21 47 21 47
noncomputable def o79:=h0 "selfClosingStartTagState" 1222 "HTMLTokenizer.selfClosingStartTagState" 666 1 3 585 1227
noncomputable def o7a:=h1 "selfClosingStartTagState" "HTMLTokenizer.selfClosingStartTagState" 21 47 21 47 "html5lib._tokenizer" 825 590
noncomputable def o7b:=h5 "self" 1233 "data"
noncomputable def od6:=h2 "bogusCommentState" "HTMLTokenizer.bogusCommentState" 21 48 21 48
noncomputable def o7c:=h0 "bogusCommentState" 1230 "HTMLTokenizer.bogusCommentState" 681 1 3 592 1235
noncomputable def o7d:=h1 "bogusCommentState" "HTMLTokenizer.bogusCommentState" 21 48 21 48 "html5lib._tokenizer" 825 597
noncomputable def o7e:=h18 "self" 1241 "charStack" "matched" "expected"
noncomputable def od7:=h2 "markupDeclarationOpenState" "HTMLTokenizer.markupDeclarationOpenState" 21 49 21 49
noncomputable def o7f:=h0 "markupDeclarationOpenState" 1238 "HTMLTokenizer.markupDeclarationOpenState" 689 1 3 599 1245
noncomputable def o7g:=h1 "markupDeclarationOpenState" "HTMLTokenizer.markupDeclarationOpenState" 21 49 21 49 "html5lib._tokenizer" 825 604
noncomputable def o7h:=h5 "self" 1251 "data"
noncomputable def od8:=h2 "commentStartState" "HTMLTokenizer.commentStartState" 21 50 21 69
noncomputable def o7i:=h0 "commentStartState" 1248 "HTMLTokenizer.commentStartState" 714 1 3 606 1253
noncomputable def o7j:=h1 "commentStartState" "HTMLTokenizer.commentStartState" 21 50 21 69 "html5lib._tokenizer" 825 611
noncomputable def o7k:=h5 "self" 1259 "data"
noncomputable def od9:=h2 "commentStartDashState" "HTMLTokenizer.commentStartDashState" 21 51 21 69
noncomputable def o7l:=h0 "commentStartDashState" 1256 "HTMLTokenizer.commentStartDashState" 734 1 3 613 1261
noncomputable def o7m:=h1 "commentStartDashState" "HTMLTokenizer.commentStartDashState" 21 51 21 69 "html5lib._tokenizer" 825 618
noncomputable def o7n:=h5 "self" 1267 "data"
noncomputable def oda:=h2 "commentState" "HTMLTokenizer.commentState" 21 52 21 69
noncomputable def o7o:=h0 "commentState" 1264 "HTMLTokenizer.commentState" 754 1 3 620 1269
noncomputable def o7p:=h1 "commentState" "HTMLTokenizer.commentState" 21 52 21 69 "html5lib._tokenizer" 825 625
noncomputable def o7q:=h5 "self" 1275 "data"
noncomputable def odb:=h2 "commentEndDashState" "HTMLTokenizer.commentEndDashState" 21 53 21 69
noncomputable def o7r:=h0 "commentEndDashState" 1272 "HTMLTokenizer.commentEndDashState" 769 1 3 627 1277
noncomputable def o7s:=h1 "commentEndDashState" "HTMLTokenizer.commentEndDashState" 21 53 21 69 "html5lib._tokenizer" 825 632
noncomputable def o7t:=h5 "self" 1283 "data"
noncomputable def odc:=h2 "commentEndState" "HTMLTokenizer.commentEndState" 21 54 21 69
noncomputable def o7u:=h0 "commentEndState" 1280 "HTMLTokenizer.commentEndState" 786 1 3 634 1285
noncomputable def o7v:=h1 "commentEndState" "HTMLTokenizer.commentEndState" 21 54 21 69 "html5lib._tokenizer" 825 639
noncomputable def o7w:=h5 "self" 1291 "data"
noncomputable def odd:=h2 "commentEndBangState" "HTMLTokenizer.commentEndBangState" 21 55 21 69
noncomputable def o7x:=h0 "commentEndBangState" 1288 "HTMLTokenizer.commentEndBangState" 811 1 3 641 1293
noncomputable def o7y:=h1 "commentEndBangState" "HTMLTokenizer.commentEndBangState" 21 55 21 69 "html5lib._tokenizer" 825 646
noncomputable def o7z:=h5 "self" 1299 "data"
noncomputable def ode:=h2 "doctypeState" "HTMLTokenizer.doctypeState" 21 56 21 70
noncomputable def o80:=h0 "doctypeState" 1296 "HTMLTokenizer.doctypeState" 832 1 3 648 1301
noncomputable def o81:=h1 "doctypeState" "HTMLTokenizer.doctypeState" 21 56 21 70 "html5lib._tokenizer" 825 653
noncomputable def o82:=h5 "self" 1307 "data"
noncomputable def odf:=h2 "beforeDoctypeNameState" "HTMLTokenizer.beforeDoctypeNameState" 21 57 21 67
noncomputable def o83:=h0 "beforeDoctypeNameState" 1304 "HTMLTokenizer.beforeDoctypeNameState" 847 1 3 655 1309
noncomputable def o84:=h1 "beforeDoctypeNameState" "HTMLTokenizer.beforeDoctypeNameState" 21 57 21 67 "html5lib._tokenizer" 825 660
noncomputable def o85:=h5 "self" 1315 "data"
noncomputable def odg:=h2 "doctypeNameState" "HTMLTokenizer.doctypeNameState" 21 58 21 58
noncomputable def o86:=h0 "doctypeNameState" 1312 "HTMLTokenizer.doctypeNameState" 870 1 3 662 1317
noncomputable def o87:=h1 "doctypeNameState" "HTMLTokenizer.doctypeNameState" 21 58 21 58 "html5lib._tokenizer" 825 667
noncomputable def o88:=h18 "self" 1323 "data" "matched" "expected"
noncomputable def odh:=h2 "afterDoctypeNameState" "HTMLTokenizer.afterDoctypeNameState" 21 59 21 59
noncomputable def o89:=h0 "afterDoctypeNameState" 1320 "HTMLTokenizer.afterDoctypeNameState" 893 1 3 669 1327
noncomputable def o8a:=h1 "afterDoctypeNameState" "HTMLTokenizer.afterDoctypeNameState" 21 59 21 59 "html5lib._tokenizer" 825 674
noncomputable def o8b:=h5 "self" 1333 "data"
noncomputable def odi:=h2 "afterDoctypePublicKeywordState" "HTMLTokenizer.afterDoctypePublicKeywordState" 21 60 21 67
noncomputable def o8c:=h0 "afterDoctypePublicKeywordState" 1330 "HTMLTokenizer.afterDoctypePublicKeywordState" 933 1 3 676 1335
noncomputable def o8d:=h1 "afterDoctypePublicKeywordState" "HTMLTokenizer.afterDoctypePublicKeywordState" 21 60 21 67 "html5lib._tokenizer" 825 681
noncomputable def o8e:=h5 "self" 1341 "data"
noncomputable def odj:=h2 "beforeDoctypePublicIdentifierState" "HTMLTokenizer.beforeDoctypePublicIdentifierState" 21 61 21 67
noncomputable def o8f:=h0 "beforeDoctypePublicIdentifierState" 1338 "HTMLTokenizer.beforeDoctypePublicIdentifierState" 951 1 3 683 1343
noncomputable def o8g:=h1 "beforeDoctypePublicIdentifierState" "HTMLTokenizer.beforeDoctypePublicIdentifierState" 21 61 21 67 "html5lib._tokenizer" 825 688
noncomputable def o8h:=h5 "self" 1349 "data"
noncomputable def odk:=h2 "doctypePublicIdentifierDoubleQuotedState" "HTMLTokenizer.doctypePublicIdentifierDoubleQuotedState" 21 62 21 69
noncomputable def o8i:=h0 "doctypePublicIdentifierDoubleQuotedState" 1346 "HTMLTokenizer.doctypePublicIdentifierDoubleQuotedState" 977 1 3 690 1351
noncomputable def o8j:=h1 "doctypePublicIdentifierDoubleQuotedState" "HTMLTokenizer.doctypePublicIdentifierDoubleQuotedState" 21 62 21 69 "html5lib._tokenizer" 825 695
noncomputable def o8k:=h5 "self" 1357 "data"
noncomputable def odl:=h2 "doctypePublicIdentifierSingleQuotedState" "HTMLTokenizer.doctypePublicIdentifierSingleQuotedState" 21 63 21 69
noncomputable def o8l:=h0 "doctypePublicIdentifierSingleQuotedState" 1354 "HTMLTokenizer.doctypePublicIdentifierSingleQuotedState" 998 1 3 697 1359
noncomputable def o8m:=h1 "doctypePublicIdentifierSingleQuotedState" "HTMLTokenizer.doctypePublicIdentifierSingleQuotedState" 21 63 21 69 "html5lib._tokenizer" 825 702
noncomputable def o8n:=h5 "self" 1365 "data"
noncomputable def odm:=h2 "afterDoctypePublicIdentifierState" "HTMLTokenizer.afterDoctypePublicIdentifierState" 21 64 21 67
noncomputable def o8o:=h0 "afterDoctypePublicIdentifierState" 1362 "HTMLTokenizer.afterDoctypePublicIdentifierState" 1019 1 3 704 1367
noncomputable def o8p:=h1 "afterDoctypePublicIdentifierState" "HTMLTokenizer.afterDoctypePublicIdentifierState" 21 64 21 67 "html5lib._tokenizer" 825 709
noncomputable def o8q:=h5 "self" 1373 "data"
noncomputable def odn:=h2 "betweenDoctypePublicAndSystemIdentifiersState" "HTMLTokenizer.betweenDoctypePublicAndSystemIdentifiersState" 21 65 21 70
noncomputable def o8r:=h0 "betweenDoctypePublicAndSystemIdentifiersState" 1370 "HTMLTokenizer.betweenDoctypePublicAndSystemIdentifiersState" 1045 1 3 711 1375
noncomputable def o8s:=h1 "betweenDoctypePublicAndSystemIdentifiersState" "HTMLTokenizer.betweenDoctypePublicAndSystemIdentifiersState" 21 65 21 70 "html5lib._tokenizer" 825 716
noncomputable def o8t:=h5 "self" 1381 "data"
noncomputable def odo:=h2 "afterDoctypeSystemKeywordState" "HTMLTokenizer.afterDoctypeSystemKeywordState" 21 66 21 67
noncomputable def o8u:=h0 "afterDoctypeSystemKeywordState" 1378 "HTMLTokenizer.afterDoctypeSystemKeywordState" 1069 1 3 718 1383
noncomputable def o8v:=h1 "afterDoctypeSystemKeywordState" "HTMLTokenizer.afterDoctypeSystemKeywordState" 21 66 21 67 "html5lib._tokenizer" 825 723
noncomputable def o8w:=h5 "self" 1389 "data"
noncomputable def odp:=h2 "beforeDoctypeSystemIdentifierState" "HTMLTokenizer.beforeDoctypeSystemIdentifierState" 21 67 21 67
noncomputable def o8x:=h0 "beforeDoctypeSystemIdentifierState" 1386 "HTMLTokenizer.beforeDoctypeSystemIdentifierState" 1087 1 3 725 1391
noncomputable def o8y:=h1 "beforeDoctypeSystemIdentifierState" "HTMLTokenizer.beforeDoctypeSystemIdentifierState" 21 67 21 67 "html5lib._tokenizer" 825 730
noncomputable def o8z:=h5 "self" 1397 "data"
noncomputable def odq:=h2 "doctypeSystemIdentifierDoubleQuotedState" "HTMLTokenizer.doctypeSystemIdentifierDoubleQuotedState" 21 68 21 69
noncomputable def o90:=h0 "doctypeSystemIdentifierDoubleQuotedState" 1394 "HTMLTokenizer.doctypeSystemIdentifierDoubleQuotedState" 1113 1 3 732 1399
noncomputable def o91:=h1 "doctypeSystemIdentifierDoubleQuotedState" "HTMLTokenizer.doctypeSystemIdentifierDoubleQuotedState" 21 68 21 69 "html5lib._tokenizer" 825 737
noncomputable def o92:=h5 "self" 1405 "data"
noncomputable def odr:=h2 "doctypeSystemIdentifierSingleQuotedState" "HTMLTokenizer.doctypeSystemIdentifierSingleQuotedState" 21 69 21 69
noncomputable def o93:=h0 "doctypeSystemIdentifierSingleQuotedState" 1402 "HTMLTokenizer.doctypeSystemIdentifierSingleQuotedState" 1134 1 3 739 1407
noncomputable def o94:=h1 "doctypeSystemIdentifierSingleQuotedState" "HTMLTokenizer.doctypeSystemIdentifierSingleQuotedState" 21 69 21 69 "html5lib._tokenizer" 825 744
noncomputable def o95:=h5 "self" 1413 "data"
noncomputable def ods:=h2 "afterDoctypeSystemIdentifierState" "HTMLTokenizer.afterDoctypeSystemIdentifierState" 21 70 21 70
noncomputable def o96:=h0 "afterDoctypeSystemIdentifierState" 1410 "HTMLTokenizer.afterDoctypeSystemIdentifierState" 1155 1 3 746 1415
noncomputable def o97:=h1 "afterDoctypeSystemIdentifierState" "HTMLTokenizer.afterDoctypeSystemIdentifierState" 21 70 21 70 "html5lib._tokenizer" 825 751
noncomputable def o98:=h5 "self" 1421 "data"
noncomputable def odt:=h2 "bogusDoctypeState" "HTMLTokenizer.bogusDoctypeState" 21 71 21 71
noncomputable def o99:=h0 "bogusDoctypeState" 1418 "HTMLTokenizer.bogusDoctypeState" 1172 1 3 753 1423
noncomputable def o9a:=h1 "bogusDoctypeState" "HTMLTokenizer.bogusDoctypeState" 21 71 21 71 "html5lib._tokenizer" 825 758
noncomputable def o9b:=(ob (vt "tuple") no (Data.seq (la [(vs "currentToken" 1426),(vs "escape" 1427),(vs "escapeFlag" 1428),(vs "lastFourChars" 1429),(vs "parser" 1430),(vs "state" 1431),(vs "stream" 1432),(vs "tokenQueue" 1433)]) 0) ar)
noncomputable def o9c (P:Params):=(ob (vt "dict") no (Data.dict (la [(de P "__module__" 849 (vs "html5lib._tokenizer" 825)),(de P "__firstlineno__" 853 (vi 181 852)),(de P "__init__" 862 (vr 261)),(de P "__iter__" 869 (vr 268)),(de P "consumeNumberEntity" 884 (vr 275)),(de P "consumeEntity" 899 (vr 283)),(de P "processEntityInAttribute" 907 (vr 290)),(de P "emitCurrentToken" 917 (vr 297)),(de P "dataState" 926 (vr 304)),(de P "entityDataState" 933 (vr 311)),(de P "rcdataState" 940 (vr 318)),(de P "characterReferenceInRcdata" 947 (vr 325)),(de P "rawtextState" 954 (vr 332)),(de P "scriptDataState" 961 (vr 339)),(de P "plaintextState" 968 (vr 346)),(de P "tagOpenState" 976 (vr 353)),(de P "closeTagOpenState" 984 (vr 360)),(de P "tagNameState" 992 (vr 367)),(de P "rcdataLessThanSignState" 999 (vr 374)),(de P "rcdataEndTagOpenState" 1006 (vr 381)),(de P "rcdataEndTagNameState" 1013 (vr 388)),(de P "rawtextLessThanSignState" 1020 (vr 395)),(de P "rawtextEndTagOpenState" 1027 (vr 402)),(de P "rawtextEndTagNameState" 1034 (vr 409)),(de P "scriptDataLessThanSignState" 1041 (vr 416)),(de P "scriptDataEndTagOpenState" 1048 (vr 423)),(de P "scriptDataEndTagNameState" 1055 (vr 430)),(de P "scriptDataEscapeStartState" 1062 (vr 437)),(de P "scriptDataEscapeStartDashState" 1069 (vr 444)),(de P "scriptDataEscapedState" 1076 (vr 451)),(de P "scriptDataEscapedDashState" 1083 (vr 458)),(de P "scriptDataEscapedDashDashState" 1090 (vr 465)),(de P "scriptDataEscapedLessThanSignState" 1097 (vr 472)),(de P "scriptDataEscapedEndTagOpenState" 1104 (vr 479)),(de P "scriptDataEscapedEndTagNameState" 1111 (vr 486)),(de P "scriptDataDoubleEscapeStartState" 1118 (vr 493)),(de P "scriptDataDoubleEscapedState" 1125 (vr 500)),(de P "scriptDataDoubleEscapedDashState" 1132 (vr 507)),(de P "scriptDataDoubleEscapedDashDashState" 1139 (vr 514)),(de P "scriptDataDoubleEscapedLessThanSignState" 1146 (vr 521)),(de P "scriptDataDoubleEscapeEndState" 1153 (vr 528)),(de P "beforeAttributeNameState" 1161 (vr 535)),(de P "attributeNameState" 1173 (vr 542)),(de P "afterAttributeNameState" 1181 (vr 549)),(de P "beforeAttributeValueState" 1189 (vr 556)),(de P "attributeValueDoubleQuotedState" 1197 (vr 563)),(de P "attributeValueSingleQuotedState" 1205 (vr 570)),(de P "attributeValueUnQuotedState" 1213 (vr 577)),(de P "afterAttributeValueState" 1221 (vr 584)),(de P "selfClosingStartTagState" 1229 (vr 591)),(de P "bogusCommentState" 1237 (vr 598)),(de P "markupDeclarationOpenState" 1247 (vr 605)),(de P "commentStartState" 1255 (vr 612)),(de P "commentStartDashState" 1263 (vr 619)),(de P "commentState" 1271 (vr 626)),(de P "commentEndDashState" 1279 (vr 633)),(de P "commentEndState" 1287 (vr 640)),(de P "commentEndBangState" 1295 (vr 647)),(de P "doctypeState" 1303 (vr 654)),(de P "beforeDoctypeNameState" 1311 (vr 661)),(de P "doctypeNameState" 1319 (vr 668)),(de P "afterDoctypeNameState" 1329 (vr 675)),(de P "afterDoctypePublicKeywordState" 1337 (vr 682)),(de P "beforeDoctypePublicIdentifierState" 1345 (vr 689)),(de P "doctypePublicIdentifierDoubleQuotedState" 1353 (vr 696)),(de P "doctypePublicIdentifierSingleQuotedState" 1361 (vr 703)),(de P "afterDoctypePublicIdentifierState" 1369 (vr 710)),(de P "betweenDoctypePublicAndSystemIdentifiersState" 1377 (vr 717)),(de P "afterDoctypeSystemKeywordState" 1385 (vr 724)),(de P "beforeDoctypeSystemIdentifierState" 1393 (vr 731)),(de P "doctypeSystemIdentifierDoubleQuotedState" 1401 (vr 738)),(de P "doctypeSystemIdentifierSingleQuotedState" 1409 (vr 745)),(de P "afterDoctypeSystemIdentifierState" 1417 (vr 752)),(de P "bogusDoctypeState" 1425 (vr 759)),(de P "__static_attributes__" 1434 (vr 760)),(de P "__dict__" 1436 (vr 763)),(de P "__weakref__" 1438 (vr 764)),(de P "__doc__" 1439 vn)]) 4) ar)
noncomputable def o9d:=h11 "HTMLTokenizer" 762 761 247 842
noncomputable def o9e:=h16 1435 762
noncomputable def o9f:=h20 1437 762
noncomputable def odu:=h24 762
noncomputable def odv:=h22 762
noncomputable def n3_22 (P:Params):List DictEntry:=(de P "__name__" 165 (vs "law_te0030_05" 1442))::(n3_21 P).drop 1
noncomputable def oey (P:Params):=d3 (n3_22 P) 27
noncomputable def n3_23 (P:Params):List DictEntry:=n3_22 P++[(de P "_law_SIGNS" 1449 (vr 773))]
noncomputable def oez (P:Params):=d3 (n3_23 P) 28
noncomputable def of0:=(ob vn no (Data.fields (la [(vi 1 0),(vi 0 0),(vr 20),(vi 10 0),(vi 0 0),(vr 41),(vi 17 0),(vi 0 0),(vr 55),(vi 27 0),(vi 0 0),(vr 83),(vi 29 0),(vi 0 0),(vr 90),(vi 133 0),(vi 0 0),(vr 177),(vi 143 0),(vi 0 0),(vr 184),(vi 181 0),(vi 0 0),(vr 252),(vi 1185 0),(vi 0 0),(vr 772)])) ar)
noncomputable def odw:=h8 "_law_SIGNS" 23
noncomputable def o9g:=h0 "_law_SIGNS" 1444 "_law_SIGNS" 1185 0 3 767 1447
noncomputable def o9h:=h7 "_law_SIGNS" 23 "law_te0030_05" 1442 772
noncomputable def n3_24 (P:Params):List DictEntry:=n3_23 P++[(de P "_law_close" 1456 (vr 780))]
noncomputable def of1 (P:Params):=d3 (n3_24 P) 29
noncomputable def of2:=(ob vn no (Data.fields (la [(vi 1 0),(vi 0 0),(vr 20),(vi 10 0),(vi 0 0),(vr 41),(vi 17 0),(vi 0 0),(vr 55),(vi 27 0),(vi 0 0),(vr 83),(vi 29 0),(vi 0 0),(vr 90),(vi 133 0),(vi 0 0),(vr 177),(vi 143 0),(vi 0 0),(vr 184),(vi 181 0),(vi 0 0),(vr 252),(vi 1185 0),(vi 0 0),(vr 772),(vi 1187 0),(vi 0 0),(vr 779)])) ar)
noncomputable def o9i:=h6 "sign" 1453
noncomputable def odx:=h8 "_law_close" 24
noncomputable def o9j:=h0 "_law_close" 1450 "_law_close" 1187 1 3 774 1454
noncomputable def o9k:=h7 "_law_close" 24 "law_te0030_05" 1442 779
noncomputable def n3_25 (P:Params):List DictEntry:=n3_24 P++[(de P "_law_longest" 1465 (vr 787))]
noncomputable def of3 (P:Params):=d3 (n3_25 P) 30
noncomputable def of4:=(ob vn no (Data.fields (la [(vi 1 0),(vi 0 0),(vr 20),(vi 10 0),(vi 0 0),(vr 41),(vi 17 0),(vi 0 0),(vr 55),(vi 27 0),(vi 0 0),(vr 83),(vi 29 0),(vi 0 0),(vr 90),(vi 133 0),(vi 0 0),(vr 177),(vi 143 0),(vi 0 0),(vr 184),(vi 181 0),(vi 0 0),(vr 252),(vi 1185 0),(vi 0 0),(vr 772),(vi 1187 0),(vi 0 0),(vr 779),(vi 1189 0),(vi 0 0),(vr 786)])) ar)
noncomputable def o9l:=h14 "words" 1460 "best" "name"
noncomputable def ody:=h8 "_law_longest" 25
noncomputable def o9m:=h0 "_law_longest" 1457 "_law_longest" 1189 1 3 781 1463
noncomputable def o9n:=h7 "_law_longest" 25 "law_te0030_05" 1442 786
noncomputable def n3_26 (P:Params):List DictEntry:=n3_25 P++[(de P "_law_reference" 1471 (vr 792))]
noncomputable def of5 (P:Params):=d3 (n3_26 P) 31
noncomputable def of6:=(ob vn no (Data.fields (la [(vi 1 0),(vi 0 0),(vr 20),(vi 10 0),(vi 0 0),(vr 41),(vi 17 0),(vi 0 0),(vr 55),(vi 27 0),(vi 0 0),(vr 83),(vi 29 0),(vi 0 0),(vr 90),(vi 133 0),(vi 0 0),(vr 177),(vi 143 0),(vi 0 0),(vr 184),(vi 181 0),(vi 0 0),(vr 252),(vi 1185 0),(vi 0 0),(vr 772),(vi 1187 0),(vi 0 0),(vr 779),(vi 1189 0),(vi 0 0),(vr 786),(vi 1195 0),(vi 0 0),(vr 791)])) ar)
noncomputable def odz:=h8 "_law_reference" 26
noncomputable def o9o:=h12 "_law_reference" 1466 1195 2 788
noncomputable def o9p:=h7 "_law_reference" 26 "law_te0030_05" 1442 791
noncomputable def n3_27 (P:Params):List DictEntry:=n3_26 P++[(de P "_law_twin" 1480 (vr 799))]
noncomputable def of7 (P:Params):=d3 (n3_27 P) 32
noncomputable def of8:=(ob vn no (Data.fields (la [(vi 1 0),(vi 0 0),(vr 20),(vi 10 0),(vi 0 0),(vr 41),(vi 17 0),(vi 0 0),(vr 55),(vi 27 0),(vi 0 0),(vr 83),(vi 29 0),(vi 0 0),(vr 90),(vi 133 0),(vi 0 0),(vr 177),(vi 143 0),(vi 0 0),(vr 184),(vi 181 0),(vi 0 0),(vr 252),(vi 1185 0),(vi 0 0),(vr 772),(vi 1187 0),(vi 0 0),(vr 779),(vi 1189 0),(vi 0 0),(vr 786),(vi 1195 0),(vi 0 0),(vr 791),(vi 1201 0),(vi 0 0),(vr 798)])) ar)
noncomputable def o9q:=h14 "words" 1475 "inside" "best"
noncomputable def oe0:=h8 "_law_twin" 27
noncomputable def o9r:=h0 "_law_twin" 1472 "_law_twin" 1201 2 3 793 1478
noncomputable def o9s:=h7 "_law_twin" 27 "law_te0030_05" 1442 798
noncomputable def n3_28 (P:Params):List DictEntry:=n3_27 P++[(de P "_law_reading" 1494 (vr 806))]
noncomputable def of9 (P:Params):=d3 (n3_28 P) 33
noncomputable def ofa:=(ob vn no (Data.fields (la [(vi 1 0),(vi 0 0),(vr 20),(vi 10 0),(vi 0 0),(vr 41),(vi 17 0),(vi 0 0),(vr 55),(vi 27 0),(vi 0 0),(vr 83),(vi 29 0),(vi 0 0),(vr 90),(vi 133 0),(vi 0 0),(vr 177),(vi 143 0),(vi 0 0),(vr 184),(vi 181 0),(vi 0 0),(vr 252),(vi 1185 0),(vi 0 0),(vr 772),(vi 1187 0),(vi 0 0),(vr 779),(vi 1189 0),(vi 0 0),(vr 786),(vi 1195 0),(vi 0 0),(vr 791),(vi 1201 0),(vi 0 0),(vr 798),(vi 1210 0),(vi 0 0),(vr 805)])) ar)
noncomputable def o9t:=(ob (vt "tuple") no (Data.seq (la [(vs "text" 1484),(vs "inside" 1485),(vs "size" 1486),(vs "reader" 1487),(vs "row" 1488),(vs "signs" 1489),(vs "told" 1490),(vs "token" 1491)]) 0) ar)
noncomputable def oe1:=h8 "_law_reading" 28
noncomputable def o9u:=h0 "_law_reading" 1481 "_law_reading" 1210 3 3 800 1492
noncomputable def o9v:=h7 "_law_reading" 28 "law_te0030_05" 1442 805
noncomputable def n3_29 (P:Params):List DictEntry:=n3_28 P++[(de P "law" 1500 (vr 811))]
noncomputable def o9w (P:Params):=d3 (n3_29 P) 34
noncomputable def oe2:=(ob vn no (Data.fields (la [(vi 1 0),(vi 0 0),(vr 20),(vi 10 0),(vi 0 0),(vr 41),(vi 17 0),(vi 0 0),(vr 55),(vi 27 0),(vi 0 0),(vr 83),(vi 29 0),(vi 0 0),(vr 90),(vi 133 0),(vi 0 0),(vr 177),(vi 143 0),(vi 0 0),(vr 184),(vi 181 0),(vi 0 0),(vr 252),(vi 1185 0),(vi 0 0),(vr 772),(vi 1187 0),(vi 0 0),(vr 779),(vi 1189 0),(vi 0 0),(vr 786),(vi 1195 0),(vi 0 0),(vr 791),(vi 1201 0),(vi 0 0),(vr 798),(vi 1210 0),(vi 0 0),(vr 805),(vi 1230 0),(vi 0 0),(vr 810)])) ar)
noncomputable def oe3:=h8 "law" 29
noncomputable def o9x:=h12 "law" 1495 1230 1 807
noncomputable def o9y:=h7 "law" 29 "law_te0030_05" 1442 810
noncomputable def tr0 (P:Params):BT:=putL .nil [(0,PySem.W.boot_o_0 P),(1,PySem.W.boot_o_1 P),(2,PySem.W.boot_o_2 P),(3,PySem.W.boot_o_3 P),(4,PySem.W.boot_o_4 P),(5,PySem.W.boot_o_5 P),(6,PySem.W.boot_o_6 P),(7,PySem.W.boot_o_7 P),(8,PySem.W.boot_o_8 P),(9,PySem.W.boot_o_9 P),(10,PySem.W.boot_o_10 P)]
noncomputable def tr_pre (P:Params):BT:=putL (tr0 P) [(11,o5),(12,o6),(13,o9z),(14,oa0)]
noncomputable def tr_block (P:Params):BT:=tr_pre P
noncomputable def tr_0 (P:Params):BT:=putL (tr_block P) [(3,oe4 P),(12,oe5),(15,o5),(16,o6),(17,oa),(18,o5),(19,oa1),(20,oe),(21,og)]
noncomputable def tr_1 (P:Params):BT:=putL (tr_0 P) [(3,oe6 P)]
noncomputable def tr_2 (P:Params):BT:=putL (tr_1 P) [(3,oe7 P)]
noncomputable def tr_3 (P:Params):BT:=putL (tr_2 P) [(3,oe8 P),(22,oh)]
noncomputable def tr_4 (P:Params):BT:=putL (tr_3 P) [(3,oe9 P),(23,oa2 P),(24,oa3),(25,o5),(26,oa4),(27,oj P)]
noncomputable def tr_5 (P:Params):BT:=putL (tr_4 P) [(3,oea P),(28,oa5),(29,oa6),(30,o5),(31,oa7),(32,om)]
noncomputable def tr_6 (P:Params):BT:=putL (tr_5 P) [(3,oeb P),(33,oa8),(34,oa9),(35,o5),(36,oaa),(37,oo)]
noncomputable def tr_7 (P:Params):BT:=putL (tr_6 P) [(3,oec P),(12,oed),(38,o5),(39,o6),(40,oab),(41,oq),(42,ou)]
noncomputable def tr_8 (P:Params):BT:=putL (tr_7 P) [(3,oee P),(43,ow P),(44,oac P),(45,oad P)]
noncomputable def tr_9 (P:Params):BT:=putL (tr_8 P) [(3,oef P),(46,oy),(47,oae)]
noncomputable def tr_10 (P:Params):BT:=putL (tr_9 P) [(3,oeg P),(48,oz P)]
noncomputable def tr_11 (P:Params):BT:=putL (tr_10 P) [(3,oeh P),(49,o10)]
noncomputable def tr_12 (P:Params):BT:=putL (tr_11 P) [(3,oei P)]
noncomputable def tr_13 (P:Params):BT:=putL (tr_12 P) [(3,oej P),(12,oek),(50,o7),(51,o8),(52,oaf P),(53,o5),(54,oag),(55,oah),(56,oai),(57,o5),(58,o6),(59,o11),(60,o5),(61,oaj),(62,o12),(63,o13),(64,o5),(65,o6),(66,o14),(67,o5),(68,oak),(69,o15),(70,o16),(71,o17),(72,o18 P),(73,o19),(74,o1a),(75,o1b),(76,oal),(77,oam)]
noncomputable def tr_14 (P:Params):BT:=putL (tr_13 P) [(3,oel P),(12,oem),(78,o5),(79,o6),(80,o1c),(81,o5),(82,oan),(83,o1d),(84,o1e)]
noncomputable def tr_15 (P:Params):BT:=putL (tr_14 P) [(3,oen P),(12,oeo),(85,o7),(86,o8),(87,oao P),(88,o5),(89,oap),(90,oaq),(91,oar),(92,o5),(93,o6),(94,o1f),(95,o5),(96,oas),(97,o1g),(98,o1h),(99,o5),(100,o6),(101,o1i),(102,o5),(103,oat),(104,o1j),(105,o1k),(106,o5),(107,o6),(108,o1l),(109,o5),(110,oau),(111,o1m),(112,o1n),(113,o5),(114,o6),(115,o1o),(116,o5),(117,oav),(118,o1p),(119,o1q),(120,o5),(121,o6),(122,o1r),(123,o5),(124,oaw),(125,o1s),(126,o1t),(127,o5),(128,o6),(129,o1u),(130,o5),(131,oax),(132,o1v),(133,o1w),(134,o9),(135,o5),(136,o6),(137,o1x),(138,o5),(139,oay),(140,o1y),(141,o1z),(142,o5),(143,o6),(144,o20),(145,o5),(146,oaz),(147,o21),(148,o22),(149,o23),(150,o5),(151,o6),(152,o24),(153,o5),(154,ob0),(155,o25),(156,o26),(157,o5),(158,o6),(159,o27),(160,o5),(161,ob1),(162,o28),(163,o29),(164,o2a),(165,o2b P),(166,o2c),(167,o2d),(168,o2e),(169,ob2),(170,ob3)]
noncomputable def tr_16 (P:Params):BT:=putL (tr_15 P) [(3,oep P)]
noncomputable def tr_17 (P:Params):BT:=putL (tr_16 P) [(3,oeq P),(12,oer),(171,o2f),(172,o5),(173,o6),(174,o2g),(175,o5),(176,ob4),(177,o2h),(178,o2i)]
noncomputable def tr_18 (P:Params):BT:=putL (tr_17 P) [(3,oes P),(12,oet),(179,o7),(180,o8),(181,ob5 P),(182,o5),(183,ob6),(184,ob7),(185,ob8),(186,o5),(187,o6),(188,o2j),(189,o5),(190,ob9),(191,o2k),(192,o2l),(193,o5),(194,o6),(195,o2m),(196,o5),(197,oba),(198,o2n),(199,o2o),(200,o5),(201,o6),(202,o2p),(203,o5),(204,obb),(205,o2q),(206,o2r),(207,o5),(208,o6),(209,o2s),(210,o5),(211,obc),(212,o2t),(213,o2u),(214,o5),(215,o6),(216,o2v),(217,o5),(218,obd),(219,o2w),(220,o2x),(221,o5),(222,o6),(223,o2y),(224,o5),(225,obe),(226,o2z),(227,o30),(228,o31),(229,o32 P),(230,o33),(231,o34),(232,o35),(233,obf),(234,obg)]
noncomputable def tr_19 (P:Params):BT:=putL (tr_18 P) [(3,oeu P)]
noncomputable def tr_20 (P:Params):BT:=putL (tr_19 P) [(3,oev P),(235,o36 P),(236,o37),(237,obh P),(238,obi),(239,obk),(240,obl),(241,o5),(242,obm),(243,o38),(244,obn),(245,obo),(246,o39)]
noncomputable def tr_21 (P:Params):BT:=putL (tr_20 P) [(3,oew P),(12,oex),(247,o7),(248,o8),(249,obp P),(250,o5),(251,obq),(252,obr),(253,obt),(254,o9),(255,o5),(256,o6),(257,o3a),(258,o5),(259,obu),(260,o3b),(261,o3c),(262,o5),(263,o6),(264,o3d),(265,o5),(266,obv),(267,o3e),(268,o3f),(269,o5),(270,o6),(271,o3g),(272,o5),(273,obw),(274,o3h),(275,o3i),(276,o3j),(277,o5),(278,o6),(279,o3k),(280,o5),(281,obx),(282,o3l),(283,o3m),(284,o5),(285,o6),(286,o3n),(287,o5),(288,oby),(289,o3o),(290,o3p),(291,o5),(292,o6),(293,o3q),(294,o5),(295,obz),(296,o3r),(297,o3s),(298,o5),(299,o6),(300,o3t),(301,o5),(302,oc0),(303,o3u),(304,o3v),(305,o5),(306,o6),(307,o3w),(308,o5),(309,oc1),(310,o3x),(311,o3y),(312,o5),(313,o6),(314,o3z),(315,o5),(316,oc2),(317,o40),(318,o41),(319,o5),(320,o6),(321,o42),(322,o5),(323,oc3),(324,o43),(325,o44),(326,o5),(327,o6),(328,o45),(329,o5),(330,oc4),(331,o46),(332,o47),(333,o5),(334,o6),(335,o48),(336,o5),(337,oc5),(338,o49),(339,o4a),(340,o5),(341,o6),(342,o4b),(343,o5),(344,oc6),(345,o4c),(346,o4d),(347,o5),(348,o6),(349,o4e),(350,o5),(351,oc7),(352,o4f),(353,o4g),(354,o5),(355,o6),(356,o4h),(357,o5),(358,oc8),(359,o4i),(360,o4j),(361,o5),(362,o6),(363,o4k),(364,o5),(365,oc9),(366,o4l),(367,o4m),(368,o5),(369,o6),(370,o4n),(371,o5),(372,oca),(373,o4o),(374,o4p),(375,o5),(376,o6),(377,o4q),(378,o5),(379,ocb),(380,o4r),(381,o4s),(382,o5),(383,o6),(384,o4t),(385,o5),(386,occ),(387,o4u),(388,o4v),(389,o5),(390,o6),(391,o4w),(392,o5),(393,ocd),(394,o4x),(395,o4y),(396,o5),(397,o6),(398,o4z),(399,o5),(400,oce),(401,o50),(402,o51),(403,o5),(404,o6),(405,o52),(406,o5),(407,ocf),(408,o53),(409,o54),(410,o5),(411,o6),(412,o55),(413,o5),(414,ocg),(415,o56),(416,o57),(417,o5),(418,o6),(419,o58),(420,o5),(421,och),(422,o59),(423,o5a),(424,o5),(425,o6),(426,o5b),(427,o5),(428,oci),(429,o5c),(430,o5d),(431,o5),(432,o6),(433,o5e),(434,o5),(435,ocj),(436,o5f),(437,o5g),(438,o5),(439,o6),(440,o5h),(441,o5),(442,ock),(443,o5i),(444,o5j),(445,o5),(446,o6),(447,o5k),(448,o5),(449,ocl),(450,o5l),(451,o5m),(452,o5),(453,o6),(454,o5n),(455,o5),(456,ocm),(457,o5o),(458,o5p),(459,o5),(460,o6),(461,o5q),(462,o5),(463,ocn),(464,o5r),(465,o5s),(466,o5),(467,o6),(468,o5t),(469,o5),(470,oco),(471,o5u),(472,o5v),(473,o5),(474,o6),(475,o5w),(476,o5),(477,ocp),(478,o5x),(479,o5y),(480,o5),(481,o6),(482,o5z),(483,o5),(484,ocq),(485,o60),(486,o61),(487,o5),(488,o6),(489,o62),(490,o5),(491,ocr),(492,o63),(493,o64),(494,o5),(495,o6),(496,o65),(497,o5),(498,ocs),(499,o66),(500,o67),(501,o5),(502,o6),(503,o68),(504,o5),(505,oct),(506,o69),(507,o6a),(508,o5),(509,o6),(510,o6b),(511,o5),(512,ocu),(513,o6c),(514,o6d),(515,o5),(516,o6),(517,o6e),(518,o5),(519,ocv),(520,o6f),(521,o6g),(522,o5),(523,o6),(524,o6h),(525,o5),(526,ocw),(527,o6i),(528,o6j),(529,o5),(530,o6),(531,o6k),(532,o5),(533,ocx),(534,o6l),(535,o6m),(536,o5),(537,o6),(538,o6n),(539,o5),(540,ocy),(541,o6o),(542,o6p),(543,o5),(544,o6),(545,o6q),(546,o5),(547,ocz),(548,o6r),(549,o6s),(550,o5),(551,o6),(552,o6t),(553,o5),(554,od0),(555,o6u),(556,o6v),(557,o5),(558,o6),(559,o6w),(560,o5),(561,od1),(562,o6x),(563,o6y),(564,o5),(565,o6),(566,o6z),(567,o5),(568,od2),(569,o70),(570,o71),(571,o5),(572,o6),(573,o72),(574,o5),(575,od3),(576,o73),(577,o74),(578,o5),(579,o6),(580,o75),(581,o5),(582,od4),(583,o76),(584,o77),(585,o5),(586,o6),(587,o78),(588,o5),(589,od5),(590,o79),(591,o7a),(592,o5),(593,o6),(594,o7b),(595,o5),(596,od6),(597,o7c),(598,o7d),(599,o5),(600,o6),(601,o7e),(602,o5),(603,od7),(604,o7f),(605,o7g),(606,o5),(607,o6),(608,o7h),(609,o5),(610,od8),(611,o7i),(612,o7j),(613,o5),(614,o6),(615,o7k),(616,o5),(617,od9),(618,o7l),(619,o7m),(620,o5),(621,o6),(622,o7n),(623,o5),(624,oda),(625,o7o),(626,o7p),(627,o5),(628,o6),(629,o7q),(630,o5),(631,odb),(632,o7r),(633,o7s),(634,o5),(635,o6),(636,o7t),(637,o5),(638,odc),(639,o7u),(640,o7v),(641,o5),(642,o6),(643,o7w),(644,o5),(645,odd),(646,o7x),(647,o7y),(648,o5),(649,o6),(650,o7z),(651,o5),(652,ode),(653,o80),(654,o81),(655,o5),(656,o6),(657,o82),(658,o5),(659,odf),(660,o83),(661,o84),(662,o5),(663,o6),(664,o85),(665,o5),(666,odg),(667,o86),(668,o87),(669,o5),(670,o6),(671,o88),(672,o5),(673,odh),(674,o89),(675,o8a),(676,o5),(677,o6),(678,o8b),(679,o5),(680,odi),(681,o8c),(682,o8d),(683,o5),(684,o6),(685,o8e),(686,o5),(687,odj),(688,o8f),(689,o8g),(690,o5),(691,o6),(692,o8h),(693,o5),(694,odk),(695,o8i),(696,o8j),(697,o5),(698,o6),(699,o8k),(700,o5),(701,odl),(702,o8l),(703,o8m),(704,o5),(705,o6),(706,o8n),(707,o5),(708,odm),(709,o8o),(710,o8p),(711,o5),(712,o6),(713,o8q),(714,o5),(715,odn),(716,o8r),(717,o8s),(718,o5),(719,o6),(720,o8t),(721,o5),(722,odo),(723,o8u),(724,o8v),(725,o5),(726,o6),(727,o8w),(728,o5),(729,odp),(730,o8x),(731,o8y),(732,o5),(733,o6),(734,o8z),(735,o5),(736,odq),(737,o90),(738,o91),(739,o5),(740,o6),(741,o92),(742,o5),(743,odr),(744,o93),(745,o94),(746,o5),(747,o6),(748,o95),(749,o5),(750,ods),(751,o96),(752,o97),(753,o5),(754,o6),(755,o98),(756,o5),(757,odt),(758,o99),(759,o9a),(760,o9b),(761,o9c P),(762,o9d),(763,o9e),(764,o9f),(765,odu),(766,odv)]
noncomputable def tr_22 (P:Params):BT:=putL (tr_21 P) [(3,oey P)]
noncomputable def tr_23 (P:Params):BT:=putL (tr_22 P) [(3,oez P),(12,of0),(767,o5),(768,o6),(769,o5),(770,o5),(771,odw),(772,o9g),(773,o9h)]
noncomputable def tr_24 (P:Params):BT:=putL (tr_23 P) [(3,of1 P),(12,of2),(774,o5),(775,o6),(776,o9i),(777,o5),(778,odx),(779,o9j),(780,o9k)]
noncomputable def tr_25 (P:Params):BT:=putL (tr_24 P) [(3,of3 P),(12,of4),(781,o5),(782,o6),(783,o9l),(784,o5),(785,ody),(786,o9m),(787,o9n)]
noncomputable def tr_26 (P:Params):BT:=putL (tr_25 P) [(3,of5 P),(12,of6),(788,o5),(789,o6),(790,odz),(791,o9o),(792,o9p)]
noncomputable def tr_27 (P:Params):BT:=putL (tr_26 P) [(3,of7 P),(12,of8),(793,o5),(794,o6),(795,o9q),(796,o5),(797,oe0),(798,o9r),(799,o9s)]
noncomputable def tr_28 (P:Params):BT:=putL (tr_27 P) [(3,of9 P),(12,ofa),(800,o5),(801,o6),(802,o9t),(803,o5),(804,oe1),(805,o9u),(806,o9v)]
noncomputable def tr_29 (P:Params):BT:=putL (tr_28 P) [(3,o9w P),(12,oe2),(807,o5),(808,o6),(809,oe3),(810,o9x),(811,o9y)]
noncomputable def finL (P:Params):List Obj:=[PySem.W.boot_o_0 P,PySem.W.boot_o_1 P,PySem.W.boot_o_2 P,o9w P,PySem.W.boot_o_4 P,PySem.W.boot_o_5 P,PySem.W.boot_o_6 P,PySem.W.boot_o_7 P,PySem.W.boot_o_8 P,PySem.W.boot_o_9 P,PySem.W.boot_o_10 P,o5,oe2,o9z,oa0,o5,o6,oa,o5,oa1,oe,og,oh,oa2 P,oa3,o5,oa4,oj P,oa5,oa6,o5,oa7,om,oa8,oa9,o5,oaa,oo,o5,o6,oab,oq,ou,ow P,oac P,oad P,oy,oae,oz P,o10,o7,o8,oaf P,o5,oag,oah,oai,o5,o6,o11,o5,oaj,o12,o13,o5,o6,o14,o5,oak,o15,o16,o17,o18 P,o19,o1a,o1b,oal,oam,o5,o6,o1c,o5,oan,o1d,o1e,o7,o8,oao P,o5,oap,oaq,oar,o5,o6,o1f,o5,oas,o1g,o1h,o5,o6,o1i,o5,oat,o1j,o1k,o5,o6,o1l,o5,oau,o1m,o1n,o5,o6,o1o,o5,oav,o1p,o1q,o5,o6,o1r,o5,oaw,o1s,o1t,o5,o6,o1u,o5,oax,o1v,o1w,o9,o5,o6,o1x,o5,oay,o1y,o1z,o5,o6,o20,o5,oaz,o21,o22,o23,o5,o6,o24,o5,ob0,o25,o26,o5,o6,o27,o5,ob1,o28,o29,o2a,o2b P,o2c,o2d,o2e,ob2,ob3,o2f,o5,o6,o2g,o5,ob4,o2h,o2i,o7,o8,ob5 P,o5,ob6,ob7,ob8,o5,o6,o2j,o5,ob9,o2k,o2l,o5,o6,o2m,o5,oba,o2n,o2o,o5,o6,o2p,o5,obb,o2q,o2r,o5,o6,o2s,o5,obc,o2t,o2u,o5,o6,o2v,o5,obd,o2w,o2x,o5,o6,o2y,o5,obe,o2z,o30,o31,o32 P,o33,o34,o35,obf,obg,o36 P,o37,obh P,obi,obk,obl,o5,obm,o38,obn,obo,o39,o7,o8,obp P,o5,obq,obr,obt,o9,o5,o6,o3a,o5,obu,o3b,o3c,o5,o6,o3d,o5,obv,o3e,o3f,o5,o6,o3g,o5,obw,o3h,o3i,o3j,o5,o6,o3k,o5,obx,o3l,o3m,o5,o6,o3n,o5,oby,o3o,o3p,o5,o6,o3q,o5,obz,o3r,o3s,o5,o6,o3t,o5,oc0,o3u,o3v,o5,o6,o3w,o5,oc1,o3x,o3y,o5,o6,o3z,o5,oc2,o40,o41,o5,o6,o42,o5,oc3,o43,o44,o5,o6,o45,o5,oc4,o46,o47,o5,o6,o48,o5,oc5,o49,o4a,o5,o6,o4b,o5,oc6,o4c,o4d,o5,o6,o4e,o5,oc7,o4f,o4g,o5,o6,o4h,o5,oc8,o4i,o4j,o5,o6,o4k,o5,oc9,o4l,o4m,o5,o6,o4n,o5,oca,o4o,o4p,o5,o6,o4q,o5,ocb,o4r,o4s,o5,o6,o4t,o5,occ,o4u,o4v,o5,o6,o4w,o5,ocd,o4x,o4y,o5,o6,o4z,o5,oce,o50,o51,o5,o6,o52,o5,ocf,o53,o54,o5,o6,o55,o5,ocg,o56,o57,o5,o6,o58,o5,och,o59,o5a,o5,o6,o5b,o5,oci,o5c,o5d,o5,o6,o5e,o5,ocj,o5f,o5g,o5,o6,o5h,o5,ock,o5i,o5j,o5,o6,o5k,o5,ocl,o5l,o5m,o5,o6,o5n,o5,ocm,o5o,o5p,o5,o6,o5q,o5,ocn,o5r,o5s,o5,o6,o5t,o5,oco,o5u,o5v,o5,o6,o5w,o5,ocp,o5x,o5y,o5,o6,o5z,o5,ocq,o60,o61,o5,o6,o62,o5,ocr,o63,o64,o5,o6,o65,o5,ocs,o66,o67,o5,o6,o68,o5,oct,o69,o6a,o5,o6,o6b,o5,ocu,o6c,o6d,o5,o6,o6e,o5,ocv,o6f,o6g,o5,o6,o6h,o5,ocw,o6i,o6j,o5,o6,o6k,o5,ocx,o6l,o6m,o5,o6,o6n,o5,ocy,o6o,o6p,o5,o6,o6q,o5,ocz,o6r,o6s,o5,o6,o6t,o5,od0,o6u,o6v,o5,o6,o6w,o5,od1,o6x,o6y,o5,o6,o6z,o5,od2,o70,o71,o5,o6,o72,o5,od3,o73,o74,o5,o6,o75,o5,od4,o76,o77,o5,o6,o78,o5,od5,o79,o7a,o5,o6,o7b,o5,od6,o7c,o7d,o5,o6,o7e,o5,od7,o7f,o7g,o5,o6,o7h,o5,od8,o7i,o7j,o5,o6,o7k,o5,od9,o7l,o7m,o5,o6,o7n,o5,oda,o7o,o7p,o5,o6,o7q,o5,odb,o7r,o7s,o5,o6,o7t,o5,odc,o7u,o7v,o5,o6,o7w,o5,odd,o7x,o7y,o5,o6,o7z,o5,ode,o80,o81,o5,o6,o82,o5,odf,o83,o84,o5,o6,o85,o5,odg,o86,o87,o5,o6,o88,o5,odh,o89,o8a,o5,o6,o8b,o5,odi,o8c,o8d,o5,o6,o8e,o5,odj,o8f,o8g,o5,o6,o8h,o5,odk,o8i,o8j,o5,o6,o8k,o5,odl,o8l,o8m,o5,o6,o8n,o5,odm,o8o,o8p,o5,o6,o8q,o5,odn,o8r,o8s,o5,o6,o8t,o5,odo,o8u,o8v,o5,o6,o8w,o5,odp,o8x,o8y,o5,o6,o8z,o5,odq,o90,o91,o5,o6,o92,o5,odr,o93,o94,o5,o6,o95,o5,ods,o96,o97,o5,o6,o98,o5,odt,o99,o9a,o9b,o9c P,o9d,o9e,o9f,odu,odv,o5,o6,o5,o5,odw,o9g,o9h,o5,o6,o9i,o5,odx,o9j,o9k,o5,o6,o9l,o5,ody,o9m,o9n,o5,o6,odz,o9o,o9p,o5,o6,o9q,o5,oe0,o9r,o9s,o5,o6,o9t,o5,oe1,o9u,o9v,o5,o6,oe3,o9x,o9y]
noncomputable def qP:Pos:=(Pos.mk 0 0 0 0)
noncomputable def envT:Env:={ scope:=pE.main.scope,locals:=mainNs,globals:=mainNs,cells:=[],code:=(vr 13),frame:=some 14 }
noncomputable def cT:Code:=.body (behindTheImports pE) envT
noncomputable def dr:Drawn:=(Drawn.mk 0 0 0 0)
noncomputable def S_ (t:Params->BT) (n k:Nat) (w:World) (os:OsState):SharedT:=⟨t w.params,n,lf,#[],dr,k,os⟩
noncomputable def an:Option Value:=(some (vr 6))
noncomputable def pos0:Pos:=(Pos.mk 1 0 3 12)
noncomputable def pos1:Pos:=(Pos.mk 4 0 4 8)
noncomputable def pos2:Pos:=(Pos.mk 5 0 5 3)
noncomputable def pos3:Pos:=(Pos.mk 6 0 6 15)
noncomputable def pos4:Pos:=(Pos.mk 7 0 7 12)
noncomputable def pos5:Pos:=(Pos.mk 8 0 8 6)
noncomputable def pos6:Pos:=(Pos.mk 9 0 9 9)
noncomputable def pos7:Pos:=(Pos.mk 10 0 11 78)
noncomputable def pos8:Pos:=(Pos.mk 12 0 12 8)
noncomputable def pos9:Pos:=(Pos.mk 13 0 13 21)
noncomputable def pos10:Pos:=(Pos.mk 14 0 14 10)
noncomputable def pos11:Pos:=(Pos.mk 15 0 15 13)
noncomputable def pos12:Pos:=(Pos.mk 16 0 16 8)
noncomputable def pos13:Pos:=(Pos.mk 17 0 26 19)
noncomputable def pos14:Pos:=(Pos.mk 27 0 28 210)
noncomputable def pos15:Pos:=(Pos.mk 29 0 131 59)
noncomputable def pos16:Pos:=(Pos.mk 132 0 132 8)
noncomputable def pos17:Pos:=(Pos.mk 133 0 142 14)
noncomputable def pos18:Pos:=(Pos.mk 143 0 178 30)
noncomputable def pos19:Pos:=(Pos.mk 179 0 179 8)
noncomputable def pos20:Pos:=(Pos.mk 180 0 180 12)
noncomputable def pos21:Pos:=(Pos.mk 181 0 1183 19)
noncomputable def pos22:Pos:=(Pos.mk 1184 0 1184 8)
noncomputable def pos23:Pos:=(Pos.mk 1185 0 1186 172)
noncomputable def pos24:Pos:=(Pos.mk 1187 0 1188 90)
noncomputable def pos25:Pos:=(Pos.mk 1189 0 1194 15)
noncomputable def pos26:Pos:=(Pos.mk 1195 0 1200 76)
noncomputable def pos27:Pos:=(Pos.mk 1201 0 1209 85)
noncomputable def pos28:Pos:=(Pos.mk 1210 0 1229 14)
noncomputable def pos29:Pos:=(Pos.mk 1230 0 1246 15)
noncomputable def posB:Pos:=(Pos.mk 0 0 0 0)
noncomputable def Pc (w:World) (os:OsState) (n i:Nat) (t:Params->BT) (a b:Nat) (p:Pos) (t':Params->BT) (a' b':Nat) (p':Pos):Prop:=PySem.W.Fast.tw10110043849684766642 PySem.W.Fast.tw14364793385576792824 pE w 11 an 1 n (S_ t a b w os) (piecesOf [st i] envT cT p [topFrame qP])=some (.next,S_ t' a' b' w os,cT,p')
theorem pc0 (w:World) (os:OsState):Pc w os 30 0 tr_block 15 187 posB tr_0 22 194 pos0:=by unfold Pc;kernel_rfl
theorem pc1 (w:World) (os:OsState):Pc w os 10 1 tr_0 22 194 pos0 tr_1 22 196 pos1:=by unfold Pc;kernel_rfl
theorem pc2 (w:World) (os:OsState):Pc w os 9 2 tr_1 22 196 pos1 tr_2 22 197 pos2:=by unfold Pc;kernel_rfl
theorem pc3 (w:World) (os:OsState):Pc w os 16 3 tr_2 22 197 pos2 tr_3 23 203 pos3:=by unfold Pc;kernel_rfl
theorem Ij (w:World) (os:OsState):Pc (w.withFollow "special-get-raises" false) os 784 4 tr_3 23 203 pos3 tr_4 28 257 pos4:=by unfold Pc;kernel_rfl
theorem pc4_true (w:World) (os:OsState):Pc (w.withFollow "special-get-raises" true) os 784 4 tr_3 23 203 pos3 tr_4 28 257 pos4:=by unfold Pc;kernel_rfl
theorem pc4 (w:World) (os:OsState):Pc w os 784 4 tr_3 23 203 pos3 tr_4 28 257 pos4:=byRow2 "special-get-raises" (P:=fun w=>Pc w os 784 4 tr_3 23 203 pos3 tr_4 28 257 pos4) (fun w=>Ij w os) (fun w=>pc4_true w os) w
theorem Ik (w:World) (os:OsState):Pc (w.withFollow "special-get-raises" false) os 196 5 tr_4 28 257 pos4 tr_5 33 269 pos5:=by unfold Pc;kernel_rfl
theorem pc5_true (w:World) (os:OsState):Pc (w.withFollow "special-get-raises" true) os 196 5 tr_4 28 257 pos4 tr_5 33 269 pos5:=by unfold Pc;kernel_rfl
theorem pc5 (w:World) (os:OsState):Pc w os 196 5 tr_4 28 257 pos4 tr_5 33 269 pos5:=byRow2 "special-get-raises" (P:=fun w=>Pc w os 196 5 tr_4 28 257 pos4 tr_5 33 269 pos5) (fun w=>Ik w os) (fun w=>pc5_true w os) w
theorem Il (w:World) (os:OsState):Pc (w.withFollow "special-get-raises" false) os 364 6 tr_5 33 269 pos5 tr_6 38 293 pos6:=by unfold Pc;kernel_rfl
theorem pc6_true (w:World) (os:OsState):Pc (w.withFollow "special-get-raises" true) os 364 6 tr_5 33 269 pos5 tr_6 38 293 pos6:=by unfold Pc;kernel_rfl
theorem pc6 (w:World) (os:OsState):Pc w os 364 6 tr_5 33 269 pos5 tr_6 38 293 pos6:=byRow2 "special-get-raises" (P:=fun w=>Pc w os 364 6 tr_5 33 269 pos5 tr_6 38 293 pos6) (fun w=>Il w os) (fun w=>pc6_true w os) w
theorem pc7 (w:World) (os:OsState):Pc w os 27 7 tr_6 38 293 pos6 tr_7 43 299 pos7:=by unfold Pc;kernel_rfl
theorem Im (w:World) (os:OsState):Pc (w.withFollow "special-get-raises" false) os 826 8 tr_7 43 299 pos7 tr_8 46 429 pos8:=by unfold Pc;kernel_rfl
theorem pc8_true (w:World) (os:OsState):Pc (w.withFollow "special-get-raises" true) os 826 8 tr_7 43 299 pos7 tr_8 46 429 pos8:=by unfold Pc;kernel_rfl
theorem pc8 (w:World) (os:OsState):Pc w os 826 8 tr_7 43 299 pos7 tr_8 46 429 pos8:=byRow2 "special-get-raises" (P:=fun w=>Pc w os 826 8 tr_7 43 299 pos7 tr_8 46 429 pos8) (fun w=>Im w os) (fun w=>pc8_true w os) w
theorem Io (w:World) (os:OsState):Pc (w.withFollow "special-get-raises" false) os 563 9 tr_8 46 429 pos8 tr_9 48 532 pos9:=by unfold Pc;kernel_rfl
theorem pc9_true (w:World) (os:OsState):Pc (w.withFollow "special-get-raises" true) os 563 9 tr_8 46 429 pos8 tr_9 48 532 pos9:=by unfold Pc;kernel_rfl
theorem pc9 (w:World) (os:OsState):Pc w os 563 9 tr_8 46 429 pos8 tr_9 48 532 pos9:=byRow2 "special-get-raises" (P:=fun w=>Pc w os 563 9 tr_8 46 429 pos8 tr_9 48 532 pos9) (fun w=>Io w os) (fun w=>pc9_true w os) w
theorem F4 (w:World) (os:OsState):Pc (w.withFollow "special-get-raises" false) os 131 10 tr_9 48 532 pos9 tr_10 49 557 pos10:=by unfold Pc;kernel_rfl
theorem Ip (w:World) (os:OsState):Pc (w.withFollow "special-get-raises" true) os 131 10 tr_9 48 532 pos9 tr_10 49 557 pos10:=by unfold Pc;kernel_rfl
theorem pc10 (w:World) (os:OsState):Pc w os 131 10 tr_9 48 532 pos9 tr_10 49 557 pos10:=byRow2 "special-get-raises" (P:=fun w=>Pc w os 131 10 tr_9 48 532 pos9 tr_10 49 557 pos10) (fun w=>F4 w os) (fun w=>Ip w os) w
theorem F5 (w:World) (os:OsState):Pc (w.withFollow "special-get-raises" false) os 92 11 tr_10 49 557 pos10 tr_11 50 564 pos11:=by unfold Pc;kernel_rfl
theorem Iq (w:World) (os:OsState):Pc (w.withFollow "special-get-raises" true) os 92 11 tr_10 49 557 pos10 tr_11 50 564 pos11:=by unfold Pc;kernel_rfl
theorem pc11 (w:World) (os:OsState):Pc w os 92 11 tr_10 49 557 pos10 tr_11 50 564 pos11:=byRow2 "special-get-raises" (P:=fun w=>Pc w os 92 11 tr_10 49 557 pos10 tr_11 50 564 pos11) (fun w=>F5 w os) (fun w=>Iq w os) w
theorem pc12 (w:World) (os:OsState):Pc w os 10 12 tr_11 50 564 pos11 tr_12 50 566 pos12:=by unfold Pc;kernel_rfl
theorem pc13 (w:World) (os:OsState):Pc w os 261 13 tr_12 50 566 pos12 tr_13 78 605 pos13:=by unfold Pc;kernel_rfl
theorem pc14 (w:World) (os:OsState):Pc w os 30 14 tr_13 78 605 pos13 tr_14 85 612 pos14:=by unfold Pc;kernel_rfl
theorem pc15 (w:World) (os:OsState):Pc w os 548 15 tr_14 85 612 pos14 tr_15 171 736 pos15:=by unfold Pc;kernel_rfl
theorem pc16 (w:World) (os:OsState):Pc w os 10 16 tr_15 171 736 pos15 tr_16 171 738 pos16:=by unfold Pc;kernel_rfl
theorem pc17 (w:World) (os:OsState):Pc w os 36 17 tr_16 171 738 pos16 tr_17 179 750 pos17:=by unfold Pc;kernel_rfl
theorem pc18 (w:World) (os:OsState):Pc w os 393 18 tr_17 179 750 pos17 tr_18 235 825 pos18:=by unfold Pc;kernel_rfl
theorem pc19 (w:World) (os:OsState):Pc w os 10 19 tr_18 235 825 pos18 tr_19 235 827 pos19:=by unfold Pc;kernel_rfl
theorem F6 (w:World) (os:OsState):Pc (w.withFollow "special-get-raises" false) os 1239 20 tr_19 235 827 pos19 tr_20 247 842 pos20:=by unfold Pc;kernel_rfl
theorem Ir (w:World) (os:OsState):Pc (w.withFollow "special-get-raises" true) os 1239 20 tr_19 235 827 pos19 tr_20 247 842 pos20:=by unfold Pc;kernel_rfl
theorem pc20 (w:World) (os:OsState):Pc w os 1239 20 tr_19 235 827 pos19 tr_20 247 842 pos20:=byRow2 "special-get-raises" (P:=fun w=>Pc w os 1239 20 tr_19 235 827 pos19 tr_20 247 842 pos20) (fun w=>F6 w os) (fun w=>Ir w os) w
theorem pc21 (w:World) (os:OsState):Pc w os 2504 21 tr_20 247 842 pos20 tr_21 767 1442 pos21:=by unfold Pc;kernel_rfl
theorem pc22 (w:World) (os:OsState):Pc w os 10 22 tr_21 767 1442 pos21 tr_22 767 1444 pos22:=by unfold Pc;kernel_rfl
theorem pc23 (w:World) (os:OsState):Pc w os 29 23 tr_22 767 1444 pos22 tr_23 774 1450 pos23:=by unfold Pc;kernel_rfl
theorem pc24 (w:World) (os:OsState):Pc w os 30 24 tr_23 774 1450 pos23 tr_24 781 1457 pos24:=by unfold Pc;kernel_rfl
theorem pc25 (w:World) (os:OsState):Pc w os 32 25 tr_24 781 1457 pos24 tr_25 788 1466 pos25:=by unfold Pc;kernel_rfl
theorem pc26 (w:World) (os:OsState):Pc w os 27 26 tr_25 788 1466 pos25 tr_26 793 1472 pos26:=by unfold Pc;kernel_rfl
theorem pc27 (w:World) (os:OsState):Pc w os 32 27 tr_26 793 1472 pos26 tr_27 800 1481 pos27:=by unfold Pc;kernel_rfl
theorem pc28 (w:World) (os:OsState):Pc w os 37 28 tr_27 800 1481 pos27 tr_28 807 1495 pos28:=by unfold Pc;kernel_rfl
theorem pc29 (w:World) (os:OsState):Pc w os 27 29 tr_28 807 1495 pos28 tr_29 812 1501 pos29:=by unfold Pc;kernel_rfl
theorem teS:@segRunT=@PySem.W.Fast.tw10110043849684766642:=PySem.W.Fast.te10110043849684766642
theorem teT:@treeTable=@PySem.W.Fast.tw14364793385576792824:=PySem.W.Fast.te14364793385576792824
theorem teG:@topGo=@PySem.W.Fast.tw15667345088766844465:=PySem.W.Fast.te15667345088766844465
theorem teR:@topRun=@PySem.W.Fast.tw14082659384304107361:=PySem.W.Fast.te14082659384304107361
theorem teD:@denote=@PySem.W.Fast.tw11892475500146522536:=PySem.W.Fast.te11892475500146522536
noncomputable def H1 (P:Params):Heap:=⟨(finL P).toArray,lf⟩
theorem Af {w:World} {os:OsState} {n i:Nat} {t:Params->BT} {a b:Nat} {p:Pos} {t':Params->BT} {a' b':Nat} {p':Pos} (h:Pc w os n i t a b p t' a' b' p'):segRun treeTable pE w 11 an 1 n (S_ t a b w os).abs (piecesOf [st i] envT cT p [topFrame qP])=some (.next,(S_ t' a' b' w os).abs,cT,p'):=segRun_of (by rw [teS,teT];exact h)
noncomputable def posA:Pos:=(Pos.mk 0 0 0 0)
theorem pcPre (w:World) (os:OsState):PySem.W.Fast.tw15667345088766844465 PySem.W.Fast.tw14364793385576792824 pE w 11 an 12 ⟨boot_heap w.params,#[],boot_drawn,boot_toks,os⟩ (topStub pE)=some ((S_ tr_pre 15 187 w os).abs,⟨PySem.W.Fast.tw11892475500146522536 PySem.W.Fast.tw14364793385576792824 cT,cT,posA,[topFrame qP]⟩):=by kernel_rfl
theorem psPre (w:World) (os:OsState):topGo treeTable pE w 11 an 12 ⟨boot_heap w.params,#[],boot_drawn,boot_toks,os⟩ (topStub pE)=some ((S_ tr_pre 15 187 w os).abs,⟨denote treeTable cT,cT,posA,[topFrame qP]⟩):=by rw [teG,teT,teD];exact pcPre w os
theorem psBlock (w:World) (os:OsState):segRun treeTable pE w 11 an 1 1 (S_ tr_pre 15 187 w os).abs (blockOf (behindTheImports pE) envT cT posA [topFrame qP])=some (.next,(S_ tr_block 15 187 w os).abs,cT,posB):=by kernel_rfl
theorem pcFin (w:World) (os:OsState):PySem.W.Fast.tw14082659384304107361 PySem.W.Fast.tw14364793385576792824 pE w 11 an 2 (S_ tr_29 812 1501 w os).abs ⟨doneF .next,cT,pos29,[topFrame qP]⟩=some ⟨H1 w.params,#[],dr,1501,os⟩:=by kernel_rfl
theorem psFin (w:World) (os:OsState):topRun treeTable pE w 11 an 2 (S_ tr_29 812 1501 w os).abs ⟨doneF .next,cT,pos29,[topFrame qP]⟩=some ⟨H1 w.params,#[],dr,1501,os⟩:=by rw [teR,teT];exact pcFin w os
theorem bodyEq:behindTheImports pE=[st 0]++([st 1]++([st 2]++([st 3]++([st 4]++([st 5]++([st 6]++([st 7]++([st 8]++([st 9]++([st 10]++([st 11]++([st 12]++([st 13]++([st 14]++([st 15]++([st 16]++([st 17]++([st 18]++([st 19]++([st 20]++([st 21]++([st 22]++([st 23]++([st 24]++([st 25]++([st 26]++([st 27]++([st 28]++([st 29]++([])))))))))))))))))))))))))))))):=by kernel_rfl
noncomputable def MM:Nat:=12+(1+(30+(10+(9+(16+(784+(196+(364+(27+(826+(563+(131+(92+(10+(261+(30+(548+(10+(36+(393+(10+(1239+(2504+(10+(29+(30+(32+(27+(32+(37+(27+2)))))))))))))))))))))))))))))))
theorem runT (w:World) (os:OsState):topRun treeTable pE w 11 an MM ⟨boot_heap w.params,#[],boot_drawn,boot_toks,os⟩ (topStub pE)=some ⟨H1 w.params,#[],dr,1501,os⟩:=by
  refine go_top (psPre w os) (piece_block (psBlock w os) ?_);rw [show restOf (behindTheImports pE) envT cT posB [topFrame qP]=restOf ([st 0]++([st 1]++([st 2]++([st 3]++([st 4]++([st 5]++([st 6]++([st 7]++([st 8]++([st 9]++([st 10]++([st 11]++([st 12]++([st 13]++([st 14]++([st 15]++([st 16]++([st 17]++([st 18]++([st 19]++([st 20]++([st 21]++([st 22]++([st 23]++([st 24]++([st 25]++([st 26]++([st 27]++([st 28]++([st 29]++([]))))))))))))))))))))))))))))))) envT cT posB [topFrame qP] from congrArg (fun b=>restOf b envT cT posB [topFrame qP]) bodyEq]
  exact (piece_app (Af (pc0 w os)) (piece_app (Af (pc1 w os)) (piece_app (Af (pc2 w os)) (piece_app (Af (pc3 w os)) (piece_app (Af (pc4 w os)) (piece_app (Af (pc5 w os)) (piece_app (Af (pc6 w os)) (piece_app (Af (pc7 w os)) (piece_app (Af (pc8 w os)) (piece_app (Af (pc9 w os)) (piece_app (Af (pc10 w os)) (piece_app (Af (pc11 w os)) (piece_app (Af (pc12 w os)) (piece_app (Af (pc13 w os)) (piece_app (Af (pc14 w os)) (piece_app (Af (pc15 w os)) (piece_app (Af (pc16 w os)) (piece_app (Af (pc17 w os)) (piece_app (Af (pc18 w os)) (piece_app (Af (pc19 w os)) (piece_app (Af (pc20 w os)) (piece_app (Af (pc21 w os)) (piece_app (Af (pc22 w os)) (piece_app (Af (pc23 w os)) (piece_app (Af (pc24 w os)) (piece_app (Af (pc25 w os)) (piece_app (Af (pc26 w os)) (piece_app (Af (pc27 w os)) (piece_app (Af (pc28 w os)) (piece_app (Af (pc29 w os)) (piece_nil (psFin w os))))))))))))))))))))))))))))))))
theorem openT:∀w:World,(fencedOpening treeTable pE w 16836).map (fun s=>(s.heap,s.gens,s.drawn,s.toks))=some (boot_heap w.params,Array.mk [],boot_drawn,boot_toks):=boot_open (by kernel_rfl) (by kernel_rfl) (fun s=>by kernel_rfl)
theorem sizeT (w:World):((boot_heap w.params).isNs mainGlobals&&(Array.mk []:Array GenState).size==0,(boot_heap w.params).objs.size,(boot_heap w.params).nsMap mainGlobals "__annotations__")=(true,11,an):=by kernel_rfl
theorem leT:Nat.ble MM 16836=true:=by kernel_rfl
noncomputable def KL (P:Params):Frag:=[(2,PySem.W.boot_o_2 P),(3,o9w P),(15,o5),(17,oa),(18,o5),(20,oe),(21,og),(22,oh),(27,oj P),(32,om),(37,oo),(38,o5),(41,oq),(42,ou),(43,ow P),(46,oy),(48,oz P),(49,o10),(50,o7),(57,o5),(59,o11),(60,o5),(62,o12),(63,o13),(64,o5),(66,o14),(67,o5),(69,o15),(70,o16),(71,o17),(72,o18 P),(73,o19),(74,o1a),(75,o1b),(78,o5),(80,o1c),(81,o5),(83,o1d),(84,o1e),(85,o7),(92,o5),(94,o1f),(95,o5),(97,o1g),(98,o1h),(99,o5),(101,o1i),(102,o5),(104,o1j),(105,o1k),(106,o5),(108,o1l),(109,o5),(111,o1m),(112,o1n),(113,o5),(115,o1o),(116,o5),(118,o1p),(119,o1q),(120,o5),(122,o1r),(123,o5),(125,o1s),(126,o1t),(127,o5),(129,o1u),(130,o5),(132,o1v),(133,o1w),(134,o9),(135,o5),(137,o1x),(138,o5),(140,o1y),(141,o1z),(142,o5),(144,o20),(145,o5),(147,o21),(148,o22),(149,o23),(150,o5),(152,o24),(153,o5),(155,o25),(156,o26),(157,o5),(159,o27),(160,o5),(162,o28),(163,o29),(164,o2a),(165,o2b P),(166,o2c),(167,o2d),(168,o2e),(171,o2f),(172,o5),(174,o2g),(175,o5),(177,o2h),(178,o2i),(179,o7),(186,o5),(188,o2j),(189,o5),(191,o2k),(192,o2l),(193,o5),(195,o2m),(196,o5),(198,o2n),(199,o2o),(200,o5),(202,o2p),(203,o5),(205,o2q),(206,o2r),(207,o5),(209,o2s),(210,o5),(212,o2t),(213,o2u),(214,o5),(216,o2v),(217,o5),(219,o2w),(220,o2x),(221,o5),(223,o2y),(224,o5),(226,o2z),(227,o30),(228,o31),(229,o32 P),(230,o33),(231,o34),(232,o35),(235,o36 P),(236,o37),(243,o38),(246,o39),(247,o7),(254,o9),(255,o5),(257,o3a),(258,o5),(260,o3b),(261,o3c),(262,o5),(264,o3d),(265,o5),(267,o3e),(268,o3f),(269,o5),(271,o3g),(272,o5),(274,o3h),(275,o3i),(276,o3j),(277,o5),(279,o3k),(280,o5),(282,o3l),(283,o3m),(284,o5),(286,o3n),(287,o5),(289,o3o),(290,o3p),(291,o5),(293,o3q),(294,o5),(296,o3r),(297,o3s),(298,o5),(300,o3t),(301,o5),(303,o3u),(304,o3v),(305,o5),(307,o3w),(308,o5),(310,o3x),(311,o3y),(312,o5),(314,o3z),(315,o5),(317,o40),(318,o41),(319,o5),(321,o42),(322,o5),(324,o43),(325,o44),(326,o5),(328,o45),(329,o5),(331,o46),(332,o47),(333,o5),(335,o48),(336,o5),(338,o49),(339,o4a),(340,o5),(342,o4b),(343,o5),(345,o4c),(346,o4d),(347,o5),(349,o4e),(350,o5),(352,o4f),(353,o4g),(354,o5),(356,o4h),(357,o5),(359,o4i),(360,o4j),(361,o5),(363,o4k),(364,o5),(366,o4l),(367,o4m),(368,o5),(370,o4n),(371,o5),(373,o4o),(374,o4p),(375,o5),(377,o4q),(378,o5),(380,o4r),(381,o4s),(382,o5),(384,o4t),(385,o5),(387,o4u),(388,o4v),(389,o5),(391,o4w),(392,o5),(394,o4x),(395,o4y),(396,o5),(398,o4z),(399,o5),(401,o50),(402,o51),(403,o5),(405,o52),(406,o5),(408,o53),(409,o54),(410,o5),(412,o55),(413,o5),(415,o56),(416,o57),(417,o5),(419,o58),(420,o5),(422,o59),(423,o5a),(424,o5),(426,o5b),(427,o5),(429,o5c),(430,o5d),(431,o5),(433,o5e),(434,o5),(436,o5f),(437,o5g),(438,o5),(440,o5h),(441,o5),(443,o5i),(444,o5j),(445,o5),(447,o5k),(448,o5),(450,o5l),(451,o5m),(452,o5),(454,o5n),(455,o5),(457,o5o),(458,o5p),(459,o5),(461,o5q),(462,o5),(464,o5r),(465,o5s),(466,o5),(468,o5t),(469,o5),(471,o5u),(472,o5v),(473,o5),(475,o5w),(476,o5),(478,o5x),(479,o5y),(480,o5),(482,o5z),(483,o5),(485,o60),(486,o61),(487,o5),(489,o62),(490,o5),(492,o63),(493,o64),(494,o5),(496,o65),(497,o5),(499,o66),(500,o67),(501,o5),(503,o68),(504,o5),(506,o69),(507,o6a),(508,o5),(510,o6b),(511,o5),(513,o6c),(514,o6d),(515,o5),(517,o6e),(518,o5),(520,o6f),(521,o6g),(522,o5),(524,o6h),(525,o5),(527,o6i),(528,o6j),(529,o5),(531,o6k),(532,o5),(534,o6l),(535,o6m),(536,o5),(538,o6n),(539,o5),(541,o6o),(542,o6p),(543,o5),(545,o6q),(546,o5),(548,o6r),(549,o6s),(550,o5),(552,o6t),(553,o5),(555,o6u),(556,o6v),(557,o5),(559,o6w),(560,o5),(562,o6x),(563,o6y),(564,o5),(566,o6z),(567,o5),(569,o70),(570,o71),(571,o5),(573,o72),(574,o5),(576,o73),(577,o74),(578,o5),(580,o75),(581,o5),(583,o76),(584,o77),(585,o5),(587,o78),(588,o5),(590,o79),(591,o7a),(592,o5),(594,o7b),(595,o5),(597,o7c),(598,o7d),(599,o5),(601,o7e),(602,o5),(604,o7f),(605,o7g),(606,o5),(608,o7h),(609,o5),(611,o7i),(612,o7j),(613,o5),(615,o7k),(616,o5),(618,o7l),(619,o7m),(620,o5),(622,o7n),(623,o5),(625,o7o),(626,o7p),(627,o5),(629,o7q),(630,o5),(632,o7r),(633,o7s),(634,o5),(636,o7t),(637,o5),(639,o7u),(640,o7v),(641,o5),(643,o7w),(644,o5),(646,o7x),(647,o7y),(648,o5),(650,o7z),(651,o5),(653,o80),(654,o81),(655,o5),(657,o82),(658,o5),(660,o83),(661,o84),(662,o5),(664,o85),(665,o5),(667,o86),(668,o87),(669,o5),(671,o88),(672,o5),(674,o89),(675,o8a),(676,o5),(678,o8b),(679,o5),(681,o8c),(682,o8d),(683,o5),(685,o8e),(686,o5),(688,o8f),(689,o8g),(690,o5),(692,o8h),(693,o5),(695,o8i),(696,o8j),(697,o5),(699,o8k),(700,o5),(702,o8l),(703,o8m),(704,o5),(706,o8n),(707,o5),(709,o8o),(710,o8p),(711,o5),(713,o8q),(714,o5),(716,o8r),(717,o8s),(718,o5),(720,o8t),(721,o5),(723,o8u),(724,o8v),(725,o5),(727,o8w),(728,o5),(730,o8x),(731,o8y),(732,o5),(734,o8z),(735,o5),(737,o90),(738,o91),(739,o5),(741,o92),(742,o5),(744,o93),(745,o94),(746,o5),(748,o95),(749,o5),(751,o96),(752,o97),(753,o5),(755,o98),(756,o5),(758,o99),(759,o9a),(760,o9b),(761,o9c P),(762,o9d),(763,o9e),(764,o9f),(767,o5),(769,o5),(770,o5),(772,o9g),(773,o9h),(774,o5),(776,o9i),(777,o5),(779,o9j),(780,o9k),(781,o5),(783,o9l),(784,o5),(786,o9m),(787,o9n),(788,o5),(791,o9o),(792,o9p),(793,o5),(795,o9q),(796,o5),(798,o9r),(799,o9s),(800,o5),(802,o9t),(803,o5),(805,o9u),(806,o9v),(807,o5),(810,o9x),(811,o9y)]
noncomputable def asL:List Addr:=[2,3,15,17,18,20,21,22,27,32,37,38,41,42,43,46,48,49,50,57,59,60,62,63,64,66,67,69,70,71,72,73,74,75,78,80,81,83,84,85,92,94,95,97,98,99,101,102,104,105,106,108,109,111,112,113,115,116,118,119,120,122,123,125,126,127,129,130,132,133,134,135,137,138,140,141,142,144,145,147,148,149,150,152,153,155,156,157,159,160,162,163,164,165,166,167,168,171,172,174,175,177,178,179,186,188,189,191,192,193,195,196,198,199,200,202,203,205,206,207,209,210,212,213,214,216,217,219,220,221,223,224,226,227,228,229,230,231,232,235,236,243,246,247,254,255,257,258,260,261,262,264,265,267,268,269,271,272,274,275,276,277,279,280,282,283,284,286,287,289,290,291,293,294,296,297,298,300,301,303,304,305,307,308,310,311,312,314,315,317,318,319,321,322,324,325,326,328,329,331,332,333,335,336,338,339,340,342,343,345,346,347,349,350,352,353,354,356,357,359,360,361,363,364,366,367,368,370,371,373,374,375,377,378,380,381,382,384,385,387,388,389,391,392,394,395,396,398,399,401,402,403,405,406,408,409,410,412,413,415,416,417,419,420,422,423,424,426,427,429,430,431,433,434,436,437,438,440,441,443,444,445,447,448,450,451,452,454,455,457,458,459,461,462,464,465,466,468,469,471,472,473,475,476,478,479,480,482,483,485,486,487,489,490,492,493,494,496,497,499,500,501,503,504,506,507,508,510,511,513,514,515,517,518,520,521,522,524,525,527,528,529,531,532,534,535,536,538,539,541,542,543,545,546,548,549,550,552,553,555,556,557,559,560,562,563,564,566,567,569,570,571,573,574,576,577,578,580,581,583,584,585,587,588,590,591,592,594,595,597,598,599,601,602,604,605,606,608,609,611,612,613,615,616,618,619,620,622,623,625,626,627,629,630,632,633,634,636,637,639,640,641,643,644,646,647,648,650,651,653,654,655,657,658,660,661,662,664,665,667,668,669,671,672,674,675,676,678,679,681,682,683,685,686,688,689,690,692,693,695,696,697,699,700,702,703,704,706,707,709,710,711,713,714,716,717,718,720,721,723,724,725,727,728,730,731,732,734,735,737,738,739,741,742,744,745,746,748,749,751,752,753,755,756,758,759,760,761,762,763,764,767,769,770,772,773,774,776,777,779,780,781,783,784,786,787,788,791,792,793,795,796,798,799,800,802,803,805,806,807,810,811]
theorem asK (P:Params):asL=(KL P).map (·.1):=by kernel_rfl
noncomputable def hkL:Hook:=kHook KL asL asK
noncomputable def vq:Program:=view pE [0,2,3,4,5,6,7,8,9,10,11,13,14,15,18,20,21,23,24,25,26,27,28,29]
noncomputable def lvL:List (Str×WData):=[(Str.ofString "asciiLetters",WData.tuple ("abcdefghijklmnopqrstuvwxyzABCDEFGHIJKLMNOPQRSTUVWXYZ".toList.map fun c=>WData.str ⟨#[c.toNat]⟩)),
  (Str.ofString "digits",WData.tuple ("0123456789".toList.map fun c=>WData.str ⟨#[c.toNat]⟩)),
  (Str.ofString "hexDigits",WData.tuple ("0123456789abcdefABCDEF".toList.map fun c=>WData.str ⟨#[c.toNat]⟩)),
  (Str.ofString "tagTokenTypes",WData.tuple [WData.int 3,WData.int 4,WData.int 5])]
noncomputable def loL:List Str:=[Str.ofString "asciiLetters",Str.ofString "digits",Str.ofString "hexDigits",Str.ofString "entities",Str.ofString "replacementCharacters",Str.ofString "tokenTypes",Str.ofString "tagTokenTypes",Str.ofString "HTMLUnicodeInputStream",Str.ofString "bisect_left",Str.ofString "entitiesTrie",Str.ofString "HTMLTokenizer"]
noncomputable def XtL (s:Shared):Bool:=xlAt vq lvL s&&recOk (RowW.records PySem.Challenge.rw_te0030_05.row.toRowW) s
noncomputable def sF (P:Params) (os:OsState):Shared:=⟨H1 P,#[],dr,1501,os⟩
theorem lkA (w:World) (os:OsState):(staticsOk (importedModules pE.main.body) (boot_heap w.params) (H1 w.params)&&namesBound pE (H1 w.params)&&gensDone (sF w.params os)&&laidKept (boot_heap w.params) (H1 w.params))=true:=by kernel_rfl
theorem lkC (w:World) (os:OsState):hkL.obs (sF w.params os)=hkL.val w:=by kernel_rfl
theorem teO:@openSeen=@PySem.W.Fast.tw4187177175401517315:=PySem.W.Fast.te4187177175401517315
theorem teI:@importedModules=@PySem.W.Fast.tw5923862056798008813:=PySem.W.Fast.te5923862056798008813
theorem lkB (w:World) (os:OsState):PySem.W.Fast.tw4187177175401517315 vq loL (PySem.W.Fast.tw5923862056798008813 pE.main.body) XtL true (sF w.params os)=openGood vq loL:=by kernel_rfl
theorem rdV (n:Str) (hn:n=Str.ofString "vars"∨n=Str.ofString "dir"∨n=Str.ofString "locals"):readsOut PySem.Challenge.rw_te0030_05.row.prog PySem.Challenge.rw_te0030_05.row.prog.main.body n=false:=by
  rw [PySem.W.Fast.te13343964577679436407];rcases hn with rfl | rfl | rfl
  . as_aux_lemma=>kernel_rfl
  . as_aux_lemma=>kernel_rfl
  . as_aux_lemma=>kernel_rfl
theorem bareE:(["vars","dir","locals"]:List Str).filter (readsOut PySem.Challenge.rw_te0030_05.row.prog PySem.Challenge.rw_te0030_05.row.prog.main.body)=[]:=by
  rw [List.filter_eq_nil_iff];intro n hn e;simp only [List.mem_cons,List.not_mem_nil,or_false] at hn;rw [rdV n hn] at e;cases e
theorem strictE:(!(importedModules PySem.Challenge.rw_te0030_05.row.prog.main.body).all cThrough.contains)=false:=by
  rw [PySem.W.Fast.te5923862056798008813]
  kernel_rfl
theorem roadE:noRoadLSs { strict:=false,foot:=none,bare:=[] } PySem.Challenge.rw_te0030_05.row.prog.main.body=true:=by
  rw [PySem.W.Fast.te8326940854005059898]
  kernel_rfl
theorem leaf4:noRoadLSs { strict:=!(importedModules PySem.Challenge.rw_te0030_05.row.prog.main.body).all cThrough.contains,foot:=none,bare:=(["vars","dir","locals"]:List Str).filter (readsOut PySem.Challenge.rw_te0030_05.row.prog PySem.Challenge.rw_te0030_05.row.prog.main.body) } PySem.Challenge.rw_te0030_05.row.prog.main.body=true:=by
  rw [bareE,strictE];exact roadE
theorem said:PySem.Challenge.rw_te0030_05.wellSaid=true:=by
  unfold OpenLaw.wellSaid OpenRow.wellSaid OpenRow.partSaid looksOpen
  repeat' (with_reducible apply look_both)
  rotate_left 4
  . exact leaf4
  all_goals (try rw [PySem.W.Fast.te8326940854005059898])
  all_goals (try rw [PySem.W.Fast.te17119622794617984870])
  all_goals (try rw [PySem.W.Fast.te8377067652309620493])
  all_goals (try rw [PySem.W.Fast.te8179353310426384613])
  all_goals (try rw [PySem.W.Fast.te16286561074155671207])
  all_goals (try rw [PySem.W.Fast.te11788848310118352699])
  all_goals (try rw [PySem.W.Fast.te9807087744658564304])
  all_goals (try rw [PySem.W.Fast.te12862048085361865435])
  all_goals (try rw [PySem.W.Fast.te18344453789297297638])
  all_goals (try rw [PySem.W.Fast.te14412699480532031325])
  all_goals (try rw [PySem.W.Fast.te5923862056798008813])
  all_goals (try rw [PySem.W.Fast.te17691160309236699985])
  all_goals (try rw [PySem.W.Fast.te13343964577679436407])
  all_goals (try rw [PySem.W.Fast.te17868728402115742887])
  all_goals (try rw [PySem.W.Fast.te2357444279172408678])
  all_goals (try rw [PySem.W.Fast.te4857012375875476094])
  all_goals (try rw [PySem.W.Fast.named_eq])
  all_goals (try rw [PySem.W.Fast.te13582783067957832011])
  all_goals (try rw [PySem.W.Fast.te12749700546528644094])
  all_goals (try rw [PySem.W.Fast.te10501279942588096481])
  all_goals (try rw [PySem.W.Fast.te797321630700447069])
  all_goals (try rw [PySem.W.Fast.te9572597257264208301])
  all_goals (try rw [PySem.W.Fast.te9558739934217749035])
  all_goals (try rw [PySem.W.Fast.te6984425678791042302])
  all_goals (try rw [PySem.W.Fast.te12879404354523853263])
  all_goals (try rw [PySem.W.Fast.te482687673346738481])
  all_goals (try rw [PySem.W.Fast.te10792542408131684335])
  all_goals (try rw [PySem.W.Fast.te2368527892694137696])
  all_goals (try rw [PySem.W.Fast.sDec_eq])
  all_goals as_aux_lemma=>kernel_rfl
theorem chains:(chainsOk vq&&opensWell PySem.Challenge.rw_te0030_05.row.prog&&(frees PySem.Challenge.rw_te0030_05.row.toRowW&&PySem.Challenge.rw_te0030_05.row.within.isEmpty))=true:=by kernel_rfl
theorem bareT:PySem.Challenge.rw_te0030_05.row.prog.bare:=⟨rfl,rfl,rfl,rfl,rfl,by decide +kernel⟩
theorem leftT:LeftO pE vq loL XtL (Hook.obs (kHook KL asL asK)) (Hook.val (kHook KL asL asK)) 16836:=
  LeftO.of_pieces openT sizeT runT leT fun w=>funext fun os=>Prod.ext (lkA w os) (Prod.ext (by rw [teO,teI];exact lkB w os) (lkC w os))
theorem witT:PySem.Challenge.rw_te0030_05.row.toRowW.promised:=by w_witness2
end Mine
end
section
open PySem PySem.W PyProof.Rows PySem.Calls PySem.SeqAt
set_option maxRecDepth 100000
namespace Mine
theorem ck63 (P:Params):defCk (KL P) 63 ms63=true:=by kernel_rfl
theorem ck70 (P:Params):defCk (KL P) 70 ms70=true:=by kernel_rfl
theorem ck84 (P:Params):defCk (KL P) 84 ms84=true:=by kernel_rfl
theorem ck98 (P:Params):defCk (KL P) 98 ms98=true:=by kernel_rfl
theorem ck105 (P:Params):defCk (KL P) 105 ms105=true:=by kernel_rfl
theorem ck112 (P:Params):defCk (KL P) 112 ms112=true:=by kernel_rfl
theorem ck119 (P:Params):defCk (KL P) 119 ms119=true:=by kernel_rfl
theorem ck133 (P:Params):defCk (KL P) 133 ms133=true:=by kernel_rfl
theorem ck141 (P:Params):defCk (KL P) 141 ms141=true:=by kernel_rfl
theorem ck148 (P:Params):defCk (KL P) 148 ms148=true:=by kernel_rfl
theorem ck156 (P:Params):defCk (KL P) 156 ms156=true:=by kernel_rfl
theorem ck163 (P:Params):defCk (KL P) 163 ms163=true:=by kernel_rfl
theorem ck178 (P:Params):defCk (KL P) 178 ms178=true:=by kernel_rfl
theorem ck199 (P:Params):defCk (KL P) 199 ms199=true:=by kernel_rfl
theorem ck220 (P:Params):defCk (KL P) 220 ms220=true:=by kernel_rfl
theorem ck227 (P:Params):defCk (KL P) 227 ms227=true:=by kernel_rfl
theorem ck261 (P:Params):defCk (KL P) 261 ms261=true:=by kernel_rfl
theorem ck283 (P:Params):defCk (KL P) 283 ms283=true:=by kernel_rfl
theorem ck290 (P:Params):defCk (KL P) 290 ms290=true:=by kernel_rfl
theorem ck773 (P:Params):defCk (KL P) 773 ms773=true:=by kernel_rfl
theorem ck780 (P:Params):defCk (KL P) 780 ms780=true:=by kernel_rfl
theorem ck787 (P:Params):defCk (KL P) 787 ms787=true:=by kernel_rfl
theorem ck792 (P:Params):defCk (KL P) 792 ms792=true:=by kernel_rfl
theorem ck799 (P:Params):defCk (KL P) 799 ms799=true:=by kernel_rfl
theorem ck806 (P:Params):defCk (KL P) 806 ms806=true:=by kernel_rfl
noncomputable def decV (c:Value):Option V:=match c with
  | .none=>some .none
  | .bool b=>some (.bool b)
  | .int i _=>some (.int i)
  | .str x _=>some (.str x.cps.toList)
  | _=>none
theorem S_of (x:Str):x=S x.cps.toList:=by obtain ⟨a⟩:=x;simp [S]
theorem Dy {P:Params} {h:Heap} {μ:Mu} {c:Value} {v:V} (e:decV c=some v):VR P h μ v c:=by
  cases c with
  | none=>exact sme e rfl
  | bool b=>exact sme e rfl
  | int i t=>exact sme e ⟨_,rfl⟩
  | str x t=>exact sme e ⟨t,congrArg (Value.str · t) (S_of x)⟩
  | _=>exact nn e
theorem Eg {P:Params} {hO:Heap} {c:Value} {v:V} (h:decV c=some v):SV P hO v c:=fun _ _ _ _=>Dy h
noncomputable def asR (v:Value):Option Addr:=match v with | .ref a=>some a | _=>none
theorem C6 {v:Value} {a:Addr} (e:asR v=some a):v=.ref a:=by
  cases v<;>first | exact nn e | exact sme e rfl
theorem Bo {o:Option (Option Value)} {v:Value} (e:o.join=some v):o=some (some v):=match o,e with
  | some (some _),e=>congrArg some e
noncomputable def methK (K:Frag) (C:Addr) (n:String):Option Addr:=(findIn K (.ref C) (Str.ofString n)).join.bind fun v=>(asR v).bind fun f=>
  if (plainGet K C (Str.ofString n)&&(hasDictIn K C&&(isFn K (.ref f)&&(specialIn K (.ref f) "__get__"==some (some (.builtin "function.__get__"))&&(takesIn K (.ref f)==some false&&!copiedNames.contains (Str.ofString n))))))=true then some f else none
noncomputable def datK (K:Frag) (C:Addr) (n:String):Bool:=plainGet K C (Str.ofString n)&&(hasDictIn K C&&(findIn K (.ref C) (Str.ofString n)==some none&&(findIn K (.ref C) "__setattr__"==some (some (.builtin "object.__setattr__"))&&plainOver K C)))
noncomputable def cattrK (K:Frag) (C:Addr) (n:String):Option V:=(findIn K (.ref C) (Str.ofString n)).join.bind fun a=>
  if (plainGet K C (Str.ofString n)&&(hasDictIn K C&&(!copiedNames.contains (Str.ofString n)&&specialIn K a "__get__"==some none)))=true then decV a else none
noncomputable def fnGK (K:Frag) (x:String):Option Addr:=(nsIn K mainGlobals (Str.ofString x)).join.bind fun v=>(asR v).bind fun f=>if fnIn K f=true then some f else none
noncomputable def clsGK (K:Frag) (x:String):Option (Addr×Addr):=(nsIn K mainGlobals (Str.ofString x)).join.bind fun v=>(asR v).bind fun C=>(findIn K (.ref C) "__init__").join.bind fun u=>(asR u).bind fun f=>
  if (makesIn K C&&(typeIn K (.ref f)==some (.type "function")&&keepIn K (.ref C)))=true then some (C,f) else none
noncomputable def buiGK (K:Frag) (x:String):Bool:=nsIn K mainGlobals (Str.ofString x)==some none&&(bootBuiltins (Str.ofString x)==some (buiV x)&&!(Str.ofString x==("__name__" : Str)))
theorem methK_ok {K:Frag} {C:Addr} {n:String} {f:Addr} (h:methK K C n=some f):plainGet K C (Str.ofString n)=true/\hasDictIn K C=true/\findIn K (.ref C) (Str.ofString n)=some (some (.ref f))/\isFn K (.ref f)=true/\
    specialIn K (.ref f) "__get__" = some (some (.builtin "function.__get__"))/\takesIn K (.ref f)=some false/\copiedNames.contains (Str.ofString n)=false:=
  bd h fun v hv h=>bd h fun g hg h=>ifs h fun c h=>sme h ⟨aL c,aL (aR c),(C6 hg▸Bo hv),aL (aR (aR c)),eq_of_beq (aL (aR (aR (aR c)))),eq_of_beq (aL (aR (aR (aR (aR c))))),nf (aR (aR (aR (aR (aR c)))))⟩
theorem datK_ok {K:Frag} {C:Addr} {n:String} (h:datK K C n=true):plainGet K C (Str.ofString n)=true/\hasDictIn K C=true/\findIn K (.ref C) (Str.ofString n)=some none/\
    findIn K (.ref C) "__setattr__" = some (some (.builtin "object.__setattr__"))/\plainOver K C=true:=
  ⟨aL h,aL (aR h),eq_of_beq (aL (aR (aR h))),eq_of_beq (aL (aR (aR (aR h)))),aR (aR (aR (aR h)))⟩
theorem It {P:Params} {hO:Heap} {K:Frag} {C:Addr} {n:String} {x:V} (h:cattrK K C n=some x):plainGet K C (Str.ofString n)=true/\hasDictIn K C=true/\copiedNames.contains (Str.ofString n)=false/\∃a,findIn K (.ref C) (Str.ofString n)=some (some a)/\specialIn K a "__get__" = some none/\SV P hO x a:=
  bd h fun a ha h=>ifs h fun c h=>⟨aL c,aL (aR c),nf (aL (aR (aR c))),a,Bo ha,eq_of_beq (aR (aR (aR c))),Eg h⟩
theorem HK {K:Frag} {x:String} {f:Addr} (h:fnGK K x=some f):nsIn K mainGlobals (Str.ofString x)=some (some (.ref f))/\fnIn K f=true:=
  bd h fun v hv h=>bd h fun g hg h=>ifs h fun c h=>sme h ⟨(C6 hg▸Bo hv),c⟩
theorem clsGK_ok {K:Frag} {x:String} {C f:Addr} (h:clsGK K x=some (C,f)):nsIn K mainGlobals (Str.ofString x)=some (some (.ref C))/\makesIn K C=true/\findIn K (.ref C) "__init__" = some (some (.ref f))/\typeIn K (.ref f)=some (.type "function")/\keepIn K (.ref C)=true:=
  bd h fun v hv h=>bd h fun D hD h=>bd h fun u hu h=>bd h fun g hg h=>ifs h fun c h=>sm2 h ⟨(C6 hD▸Bo hv),aL c,(C6 hg▸Bo hu),eq_of_beq (aL (aR c)),aR (aR c)⟩
theorem buiGK_ok {K:Frag} {x:String} (h:buiGK K x=true):nsIn K mainGlobals (Str.ofString x)=some none/\bootBuiltins (Str.ofString x)=some (buiV x)/\Str.ofString x≠"__name__":=
  ⟨eq_of_beq (aL h),eq_of_beq (aL (aR h)),beq_eq_false_iff_ne.mp (nf (aR (aR h)))⟩
noncomputable def decL:List Value->Option (List V)
  | []=>some []
  | c::cs=>(decV c).bind fun v=>(decL cs).map (v::·)
theorem Eh {P:Params} {h:Heap} {μ:Mu}:∀{cs:List Value} {vs:List V},decL cs=some vs->VRs P h μ vs cs
  | [],vs,e=>sme e rfl
  | c::cs,vs,e=>bd e fun v e1 e=>mp e fun ws e2=>⟨c,cs,rfl,Dy e1,Eh e2⟩
noncomputable def isSeq (d:Data):Option (Array Value):=match d with | .seq xs _=>some xs | _=>none
noncomputable def isPlainD (d:Data):Bool:=match d with | .plain=>true | .dict _ _=>true | _=>false
noncomputable def decO (a:Addr) (o:Obj):Option V:=match isSeq o.data with
  | some xs=>if (o.cls==.type "tuple")=true then (decL xs.toList).map V.tup else none
  | none=>if isPlainD o.data=true then some (.stat a) else none
noncomputable def decG (K:Frag) (c:Value):Option V:=match asR c with
  | some a=>(K.lookup a).bind fun o=>decO a o
  | none=>decV c
theorem isSeq_is {d:Data} {xs:Array Value} (e:isSeq d=some xs):∃n,d=.seq xs n:=by
  cases d<;>first | exact nn e | exact sme e ⟨_,rfl⟩
theorem HL {P:Params} {hO:Heap} {K:Frag} (X:K.In hO) {a:Addr} {o:Obj} {v:V} (hl:K.lookup a=some o) (e:decO a o=some v):SV P hO v (.ref a):=by
  intro μ h hk hn;unfold decO at e;revert e;cases hs:isSeq o.data with
  | some xs=>
    refine fun e=>ifs e fun hc e=>mp e fun vs e1=>(isSeq_is hs).elim fun n hd=>?_
    have ho:=X _ _ hl;refine ⟨a,xs.toList,rfl,fun hm=>?_,⟨o,hk _ _ ho,eq_of_beq hc,n,hd⟩,Eh e1⟩
    exact nn ((hn a hm).symm.trans ho)
  | none=>exact fun e=>ifs e fun _ e=>sme e rfl
theorem decG_ok {P:Params} {hO:Heap} {K:Frag} (X:K.In hO) {c:Value} {v:V} (e:decG K c=some v):SV P hO v c:=by
  unfold decG at e;revert e;cases ha:asR c with
  | some a=>exact fun e=>C6 ha▸bd e fun o hl e=>HL X hl e
  | none=>exact fun e=>Eg e
noncomputable def gloK (K:Frag) (x:String):Option V:=(nsIn K mainGlobals (Str.ofString x)).join.bind fun c=>decG K c
theorem gloK_ok {P:Params} {hO:Heap} {K:Frag} (X:K.In hO) {x:String} {v:V} (e:gloK K x=some v):∃c,nsIn K mainGlobals (Str.ofString x)=some (some c)/\SV P hO v c:=
  bd e fun c hc e=>⟨c,Bo hc,decG_ok X e⟩
noncomputable def keyS (v:Value):Option Str:=match v with | .str x _=>some x | _=>none
theorem Ei {v:Value} {x:Str} (e:keyS v=some x):∃t,v=.str x t:=by
  cases v<;>first | exact nn e | exact sme e ⟨_,rfl⟩
noncomputable def decS:List DictEntry->Option (List (List Nat×V))
  | []=>some []
  | e::r=>(keyS e.key).bind fun x=>(decV e.val).bind fun v=>(decS r).map ((x.cps.toList,v)::·)
theorem E0 {α:Type} (is:α->Value->Bool) (e:DictEntry) (r:List DictEntry) (x:α):findBy is (e::r).toArray x=if is x e.key then some e.val else findBy is r.toArray x:=by
  unfold findBy;rw [List.find?_toArray,List.find?_toArray,List.find?_cons];cases is x e.key<;>simp
theorem isS_dec {x:List Nat} {y:Str} {t:Tok}:Value.isStrOf (S x) (.str y t)=decide (y.cps.toList=x):=by
  rw [<- isStr_of,S_of y,DB];rfl
theorem Dz {P:Params} {hO:Heap}:∀{es:List DictEntry} {xs:List (List Nat×V)},decS es=some xs->∀x,(lkD xs x=none/\findBy Value.isStrOf es.toArray (S x)=none)∨∃v c,lkD xs x=some v/\findBy Value.isStrOf es.toArray (S x)=some c/\SV P hO v c
  | [],xs,e,x=>sme e (.inl ⟨rfl,rfl⟩)
  | d::r,xs,e,x=>bd e fun y hy e=>bd e fun v e1 e=>mp e fun ws e2=>(Ei hy).elim fun t hy=>by
    rw [E0,hy,isS_dec]
    by_cases h:y.cps.toList=x
    . rw [GD h,decide_eq_true h,if_pos rfl];exact .inr ⟨v,d.val,rfl,rfl,Eg e1⟩
    . rw [El h,decide_eq_false h,if_neg Bool.false_ne_true];exact Dz e2 x
theorem sdS_ok {prog:Program} {w:World} {K:Frag} {hO:Heap} (X:K.In hO) {a:Addr} {es:Array DictEntry} {n:Nat} {xs:List (List Nat×V)} (hl:K.lookup a=some ⟨.type "dict",none,.dict es n,#[]⟩) (hk:KeysLit w.params es.toList) (hd:decS es.toList=some xs) (ha:(a==sysModules)=false) :
    (a==sysModules)=false/\∃m,hO.MapOf (strKind prog w) a m/\∀x,(lkD xs x=none/\m (S x)=none)∨∃v c,lkD xs x=some v/\m (S x)=some c/\SV w.params hO v c:=
  ⟨ha,_,mapOf_K X hl hk,fun x=>Dz hd x⟩
theorem C7 {prog:Program} {w:World}:∀{es:List DictEntry} {xs:List (List Nat×V)},KeysLit w.params es->decS es=some xs->∃kvs:List (Str×Value),Pairs (strKind prog w) es kvs/\kvs.map (fun e=>e.1.cps.toList)=xs.map Prod.fst
  | [],xs,_,e=>sme e ⟨[],.nil,rfl⟩
  | d::r,xs,hk,e=>bd e fun y hy e=>bd e fun v e1 e=>mp e fun ws e2=>(Ei hy).elim fun t hy=>by
    obtain ⟨kvs,h1,h2⟩:=C7 (prog:=prog) hk.2 e2;exact ⟨(y,d.val)::kvs,.cons (by show (strKind prog w).is y d.key=true;rw [hy];exact strKind_is prog w y t) rfl h1,by rw [List.map_cons,h2];rfl⟩
theorem sdK_ok {prog:Program} {w:World} {K:Frag} {hO:Heap} (X:K.In hO) {a:Addr} {es:Array DictEntry} {n:Nat} {xs:List (List Nat×V)} {vs:List V} (hl:K.lookup a=some ⟨.type "dict",none,.dict es n,#[]⟩) (hk:KeysLit w.params es.toList) (hd:decS es.toList=some xs) (ha:(a==sysModules)=false) (hn:(xs.map Prod.fst).Nodup) (hv:xs.map (fun e=>V.str e.1)=vs) :
    (a==sysModules)=false/\∃kvs ep,hO.DictAt (strKind prog w) a kvs ep/\kvs.map (fun e=>V.str e.1.cps.toList)=vs:=by
  obtain ⟨kvs,h1,h2⟩:=C7 (prog:=prog) hk hd;refine ⟨ha,kvs,n,⟨_,es,X _ _ hl,⟨rfl,rfl,rfl⟩,rfl,fun e he=>?_,h1,?_⟩,?_⟩
  . obtain ⟨x,t,e1,e2⟩:=hk.all e (Array.mem_toList_iff.mpr he);exact ⟨x,by rw [e1];exact strKind_is prog w x t,e2⟩
  . rw [<- h2] at hn
    have:(kvs.map (·.1)).Pairwise (·≠·):=(List.pairwise_map.mp (List.pairwise_map.mp hn |> fun h=>List.pairwise_map.mpr (h.imp fun h=>h))).imp (fun {a b} h q=>h (congrArg (fun x:Str=>x.cps.toList) q)) |> fun h=>List.pairwise_map.mpr h
    exact this
  . rw [<- hv,show (fun e:List Nat×V=>V.str e.1)=V.str ∘ Prod.fst from rfl,<- List.map_map,<- h2,List.map_map];rfl
noncomputable def esAt (K:Frag) (a:Addr):List DictEntry:=match K.lookup a with
  | some ⟨_,_,.dict es _,_⟩=>es.toList
  | _=>[]
noncomputable def K2 (P:Params):Frag:=KL P
noncomputable def T2 (P:Params):Tab where
  meth:=methK (K2 P)
  cattr:=cattrK (K2 P)
  dat:=datK (K2 P)
  scls:=fun _=>none
  sattr:=fun _ _=>none
  sdS:=fun a=>if a=48 then decS (esAt (K2 P) 48) else if a=43 then decS (esAt (K2 P) 43) else none
  fn:=fnIn (K2 P)
  glo:=gloK (K2 P)
  fnG:=fnGK (K2 P)
  clsG:=clsGK (K2 P)
  buiG:=buiGK (K2 P)
  lpx:=fun _ _=>false
theorem Bz {P:Params}:∀{es:List DictEntry},(es.all fun e=>(keyS e.key).isSome)=true->es.map (fun e=>e.hash)=es.map (fun e=>match keyS e.key with | some x=>PyData.keyHash P x | none=>0)->KeysLit P es
  | [],_,_=>trivial
  | e::r,h1,h2=>by
    rw [List.all_cons,Bool.and_eq_true] at h1;rw [List.map_cons,List.map_cons,List.cons.injEq] at h2;obtain ⟨x,hx⟩:=Option.isSome_iff_exists.mp h1.1;obtain ⟨t,ht⟩:=Ei hx;have h3:=h2.1;rw [hx] at h3;exact ⟨⟨x,t,ht,h3⟩,Bz h1.2 h2.2⟩
theorem kl48 (P:Params):KeysLit P (esAt (K2 P) 48):=Bz (by kernel_rfl) (by kernel_rfl)
theorem kl43 (P:Params):KeysLit P (esAt (K2 P) 43):=Bz (by kernel_rfl) (by kernel_rfl)
theorem at48 (P:Params):(K2 P).lookup 48=some ⟨.type "dict",none,.dict (esAt (K2 P) 48).toArray 8,#[]⟩:=by kernel_rfl
theorem at43 (P:Params):(K2 P).lookup 43=some ⟨.type "dict",none,.dict (esAt (K2 P) 43).toArray 43,#[]⟩:=by kernel_rfl
theorem de48 (P:Params):decS (esAt (K2 P) 48)=some ttL:=by kernel_rfl
theorem de43 (P:Params):decS (esAt (K2 P) 43)=some entL:=by kernel_rfl
theorem tabOk2 {prog:Program} {w:World} {hO:Heap} {mg mb:Str->Option Value} {p:Program} {loose:List Str} {mean:ExcName->Option Value} (X:(K2 w.params).In hO) (TT:Top p loose mean mg mb hO):TabOk prog w (K2 w.params) hO (T2 w.params) where
  X:=X
  meth:=fun C n f h=>methK_ok h
  dat:=fun C n h=>datK_ok h
  cattr:=fun C n x h=>It h
  scls:=fun a C h=>by cases h
  sattr:=fun a n x h=>by cases h
  sdS:=fun a es h=>by
    have h:(if a=48 then decS (esAt (K2 w.params) 48) else if a=43 then decS (esAt (K2 w.params) 43) else none)=some es:=h
    split at h
    . rename_i ha;subst ha;exact sdS_ok X (at48 w.params) (kl48 w.params) h (by decide)
    . split at h
      . rename_i ha;subst ha;exact sdS_ok X (at43 w.params) (kl43 w.params) h (by decide)
      . cases h
  sdK:=fun a vs h=>by
    refine mp2' (show ((if a=48 then decS (esAt (K2 w.params) 48) else if a=43 then decS (esAt (K2 w.params) 43) else none).map fun es=>es.map fun e=>V.str e.1)=some vs from h) fun xs h1 h2=>?_
    split at h1
    . rename_i ha;subst ha;rw [de48] at h1;cases h1;exact sdK_ok X (at48 w.params) (kl48 w.params) (de48 w.params) (by decide) (by decide +kernel) h2
    . split at h1
      . rename_i ha;subst ha;rw [de43] at h1;cases h1;exact sdK_ok X (at43 w.params) (kl43 w.params) (de43 w.params) (by decide) (by decide +kernel) h2
      . cases h1
  fn:=fun f h=>h
  names:=⟨mg,mb,TT.g,TT.b,fun x v h=>let ⟨c,h1,h2⟩:=gloK_ok X h;⟨c,mg_of X TT.g h1,h2⟩,fun x f h=>⟨mg_of X TT.g (HK h).1,(HK h).2⟩,
    fun x C f h=>let ⟨h1,h2⟩:=clsGK_ok h;⟨mg_of X TT.g h1,h2⟩,fun x h=>let ⟨h1,h2,h3⟩:=buiGK_ok h;⟨mg_none_of X TT.g h1,(TT.builtins _ h3).trans h2⟩⟩
  nolimit:=TT.nolimit
section
variable {α:Type} {R:List α->Prop} {l:List α}
@[elab_as_elim] theorem ln0 (h:l.length=0) (t:R []):R l:=(List.length_eq_zero_iff.mp h)▸t
@[elab_as_elim] theorem ln1 (h:l.length=1) (t:∀a,R [a]):R l:=match l,h with | [a],_=>t a
@[elab_as_elim] theorem ln2 (h:l.length=2) (t:∀a b,R [a,b]):R l:=match l,h with | [a,b],_=>t a b
@[elab_as_elim] theorem ln3 (h:l.length=3) (t:∀a b c,R [a,b,c]):R l:=match l,h with | [a,b,c],_=>t a b c
@[elab_as_elim] theorem ln4 (h:l.length=4) (t:∀a b c d,R [a,b,c,d]):R l:=match l,h with | [a,b,c,d],_=>t a b c d
end
theorem Iu (P:Params):ShOk (K2 P) sh63_2:=⟨ck63 P,by kernel_rfl,by decide +kernel,fun _ _ _=>rfl,rfl,fun S cs kc h i=>ln0 i (ln2 h fun a b=>by kernel_rfl)⟩
theorem Iv (P:Params):ShOk (K2 P) sh70_2:=⟨ck70 P,by kernel_rfl,by decide +kernel,fun _ _ _=>rfl,rfl,fun S cs kc h i=>ln0 i (ln2 h fun a b=>by kernel_rfl)⟩
theorem Iw (P:Params):ShOk (K2 P) sh84_1:=⟨ck84 P,by kernel_rfl,by decide +kernel,fun _ _ _=>rfl,rfl,fun S cs kc h i=>ln0 i (ln1 h fun a=>by kernel_rfl)⟩
theorem Ix (P:Params):ShOk (K2 P) sh98_2:=⟨ck98 P,by kernel_rfl,by decide +kernel,fun _ _ _=>rfl,rfl,fun S cs kc h i=>ln0 i (ln2 h fun a b=>by kernel_rfl)⟩
theorem F7 (P:Params):ShOk (K2 P) sh105_1:=⟨ck105 P,by kernel_rfl,by decide +kernel,fun _ _ _=>rfl,rfl,fun S cs kc h i=>ln0 i (ln1 h fun a=>by kernel_rfl)⟩
theorem F8 (P:Params):ShOk (K2 P) sh112_2:=⟨ck112 P,by kernel_rfl,by decide +kernel,fun _ _ _=>rfl,rfl,fun S cs kc h i=>ln0 i (ln2 h fun a b=>by kernel_rfl)⟩
theorem F9 (P:Params):ShOk (K2 P) sh119_2:=⟨ck119 P,by kernel_rfl,by decide +kernel,fun _ _ _=>rfl,rfl,fun S cs kc h i=>ln0 i (ln2 h fun a b=>by kernel_rfl)⟩
theorem Ga (P:Params):ShOk (K2 P) sh133_1:=⟨ck133 P,by kernel_rfl,by decide +kernel,fun _ _ _=>rfl,rfl,fun S cs kc h i=>ln0 i (ln1 h fun a=>by kernel_rfl)⟩
theorem Gb (P:Params):ShOk (K2 P) sh141_1:=⟨ck141 P,by kernel_rfl,by decide +kernel,fun _ _ _=>⟨_,_,rfl,rfl,rfl⟩,rfl,fun S cs kc h i=>ln0 i (ln1 h fun a=>by kernel_rfl)⟩
theorem Gc (P:Params):ShOk (K2 P) sh141_2:=⟨ck141 P,by kernel_rfl,by decide +kernel,fun _ _ _=>rfl,rfl,fun S cs kc h i=>ln0 i (ln2 h fun a b=>by kernel_rfl)⟩
theorem Gf (P:Params):ShOk (K2 P) sh148_2:=⟨ck148 P,by kernel_rfl,by decide +kernel,fun _ _ _=>rfl,rfl,fun S cs kc h i=>ln0 i (ln2 h fun a b=>by kernel_rfl)⟩
theorem Gg (P:Params):ShOk (K2 P) sh156_2:=⟨ck156 P,by kernel_rfl,by decide +kernel,fun _ _ _=>⟨_,_,rfl,rfl,rfl⟩,rfl,fun S cs kc h i=>ln0 i (ln2 h fun a b=>by kernel_rfl)⟩
theorem Gh (P:Params):ShOk (K2 P) sh163_2:=⟨ck163 P,by kernel_rfl,by decide +kernel,fun _ _ _=>rfl,rfl,fun S cs kc h i=>ln0 i (ln2 h fun a b=>by kernel_rfl)⟩
theorem Gi (P:Params):ShOk (K2 P) sh178_4:=⟨ck178 P,by kernel_rfl,by decide +kernel,fun _ _ _=>rfl,rfl,fun S cs kc h i=>ln0 i (ln4 h fun a b c d=>by kernel_rfl)⟩
theorem Gj (P:Params):ShOk (K2 P) sh199_2:=⟨ck199 P,by kernel_rfl,by decide +kernel,fun _ _ _=>rfl,rfl,fun S cs kc h i=>ln0 i (ln2 h fun a b=>by kernel_rfl)⟩
theorem Gl (P:Params):ShOk (K2 P) sh220_2:=⟨ck220 P,by kernel_rfl,by decide +kernel,fun _ _ _=>rfl,rfl,fun S cs kc h i=>ln0 i (ln2 h fun a b=>by kernel_rfl)⟩
theorem Gm (P:Params):ShOk (K2 P) sh227_2:=⟨ck227 P,by kernel_rfl,by decide +kernel,fun _ _ _=>rfl,rfl,fun S cs kc h i=>ln0 i (ln2 h fun a b=>by kernel_rfl)⟩
theorem Gn (P:Params):ShOk (K2 P) sh261_2:=⟨ck261 P,by kernel_rfl,by decide +kernel,fun _ _ _=>⟨_,_,rfl,rfl,rfl⟩,rfl,fun S cs kc h i=>ln0 i (ln2 h fun a b=>by kernel_rfl)⟩
theorem Gp (P:Params):ShOk (K2 P) sh283_1:=⟨ck283 P,by kernel_rfl,by decide +kernel,fun _ _ _=>⟨_,_,rfl,rfl,_,_,rfl,rfl,rfl⟩,rfl,fun S cs kc h i=>ln0 i (ln1 h fun a=>by kernel_rfl)⟩
theorem Gq (P:Params):ShOk (K2 P) sh283_k:=⟨ck283 P,by kernel_rfl,by decide +kernel,fun _ _ _=>rfl,rfl,fun S cs kc h i=>ln2 i fun u v=>(ln1 h fun a=>by kernel_rfl)⟩
theorem Gr (P:Params):ShOk (K2 P) sh290_2:=⟨ck290 P,by kernel_rfl,by decide +kernel,fun _ _ _=>rfl,rfl,fun S cs kc h i=>ln0 i (ln2 h fun a b=>by kernel_rfl)⟩
theorem Gs (P:Params):ShOk (K2 P) sh773_0:=⟨ck773 P,by kernel_rfl,by decide +kernel,fun _ _ _=>rfl,rfl,fun S cs kc h i=>ln0 i (ln0 h (by kernel_rfl))⟩
theorem Gu (P:Params):ShOk (K2 P) sh780_1:=⟨ck780 P,by kernel_rfl,by decide +kernel,fun _ _ _=>rfl,rfl,fun S cs kc h i=>ln0 i (ln1 h fun a=>by kernel_rfl)⟩
theorem Gv (P:Params):ShOk (K2 P) sh787_1:=⟨ck787 P,by kernel_rfl,by decide +kernel,fun _ _ _=>rfl,rfl,fun S cs kc h i=>ln0 i (ln1 h fun a=>by kernel_rfl)⟩
theorem Gw (P:Params):ShOk (K2 P) sh792_2:=⟨ck792 P,by kernel_rfl,by decide +kernel,fun _ _ _=>rfl,rfl,fun S cs kc h i=>ln0 i (ln2 h fun a b=>by kernel_rfl)⟩
theorem Gx (P:Params):ShOk (K2 P) sh799_2:=⟨ck799 P,by kernel_rfl,by decide +kernel,fun _ _ _=>rfl,rfl,fun S cs kc h i=>ln0 i (ln2 h fun a b=>by kernel_rfl)⟩
theorem Gy (P:Params):ShOk (K2 P) sh806_3:=⟨ck806 P,by kernel_rfl,by decide +kernel,fun _ _ _=>rfl,rfl,fun S cs kc h i=>ln0 i (ln3 h fun a b c=>by kernel_rfl)⟩
theorem HM (P:Params):∀sh∈shs2,ShOk (K2 P) sh:=by
  unfold shs2;simp only [List.forall_mem_cons];exact ⟨Iu P,Iv P,Iw P,Ix P,F7 P,F8 P,F9 P,Ga P,Gb P,Gc P,Gf P,Gg P,Gh P,Gi P,Gj P,Gl P,Gm P,Gn P,Gp P,Gq P,Gr P,Gs P,Gu P,Gv P,Gw P,Gx P,Gy P,fun _ h=>nomatch h⟩
theorem BO {α:Type}:∀{l:List (Nat×α)} {x v},lkN l x=some v->(x,v)∈l
  | [],_,_,e=>by cases e
  | (k,u)::r,x,v,e=>by
    have e:(if k=x then some u else lkN r x)=some v:=e
    by_cases h:k=x
    . rw [if_pos h] at e;cases e;subst h;exact List.mem_cons_self
    . rw [if_neg h] at e;exact List.mem_cons_of_mem _ (BO e)
theorem A6 {α:Type}:∀{l:List (String×α)} {x v},lkS l x=some v->(x,v)∈l
  | [],_,_,e=>by cases e
  | (k,u)::r,x,v,e=>by
    have e:(if k=x then some u else lkS r x)=some v:=e
    by_cases h:k=x
    . rw [if_pos h] at e;cases e;subst h;exact List.mem_cons_self
    . rw [if_neg h] at e;exact List.mem_cons_of_mem _ (A6 e)
theorem HN:∀{l:L} {x v},lk l x=some v->(x,v)∈l
  | [],_,_,e=>by cases e
  | (k,u)::r,x,v,e=>by
    have e:(if k=x then some u else lk r x)=some v:=e
    by_cases h:k=x
    . rw [if_pos h] at e;cases e;subst h;exact List.mem_cons_self
    . rw [if_neg h] at e;exact List.mem_cons_of_mem _ (HN e)
theorem sub_meth (P:Params):(methL.all fun e=>e.2.all fun x=>(T2 P).meth e.1 x.1==some x.2)=true:=by kernel_rfl
theorem sub_dat (P:Params):(datL.all fun e=>e.2.all fun x=>(T2 P).dat e.1 x.1)=true:=by kernel_rfl
theorem sub_fn (P:Params):(fnL.all fun e=>(T2 P).fn e.1)=true:=by kernel_rfl
theorem sub_fnG (P:Params):(fnGL.all fun e=>(T2 P).fnG e.1==some e.2)=true:=by kernel_rfl
theorem sub_clsG (P:Params):(clsGL.all fun e=>(T2 P).clsG e.1==some e.2)=true:=by kernel_rfl
theorem sub_buiG (P:Params):(buiGL.all fun e=>(T2 P).buiG e.1)=true:=by kernel_rfl
theorem sub_glo (P:Params):gloL.map (fun e=>(T2 P).glo e.1)=gloL.map (fun e=>some e.2):=by kernel_rfl
theorem HO (P:Params):(T2 P).sdS 48=some ttL:=by kernel_rfl
theorem HP (P:Params):(T2 P).sdS 43=some entL:=by kernel_rfl
theorem Iy (P:Params):(T2 P).cattr 166 "_defaultChunkSize" = some (.int 10240):=by kernel_rfl
noncomputable def triE (P:Params):List DictEntry:=esAt (K2 P) 235
theorem HQ (P:Params):(K2 P).lookup 236=some ⟨.ref 230,some 235,.plain,#[]⟩:=by kernel_rfl
theorem trie_d (P:Params):(K2 P).lookup 235=some (dictOf (triE P) 4):=by kernel_rfl
theorem trie_m (P:Params):(methL.all fun e=>!(e.1==230) || e.2.all fun x=>getL (Str.ofString x.1) (triE P)==some none)=true:=by kernel_rfl
noncomputable def trieA (n:String):Option V:=if n = "_data" then some (.stat 43) else if n = "_keys" then some (.lst kysL) else if n = "_cachestr" then some (.str []) else if n = "_cachepoints" then some (.tup [.int 0,.int 43]) else none
theorem sv_lst {P:Params} {hO:Heap} {K:Frag} (X:K.In hO) {a:Addr} {xs:Array Value} {n:Nat} {vs:List V} (hl:K.lookup a=some ⟨.type "list",none,.seq xs n,#[]⟩) (e:decL xs.toList=some vs):SV P hO (.lst vs) (.ref a):=fun μ h hk hn=>
  ⟨a,xs.toList,n,rfl,fun hm=>nn ((hn a hm).symm.trans (X _ _ hl)),hk _ _ (X _ _ hl),Eh e⟩
noncomputable def seqAt (K:Frag) (a:Addr):Array Value:=match K.lookup a with
  | some ⟨_,_,.seq xs _,_⟩=>xs
  | _=>#[]
theorem key_at (P:Params):(K2 P).lookup 243=some ⟨.type "list",none,.seq (seqAt (K2 P) 243) 2,#[]⟩:=by kernel_rfl
theorem key_d (P:Params):decL (seqAt (K2 P) 243).toList=some kysL:=by kernel_rfl
theorem pts_at (P:Params):(K2 P).lookup 246=some ⟨.type "tuple",none,.seq (seqAt (K2 P) 246) 0,#[]⟩:=by kernel_rfl
theorem pts_d (P:Params):decO 246 ⟨.type "tuple",none,.seq (seqAt (K2 P) 246) 0,#[]⟩=some (.tup [.int 0,.int 43]):=by kernel_rfl
noncomputable def trieN (P:Params) (n:String) (v:Value):Bool:=plainGet (K2 P) 230 (Str.ofString n)&&(hasDictIn (K2 P) 230&&(findIn (K2 P) (.ref 230) (Str.ofString n)==some none&&getL (Str.ofString n) (triE P)==some (some v)))
theorem trie1 (P:Params):trieN P "_data" (.ref 43)=true:=by kernel_rfl
theorem trie2 (P:Params):trieN P "_keys" (.ref 243)=true:=by kernel_rfl
theorem trie3 (P:Params):trieN P "_cachestr" (.str (Str.ofString "") 833)=true:=by kernel_rfl
theorem trie4 (P:Params):trieN P "_cachepoints" (.ref 246)=true:=by kernel_rfl
theorem trieA_ok {P:Params} {hO:Heap} (X:(K2 P).In hO) {n:String} {x:V} (h:trieA n=some x):∃v,trieN P n v=true/\SV P hO x v:=by
  unfold trieA at h;split at h
  . rename_i q;subst q;cases h;exact ⟨_,trie1 P,fun _ _ _ _=>rfl⟩
  split at h
  . rename_i q;subst q;cases h;exact ⟨_,trie2 P,sv_lst X (key_at P) (key_d P)⟩
  split at h
  . rename_i q;subst q;cases h;exact ⟨_,trie3 P,fun _ _ _ _=>⟨833,rfl⟩⟩
  split at h
  . rename_i q;subst q;cases h;exact ⟨_,trie4 P,HL X (pts_at P) (pts_d P)⟩
  . cases h
theorem HR {α β:Type} {f g:α->β}:∀{l:List α},l.map f=l.map g->∀x∈l,f x=g x
  | [],_,x,h=>by cases h
  | a::r,e,x,h=>by
    simp only [List.map_cons,List.cons.injEq] at e;rcases List.mem_cons.mp h with rfl | h
    . exact e.1
    . exact HR e.2 x h
section
variable {prog:Program} {w:World} {hO:Heap}
set_option maxHeartbeats 2000000 in
theorem Gz (TK:TabOk prog w (K2 w.params) hO (T2 w.params)):TabOk prog w (K2 w.params) hO Tc where
  X:=TK.X
  meth:=fun C n f h=>TK.meth C n f (by
    obtain ⟨l,h1,h2⟩:=Option.bind_eq_some_iff.mp (show (lkN methL C).bind (fun l=>lkS l n)=some f from h)
    have:=sub_meth w.params
    simp only [List.all_eq_true,beq_iff_eq] at this;exact this _ (BO h1) _ (A6 h2))
  dat:=fun C n h=>TK.dat C n (by
    obtain ⟨u,h⟩:=Option.isSome_iff_exists.mp (show ((lkN datL C).bind (fun l=>lkS l n)).isSome=true from h)
    obtain ⟨l,h1,h2⟩:=Option.bind_eq_some_iff.mp h
    have:=sub_dat w.params
    simp only [List.all_eq_true] at this;exact this _ (BO h1) _ (A6 h2))
  cattr:=fun C n x h=>TK.cattr C n x (by
    have h:(if C=166/\n = "_defaultChunkSize" then some (V.int 10240) else none)=some x:=h
    split at h
    . rename_i q;obtain ⟨rfl,rfl⟩:=q;cases h;exact Iy _
    . cases h)
  scls:=fun a C h=>by
    have h:(if a=236 then some 230 else none)=some C:=h
    split at h
    . rename_i q;subst q;cases h;refine ⟨235,_,_,_,HQ _,trie_d _,fun n f h=>?_⟩
      obtain ⟨l,h1,h2⟩:=Option.bind_eq_some_iff.mp (show (lkN methL 230).bind (fun l=>lkS l n)=some f from h)
      have z:=trie_m w.params;simp only [List.all_eq_true] at z;have z:=z _ (BO h1);simp only [List.all_eq_true,beq_self_eq_true,Bool.not_true,Bool.false_or,beq_iff_eq] at z;exact z _ (A6 h2)
    . cases h
  sattr:=fun a n x h=>by
    have h:(if a=236 then trieA n else none)=some x:=h
    split at h
    . rename_i q;subst q;obtain ⟨v,h1,h2⟩:=trieA_ok TK.X h;exact ⟨230,235,_,_,_,v,HQ _,trie_d _,aL h1,aL (aR h1),eq_of_beq (aL (aR (aR h1))),eq_of_beq (aR (aR (aR h1))),h2⟩
    . cases h
  sdS:=fun a es h=>TK.sdS a es (by
    have h:(if a=48 then some ttL else if a=43 then some entL else none)=some es:=h
    split at h
    . rename_i q;subst q;cases h;exact HO _
    . split at h
      . rename_i q;subst q;cases h;exact HP _
      . cases h)
  sdK:=fun a vs h=>TK.sdK a vs (by
    refine mp2' (show ((if a=48 then some ttL else if a=43 then some entL else none).map fun es=>es.map fun e=>V.str e.1)=some vs from h) fun es h1 h2=>?_
    show ((T2 w.params).sdS a).map _=_;split at h1
    . rename_i q;subst q;cases h1;rw [HO];exact congrArg some h2
    . split at h1
      . rename_i q;subst q;cases h1;rw [HP];exact congrArg some h2
      . cases h1)
  fn:=fun f h=>TK.fn f (by
    obtain ⟨u,h⟩:=Option.isSome_iff_exists.mp (show (lkN fnL f).isSome=true from h)
    have:=sub_fn w.params
    simp only [List.all_eq_true] at this;exact this _ (BO h))
  names:=by
    obtain ⟨mg,mb,h1,h2,h3,h4,h5,h6⟩:=TK.names;refine ⟨mg,mb,h1,h2,fun x v h=>h3 x v (HR (sub_glo w.params) _ (HN h)),fun x f h=>h4 x f ?_,fun x C f h=>h5 x C f ?_,fun x h=>h6 x ?_⟩
    . have:=sub_fnG w.params
      simp only [List.all_eq_true,beq_iff_eq] at this;exact this _ (A6 h)
    . have:=sub_clsG w.params
      simp only [List.all_eq_true,beq_iff_eq] at this;exact this _ (A6 h)
    . obtain ⟨u,h⟩:=Option.isSome_iff_exists.mp (show (lkS buiGL x).isSome=true from h)
      have:=sub_buiG w.params
      simp only [List.all_eq_true] at this;exact this _ (A6 h)
  nolimit:=TK.nolimit
theorem lp_ck (P:Params):defG (K2 P) 227 (lpCk lpA lpB lpE)=true:=by kernel_rfl
theorem lp_loc (P:Params):locCk (K2 P) 227 ["self","prefix"]=true:=by kernel_rfl
theorem lp_bd (P:Params) (S:Setting) (a b:Value):(fdOf (K2 P) 227).map (fun fd=>peek (K2 P) S (bindArgs fd ⟨[a,b],[]⟩))=some (some [(Str.ofString "self",a),(Str.ofString "prefix",b)]):=by kernel_rfl
theorem ke_glob (P:Params):nsIn (K2 P) mainGlobals (Str.ofString "KeyError")=some none:=by kernel_rfl
theorem lpOk (TK:TabOk prog w (K2 w.params) hO (T2 w.params)) (KE:KeOk hO) (n:Nat) (hn:10<=n):LpxOk prog w hO Tc n:=by
  have:=lpx_ok (Gz TK) KE (HM w.params) (lp_ck w.params) (lp_loc w.params) (lp_bd w.params) (n - 10)
  rwa [Nat.sub_add_cancel hn] at this
theorem callsOkC (TK:TabOk prog w (K2 w.params) hO (T2 w.params)) (KE:KeOk hO) (n:Nat):CallsOk prog w hO (Cc n) (n+10):=B0 (Gz TK) KE (lpOk TK KE) (HM w.params) n
end
theorem GA {scope:Scope} {globals:Addr} {n:Str} {v:Value} {qual:Str} {func:Option Addr} {code:Value} {builtins:Addr} :
    newFunctionEnv scope globals [] [(n,v)] qual func code none builtins=(do let env <- newFunctionEnv scope globals [] [] qual func code none builtins;storeName env n v;pure env):=by
  simp [newFunctionEnv]
theorem call_pos {prog:Program} {w:World} {A:Around} {R:Result->Shared->Prop} {s:Shared} {name:Str} {params:Arguments} {body:List Stmt} {scope:Scope} {pm cd doc:Value} {a:Addr} {o:Obj} {args:List Value} {n:Str} {v:Value}
    (ho:s.heap.get? a=some o) {mg:Str->Option Value} {dV kV:Value} (hd:o.data=.func { Calls.docDef name params body scope pm cd doc with defaults:=dV,kwdefaults:=kV }) (hD:Dflts mg s.heap params [] dV kV) {p:Program} {loose:List Str} {mean:ExcName->Option Value} {mb:Str->Option Value} (TT:Top p loose mean mg mb s.heap) (hcd:s.heap.CodeRec cd name)
    (hbind:bindArgs (Calls.docDef name params body scope pm cd doc) ⟨args,[]⟩=pure [(n,v)]) (hl:(decide (A.depth < recursionLimit)&&(params.defaults.isEmpty&&(scope.names.lookup n==some .local&&(decide ((cellsFrom 0 scope.names []).map (·.1)).Nodup&&(!scope.isCoroutine&&(!scope.isGenerator&&scope.kind==.function))))))=true)
    (h:∀h₁ tk,0 < tk->Fr s.heap s.heap.objs.size h₁ (fun y=>if y=n then some v else none)->(∀q∈cellsFrom (s.heap.objs.size+1) scope.names [],(∃x,h₁.IsCell q.2 x)/\s.heap.objs.size < q.2)->((cellsFrom (s.heap.objs.size+1) scope.names []).Pairwise fun x y=>x.2≠y.2)->
      wpAny (model prog w) (A.deeper (envOfC name scope s.heap.objs.size a cd)) (execs body (envOfC name scope s.heap.objs.size a cd)) (fun f s'=>R (.ok (.ret (match f with | .ret v=>v | _=>.none))) s')
        (fun e s'=>wpAny (model prog w) (A.deeper (envOfC name scope s.heap.objs.size a cd)) (leaving (envOfC name scope s.heap.objs.size a cd) e) (fun _ s''=>R (.error e) s'') (fun e' s''=>R (.error e') s'') s')
        { s with heap:=h₁,toks:=tk })
    : codeAny (model prog w) A (.call (.ref a) ⟨args,[]⟩) R s:=by
  simp only [Bool.and_eq_true,decide_eq_true_eq,List.isEmpty_iff,beq_iff_eq,Bool.not_eq_true'] at hl;obtain ⟨hroom,hdf,hl,hnd,hco,hgen,hk⟩:=hl;have hlim:=TT.nolimit;have e1:=Dflts.none hD hdf;subst e1;have e2:=Dflts.noKw hD;subst e2;have hdata:=fd_plain hd;refine codeAny_call_function hroom ho hdata hco hgen rfl hcd ?_
  rw [hbind];refine wpAny_pure ?_
  rw [show (Calls.docDef name params body scope pm cd doc).closure=[] from rfl,GA];refine wpAny_bind (wpAny_newFunctionEnv_cells hk (fun x hx=>absurd hx List.not_mem_nil) fun env' he s' x=>?_)
  subst he;refine wpAny_bind (wpAny_storeName_local hl x.toInCall.ns (fun h' hn' hs'=>wpAny_pure ?_) (by show (scope.kind==.class || (scope.kind==.module&&_))=false;rw [hk];rfl))
  obtain ⟨h₁,tk,rfl,_⟩:=x.done;have kp:∀b o,s.heap.get? b=some o->h'.get? b=some o:=fun b o e=>hs'.extBut b o (Nat.ne_of_lt (Nat.lt_of_lt_of_le (Heap.lt_size e) x.toInCall.fresh)) (x.toInCall.keep b o e)
  refine ⟨hlim.keeps kp,codeAny_func (h h' (tk+1) (Nat.succ_pos _) ⟨hn',kp,Nat.le_refl _⟩ (fun q hq=>?_) x.apart)⟩
  have ab:=x.above q.1 q.2 hq;exact ⟨⟨_,(x.cell q.1 q.2 (lookup_of_mem_nodup (cellsFrom_names scope.names 0 (s.heap.objs.size+1) [] [] rfl▸hnd) hq)).sameBut hs' (Nat.ne_of_gt ab)⟩,ab⟩
theorem well_list {P:Params} {h:Heap} {v:Value} {xs:List WData} (q:Well P h v (.list xs)):∃a vs,v=.ref a/\h.get? a=some { cls:=.type "list",data:=.seq vs.toArray }/\WellAll P h vs xs:=by
  cases q with
  | list h1 h2=>exact ⟨_,_,rfl,h1,h2⟩
theorem DA {P:Params} {h:Heap} {μ:Mu} {h':Heap}:∀{ns:List Int} {vs:List Value},WellAll P h vs (ofPys (ns.map PyData.int))->VRs P h' μ (ns.map .int) vs
  | [],vs,q=>by
    cases q;rfl
  | n::ns,vs,q=>by
    have q:WellAll P h vs (.int n::ofPys (ns.map PyData.int)):=q;cases q with
    | cons h1 h2=>
      cases h1 with
      | int _ t=>exact ⟨_,_,rfl,⟨t,rfl⟩,DA h2⟩
theorem join {prog:Program} {w:World} {K:Frag} {s₁:Shared} {T:Tab} {C:Calls} {n N:Nat} {ms:MS} {ns:List Int} {a fa:Addr} {h₁:Heap} {name:Str} {scope:Scope} {cd:Value} {body:List Stmt} {tk:Nat} {A:Around} {σ':St}
    (TK:TabOk prog w K s₁.heap T) (CO:CallsOk prog w s₁.heap C n) (LO:LpxOk prog w s₁.heap T n) (KE:KeOk s₁.heap) (hfr:A.frames=some [envOfC name scope s₁.heap.objs.size fa cd]) (ck:ckB scope ms body=true) (hk:scope.kind=.function) (hl:scope.names.lookup (Str.ofString "script")=some .local) (hce:(scope.names.all fun z=>z.2 != .cell || ((cellsFrom (s₁.heap.objs.size+1) scope.names []).lookup z.1).isSome)=true)
    (w1:Well w.params s₁.heap (.ref a) (ofPy (PyData.list (ns.map PyData.int)))) (hg:s₁.gens=#[]) (tp:0 < tk) (F:Fr s₁.heap s₁.heap.objs.size h₁ (fun y=>if y=Str.ofString "script" then some (.ref a) else none))
    (C0:∀q∈cellsFrom (s₁.heap.objs.size+1) scope.names [],(∃x,h₁.IsCell q.2 x)/\s₁.heap.objs.size < q.2) (C1:(cellsFrom (s₁.heap.objs.size+1) scope.names []).Pairwise fun x y=>x.2≠y.2)
    (low:∃o,s₁.heap.get? 3=some o) (B:Bud A n)
    (e:ex T C N 0 ms [("script",.lst (ns.map .int))] []=some (.ret (.bool true) σ')) {Q:Flow->Shared->Prop} {E:Value->Shared->Prop}
    (fin:∀s',(∀b o,s₁.heap.get? b=some o->s'.heap.get? b=some o)->s'.os=s₁.os->s'.gens=#[]->Q (.ret (.bool true)) s') :
    wpAny (model prog w) A (execs body (envOfC name scope s₁.heap.objs.size fa cd)) Q E { heap:=h₁,gens:=s₁.gens,drawn:=s₁.drawn,toks:=tk,os:=s₁.os }:=by
  obtain ⟨a',vs,ea,hget,hall⟩:=well_list w1;cases ea;generalize hcs:cellsFrom (s₁.heap.objs.size+1) scope.names []=cs at hce C0 C1
  have none1:∀b:Nat,s₁.heap.objs.size<=b->s₁.heap.get? b=none:=fun b hb=>by
    cases e:s₁.heap.get? b with
    | none=>rfl
    | some ob=>exact absurd (Heap.lt_size e) (Nat.not_lt.mpr hb)
  have big1:3 < s₁.heap.objs.size:=let ⟨o,ho⟩:=low;Heap.lt_size ho
  have exm:∀b∈s₁.heap.objs.size::cs.map (·.2),s₁.heap.objs.size<=b/\∃o,h₁.get? b=some o:=fun b hb=>by
    rcases List.mem_cons.mp hb with rfl | hb
    . exact ⟨Nat.le_refl _,let ⟨o,_,_,ho,_⟩:=F.ns;⟨o,ho⟩⟩
    . obtain ⟨q,hq,rfl⟩:=List.mem_map.mp hb;obtain ⟨⟨x,o,ho,_⟩,h2⟩:=C0 q hq;exact ⟨Nat.le_of_lt h2,o,ho⟩
  have rL:Rel w.params s₁.heap [] ⟨[],s₁.heap.objs.size::cs.map (·.2)⟩ h₁:=by
    refine ⟨F.keep,rfl,fun i ob p h=>(by cases h),fun b hb=>?_,?_,low,fun b hb=>(exm b hb).2⟩
    . have:=(exm b hb).1
      exact ⟨none1 b this,Nat.lt_of_lt_of_le (Nat.lt_trans (by decide) big1) this⟩
    . show (s₁.heap.objs.size::cs.map (·.2)).Nodup;refine List.nodup_cons.mpr ⟨fun hm=>?_,?_⟩
      . obtain ⟨q,hq,e⟩:=List.mem_map.mp hm;exact Nat.lt_irrefl _ (e▸(C0 q hq).2)
      . exact List.pairwise_map.mpr C1
  have hv:VR w.params h₁ ⟨[],s₁.heap.objs.size::cs.map (·.2)⟩ (.lst (ns.map .int)) (.ref a):=by
    refine ⟨a,vs,_,rfl,fun hm=>?_,F.keep _ _ hget,DA hall⟩
    have:=none1 a (exm a hm).1
    rw [this] at hget;cases hget
  have noP:∀b,b∉pcells ⟨[],s₁.heap.objs.size::cs.map (·.2)⟩:=fun b q=>by cases q
  have XL:Cx A w s₁.heap (envOfC name scope s₁.heap.objs.size fa cd) ⟨[],s₁.heap.objs.size::cs.map (·.2)⟩ { heap:=h₁,gens:=s₁.gens,drawn:=s₁.drawn,toks:=tk,os:=s₁.os } [] [("script",.lst (ns.map .int))] (fun y=>if y=Str.ofString "script" then some (.ref a) else none):=by
    refine ⟨rL,⟨hk,rfl,rfl,F.ns,⟨List.mem_cons_self,noP _⟩,fun q hq=>?_,?_,fun x hx=>?_,fun x v e=>?_⟩,⟨hg,tp,_,hfr,fun env he=>?_⟩,fun _=>⟨[],hfr⟩⟩
    . have hq:q∈cellsFrom (s₁.heap.objs.size+1) scope.names []:=hq;rw [hcs] at hq;obtain ⟨h1,h2⟩:=C0 q hq;exact ⟨List.mem_cons_of_mem _ (List.mem_map.mpr ⟨q,hq,rfl⟩),noP _,(Nat.ne_of_lt h2).symm,h1⟩
    . show (cellsFrom (s₁.heap.objs.size+1) scope.names []).Pairwise _;rw [hcs];exact C1
    . show ∃a,(cellsFrom (s₁.heap.objs.size+1) scope.names []).lookup x=some a;rw [hcs]
      have:=List.all_eq_true.mp hce _ (Ae hx)
      exact Option.isSome_iff_exists.mp (by simpa using this)
    . unfold lk at e;split at e
      . rename_i h;cases h;cases e;exact ⟨.ref a,.inl ⟨hl,if_pos rfl⟩,hv⟩
      . cases e
    . rw [List.mem_singleton.mp he];exact ⟨by show scope.kind≠.module;rw [hk];decide,_,rfl,List.mem_cons_self,Hd.of_ns (x:=Str.ofString "script") (v:=.ref a) F.ns (if_pos rfl)⟩
  have st0:Base ⟨[],[]⟩ s₁ ⟨[],s₁.heap.objs.size::cs.map (·.2)⟩ { heap:=h₁,gens:=s₁.gens,drawn:=s₁.drawn,toks:=tk,os:=s₁.os }:=⟨⟨⟨[],rfl,by simp⟩,fun b o _ e=>.inl (F.keep b o e),rfl,rfl⟩,fun b hb=>.inr (none1 b (exm b hb).1)⟩
  refine (Cj (N:=N) TK CO LO KE ms).bo (μb:=⟨[],[]⟩) (sb:=s₁) ck e B XL st0 ⟨none1 _ (Nat.le_refl _),fun q hq=>?_,rfl⟩ _ _ ?_
  . have hq:q∈cellsFrom (s₁.heap.objs.size+1) scope.names []:=hq;rw [hcs] at hq;exact none1 _ (Nat.le_of_lt (C0 q hq).2)
  . intro c s' μ' hex kq re ve ge st
    have:c=.bool true:=ve
    subst this;exact fin s' (fun b o e=>(st.st.keep b o (fun h=>by cases h) e).x (fun h=>by cases h)) st.st.os ge.gens
theorem join05 {prog:Program} {w:World} {s₁:Shared} {p:Program} {loose:List Str} {mean:ExcName->Option Value} {mg mb:Str->Option Value} (KX:(KL w.params).In s₁.heap) (TT:Top p loose mean mg mb s₁.heap) (hg:s₁.gens=#[])
    {ns:List Int} {a fa:Addr} {h₁:Heap} {name:Str} {scope:Scope} {cd:Value} {body:List Stmt} {tk:Nat}
    (w1:Well w.params s₁.heap (.ref a) (ofPy (PyData.list (ns.map PyData.int)))) (hn:¬(63:Int) < ns.length) (tp:0 < tk) (F:Fr s₁.heap s₁.heap.objs.size h₁ (fun y=>if y=Str.ofString "script" then some (.ref a) else none))
    (C0:∀q∈cellsFrom (s₁.heap.objs.size+1) scope.names [],(∃x,h₁.IsCell q.2 x)/\s₁.heap.objs.size < q.2) (C1:(cellsFrom (s₁.heap.objs.size+1) scope.names []).Pairwise fun x y=>x.2≠y.2)
    (ck:ckB scope ms811 body=true) (hk:scope.kind=.function) (hl:scope.names.lookup (Str.ofString "script")=some .local) (hce:(scope.names.all fun z=>z.2 != .cell || ((cellsFrom (s₁.heap.objs.size+1) scope.names []).lookup z.1).isSome)=true) {Q:Flow->Shared->Prop} {E:Value->Shared->Prop}
    (fin:∀s',(∀b o,s₁.heap.get? b=some o->s'.heap.get? b=some o)->s'.os=s₁.os->s'.gens=#[]->Q (.ret (.bool true)) s') :
    wpAny (model prog w) (callerA.deeper (envOfC name scope s₁.heap.objs.size fa cd)) (execs body (envOfC name scope s₁.heap.objs.size fa cd)) Q E { heap:=h₁,gens:=s₁.gens,drawn:=s₁.drawn,toks:=tk,os:=s₁.os }:=by
  have TK:TabOk prog w (K2 w.params) s₁.heap (T2 w.params):=tabOk2 KX TT
  have low:∃o,s₁.heap.get? 3=some o:=by
    obtain ⟨o,_,_,ho,_⟩:=TT.g;exact ⟨o,ho⟩
  have hn2:ns.length<=63:=by omega
  obtain ⟨σ',e⟩:=law_ok ns hn2;have KE:KeOk s₁.heap:=⟨mg,mb,TT.g,TT.b,mg_none_of KX TT.g (ke_glob w.params),(TT.builtins _ (by decide +kernel)).trans PyProof.Rows.Boot.«KeyError»⟩
  exact join (Gz TK) (callsOkC TK KE 9) (lpOk TK KE 19 (by decide)) KE rfl ck hk hl hce w1 hg tp F C0 C1 low ⟨rfl,by show 1+claimMargin+1+2 * 19+51 < recursionLimit;decide,by show 4+3+20 * 19+710 < cLine;decide⟩ e fin
local macro_rules | `(tactic| w_call $k $ho $hd $hcd $hD $T $F)=>`(tactic| refine call_pos $ho $hd $hD $T $hcd rfl rfl ?_)
set_option maxHeartbeats 8000000 in
theorem finT:PySem.Challenge.rw_te0030_05.Holds:=holds_law said fun k1=>by
  refine holds_open (q:=vq) (loose:=loL) (Xt:=XtL) (XP:=XL vq lvL) (Yf:=Hook.obs (kHook KL asL asK)) (Ya:=Hook.val (kHook KL asL asK)) (YP:=Hook.says (kHook KL asL asK)) (N:=16836) leftT (Hook.of (kHook KL asL asK)) (Hook.keeps (kHook KL asL asK)) (fun s e=>xl_of s (Bool.and_eq_true_iff.mp e).1) XL.keeps (by rfl) (by rfl) (by rfl) (fun s e=>recFacts_of (Bool.and_eq_true_iff.mp e).2) (by rfl) k1 chains bareT witT ?_
  generalize vq=q;generalize loL=lo;generalize lvL=lv
  w_on
  k_go0
  rename_i w1 r0 hI hr hc1 hc2 K0;intro h1 tk1 tp1 F C0 C1;refine join05 (by assumption) (by assumption) (by assumption) w1 hc1 tp1 F C0 C1 ?_ rfl rfl ?_ ?_
  . kernel_rfl
  . kernel_rfl
  . intro s' h1 h2 h3;exact ⟨.inl ⟨_,.bool true,[],rfl,fun cls=>rfl,.bool true,by kernel_rfl,unshared_nil⟩,h1,h2,h3⟩
end Mine
end
theorem PySem.Challenge.cw_te0030_05_holds : PySem.Challenge.rw_te0030_05.Holds :=
  Mine.finT
