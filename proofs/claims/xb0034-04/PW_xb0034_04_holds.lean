import PyProof.Rows.All
import PyProof.AttrMiss
import PyProof.PureStr
import KE.KBoundM
import KE.KDictSum
import KE.KNestM
import KE.KPairComp
import KE.KSortTup
import Wide.FinOn
import OpenK.AllK
import Wide.All
import Lean
import PySem.Challenge.RW_xb0034_04
set_option Elab.async false
set_option maxRecDepth 100000
set_option linter.all false
set_option genSizeOf false
set_option genInjectivity false
noncomputable section
namespace Mine
theorem bE{p:Prop}(h:false=true):p:=absurd h Bool.false_ne_true
theorem aW{x y:Bool}(h:(x&&y)=true):x=true∧y=true:=Bool.and_eq_true_iff.mp h
theorem jv{x y:Bool}(h:x=true∧y=true):(x&&y)=true:=Bool.and_eq_true_iff.mpr h
theorem oJ{x y:Bool}(h:(x||y)=false):x=false∧y=false:=Bool.or_eq_false_iff.mp h
theorem bM{α:Type}{a b:α}{l:List α}(h:a∈b::l):a=b∨a∈l:=List.mem_cons.mp h
theorem cV{α:Type}{i:Nat}{a:α}{l:List α}(h:l[i]?=some a):∃h:i<l.length,l[i]=a:=List.getElem?_eq_some_iff.mp h
theorem cZ{α:Type}{p:α→Bool}{l:List α}(h:l.all p=true):∀x,x∈l→p x=true:=List.all_eq_true.mp h
theorem gf{α β:Type}{b:α}{x:Option β}{f:β→α}(h:x.map f=some b):∃a,x=some a∧f a=b:=Option.map_eq_some_iff.mp h
theorem rS{α β:Type}{b:α}{x:Option β}{f:β→Option α}(h:x.bind f=some b):∃a,x=some a∧f a=some b:=Option.bind_eq_some_iff.mp h
theorem ja{α:Type}{a b:List α}(h:(a++b).Nodup):a.Nodup∧b.Nodup∧∀x,x∈a→∀y,y∈b→x≠y:=List.nodup_append.mp h
theorem xW{α:Type}{a:α}{l:List α}(h:(a::l).Nodup):¬a∈l∧l.Nodup:=List.nodup_cons.mp h
theorem mh{α:Type}{x:Option α}(h:x.isSome=true):∃a,x=some a:=Option.isSome_iff_exists.mp h
theorem F9{α β:Type}{b:β}{f:α→β}{l:List α}(h:b∈l.map f):∃a,a∈l∧f a=b:=List.mem_map.mp h
theorem uq{α β:Type}{b:β}{f:α→β}{l:List α}(h:∃a,a∈l∧f a=b):b∈l.map f:=List.mem_map.mpr h
theorem ur{m n:Nat}(h:m∈List.range n):m<n:=List.mem_range.mp h
theorem xX{α:Type}{R:α→α→Prop}{a:α}{l:List α}(h:(a::l).Pairwise R):(∀b,b∈l→R a b)∧l.Pairwise R:=List.pairwise_cons.mp h
theorem zD{α:Type}{p:α→Bool}{l:List α}{x:α}(h:x∈l.filter p):x∈l∧p x=true:=List.mem_filter.mp h
theorem oK{α:Type}[BEq α][LawfulBEq α]{a b:α}(h:a≠b):(a==b)=false:=beq_eq_false_iff_ne.mpr h
inductive Ln where
|at(i:Nat)|lit(n:Nat)|add(a b:Ln)|mul(n:Nat)(a:Ln)|oM(n:Nat)(a:Ln)|Mr(a:Ln)
namespace Ln
noncomputable def Ia:List Nat→Nat→Nat|[],aK=>0|a::aK,0=>a|aK::v,i+1=>Ia v i
def den(v:List Nat):Ln→Nat|.at i=>Ia v i|.lit n=>n|.add a b=>a.den v+b.den v|.mul n a=>n* a.den v|.oM n a=>a.den v* n|.Mr a=>(a.den v).succ
noncomputable def co(i:Nat):Ln→Nat|.at j=>bif Nat.beq i j then 1 else 0|.lit _=>0|.add a b=>a.co i+b.co i|.mul n a=>n* a.co i|.oM n a=>n* a.co i|.Mr a=>a.co i
noncomputable def c0:Ln→Nat|.at _=>0|.lit n=>n|.add a b=>a.c0+b.c0|.mul n a=>n* a.c0|.oM n a=>n* a.c0|.Mr a=>a.c0+1
noncomputable def dec(f c:Nat):Ln×Nat:=match f with
|0=>(.lit 0,c)|f+1=>
 bif Nat.ble (c %16) 7 then(.at (c %16),c/16)
 else bif Nat.beq (c %16) 8 then match dec f (c/16) with |(a,c)=>match dec f c with |(b,c)=>(.add a b,c)
 else bif Nat.beq (c %16) 9 then(.lit (c/16 %16),c/256)
 else bif Nat.beq (c %16) 10 then
  bif Nat.beq (c/16 %16) 0 then match dec f (c/1048576) with |(a,r)=>(.mul (c/256 %4096) a,r)
  else match dec f (c/256) with |(a,r)=>(.mul (c/16 %16) a,r)
 else bif Nat.beq (c %16) 11 then match dec f (c/256) with |(a,r)=>(.oM (c/16 %16) a,r)
 else bif Nat.beq (c %16) 12 then(.at (c/16 %16),c/256)
 else bif Nat.beq (c %16) 13 then match dec f (c/16) with |(a,r)=>(.Mr a,r)
 else bif Nat.beq (c %16) 14 then(.lit (c/16 %256),c/4096)
 else bif Nat.beq (c/16 %16) 0 then(.lit (c/65536 %16^(c/256 %256)),c/65536/16^(c/256 %256))
 else(.lit (c/256 %16^(c/16 %16)),c/256/16^(c/16 %16))
inductive Rk where
|le|lt|eq|qe|zp|zq|no
noncomputable def Rk.dec(n:Nat):Rk:=bif Nat.beq n 0 then .le else bif Nat.beq n 1 then .lt else bif Nat.beq n 2 then .eq else bif Nat.beq n 3 then .qe else bif Nat.beq n 4 then .zp else bif Nat.beq n 5 then .zq else .no
noncomputable def jZ{α:Type}(p:Ln×Nat)(q:Nat→Ln×Nat)(m:Nat)(t:Rk)(k:Nat→Rk→Ln→Ln→Nat→α):α:=match p with |(a,r)=>match q r with |(b,r)=>k m t a b r
def Rk.den(v:List Nat)(k:Rk)(a b:Ln):Prop:=match k with |.le=>a.den v≤b.den v|.lt=>a.den v<b.den v|.eq=>a.den v=b.den v|.qe=>a.den v=b.den v|.zp=>¬a.den v≤b.den v|.zq=>¬a.den v<b.den v|.no=>False
def Dn(v:List Nat):Nat→Nat→Prop|0,c=>jZ (dec 64 (c/256)) (dec 64) (c %16) (.dec (c/16 %16)) fun d k a b d=>k.den v a b|n+1,c=>jZ (dec 64 (c/256)) (dec 64) (c %16) (.dec (c/16 %16)) fun d k a b c=>k.den v a b→Dn v n c
noncomputable def step(m e:Nat)(l r L R:Ln):Ln×Ln:=(.add (.mul m (.add l (.lit e))) L,.add (.mul m r) R)
noncomputable def Rk.add(t:Bool)(m:Nat)(k:Rk)(a b L R:Ln):Ln×Ln:=match k with |.le=>step m 0 a b L R|.lt=>step m 1 a b L R|.eq=>bif t then step m 0 a b L R else step m 0 b a L R|.qe=>bif t then step m 0 b a L R else step m 0 a b L R|.zp=>step m 1 b a L R|.zq=>step m 0 b a L R|.no=>(L,R)
noncomputable def R1(v:List Nat)(i:Nat)(L R:Ln):Bool:=match v with |[]=>true|_::v=>Nat.ble (R.co i) (L.co i)&&R1 v (i+1) L R
def fin(v:List Nat)(p:Ln×Ln):Bool:=Nat.blt p.2.c0 p.1.c0&&R1 v 0 p.1 p.2
def Rk.goal(v:List Nat)(m:Nat)(k:Rk)(a b:Ln)(P Q:Ln×Ln):Bool:=match k with |.le=>fin v (step m 1 b a P.1 P.2)|.lt=>fin v (step m 0 b a P.1 P.2)|.eq=>fin v (step (m %4) 1 b a P.1 P.2)&&fin v (step (m/4) 1 a b Q.1 Q.2)|.zp=>fin v (step m 0 a b P.1 P.2)|.zq=>fin v (step m 1 a b P.1 P.2)|_=>fin v P
noncomputable def cS(v:List Nat)(q:Bool):Nat→Nat→Ln×Ln→Ln×Ln→Bool|0,c,P,Q=>jZ (dec 64 (c/256)) (dec 64) (c %16) (.dec (c/16 %16)) fun m k a b d=>k.goal v m a b P Q|n+1,c,P,Q=>jZ (dec 64 (c/256)) (dec 64) (c %16) (.dec (c/16 %16)) fun m k a b c=>cS v q n c (k.add true (bif q then m %4 else m) a b P.1 P.2) (k.add false (m/4) a b Q.1 Q.2)
noncomputable def dot(v:List Nat)(f:Nat→Nat):Nat:=match v with |[]=>0|a::v=>f 0* a+dot v fun i=>f (i+1)
theorem DL(v:List Nat)(f g:Nat→Nat):dot v (fun i=>f i+g i)=dot v f+dot v g:=by
 induction v generalizing f g with |nil=>rfl|cons a v ih=>exact(congr (congrArg HAdd.hAdd (Nat.add_mul ..)) (ih ..)).trans (Nat.add_add_add_comm ..)
theorem wj(v:List Nat)(n:Nat)(f:Nat→Nat):dot v (fun i=>n* f i)=n* dot v f:=by
 induction v generalizing f with |nil=>rfl|cons a v ih=>exact(congr (congrArg HAdd.hAdd (Nat.mul_assoc ..)) (ih ..)).trans (Nat.mul_add ..).symm
theorem rU(v:List Nat):dot v (fun b=>0)=0:=by
 induction v with |nil=>rfl|cons a v ih=>exact(congr (congrArg HAdd.hAdd (Nat.zero_mul a)) ih).trans rfl
theorem Ib(v:List Nat)(j:Nat):dot v (fun i=>bif Nat.beq i j then 1 else 0)=Ia v j:=by
 induction v generalizing j with |nil=>rfl|cons a v ih=>cases j with |zero=>exact(congr (congrArg HAdd.hAdd (Nat.one_mul a)) (rU v)).trans (Nat.add_zero a)|succ j=>exact(congr (congrArg HAdd.hAdd (Nat.zero_mul a)) (ih j)).trans (Nat.zero_add _)
theorem sum(v:List Nat)(t:Ln):t.den v=t.c0+dot v fun i=>t.co i:=by
 induction t with |«at»j=>exact(Ib v j).symm.trans (Nat.zero_add _).symm|lit n=>exact(congrArg (n+·) (rU v)).symm|add a b ha hb=>exact(congr (congrArg HAdd.hAdd ha) hb).trans ((Nat.add_add_add_comm ..).trans (congrArg _ (DL ..).symm))|mul n a h=>exact(congrArg (n* ·) h).trans ((Nat.mul_add ..).trans (congrArg _ (wj ..).symm))|oM n a h=>exact(Nat.mul_comm ..).trans ((congrArg (n* ·) h).trans ((Nat.mul_add ..).trans (congrArg _ (wj ..).symm)))|Mr a h=>exact(congrArg Nat.succ h).trans (Nat.succ_add ..).symm
theorem Ic(v:List Nat)(L R:Ln)(i:Nat)(h:R1 v i L R=true):dot v (fun j=>R.co (j+i))≤dot v (fun j=>L.co (j+i)):=by
 induction v generalizing i with
 |nil=>exact Nat.le_refl _|cons a v ih=>
  obtain⟨h1,h2⟩:=aW h;refine Nat.add_le_add (Nat.mul_le_mul (by show R.co (0+i)≤L.co (0+i);rw[Nat.zero_add];exact Nat.le_of_ble_eq_true h1) (Nat.le_refl _)) ?_;have :=ih _ h2
  simp only[Nat.add_assoc,Nat.add_comm 1 i];exact this
theorem cf{v:List Nat}{p:Ln×Ln}(h:fin v p=true)(q:p.1.den v≤p.2.den v):False:=by
 obtain⟨h1,h2⟩:=aW h;have h1:=Nat.le_of_ble_eq_true h1
 have :=Ic v p.1 p.2 0 h2;rw[Ln.sum,Ln.sum] at q;exact absurd (Nat.lt_of_lt_of_le (Nat.add_lt_add_of_lt_of_le h1 this) q) (Nat.lt_irrefl _)
theorem aM{v:List Nat}{m e:Nat}{l r L R:Ln}(h:l.den v+e≤r.den v)(q:L.den v≤R.den v):(step m e l r L R).1.den v≤(step m e l r L R).2.den v:=Nat.add_le_add (Nat.mul_le_mul_left m h) q
theorem Rk.zE{v:List Nat}{t:Bool}{m:Nat}{k:Rk}{a b L R:Ln}(h:k.den v a b)(q:L.den v≤R.den v):(k.add t m a b L R).1.den v≤(k.add t m a b L R).2.den v:=by
 cases k with
 |le=>exact aM h q|lt=>exact aM h q|zp=>exact aM (Nat.lt_of_not_le h) q|zq=>exact aM (Nat.le_of_not_lt h) q|no=>exact q|eq=>cases t;exact aM (Nat.le_of_eq h.symm) q;exact aM (Nat.le_of_eq h) q
 |qe=>cases t;exact aM (Nat.le_of_eq h) q;exact aM (Nat.le_of_eq h.symm) q
theorem Rk.qz{v:List Nat}{m:Nat}{k:Rk}{a b:Ln}{P Q:Ln×Ln}(h:k.goal v m a b P Q=true)(p:P.1.den v≤P.2.den v)(q:Q.1.den v≤Q.2.den v):k.den v a b:=by
 cases k with |le=>exact Nat.le_of_not_lt fun x=>cf h (aM x p)|lt=>exact Nat.lt_of_not_le fun x=>cf h (aM x p)|eq=>exact Nat.le_antisymm (Nat.le_of_not_lt fun x=>cf (aW h).1 (aM x p)) (Nat.le_of_not_lt fun x=>cf (aW h).2 (aM x q))|zp=>exact fun x=>cf h (aM x p)|zq=>exact fun x=>cf h (aM x p)|no=>exact cf h p|qe=>exact(cf h p).elim
theorem jw{α β:Type}{R:α→β→Prop}{p:Ln×Nat}{q:Nat→Ln×Nat}{m:Nat}{t:Rk}{k:Nat→Rk→Ln→Ln→Nat→α}{k':Nat→Rk→Ln→Ln→Nat→β}(h:∀m t a b c,R (k m t a b c) (k' m t a b c)):R (jZ p q m t k) (jZ p q m t k'):=h ..
theorem uu{v:List Nat}{g:Bool}{n c:Nat}{P Q:Ln×Ln}(h:cS v g n c P Q=true)(p:P.1.den v≤P.2.den v)(q:Q.1.den v≤Q.2.den v):Dn v n c:=by
 induction n generalizing c P Q with |zero=>exact jw (R:=fun x y=>x=true→y) (fun a a a a a h=>Rk.qz h p q) h|succ n ih=>exact jw (R:=fun x y=>x=true→y) (fun a a a a a h x=>ih h (Rk.zE x p) (Rk.zE x q)) h
theorem go(c:Nat)(v:List Nat)(h:cS v (Nat.beq (c/16 %16) 1) (c %16) (c/256) (.lit 0,.lit 0) (.lit 0,.lit 0)=true):Dn v (c %16) (c/256):=uu h (Nat.le_refl _) (Nat.le_refl _)
theorem aN(a b:Nat):a≤a-b+b:=Nat.sub_le_iff_le_add.mp (Nat.le_refl _)
end Ln
theorem ae:true=true:=rfl
theorem aV(c:Nat){a:Nat}(h:Ln.cS [a] (Nat.beq (c/16 %16) 1) (c %16) (c/256) (.lit 0,.lit 0) (.lit 0,.lit 0)=true):Ln.Dn [a] (c %16) (c/256):=Ln.go c _ h
theorem aE(c:Nat){a b:Nat}(h:Ln.cS [a,b] (Nat.beq (c/16 %16) 1) (c %16) (c/256) (.lit 0,.lit 0) (.lit 0,.lit 0)=true):Ln.Dn [a,b] (c %16) (c/256):=Ln.go c _ h
theorem aQ(c:Nat){a b d:Nat}(h:Ln.cS [a,b,d] (Nat.beq (c/16 %16) 1) (c %16) (c/256) (.lit 0,.lit 0) (.lit 0,.lit 0)=true):Ln.Dn [a,b,d] (c %16) (c/256):=Ln.go c _ h
theorem gS(c:Nat){a b d e:Nat}(h:Ln.cS [a,b,d,e] (Nat.beq (c/16 %16) 1) (c %16) (c/256) (.lit 0,.lit 0) (.lit 0,.lit 0)=true):Ln.Dn [a,b,d,e] (c %16) (c/256):=Ln.go c _ h
theorem uv(c:Nat){a b d e f:Nat}(h:Ln.cS [a,b,d,e,f] (Nat.beq (c/16 %16) 1) (c %16) (c/256) (.lit 0,.lit 0) (.lit 0,.lit 0)=true):Ln.Dn [a,b,d,e,f] (c %16) (c/256):=Ln.go c _ h
end Mine
end
noncomputable section
open PySem PySem.W PySem.Builtin PySem.Builtin.Str
namespace Mine
set_option genInjectivity true in
inductive V where
 |none|bool(b:Bool)|int(i:Int)|str(s:Str)|lst(xs:List V)|tup(xs:List V)|aF(kvs:List (Str×V))|mj(a b:Int)|ref(k:Nat)|fn(f:Nat)|cls(c:Nat)|blt(id:String)|typ(id:String)|bm(self:Nat)(f:Nat)|rO(params:List Str)(body:Expr)(sc:Scope)(c7:List (Str×V))|tabI(kvs:List (Int×Str))|xY(xs:List Int)
 deriving Inhabited
inductive az where
 |gone|lst(xs:List V)|aF(kvs:List (Str×V))|inst(c:Nat)(fs:List (Str×V))|o_(rO:V)(fs:List (Str×V))|lI(f:V)(stop:V)(live:Bool)
 deriving Inhabited
abbrev AH:=List az
abbrev af:=List (Str×V)
abbrev M(α:Type):=AH→Option (α×AH)
noncomputable def M.ret(a:α):M α:=fun H=>some (a,H)
noncomputable def M.aL(m:M α)(f:α→M β):M β:=fun H=>match m H with |some (a,H')=>f a H'|none=>none
noncomputable def M.fail:M α:=fun a=>none
noncomputable instance:Monad M where
 pure:=M.ret
 bind:=M.aL
noncomputable def opt(o:Option α):M α:=fun H=>o.map (·,H)
noncomputable def hget(k:Nat):M az:=fun H=>match H[k]? with |some .gone=>none|some o=>some (o,H)|none=>none
noncomputable def fQ(k:Nat)(o:az):M Unit:=fun H=>some ((),H.set k o)
noncomputable def gY(o:az):M V:=fun H=>some (.ref H.length,H++[o])
inductive Fl where
|next|cont
|ret(v:V)
noncomputable def R2:Fl→V|.ret v=>v|_=>.none
structure zF where
 params:List Str
 body:List Stmt
 sc:Scope
structure Ie where
 meths:List (Str×Nat)
 DM:List Str
structure Cx where
 Ms:List (Str×V)
 fns:List (Nat×zF)
 gh:List (Nat×Ie)
 mu:Pos→Bool
 frz:Nat→Bool
 wo:Str→Bool
 lim:Nat
noncomputable def aP{β:Type}(l:List (Str×β))(x:Str)(v:β):List (Str×β):=match l with |[]=>[(x,v)]|p::r=>bif x==p.1 then(p.1,v)::r else p::aP r x v
noncomputable def aS(l:List (Str×V))(x:Str):Option V:=l.lookup x
def Rf(v:V):M Bool:=match v with
|.none=>pure false|.bool b=>pure b|.int i=>pure (i !=0)|.str s=>pure (s.length !=0)|.lst xs=>pure (xs.length !=0)|.ref k=>do match ←hget k with |.lst xs=>pure (xs.length !=0)|_=>M.fail
|_=>M.fail
noncomputable def deref(H:AH)(a:V):V:=match a with
|.ref k=>match H[k]? with |some (.lst xs)=>.lst xs|some (.aF kvs)=>.aF kvs|_=>a
|_=>a
noncomputable def aB{α:Type}(a:V)(f:Int→Option α):Option α:=by induction a using V.casesOn with |int i=>exact f i|_=>exact none
noncomputable def onStr{α:Type}(a:V)(f:Str→Option α):Option α:=by induction a using V.casesOn with |str i=>exact f i|_=>exact none
noncomputable def cI{α:Type}(a:V)(f:Bool→Option α):Option α:=by induction a using V.casesOn with |bool i=>exact f i|_=>exact none
noncomputable def eg{α:Type}(a:V)(f:List V→Option α):Option α:=by induction a using V.casesOn with |lst i=>exact f i|_=>exact none
noncomputable def k7{α:Type}(a:V)(f:List V→Option α):Option α:=by induction a using V.casesOn with |tup i=>exact f i|_=>exact none
noncomputable def gH{α:Type}(a:V)(f:List (Str×V)→Option α):Option α:=by induction a using V.casesOn with |aF i=>exact f i|_=>exact none
noncomputable def j0{α:Type}(a:V)(f:Option α):Option α:=by induction a using V.casesOn with |none=>exact f|_=>exact Option.none
noncomputable def onSet{α:Type}(a:V)(f:List Int→Option α):Option α:=by induction a using V.casesOn with |xY i=>exact f i|_=>exact none
noncomputable def wm{α:Type}(a:V)(f:Nat→Option α):Option α:=by induction a using V.casesOn with |ref i=>exact f i|_=>exact none
noncomputable def DN{α:Type}(a:V)(f:Int→Option α)(g:Str→Option α):Option α:=by induction a using V.casesOn with |int i=>exact f i|str x=>exact g x|_=>exact none
noncomputable def alt{α:Type}(a b:Option α):Option α:=match a with |some x=>some x|none=>b
noncomputable def gZ(f:V→V→Option Bool):List V→List V→Option Bool
|[],[]=>some true|x::xs,y::ys=>match f x y,gZ f xs ys with |some p,some q=>some (p&&q)|aK,bA=>none
|aK,bA=>none
noncomputable def veqd(f:V→V→Option Bool)(ys:List (Str×V)):List (Str×V)→Option Bool|[]=>some true|(x,v)::r=>match ys.lookup x with |none=>some false|some u=>match f v u,veqd f ys r with |some p,some q=>some (p&&q)|aK,bA=>none
def VX(f:V→V→Option Bool)(H:AH)(a b:V):Option Bool:=
 alt (aB a fun i=>aB b fun j=>some (i==j)) (alt (onStr a fun x=>onStr b fun y=>some (x==y)) (alt (cI a fun x=>cI b fun y=>some (x==y))
 (alt (k7 a fun xs=>k7 b fun ys=>bif xs.length==ys.length then gZ f xs ys else none) (alt (eg (deref H a) fun xs=>eg (deref H b) fun ys=>bif xs.length==ys.length then gZ f xs ys else some false)
 (gH (deref H a) fun kx=>gH (deref H b) fun ky=>bif kx.length==ky.length then veqd f ky kx else some false)))))
noncomputable def f_:Nat→AH→V→V→Option Bool|0,aK,bA,gI=>none|n+1,H,a,b=>VX (f_ n H) H a b
noncomputable def LW(a b:V):Option Bool:=alt (aB a fun i=>aB b fun j=>some (i==j)) (onStr a fun x=>onStr b fun y=>some (x==y))
noncomputable def eqRow(x:V):List V→Option (List Bool)|[]=>some []|y::r=>match LW y x,eqRow x r with |some p,some q=>some (p::q)|aK,bA=>none
noncomputable def bg:Nat:=10
noncomputable def strLt(a b:Str):Bool:=decide (a.cps.toList<b.cps.toList)
noncomputable def strSub(x y:Str):Bool:=!(occurrences y x 0 y.length 1).isEmpty
def Rg(_:Nat)(a b:V):Option Bool:=alt (aB a fun i=>aB b fun j=>some (decide (i<j))) (onStr a fun x=>onStr b fun y=>some (strLt x y))
noncomputable def runK{α:Type}(gJ:Nat→Nat→Option Bool):PySem.W.KasT α→Option α|.ret a=>some a|.ask i j k=>match gJ i j with |some b=>runK gJ (k b)|none=>none
def sortAns(ks:List V)(i j:Nat):Option Bool:=match ks[i]?,ks[j]? with |some a,some b=>Rg bg a b|aK,bA=>none
noncomputable def DO(v:V):Bool:=Nat.beq v.ctorIdx 2
noncomputable def DP(v:V):Bool:=Nat.beq v.ctorIdx 3
noncomputable def sortable(ks:List V):Bool:=ks.all DO||ks.all DP
noncomputable def small(i:Int):Bool:=decide (i.natAbs<2^128)
noncomputable def sizeOk(n:Nat):Bool:=decide (n<2^20)
noncomputable def ai:Nat:=2^20
noncomputable def qA(f:Int→Int→Option V)(a b:V):Option V:=aB a fun i=>aB b fun j=>f i j
def zG(a b:V):Option V:=match a with
|.int i=>aB b fun j=>some (.int (i+j))|.str x=>onStr b fun y=>if sizeOk (x.length+y.length) then some (.str (x++y)) else none
|.lst x=>eg b fun y=>if sizeOk (x.length+y.length) then some (.lst (x++y)) else none
|.tup x=>k7 b fun y=>if x.length !=0&&y.length !=0&&sizeOk (x.length+y.length) then some (.tup (x++y)) else none
|_=>none
def Ig(a b:V):Option V:=match a with
|.int i=>aB b fun j=>if small i&&small j then some (.int (i* j)) else none
|.lst x=>aB b fun j=>match x with
 |[v]=>if decide (0≤j)&&decide (j<1000) then some (.lst (List.replicate j.toNat v)) else none
 |_=>none
|_=>none
def binop(op:Operator)(a b:V):Option V:=match op with |.Add=>zG a b|.Mult=>Ig a b|.Sub=>qA (fun i j=>some (.int (i-j))) a b|.FloorDiv=>qA (fun i j=>if j !=0&&small j then some (.int (i.fdiv j)) else none) a b|.Mod=>qA (fun i j=>if j !=0 then some (.int (i.fmod j)) else none) a b|.Pow=>qA (fun i j=>if decide (1<i)&&small i&&decide (0≤j)&&decide (j<100) then some (.int (i^j.toNat)) else none) a b|_=>none
def jx(a b:V):Option V:=match a with
|.int i=>aB b fun j=>some (.int (i+j))|.str x=>onStr b fun y=>if sizeOk (x.length+y.length) then some (.str (x++y)) else none
|_=>none
def inside(H:AH)(a b:V):Option Bool:=alt (onStr a fun x=>alt (onStr b fun y=>some (strSub x y)) (gH (deref H b) fun kvs=>some (kvs.lookup x).isSome)) (eg b fun ys=>(eqRow a ys).map (·.any id))
def dK(H:AH)(op:CmpOp)(a b:V):Option V:=match op with |.Eq=>(f_ bg H a b).map .bool|.NotEq=>(f_ bg H a b).map fun r=>.bool !r|.Lt=>alt (aB a fun i=>aB b fun j=>some (.bool (decide (i<j)))) (onStr a fun x=>onStr b fun y=>some (.bool (strLt x y)))|.Gt=>alt (aB a fun i=>aB b fun j=>some (.bool (decide (j<i)))) (onStr a fun x=>onStr b fun y=>some (.bool (strLt y x)))|.GtE=>aB a fun i=>aB b fun j=>some (.bool (decide (j≤i)))|.Is=>cI b fun y=>alt (cI a fun x=>some (.bool (x==y))) (aB a fun c=>some (.bool false))|.IsNot=>alt (cI b fun y=>cI a fun x=>some (.bool (x !=y))) (j0 b (alt (j0 a (some (.bool false))) (onStr a fun c=>some (.bool true))))|.In=>alt (onSet b fun xs=>aB a fun i=>some (.bool (xs.contains i))) ((inside H a b).map .bool)|.NotIn=>(inside H a b).map fun r=>.bool !r|_=>none
def eA(x:V)(l:List V):Option Nat:=(eqRow x l).map (·.countP id)
def jy(x:V)(l:List V):Option Nat:=(eqRow x l).bind (·.findIdx? id)
noncomputable def cB(n:Nat)(i:Int):Option Nat:=if decide (-2^63≤i)&&decide (i<2^63) then seqIndex? i n else none
def rV(a i:V):Option V:=match a with |.lst xs=>aB i fun i=>(cB xs.length i).bind fun k=>xs[k]?|.tup xs=>aB i fun i=>(cB xs.length i).bind fun k=>xs[k]?|.str x=>aB i fun i=>(cB x.length i).bind fun k=>x.cps[k]?.map fun c=>.str ⟨#[c]⟩|.aF kvs=>onStr i fun x=>kvs.lookup x|_=>none
def item(H:AH)(a i:V):Option V:=rV (deref H a) i
noncomputable def cut(xs:List α)(lo hi:Option Int):List α:=(xs.drop (lo.elim 0 (clipAt xs.length))).take (hi.elim xs.length (clipAt xs.length)-lo.elim 0 (clipAt xs.length))
noncomputable def F_(i j:Int)(n:Nat):Bool:=decide (1≤i)&&decide (i≤j)&&decide (j≤n)
def slice(H:AH)(a:V)(lo hi:Option Int):Option V:=match deref H a with |.tup xs=>lo.bind fun i=>hi.bind fun j=>bif F_ i j xs.length then some (.tup ((xs.drop i.toNat).take (j.toNat-i.toNat))) else none|.lst xs=>some (.lst (cut xs lo hi))|.str x=>some (.str ⟨(cut x.cps.toList lo hi).toArray⟩)|_=>none
noncomputable def eB(f:V→M V):List V→M (List V)
|[]=>pure []|x::r=>do
 let y←f x
 return y::(←eB f r)
noncomputable def e9(f:V→M V):List (Str×V)→M (List (Str×V))
|[]=>pure []|(k,x)::r=>do
 let y←f x
 return (k,y)::(←e9 f r)
noncomputable def freeze:Nat→V→M V
|0,aK=>M.fail|n+1,.ref k=>do
 match ←hget k with |.lst xs=>fQ k .gone;return .lst (←eB (freeze n) xs)|.aF kvs=>fQ k .gone;return .aF (←e9 (freeze n) kvs)|_=>M.fail
|n+1,.tup xs=>do return .tup (←eB (freeze n) xs)
|aK,v=>pure v
def srcOf(v:V):M (List V×Option (Nat×az)):=match v with
|.lst xs=>pure (xs,none)|.tup xs=>pure (xs,none)|.str x=>pure (x.cps.toList.map fun c=>.str ⟨#[c]⟩,none)|.mj a b=>pure ((List.range (b-a).toNat).map fun(i:Nat)=>.int (a+(i:Int)),none)|.aF kvs=>pure (kvs.map fun kv=>.str kv.1,none)|.ref k=>do
 match ←hget k with |.lst xs=>fQ k .gone;return (xs,some (k,.lst xs))|.aF kvs=>fQ k .gone;return (kvs.map fun kv=>.str kv.1,some (k,.aF kvs))|_=>M.fail
|_=>M.fail
def DQ(v:V):M (List (Str×V)×Option (Nat×az)):=match v with
|.aF kvs=>pure (kvs,none)|.ref k=>do
 match ←hget k with |.aF kvs=>fQ k .gone;return (kvs,some (k,az.aF kvs))|_=>M.fail
|_=>M.fail
noncomputable def bw(i:Int):List V→List V|[]=>[]|x::r=>.tup [.int i,x]::bw (i+1) r
def iJ:Option (Nat×az)→M Unit|none=>pure ()|some (k,o)=>fQ k o
noncomputable def rW:List V→Option (List Str)|[]=>some []|v::r=>onStr v fun x=>(rW r).map (x::·)
noncomputable def rY(y:Str):Option Nat:=match y.cps.toList with |[c]=>some c|_=>none
noncomputable def mq(c:Nat)(x:Str):Nat:=(x.cps.toList.filter (·==c)).length
noncomputable def sumInts:List V→Option Int|[]=>some 0|v::r=>aB v fun i=>(sumInts r).map (i+·)
noncomputable def jb(C:Cx)(f:Nat):Option zF:=C.fns.lookup f
noncomputable def kindOf(sc:Scope)(x:Str):Option NameKind:=sc.names.lookup x
def e_(sc:Scope)(env:af):Option (List (Str×V)):=(sc.names.filter (·.2==.free)).mapM fun n=>(aS env n.1).map (n.1,·)
noncomputable def mw:List String:=["len","chr","ord","sorted","sum","isinstance","iter"]
noncomputable def my:List String:=["int","list","tuple","range","enumerate"]
noncomputable def gi(sc:Scope):Scope:={sc with names:=sc.names++[(Str.empty,.globalExplicit)]}
noncomputable def gK(sc:Scope):Bool:=sc.names.any fun n=>n.1==Str.empty
def lookGlob(C:Cx)(x:Str):Option V:=match C.Ms.lookup x with |some v=>some v|none=>match mw.find? (fun n=>Str.ofString n==x) with |some n=>some (.blt n)|none=>(my.find? fun n=>Str.ofString n==x).map .typ
def dW(C:Cx)(sc:Scope)(env:af)(x:Str):Option V:=match kindOf sc x with
|some .local|some .cell|some .free=>aS env x
|some .globalImplicit=>lookGlob C x|_=>none
noncomputable def zH(v:V):Bool:=Nat.beq v.ctorIdx 13
noncomputable def iK(i:Int):Bool:=decide (i.natAbs<2^60)
noncomputable def k8{α:Type}(as:List V)(f:V→Option α):Option α:=match as with |[v]=>f v|_=>none
noncomputable def wq{α:Type}(as:List V)(f:V→V→Option α):Option α:=match as with |[v,u]=>f v u|_=>none
noncomputable def wu{α:Type}(a:V)(f:String→Option α):Option α:=by induction a using V.casesOn with |typ i=>exact f i|_=>exact none
noncomputable def DR{α:Type}(a:V)(f:Option α):Option α:=match a with |.bm _ _=>f|_=>none
noncomputable def Mt(a:V):Option Nat:=match a with |.str x=>some x.length|.lst x=>some x.length|.tup x=>some x.length|.aF x=>some x.length|_=>none
noncomputable def Mu(as:List V):M V:=fun H=>k8 as fun v=>(Mt (deref H v)).map fun(n:Nat)=>(.int n,H)
noncomputable def Mv(as:List V):M V:=fun H=>k8 as fun v=>aB v fun i=>bif decide (0≤i)&&decide (i<0x110000) then some (.str ⟨#[i.toNat]⟩,H) else none
noncomputable def Mw(as:List V):M V:=fun H=>k8 as fun v=>onStr v fun x=>(rY x).map fun(c:Nat)=>(.int c,H)
def Mx(as:List V):M V:=fun H=>k8 as fun v=>eg v fun xs=>(sumInts xs).map fun i=>(.int i,H)
noncomputable def My(as:List V):M V:=fun H=>wq as fun v t=>aB v fun a=>wu t fun t=>bif t=="tuple" then some (.bool false,H) else none
def Ga(as:List V):M V:=fun H=>wq as fun f v=>DR f (gY (.lI f v true) H)
def g_(id:String)(as:List V):M V:=
 if id=="len" then Mu as else if id=="chr" then Mv as else if id=="ord" then Mw as else if id=="sum" then Mx as
 else if id=="isinstance" then My as else if id=="iter" then Ga as else M.fail
noncomputable def wz(v:V):Option (List V):=match v with |.str x=>some (x.cps.toList.map fun c=>.str ⟨#[c]⟩)|.mj a b=>some ((List.range (b-a).toNat).map fun(i:Nat)=>.int (a+(i:Int)))|_=>none
noncomputable def Mz(as:List V):M V:=fun H=>k8 as fun v=>cI v fun b=>some (.int (if b then 1 else 0),H)
def rangeT(as:List V):M V:=fun H=>alt (k8 as fun v=>aB v fun b=>bif iK b then some (.mj 0 b,H) else none) (wq as fun u v=>aB u fun a=>aB v fun b=>bif iK a&&iK b then some (.mj a b,H) else none)
def zI(b:Bool)(as:List V):M V:=fun H=>k8 as fun v=>(wz v).bind fun xs=>bif sizeOk xs.length then(if b then gY (.lst xs) else pure (.lst xs):M V) H else none
def gj(b:Bool)(id:String)(as:List V):M V:=if id=="int" then Mz as else if id=="range" then rangeT as else if id=="list" then zI b as else M.fail
def jc(xs:List V)(i:Int)(v:V):Option (List V):=if decide (0≤i) then(cB xs.length i).map fun k=>xs.set k v else none
def wA(k:Nat)(i:Int)(v:V):az→M Unit
|.lst xs=>match jc xs i v with |some ys=>fQ k (.lst ys)|none=>M.fail
|_=>M.fail
def mz(k:Nat)(x:Str)(v:V):az→M Unit
|.aF kvs=>if sizeOk (kvs.length+1) then fQ k (.aF (aP kvs x v)) else M.fail
|_=>M.fail
def jz(o i v:V):M Unit:=fun H=>wm o fun k=>DN i (fun i=>M.aL (hget k) (wA k i v) H) fun x=>M.aL (hget k) (mz k x v) H
noncomputable def pe(C:Cx)(c:Nat)(a:Str):Bool:=match C.gh.lookup c with |some d=>d.DM.contains a|none=>false
noncomputable def qB(v:V):Bool:=!Nat.beq v.ctorIdx 11
def getAttrA(C:Cx)(o:V)(a:Str):M V:=match o with
|.ref k=>do
 match ←hget k with
 |.inst c fs=>match fs.lookup a with
  |some v=>if pe C c a&&qB v then pure v else M.fail
  |none=>match (C.gh.lookup c).bind fun d=>d.meths.lookup a with |some f=>pure (.bm k f)|none=>M.fail
 |_=>M.fail
|_=>M.fail
def setAttrA(C:Cx)(o:V)(a:Str)(v:V):M Unit:=match o with
|.ref k=>do
 match ←hget k with
 |.inst c fs=>if pe C c a&&sizeOk (fs.length+1) then fQ k (.inst c (aP fs a v)) else M.fail
 |.o_ c fs=>match v with
  |.rO ..=>if a=="read"&&fs.isEmpty then fQ k (.o_ c [(a,v)]) else M.fail
  |_=>M.fail
 |_=>M.fail
|_=>M.fail
def pg(x:Str)(v:V):M V:=fun H=>eg (deref H v) fun vs=>(rW vs).bind fun ys=>bif sizeOk (ys.map (·.length)).sum&&sizeOk (Txt.join x ys).length then some (.str (Txt.join x ys),H) else none
def Ih(x:Str)(v:V):M V:=opt (onStr v fun y=>(rY y).map fun c=>.int (mq c x))
noncomputable def Xo{α:Type}(as:List V)(f:Option α):Option α:=match as with |[]=>f|_=>none
def mC(x:Str)(m:Str)(as:List V):M V:=fun H=>alt (Xo as (if m=="lower"&&x.length==1 then some (.str (Txt.lower x),H) else none)) (k8 as fun v=>(if m=="join"&&x.length==0 then pg x v else if m=="count" then Ih x v else M.fail) H)
def Ii(k:Nat)(xs:List V)(v:V):M V:=if sizeOk (xs.length+1) then(do fQ k (.lst (xs++[v]));pure .none) else M.fail
noncomputable def Ij(k:Nat)(xs:List V)(v:V):M V:=fun H=>aB v fun i=>match xs with |x::r=>bif i==0 then some (x,H.set k (.lst r)) else none|[]=>none
def zJ(i:Int)(n:Nat):Bool:=decide (0≤i)&&decide (i<2^63)&&sizeOk (n+1)
def Ik(k:Nat)(xs:List V)(i v:V):M V:=fun H=>aB i fun i=>bif zJ i xs.length then some (.none,H.set k (.lst (xs.take i.toNat++v::xs.drop i.toNat))) else none
def j5(k:Nat)(m:Str)(as:List V):az→M V|.lst xs=>fun H=>alt (k8 as fun v=>(if m=="append" then Ii k xs v else if m=="pop" then Ij k xs v else M.fail) H) (wq as fun i v=>(if m=="insert" then Ik k xs i v else M.fail) H)|_=>M.fail
def rZ(xs:List V)(m:Str)(as:List V):M V:=fun H=>k8 as fun v=>if m=="count" then(eA v xs).map fun(n:Nat)=>(.int n,H) else if m=="index" then(jy v xs).map fun(n:Nat)=>(.int n,H) else none
noncomputable def r7(kvs:List (Int×Str))(m:Str)(as:List V):M V:=fun H=>k8 as fun v=>aB v fun i=>if m=="get" then some (match kvs.lookup i with |some x=>.str x|none=>.none,H) else none
noncomputable def pn(kvs:List (Str×V))(m:Str)(as:List V):M V:=fun H=>wq as fun v d=>onStr v fun x=>if m=="get" then some ((kvs.lookup x).getD d,H) else none
noncomputable def cL(a:Arguments):Option (List Str):=bif a.posonlyargs.isEmpty&&(a.vararg.isNone&&(a.kwonlyargs.isEmpty&&(a.kw_defaults.isEmpty&&(a.kwarg.isNone&&a.defaults.isEmpty)))) then some (a.args.map (·.arg)) else none
noncomputable def dN(e:Expr):Bool:=Nat.beq e.ctorIdx 16
noncomputable def enumSrc(v:V)(back:Option (Nat×az)):Bool:=(Nat.ble 3 v.ctorIdx&&Nat.ble v.ctorIdx 5)||(Nat.beq v.ctorIdx 8&&back.elim false fun p=>Nat.beq p.2.ctorIdx 1)
inductive Acc where
|l(xs:List V)|d(kvs:List (Str×V))
inductive Out where
|e(x:Expr)|kv(k v:Expr)
noncomputable def Out.start:Out→Acc|.e _=>.l []|.kv _ _=>.d []
def gn(sc au:Scope):Bool:=au.kind==.function&&decide (au.names.map (·.1)).Nodup&&!gK au&&
 au.names.all fun n=>n.2 !=.free||((kindOf sc n.1==some .cell||kindOf sc n.1==some .free)&&n.1 !=Str.ofString "__classdict__")
noncomputable def zK:V→Bool|.rO ..=>true|_=>false
def iL(v:V):M (List V):=match v with
|.mj a b=>pure ((List.range (b-a).toNat).map fun(i:Nat)=>.int (a+(i:Int)))|.aF kvs=>pure (kvs.map fun kv=>.str kv.1)|.lst xs=>pure xs|.ref k=>do
 match ←hget k with |.lst xs=>pure xs|.aF kvs=>pure (kvs.map fun kv=>.str kv.1)|_=>M.fail
|_=>M.fail
def b8(ks xs:List V):Option V:=if xs.length<2 then some (.lst xs) else if decide (xs.length<64)&&sortable ks then
  (runK (sortAns ks) (PySem.W.kas_sort xs.length)).map fun p=>.lst (p.toList.map fun i=>xs.getD i .none)
 else none
def lR(vs:List V):M V:=match vs with
|[v]=>do
 let xs←iL v
 opt (b8 xs xs)
|_=>M.fail
noncomputable def R3(v:Expr):Bool:=by induction v using Expr.casesOn with |Tuple vs _ _=>exact vs.all (constantsAlone 8)&&!vs.all (foldedForSure 8)|_=>exact false
def mD(t v:Expr):Bool:=Nat.beq t.ctorIdx 24||(Nat.beq t.ctorIdx 25&&R3 v)
noncomputable def gq(e:Expr):Bool:=Nat.beq e.ctorIdx 8||(Nat.beq e.ctorIdx 9||Nat.beq e.ctorIdx 10)
noncomputable def isSlice(e:Expr):Bool:=Nat.beq e.ctorIdx 26
noncomputable def isStarred(e:Expr):Bool:=Nat.beq e.ctorIdx 22
def wB(ps:List Str)(sc:Scope)(c7:List (Str×V)):Bool:=c7.all (fun kv=>kindOf sc kv.1==some .free&&kv.1 !=Str.ofString "__classdict__")&&sc.kind==.function&&!sc.isCoroutine&&!sc.isGenerator&&sc.names.all (fun n=>n.2 !=.cell)&&ps.all (fun p=>kindOf sc p==some .local)&&decide (sc.names.map (·.1)).Nodup&&decide ps.Nodup&&!gK sc
set_option tactic.hygienic false
section
variable{β:Type}
noncomputable def aq(f:β→V)(l:List (Str×β)):List (Str×V):=l.map fun kv=>(kv.1,f kv.2)
theorem dX(f:β→V)(l:List (Str×β)):(aq f l).length=l.length:=List.length_map _
theorem j6(f:β→V)(d:List (Str×β))(x:Str)(v:β):aP (aq f d) x (f v)=aq f (aP d x v):=by
 induction d with
 |nil=>rfl|cons p r ih=>
  show(bif x==p.1 then(p.1,f v)::aq f r else(p.1,f p.2)::aP (aq f r) x (f v))=aq f (bif x==p.1 then(p.1,v)::r else p::aP r x v);induction x==p.1 with |true=>rfl|false=>exact congrArg ((p.1,f p.2)::·) ih
theorem fF(f:β→V)(d:List (Str×β))(x:Str):(aq f d).lookup x=(d.lookup x).map f:=by
 induction d with
 |nil=>rfl|cons p r ih=>
  refine List.lookup_cons.trans (.trans ?_ (congrArg (Option.map f) List.lookup_cons.symm));induction x==p.1 with |true=>rfl|false=>exact ih
theorem c8(d:List (Str×β))(x:Str)(v:β)(y:Str):(aP d x v).lookup y=if y==x then some v else d.lookup y:=by
 induction d with
 |nil=>refine List.lookup_cons.trans ?_;induction y==x<;>rfl
 |cons p r ih=>
  refine .trans ?_ (congrArg (ite _ _) List.lookup_cons.symm);show List.lookup y (bif x==p.1 then(p.1,v)::r else p::aP r x v)=_;induction hz:x==p.1 with
  |true=>refine List.lookup_cons.trans ?_;rw[eq_of_beq hz];induction y==p.1<;>rfl
  |false=>
   refine List.lookup_cons.trans ?_;rw[ih];induction hy:y==p.1 with
   |false=>rfl|true=>
    induction h:y==x with |false=>rfl|true=>exact nomatch (eq_of_beq h▸hy).symm.trans hz
theorem cT(d:List (Str×β))(x:Str):d.lookup x=none↔x∉d.map (·.1):=by
 induction d with
 |nil=>exact⟨fun a=>List.not_mem_nil,fun a=>rfl⟩|cons p r ih=>
  rw[List.lookup_cons];induction h:x==p.1 with |true=>exact⟨nofun,fun q=>absurd (eq_of_beq h▸.head _) q⟩|false=>exact ih.trans ⟨fun h1 h2=>(bM h2).elim (ne_of_beq_false h) h1,fun h1 h2=>h1 (.tail _ h2)⟩
theorem r8(d:List (Str×β))(x:Str)(v:β):(aP d x v).map (·.1)=if(d.lookup x).isSome then d.map (·.1) else d.map (·.1)++[x]:=by
 induction d with
 |nil=>rfl|cons p r ih=>
  rw[List.lookup_cons];show List.map (·.1) (bif x==p.1 then(p.1,v)::r else p::aP r x v)=_;induction h:x==p.1 with |true=>rfl|false=>refine(congrArg (p.1::·) ih).trans ?_;induction (r.lookup x).isSome<;>rfl
theorem cC(d:List (Str×β))(x:Str)(v:β):(aP d x v).length≤d.length+1:=by
 induction d with
 |nil=>exact Nat.le_refl _|cons p r ih=>
  show List.length (bif x==p.1 then(p.1,v)::r else p::aP r x v)≤_;induction x==p.1 with |true=>exact Nat.le_succ _|false=>exact Nat.succ_le_succ ih
theorem wC(d:List (Str×β)){x:Str}{v:β}(h:x∉d.map (·.1)):aP d x v=d++[(x,v)]:=by
 induction d with |nil=>rfl|cons p r ih=>show(bif x==p.1 then(p.1,v)::r else p::aP r x v)=_;rw[beq_false_of_ne fun e:x=p.1=>h (List.mem_cons.mpr (.inl e))];exact congrArg (p::·) (ih fun q=>h (.tail _ q))
end
theorem nE{α:Type _}{a:α}{P:Prop}(h:(none:Option α)=some a):P:=nomatch h
theorem bE'{P:Prop}(h:true=false):P:=nomatch h
@[elab_as_elim] theorem hU{α:Type}{a:α}{H:AH}{P:α→AH→Prop}{b:α}{H':AH}(h:(M.ret a) H=some (b,H'))(k:P a H):P b H':=by have h':some (a,H)=some (b,H'):=h;cases h';exact k
@[elab_as_elim] theorem jA{α β:Type}{a:α}{c:β}{H:AH}{P:α→β→AH→Prop}{b:α}{d:β}{H':AH}(h:(M.ret (a,c)) H=some ((b,d),H'))(k:P a c H):P b d H':=by have h':some ((a,c),H)=some ((b,d),H'):=h;cases h';exact k
theorem bH{α β:Type}{m:M α}{f:α→M β}{H H':AH}{b:β}{P:Prop}(h:(M.aL m f) H=some (b,H'))(k:∀a H₁,m H=some (a,H₁)→f a H₁=some (b,H')→P):P:=by
 unfold M.aL at h;cases e:m H with |none=>rw[e] at h;exact nE h|some p=>obtain⟨a,H₁⟩:=p;rw[e] at h;exact k a H₁ e h
theorem Xp{α:Type}{c:Prop}[Decidable c]{m:M α}{H:AH}{r:α×AH}{P:Prop}(h:(if c then(M.fail:M α) else m) H=some r)(k:¬c→m H=some r→P):P:=by
 by_cases hc:c
 ·rw[if_pos hc] at h;exact nE h
 ·rw[if_neg hc] at h;exact k hc h
theorem zL{α:Type}{c:Prop}[Decidable c]{m:M α}{H:AH}{r:α×AH}{P:Prop}(h:(if c then m else(M.fail:M α)) H=some r)(k:c→m H=some r→P):P:=by
 by_cases hc:c
 ·rw[if_pos hc] at h;exact k hc h
 ·rw[if_neg hc] at h;exact nE h
end Mine
end
noncomputable section
open PySem PySem.W PySem.Calls PyProof.Rows
namespace Hd
noncomputable section
noncomputable abbrev pw:Program:=PySem.Challenge.pw_xb0034_04
noncomputable abbrev S(x:String):Str:=Str.ofString x
def st(i:Nat):Stmt:=(pw.main.body[i]?).getD (.Pass default)
noncomputable def R4(s:Stmt):List Stmt:=by induction s using Stmt.casesOn with |ClassDef _ _ _ b _ _ _ _ _ _ _=>exact b|_=>exact []
def cst(i j:Nat):Stmt:=(R4 (st i)).getD j (.Pass default)
noncomputable def fA(s:Stmt):Arguments×List Stmt×Scope:=by induction s using Stmt.casesOn with |FunctionDef _ a b _ _ _ s _ _ _=>exact(a,b,s)|_=>exact(default,[],default)
def fP(s:Stmt):Arguments:=(fA s).1
def fB(s:Stmt):List Stmt:=(fA s).2.1
def fS(s:Stmt):Scope:=(fA s).2.2
def qC:Env:={scope:=pw.main.scope,locals:=mainNs,globals:=mainNs,cells:=[],code:=.ref 13,frame:=some 14}
noncomputable abbrev c0:Code:=.body (behindTheImports pw) qC
noncomputable abbrev sh(h:Heap)(t:Nat)(os:OsState):Shared:=⟨h,#[],boot_drawn,t,os⟩
noncomputable abbrev B0:List Frame:=[topFrame ⟨0,0,0,0⟩]
noncomputable abbrev go(w:World)(n:Nat)(s:Shared)(t:Thread):Option (Shared×Thread):=segGo treeTable pw w 11 (some (.ref 6)) 1 n s t
def Go{α:Type}(w:World)(n:Nat)(s:Shared)(m:Sem α)(s':Shared)(a:α):Prop:=∀(p:Pos),∃p':Pos,∀(K:α→Sem PySem.Fin) (H:Value→Sem PySem.Fin) (gd:Bool→Bool) (lv:List Value→List Value) (N:Nat),go w (n+N) s ⟨Sem.wrap K H gd lv m,c0,p,B0⟩=go w N s' ⟨K a,c0,p',B0⟩
section
variable{α β:Type}{w:World}{s s' MA:Shared}{n m:Nat}{a:α}
theorem Go.pure:Go w 0 s (Sem.pure a) s a:=fun p=>⟨p,fun K H gd lv N=>by rw[Nat.zero_add];rfl⟩
theorem Go.pure':Go w 0 s (Pure.pure a:Sem α) s a:=Go.pure
theorem Go.bind{t:Sem α}{f:α→Sem β}{b:β}(h:Go w n s t s' a)(k:Go w m s' (f a) MA b):Go w (n+m) s (t>>=f) MA b:=fun p=>by obtain⟨p',h⟩:=h p;obtain⟨Gb,k⟩:=k p';refine⟨Gb,fun K H gd lv N=>?_⟩;simp only[Sem.bind_eq_wrap',Sem.wrap_wrap,Nat.add_assoc];exact(h _ _ _ _ _).trans (k K H gd lv N)
theorem Go.keep{vs:List Value}{t:Sem α}(h:Go w n s t s' a):Go w n s (t.keep vs) s' a:=fun p=>by obtain⟨p',h⟩:=h p;refine⟨p',fun K H gd lv N=>?_⟩;simp only[Sem.keep_eq_wrap,Sem.wrap_wrap];exact h _ _ _ _ N
theorem Go.holding{vs:List Value}{t:Sem α}(h:Go w n s t s' a):Go w n s (holding vs t) s' a:=by
 unfold PySem.holding;split
 ·exact h
 ·exact h.keep
theorem Go.onRaise{t:Sem α}{hd:Value→Sem Unit}(h:Go w n s t s' a):Go w n s (t.onRaise hd) s' a:=fun p=>by obtain⟨p',h⟩:=h p;refine⟨p',fun K H gd lv N=>?_⟩;simp only[Sem.onRaise_eq_wrap,Sem.wrap_wrap];exact h _ _ _ _ N
theorem go_succ(n:Nat)(s:Shared)(t:Thread):go w (n+1) s t=match endAt 1 t with |some _=>none|none=>match stepOk 11 (some (.ref 6)) t with |false=>none|true=>match step (denote treeTable) pw w s t with |.go s' t'=>go w n s' t'|.halt _ _=>none:=rfl
theorem Go.rule{tag:String}:Go w 1 s (PySem.rule tag) s ():=fun p=>⟨p,fun K H gd lv N=>by rw[Nat.add_comm];rfl⟩
theorem Go.standAt{q:Pos}:Go w 1 s (standAt q) s ():=fun p=>⟨q,fun K H gd lv N=>by rw[Nat.add_comm];rfl⟩
theorem Go.point:Go w 1 s point s ():=fun p=>⟨p,fun K H gd lv N=>by rw[Nat.add_comm];rfl⟩
theorem Go.ask:Go w 1 s ask s ⟨pw,w.params⟩:=fun p=>⟨p,fun K H gd lv N=>by rw[Nat.add_comm];rfl⟩
theorem Go.fresh{h:Heap}{t:Nat}{os:OsState}:Go w 1 (sh h t os) fresh (sh h (t+1) os) t:=fun p=>⟨p,fun K H gd lv N=>by rw[Nat.add_comm];rfl⟩
theorem Go.alloc{h:Heap}{t:Nat}{os:OsState}{o:Obj}:Go w 1 (sh h t os) (alloc o) (sh (h.push o) t os) h.objs.size:=fun p=>⟨p,fun K H gd lv N=>by rw[Nat.add_comm];rfl⟩
theorem Go.loadPart{h:Heap}{t:Nat}{os:OsState}{b:Addr}{part:Option Value}{o:Obj}(ho:h.get? b=some o):Go w 1 (sh h t os) (loadPart b part) (sh h t os) o:=fun p=>⟨p,fun K H gd lv N=>by rw[Nat.add_comm];show(match step (denote treeTable) pw w (sh h t os) ⟨.load b part (fun x=>Sem.wrap K H gd lv (.pure x)),c0,p,B0⟩ with |.go s' t'=>go w N s' t'|.halt _ _=>none)=_;simp only[step,ho];rfl⟩
theorem Go.updatePart{h:Heap}{t:Nat}{os:OsState}{b:Addr}{part:Option Value}{f:Obj→Obj}{o:Obj}(ho:h.get? b=some o)(hb:Nat.ble 11 b=true):
  Go w 1 (sh h t os) (updatePart b part f) (sh (h.update b f) t os) ():=fun p=>⟨p,fun K H gd lv N=>by
 rw[Nat.add_comm];obtain e:stepOk 11 (some (.ref 6)) ⟨.update b part f (fun x=>Sem.wrap K H gd lv (.pure x)),c0,p,B0⟩=true:=by unfold stepOk;simp only[hb,Bool.true_or,Bool.and_true];rfl
 show(match stepOk 11 (some (.ref 6)) ⟨.update b part f (fun x=>Sem.wrap K H gd lv (.pure x)),c0,p,B0⟩ with |false=>none|true=>match step (denote treeTable) pw w (sh h t os) ⟨.update b part f (fun x=>Sem.wrap K H gd lv (.pure x)),c0,p,B0⟩ with |.go s' t'=>go w N s' t'|.halt _ _=>none)=_
 rw[e];simp only[step,ho,Option.isSome_some,if_true];rfl⟩
theorem Go.cast{t:Sem α}(h:Go w n s t s' a)(e:n=m):Go w m s t s' a:=e▸h
end
theorem DS(w:World):∀(h:Heap) (t:Nat) (os:OsState) (i:Int) (k:Nat) (K:Int→Sem PySem.Fin) (H:Value→Sem PySem.Fin) (gd:Bool→Bool) (lv:List Value→List Value) (N:Nat) (p:Pos),
  go w (N+5) (sh h t os) ⟨Sem.wrap K H gd lv (pyHash (.int i k)),c0,p,B0⟩=go w N (sh h (t+1) os) ⟨Sem.wrap K H gd lv (pyHashByItsType.reduced (rawHash i)),c0,p,B0⟩:=by
 refine byRow2 (P:=fun w=>∀(h:Heap) (t:Nat) (os:OsState) (i:Int) (k:Nat) (K:Int→Sem PySem.Fin) (H:Value→Sem PySem.Fin) (gd:Bool→Bool) (lv:List Value→List Value) (N:Nat) (p:Pos),go w (N+5) (sh h t os) ⟨Sem.wrap K H gd lv (pyHash (.int i k)),c0,p,B0⟩=go w N (sh h (t+1) os) ⟨Sem.wrap K H gd lv (pyHashByItsType.reduced (rawHash i)),c0,p,B0⟩) "special-get-raises" (fun w=>?_) (fun w=>?_) w
 ·intros;kernel_rfl
 ·intros;kernel_rfl
theorem Go.hash{w:World}{h:Heap}{t:Nat}{os:OsState}{i:Int}{k:Nat}(hi:hashInt i=i)(hr:rawHash i=i):Go w 5 (sh h t os) (pyHash (.int i k)) (sh h (t+1) os) i:=fun p=>⟨p,fun K H gd lv N=>by
 rw[Nat.add_comm,DS,hr];obtain R6:=rawHash_range i;rw[hr] at R6;obtain e:pyHashByItsType.reduced i=Pure.pure i:=by
  refine(if_pos (by simp only[decide_eq_true R6.1,decide_eq_true R6.2];rfl)).trans ?_;obtain bV:(i==-1)=false:=by
   unfold hashInt at hi;rw[hr] at hi;cases q:(i==-1) with |false=>rfl|true=>rw[q,if_pos rfl] at hi;rw[←hi] at q;exact absurd q (by decide)
  rw[bV];rfl
 rw[e];rfl⟩
noncomputable abbrev cX(es:Array DictEntry)(n:Nat):Obj:={cls:=.type "dict",data:=.dict es n}
noncomputable def HL(b:Heap)(l:List Obj):Heap:=⟨b.objs++l.toArray,b.life⟩
theorem wD(b:Heap)(l:List Obj)(o:Obj):(HL b l).push o=HL b (l++[o]):=by simp[HL,Heap.push]
theorem wF(b:Heap)(l:List Obj):(HL b l).objs.size=b.objs.size+l.length:=by simp[HL]
theorem j7(b:Heap)(pre post:List Obj)(es:Array DictEntry)(n:Nat):(HL b (pre++cX es n::post)).get? (b.objs.size+pre.length)=some (cX es n):=by
 obtain e:(HL b (pre++cX es n::post)).objs[b.objs.size+pre.length]?=some (cX es n):=by simp[HL,Array.getElem?_append]
 unfold Heap.get?;rw[e]
set_option tactic.hygienic true in
theorem xZ(b:Heap)(pre post:List Obj)(o:Obj)(f:Obj→Obj):(HL b (pre++o::post)).update (b.objs.size+pre.length) f=HL b (pre++f o::post):=by
 obtain⟨os,lf⟩:=b;simp only[HL,Heap.update,Heap.mk.injEq,and_true];apply Array.ext
 ·simp
 ·intro i h1 h2;simp only[Array.getElem_modify,Array.getElem_append,List.getElem_toArray];by_cases hi:i<os.size
  ·have :os.size+pre.length≠i:=by exact Mine.aQ (nat_lit 0x90961021821101102) Mine.ae hi
   simp[hi,this]
  ·simp only[hi,dif_neg,not_false_eq_true];by_cases he:os.size+pre.length=i
   ·subst he;simp
   ·refine(if_neg he).trans ?_;obtain h3:i-os.size≠pre.length:=by lia
    simp only[List.getElem_append,List.getElem_append];split
    ·rfl
    ·rename_i h4;simp only[List.getElem_cons,h3];split
     ·lia
     ·rfl
section
variable{w:World}{t:Nat}{os:OsState}{b:Heap}{pre post:List Obj}{es:Array DictEntry}{n:Nat}
def mG(es:Array DictEntry)(i:Int):Prop:=∀(j:Nat) (e:DictEntry),es[j]?=some e→e.hash≠i
theorem r9{es:Array DictEntry}{i:Int}(hn:mG es i):placesWithHash es.size (fun j=>es[j]?.map DictEntry.hash) i=[]:=by unfold placesWithHash;rw[List.filter_eq_nil_iff];intro j _;simp only[beq_iff_eq,Option.map_eq_some_iff,not_exists,not_and];exact fun e he=>hn j e he
abbrev ff(b:Heap)(l:List Obj)(t:Nat)(os:OsState):Shared:=sh (HL b l) t os
theorem Go.dictEntries{part:Option Value}:Go w 1 (ff b (pre++cX es n::post) t os) (dictEntries (b.objs.size+pre.length) part) (ff b (pre++cX es n::post) t os) es:=by exact(Go.bind (Go.loadPart (j7 ..)) Go.pure':Go w (1+0) _ (PySem.loadPart _ _>>=fun o=>match o.data with |.dict es _=>Pure.pure es|_=>unsupported "internal:not-a-dict") _ _)
theorem Go.dictFind{i:Int}{k:Nat}(hn:mG es i):Go w 1 (ff b (pre++cX es n::post) t os) (dictFind (b.objs.size+pre.length) (.int i k) i) (ff b (pre++cX es n::post) t os) none:=by refine Go.holding ?_;refine(Go.bind Go.dictEntries ?_:Go w (1+0) _ _ _ _);refine(r9 hn)▸?_;exact Go.pure'
theorem Go.mH{part:Option Value}{f:Array DictEntry→Array DictEntry}(hb:Nat.ble 11 (b.objs.size+pre.length)=true)(hz:(f es).size≤sizeLine):
  Go w 3 (ff b (pre++cX es n::post) t os) (updateDictKeys (b.objs.size+pre.length) f part) (ff b (pre++cX (f es) (n+1)::post) t os) ():=by
 refine(Go.bind (Go.loadPart (j7 ..)) ?_:Go w (1+2) _ _ _ _);refine(Go.bind (Go.updatePart (j7 ..) hb) ?_:Go w (1+1) _ _ _ _);rw[xZ];refine(Go.bind (Go.loadPart (j7 ..)) ?_:Go w (1+0) _ _ _ _);have :(Obj.mapDictKeys f (cX es n)).data.pastItsLine=none:=by exact if_neg (Mine.aE (nat_lit 0x909610191811100102) Mine.ae hz)
 have e:(cX (f es) (n+1)).data.pastItsLine=none:=this;refine e▸?_;exact Go.pure'
theorem Go.dictSet{i:Int}{k:Nat}{v:Value}(hi:hashInt i=i)(hr:rawHash i=i)(hn:mG es i)(hb:Nat.ble 11 (b.objs.size+pre.length)=true)(hz:es.size<sizeLine):
  Go w 10 (ff b (pre++cX es n::post) t os) (dictSet (b.objs.size+pre.length) (.int i k) v) (ff b (pre++cX (es.push ⟨i,.int i k,v⟩) (n+1)::post) (t+1) os) ():=by
 refine Go.holding ?_;refine(Go.bind (Go.hash hi hr) ?_:Go w (5+5) _ _ _ _);refine Go.holding ?_;refine(Go.bind (Go.dictFind hn) ?_:Go w (1+4) _ _ _ _);refine(Go.bind Go.rule ?_:Go w (1+3) _ _ _ _);exact Go.mH hb (by rw[Array.size_push];assumption)
theorem Go.dictPut{i:Int}{k:Nat}{v:Value}(hn:mG es i)(hb:Nat.ble 11 (b.objs.size+pre.length)=true)(hz:es.size<sizeLine):
  Go w 4 (ff b (pre++cX es n::post) t os) (dictPut (b.objs.size+pre.length) i (.int i k) v) (ff b (pre++cX (es.push ⟨i,.int i k,v⟩) (n+1)::post) t os) ():=by
 refine(Go.bind (Go.dictFind hn) ?_:Go w (1+3) _ _ _ _);exact Go.mH hb (by rw[Array.size_push];assumption)
end
abbrev E3:=Int×Str
noncomputable def ent(T:Nat)(e:E3):DictEntry:=⟨e.1,.int e.1 T,.str e.2 (T+1)⟩
noncomputable def ents(st:Nat):Nat→List E3→List DictEntry|aK,[]=>[]|T,e::r=>ent T e::ents st (T+st) r
theorem fR(st:Nat):∀(T:Nat) (R:List E3),(ents st T R).length=R.length|aK,[]=>rfl|T,e::r=>by simp[ents,fR st (T+st) r]
theorem eG(st:Nat):∀(T:Nat) (R:List E3),(ents st T R).map DictEntry.hash=R.map (·.1)|aK,[]=>rfl|T,e::r=>by simp[ents,eG st (T+st) r,ent]
theorem h_(st:Nat):∀(T:Nat) (R R':List E3),ents st T (R++R')=ents st T R++ents st (T+st* R.length) R'|aK,[],bA=>by rfl|T,e::r,R'=>by simp only[List.cons_append,ents,h_ st (T+st) r R',List.length_cons];rw[show T+st+st* r.length=T+st* (r.length+1) by rw[Nat.mul_add];exact Mine.aQ (nat_lit 0x11b2808210882510) Mine.ae]
def Dy(e:E3):Prop:=hashInt e.1=e.1∧rawHash e.1=e.1
theorem j8{es:List DictEntry}{i:Int}(h:i∉es.map DictEntry.hash):mG es.toArray i:=fun j e he q=>h (Mine.uq ⟨e,List.mem_of_getElem? (by simpa using he),q⟩)
noncomputable abbrev oN(p:Pos)(e:E3):Sem Value×Sem Value:=(mkInt e.1,do let x←mkText e.2;standAt p;Pure.pure x)
section
variable{w:World}{os:OsState}{b:Heap}{pre post:List Obj}{p:Pos}
abbrev bX(es:List DictEntry):Obj:=cX es.toArray es.length
theorem Go.mkInt{h:Heap}{t:Nat}{i:Int}:Go w 1 (sh h t os) (PySem.mkInt i) (sh h (t+1) os) (.int i t):=by exact Go.bind (n:=1) (m:=0) Go.fresh Go.pure'
theorem Go.mkText{h:Heap}{t:Nat}{x:Str}:Go w 1 (sh h t os) (PySem.mkText x) (sh h (t+1) os) (.str x t):=by unfold PySem.mkText;exact Go.bind (n:=1) (m:=0) Go.fresh Go.pure'
theorem Go.VY{h:Heap}{t:Nat}{e:E3}:Go w 2 (sh h t os) (oN p e).2 (sh h (t+1) os) (.str e.2 t):=by refine Go.bind (n:=1) (m:=1) Go.mkText ?_;exact Go.bind (n:=1) (m:=0) Go.standAt Go.pure'
theorem Go.uw{α:Type}{s:Shared}{f:α→PUnit→Sem (ForInStep PUnit)}:Go w 0 s (forIn [] PUnit.unit f) s PUnit.unit:=by exact Go.pure'
theorem Go.qD{α:Type}{s s' MA:Shared}{n m:Nat}{x:α}{l:List α}{f:α→PUnit→Sem (ForInStep PUnit)}(h:Go w n s (f x PUnit.unit) s' (.yield PUnit.unit))(k:Go w m s' (forIn l PUnit.unit f) MA PUnit.unit):
  Go w (n+m) s (forIn (x::l) PUnit.unit f) MA PUnit.unit:=by
 rw[List.forIn_cons];exact Go.bind h k
theorem Go.r_{d:Addr}(Il:d=b.objs.size+pre.length)(f:Sem Value×Sem Value→PUnit→Sem (ForInStep PUnit))
  (hf:∀kv u,f kv u=(do let k←kv.1;let v←PySem.holding [k] kv.2;PySem.holding [k,v] (PySem.dictSet d k v);Pure.pure (.yield PUnit.unit)))(hb:Nat.ble 11 d=true):
  ∀(R:List E3) (es:List DictEntry) (T:Nat),(∀e∈R,Dy e)→(es.map DictEntry.hash++R.map (·.1)).Nodup→es.length+R.length<sizeLine→Go w (13* R.length) (ff b (pre++bX es::post) T os) (forIn (R.map (oN p)) PUnit.unit f) (ff b (pre++bX (es++ents 3 T R)::post) (T+3* R.length) os) PUnit.unit
 |[],es,T,aK,bA,gI=>by simp only[List.map_nil,ents,List.append_nil,List.length_nil,Nat.mul_zero,Nat.add_zero];exact Go.uw|e::R,es,T,gr,iV,hsz=>by
  subst Il;obtain hn:e.1∉es.map DictEntry.hash:=by exact fun q=>(Mine.ja iV).2.2 _ q _ List.mem_cons_self rfl
  obtain ih:=Go.r_ rfl f hf hb R (es++[ent T e]) (T+3) (fun x hx=>gr x (List.mem_cons_of_mem _ hx)) (by simpa [ent] using iV) (by simp only[List.length_append,List.length_cons,List.length_nil] at hsz⊢;exact Mine.aQ (nat_lit 0x21190980881121918081101) Mine.ae hsz);obtain one:Go w 13 (ff b (pre++bX es::post) T os) (f (oN p e) PUnit.unit) (ff b (pre++bX (es++[ent T e])::post) (T+3) os) (.yield PUnit.unit):=by
   rw[hf];refine Go.bind (n:=1) (m:=12) Go.mkInt ?_;refine Go.bind (n:=2) (m:=10) (Go.holding Go.VY) ?_;refine Go.bind (n:=10) (m:=0) (Go.holding (Go.dictSet (gr e List.mem_cons_self).1 (gr e List.mem_cons_self).2 (j8 hn) hb (by simp only[List.size_toArray,List.length_cons] at hsz⊢;exact Mine.aQ (nat_lit 0x201121918081101) Mine.ae hsz))) ?_;obtain q:cX (es.toArray.push ⟨e.1,.int e.1 T,.str e.2 (T+1)⟩) (es.length+1)=bX (es++[ent T e]):=by simp[bX,ent]
   rw[q];exact Go.pure'
  obtain this:=Go.qD one ih
  rw[show 13+13* R.length=13* (e::R).length by simp only[List.length_cons];exact Mine.aV (nat_lit 0x1908da0dad982510) Mine.ae,show T+3+3* R.length=T+3* (e::R).length by simp only[List.length_cons];exact Mine.aE (nat_lit 0x19183a0813a390882510) Mine.ae,
   show es++[ent T e]++ents 3 (T+3) R=es++ents 3 T (e::R) by simp[ents]] at this
  exact this
theorem Go.wG{l:List Obj}{T:Nat}{R:List E3}(hlen:15<R.length)(gr:∀e∈R,Dy e)(iV:(R.map (·.1)).Nodup)(hsz:R.length<sizeLine)(hb:Nat.ble 11 (b.objs.size+l.length)=true):
  Go w (2+13* R.length) (ff b l T os) (subDict (R.map (oN p))) (ff b (l++[bX (ents 3 T R)]) (T+3* R.length) os) (b.objs.size+l.length):=by
 obtain ha:=Go.alloc (w:=w) (h:=HL b l) (t:=T) (os:=os) (o:={cls:=.type "dict",data:=.dict #[]});rw[wD,wF] at ha;refine(Go.bind ha ?_:Go w (1+(1+13* R.length)) _ _ _ _).cast (Mine.aV (nat_lit 0xda2980da1981982510) Mine.ae);refine Go.bind (n:=1+13* R.length) (m:=0) (a:=()) (Go.holding ?_) Go.pure';rw[if_neg (by rw[List.length_map];exact Mine.aV (nat_lit 0x90961f90010f91102) Mine.ae hlen)];refine Go.bind (n:=1) (m:=13* R.length) Go.rule ?_;refine Go.bind (n:=13* R.length) (m:=0) (a:=PUnit.unit) ?_ Go.pure';obtain this:=Go.r_ (w:=w) (os:=os) (b:=b) (pre:=l) (post:=[]) (p:=p) rfl _ (fun c c=>rfl) hb R [] T gr (by exact iV) (by simp_all);exact this
end
section
variable{w:World}{os:OsState}{b:Heap}{pre post:List Obj}{p:Pos}
theorem Go.evalPairs:∀(R:List E3) (h:Heap) (T:Nat),Go w (3* R.length) (sh h T os) (PySem.evalPairs (R.map (oN p))) (sh h (T+2* R.length) os) ((ents 2 T R).map fun e=>(e.key,e.val))|[],h,T=>by exact Go.pure'|e::R,h,T=>by obtain ih:=Go.evalPairs R h (T+2);obtain ih:=(show T+2+2* R.length=T+2* (e::R).length by simp only[List.length_cons];exact Mine.aE (nat_lit 0x19182a0812a290882510) Mine.ae)▸ih;refine(Go.bind (n:=1) (m:=2+3* R.length) Go.mkInt ?_).cast (by simp only[List.length_cons];exact Mine.aV (nat_lit 0x19083a03a2981982510) Mine.ae);refine Go.bind (n:=2) (m:=3* R.length) (Go.holding Go.VY) ?_;refine Go.bind (n:=3* R.length) (m:=0) (Go.holding ih) ?_;exact Go.pure'
theorem Go.pq{d:Addr}(Il:d=b.objs.size+pre.length)(f:Value×Value→PUnit→Sem (ForInStep PUnit))
  (hf:∀kv u,f kv u=(do PySem.dictSet d kv.1 kv.2;Pure.pure (.yield PUnit.unit)))(hb:Nat.ble 11 d=true):
  ∀(R:List E3) (es:List DictEntry) (T T':Nat),(∀e∈R,Dy e)→(es.map DictEntry.hash++R.map (·.1)).Nodup→es.length+R.length<sizeLine→Go w (10* R.length) (ff b (pre++bX es::post) T os) (forIn ((ents 2 T' R).map fun e=>(e.key,e.val)) PUnit.unit f) (ff b (pre++bX (es++ents 2 T' R)::post) (T+R.length) os) PUnit.unit
 |[],es,T,T',aK,bA,gI=>by simp only[List.map_nil,ents,List.append_nil,List.length_nil,Nat.mul_zero,Nat.add_zero];exact Go.uw|e::R,es,T,T',gr,iV,hsz=>by
  subst Il;obtain hn:e.1∉es.map DictEntry.hash:=by exact fun q=>(Mine.ja iV).2.2 _ q _ List.mem_cons_self rfl
  obtain ih:=Go.pq rfl f hf hb R (es++[ent T' e]) (T+1) (T'+2) (fun x hx=>gr x (List.mem_cons_of_mem _ hx)) (by simpa [ent] using iV) (by simp only[List.length_append,List.length_cons,List.length_nil] at hsz⊢;exact Mine.aQ (nat_lit 0x21190980881121918081101) Mine.ae hsz);obtain one:Go w 10 (ff b (pre++bX es::post) T os) (f (.int e.1 T',.str e.2 (T'+1)) PUnit.unit) (ff b (pre++bX (es++[ent T' e])::post) (T+1) os) (.yield PUnit.unit):=by
   rw[hf];refine Go.bind (n:=10) (m:=0) (Go.dictSet (gr e List.mem_cons_self).1 (gr e List.mem_cons_self).2 (j8 hn) hb (by simp only[List.size_toArray,List.length_cons] at hsz⊢;exact Mine.aQ (nat_lit 0x201121918081101) Mine.ae hsz)) ?_;obtain q:cX (es.toArray.push ⟨e.1,.int e.1 T',.str e.2 (T'+1)⟩) (es.length+1)=bX (es++[ent T' e]):=by simp[bX,ent]
   rw[q];exact Go.pure'
  obtain this:=Go.qD one ih
  rw[show 10+10* R.length=10* (e::R).length by simp only[List.length_cons];exact Mine.aV (nat_lit 0x1908aa0aaa982510) Mine.ae,show T+1+R.length=T+(e::R).length by simp only[List.length_cons];exact Mine.aE (nat_lit 0x1918081190882510) Mine.ae,
   show es++[ent T' e]++ents 2 (T'+2) R=es++ents 2 T' (e::R) by simp[ents]] at this
  exact this
theorem Go.zM{l:List Obj}{T:Nat}{R:List E3}(hlen:R.length≤15)(gr:∀e∈R,Dy e)(iV:(R.map (·.1)).Nodup)(hb:Nat.ble 11 (b.objs.size+l.length)=true):
  Go w (1+13* R.length) (ff b l T os) (subDict (R.map (oN p))) (ff b (l++[bX (ents 2 T R)]) (T+3* R.length) os) (b.objs.size+l.length):=by
 have ha:=Go.alloc (w:=w) (h:=HL b l) (t:=T) (os:=os) (o:={cls:=.type "dict",data:=.dict #[]});rw[wD,wF] at ha;refine(Go.bind (n:=1) (m:=13* R.length) ha ?_);rw[show 13* R.length=(3* R.length+10* R.length)+0 by exact Mine.aV (nat_lit 0x90aa03a880da2510) Mine.ae];refine Go.bind (n:=3* R.length+10* R.length) (m:=0) (a:=()) (Go.holding ?_) Go.pure';rw[if_pos (by rw[List.length_map];omega)];refine Go.bind (n:=3* R.length) (m:=10* R.length) (Go.evalPairs R _ _) (Go.holding ?_);refine Go.bind (n:=10* R.length) (m:=0) (a:=PUnit.unit) ?_ Go.pure';obtain this:=Go.pq (w:=w) (os:=os) (b:=b) (pre:=l) (post:=[]) rfl _ (fun c c=>rfl) hb R [] (T+2* R.length) T gr (by exact iV) (by simp only[List.length_nil];unfold sizeLine;exact Mine.aV (nat_lit 0x10000007f009811f900101) Mine.ae hlen);simp only[show T+2* R.length+R.length=T+3* R.length by exact Mine.aE (nat_lit 0x13a08112a0882510) Mine.ae] at this;exact this
theorem MB:mroOf (.type "dict")=(Pure.pure [.type "dict",.type "object"]:Sem (List Value)):=by kernel_rfl
theorem x6:typeLookup (.type "dict") "__iter__"=(Pure.pure (some (.builtin "dict.__iter__")):Sem (Option Value)):=by kernel_rfl
theorem Go.pA{d a:Addr}{subs:List Obj}{ss:List DictEntry}(hd:d=b.objs.size+0)(ha:a=b.objs.size+(subs.length+1))(hb:Nat.ble 11 d=true){T:Nat}
  (f:Nat→PUnit→Sem (ForInStep PUnit))
  (hf:∀(m:List DictEntry) (i:Nat) (e:DictEntry),ss[i]?=some e→e.hash∉m.map DictEntry.hash→(∃i k,e.key=.int i k∧e.hash=i)→m.length<sizeLine→Go w 6 (ff b (bX m::(subs++[bX ss])) T os) (f i PUnit.unit) (ff b (bX (m++[e])::(subs++[bX ss])) T os) (.yield PUnit.unit)):
  ∀(n i:Nat) (m:List DictEntry),i+n=ss.length→(∀e∈ss,∃i k,e.key=.int i k∧e.hash=i)→(m.map DictEntry.hash++(ss.drop i).map DictEntry.hash).Nodup→m.length+n<sizeLine→Go w (6* n) (ff b (bX m::(subs++[bX ss])) T os) (forIn (List.range' i n) PUnit.unit f) (ff b (bX (m++ss.drop i)::(subs++[bX ss])) T os) PUnit.unit
 |0,i,m,hi,aK,bA,gI=>by rw[List.drop_eq_nil_of_le (by exact Mine.aE (nat_lit 17665352020225) Mine.ae hi),List.append_nil];exact Go.uw|n+1,i,m,hi,hk,iV,hsz=>by
  obtain bL:i<ss.length:=by exact Mine.aQ (nat_lit 0x201121918082101) Mine.ae hi
  obtain hg:ss[i]?=some ss[i]:=List.getElem?_eq_getElem bL;rw[List.drop_eq_getElem_cons bL,List.map_cons] at iV;obtain h1:ss[i].hash∉m.map DictEntry.hash:=fun q=>(Mine.ja iV).2.2 _ q _ List.mem_cons_self rfl
  obtain ih:=Go.pA hd ha hb f hf n (i+1) (m++[ss[i]]) (Mine.aQ (nat_lit 0x21190882521918082511) Mine.ae hi) hk (by simp_all) (by simp only[List.length_append,List.length_cons,List.length_nil];exact Mine.aQ (nat_lit 0x21190980881121918081101) Mine.ae hsz);obtain this:=Go.qD (hf m i _ hg h1 (hk _ (List.getElem_mem bL)) (Mine.aQ (nat_lit 0x201121918081101) Mine.ae hsz)) ih;rw[show 6+6* n=6* (n+1) by exact Mine.aV (nat_lit 0x19086a06a6982510) Mine.ae] at this;rw[List.range'_succ];simpa using this
end
section
variable{w:World}{os:OsState}{b:Heap}{p:Pos}
theorem Go.dictEpoch{h:Heap}{t:Nat}{d:Addr}{part:Option Value}{es:Array DictEntry}{n:Nat}(ho:h.get? d=some (cX es n)):Go w 1 (sh h t os) (dictEpoch d part) (sh h t os) n:=by exact Go.bind (n:=1) (m:=0) (Go.loadPart ho) Go.pure'
theorem Go.fG{h:Heap}{t:Nat}{d:Addr}{part:Option Value}{es:Array DictEntry}{n:Nat}(ho:h.get? d=some (cX es n)):Go w 1 (sh h t os) (PySem.dictEntries d part) (sh h t os) es:=by exact Go.bind (n:=1) (m:=0) (Go.loadPart ho) Go.pure'
theorem Go.merge{subs:List Obj}{m ss:List DictEntry}{T:Nat}(hb:Nat.ble 11 b.objs.size=true)(hm:m≠[])(hk:∀e∈ss,∃i k,e.key=.int i k∧e.hash=i)(iV:(m.map DictEntry.hash++ss.map DictEntry.hash).Nodup)
  (hsz:m.length+ss.length<sizeLine):
  Go w (5+6* ss.length) (ff b (bX m::(subs++[bX ss])) T os) (mergeMapping b.objs.size (.ref (b.objs.size+(subs.length+1))) false) (ff b (bX (m++ss)::(subs++[bX ss])) T os) ():=by
 have hA:∀m',(HL b (bX m'::(subs++[bX ss]))).get? (b.objs.size+(subs.length+1))=some (bX ss):=fun m'=>j7 b (bX m'::subs) [] ss.toArray ss.length
 obtain hM:∀m',(HL b (bX m'::(subs++[bX ss]))).get? b.objs.size=some (bX m'):=fun m'=>j7 b [] (subs++[bX ss]) m'.toArray m'.length
 obtain h1:¬(b.objs.size+(subs.length+1)==sysModules)=true:=by obtain this:=Nat.le_of_ble_eq_true hb;simp only[sysModules,beq_iff_eq];exact Mine.aE (nat_lit 0x9096119191808210b90102) Mine.ae this
 obtain hI:Go w 1 (ff b (bX m::(subs++[bX ss])) T os) (isInstance (.ref (b.objs.size+(subs.length+1))) (.type "dict")) (ff b (bX m::(subs++[bX ss])) T os) true:=by unfold isInstance typeOf isSubtype;refine Go.bind (n:=1) (m:=0) (a:=.type "dict") (Go.bind (n:=1) (m:=0) (Go.loadPart (hA m)) Go.pure') ?_;exact Go.bind (n:=0) (m:=0) Go.pure' Go.pure'
 have hS:Go w 1 (ff b (bX m::(subs++[bX ss])) T os) (specialOf (.ref (b.objs.size+(subs.length+1))) "__iter__") (ff b (bX m::(subs++[bX ss])) T os) (some (.builtin "dict.__iter__")):=by refine Go.bind (n:=1) (m:=0) (a:=.type "dict") (Go.bind (n:=1) (m:=0) (Go.loadPart (hA m)) Go.pure') ?_;exact Go.pure'
 refine(Go.bind (n:=1) (m:=4+6* ss.length) (a:=true) hI ?_).cast (by exact Mine.aV (nat_lit 0x6a59806a4981982510) Mine.ae);refine(Go.bind (n:=1) (m:=3+6* ss.length) hS ?_).cast (by exact Mine.aV (nat_lit 0x6a49806a3981982510) Mine.ae);rw[show(some (Value.builtin "dict.__iter__")==some (Value.builtin "dict.__iter__"))=true by kernel_rfl];refine(Go.bind (n:=0) (m:=3+6* ss.length) Go.pure' ?_).cast (by exact Mine.aV (nat_lit 0x6a39806a3980982510) Mine.ae);dsimp only;rw[if_neg h1];refine(Go.bind (n:=1) (m:=2+6* ss.length) (Go.fG (hM m)) ?_).cast (by exact Mine.aV (nat_lit 0x6a39806a2981982510) Mine.ae);have h2:¬(m.toArray.isEmpty=true):=by simpa using hm
 rw[if_neg h2];refine(Go.bind (n:=1) (m:=1+6* ss.length) (Go.fG (hA m)) ?_).cast (by exact Mine.aV (nat_lit 0x6a29806a1981982510) Mine.ae);refine(Go.bind (n:=1) (m:=6* ss.length) (Go.dictEpoch (hA m)) ?_).cast (by exact Mine.aV (nat_lit 0x6a19806a1982510) Mine.ae);refine(Go.bind (n:=6* ss.length) (m:=0) (a:=PUnit.unit) ?_ Go.pure').cast (by exact Mine.aV (nat_lit 0x6a0906a82510) Mine.ae);rw[List.range_eq_range',List.size_toArray,show m++ss=m++ss.drop 0 by simp];refine Go.pA (w:=w) (os:=os) (b:=b) (subs:=subs) (ss:=ss) (d:=b.objs.size) (a:=b.objs.size+(subs.length+1)) rfl rfl hb (T:=T) _ (fun m' i e he hn gV hs=>?_) ss.length 0 m (Mine.aV (nat_lit 9970960) Mine.ae) hk (by simpa using iV) hsz;have hh:ss.toArray[i]?=some e:=by simpa using he
 refine(Go.bind (n:=1) (m:=5) (Go.fG (hA m')) ?_);rw[hh];obtain⟨ki,kt,h3,h4⟩:=gV;refine(Go.bind (n:=4) (m:=1) (a:=()) (s':=ff b (bX (m'++[e])::(subs++[bX ss])) T os) (Go.holding ?_) ?_)
 ·rw[if_neg Bool.false_ne_true,h3,h4];have :=Go.dictPut (w:=w) (t:=T) (os:=os) (b:=b) (pre:=[]) (post:=subs++[bX ss]) (es:=m'.toArray) (n:=m'.length) (i:=ki) (k:=kt) (v:=e.val) (j8 (by rw[←h4];exact hn)) hb (by simpa using hs);have q:cX (m'.toArray.push ⟨ki,.int ki kt,e.val⟩) (m'.length+1)=bX (m'++[e]):=by obtain⟨hh,ke,va⟩:=e;dsimp only at h3 h4;subst h3 h4;simp[bX]
  rw[q] at this;exact this
 ·refine(Go.bind (n:=1) (m:=0) (Go.dictEpoch (hA _)) ?_);rw[if_neg (by simp)];exact Go.pure'
end
abbrev RS:=Option Addr×List (Sem Value×Sem Value)
abbrev x7(p:Pos)(e:E3):Option (Sem Value)×Sem Value:=(some (oN p e).1,(oN p e).2)
noncomputable def ia(run:List (Sem Value×Sem Value))(main:Option Addr):Sem (Option Addr):=
 if run.isEmpty=true then Pure.pure main
 else match main with
  |none=>do
   let a←subDict run
   Pure.pure (some a)
  |some d=>do
   let sub←PySem.holding [Value.ref d] (subDict run)
   (PySem.holding [Value.ref d,Value.ref sub] (mergeMapping d (Value.ref sub) false)).onRaise fun(x:Value)=>do
     let _←PySem.holding [Value.ref d,x] (runValue (Code.builtin "proto.let_go" {}))
     Pure.pure ()
   Pure.pure (some d)
noncomputable def subsOf:Nat→Nat→List E3→List Obj|0,aK,bA=>[]|j+1,T,L=>bX (ents 3 T (L.take 17))::subsOf j (T+51) (L.drop 17)
section
variable{w:World}{os:OsState}{b:Heap}{p:Pos}{f:(Option (Sem Value)×Sem Value)→RS→Sem (ForInStep RS)}
def wH(p:Pos)(f:(Option (Sem Value)×Sem Value)→RS→Sem (ForInStep RS)):Prop:=∀e m r,f (x7 p e) (m,r)=if((r++[oN p e]).length==17)=true then(ia (r++[oN p e]) m>>=fun m'=>Pure.pure (.yield (m',[]))) else Pure.pure (.yield (m,r++[oN p e]))
theorem mJ(hf:wH p f):∀(X:List E3) (r:List (Sem Value×Sem Value)) (m:Option Addr) (rest:List (Option (Sem Value)×Sem Value)),r.length+X.length<17→
  forIn (X.map (x7 p)++rest) (m,r) f=forIn rest (m,r++X.map (oN p)) f
 |[],r,m,rest,aK=>by simp |e::X,r,m,rest,h=>by rw[List.map_cons,List.cons_append,List.forIn_cons,hf,if_neg (by simp only[List.length_append,List.length_cons,List.length_nil,beq_iff_eq] at h⊢;exact Mine.aE (nat_lit 0x9096111e19098083111e1918081102) Mine.ae h),pure_bind];simp only;rw[mJ hf X (r++[oN p e]) m rest (by simp only[List.length_append,List.length_cons,List.length_nil] at h⊢;exact Mine.aE (nat_lit 0x11e1190980881111e1918081101) Mine.ae h)];simp
theorem mK(hf:wH p f)(X:List E3)(m:Option Addr)(rest:List (Option (Sem Value)×Sem Value))(h:X.length=17):
  forIn (X.map (x7 p)++rest) (m,[]) f=ia (X.map (oN p)) m>>=fun m'=>forIn rest (m',[]) f:=by
 obtain⟨X',e,rfl⟩:∃X' e,X=X'++[e]:=⟨X.dropLast,X.getLast (by intro q;subst q;exact nomatch h),(List.dropLast_concat_getLast _).symm⟩;obtain h':X'.length=16:=by simpa using h
 rw[List.map_append,List.append_assoc,mJ hf X' [] m _ (by simp only[List.length_nil];exact Mine.aV (nat_lit 0x11e00981110e02101) Mine.ae h')];simp only[List.map_cons,List.map_nil,List.cons_append,List.nil_append];rw[List.forIn_cons,hf,if_pos (by simp_all)];simp only[bind_assoc,pure_bind,List.map_append,List.map_cons,List.map_nil]
theorem mL(st:Nat):∀(T:Nat) (R:List E3),∀e∈ents st T R,∃i k,e.key=.int i k∧e.hash=i
|aK,[],bA,h=>by cases h
|T,x::r,e,h=>by
 rcases Mine.bM h with rfl|h
 ·exact⟨_,_,rfl,rfl⟩
 ·exact mL st (T+st) r e h
theorem Go.flush{m:List DictEntry}{subs:List Obj}{T:Nat}{X:List E3}{se:List DictEntry}{n:Nat}(hb:Nat.ble 11 b.objs.size=true)(hX:X≠[])(hm:m≠[])
  (MC:Go w n (ff b (bX m::subs) T os) (subDict (X.map (oN p))) (ff b (bX m::subs++[bX se]) (T+3* X.length) os) (b.objs.size+(bX m::subs).length))
  (VZ:se.map DictEntry.hash=X.map (·.1))(hk:∀e∈se,∃i k,e.key=.int i k∧e.hash=i)(iV:(m.map DictEntry.hash++X.map (·.1)).Nodup)(hsz:m.length+X.length<sizeLine):
  Go w (n+(5+6* X.length)) (ff b (bX m::subs) T os) (ia (X.map (oN p)) (some b.objs.size)) (ff b (bX (m++se)::(subs++[bX se])) (T+3* X.length) os) (some b.objs.size):=by
 obtain hl:se.length=X.length:=by obtain this:=congrArg List.length VZ;simpa using this
 unfold ia;rw[if_neg (by simpa using hX)];refine Go.bind (Go.holding MC) ?_;refine Go.bind (n:=5+6* X.length) (m:=0) (a:=()) (Go.onRaise (Go.holding ?_)) Go.pure';refine hl▸?_;exact Go.merge hb hm hk (by exact VZ▸(iV)) (by refine hl▸?_;exact hsz)
theorem sd{a n:Nat}(h:Nat.ble 11 a=true):Nat.ble 11 (a+n)=true:=Nat.ble_eq_true_of_le (Nat.le_trans (Nat.le_of_ble_eq_true h) (Nat.le_add_right _ _))
theorem Go.DT{m:List DictEntry}{subs:List Obj}{T:Nat}{X:List E3}(hb:Nat.ble 11 b.objs.size=true)(hX:X.length=17)(hm:m≠[])(gr:∀e∈X,Dy e)(iV:(m.map DictEntry.hash++X.map (·.1)).Nodup)(hsz:m.length+X.length<sizeLine):
  Go w 330 (ff b (bX m::subs) T os) (ia (X.map (oN p)) (some b.objs.size)) (ff b (bX (m++ents 3 T X)::(subs++[bX (ents 3 T X)])) (T+51) os) (some b.objs.size):=by
 obtain hs:=Go.wG (w:=w) (os:=os) (b:=b) (p:=p) (l:=bX m::subs) (T:=T) (R:=X) (Mine.aV (nat_lit 0xf91111e03101) Mine.ae hX) gr (Mine.ja iV).2.1 (Mine.aQ (nat_lit 36357452337409) Mine.ae hsz) (sd hb);obtain this:=Go.flush (m:=m) (subs:=subs) (X:=X) hb (by intro q;rw[q] at hX;exact nomatch hX) hm hs (eG ..) (mL _ _ _) iV hsz;obtain this:=hX▸this;exact this
theorem Go.x8{m:List DictEntry}{subs:List Obj}{T:Nat}{X:List E3}(hb:Nat.ble 11 b.objs.size=true)(hX:X.length≤15)(Xq:X≠[])(hm:m≠[])(gr:∀e∈X,Dy e)(iV:(m.map DictEntry.hash++X.map (·.1)).Nodup)(hsz:m.length+X.length<sizeLine):
  Go w (1+13* X.length+(5+6* X.length)) (ff b (bX m::subs) T os) (ia (X.map (oN p)) (some b.objs.size)) (ff b (bX (m++ents 2 T X)::(subs++[bX (ents 2 T X)])) (T+3* X.length) os) (some b.objs.size):=by
 obtain hs:=Go.zM (w:=w) (os:=os) (b:=b) (p:=p) (l:=bX m::subs) (T:=T) (R:=X) hX gr (Mine.ja iV).2.1 (sd hb);exact Go.flush (m:=m) (subs:=subs) (X:=X) hb Xq hm hs (eG ..) (mL _ _ _) iV hsz
theorem Go.zN(hf:wH p f)(hb:Nat.ble 11 b.objs.size=true):∀(j:Nat) (L:List E3) (m:List DictEntry) (subs:List Obj) (T:Nat),17* j≤L.length→L.length-17* j<17→m≠[]→(∀e∈L,Dy e)→(m.map DictEntry.hash++L.map (·.1)).Nodup→m.length+L.length<sizeLine→
  Go w (330* j) (ff b (bX m::subs) T os) (forIn (L.map (x7 p)) (some b.objs.size,[]) f) (ff b (bX (m++ents 3 T (L.take (17* j)))::(subs++subsOf j T L)) (T+51* j) os) (some b.objs.size,(L.drop (17* j)).map (oN p))
 |0,L,m,subs,T,aK,h2,bA,gI,ux,Gd=>by obtain this:=mJ hf L [] (some b.objs.size) [] (by simp only[List.length_nil];exact Mine.aE (nat_lit 0x11e10981111e011090110a0810102) Mine.ae (Mine.Ln.aN (L.length) (17* 0)) h2);rw[List.append_nil] at this;simp only[this];simp only[List.forIn_nil,Nat.mul_zero,List.take_zero,ents,List.append_nil,subsOf,Nat.add_zero,List.drop_zero,List.nil_append];exact Go.pure'
 |j+1,L,m,subs,T,h1,h2,hm,gr,iV,hsz=>by
  have uy:(L.take 17).length=17:=by rw[List.length_take];omega
  obtain eL:L.map (x7 p)=(L.take 17).map (x7 p)++(L.drop 17).map (x7 p):=by rw[←List.map_append,List.take_append_drop]
  have eN:m.map DictEntry.hash++L.map (·.1)=(m.map DictEntry.hash++(L.take 17).map (·.1))++(L.drop 17).map (·.1):=by rw[List.append_assoc,←List.map_append,List.take_append_drop]
  rw[eN] at iV;obtain Xr:=Go.DT (w:=w) (os:=os) (p:=p) (b:=b) (m:=m) (subs:=subs) (T:=T) hb uy hm (fun e he=>gr e (List.mem_of_mem_take he)) (Mine.ja iV).1 (Mine.uv (nat_lit 0x301811219480110a0132181111e02103) Mine.ae uy hsz h1)
  obtain ih:=Go.zN hf hb j (L.drop 17) (m++ents 3 T (L.take 17)) (subs++[bX (ents 3 T (L.take 17))]) (T+51) (by rw[List.length_drop];exact Mine.aQ (nat_lit 0x200110a0111e28101119080110a0102) Mine.ae h1 (Mine.Ln.aN (L.length) (17))) (by rw[List.length_drop];exact Mine.uv (nat_lit 0x11e11111e01119380110a08201211e4821430110a182104) Mine.ae (Nat.sub_add_cancel (Mine.aQ (nat_lit 0x200110a0111e28101119080110a0102) Mine.ae h1 (Mine.Ln.aN (L.length) (17)):17* j≤L.length-17)) (Nat.sub_add_cancel (Mine.aE (nat_lit 0x111e01119080110a0101) Mine.ae h1:17≤L.length)) (Mine.Ln.aN (L.length) (17* (j+1))) h2) (by simp[hm]) (fun e he=>gr e (List.mem_of_mem_drop he))
   (by rw[List.map_append,eG];exact iV) (by rw[List.length_append,fR,uy,List.length_drop];exact Mine.gS (nat_lit 0x2311e08811111e382121081102) Mine.ae hsz (Nat.sub_add_cancel (Mine.aE (nat_lit 0x111e01119080110a0101) Mine.ae h1:17≤L.length)))
  rw[eL,mK hf _ _ _ uy];obtain this:=Go.bind (f:=fun m'=>forIn ((L.drop 17).map (x7 p)) (m',[]) f) Xr ih;rw[show 330+330* j=330* (j+1) by exact Mine.aV (nat_lit 0x190814a0a014a0a14a3f82510) Mine.ae,show T+51+51* j=T+51* (j+1) by exact Mine.aE (nat_lit 0x19180330a0810330a33e0882510) Mine.ae,List.drop_drop,show 17+17* j=17* (j+1) by exact Mine.aV (nat_lit 0x19080110a00110a11e82510) Mine.ae] at this;obtain e1:m++ents 3 T (L.take 17)++ents 3 (T+51) ((L.drop 17).take (17* j))=m++ents 3 T (L.take (17* (j+1))):=by rw[List.append_assoc,show 17* (j+1)=17+17* j by exact Mine.aV (nat_lit 0x110a11e819080110a2510) Mine.ae,List.take_add,h_,uy]
  rw[e1] at this;simpa [subsOf] using this
end
section
variable{w:World}{os:OsState}{b:Heap}{p:Pos}
theorem R7(b:Heap):HL b []=b:=by rfl
theorem Go.display{j:Nat}{L:List E3}{T:Nat}(hb:Nat.ble 11 b.objs.size=true)(h1:17* (j+1)<L.length)(h2:L.length-17* (j+1)≤15)(gr:∀e∈L,Dy e)(iV:(L.map (·.1)).Nodup)(hsz:L.length<sizeLine):
  Go w (223+330* j+(6+19* (L.length-17* (j+1)))) (sh b T os) (dictDisplay (L.map (x7 p)))
   (sh (HL b (bX (ents 3 T (L.take (17* (j+1)))++ents 2 (T+51* (j+1)) (L.drop (17* (j+1))))::(subsOf j (T+51) (L.drop 17)++[bX (ents 2 (T+51* (j+1)) (L.drop (17* (j+1))))]))) (T+3* L.length) os) (.ref b.objs.size):=by
 have uy:(L.take 17).length=17:=by rw[List.length_take];omega
 have eD:(L.drop (17* (j+1))).length=L.length-17* (j+1):=by rw[List.length_drop]
 obtain eL:L.map (x7 p)=(L.take 17).map (x7 p)++(L.drop 17).map (x7 p):=by rw[←List.map_append,List.take_append_drop]
 obtain eN:L.map (·.1)=(L.take 17).map (·.1)++(L.drop 17).map (·.1):=by rw[←List.map_append,List.take_append_drop]
 obtain hs:=Go.wG (w:=w) (os:=os) (b:=b) (p:=p) (l:=[]) (T:=T) (R:=L.take 17) (Mine.aV (nat_lit 0xf91111e03101) Mine.ae uy) (fun e he=>gr e (List.mem_of_mem_take he)) (by rw[eN] at iV;exact(Mine.ja iV).1) (Mine.gS (nat_lit 0x2011119380110a11211111e02103) Mine.ae uy hsz h1) hb;rw[uy] at hs;unfold ff at hs;obtain Xu:Go w 223 (sh b T os) (ia ((L.take 17).map (oN p)) none) (sh (HL b [bX (ents 3 T (L.take 17))]) (T+51) os) (some b.objs.size):=by unfold ia;rw[if_neg (by rw[List.isEmpty_iff,List.map_eq_nil_iff];intro q;rw[q] at uy;exact nomatch uy)];exact Go.bind (n:=223) (m:=0) hs Go.pure'
 have Xv:((L.take 17).map (·.1)++(L.drop 17).map (·.1)).Nodup:=by rw[←eN];exact iV
 refine Go.bind (n:=223+330* j) (m:=6+19* (L.length-17* (j+1))) (a:=(some b.objs.size,(L.drop (17* (j+1))).map (oN p))) (s':=sh (HL b (bX (ents 3 T (L.take (17* (j+1))))::subsOf j (T+51) (L.drop 17))) (T+51* (j+1)) os) ?_ ?_
 ·rw[eL,mK (p:=p) (by intro e m r;rfl) _ _ _ uy];refine Go.bind (n:=223) (m:=330* j) Xu ?_
  have hc:=fun f (hf:wH p f)=>Go.zN (w:=w) (os:=os) (p:=p) (b:=b) (f:=f) hf hb j (L.drop 17) (ents 3 T (L.take 17)) [] (T+51) (by rw[List.length_drop];exact Mine.aQ (nat_lit 0x200110a0111e28101119080110a1102) Mine.ae h1 (Mine.Ln.aN (L.length) (17))) (by rw[List.length_drop];exact Mine.uv (nat_lit 0x11e111f900119380110a08201211e4821430110a182104) Mine.ae (Nat.sub_add_cancel (Mine.aQ (nat_lit 0x200110a0111e28101119080110a1102) Mine.ae h1 (Mine.Ln.aN (L.length) (17)):17* j≤L.length-17)) (Nat.sub_add_cancel (Mine.aE (nat_lit 0x111e01119080110a1101) Mine.ae h1:17≤L.length)) (Mine.Ln.aN (L.length) (17* (j+1))) h2)
   (by intro q;have :=congrArg List.length q;rw[fR,uy] at this;exact nomatch this) (fun e he=>gr e (List.mem_of_mem_drop he)) (by rw[eG];exact Xv) (by rw[fR,uy,List.length_drop];exact Mine.aQ (nat_lit 0x1211e8111011011e282102) Mine.ae (Nat.sub_add_cancel (Mine.aE (nat_lit 0x111e01119080110a1101) Mine.ae h1:17≤L.length)) hsz)
  have e1:ents 3 T (L.take 17)++ents 3 (T+51) ((L.drop 17).take (17* j))=ents 3 T (L.take (17* (j+1))):=by rw[show 17* (j+1)=17+17* j by exact Mine.aV (nat_lit 0x110a11e819080110a2510) Mine.ae,List.take_add,h_,uy]
  rw[e1,List.drop_drop,show 17+17* j=17* (j+1) by exact Mine.aV (nat_lit 0x19080110a00110a11e82510) Mine.ae,show T+51+51* j=T+51* (j+1) by exact Mine.aE (nat_lit 0x19180330a0810330a33e0882510) Mine.ae,List.nil_append] at hc;exact hc _ (by intro e m r;rfl)
 ·have bV:L.drop (17* (j+1))≠[]:=by intro q;rw[q] at eD;simp only[List.length_nil] at eD;exact Mine.aQ (nat_lit 0x9096119180110a08201219180110a110093103) Mine.ae eD h1 (Mine.Ln.aN (L.length) (17* (j+1)))
  have eT:(L.take (17* (j+1))).length=17* (j+1):=by rw[List.length_take];omega
  obtain hl:=Go.x8 (w:=w) (os:=os) (p:=p) (b:=b) (m:=ents 3 T (L.take (17* (j+1)))) (subs:=subsOf j (T+51) (L.drop 17)) (T:=T+51* (j+1)) (X:=L.drop (17* (j+1))) hb (Mine.aE (nat_lit 0xf9001f9101102102) Mine.ae eD h2) bV
   (by intro q;have :=congrArg List.length q;rw[fR,eT] at this;simp only[List.length_nil] at this;exact Mine.aV (nat_lit 0x909610919080110a2101) Mine.ae this) (fun e he=>gr e (List.mem_of_mem_drop he))
   (by rw[eG,←List.map_append,List.take_append_drop];exact iV) (by rw[fR,eT,eD];exact Mine.gS (nat_lit 0x1319280110a8111011019280110a382102) Mine.ae (Nat.sub_add_cancel (Mine.aE (nat_lit 0x119080110a01119080110a1101) Mine.ae h1:17* (j+1)≤L.length)) hsz)
  rw[eD,show T+51* (j+1)+3* (L.length-17* (j+1))=T+3* L.length by exact Mine.gS (nat_lit 0x33a0823a19180330a0882519180110a2830c319180110a282312) Mine.ae (Nat.sub_add_cancel (Mine.aE (nat_lit 0x119080110a01119080110a1101) Mine.ae h1:17* (j+1)≤L.length)) (Mine.Ln.aN (L.length) (17* (j+1)))] at hl;rw[show 6+19* (L.length-17* (j+1))=1+13* (L.length-17* (j+1))+(5+6* (L.length-17* (j+1)))+0 by exact Mine.aV (nat_lit 0x906a5980da1988800130a6982510) Mine.ae];exact Go.bind hl Go.pure'
end
theorem uz(b:Heap)(l:List Obj){i:Nat}{o:Obj}(h:b.get? i=some o):(HL b l).get? i=some o:=by
 obtain hi:i<b.objs.size:=by
  unfold Heap.get? at h;by_cases q:i<b.objs.size
  ·exact q
  ·rw[Array.getElem?_eq_none (by simp_all)] at h;exact nomatch h
 obtain e:(HL b l).objs[i]?=b.objs[i]?:=by simp[HL,Array.getElem?_append,hi]
 unfold Heap.get? at h⊢;refine e▸?_;exact h
theorem Go.uA{w:World}{h:Heap}{t:Nat}{os:OsState}{part:Option Value}{f:Obj→Obj}{o:Obj}(ho:h.get? mainNs=some o):
  Go w 1 (sh h t os) (PySem.updatePart mainNs part f) (sh (h.update mainNs f) t os) ():=fun p=>⟨p,fun K H gd lv N=>by
 rw[Nat.add_comm];show(match step (denote treeTable) pw w (sh h t os) ⟨.update mainNs part f (fun x=>Sem.wrap K H gd lv (.pure x)),c0,p,B0⟩ with |.go s' t'=>go w N s' t'|.halt _ _=>none)=_;simp only[step,ho,Option.isSome_some,if_true];rfl⟩
theorem Go.x9{w:World}{h:Heap}{t:Nat}{os:OsState}{x:Str}{v:Value}{o:Obj}{es:Array DictEntry}{m:Nat}(ho:h.get? mainNs=some o)(hd:o.data=.dict es m)(hr:aRefKeyMayBeTheName x es=false):
  Go w 4 (sh h t os) (nsSet mainNs x v) (sh (h.update mainNs (Obj.putName x (PyData.keyHash w.params x) (.str x t) v)) (t+1) os) ():=by
 refine Go.bind (n:=1) (m:=3) (a:=PyData.keyHash w.params x) (s':=sh h t os) (Go.bind (n:=1) (m:=0) Go.ask ?_) ?_
 ·exact Go.pure'
 ·refine Go.bind (n:=1) (m:=2) Go.mkText ?_;refine Go.bind (n:=1) (m:=1) (Go.loadPart ho) ?_;refine hd▸?_;dsimp only;refine hr▸?_;exact Go.uA ho
noncomputable def V0(e:Expr):Const:=by induction e using Expr.casesOn with |Constant c _ _=>exact c|_=>exact .none
def Xw(a:Option Expr)(b:Expr):Option E3:=match (a.map V0).getD .none with
|.int i=>match V0 b with |.str x=>some (i,x)|_=>none
|_=>none
noncomputable def Xx(s:Stmt):Expr:=by induction s using Stmt.casesOn with |Assign _ v _=>exact v|_=>exact .Constant .none 0 default
def Xy(e:Expr):List E3:=by induction e using Expr.casesOn with |Dict a b _=>exact(List.zipWith Xw a b).filterMap id|_=>exact []
def e7:List E3:=Xy (Xx (st 10))
def gT(k:Nat):Obj:=bX (ents 3 (398+51* k) ((e7.drop (17* k)).take 17))
def qs(x:String)(t:Nat):Value:=.str (S x) t
noncomputable def qr(a:Nat):Value:=.ref a
noncomputable def qi(n:Nat):Value:=.int n 0
def qk(P:Params)(x:String)(t:Nat)(v:Value):DictEntry:=⟨PyData.keyHash P (S x),.str (S x) t,v⟩
noncomputable def qd(l:List DictEntry)(n:Nat):Obj:={cls:=.type "dict",dict:=none,data:=.dict l.toArray n,slots:=#[]}
noncomputable def qt(l:Array Value):Obj:={cls:=.type "tuple",dict:=none,data:=.seq l 0,slots:=#[]}
noncomputable def qg(c:Value)(l:Array Value):Obj:={cls:=c,dict:=none,data:=.fields l,slots:=#[]}
def qf(c:Value)(q:Stmt)(n m:String)(b:Nat)(doc md cd:Value):Obj:={cls:=c,dict:=none,data:=(.func {name:=S n,qualname:=S m,params:=fP q,body:=.stmts (fB q),scope:=fS q,globals:=b,closure:=[],defaults:=.none,kwdefaults:=.none,doc:=doc,pyModule:=md,annotations:=none,code:=cd,closureTuple:=.none,builtins:=0}),slots:=#[]}
noncomputable def qh(P:Params)(l:List Obj):Heap:=⟨l.toArray,(boot_heap P).life⟩
def e3(P:Params):List DictEntry:=[qk P "__name__" 165 (qs "law_xb0034_04" 2357),qk P "__doc__" 166 .none,qk P "__package__" 167 .none,qk P "__loader__" 168 (.builtin "__main__.__loader__#opaque"),qk P "__spec__" 169 .none,qk P "__annotations__" 170 (qr 6),qk P "__builtins__" 171 (qr 4),qk P "__file__" 173 (qs "/claim/cut.py" 172),qk P "__cached__" 174 .none,qk P "_netrclex" 246 (qr 52),qk P "TupleComp" 290 (qr 80),qk P "add_func_stats" 308 (qr 91),qk P "add_callers" 319 (qr 98),qk P "count_calls" 328 (qr 105),qk P "b1_set" 390 (qr 113),qk P "in_table_b1" 397 (qr 123),qk P "b3_exceptions" 2348 (qr 124),qk P "map_table_b3" 2356 (qr 169),qk P "_law_cells" 2368 (qr 176),qk P "_law_word" 2374 (qr 181),qk P "_law_written" 2389 (qr 188),qk P "_law_lexer" 2402 (qr 195),qk P "_law_same" 2408 (qr 200),qk P "_law_booked" 2414 (qr 205),qk P "_law_due" 2420 (qr 210),qk P "law" 2426 (qr 215)]
def Ge(P:Params):Obj:=qt #[]
def Gf(P:Params):Obj:=qg .none #[]
def Gg(P:Params):Obj:=qg (.type "code") #[qs "<module>" 182,qs "<module>" 183,qs "/claim/cut.py" 184,qi 1,qi 0,qi 0,qi 0,qi 0,qr 11,.bool false,qi 181,qr 12,.none,.none,.none,.none,qi 185,qi 1,qs "/claim/cut.py" 186]
def Gh(P:Params):Obj:={cls:=(.type "frame"),dict:=none,data:=.plain,slots:=#[some (qr 13),some (qr 3),some (qr 3),none,some (qs "__main__" 164),none,some (qr 0)]}
def R8(P:Params):Obj:=qd (qk P "__name__" 165 (qs "cpy313.netrc" 187)::((e3 P).take 9).tail) 9
def R9(P:Params):Obj:=qd (qk P "__name__" 165 (qs "cpy313.netrc" 187)::((e3 P).take 10).tail) 10
def Gi(P:Params):Obj:=qg .none #[qi 2,qi 0,qr 20]
def Gj(P:Params):Obj:=qt #[]
def Gk(P:Params):Obj:=qg (.type "builtin_function_or_method") #[.builtin "type.__prepare__",.type "type"]
def Gm(P:Params):Obj:=qd [qk P "__module__" 196 (qs "cpy313.netrc" 187),qk P "__qualname__" 198 (qs "_netrclex" 197),qk P "__firstlineno__" 200 (.int 2 199),qk P "__init__" 208 (qr 28),qk P "_read_char" 216 (qr 35),qk P "get_token" 226 (qr 42),qk P "push_token" 234 (qr 49),qk P "__static_attributes__" 239 (qr 50)] 8
def Gn(P:Params):Obj:=qt #[]
def MD(P:Params):Obj:=qg .none #[qi 4,qi 4,qr 27,qi 10,qi 4,qr 34,qi 16,qi 4,qr 41,qi 43,qi 4,qr 48]
def Gp(P:Params):Obj:=qg (.type "code") #[qs "_netrclex" 191,qs "_netrclex" 192,qs "/claim/cut.py" 193,qi 2,qi 0,qi 0,qi 0,qi 0,qr 18,.bool false,qi 181,qr 19,.none,.none,.none,.none,qi 194,qi 2,qs "/claim/cut.py" 195]
def Gq(P:Params):Obj:={cls:=(.type "frame"),dict:=none,data:=.plain,slots:=#[some (qr 20),some (qr 3),some (qr 17),none,some (qs "cpy313.netrc" 187),none,some (qr 0)]}
def Gr(P:Params):Obj:=qt #[]
def ME(P:Params):Obj:=qg .none #[]
def Gs(P:Params):Obj:=qt #[qs "self" 204,qs "fp" 205]
def Gu(P:Params):Obj:=qt #[]
def MF(P:Params):Obj:=qf .none (cst 1 0) "__init__" "_netrclex.__init__" 0 .none .none .none
def zO(P:Params):Obj:=qg (.type "code") #[qs "__init__" 201,qs "_netrclex.__init__" 202,qs "/claim/cut.py" 203,qi 4,qi 2,qi 0,qi 0,qi 3,qr 22,.bool true,qi 181,qr 23,.none,qr 24,qr 25,qr 26,qi 206,qi 4,qs "/claim/cut.py" 207]
def zQ(P:Params):Obj:=qf (.type "function") (cst 1 0) "__init__" "_netrclex.__init__" 3 .none (qs "cpy313.netrc" 187) (qr 27)
def Gv(P:Params):Obj:=qt #[]
def MG(P:Params):Obj:=qg .none #[]
def Gw(P:Params):Obj:=qt #[qs "self" 212,qs "ch" 213]
def Gx(P:Params):Obj:=qt #[]
def MH(P:Params):Obj:=qf .none (cst 1 1) "_read_char" "_netrclex._read_char" 0 .none .none .none
def zR(P:Params):Obj:=qg (.type "code") #[qs "_read_char" 209,qs "_netrclex._read_char" 210,qs "/claim/cut.py" 211,qi 10,qi 1,qi 0,qi 0,qi 3,qr 29,.bool true,qi 181,qr 30,.none,qr 31,qr 32,qr 33,qi 214,qi 10,qs "/claim/cut.py" 215]
def zS(P:Params):Obj:=qf (.type "function") (cst 1 1) "_read_char" "_netrclex._read_char" 3 .none (qs "cpy313.netrc" 187) (qr 34)
def Gy(P:Params):Obj:=qt #[]
def MI(P:Params):Obj:=qg .none #[]
def Gz(P:Params):Obj:=qt #[qs "self" 220,qs "token" 221,qs "fiter" 222,qs "ch" 223]
def GA(P:Params):Obj:=qt #[]
def MJ(P:Params):Obj:=qf .none (cst 1 2) "get_token" "_netrclex.get_token" 0 .none .none .none
def zT(P:Params):Obj:=qg (.type "code") #[qs "get_token" 217,qs "_netrclex.get_token" 218,qs "/claim/cut.py" 219,qi 16,qi 1,qi 0,qi 0,qi 3,qr 36,.bool true,qi 181,qr 37,.none,qr 38,qr 39,qr 40,qi 224,qi 16,qs "/claim/cut.py" 225]
def zU(P:Params):Obj:=qf (.type "function") (cst 1 2) "get_token" "_netrclex.get_token" 3 .none (qs "cpy313.netrc" 187) (qr 41)
def GB(P:Params):Obj:=qt #[]
def MK(P:Params):Obj:=qg .none #[]
def GC(P:Params):Obj:=qt #[qs "self" 230,qs "token" 231]
def GD(P:Params):Obj:=qt #[]
def ML(P:Params):Obj:=qf .none (cst 1 3) "push_token" "_netrclex.push_token" 0 .none .none .none
def zV(P:Params):Obj:=qg (.type "code") #[qs "push_token" 227,qs "_netrclex.push_token" 228,qs "/claim/cut.py" 229,qi 43,qi 2,qi 0,qi 0,qi 3,qr 43,.bool true,qi 181,qr 44,.none,qr 45,qr 46,qr 47,qi 232,qi 43,qs "/claim/cut.py" 233]
def zW(P:Params):Obj:=qf (.type "function") (cst 1 3) "push_token" "_netrclex.push_token" 3 .none (qs "cpy313.netrc" 187) (qr 48)
def GF(P:Params):Obj:=qt #[qs "instream" 235,qs "lineno" 236,qs "pushback" 237,qs "whitespace" 238]
def GG(P:Params):Obj:=qd [qk P "__module__" 196 (qs "cpy313.netrc" 187),qk P "__firstlineno__" 200 (.int 2 199),qk P "__init__" 208 (qr 28),qk P "_read_char" 216 (qr 35),qk P "get_token" 226 (qr 42),qk P "push_token" 234 (qr 49),qk P "__static_attributes__" 239 (qr 50),qk P "__dict__" 241 (qr 53),qk P "__weakref__" 243 (qr 54),qk P "__doc__" 244 .none] 4
def zX(P:Params):Obj:={cls:=(.type "type"),dict:=none,data:=(.cls {name:=(S "_netrclex"),bases:=[.type "object"],mro:=[qr 52,.type "object"],ns:=51,qualname:=(S "_netrclex"),hasDict:=true,slotNames:=[],subclasses:=[],abstract:=false,collection:=none,hasDel:=false}),slots:=#[none,none,some (qs "_netrclex" 189),some (qs "_netrclex" 197),some (.builtin "object.__new__"),some (.bool true)]}
def GH(P:Params):Obj:=qg (.type "getset_descriptor") #[qs "__dict__" 240,qr 52,.builtin "function.__dict__",.builtin "function.__dict__#set"]
def GI(P:Params):Obj:=qg (.type "getset_descriptor") #[qs "__weakref__" 242,qr 52,.builtin "ExceptionGroup.__weakref__",.none]
def GJ(P:Params):Obj:=qg (.type "super") #[qr 52,qr 52,qr 52]
def GK(P:Params):Obj:=qg (.type "builtin_function_or_method") #[.builtin "object.__init_subclass__",qr 52]
def R_(P:Params):Obj:=qd (qk P "__name__" 165 (qs "cpy313.pstats" 247)::((e3 P).take 10).tail) 10
def Sa(P:Params):Obj:=qd (qk P "__name__" 165 (qs "cpy313.pstats" 247)::((e3 P).take 11).tail) 11
def MM(P:Params):Obj:=qg .none #[qi 2,qi 0,qr 20,qi 46,qi 0,qr 62]
def GL(P:Params):Obj:=qt #[]
def GN(P:Params):Obj:=qg (.type "builtin_function_or_method") #[.builtin "type.__prepare__",.type "type"]
def GO(P:Params):Obj:=qd [qk P "__module__" 256 (qs "cpy313.pstats" 247),qk P "__qualname__" 258 (qs "TupleComp" 257),qk P "__firstlineno__" 260 (.int 46 259),qk P "__init__" 268 (qr 70),qk P "compare" 281 (qr 77),qk P "__static_attributes__" 283 (qr 78)] 6
def GP(P:Params):Obj:=qt #[]
def MN(P:Params):Obj:=qg .none #[qi 48,qi 4,qr 69,qi 51,qi 4,qr 76]
def GQ(P:Params):Obj:=qg (.type "code") #[qs "TupleComp" 251,qs "TupleComp" 252,qs "/claim/cut.py" 253,qi 46,qi 0,qi 0,qi 0,qi 0,qr 60,.bool false,qi 181,qr 61,.none,.none,.none,.none,qi 254,qi 46,qs "/claim/cut.py" 255]
def GR(P:Params):Obj:={cls:=(.type "frame"),dict:=none,data:=.plain,slots:=#[some (qr 62),some (qr 3),some (qr 59),none,some (qs "cpy313.pstats" 247),none,some (qr 0)]}
def GS(P:Params):Obj:=qt #[]
def MO(P:Params):Obj:=qg .none #[]
def GU(P:Params):Obj:=qt #[qs "self" 264,qs "comp_select_list" 265]
def GV(P:Params):Obj:=qt #[]
def MP(P:Params):Obj:=qf .none (cst 3 0) "__init__" "TupleComp.__init__" 0 .none .none .none
def zY(P:Params):Obj:=qg (.type "code") #[qs "__init__" 261,qs "TupleComp.__init__" 262,qs "/claim/cut.py" 263,qi 48,qi 2,qi 0,qi 0,qi 3,qr 64,.bool true,qi 181,qr 65,.none,qr 66,qr 67,qr 68,qi 266,qi 48,qs "/claim/cut.py" 267]
def zZ(P:Params):Obj:=qf (.type "function") (cst 3 0) "__init__" "TupleComp.__init__" 3 .none (qs "cpy313.pstats" 247) (qr 69)
def GW(P:Params):Obj:=qt #[]
def MQ(P:Params):Obj:=qg .none #[]
def GX(P:Params):Obj:=qt #[qs "self" 272,qs "left" 273,qs "right" 274,qs "index" 275,qs "direction" 276,qs "l" 277,qs "r" 278]
def GY(P:Params):Obj:=qt #[]
def MR(P:Params):Obj:=qf .none (cst 3 1) "compare" "TupleComp.compare" 0 .none .none .none
def z0(P:Params):Obj:=qg (.type "code") #[qs "compare" 269,qs "TupleComp.compare" 270,qs "/claim/cut.py" 271,qi 51,qi 3,qi 0,qi 0,qi 3,qr 71,.bool true,qi 181,qr 72,.none,qr 73,qr 74,qr 75,qi 279,qi 51,qs "/claim/cut.py" 280]
def z3(P:Params):Obj:=qf (.type "function") (cst 3 1) "compare" "TupleComp.compare" 3 .none (qs "cpy313.pstats" 247) (qr 76)
def GZ(P:Params):Obj:=qt #[qs "comp_select_list" 282]
def G0(P:Params):Obj:=qd [qk P "__module__" 256 (qs "cpy313.pstats" 247),qk P "__firstlineno__" 260 (.int 46 259),qk P "__init__" 268 (qr 70),qk P "compare" 281 (qr 77),qk P "__static_attributes__" 283 (qr 78),qk P "__dict__" 285 (qr 81),qk P "__weakref__" 287 (qr 82),qk P "__doc__" 288 .none] 4
def z7(P:Params):Obj:={cls:=(.type "type"),dict:=none,data:=(.cls {name:=(S "TupleComp"),bases:=[.type "object"],mro:=[qr 80,.type "object"],ns:=79,qualname:=(S "TupleComp"),hasDict:=true,slotNames:=[],subclasses:=[],abstract:=false,collection:=none,hasDel:=false}),slots:=#[none,none,some (qs "TupleComp" 249),some (qs "TupleComp" 257),some (.builtin "object.__new__"),some (.bool true)]}
def G1(P:Params):Obj:=qg (.type "getset_descriptor") #[qs "__dict__" 284,qr 80,.builtin "function.__dict__",.builtin "function.__dict__#set"]
def G2(P:Params):Obj:=qg (.type "getset_descriptor") #[qs "__weakref__" 286,qr 80,.builtin "ExceptionGroup.__weakref__",.none]
def G3(P:Params):Obj:=qg (.type "super") #[qr 80,qr 80,qr 80]
def G4(P:Params):Obj:=qg (.type "builtin_function_or_method") #[.builtin "object.__init_subclass__",qr 80]
def Sb(P:Params):Obj:=qd (qk P "__name__" 165 (qs "cpy313.pstats" 247)::((e3 P).take 12).tail) 12
def MS(P:Params):Obj:=qg .none #[qi 2,qi 0,qr 20,qi 46,qi 0,qr 62,qi 60,qi 0,qr 90]
def G5(P:Params):Obj:=qt #[]
def MT(P:Params):Obj:=qg .none #[]
def G6(P:Params):Obj:=qt #[qs "target" 294,qs "source" 295,qs "cc" 296,qs "nc" 297,qs "tt" 298,qs "ct" 299,qs "callers" 300,qs "t_cc" 301,qs "t_nc" 302,qs "t_tt" 303,qs "t_ct" 304,qs "t_callers" 305]
def G7(P:Params):Obj:=qt #[]
def MU(P:Params):Obj:=qf .none (st 4) "add_func_stats" "add_func_stats" 0 .none .none .none
def z8(P:Params):Obj:=qg (.type "code") #[qs "add_func_stats" 291,qs "add_func_stats" 292,qs "/claim/cut.py" 293,qi 60,qi 2,qi 0,qi 0,qi 3,qr 85,.bool true,qi 181,qr 86,.none,qr 87,qr 88,qr 89,qi 306,qi 60,qs "/claim/cut.py" 307]
def z9(P:Params):Obj:=qf (.type "function") (st 4) "add_func_stats" "add_func_stats" 3 .none (qs "cpy313.pstats" 247) (qr 90)
def Sd(P:Params):Obj:=qd (qk P "__name__" 165 (qs "cpy313.pstats" 247)::((e3 P).take 13).tail) 13
def MV(P:Params):Obj:=qg .none #[qi 2,qi 0,qr 20,qi 46,qi 0,qr 62,qi 60,qi 0,qr 90,qi 64,qi 0,qr 97]
def G8(P:Params):Obj:=qt #[]
def MW(P:Params):Obj:=qg .none #[]
def G9(P:Params):Obj:=qt #[qs "target" 312,qs "source" 313,qs "new_callers" 314,qs "func" 315,qs "caller" 316]
def G_(P:Params):Obj:=qt #[]
def MX(P:Params):Obj:=qf .none (st 5) "add_callers" "add_callers" 0 .none .none .none
def z_(P:Params):Obj:=qg (.type "code") #[qs "add_callers" 309,qs "add_callers" 310,qs "/claim/cut.py" 311,qi 64,qi 2,qi 0,qi 0,qi 3,qr 92,.bool true,qi 181,qr 93,.none,qr 94,qr 95,qr 96,qi 317,qi 64,qs "/claim/cut.py" 318]
def Aa(P:Params):Obj:=qf (.type "function") (st 5) "add_callers" "add_callers" 3 .none (qs "cpy313.pstats" 247) (qr 97)
def Se(P:Params):Obj:=qd (qk P "__name__" 165 (qs "cpy313.pstats" 247)::((e3 P).take 14).tail) 14
def Ab(P:Params):Obj:=qg .none #[qi 2,qi 0,qr 20,qi 46,qi 0,qr 62,qi 60,qi 0,qr 90,qi 64,qi 0,qr 97,qi 77,qi 0,qr 104]
def Hg(P:Params):Obj:=qt #[]
def Im(P:Params):Obj:=qg .none #[]
def Ac(P:Params):Obj:=qt #[qs "callers" 323,qs "nc" 324,qs "calls" 325]
def Ad(P:Params):Obj:=qt #[]
def Io(P:Params):Obj:=qf .none (st 6) "count_calls" "count_calls" 0 .none .none .none
def uC(P:Params):Obj:=qg (.type "code") #[qs "count_calls" 320,qs "count_calls" 321,qs "/claim/cut.py" 322,qi 77,qi 1,qi 0,qi 0,qi 3,qr 99,.bool true,qi 181,qr 100,.none,qr 101,qr 102,qr 103,qi 326,qi 77,qs "/claim/cut.py" 327]
def uD(P:Params):Obj:=qf (.type "function") (st 6) "count_calls" "count_calls" 3 .none (qs "cpy313.pstats" 247) (qr 104)
def Sf(P:Params):Obj:=qd (qk P "__name__" 165 (qs "cpy313.stringprep" 329)::((e3 P).take 14).tail) 14
def Sg(P:Params):Obj:=qd (qk P "__name__" 165 (qs "cpy313.stringprep" 329)::((e3 P).take 15).tail) 15
noncomputable def Ae(P:Params):Obj:={cls:=(.type "list"),dict:=none,data:=(.seq #[.int 173 331,.int 847 332,.int 6150 333,.int 6155 334,.int 6156 335,.int 6157 336,.int 8203 337,.int 8204 338,.int 8205 339,.int 8288 340,.int 65279 341] 0),slots:=#[]}
def Af(P:Params):Obj:=qg (.type "range") #[.int 65024 342,.int 65040 343,.int 1 344]
noncomputable def Ag(P:Params):Obj:={cls:=(.type "list"),dict:=none,data:=(.seq #[.int 65024 347,.int 65025 348,.int 65026 349,.int 65027 350,.int 65028 351,.int 65029 352,.int 65030 353,.int 65031 354,.int 65032 355,.int 65033 356,.int 65034 357,.int 65035 358,.int 65036 359,.int 65037 360,.int 65038 361,.int 65039 362] 18),slots:=#[]}
def Ah(P:Params):Obj:=qg (.type "range_iterator") #[qi 65040,qi 0,qi 1]
def Ai(P:Params):Obj:=qt #[]
def Aj(P:Params):Obj:=qg (.type "StopIteration") #[qr 110,.none,.none,.none,.bool false,.none]
noncomputable def Ak(P:Params):Obj:={cls:=(.type "list"),dict:=none,data:=(.seq #[.int 173 331,.int 847 332,.int 6150 333,.int 6155 334,.int 6156 335,.int 6157 336,.int 8203 337,.int 8204 338,.int 8205 339,.int 8288 340,.int 65279 341,.int 65024 347,.int 65025 348,.int 65026 349,.int 65027 350,.int 65028 351,.int 65029 352,.int 65030 353,.int 65031 354,.int 65032 355,.int 65033 356,.int 65034 357,.int 65035 358,.int 65036 359,.int 65037 360,.int 65038 361,.int 65039 362] 0),slots:=#[]}
noncomputable def mO(P:Params):Obj:={cls:=(.type "set"),dict:=none,data:=(.set #[(65024,(.int 65024 347)),(65025,(.int 65025 348)),(65026,(.int 65026 349)),(65027,(.int 65027 350)),(65028,(.int 65028 351)),(65029,(.int 65029 352)),(6150,(.int 6150 333)),(65030,(.int 65030 353)),(65031,(.int 65031 354)),(65032,(.int 65032 355)),(65033,(.int 65033 356)),(6155,(.int 6155 334)),(6156,(.int 6156 335)),(6157,(.int 6157 336)),(8203,(.int 8203 337)),(8204,(.int 8204 338)),(8205,(.int 8205 339)),(65034,(.int 65034 357)),(65035,(.int 65035 358)),(65036,(.int 65036 359)),(65037,(.int 65037 360)),(65038,(.int 65038 361)),(65039,(.int 65039 362)),(173,(.int 173 331)),(847,(.int 847 332)),(8288,(.int 8288 340)),(65279,(.int 65279 341))] 29 {mask:=127,place:=#[0,1,2,3,4,5,6,7,8,9,10,11,12,13,14,15,16,17,18,19,20,21,22,45,79,96,127],dummies:=#[],finger:=0,led:=!P.followText "set-order",moves:=2,plain:=true}),slots:=#[]}
def Al(P:Params):Obj:=qg (.type "list_iterator") #[.none,qi 27]
def Am(P:Params):Obj:=qt #[]
def An(P:Params):Obj:=qg (.type "StopIteration") #[qr 115,.none,.none,.none,.bool false,.none]
def Ao(P:Params):Obj:=qd (qk P "__name__" 165 (qs "cpy313.stringprep" 329)::((e3 P).take 16).tail) 16
def Hh(P:Params):Obj:=qg .none #[qi 2,qi 0,qr 20,qi 46,qi 0,qr 62,qi 60,qi 0,qr 90,qi 64,qi 0,qr 97,qi 77,qi 0,qr 104,qi 84,qi 0,qr 122]
def Aq(P:Params):Obj:=qt #[]
def Ip(P:Params):Obj:=qg .none #[]
def Ar(P:Params):Obj:=qt #[qs "code" 394]
def As(P:Params):Obj:=qt #[]
def Iq(P:Params):Obj:=qf .none (st 9) "in_table_b1" "in_table_b1" 0 .none .none .none
def uE(P:Params):Obj:=qg (.type "code") #[qs "in_table_b1" 391,qs "in_table_b1" 392,qs "/claim/cut.py" 393,qi 84,qi 1,qi 0,qi 0,qi 3,qr 117,.bool true,qi 181,qr 118,.none,qr 119,qr 120,qr 121,qi 395,qi 84,qs "/claim/cut.py" 396]
def uF(P:Params):Obj:=qf (.type "function") (st 9) "in_table_b1" "in_table_b1" 3 .none (qs "cpy313.stringprep" 329) (qr 122)
def MY(P:Params):Obj:=qd (qk P "__name__" 165 (qs "cpy313.stringprep" 329)::((e3 P).take 17).tail) 17
def qE(P:Params):Obj:=bX (ents 3 398 (e7.take 646)++ents 2 2336 (e7.drop 646))
def Ir(P:Params):Obj:=gT 1
def Iu(P:Params):Obj:=gT 2
def Iv(P:Params):Obj:=gT 3
def Iw(P:Params):Obj:=gT 4
def IB(P:Params):Obj:=gT 5
def IC(P:Params):Obj:=gT 6
def ID(P:Params):Obj:=gT 7
def IE(P:Params):Obj:=gT 8
def IF(P:Params):Obj:=gT 9
def IG(P:Params):Obj:=gT 10
def II(P:Params):Obj:=gT 11
def IJ(P:Params):Obj:=gT 12
def IK(P:Params):Obj:=gT 13
def IL(P:Params):Obj:=gT 14
def IM(P:Params):Obj:=gT 15
def IP(P:Params):Obj:=gT 16
def IQ(P:Params):Obj:=gT 17
def IS(P:Params):Obj:=gT 18
def IT(P:Params):Obj:=gT 19
def IU(P:Params):Obj:=gT 20
def IV(P:Params):Obj:=gT 21
def IW(P:Params):Obj:=gT 22
def IX(P:Params):Obj:=gT 23
def IY(P:Params):Obj:=gT 24
def IZ(P:Params):Obj:=gT 25
def I1(P:Params):Obj:=gT 26
def I3(P:Params):Obj:=gT 27
def I4(P:Params):Obj:=gT 28
def I5(P:Params):Obj:=gT 29
def I6(P:Params):Obj:=gT 30
def I7(P:Params):Obj:=gT 31
def I8(P:Params):Obj:=gT 32
def I9(P:Params):Obj:=gT 33
def I_(P:Params):Obj:=gT 34
def Ja(P:Params):Obj:=gT 35
def Jb(P:Params):Obj:=gT 36
def Jc(P:Params):Obj:=gT 37
def Jd(P:Params):Obj:=bX (ents 2 2336 (e7.drop 646))
def MZ(P:Params):Obj:=qd (qk P "__name__" 165 (qs "cpy313.stringprep" 329)::((e3 P).take 18).tail) 18
def Hi(P:Params):Obj:=qg .none #[qi 2,qi 0,qr 20,qi 46,qi 0,qr 62,qi 60,qi 0,qr 90,qi 64,qi 0,qr 97,qi 77,qi 0,qr 104,qi 84,qi 0,qr 122,qi 87,qi 0,qr 168]
def Au(P:Params):Obj:=qt #[]
def Je(P:Params):Obj:=qg .none #[]
def Av(P:Params):Obj:=qt #[qs "code" 2352,qs "r" 2353]
def Aw(P:Params):Obj:=qt #[]
def Jf(P:Params):Obj:=qf .none (st 11) "map_table_b3" "map_table_b3" 0 .none .none .none
def uG(P:Params):Obj:=qg (.type "code") #[qs "map_table_b3" 2349,qs "map_table_b3" 2350,qs "/claim/cut.py" 2351,qi 87,qi 1,qi 0,qi 0,qi 3,qr 163,.bool true,qi 181,qr 164,.none,qr 165,qr 166,qr 167,qi 2354,qi 87,qs "/claim/cut.py" 2355]
def uH(P:Params):Obj:=qf (.type "function") (st 11) "map_table_b3" "map_table_b3" 3 .none (qs "cpy313.stringprep" 329) (qr 168)
def M0(P:Params):Obj:=qd ((e3 P).take 18) 18
def M1(P:Params):Obj:=qd ((e3 P).take 19) 19
def M3(P:Params):Obj:=qg .none #[qi 2,qi 0,qr 20,qi 46,qi 0,qr 62,qi 60,qi 0,qr 90,qi 64,qi 0,qr 97,qi 77,qi 0,qr 104,qi 84,qi 0,qr 122,qi 87,qi 0,qr 168,qi 93,qi 0,qr 175]
def Ax(P:Params):Obj:=qt #[]
def Jg(P:Params):Obj:=qg .none #[]
def Ay(P:Params):Obj:=qt #[qs "script" 2362,qs "cells" 2363,qs "place" 2364,qs "number" 2365]
def Az(P:Params):Obj:=qt #[]
def Jh(P:Params):Obj:=qf .none (st 13) "_law_cells" "_law_cells" 0 .none .none .none
def uI(P:Params):Obj:=qg (.type "code") #[qs "_law_cells" 2359,qs "_law_cells" 2360,qs "/claim/cut.py" 2361,qi 93,qi 2,qi 0,qi 0,qi 3,qr 170,.bool true,qi 181,qr 171,.none,qr 172,qr 173,qr 174,qi 2366,qi 93,qs "/claim/cut.py" 2367]
def uJ(P:Params):Obj:=qf (.type "function") (st 13) "_law_cells" "_law_cells" 3 .none (qs "law_xb0034_04" 2357) (qr 175)
def M4(P:Params):Obj:=qd ((e3 P).take 20) 20
def M5(P:Params):Obj:=qg .none #[qi 2,qi 0,qr 20,qi 46,qi 0,qr 62,qi 60,qi 0,qr 90,qi 64,qi 0,qr 97,qi 77,qi 0,qr 104,qi 84,qi 0,qr 122,qi 87,qi 0,qr 168,qi 93,qi 0,qr 175,qi 97,qi 0,qr 180]
def AA(P:Params):Obj:=qt #[]
def Ji(P:Params):Obj:=qg .none #[]
def Jj(P:Params):Obj:=qf .none (st 14) "_law_word" "_law_word" 0 .none .none .none
def uK(P:Params):Obj:=qg (.type "code") #[qs "_law_word" 2369,qs "_law_word" 2370,qs "/claim/cut.py" 2371,qi 97,qi 1,qi 0,qi 0,qi 3,qr 177,.bool true,qi 181,qr 178,.none,.none,.none,qr 179,qi 2372,qi 97,qs "/claim/cut.py" 2373]
def uL(P:Params):Obj:=qf (.type "function") (st 14) "_law_word" "_law_word" 3 .none (qs "law_xb0034_04" 2357) (qr 180)
def M6(P:Params):Obj:=qd ((e3 P).take 21) 21
def Jk(P:Params):Obj:=qg .none #[qi 2,qi 0,qr 20,qi 46,qi 0,qr 62,qi 60,qi 0,qr 90,qi 64,qi 0,qr 97,qi 77,qi 0,qr 104,qi 84,qi 0,qr 122,qi 87,qi 0,qr 168,qi 93,qi 0,qr 175,qi 97,qi 0,qr 180,qi 105,qi 0,qr 187]
def AB(P:Params):Obj:=qt #[]
def Jl(P:Params):Obj:=qg .none #[]
def AD(P:Params):Obj:=qt #[qs "raw" 2378,qs "way" 2379,qs "end" 2380,qs "quoted" 2381,qs "text" 2382,qs "place" 2383,qs "sign" 2384,qs "hard" 2385,qs "ends" 2386]
def AE(P:Params):Obj:=qt #[]
def Jm(P:Params):Obj:=qf .none (st 15) "_law_written" "_law_written" 0 .none .none .none
def uM(P:Params):Obj:=qg (.type "code") #[qs "_law_written" 2375,qs "_law_written" 2376,qs "/claim/cut.py" 2377,qi 105,qi 3,qi 0,qi 0,qi 3,qr 182,.bool true,qi 181,qr 183,.none,qr 184,qr 185,qr 186,qi 2387,qi 105,qs "/claim/cut.py" 2388]
def uN(P:Params):Obj:=qf (.type "function") (st 15) "_law_written" "_law_written" 3 .none (qs "law_xb0034_04" 2357) (qr 187)
def M7(P:Params):Obj:=qd ((e3 P).take 22) 22
def Jo(P:Params):Obj:=qg .none #[qi 2,qi 0,qr 20,qi 46,qi 0,qr 62,qi 60,qi 0,qr 90,qi 64,qi 0,qr 97,qi 77,qi 0,qr 104,qi 84,qi 0,qr 122,qi 87,qi 0,qr 168,qi 93,qi 0,qr 175,qi 97,qi 0,qr 180,qi 105,qi 0,qr 187,qi 113,qi 0,qr 194]
def AF(P:Params):Obj:=qt #[]
def Jp(P:Params):Obj:=qg .none #[]
def AG(P:Params):Obj:=qt #[qs "text" 2393,qs "count" 2394,qs "tokens" 2395,qs "stream" 2396,qs "lexer" 2397,qs "turn" 2398]
def AI(P:Params):Obj:=qt #[qs "signs" 2399]
def Jq(P:Params):Obj:=qf .none (st 16) "_law_lexer" "_law_lexer" 0 .none .none .none
def uO(P:Params):Obj:=qg (.type "code") #[qs "_law_lexer" 2390,qs "_law_lexer" 2391,qs "/claim/cut.py" 2392,qi 113,qi 2,qi 0,qi 0,qi 3,qr 189,.bool true,qi 181,qr 190,.none,qr 191,qr 192,qr 193,qi 2400,qi 113,qs "/claim/cut.py" 2401]
def uP(P:Params):Obj:=qf (.type "function") (st 16) "_law_lexer" "_law_lexer" 3 .none (qs "law_xb0034_04" 2357) (qr 194)
def M8(P:Params):Obj:=qd ((e3 P).take 23) 23
def Jr(P:Params):Obj:=qg .none #[qi 2,qi 0,qr 20,qi 46,qi 0,qr 62,qi 60,qi 0,qr 90,qi 64,qi 0,qr 97,qi 77,qi 0,qr 104,qi 84,qi 0,qr 122,qi 87,qi 0,qr 168,qi 93,qi 0,qr 175,qi 97,qi 0,qr 180,qi 105,qi 0,qr 187,qi 113,qi 0,qr 194,qi 121,qi 0,qr 199]
def AJ(P:Params):Obj:=qt #[]
def Js(P:Params):Obj:=qg .none #[]
def Jt(P:Params):Obj:=qf .none (st 17) "_law_same" "_law_same" 0 .none .none .none
def uQ(P:Params):Obj:=qg (.type "code") #[qs "_law_same" 2403,qs "_law_same" 2404,qs "/claim/cut.py" 2405,qi 121,qi 1,qi 0,qi 0,qi 3,qr 196,.bool true,qi 181,qr 197,.none,.none,.none,qr 198,qi 2406,qi 121,qs "/claim/cut.py" 2407]
def uR(P:Params):Obj:=qf (.type "function") (st 17) "_law_same" "_law_same" 3 .none (qs "law_xb0034_04" 2357) (qr 199)
def M9(P:Params):Obj:=qd ((e3 P).take 24) 24
def Ju(P:Params):Obj:=qg .none #[qi 2,qi 0,qr 20,qi 46,qi 0,qr 62,qi 60,qi 0,qr 90,qi 64,qi 0,qr 97,qi 77,qi 0,qr 104,qi 84,qi 0,qr 122,qi 87,qi 0,qr 168,qi 93,qi 0,qr 175,qi 97,qi 0,qr 180,qi 105,qi 0,qr 187,qi 113,qi 0,qr 194,qi 121,qi 0,qr 199,qi 123,qi 0,qr 204]
def AK(P:Params):Obj:=qt #[]
def Jv(P:Params):Obj:=qg .none #[]
def Jw(P:Params):Obj:=qf .none (st 18) "_law_booked" "_law_booked" 0 .none .none .none
def uS(P:Params):Obj:=qg (.type "code") #[qs "_law_booked" 2409,qs "_law_booked" 2410,qs "/claim/cut.py" 2411,qi 123,qi 3,qi 0,qi 0,qi 3,qr 201,.bool true,qi 181,qr 202,.none,.none,.none,qr 203,qi 2412,qi 123,qs "/claim/cut.py" 2413]
def uT(P:Params):Obj:=qf (.type "function") (st 18) "_law_booked" "_law_booked" 3 .none (qs "law_xb0034_04" 2357) (qr 204)
def M_(P:Params):Obj:=qd ((e3 P).take 25) 25
def Jx(P:Params):Obj:=qg .none #[qi 2,qi 0,qr 20,qi 46,qi 0,qr 62,qi 60,qi 0,qr 90,qi 64,qi 0,qr 97,qi 77,qi 0,qr 104,qi 84,qi 0,qr 122,qi 87,qi 0,qr 168,qi 93,qi 0,qr 175,qi 97,qi 0,qr 180,qi 105,qi 0,qr 187,qi 113,qi 0,qr 194,qi 121,qi 0,qr 199,qi 123,qi 0,qr 204,qi 147,qi 0,qr 209]
def AL(P:Params):Obj:=qt #[]
def Jy(P:Params):Obj:=qg .none #[]
def Jz(P:Params):Obj:=qf .none (st 19) "_law_due" "_law_due" 0 .none .none .none
def uU(P:Params):Obj:=qg (.type "code") #[qs "_law_due" 2415,qs "_law_due" 2416,qs "/claim/cut.py" 2417,qi 147,qi 2,qi 0,qi 0,qi 3,qr 206,.bool true,qi 181,qr 207,.none,.none,.none,qr 208,qi 2418,qi 147,qs "/claim/cut.py" 2419]
def uV(P:Params):Obj:=qf (.type "function") (st 19) "_law_due" "_law_due" 3 .none (qs "law_xb0034_04" 2357) (qr 209)
def Hj(P:Params):Obj:=qd ((e3 P).take 26) 26
def JA(P:Params):Obj:=qg .none #[qi 2,qi 0,qr 20,qi 46,qi 0,qr 62,qi 60,qi 0,qr 90,qi 64,qi 0,qr 97,qi 77,qi 0,qr 104,qi 84,qi 0,qr 122,qi 87,qi 0,qr 168,qi 93,qi 0,qr 175,qi 97,qi 0,qr 180,qi 105,qi 0,qr 187,qi 113,qi 0,qr 194,qi 121,qi 0,qr 199,qi 123,qi 0,qr 204,qi 147,qi 0,qr 209,qi 151,qi 0,qr 214]
def AM(P:Params):Obj:=qt #[]
def JB(P:Params):Obj:=qg .none #[]
def JC(P:Params):Obj:=qf .none (st 20) "law" "law" 0 .none .none .none
def uW(P:Params):Obj:=qg (.type "code") #[qs "law" 2421,qs "law" 2422,qs "/claim/cut.py" 2423,qi 151,qi 1,qi 0,qi 0,qi 3,qr 211,.bool true,qi 181,qr 212,.none,.none,.none,qr 213,qi 2424,qi 151,qs "/claim/cut.py" 2425]
def uX(P:Params):Obj:=qf (.type "function") (st 20) "law" "law" 3 .none (qs "law_xb0034_04" 2357) (qr 214)
def aO(P:Params):List Obj:=[boot_o_0 P,boot_o_1 P,boot_o_2 P,Hj P,boot_o_4 P,boot_o_5 P,boot_o_6 P,boot_o_7 P,boot_o_8 P,boot_o_9 P,boot_o_10 P,Ge P,JA P,Gg P,Gh P,Gj P,Gk P,Gm P,Gn P,MD P,Gp P,Gq P,Gr P,ME P,Gs P,Gu P,MF P,zO P,zQ P,Gv P,MG P,Gw P,Gx P,MH P,zR P,zS P,Gy P,MI P,Gz P,GA P,MJ P,zT P,zU P,GB P,MK P,GC P,GD P,ML P,zV P,zW P,GF P,GG P,zX P,GH P,GI P,GJ P,GK P,GL P,GN P,GO P,GP P,MN P,GQ P,GR P,GS P,MO P,GU P,GV P,MP P,zY P,zZ P,GW P,MQ P,GX P,GY P,MR P,z0 P,z3 P,GZ P,G0 P,z7 P,G1 P,G2 P,G3 P,G4 P,G5 P,MT P,G6 P,G7 P,MU P,z8 P,z9 P,G8 P,MW P,G9 P,G_ P,MX P,z_ P,Aa P,Hg P,Im P,Ac P,Ad P,Io P,uC P,uD P,Ae P,Af P,Ag P,Ah P,Ai P,Aj P,Ak P,mO P,Al P,Am P,An P,Aq P,Ip P,Ar P,As P,Iq P,uE P,uF P,qE P,Ir P,Iu P,Iv P,Iw P,IB P,IC P,ID P,IE P,IF P,IG P,II P,IJ P,IK P,IL P,IM P,IP P,IQ P,IS P,IT P,IU P,IV P,IW P,IX P,IY P,IZ P,I1 P,I3 P,I4 P,I5 P,I6 P,I7 P,I8 P,I9 P,I_ P,Ja P,Jb P,Jc P,Jd P,Au P,Je P,Av P,Aw P,Jf P,uG P,uH P,Ax P,Jg P,Ay P,Az P,Jh P,uI P,uJ P,AA P,Ji P,Jj P,uK P,uL P,AB P,Jl P,AD P,AE P,Jm P,uM P,uN P,AF P,Jp P,AG P,AI P,Jq P,uO P,uP P,AJ P,Js P,Jt P,uQ P,uR P,AK P,Jv P,Jw P,uS P,uT P,AL P,Jy P,Jz P,uU P,uV P,AM P,JB P,JC P,uW P,uX P]
def Rh(P:Params):Heap:=qh P ((((aO P).take 15).set 3 (boot_o_3 P)).set 12 (Gf P))
def LY(P:Params):Heap:=qh P ((((aO P).take 15).set 3 (R8 P)).set 12 (Gf P))
def Ri(P:Params):Heap:=qh P ((((aO P).take 57).set 3 (R9 P)).set 12 (Gi P))
def V1(P:Params):Heap:=qh P ((((aO P).take 57).set 3 (R_ P)).set 12 (Gi P))
def V3(P:Params):Heap:=qh P ((((aO P).take 85).set 3 (Sa P)).set 12 (MM P))
def V4(P:Params):Heap:=qh P ((((aO P).take 92).set 3 (Sb P)).set 12 (MS P))
def V5(P:Params):Heap:=qh P ((((aO P).take 99).set 3 (Sd P)).set 12 (MV P))
def V6(P:Params):Heap:=qh P ((((aO P).take 106).set 3 (Se P)).set 12 (Ab P))
def DU(P:Params):Heap:=qh P ((((aO P).take 106).set 3 (Sf P)).set 12 (Ab P))
def DV(P:Params):Heap:=qh P ((((aO P).take 117).set 3 (Sg P)).set 12 (Ab P))
def sf(P:Params):Heap:=qh P ((((aO P).take 124).set 3 (Ao P)).set 12 (Hh P))
def AN(P:Params):Heap:=qh P ((((aO P).take 163).set 3 (MY P)).set 12 (Hh P))
def Na(P:Params):Heap:=qh P ((((aO P).take 170).set 3 (MZ P)).set 12 (Hi P))
def Nb(P:Params):Heap:=qh P ((((aO P).take 170).set 3 (M0 P)).set 12 (Hi P))
def Nc(P:Params):Heap:=qh P ((((aO P).take 177).set 3 (M1 P)).set 12 (M3 P))
def Nd(P:Params):Heap:=qh P ((((aO P).take 182).set 3 (M4 P)).set 12 (M5 P))
def Nf(P:Params):Heap:=qh P ((((aO P).take 189).set 3 (M6 P)).set 12 (Jk P))
def Ng(P:Params):Heap:=qh P ((((aO P).take 196).set 3 (M7 P)).set 12 (Jo P))
def Nh(P:Params):Heap:=qh P ((((aO P).take 201).set 3 (M8 P)).set 12 (Jr P))
def Ni(P:Params):Heap:=qh P ((((aO P).take 206).set 3 (M9 P)).set 12 (Ju P))
def Nj(P:Params):Heap:=qh P ((((aO P).take 211).set 3 (M_ P)).set 12 (Jx P))
def mP(P:Params):Heap:=qh P ((aO P).take 216)
noncomputable abbrev wI:=@PySem.W.Fast.tw14374325043358763698
noncomputable abbrev AO:=PySem.W.Fast.tw14364793385576792824
noncomputable abbrev AP:=PySem.W.Fast.tw12563942051412417395
abbrev wJ(l:List Stmt)(env:Env)(c:Code)(p:Pos)(B:List Frame):Thread:=⟨(AP l env).wrap doneF deadEnd id id,c,p,B⟩
abbrev seg(w:World)(n:Nat)(s:Shared)(i:Nat)(p:Pos):Option (Flow×Shared×Code×Pos):=segRun treeTable pw w 11 (some (.ref 6)) 1 n s (piecesOf [st i] qC c0 p [topFrame ⟨0,0,0,0⟩])
abbrev x_(w:World)(n:Nat)(s:Shared)(i:Nat)(p:Pos):Option (Flow×Shared×Code×Pos):=wI AO pw w 11 (some (.ref 6)) 1 n s (wJ [st i] qC c0 p [topFrame ⟨0,0,0,0⟩])
theorem wL(w:World)(n:Nat)(s:Shared)(i:Nat)(p:Pos):seg w n s i p=x_ w n s i p:=by unfold seg x_;unfold wJ piecesOf AP wI AO;rw[←PySem.W.Fast.te14374325043358763698,←PySem.W.Fast.te14364793385576792824,←PySem.W.Fast.te12563942051412417395]
theorem Xz(w:World)(os:OsState):seg w 10 (sh (Rh w.params) 187 os) 0 ⟨0,0,0,0⟩=some (.next,sh (LY w.params) 189 os,c0,⟨1,0,1,8⟩):=by kernel_rfl
theorem XA(w:World)(os:OsState):seg w 324 (sh (LY w.params) 189 os) 1 ⟨1,0,1,8⟩=some (.next,sh (Ri w.params) 247 os,c0,⟨2,0,44,35⟩):=by kernel_rfl
theorem XC(w:World)(os:OsState):seg w 10 (sh (Ri w.params) 247 os) 2 ⟨2,0,44,35⟩=some (.next,sh (V1 w.params) 249 os,c0,⟨45,0,45,8⟩):=by kernel_rfl
theorem XD(w:World)(os:OsState):seg w 260 (sh (V1 w.params) 249 os) 3 ⟨45,0,45,8⟩=some (.next,sh (V3 w.params) 291 os,c0,⟨46,0,59,16⟩):=by kernel_rfl
theorem XE(w:World)(os:OsState):seg w 41 (sh (V3 w.params) 291 os) 4 ⟨46,0,59,16⟩=some (.next,sh (V4 w.params) 309 os,c0,⟨60,0,63,88⟩):=by kernel_rfl
theorem XF(w:World)(os:OsState):seg w 34 (sh (V4 w.params) 309 os) 5 ⟨60,0,63,88⟩=some (.next,sh (V5 w.params) 320 os,c0,⟨64,0,76,22⟩):=by kernel_rfl
theorem XG(w:World)(os:OsState):seg w 32 (sh (V5 w.params) 320 os) 6 ⟨64,0,76,22⟩=some (.next,sh (V6 w.params) 329 os,c0,⟨77,0,81,13⟩):=by kernel_rfl
theorem XH(w:World)(os:OsState):seg w 10 (sh (V6 w.params) 329 os) 7 ⟨77,0,81,13⟩=some (.next,sh (DU w.params) 331 os,c0,⟨82,0,82,8⟩):=by kernel_rfl
theorem Nk(w:World)(os:OsState):x_ ((w.withFollow "special-get-raises" false).withFollow "set-order" false) 999 (sh (DU ((w.withFollow "special-get-raises" false).withFollow "set-order" false).params) 331 os) 8 ⟨82,0,82,8⟩=some (.next,sh (DV ((w.withFollow "special-get-raises" false).withFollow "set-order" false).params) 391 os,c0,⟨83,0,83,6⟩):=by kernel_rfl
theorem Nl(w:World)(os:OsState):x_ ((w.withFollow "special-get-raises" false).withFollow "set-order" true) 999 (sh (DU ((w.withFollow "special-get-raises" false).withFollow "set-order" true).params) 331 os) 8 ⟨82,0,82,8⟩=some (.next,sh (DV ((w.withFollow "special-get-raises" false).withFollow "set-order" true).params) 391 os,c0,⟨83,0,83,6⟩):=by kernel_rfl
theorem Nm(w:World)(os:OsState):x_ ((w.withFollow "special-get-raises" true).withFollow "set-order" false) 999 (sh (DU ((w.withFollow "special-get-raises" true).withFollow "set-order" false).params) 331 os) 8 ⟨82,0,82,8⟩=some (.next,sh (DV ((w.withFollow "special-get-raises" true).withFollow "set-order" false).params) 391 os,c0,⟨83,0,83,6⟩):=by kernel_rfl
theorem Nn(w:World)(os:OsState):x_ ((w.withFollow "special-get-raises" true).withFollow "set-order" true) 999 (sh (DU ((w.withFollow "special-get-raises" true).withFollow "set-order" true).params) 331 os) 8 ⟨82,0,82,8⟩=some (.next,sh (DV ((w.withFollow "special-get-raises" true).withFollow "set-order" true).params) 391 os,c0,⟨83,0,83,6⟩):=by kernel_rfl
theorem XI(w:World)(os:OsState):seg w 999 (sh (DU w.params) 331 os) 8 ⟨82,0,82,8⟩=some (.next,sh (DV w.params) 391 os,c0,⟨83,0,83,6⟩):=by
 refine byRow2 (P:=fun w=>∀os:OsState,seg w 999 (sh (DU w.params) 331 os) 8 ⟨82,0,82,8⟩=some (.next,sh (DV w.params) 391 os,c0,⟨83,0,83,6⟩)) "set-order" (fun w=>?_) (fun w=>?_) w os
 ·exact byRow2 (P:=fun w=>∀os:OsState,seg (w.withFollow "set-order" false) 999 (sh (DU (w.withFollow "set-order" false).params) 331 os) 8 ⟨82,0,82,8⟩=some (.next,sh (DV (w.withFollow "set-order" false).params) 391 os,c0,⟨83,0,83,6⟩)) "special-get-raises" (fun w os=>(wL ..).trans (Nk w os)) (fun w os=>(wL ..).trans (Nm w os)) w
 ·exact byRow2 (P:=fun w=>∀os:OsState,seg (w.withFollow "set-order" true) 999 (sh (DU (w.withFollow "set-order" true).params) 331 os) 8 ⟨82,0,82,8⟩=some (.next,sh (DV (w.withFollow "set-order" true).params) 391 os,c0,⟨83,0,83,6⟩)) "special-get-raises" (fun w os=>(wL ..).trans (Nl w os)) (fun w os=>(wL ..).trans (Nn w os)) w
theorem Sh(w:World)(os:OsState):seg w 30 (sh (DV w.params) 391 os) 9 ⟨83,0,83,6⟩=some (.next,sh (sf w.params) 398 os,c0,⟨84,0,85,30⟩):=by kernel_rfl
theorem Np:exec (st 10) qC=(do
  standAt ⟨86,0,86,8704⟩
  let v←(do standAt ⟨86,16,86,8704⟩;dictDisplay (e7.map (x7 ⟨86,16,86,8704⟩)))
  assignStores qC v none [assign (.Name (S "b3_exceptions") ⟨86,0,86,13⟩) qC]):=by kernel_rfl
noncomputable def incr:List Int→Bool|a::b::r=>decide (a<b)&&incr (b::r)|_=>true
theorem wM:∀(l:List Int) (a:Int),incr (a::l)=true→∀x∈l,a<x
|[],aK,bA,x,hx=>nomatch hx|b::l,a,h,x,hx=>by
 simp only[incr,Bool.and_eq_true,decide_eq_true_eq] at h;rcases Mine.bM hx with rfl|hx
 ·exact h.1
 ·exact Int.lt_trans h.1 (wM l b h.2 x hx)
theorem mQ:∀l:List Int,incr l=true→l.Nodup
|[],aK=>List.nodup_nil|a::l,h=>List.nodup_cons.mpr ⟨fun q=>absurd (wM l a h a q) (Int.lt_irrefl a),mQ l (by
  cases l with |nil=>rfl|cons b l=>simp only[incr,Bool.and_eq_true] at h;exact h.2)⟩
theorem JD:∀e∈e7,Dy e:=fun e he=>by
 obtain h:(e7.all fun e=>decide (hashInt e.1=e.1)&&decide (rawHash e.1=e.1))=true:=by kernel_rfl
 obtain this:=Mine.cZ h e he;simp only[Bool.and_eq_true,decide_eq_true_eq] at this;exact this
theorem Si:(e7.map (·.1)).Nodup:=mQ _ (by kernel_rfl)
theorem Nq:e7.length=650:=by kernel_rfl
theorem Sj(w:World)(os:OsState):∃p,seg w 12525 (sh (sf w.params) 398 os) 10 ⟨84,0,85,30⟩=some (.next,sh (AN w.params) 2349 os,c0,p):=by
 obtain hL:=Nq;obtain hg:Nat.ble 11 (sf w.params).objs.size=true:=by kernel_rfl
 obtain hd:=Go.display (w:=w) (os:=os) (b:=sf w.params) (p:=⟨86,16,86,8704⟩) (j:=38-1) (L:=e7) (T:=398) hg (by decide) (by decide) JD Si (by decide);obtain hs:∀v,storeName qC (S "b3_exceptions") v=nsSet mainNs (S "b3_exceptions") v:=fun v=>by kernel_rfl
 obtain ho:(sf w.params).get? mainNs=some (Ao w.params):=by kernel_rfl
 obtain hx:∃es m,(Ao w.params).data=.dict es m∧aRefKeyMayBeTheName (S "b3_exceptions") es=false:=⟨_,_,rfl,by kernel_rfl⟩;obtain⟨es,m,XJ,XK⟩:=hx;obtain XM:Go w 12524 (sh (sf w.params) 398 os) (execs [st 10] qC) (sh (AN w.params) 2349 os) .next:=by
  rw[execs_cons,Np];refine Go.bind (n:=12524) (m:=0) (a:=Flow.next) (s':=sh (AN w.params) 2349 os) ?_ (by exact Go.pure');refine Go.bind (n:=1) (m:=12524-1) Go.standAt ?_;refine Go.bind (n:=12524-8) (m:=7) (Go.bind (n:=1) (m:=12524-9) Go.standAt (hd.cast (by rw[hL]))) ?_;refine Go.bind (n:=7) (m:=0) (a:=()) ?_ Go.pure';refine Go.bind (n:=1) (m:=6) Go.standAt ?_;refine Go.bind (n:=1) (m:=5) (Go.holding Go.point) ?_;refine Go.bind (n:=4) (m:=1) (Go.x9 (uz _ _ ho) XJ XK) ?_;rw[hL]
  obtain e:(HL (sf w.params) (bX (ents 3 398 (e7.take (17* (38-1+1)))++ents 2 (398+51* (38-1+1)) (e7.drop (17* (38-1+1))))::(subsOf (38-1) (398+51) (e7.drop 17)++[bX (ents 2 (398+51* (38-1+1)) (e7.drop (17* (38-1+1))))]))).update mainNs
    (Obj.putName (S "b3_exceptions") (PyData.keyHash w.params (S "b3_exceptions")) (.str (S "b3_exceptions") (398+3* 650)) (.ref (sf w.params).objs.size))=AN w.params:=by kernel_rfl
  rw[e];exact Go.point
 obtain⟨p',hp⟩:=XM ⟨84,0,85,30⟩;refine⟨p',?_⟩;obtain h0:=hp doneF deadEnd id id 0;exact seg_go (n:=12524) (N:=1) h0 rfl
theorem Sk(w:World)(os:OsState)(p:Pos):seg w 31 (sh (AN w.params) 2349 os) 11 p=some (.next,sh (Na w.params) 2357 os,c0,⟨87,0,91,23⟩):=by kernel_rfl
theorem Sl(w:World)(os:OsState):seg w 10 (sh (Na w.params) 2357 os) 12 ⟨87,0,91,23⟩=some (.next,sh (Nb w.params) 2359 os,c0,⟨92,0,92,8⟩):=by kernel_rfl
theorem Sm(w:World)(os:OsState):seg w 33 (sh (Nb w.params) 2359 os) 13 ⟨92,0,92,8⟩=some (.next,sh (Nc w.params) 2369 os,c0,⟨93,0,96,16⟩):=by kernel_rfl
theorem Sn(w:World)(os:OsState):seg w 27 (sh (Nc w.params) 2369 os) 14 ⟨93,0,96,16⟩=some (.next,sh (Nd w.params) 2375 os,c0,⟨97,0,104,97⟩):=by kernel_rfl
theorem So(w:World)(os:OsState):seg w 38 (sh (Nd w.params) 2375 os) 15 ⟨97,0,104,97⟩=some (.next,sh (Nf w.params) 2390 os,c0,⟨105,0,112,53⟩):=by kernel_rfl
theorem Sp(w:World)(os:OsState):seg w 36 (sh (Nf w.params) 2390 os) 16 ⟨105,0,112,53⟩=some (.next,sh (Ng w.params) 2403 os,c0,⟨113,0,120,33⟩):=by kernel_rfl
theorem Sq(w:World)(os:OsState):seg w 27 (sh (Ng w.params) 2403 os) 17 ⟨113,0,120,33⟩=some (.next,sh (Nh w.params) 2409 os,c0,⟨121,0,122,84⟩):=by kernel_rfl
theorem Ss(w:World)(os:OsState):seg w 27 (sh (Nh w.params) 2409 os) 18 ⟨121,0,122,84⟩=some (.next,sh (Ni w.params) 2415 os,c0,⟨123,0,146,24⟩):=by kernel_rfl
theorem Su(w:World)(os:OsState):seg w 27 (sh (Ni w.params) 2415 os) 19 ⟨123,0,146,24⟩=some (.next,sh (Nj w.params) 2421 os,c0,⟨147,0,150,168⟩):=by kernel_rfl
theorem Sv(w:World)(os:OsState):seg w 27 (sh (Nj w.params) 2421 os) 20 ⟨147,0,150,168⟩=some (.next,sh (mP w.params) 2427 os,c0,⟨151,0,175,95⟩):=by kernel_rfl
def qv:Program:={pw with main:={pw.main with body:=[st 20]}}
def qF:List Str:=[S "_netrclex",S "TupleComp",S "add_func_stats",S "add_callers",S "count_calls",S "b1_set",S "in_table_b1",S "b3_exceptions",S "map_table_b3",S "_law_cells",S "_law_word",S "_law_written",S "_law_lexer",S "_law_same",S "_law_booked",S "_law_due"]
theorem Sw(w:World)(os:OsState):topGo treeTable pw w 11 (some (.ref 6)) 12 (sh (boot_heap w.params) boot_toks os) (topStub pw)=some (sh (Rh w.params) 187 os,⟨denote treeTable c0,c0,⟨0,0,0,0⟩,[topFrame ⟨0,0,0,0⟩]⟩):=by kernel_rfl
theorem Sx(w:World)(os:OsState):segRun treeTable pw w 11 (some (.ref 6)) 1 1 (sh (Rh w.params) 187 os) (blockOf (behindTheImports pw) qC c0 ⟨0,0,0,0⟩ [topFrame ⟨0,0,0,0⟩])=some (.next,sh (Rh w.params) 187 os,c0,⟨0,0,0,0⟩):=by kernel_rfl
theorem Sy(w:World)(os:OsState):topRun treeTable pw w 11 (some (.ref 6)) 2 (sh (mP w.params) 2427 os) ⟨doneF .next,c0,⟨151,0,175,95⟩,[topFrame ⟨0,0,0,0⟩]⟩=some (sh (mP w.params) 2427 os):=by kernel_rfl
theorem Nr:behindTheImports pw=[st 0]++([st 1]++([st 2]++([st 3]++([st 4]++([st 5]++([st 6]++([st 7]++([st 8]++([st 9]++([st 10]++([st 11]++([st 12]++([st 13]++([st 14]++([st 15]++([st 16]++([st 17]++([st 18]++([st 19]++([st 20]++[])))))))))))))))))))):=by kernel_rfl
theorem Sz(w:World)(os:OsState):topRun treeTable pw w 11 (some (.ref 6)) (12+(1+(10+(324+(10+(260+(41+(34+(32+(10+(999+(30+(12525+(31+(10+(33+(27+(38+(36+(27+(27+(27+(27+2))))))))))))))))))))))) (sh (boot_heap w.params) boot_toks os) (topStub pw)=some (sh (mP w.params) 2427 os):=by
 refine(Sj w os).elim fun p hp=>?_
 refine go_top (Sw w os) (piece_block (Sx w os) ?_);refine Nr▸?_;exact piece_app (Xz w os) (piece_app (XA w os) (piece_app (XC w os) (piece_app (XD w os) (piece_app (XE w os) (piece_app (XF w os) (piece_app (XG w os) (piece_app (XH w os) (piece_app (XI w os) (piece_app (Sh w os) (piece_app hp (piece_app (Sk w os p) (piece_app (Sl w os) (piece_app (Sm w os) (piece_app (Sn w os) (piece_app (So w os) (piece_app (Sp w os) (piece_app (Sq w os) (piece_app (Ss w os) (piece_app (Su w os) (piece_app (Sv w os) (piece_nil (Sy w os))))))))))))))))))))))
def kF(P:Params):Frag:=[(3,Hj P),(4,boot_o_4 P),(5,boot_o_5 P),(6,boot_o_6 P),(7,boot_o_7 P),(8,boot_o_8 P),(9,boot_o_9 P),(10,boot_o_10 P),(11,Ge P),(13,Gg P),(14,Gh P),(15,Gj P),(16,Gk P),(17,Gm P),(18,Gn P),(20,Gp P),(21,Gq P),(22,Gr P),(24,Gs P),(25,Gu P),(27,zO P),(28,zQ P),(29,Gv P),(31,Gw P),(32,Gx P),(34,zR P),(35,zS P),(36,Gy P),(38,Gz P),(39,GA P),(41,zT P),(42,zU P),(43,GB P),(45,GC P),(46,GD P),(48,zV P),(49,zW P),(50,GF P),(51,GG P),(52,zX P),(53,GH P),(54,GI P),(55,GJ P),(56,GK P),(57,GL P),(58,GN P),(59,GO P),(60,GP P),(62,GQ P),(63,GR P),(64,GS P),(66,GU P),(67,GV P),(69,zY P),(70,zZ P),(71,GW P),(73,GX P),(74,GY P),(76,z0 P),(77,z3 P),(78,GZ P),(79,G0 P),(80,z7 P),(81,G1 P),(82,G2 P),(83,G3 P),(84,G4 P),(85,G5 P),(87,G6 P),(88,G7 P),(90,z8 P),(91,z9 P),(92,G8 P),(94,G9 P),(95,G_ P),(97,z_ P),(98,Aa P),(99,Hg P),(101,Ac P),(102,Ad P),(104,uC P),(105,uD P),(106,Ae P),(107,Af P),(108,Ag P),(109,Ah P),(110,Ai P),(111,Aj P),(112,Ak P),(113,mO P),(114,Al P),(115,Am P),(116,An P),(117,Aq P),(119,Ar P),(120,As P),(122,uE P),(123,uF P),(124,qE P),(163,Au P),(165,Av P),(166,Aw P),(168,uG P),(169,uH P),(170,Ax P),(172,Ay P),(173,Az P),(175,uI P),(176,uJ P),(177,AA P),(180,uK P),(181,uL P),(182,AB P),(184,AD P),(185,AE P),(187,uM P),(188,uN P),(189,AF P),(191,AG P),(192,AI P),(194,uO P),(195,uP P),(196,AJ P),(199,uQ P),(200,uR P),(201,AK P),(204,uS P),(205,uT P),(206,AL P),(209,uU P),(210,uV P),(211,AM P),(214,uW P),(215,uX P)]
noncomputable def kA:List Addr:=[3,4,5,6,7,8,9,10,11,13,14,15,16,17,18,20,21,22,24,25,27,28,29,31,32,34,35,36,38,39,41,42,43,45,46,48,49,50,51,52,53,54,55,56,57,58,59,60,62,63,64,66,67,69,70,71,73,74,76,77,78,79,80,81,82,83,84,85,87,88,90,91,92,94,95,97,98,99,101,102,104,105,106,107,108,109,110,111,112,113,114,115,116,117,119,120,122,123,124,163,165,166,168,169,170,172,173,175,176,177,180,181,182,184,185,187,188,189,191,192,194,195,196,199,200,201,204,205,206,209,210,211,214,215]
noncomputable def kT:List Addr:=[23,30,37,44,65,72,86,93,100,118,164,171,178,183,190,197,202,207,212]
def hk:Hook:=kmHook kF kA (fun a=>rfl) kT
abbrev SA:Shared→Bool:=fun s=>xlAt qv [] s&&recOk [] s
theorem Nt(w:World):((boot_heap w.params).isNs mainGlobals&&(#[]:Array GenState).size==0,(boot_heap w.params).objs.size,(boot_heap w.params).nsMap mainGlobals "__annotations__")=(true,11,some (.ref 6)):=by kernel_rfl
theorem XN(w:World)(os:OsState):(staticsOk (importedModules pw.main.body) (boot_heap w.params) (mP w.params)&&namesBound pw (mP w.params)&&gensDone (sh (mP w.params) 2427 os)&&laidKept (boot_heap w.params) (mP w.params))=true:=by kernel_rfl
theorem XO(w:World)(os:OsState):openSeen qv qF (importedModules pw.main.body) SA true (sh (mP w.params) 2427 os)=openGood qv qF:=by kernel_rfl
theorem XQ(w:World)(os:OsState):hk.obs (sh (mP w.params) 2427 os)=hk.val w:=by kernel_rfl
theorem Nu:LeftO pw qv qF SA hk.obs hk.val 29146 true:=
 LeftO.of_pieces (H₀:=boot_heap) (H₁:=mP) (gs₀:=#[]) (gs₁:=#[]) (d₀:=boot_drawn) (d₁:=boot_drawn) (k₀:=boot_toks) (k₁:=2427) (m₀:=11) (ann:=some (.ref 6)) (M:=(12+(1+(10+(324+(10+(260+(41+(34+(32+(10+(999+(30+(12525+(31+(10+(33+(27+(38+(36+(27+(27+(27+(27+2))))))))))))))))))))))))
  (boot_open rfl rfl (fun a=>rfl)) Nt Sz rfl (fun w=>funext fun os=>by simp only[XN w os,XO w os,XQ w os])
end
end Hd
end
noncomputable section
open PySem PySem.W PySem.Builtin PySem.Builtin.Str PyProof.Rows
namespace Mine
noncomputable abbrev T(x:String):Str:=Str.ofString x
def dY(s:Stmt):zF:=⟨(cL (Hd.fP s)).getD [],Hd.fB s,Hd.fS s⟩
noncomputable def XR:List (Nat×Nat):=[(8,24),(65,18),(114,29),(114,41),(114,45),(126,46),(126,50),(126,54),(128,44),(152,31)]
def XS:List Str:=[T "signs",T "marks",T "cells",T "plain",T "keys",T "price",T "ranks",T "ahead",T "letters",T "tells"]
noncomputable def cH:List Int:=[173,847,6150,6155,6156,6157,8203,8204,8205,8288,65279,65024,65025,65026,65027,65028,65029,65030,65031,65032,65033,65034,65035,65036,65037,65038,65039]
def Nv:List Str:=[T "lineno",T "instream",T "whitespace",T "pushback",T "comp_select_list"]
def AQ:List (Str×V):=[(T "_netrclex",.cls 52),(T "TupleComp",.cls 80),(T "add_func_stats",.fn 91),(T "add_callers",.fn 98),(T "count_calls",.fn 105),(T "b1_set",.xY cH),(T "in_table_b1",.fn 123),(T "b3_exceptions",.tabI Hd.e7),(T "map_table_b3",.fn 169),(T "_law_cells",.fn 176),(T "_law_word",.fn 181),(T "_law_written",.fn 188),(T "_law_lexer",.fn 195),(T "_law_same",.fn 200),(T "_law_booked",.fn 205),(T "_law_due",.fn 210),(T "law",.fn 215)]
def V7:List (Nat×zF):=[(28,dY (Hd.cst 1 0)),(35,dY (Hd.cst 1 1)),(42,dY (Hd.cst 1 2)),(49,dY (Hd.cst 1 3)),(70,dY (Hd.cst 3 0)),(77,dY (Hd.cst 3 1)),(91,dY (Hd.st 4)),(98,dY (Hd.st 5)),(105,dY (Hd.st 6)),(123,dY (Hd.st 9)),(169,dY (Hd.st 11)),(176,dY (Hd.st 13)),(181,dY (Hd.st 14)),(188,dY (Hd.st 15)),(195,dY (Hd.st 16)),(200,dY (Hd.st 17)),(205,dY (Hd.st 18)),(210,dY (Hd.st 19)),(215,dY (Hd.st 20))]
def JE:List (Nat×Ie):=[(52,⟨[(T "__init__",28),(T "_read_char",35),(T "get_token",42),(T "push_token",49)],Nv⟩),(80,⟨[(T "__init__",70),(T "compare",77)],Nv⟩)]
def C4:Cx:=⟨AQ,V7,JE,fun q=>XR.contains (q.line,q.col),fun f=>[98,176,205].contains f,fun x=>XS.contains x,100000⟩
def mR:List (Addr×Addr×Str):=[(27,23,T "_netrclex.__init__"++".<locals>."),(34,30,T "_netrclex._read_char"++".<locals>."),(41,37,T "_netrclex.get_token"++".<locals>."),(48,44,T "_netrclex.push_token"++".<locals>."),(69,65,T "TupleComp.__init__"++".<locals>."),(76,72,T "TupleComp.compare"++".<locals>."),(90,86,T "add_func_stats"++".<locals>."),(97,93,T "add_callers"++".<locals>."),(104,100,T "count_calls"++".<locals>."),(122,118,T "in_table_b1"++".<locals>."),(168,164,T "map_table_b3"++".<locals>."),(175,171,T "_law_cells"++".<locals>."),(180,178,T "_law_word"++".<locals>."),(187,183,T "_law_written"++".<locals>."),(194,190,T "_law_lexer"++".<locals>."),(199,197,T "_law_same"++".<locals>."),(204,202,T "_law_booked"++".<locals>."),(209,207,T "_law_due"++".<locals>."),(214,212,T "law"++".<locals>.")]
noncomputable abbrev k9:Program:=PySem.Challenge.rw_xb0034_04.row.prog
def Good(w:World):Prop:=∀{s:Shared} {p:Program} {loose:List Str} {sj:ExcName→Option Value} {mg mb:Str→Option Value} {fa a:Addr} {vs:List Value} {ns:List Int} {m:Nat} {E:Value→Shared→Prop} (X₀:(Hd.kF w.params).In s.heap) (TT:∀P∈Hd.kT,s.heap.get? P=some (tabObj #[])) (T:Top p loose sj mg mb s.heap)
  (hf:mg (Mine.T "law")=some (.ref fa)) (g:s.heap.get? a=some {cls:=.type "list",data:=.seq vs.toArray m}) (hI:IntsAre vs ns) (hl:ns.length<64),
wpAny (model k9 w) callerA (PySem.call (.ref fa) [.ref a]) (fun v s'=>v=.bool true∧OldK s.heap s'.heap∧s'.os=s.os∧s'.gens=s.gens) E s
noncomputable def w0:World:=@Classical.epsilon World ⟨⟨fun a a=>0,⟨fun a=>0,id,id,fun a=>0,fun a a=>0,fun a=>true,fun a=>0,.refcount,.text,fun a=>0,fun a=>none,fun a=>false,fun a a a=>true,fun a a a=>true,true,fun a=>false,fun a=>none,fun a=>none,fun a a a=>0,fun a a=>none,fun a=>none,fun a=>(0,false,"UTC"),fun a=>none,id,fun a=>false⟩⟩⟩ fun w=>¬Good w
end Mine
end
noncomputable section
open PySem PySem.W PySem.Builtin PySem.Builtin.Str
namespace Mine
structure Gl where
 w:World
 prog:Program
 C:Cx
 fa:Nat→Addr
 ca:Nat→Addr
 ya:Addr
 DW:Addr
 cH:List Int
 sq:List (Int×Str)
 tabs:List (Addr×Addr×Str)
 V8:Nat→Str
 V9:Nat→Value
def G:Gl:=⟨w0,k9,C4,fun a=>a,fun a=>a,113,124,cH,Hd.e7,mR,fun b=>T "",fun b=>.none⟩
def Gl.fg(G:Gl)(a:Addr):Prop:=∃c q,(c,a,q)∈G.tabs
structure Wd where
 φ:Nat→Option Addr
 own:Addr→Option Nat
 Z:Addr→Option Obj
noncomputable abbrev gW(xs:Array Value)(n:Nat):Obj:={cls:=.type "list",data:=.seq xs n}
noncomputable abbrev pC(xs:Array Value)(n:Nat):Obj:={cls:=.type "tuple",data:=.seq xs n}
noncomputable abbrev cX(es:Array DictEntry)(n:Nat):Obj:={cls:=.type "dict",data:=.dict es n}
inductive SD(s:Str)(x:Value):Prop|mk(h:s.length<ai)(t:Tok)(e:x=.str s t)
inductive DX(Z:Addr→Option Obj)(f:Array Value→Nat→Obj)(len:Nat)(R:List Value→Prop)(x:Value):Prop|mk(a:Addr)(n:Nat)(xs:Array Value)(h1:x=.ref a)(h2:Z a=some (f xs n))(h3:len<ai)(h4:R xs.toList)
inductive Nx(Z:Addr→Option Obj)(kvs:List (Str×V))(R:List DictEntry→Prop)(x:Value):Prop|mk(a:Addr)(n:Nat)(es:Array DictEntry)(h1:x=.ref a)(h2:Z a=some (cX es n))(h3:a≠sysModules)(h4:(kvs.map (·.1)).Nodup)(h5:kvs.length<ai)(h6:R es.toList)
inductive SE(W:Wd)(k:Nat)(x:Value):Prop|mk(a:Addr)(h1:x=.ref a)(h2:W.φ k=some a)
inductive XT(W:Wd)(k f:Nat)(x:Value):Prop|mk(a b:Addr)(h1:x=.ref a)(h2:W.φ k=some b)(h3:W.Z a=some {cls:=.type "method",data:=.fields #[.ref (G.fa f),.ref b]})(h4:(jb G.C f).isSome)
inductive pD(Z:Addr→Option Obj)(cd:Value)(q:Str):Prop|mk(c:Addr)(oc:Obj)(vs:Array Value)(t:Tok)(h1:cd=.ref c)(h2:Z c=some oc)(h3:oc.data=.fields vs)(h4:vs[1]?=some (.str q t))
theorem pD.mono{Z Z':Addr→Option Obj}{cd:Value}{q:Str}(h:pD Z cd q)(L:∀a o,Z a=some o→Z' a=some o):pD Z' cd q:=by
 induction h with |mk c oc vs t h1 h2 h3 h4=>exact⟨c,oc,vs,t,h1,L _ _ h2,h3,h4⟩
inductive SH(Z:Addr→Option Obj)(ps:List Str)(body:Expr)(sc:Scope)(R:List (Str×Addr)→Prop)(x:Value):Prop
|mk(a:Addr)(o:Obj)(fd:FuncData)(h1:x=.ref a)(h2:Z a=some o)(h3:o.cls=.type "function")(h4:o.data=.func fd)(h5:cL fd.params=some ps)(h6:fd.body=.expr body)(h7:fd.scope=sc)
  (h8:fd.globals=mainGlobals) (h9:fd.builtins=builtinsNs) (Ny:fd.defaults=.none) (SI:fd.kwdefaults=.none) (SJ:pD Z fd.code fd.qualname) (XU:R fd.closure)
inductive Nz(k:Str)(e:DictEntry):Prop|mk(h1:k.length<ai)(h2:e.hash=hashStr G.w k)(t:Tok)(h3:e.key=.str k t)
inductive Hl(Z:Addr→Option Obj)(n:Str)(cl:List (Str×Addr))(R:Value→Prop):Prop|mk(c:Addr)(o:Obj)(y:Value)(h1:cl.lookup n=some c)(h2:Z c=some o)(h3:o.data=.cell (some y))(h4:R y)
mutual
def Rel(W:Wd):V→Value→Prop|.none,x=>x=.none|.bool b,x=>x=.bool b|.int i,x=>∃t,x=.int i t|.str s,x=>SD s x|.lst vs,x=>DX W.Z gW vs.length (aA W vs) x|.tup vs,x=>DX W.Z pC vs.length (aA W vs) x|.aF kvs,x=>Nx W.Z kvs (Reld W kvs) x|.mj a b,x=>∃r t u v,x=.ref r∧W.Z r=some {cls:=.type "range",dict:=none,data:=.fields #[.int a t,.int b u,.int 1 v],slots:=#[]}∧Builtin.Range.small a b 1=true|.ref k,x=>SE W k x|.fn f,x=>x=.ref (G.fa f)∧(jb G.C f).isSome|.cls c,x=>x=.ref (G.ca c)|.blt i,x=>x=.builtin i|.typ i,x=>x=.type i|.bm k f,x=>XT W k f x|.rO ps body sc c7,x=>SH W.Z ps body sc (lJ W c7) x|.tabI kvs,x=>x=.ref G.DW∧kvs=G.sq|.xY xs,x=>x=.ref G.ya∧xs=G.cH
def aA(W:Wd):List V→List Value→Prop|[],[]=>True|v::vs,x::xs=>Rel W v x∧aA W vs xs|aK,bA=>False
def Reld(W:Wd):List (Str×V)→List DictEntry→Prop|[],[]=>True|(k,v)::r,e::es=>Nz k e∧Rel W v e.val∧Reld W r es|aK,bA=>False
def lJ(W:Wd):List (Str×V)→List (Str×Addr)→Prop|[],aK=>True|(n,v)::r,cl=>Hl W.Z n cl (Rel W v)∧lJ W r cl
end
structure Wd.Le(W W':Wd):Prop where
 z:∀a o,W.Z a=some o→W'.Z a=some o
 φ:∀k a,W.φ k=some a→W'.φ k=some a
theorem Wd.Le.refl(W:Wd):W.Le W:=⟨fun a a h=>h,fun a a h=>h⟩
theorem Wd.Le.trans{W₁ W₂ W₃:Wd}(x:W₁.Le W₂)(y:W₂.Le W₃):W₁.Le W₃:=⟨fun a o h=>y.z a o (x.z a o h),fun k a h=>y.φ k a (x.φ k a h)⟩
section
variable{W W':Wd}
mutual
theorem Rel.mono(L:W.Le W'):∀{v:V} {x:Value},Rel W v x→Rel W' v x
|.none,x,h=>h|.bool b,x,h=>h|.int i,x,h=>h|.str s,x,h=>h|.lst vs,x,h=>by obtain⟨a,n,xs,h1,h2,h5,h6⟩:=h;exact⟨a,n,xs,h1,L.z _ _ h2,h5,aA.mono L h6⟩
|.tup vs,x,h=>by obtain⟨a,n,xs,h1,h2,h5,h6⟩:=h;exact⟨a,n,xs,h1,L.z _ _ h2,h5,aA.mono L h6⟩
|.aF kvs,x,h=>by obtain⟨a,n,es,h1,h2,h0,hn,h5,h6⟩:=h;exact⟨a,n,es,h1,L.z _ _ h2,h0,hn,h5,Reld.mono L h6⟩
|.mj a b,x,h=>by obtain⟨r,t,u,v,h1,h2,h3⟩:=h;exact⟨r,t,u,v,h1,L.z _ _ h2,h3⟩
|.ref k,x,h=>by obtain⟨a,h1,h2⟩:=h;exact⟨a,h1,L.φ _ _ h2⟩
|.fn f,x,h=>h|.cls c,x,h=>h|.blt i,x,h=>h|.typ i,x,h=>h|.bm k f,x,h=>by obtain⟨a,b,h1,h2,h3,h4⟩:=h;exact⟨a,b,h1,L.φ _ _ h2,L.z _ _ h3,h4⟩
|.rO ps body sc c7,x,h=>by obtain⟨a,o,fd,h1,h2,h3,h4,h5,h6,h7,h8,h9,Ny,SI,SJ,XW⟩:=h;exact⟨a,o,fd,h1,L.z _ _ h2,h3,h4,h5,h6,h7,h8,h9,Ny,SI,SJ.mono L.z,lJ.mono L XW⟩
|.tabI kvs,x,h=>h|.xY xs,x,h=>h
theorem aA.mono(L:W.Le W'):∀{vs:List V} {xs:List Value},aA W vs xs→aA W' vs xs|[],[],h=>trivial|v::vs,x::xs,h=>by exact⟨Rel.mono L h.1,aA.mono L h.2⟩|[],aK::bA,h=>False.elim h|aK::bA,[],h=>False.elim h
theorem Reld.mono(L:W.Le W'):∀{kvs:List (Str×V)} {es:List DictEntry},Reld W kvs es→Reld W' kvs es|[],[],h=>trivial|(k,v)::r,e::es,h=>by exact⟨h.1,Rel.mono L h.2.1,Reld.mono L h.2.2⟩|[],aK::bA,h=>False.elim h|aK::bA,[],h=>False.elim h
theorem lJ.mono(L:W.Le W'):∀{c7:List (Str×V)} {cl:List (Str×Addr)},lJ W c7 cl→lJ W' c7 cl|[],aK,h=>trivial|(n,v)::r,cl,h=>by obtain⟨⟨c,o,y,h1,h2,h3,h4⟩,h5⟩:=h;exact⟨⟨c,o,y,h1,L.z _ _ h2,h3,Rel.mono L h4⟩,lJ.mono L h5⟩
end
end
def FldR(W:Wd)(m:Str→Option Value)(fs:List (Str×V)):Prop:=∀x,match fs.lookup x with |some v=>∃y,m x=some y∧Rel W v y|none=>m x=none
inductive AR(W:Wd)(h:Heap)(d:Addr)(fs:List (Str×V)):Prop|mk(m:Str→Option Value)(h1:h.Ns1 d m)(h2:FldR W m fs)
inductive SK(g:Option Obj)(f:Array Value→Nat→Obj)(len:Nat)(R:List Value→Prop):Prop|mk(n:Nat)(xs:Array Value)(h1:g=some (f xs n))(h2:len<ai)(h3:R xs.toList)
inductive SM(g:Option Obj)(a:Addr)(kvs:List (Str×V))(R:List DictEntry→Prop):Prop|mk(n:Nat)(es:Array DictEntry)(h1:g=some (cX es n))(h2:a≠sysModules)(h3:(kvs.map (·.1)).Nodup)(h4:kvs.length<ai)(h5:R es.toList)
inductive NB(W:Wd)(h:Heap)(a:Addr)(k c:Nat)(fs:List (Str×V)):Prop|mk(o:Obj)(d:Addr)(h1:h.get? a=some o)(h2:o.cls=.ref (G.ca c))(h3:o.dict=some d)(h4:∀c,o.data≠.cls c)(h5:d≠a)(h6:W.own d=some k)(h7:fs.length<ai)(h8:AR W h d fs)
inductive NC(W:Wd)(h:Heap)(a:Addr)(k:Nat)(o:Obj)(fs:List (Str×V)):Prop|mk(d:Addr)(h1:fs≠[])(h2:o.dict=some d)(h3:d≠a)(h4:W.own d=some k)(h5:AR W h d fs)
inductive SN(W:Wd)(h:Heap)(a:Addr)(k:Nat)(fs:List (Str×V)):Prop|mk(o:Obj)(fd:FuncData)(h1:h.get? a=some o)(h2:o.cls=.type "function")(h3:o.data=.func fd)(h4:(fs=[]∧o.dict=none)∨NC W h a k o fs)
inductive SO(h:Heap)(a:Addr)(live:Bool)(R S:Value→Prop):Prop|mk(o:Obj)(x y:Value)(h1:h.get? a=some o)(h2:o.cls=.type "callable_iterator")(h3:o.data=.fields (if live then #[x,y,.bool false] else #[.none,.none,.bool true]))(h4:live=true→R x∧S y)
def lK(W:Wd)(h:Heap)(a:Addr)(k:Nat):az→Prop|.gone=>True|.lst vs=>SK (h.get? a) gW vs.length (aA W vs)|.aF kvs=>SM (h.get? a) a kvs (Reld W kvs)|.inst c fs=>NB W h a k c fs|.o_ _ fs=>SN W h a k fs|.lI f stop live=>SO h a live (Rel W f) (Rel W stop)
def oO(H:AH)(k:Nat):Prop:=∃o,H[k]?=some o∧(match o with |.gone=>False|_=>True)
def AS(sc:Scope)(x:Str):Bool:=match kindOf sc x with
|some .local|some .cell=>true
|_=>false
def zF.ok(d:zF):Bool:=d.sc.kind==.function&&!d.sc.isCoroutine&&!d.sc.isGenerator&&d.params.all (AS d.sc)&&decide (d.sc.names.map (·.1)).Nodup&&decide d.params.Nodup&&!gK d.sc
inductive FnAt(h:Heap)(f:Nat)(d:zF):Prop
|mk(o:Obj)(fd:FuncData)(h1:h.get? (G.fa f)=some o)(h2:o.cls=.type "function")(h3:o.data=.func fd)(h4:fd.body=.stmts d.body)(h5:fd.scope=d.sc)(h6:fd.globals=mainGlobals)(h7:fd.builtins=builtinsNs)(h8:fd.closure=[])
  (h9:fd.defaults=.none) (Ny:fd.kwdefaults=.none) (SI:cL fd.params=some d.params) (SJ:h.CodeRec fd.code fd.qualname) (XU:∃c P,fd.code=.ref c∧(c,P,fd.qualname++".<locals>.")∈G.tabs)
structure MethAt(mN:Str→Option Value)(m:Str)(f:Nat):Prop where
 h1:mN m=some (.ref (G.fa f))
 h2:(jb G.C f).isSome
 h3:∃y,typeLookup (.type "object") m=pure y
inductive JF(h:Heap)(c:Nat)(d:Ie):Prop
|mk(nm q:Str)(N:Addr)(bs:List Value)(sn:List Str)(sub:List Value)(col:Option Bool)(dd:Option Addr)(k0 k1 k2 k3 k5:Option Value)(mN:Str→Option Value)(h1:h.get? (G.ca c)=some (excClassObj nm q (G.ca c) N bs [.type "object"] true sn sub false col dd k0 k1 k2 k3 k5 "object.__new__"))(h2:h.Ns N mN)
 (h3:mN "__getattribute__"=none) (h4:mN "__getattr__"=none) (h5:mN "__setattr__"=none) (h6:∀m f,d.meths.lookup m=some f→MethAt mN m f) (h7:∀a∈d.DM,mN a=none∧typeLookup (.type "object") a=pure none)
structure AU(h:Heap):Prop where
 noLimit:h.NoLimit
 mods:sysModules<h.objs.size
 fns:∀f d,jb G.C f=some d→d.ok=true∧FnAt h f d
 cls:∀c d,G.C.gh.lookup c=some d→JF h c d
 bound:∀c d a f,G.C.gh.lookup c=some d→d.meths.lookup a=some f→∀{A:Around} {E:Value→Shared→Prop} {Q:Value→Shared→Prop} {s:Shared} {x dx:Addr} {o od:Obj} {es:Array DictEntry} {ep:Nat},s.heap=h→
  s.heap.get? x=some o→o.cls=.ref (G.ca c)→o.dict=some dx→(∀c,o.data≠.cls c)→s.heap.get? dx=some od→od.data=.dict es ep→StrKeys es→nsFind es a=none→
  Q (.ref s.heap.objs.size) {s with heap:=s.heap.push {cls:=.type "method",data:=.fields #[.ref (G.fa f),.ref x]},toks:=s.toks+1}→wpAny (model G.prog G.w) A (getAttr (.ref x) a true) Q E s
 setIn:∀{A:Around} {E:Value→Shared→Prop} {Q:Value→Shared→Prop} {s:Shared} {i:Int} {t:Tok},s.heap=h→(∀k,Q (.bool (G.cH.contains i)) {s with toks:=k})→wpAny (model G.prog G.w) A (compareOp .In (.int i t) (.ref G.ya)) Q E s
 AV:∀c P q c' q',(c,P,q)∈G.tabs→(c',P,q')∈G.tabs→q=q'
 Ho:∃es n,h.get? G.DW=some (cX es n)
 AW:∀{A:Around} {E:Value→Shared→Prop} {Q:Value→Shared→Prop} {s:Shared} {i:Int} {t:Tok},s.heap=h→(∀x,G.sq.lookup i=some x→∀t' k,Q (.str x t') {s with toks:=k})→(G.sq.lookup i=none→∀k,Q .none {s with toks:=k})→wpAny (model G.prog G.w) A (call (.builtin "dict.get") [.ref G.DW,.int i t]) Q E s
 AX:∀i x,G.sq.lookup i=some x→x.length<ai
 glob:∃mg mb,h.Ns mainGlobals mg∧h.Ns builtinsNs mb∧
  (∀x v,lookGlob G.C x=some v→∃y,(∀W,Rel W v y)∧(mg x=some y∨(mg x=none∧mb x=some y)))∧
  (∀c P q,(c,P,q)∈G.tabs→h.BuiltinsAt mg P∧mainGlobals≠P)
def Base(Z:Addr→Option Obj):Prop:=∀h:Heap,(∀a o,Z a=some o→h.get? a=some o)→AU h
inductive TabAt(W:Wd)(h:Heap)(c P:Addr)(q:Str):Prop|mk(h1:CodeHd h c P)(h2:∃oc,W.Z c=some oc)(h3:W.Z P=none)(h4:W.own P=none)(ps:Array Value)(h5:h.get? P=some (tabObj ps))(h6:TriplesOk ps.toList)(h7:∀pos cv,codeAmong pos ps.toList=some cv→pD W.Z cv (q++"<lambda>"))
structure aH(W:Wd)(H:AH)(s:Shared):Prop where
 z:∀a o,W.Z a=some o→s.heap.get? a=some o
 ju:∀k a,W.φ k=some a→W.own a=some k
 b9:∀a k,W.own a=some k→k<H.length∧a<s.heap.objs.size
 sr:∀a k,W.own a=some k→oO H k→W.Z a=none
 obj:∀k o,H[k]?=some o→∃a,W.φ k=some a∧lK W s.heap a k o
 tab:∀c P q,(c,P,q)∈G.tabs→TabAt W s.heap c P q
 base:Base W.Z
structure ah(W:Wd)(H:AH)(s:Shared)(X:Addr→Prop)(W':Wd)(H':AH)(s':Shared):Prop where
 sim:aH W' H' s'
 le:W.Le W'
 wN:∀a k,W.own a=some k→W'.own a=some k
 Dz:∀a k,W'.own a=some k→W.own a=some k∨(s.heap.objs.size≤a∧H[k]?≠some az.gone)
 wO:∀a o,W'.Z a=some o→W.Z a=some o∨s.heap.objs.size≤a∨(∃k,W.own a=some k∧oO H k)∨X a
 keep:∀a o,s.heap.get? a=some o→¬G.fg a→(∀k,W.own a=some k→¬oO H k)→¬X a→s'.heap.get? a=some o
 cl:∀a ps,G.fg a→s.heap.get? a=some (tabObj ps)→∃more,s'.heap.get? a=some (tabObj (ps++more))
 gone:∀k:Nat,H[k]?=some az.gone→H'[k]?=some az.gone
 len:H.length≤H'.length
 size:s.heap.objs.size≤s'.heap.objs.size
 os:s'.os=s.os
 gens:s'.gens=s.gens
theorem oO.k_{H:AH}{k:Nat}(h:¬oO H k)(hk:k<H.length):H[k]?=some az.gone:=by
 obtain e:=List.getElem?_eq_getElem hk;refine e.trans ?_;induction hg:H[k] with |gone=>rfl|_=>exact absurd ⟨_,e,by refine hg▸?_;trivial⟩ h
namespace ah
variable{W W₁ W₂:Wd}{H H₁ H₂:AH}{s s₁ s₂:Shared}{X X':Addr→Prop}
theorem refl(S:aH W H s):ah W H s X W H s:=⟨S,.refl W,fun a a h=>h,fun a a h=>.inl h,fun a a h=>.inl h,fun a a h a a a=>h,fun a ps a h=>⟨#[],by exact h⟩,fun a h=>h,Nat.le_refl _,Nat.le_refl _,rfl,rfl⟩
theorem dead(P:ah W H s X W₁ H₁ s₁)(S:aH W H s){a:Addr}(bL:a<s.heap.objs.size)(h:∀k,W.own a=some k→¬oO H k):∀k,W₁.own a=some k→¬oO H₁ k:=by
 intro k hk hl;rcases P.Dz a k hk with h1|h1
 ·obtain hg:=P.gone k (oO.k_ (h k h1) (S.b9 a k h1).1);obtain⟨o,ho,hn⟩:=hl;rw[hg] at ho;obtain rfl:=Option.some.inj ho;exact hn
 ·exact absurd bL (Nat.not_lt_of_le h1.1)
theorem trans(S:aH W H s)(P:ah W H s X W₁ H₁ s₁)(Q:ah W₁ H₁ s₁ X W₂ H₂ s₂):ah W H s X W₂ H₂ s₂:=by
 refine⟨Q.sim,P.le.trans Q.le,fun a k h=>Q.wN a k (P.wN a k h),?_,?_,?_,?_,fun k h=>Q.gone k (P.gone k h),Nat.le_trans P.len Q.len,Nat.le_trans P.size Q.size,Q.os.trans P.os,Q.gens.trans P.gens⟩
 ·intro a k h;rcases Q.Dz a k h with h1|h1
  ·exact P.Dz a k h1
  ·exact .inr ⟨Nat.le_trans P.size h1.1,fun e=>h1.2 (P.gone k e)⟩
 ·intro a o h;rcases Q.wO a o h with h1|h1|⟨k,h1,hl⟩|h1
  ·exact P.wO a o h1
  ·exact .inr (.inl (Nat.le_trans P.size h1))
  ·rcases P.Dz a k h1 with h2|h2
   ·refine .inr (.inr (.inl ⟨k,h2,?_⟩));refine Classical.byContradiction fun hn=>?_
    obtain hg:=P.gone k (oO.k_ hn (S.b9 a k h2).1);obtain⟨o,ho,hx⟩:=hl;rw[hg] at ho;obtain rfl:=Option.some.inj ho;exact hx
   ·exact .inr (.inl h2.1)
  ·exact .inr (.inr (.inr h1))
 ·intro a o h hc hd hx;exact Q.keep a o (P.keep a o h hc hd hx) hc (P.dead S (Heap.lt_size h) hd) hx
 ·intro a ps ht h;obtain⟨m1,h1⟩:=P.cl a ps ht h;obtain⟨m2,h2⟩:=Q.cl a _ ht h1;exact⟨m1++m2,by rw[h2,Array.append_assoc]⟩
theorem wk(P:ah W H s X W₁ H₁ s₁)(h:∀a,X a→X' a):ah W H s X' W₁ H₁ s₁:=
 {P with
  wO:=fun a o ha=>(P.wO a o ha).imp id (Or.imp id (Or.imp id (h a)))
  keep:=fun a o e hc hd hx=>P.keep a o e hc hd fun hh=>hx (h a hh)}
theorem drop(P:ah W H s X W₁ H₁ s₁)(h:∀a,X a→X' a∨s.heap.objs.size≤a):ah W H s X' W₁ H₁ s₁:=
 {P with
  wO:=fun a o ha=>by
   rcases P.wO a o ha with h1|h1|h1|h1
   ·exact .inl h1
   ·exact .inr (.inl h1)
   ·exact .inr (.inr (.inl h1))
   ·rcases h a h1 with h2|h2
    ·exact .inr (.inr (.inr h2))
    ·exact .inr (.inl h2)
  keep:=fun a o e hc hd hx=>P.keep a o e hc hd fun hh=>by
   rcases h a hh with h2|h2
   ·exact hx h2
   ·exact absurd (Heap.lt_size e) (Nat.not_lt_of_le h2)}
theorem Hq(P:ah W H s X W₁ H₁ s₁)(h:∀a,X a→X' a∨∃k,W.own a=some k∧oO H k):ah W H s X' W₁ H₁ s₁:=
 {P with
  wO:=fun a o ha=>by
   rcases P.wO a o ha with h1|h1|h1|h1
   ·exact .inl h1
   ·exact .inr (.inl h1)
   ·exact .inr (.inr (.inl h1))
   ·rcases h a h1 with h2|h2
    ·exact .inr (.inr (.inr h2))
    ·exact .inr (.inr (.inl h2))
  keep:=fun a o e hc hd hx=>P.keep a o e hc hd fun hh=>by
   rcases h a hh with h2|⟨k,h2,h3⟩
   ·exact hx h2
   ·exact hd k h2 h3}
theorem trans'{Y:Addr→Prop}(S:aH W H s)(P:ah W H s X W₁ H₁ s₁)(Q:ah W₁ H₁ s₁ Y W₂ H₂ s₂)(h:∀a,Y a→X a∨s.heap.objs.size≤a):ah W H s X W₂ H₂ s₂:=((P.wk (X':=fun a=>X a∨s.heap.objs.size≤a) fun b=>.inl).trans S (Q.wk h)).drop fun b x=>x
end ah
end Mine
end
noncomputable section
open PySem PySem.W PySem.Builtin PySem.Builtin.Str PyProof.Rows
namespace Mine
theorem aH.cj{W:Wd}{H:AH}{s:Shared}(S:aH W H s):AU s.heap:=S.base _ S.z
def bI(sc:Scope)(e:Env)(a:Addr):Prop:=a=e.locals∨∃x,kindOf sc x=some .cell∧e.cells.lookup x=some a
structure ak(sc:Scope)(env:af)(e:Env)(W:Wd)(s:Shared):Prop where
 kind:e.scope.kind=.function
 globals:e.globals=mainGlobals
 builtins:e.builtins=builtinsNs
 code:gK sc=false→∃c P,e.code=.ref c∧(c,P,e.qual)∈G.tabs
 kinds:∀x k,kindOf sc x=some k→k≠.globalExplicit→e.kindOf x=some k∨(k=.free∧e.kindOf x=some .cell)
 locals:∃o es ep m,s.heap.get? e.locals=some o∧¬G.fg e.locals∧o.data=.dict es ep∧s.heap.Ns e.locals m∧W.own e.locals=none∧W.Z e.locals=none∧∀x v,kindOf sc x=some .local→aS env x=some v→∃y,m x=some y∧Rel W v y
 cells:∀x,kindOf sc x=some .cell→∃c o u,e.cells.lookup x=some c∧s.heap.get? c=some o∧¬G.fg c∧o.data=.cell u∧W.own c=none∧
  (match aS env x with |some v=>(∃y,u=some y∧Rel W v y)∧(if G.C.wo x then W.Z c=some o else W.Z c=none)|none=>W.Z c=none)
 frees:∀x v,kindOf sc x=some .free→aS env x=some v→∃c o y,e.cells.lookup x=some c∧s.heap.get? c=some o∧o.data=.cell (some y)∧Rel W v y∧(x==("__classdict__":Str))=false∧(W.Z c=some o∨(G.C.wo x=false∧W.own c=none∧¬G.fg c))
 inj:∀x y c,kindOf sc x=some .cell→(kindOf sc y=some .cell∨kindOf sc y=some .free)→e.cells.lookup x=some c→e.cells.lookup y=some c→x=y
theorem ak.old{sc:Scope}{env:af}{e:Env}{W W':Wd}{H H':AH}{s s':Shared}{X:Addr→Prop}(x:ak sc env e W s)(P:ah W H s X W' H' s')
  (hX:∀a,X a→a≠e.locals∧∀y,(kindOf sc y=some .cell∨(kindOf sc y=some .free∧(aS env y).isSome=true))→e.cells.lookup y≠some a):ak sc env e W' s':=by
 have kp:∀a o,s.heap.get? a=some o→¬G.fg a→W.own a=none→¬X a→s'.heap.get? a=some o:=fun a o h1 h2 h3 h4=>P.keep a o h1 h2 (fun k hk=>by rw[h3] at hk;exact nE hk) h4
 have ow:∀a,a<s.heap.objs.size→W.own a=none→W'.own a=none:=fun a h1 h2=>by
  induction hh:W'.own a with
  |none=>rfl|some k=>
   rcases P.Dz a k hh with h3|h3
   ·rw[h2] at h3;exact nE h3
   ·exact absurd h1 (Nat.not_lt_of_le h3.1)
 have zn:∀a,a<s.heap.objs.size→W.own a=none→¬X a→W.Z a=none→W'.Z a=none:=fun a h1 h2 h3 h4=>by
  induction hh:W'.Z a with
  |none=>rfl|some o=>
   rcases P.wO a o hh with h5|h5|⟨k,h5,_⟩|h5
   ·rw[h4] at h5;exact nE h5
   ·exact absurd h1 (Nat.not_lt_of_le h5)
   ·rw[h2] at h5;exact nE h5
   ·exact absurd h5 h3
 refine⟨x.kind,x.globals,x.builtins,x.code,x.kinds,?_,?_,?_,x.inj⟩
 ·refine x.locals.elim fun o JG=>?_;refine JG.elim fun es SP=>?_;refine SP.elim fun ep JH=>?_;refine JH.elim fun m uY=>?_;obtain h1:=uY.1;obtain h2:=uY.2.1;obtain h3:=uY.2.2.1;obtain h4:=uY.2.2.2.1;obtain h5:=uY.2.2.2.2.1;obtain h6:=uY.2.2.2.2.2.1;obtain h7:=uY.2.2.2.2.2.2
  obtain nx:¬X e.locals:=fun h=>(hX _ h).1 rfl
  obtain lt:=Heap.lt_size h1;obtain JI:=kp _ _ h1 h2 h5 nx;refine⟨o,es,ep,m,JI,h2,h3,?_,ow _ lt h5,zn _ lt h5 nx h6,fun y v hk hv=>?_⟩
  ·obtain⟨o',JJ,SQ,e1,r⟩:=h4;rw[h1] at e1;obtain rfl:=Option.some.inj e1;exact⟨o,JJ,SQ,JI,r⟩
  ·obtain⟨z,hz,hr⟩:=h7 y v hk hv;exact⟨z,hz,hr.mono P.le⟩
 ·intro y hy;refine(x.cells y hy).elim fun c SR=>?_;refine SR.elim fun o JK=>?_;refine JK.elim fun u su=>?_;obtain h1:=su.1;obtain h2:=su.2.1;obtain h3:=su.2.2.1;obtain h4:=su.2.2.2.1;obtain h5:=su.2.2.2.2.1;obtain h6:=su.2.2.2.2.2
  have nx:¬X c:=fun h=>(hX _ h).2 y (.inl hy) h1
  obtain lt:=Heap.lt_size h2;refine⟨c,o,u,h1,kp _ _ h2 h3 h5 nx,h3,h4,ow _ lt h5,?_⟩
  revert h6
  induction aS env y with
  |none=>exact zn _ lt h5 nx|some v=>
   rintro⟨⟨z,h7,h8⟩,h9⟩;refine⟨⟨z,h7,h8.mono P.le⟩,?_⟩;by_cases hw:G.C.wo y=true
   ·rw[if_pos hw] at h9⊢;exact P.le.z _ _ h9
   ·rw[if_neg hw] at h9⊢;exact zn _ lt h5 nx h9
 ·intro y v hy hv;refine(x.frees y v hy hv).elim fun c SS=>?_;refine SS.elim fun o SV=>?_;refine SV.elim fun z yb=>?_;obtain h1:=yb.1;obtain h2:=yb.2.1;obtain h4:=yb.2.2.1;obtain h5:=yb.2.2.2.1;obtain h8:=yb.2.2.2.2.1;obtain h6:=yb.2.2.2.2.2
  rcases h6 with h6|⟨hw,h6,h3⟩
  ·exact⟨c,o,z,h1,P.sim.z _ _ (P.le.z _ _ h6),h4,h5.mono P.le,h8,.inl (P.le.z _ _ h6)⟩
  ·obtain nx:¬X c:=fun h=>(hX _ h).2 y (.inr ⟨hy,by rw[hv];rfl⟩) h1
   exact⟨c,o,z,h1,kp _ _ h2 h3 h6 nx,h4,h5.mono P.le,h8,.inr ⟨hw,ow _ (Heap.lt_size h2) h6,h3⟩⟩
theorem ak.expr{sc:Scope}{env:af}{e:Env}{W W':Wd}{H H':AH}{s s':Shared}(x:ak sc env e W s)(P:ah W H s (fun a=>False) W' H' s'):ak sc env e W' s':=x.old P fun a h=>h.elim
structure bx(A:Around)(n:Nat):Prop where
 handled:A.handled=none
 depth:A.depth+n<recursionLimit
 units:A.units+12* n<cLine
abbrev aI:Addr→Prop:=fun a=>False
abbrev aT(W:Wd)(H:AH)(s:Shared)(X:Addr→Prop)(H':AH)(P:Wd→Shared→Prop):Shared→Prop:=fun s'=>∃W',ah W H s X W' H' s'∧P W' s'
def lg(W:Wd):Fl→Flow→Prop|.next,f=>f=.next|.cont,f=>f=.cont|.ret v,f=>∃x,f=.ret x∧Rel W v x
theorem bx.le{A:Around}{n m:Nat}(h:bx A n)(hm:m≤n):bx A m:=⟨h.handled,by obtain this:=h.depth;exact gS (nat_lit 0x230811130121081102) ae this hm,by obtain this:=h.units;lia⟩
theorem aH.toks{W:Wd}{H:AH}{s:Shared}(S:aH W H s)(t:Nat):aH W H {s with toks:=t}:=⟨S.z,S.ju,S.b9,S.sr,S.obj,S.tab,S.base⟩
theorem ah.toks{W:Wd}{H:AH}{s:Shared}(S:aH W H s)(X:Addr→Prop)(t:Nat):ah W H s X W H {s with toks:=t}:=⟨S.toks t,.refl W,fun a a h=>h,fun a a h=>.inl h,fun a a h=>.inl h,fun a a h a a a=>h,fun a ps a h=>⟨#[],by exact h⟩,fun a h=>h,Nat.le_refl _,Nat.le_refl _,rfl,rfl⟩
section
variable{n:Nat}{A:Around}{E:Value→Shared→Prop}{W:Wd}{H:AH}{s:Shared}{sc:Scope}{env:af}{e':Env}
theorem bN{X:Addr→Prop}{P:Wd→Shared→Prop}(S:aH W H s)(h:P W s):aT W H s X H P s:=⟨W,.refl S,h⟩
theorem cD{X:Addr→Prop}{P:Wd→Shared→Prop}(S:aH W H s)(t:Nat)(h:P W {s with toks:=t}):aT W H s X H P {s with toks:=t}:=⟨W,.toks S X t,h⟩
theorem sy{α:Type}{o:Option α}{H H':AH}{a:α}(h:opt o H=some (a,H')):o=some a∧H'=H:=by
 induction o with |none=>exact nE h|some b=>cases h;exact⟨rfl,rfl⟩
theorem aR{α:Type}{a b:α}{H H':AH}(h:(pure a:M α) H=some (b,H')):b=a∧H'=H:=by have h':some (a,H)=some (b,H'):=h;cases h';exact⟨rfl,rfl⟩
theorem j9{x:Str}{v:V}(h:dW G.C sc env x=some v)(S:aH W H s)(N:ak sc env e' W s):
  wpAny (model G.prog G.w) A (loadName e' x) (fun y=>aT W H s aI H fun W' a=>Rel W' v y) E s:=by
 unfold dW at h;induction hk:kindOf sc x with
 |none=>obtain h:=hk▸h;exact nE h
 |some k=>
  obtain h:=hk▸h;induction k with
  |«local»=>
   refine N.locals.elim fun o SW=>?_;refine SW.elim fun es SX=>?_;refine SX.elim fun ep SY=>?_;refine SY.elim fun m ND=>?_;obtain h4:=ND.2.2.2.1;obtain h7:=ND.2.2.2.2.2.2
   obtain⟨y,hy,hr⟩:=h7 x v hk h;obtain gV:=(N.kinds x _ hk (by decide)).resolve_right (fun q=>nomatch q.1);exact wpAny_loadName_local N.kind gV h4 hy (bN S hr)
  |cell=>
   refine(N.cells x hk).elim fun c NF=>?_;refine NF.elim fun o NG=>?_;refine NG.elim fun u wQ=>?_;obtain h1:=wQ.1;obtain h2:=wQ.2.1;obtain h4:=wQ.2.2.2.1;obtain h6:=wQ.2.2.2.2.2
   dsimp only at h;rw[h] at h6;obtain⟨⟨y,rfl,hr⟩,_⟩:=h6;have gV:=(N.kinds x _ hk (by decide)).resolve_right (fun q=>nomatch q.1)
   exact wpAny_loadName_cell N.kind gV h1 ⟨o,h2,h4⟩ (bN S hr)
  |free=>
   refine(N.frees x v hk h).elim fun c NH=>?_;refine NH.elim fun o NI=>?_;refine NI.elim fun y sA=>?_;obtain h1:=sA.1;obtain h2:=sA.2.1;obtain h4:=sA.2.2.1;obtain h5:=sA.2.2.2.1;obtain h8:=sA.2.2.2.2.1
   rcases N.kinds x _ hk (by decide) with gV|⟨_,gV⟩
   ·exact wpAny_loadName_free N.kind gV h1 ⟨o,h2,h4⟩ (bN S h5) h8
   ·exact wpAny_loadName_cell N.kind gV h1 ⟨o,h2,h4⟩ (bN S h5)
  |globalImplicit=>
   refine S.cj.glob.elim fun mg z=>z.elim fun mb z=>z.elim fun g1 z=>z.elim fun g2 z=>z.elim fun g3 a=>?_
   obtain⟨y,hr,hy⟩:=g3 x v h;have gV:=(N.kinds x _ hk (by decide)).resolve_right (fun q=>nomatch q.1)
   obtain core:wpAny (model G.prog G.w) A (loadGlobal e' x) (fun y=>aT W H s aI H fun W' a=>Rel W' v y) E s:=by
    rcases hy with hy|⟨hy,NJ⟩
    ·exact Calls.loadGlobal_global (by exact N.globals▸(g1)) hy (bN S (hr W))
    ·exact Calls.loadGlobal_builtin (by exact N.globals▸(g1)) hy (by refine N.builtins▸?_;exact g2) NJ (bN S (hr W))
   exact(PyProof.Rows.loadName_read N.kind gV).symm▸core
  |_=>exact nE h
theorem yc{α:Type}{t:Sem α}{H₁ H':AH}{X Y:Addr→Prop}{Q:α→Wd→Shared→Prop}{W₁:Wd}{s₁:Shared}(S:aH W H s)(P₁:ah W H s Y W₁ H₁ s₁)
  (h2:wpAny (model G.prog G.w) A t (fun b=>aT W₁ H₁ s₁ X H' (Q b)) E s₁)(hY:∀a,Y a→X a:=by intro _ h;exact h.elim):
  wpAny (model G.prog G.w) A t (fun b=>aT W H s X H' (Q b)) E s₁:=
 wpAny_mono h2 (fun b s₂ ⟨W₂,P₂,hQ⟩=>⟨W₂,(P₁.wk hY).trans S P₂,hQ⟩) fun c c h=>h
end
theorem Base.mono{Z Z':Addr→Option Obj}(h:Base Z)(hz:∀a o,Z a=some o→Z' a=some o):Base Z':=fun h' hh=>h h' fun a o e=>hh a o (hz a o e)
theorem FldR.mono{W W':Wd}{m:Str→Option Value}{fs:List (Str×V)}(x:FldR W m fs)(L:W.Le W'):FldR W' m fs:=fun y=>by
 obtain this:=x y
 revert this
 induction fs.lookup y with |none=>exact fun h=>h|some v=>exact fun⟨z,h1,h2⟩=>⟨z,h1,h2.mono L⟩
theorem AR.keeps{W W':Wd}{h h':Heap}{d:Addr}{fs:List (Str×V)}(x:AR W h d fs)(L:W.Le W')(hk:∀o,h.get? d=some o→h'.get? d=some o):AR W' h' d fs:=by obtain⟨m,hn,hm⟩:=x;exact⟨m,hn.at hk,hm.mono L⟩
theorem lK.keeps{W W':Wd}{h h':Heap}{a:Addr}{k:Nat}{o:az}(x:lK W h a k o)(L:W.Le W')(hO:∀b,W.own b=some k→W'.own b=some k)
  (ha:∀o,h.get? a=some o→h'.get? a=some o)(hd:∀b o,W.own b=some k→h.get? b=some o→h'.get? b=some o):lK W' h' a k o:=by
 induction o with
 |gone=>trivial|lst vs=>obtain⟨n,xs,h1,h2,h3⟩:=x;exact⟨n,xs,ha _ h1,h2,h3.mono L⟩
 |aF kvs=>obtain⟨n,es,h1,h0,hn,h2,h3⟩:=x;exact⟨n,es,ha _ h1,h0,hn,h2,h3.mono L⟩
 |inst c fs=>obtain⟨o,d,h1,h2,h3,h4,h6,h7,hz,h8⟩:=x;exact⟨o,d,ha _ h1,h2,h3,h4,h6,hO _ h7,hz,h8.keeps L fun o e=>hd _ _ h7 e⟩
 |o_ c fs=>
  obtain⟨o,fd,h1,h2,h3,h4⟩:=x;refine⟨o,fd,ha _ h1,h2,h3,?_⟩;rcases h4 with h4|⟨d,e1,e2,e3,e4,e5⟩
  ·exact .inl h4
  ·exact .inr ⟨d,e1,e2,e3,hO _ e4,e5.keeps L fun o e=>hd _ _ e4 e⟩
 |lI f stop live=>obtain⟨o,y,z,h1,h2,h3,h4⟩:=x;exact⟨o,y,z,ha _ h1,h2,h3,fun hl=>⟨(h4 hl).1.mono L,(h4 hl).2.mono L⟩⟩
section
variable{W W':Wd}{H:AH}{s s':Shared}
theorem aH.grow(S:aH W H s)(hk:∀a o,s.heap.get? a=some o→s'.heap.get? a=some o)(hsz:s.heap.objs.size≤s'.heap.objs.size)(hφ:W'.φ=W.φ)(hO:W'.own=W.own)
  (hz:∀a o,W.Z a=some o→W'.Z a=some o)(NK:∀a o,W'.Z a=some o→W.Z a=some o∨(s.heap.objs.size≤a∧s'.heap.get? a=some o)):aH W' H s':=by
 obtain L:W.Le W':=⟨hz,fun k a h=>by exact hφ▸(h)⟩;have zn:∀a,a<s.heap.objs.size→W.Z a=none→W'.Z a=none:=fun a h1 h2=>by
  induction e:W'.Z a with
  |none=>rfl|some o=>
   rcases NK a o e with h3|h3
   ·rw[h2] at h3;exact nE h3
   ·exact absurd h1 (Nat.not_lt_of_le h3.1)
 refine⟨fun a o e=>?_,fun k a h=>?_,fun a k h=>?_,fun a k h hl=>?_,fun k o h=>?_,fun c P q hm=>?_,S.base.mono hz⟩
 ·rcases NK a o e with h|h
  ·exact hk _ _ (S.z a o h)
  ·exact h.2
 ·obtain h:=hφ▸h;rw[hO];exact S.ju k a h
 ·rw[hO] at h;exact⟨(S.b9 a k h).1,Nat.lt_of_lt_of_le (S.b9 a k h).2 hsz⟩
 ·rw[hO] at h;exact zn a (S.b9 a k h).2 (S.sr a k h hl)
 ·obtain⟨a,h1,h2⟩:=S.obj k o h;exact⟨a,by rw[hφ];exact h1,h2.keeps L (fun b hb=>by exact hO▸(hb)) (fun o e=>hk _ _ e) fun b o d e=>hk _ _ e⟩
 ·obtain⟨h1,⟨oc,h0⟩,h2,mS,ps,h3,h4,h5⟩:=S.tab c P q hm;refine⟨h1.keeps hk,⟨oc,hz _ _ h0⟩,zn P (Heap.lt_size h3) h2,by refine hO▸?_;exact mS,ps,hk _ _ h3,h4,fun pos cv hc=>(h5 pos cv hc).mono hz⟩
theorem ah.grow(S:aH W H s)(X:Addr→Prop)(hk:∀a o,s.heap.get? a=some o→s'.heap.get? a=some o)(hsz:s.heap.objs.size≤s'.heap.objs.size)(hφ:W'.φ=W.φ)(hO:W'.own=W.own)
  (hz:∀a o,W.Z a=some o→W'.Z a=some o)(NK:∀a o,W'.Z a=some o→W.Z a=some o∨(s.heap.objs.size≤a∧s'.heap.get? a=some o))(rP:s'.os=s.os)(hg:s'.gens=s.gens):ah W H s X W' H s':=
 ⟨S.grow hk hsz hφ hO hz NK,⟨hz,fun k a h=>by exact hφ▸(h)⟩,fun a k h=>by rw[hO];exact h,fun a k h=>.inl (by rw[hO] at h;exact h),fun a o h=>(NK a o h).imp (fun x=>x) fun x=>.inl x.1,fun a o e b b b=>hk _ _ e,fun a ps b e=>⟨#[],by exact hk _ _ e⟩,fun k h=>h,Nat.le_refl _,hsz,rP,hg⟩
noncomputable def Wd.add(W:Wd)(a:Addr)(o:Obj):Wd:={W with Z:=fun b=>if b=a then some o else W.Z b}
theorem Wd.aU(W:Wd)(a:Addr)(o:Obj):(W.add a o).Z a=some o:=by simp[Wd.add]
theorem aH.S0(S:aH W H s){a:Addr}{o:Obj}(h:W.Z a=some o):a<s.heap.objs.size:=Heap.lt_size (S.z a o h)
theorem aH.ic(S:aH W H s){a:Addr}(h:s.heap.objs.size≤a):W.Z a=none:=by
 induction e:W.Z a with |none=>rfl|some o=>exact absurd (S.S0 e) (Nat.not_lt_of_le h)
set_option tactic.hygienic true in
theorem ah.push(S:aH W H s)(X:Addr→Prop)(o:Obj)(ho:o.isFreed=false:=by rfl)(t:Nat:=s.toks):ah W H s X (W.add s.heap.objs.size o) H {s with heap:=s.heap.push o,toks:=t}:=
 .grow S X (fun a o' e=>Heap.get?_push_of_some _ e) (by rw[Heap.size_push];exact aV (nat_lit 6719275264) ae) rfl rfl
  (fun a o' h=>by refine(?_:(if a=s.heap.objs.size then some o else W.Z a)=some o');rw[if_neg (Nat.ne_of_lt (S.S0 h))];exact h)
  (fun a o' h=>by
   have h':(if a=s.heap.objs.size then some o else W.Z a)=some o':=h;split at h'
   ·rename_i he;obtain rfl:=Option.some.inj h';exact .inr ⟨he▸Nat.le_refl _,by rw[he];exact Heap.get?_push_size _ ho⟩
   ·exact .inl h') rfl rfl
theorem ah.fT(S:aH W H s)(X:Addr→Prop)(o:Obj)(t:Nat:=s.toks):ah W H s X W H {s with heap:=s.heap.push o,toks:=t}:=.grow S X (fun a o' e=>Heap.get?_push_of_some _ e) (by rw[Heap.size_push];exact aV (nat_lit 6719275264) ae) rfl rfl (fun a o' h=>h) (fun a o' h=>.inl h) rfl rfl
theorem aA.length:∀{vs:List V} {xs:List Value},aA W vs xs→vs.length=xs.length|[],[],aK=>rfl|v::vs,x::xs,h=>by simp only[List.length_cons,aA.length h.2]|[],aK::bA,h=>False.elim h|aK::bA,[],h=>False.elim h
theorem aA.append:∀{vs:List V} {xs:List Value} {us:List V} {ys:List Value},aA W vs xs→aA W us ys→aA W (vs++us) (xs++ys)|[],[],aK,bA,gI,h=>h|v::vs,x::xs,aK,bA,h,h'=>by exact⟨h.1,h.2.append h'⟩|[],aK::bA,gI,ux,h,Gd=>False.elim h|aK::bA,[],gI,ux,h,Gd=>False.elim h
theorem aA.get:∀{vs:List V} {xs:List Value} {i:Nat} {v:V},aA W vs xs→vs[i]?=some v→∃x,xs[i]?=some x∧Rel W v x|[],aK,i,v,h,hv=>by simp at hv|v::vs,x::xs,0,u,h,hv=>by simp only[List.getElem?_cons_zero,Option.some.injEq] at hv⊢;subst hv;exact⟨x,rfl,h.1⟩|v::vs,x::xs,i+1,u,h,hv=>by exact h.2.get hv|aK::bA,[],gI,ux,h,Gd=>False.elim h
theorem aA.take:∀{vs:List V} {xs:List Value} (n:Nat),aA W vs xs→aA W (vs.take n) (xs.take n)|[],[],n,aK=>by rw[List.take_nil,List.take_nil];trivial|v::vs,x::xs,0,aK=>by trivial|v::vs,x::xs,n+1,h=>by exact⟨h.1,h.2.take n⟩|[],aK::bA,gI,h=>False.elim h|aK::bA,[],gI,h=>False.elim h
theorem aA.drop:∀{vs:List V} {xs:List Value} (n:Nat),aA W vs xs→aA W (vs.drop n) (xs.drop n)|[],[],n,aK=>by rw[List.drop_nil,List.drop_nil];trivial|v::vs,x::xs,0,h=>h|v::vs,x::xs,n+1,h=>by exact h.2.drop n|[],aK::bA,gI,h=>False.elim h|aK::bA,[],gI,h=>False.elim h
end
section
variable{A:Around}{E:Value→Shared→Prop}{W:Wd}{H:AH}{s:Shared}
theorem br{n:Nat}(h:n<ai):n≤sizeLine:=by rw[sizeLine_eq];unfold ai at h;exact aV (nat_lit 0x10000007f0011000006f01101) ae h
theorem ck{n:Nat}(h:Mine.sizeOk n=true):n<ai:=by simpa [Mine.sizeOk,ai] using h
theorem fH{i:Int}(h:small i=true):Builtin.Int.intBits i≤128:=by
 obtain hn:=of_decide_eq_true h;unfold Builtin.Int.intBits;split
 ·exact Nat.zero_le _
 ·rcases Nat.eq_zero_or_pos i.natAbs with h0|hp
  ·rw[h0];decide
  ·obtain this:=(Nat.log2_lt (Nat.ne_of_gt hp)).mpr hn;assumption
theorem sC{i j:Int}(h:small i=true)(h':small j=true):IntMulOk i j:=IntMulOk.of_le (fH h) (fH h') (by decide)
theorem noPylong{i j:Int}(h:small j=true):Builtin.divisionGoesByPylong i j=false:=by
 refine PyProof.noPylong_of_log2 ?_;have hn:=of_decide_eq_true h
 rcases Nat.eq_zero_or_pos j.natAbs with h0|hp
 ·rw[h0];decide+kernel
 ·have :=(Nat.log2_lt (Nat.ne_of_gt hp)).mpr hn;exact aV (nat_lit 0x23284f01180e01101) ae this
end
section
variable{W:Wd}{α:Type}{a:V}{x:Value}{c:α}{P:Value→Prop}
theorem ie{a b:Option α}{P:Prop}(h:alt a b=some c)(k:a=some c→P)(l:b=some c→P):P:=by
 induction a with |none=>exact l h|some _=>exact k h
@[elab_as_elim] theorem aB.el{f:Int→Option α}(h:aB a f=some c)(hx:Rel W a x)(k:∀i t,f i=some c→P (.int i t)):P x:=by
 induction a using V.casesOn with
 |int i=>obtain⟨t,rfl⟩:=hx;exact k i t h
 |_=>exact nE h
@[elab_as_elim] theorem onStr.el{f:Str→Option α}(h:onStr a f=some c)(hx:Rel W a x)(k:∀i t,i.length<ai→f i=some c→P (.str i t)):P x:=by
 induction a using V.casesOn with
 |str i=>obtain⟨hl,t,rfl⟩:=hx;exact k i t hl h
 |_=>exact nE h
@[elab_as_elim] theorem cI.el{f:Bool→Option α}(h:cI a f=some c)(hx:Rel W a x)(k:∀i,f i=some c→P (.bool i)):P x:=by
 induction a using V.casesOn with |bool i=>subst hx;exact k i h|_=>exact nE h
@[elab_as_elim] theorem j0.el{f:Option α}(h:j0 a f=some c)(hx:Rel W a x)(k:f=some c→P .none):P x:=by
 induction a using V.casesOn with |none=>subst hx;exact k h|_=>exact nE h
theorem onSet.el{f:List Int→Option α}{P:Prop}(h:onSet a f=some c)(k:∀i,a=.xY i→f i=some c→P):P:=by
 induction a using V.casesOn with |xY i=>exact k i rfl h|_=>exact nE h
@[elab_as_elim] theorem wm.el{f:Nat→Option α}(h:wm a f=some c)(hx:Rel W a x)(k:∀i b,W.φ i=some b→f i=some c→P (.ref b)):P x:=by
 induction a using V.casesOn with
 |ref i=>obtain⟨b,rfl,hb⟩:=hx;exact k i b hb h
 |_=>exact nE h
@[elab_as_elim] theorem DN.el{f:Int→Option α}{g:Str→Option α}(h:DN a f g=some c)(hx:Rel W a x)(k:∀i t,f i=some c→P (.int i t))(l:∀i t,i.length<ai→g i=some c→P (.str i t)):P x:=by
 induction a using V.casesOn with
 |int i=>obtain⟨t,rfl⟩:=hx;exact k i t h
 |str i=>obtain⟨hl,t,rfl⟩:=hx;exact l i t hl h
 |_=>exact nE h
@[elab_as_elim] theorem k8.el{as:List V}{xs:List Value}{P:List Value→Prop}{f:V→Option α}(h:k8 as f=some c)(r:aA W as xs)(k:∀v y,Rel W v y→f v=some c→P [y]):P xs:=by
 induction as using List.casesOn with |nil=>exact nE h|cons v as=>induction as using List.casesOn with |cons _ _=>exact nE h|nil=>induction xs using List.casesOn with |nil=>exact r.elim|cons y xs=>induction xs using List.casesOn with |cons _ _=>exact r.2.elim|nil=>exact k v y r.1 h
@[elab_as_elim] theorem wq.el{as:List V}{xs:List Value}{P:List Value→Prop}{f:V→V→Option α}(h:wq as f=some c)(r:aA W as xs)(k:∀v y u z,Rel W v y→Rel W u z→f v u=some c→P [y,z]):P xs:=by
 induction as using List.casesOn with |nil=>exact nE h|cons v as=>induction as using List.casesOn with |nil=>exact nE h|cons u as=>induction as using List.casesOn with |cons _ _=>exact nE h|nil=>induction xs using List.casesOn with |nil=>exact r.elim|cons y xs=>induction xs using List.casesOn with |nil=>exact r.2.elim|cons z xs=>induction xs using List.casesOn with |cons _ _=>exact r.2.2.elim|nil=>exact k v y u z r.1 r.2.1 h
@[elab_as_elim] theorem wu.el{f:String→Option α}(h:wu a f=some c)(hx:Rel W a x)(k:∀i,f i=some c→P (.type i)):P x:=by
 induction a using V.casesOn with |typ i=>subst hx;exact k i h|_=>exact nE h
theorem k8.inv{as:List V}{P:Prop}{f:V→Option α}(h:k8 as f=some c)(k:∀v,as=[v]→f v=some c→P):P:=by
 induction as with |nil=>exact nE h|cons v as=>induction as with |cons _ _=>exact nE h|nil=>exact k v rfl h
theorem wq.inv{as:List V}{P:Prop}{f:V→V→Option α}(h:wq as f=some c)(k:∀v u,as=[v,u]→f v u=some c→P):P:=by
 induction as using List.casesOn with |nil=>exact nE h|cons v as=>induction as using List.casesOn with |nil=>exact nE h|cons u as=>induction as using List.casesOn with |cons _ _=>exact nE h|nil=>exact k v u rfl h
theorem aB.inv{f:Int→Option α}{P:Prop}(h:aB a f=some c)(k:∀i,a=.int i→f i=some c→P):P:=by
 induction a using V.casesOn with |int i=>exact k i rfl h|_=>exact nE h
theorem DR.el{f:Option α}{P:Prop}(h:DR a f=some c)(k:∀i j,a=.bm i j→f=some c→P):P:=by
 induction a using V.casesOn with |bm i j=>exact k i j rfl h|_=>exact nE h
theorem sD{c:Bool}{a r:α}{P:Prop}(h:(bif c then some a else none)=some r)(k:c=true→a=r→P):P:=by
 induction c with |true=>exact k rfl (Option.some.inj h)|false=>exact nE h
theorem eg.el{f:List V→Option α}{P:Prop}(h:eg a f=some c)(k:∀i,a=.lst i→f i=some c→P):P:=by
 induction a using V.casesOn with |lst i=>exact k i rfl h|_=>exact nE h
theorem k7.el{f:List V→Option α}{P:Prop}(h:k7 a f=some c)(k:∀i,a=.tup i→f i=some c→P):P:=by
 induction a using V.casesOn with |tup i=>exact k i rfl h|_=>exact nE h
theorem gH.el{f:List (Str×V)→Option α}{P:Prop}(h:gH a f=some c)(k:∀i,a=.aF i→f i=some c→P):P:=by
 induction a using V.casesOn with |aF i=>exact k i rfl h|_=>exact nE h
end
section
variable{A:Around}{E:Value→Shared→Prop}{W:Wd}{H:AH}{s:Shared}
theorem bW{i:Int}{X:Addr→Prop}(S:aH W H s):aT W H s X H (fun W' a=>Rel W' (.int i) (.int i s.toks)) {s with toks:=s.toks+1}:=cD S _ ⟨_,rfl⟩
theorem dZ{x:Str}{t u:Nat}{X:Addr→Prop}(S:aH W H s)(hx:x.length<ai):aT W H s X H (fun W' a=>Rel W' (.str x) (.str x t)) {s with toks:=u}:=cD S _ (by exact⟨hx,_,rfl⟩)
theorem JL{i j:Int}{t u:Tok}{Q:Value→Shared→Prop}(S1:1<i)(hi:small i=true)(h0:0≤j)(h1:j<100)(h:∀t k,Q (.int (i^j.toNat) t) {s with toks:=k}):
  wpAny (model G.prog G.w) A (binaryOp .Pow (.int i t) (.int j u)) Q E s:=by
 induction c1:j==0 with
 |true=>cases eq_of_beq c1;exact AutoIntOps.pow_0 h0 c1 (Eq.subst (motive:=fun z=>Q (.int z s.toks) _) (Int.pow_zero i) (h _ _))
 |false=>obtain n0:(i==0)=false:=oK (Int.ne_of_gt (Int.lt_trans Int.zero_lt_one S1));obtain n1:(i==1)=false:=oK (Int.ne_of_gt S1);obtain n2:(i==-1)=false:=oK (Int.ne_of_gt (Int.lt_trans (by simp_all) S1));refine AutoIntOps.pow_4 h0 (fun q=>nomatch c1.symm.trans q) (by simp only[n0,n1];exact Bool.false_ne_true) (fun q=>nomatch n2.symm.trans q) (fun q=>?_) (h _ _);obtain hb:((Builtin.Int.intBits i:Nat):Int)* j≤128* 100:=Int.mul_le_mul (Int.ofNat_le.mpr (fH hi)) (Int.le_of_lt h1) h0 (by simp_all);exact absurd (of_decide_eq_true q) (Int.not_lt.mpr (Int.le_trans hb (by decide)))
set_option tactic.hygienic true in
theorem uZ{x y:Str}{t u:Tok}{Q:Value→Shared→Prop}(hz:(x++y).length≤sizeLine)(h:∀t k,Q (.str (x++y) t) {s with toks:=k}):
  wpAny (model G.prog G.w) A (binaryOp .Add (.str x t) (.str y u)) Q E s:=by
 refine P.add_str ?_;have ex:x.length=0→x=Str.empty:=fun h=>by induction x with |mk c=>simp only[Str.length] at h;rw[Array.size_eq_zero_iff.mp h];rfl
 have ey:y.length=0→y=Str.empty:=fun h=>by induction y with |mk c=>simp only[Str.length] at h;rw[Array.size_eq_zero_iff.mp h];rfl
 split
 ·rename_i hx;have AY:x.length=0:=by simpa using hx
  rw[ex AY] at h;rw[Str.empty_append] at h;exact h u s.toks
 ·split
  ·rename_i hy;obtain NJ:y.length=0:=by simpa using hy
   obtain h:=(ey NJ)▸h;exact h t s.toks
  ·exact⟨hz,h _ _⟩
theorem wR{W':Wd}{v:V}{x:Value}(h:Rel W' v x):∀k:Nat,aA W' (List.replicate k v) (List.replicate k x)|0=>trivial|k+1=>⟨h,wR h k⟩
theorem sE(x:Value):∀(k:Nat) (acc:Array Value),(List.foldl (fun x1 x2=>x1++x2) acc (List.replicate k #[x])).toList=acc.toList++List.replicate k x|0,acc=>(List.append_nil _).symm|k+1,acc=>by simp only[List.replicate_succ,List.foldl_cons,sE x k,Array.toList_append,List.append_assoc];rfl
theorem j_{α:Type}{c:Bool}{a r:α}{P:Prop}(h:(if c=true then some a else none)=some r)(k:c=true→a=r→P):P:=by
 cases c with |true=>exact k rfl (Option.some.inj h)|false=>exact nE h
theorem yd{a b c:V}{x y:Value}(h:zG a b=some c)(S:aH W H s)(hx:Rel W a x)(hy:Rel W b y):wpAny (model G.prog G.w) A (binaryOp .Add x y) (fun z=>aT W H s aI H fun W' d=>Rel W' c z) E s:=by
 induction a using V.casesOn with
 |int i=>obtain⟨t,rfl⟩:=hx;exact aB.el h hy fun j u h=>Option.some.inj h▸P.add_int (bW S)
 |str p=>obtain⟨_,t,rfl⟩:=hx;exact onStr.el h hy fun q u d h=>j_ h fun hs h=>have hz:=strLen_append ..▸ck hs;h▸uZ (br hz) fun t k=>dZ S hz
 |lst p=>
   refine eg.el h fun q e h=>?_
   cases e;obtain⟨a1,n1,DY,rfl,z1,l1,r1⟩:=hx;obtain⟨a2,n2,JM,rfl,z2,l2,r2⟩:=hy;refine j_ h fun hs h=>h▸?_
   have hz:=ck hs;have e1:p.length=DY.size:=r1.length;have e2:q.length=JM.size:=r2.length
   exact P.add_list (S.z _ _ z1) (S.z _ _ z2) ⟨_,.push S aI _,_,_,_,rfl,Wd.aU ..,List.length_append ..▸hz,(show(DY++JM).toList=DY.toList++JM.toList from Array.toList_append ..)▸(r1.append r2).mono (ah.push S aI _).le⟩ (br (e1▸e2▸hz))
 |tup p=>
   refine k7.el h fun q e h=>?_
   cases e;obtain⟨a1,n1,DY,rfl,z1,l1,r1⟩:=hx;obtain⟨a2,n2,JM,rfl,z2,l2,r2⟩:=hy;refine j_ h fun hs h=>h▸?_
   obtain h1:=aW hs;obtain h2:=aW h1.1;obtain hz:=ck h1.2;have e1:p.length=DY.size:=r1.length;have e2:q.length=JM.size:=r2.length
   have ne:∀{l:List V} {xs:Array Value},l.length=xs.size→(l.length !=0)=true→¬xs.isEmpty=true:=fun e h q=>bne_iff_ne.mp h (e.trans (Array.isEmpty_iff_size_eq_zero.mp q))
   exact P.add_tuple (S.z _ _ z1) (S.z _ _ z2) (ne e1 h2.1) (ne e2 h2.2) ⟨_,.push S aI _,_,_,_,rfl,Wd.aU ..,List.length_append ..▸hz,(show(DY++JM).toList=DY.toList++JM.toList from Array.toList_append ..)▸(r1.append r2).mono (ah.push S aI _).le⟩ (br (e1▸e2▸hz))
 |_=>exact nE h
theorem DZ{a1:Addr}{n1:Nat}{v:V}{x:Value}{j:Int}{u:Tok}(S:aH W H s)(z1:W.Z a1=some (gW #[x] n1))(r1:Rel W v x)(h0:0≤j)(hj:j<1000):wpAny (model G.prog G.w) A (binaryOp .Mult (.ref a1) (.int j u)) (fun z=>aT W H s aI H fun W' a=>Rel W' (.lst (List.replicate j.toNat v)) z) E s:=by
 obtain g:=S.z _ _ z1;obtain hn:j.toNat≤1000:=Int.toNat_le.mpr (Int.le_of_lt hj);obtain hm:(#[x]:Array Value).size* j.toNat≤1000:=Nat.le_trans (Nat.le_of_eq (Nat.one_mul _)) hn
 refine wpAny_binaryOp_repeat_ref (T:="list") (U:="int") rfl ⟨_,g,rfl⟩ (fun s'=>typeIs_int s' j u) noFill_list_mul F.fills_int_mul F.slot_int_rmul repeat_list F.slot_int_index.lookup
  (call_meets F.slot_int_rmul (typeIs_int s j u) F.entry_int_rmul (F.args_int_rmul_2 _ _) (int___rmul___int_list j u a1 #[x] n1)
   ⟨g,rfl,⟨_,g,rfl⟩,call_meets F.slot_list_mul ⟨_,g,rfl⟩ F.entry_list_mul (F.args_list_mul_2 _ _)
    (lm_list_mul_any a1 #[x] n1 none #[] j u ?_ (Nat.not_lt_of_le (Nat.le_trans hm (by decide))) (fun q=>absurd (of_decide_eq_true q) (Nat.not_lt_of_le (Nat.le_trans hm (by decide))))) ⟨g,?_⟩⟩)
 ·rw[show Builtin.List.listFitsIndex j=true from jv ⟨decide_eq_true (Int.le_trans (by decide) h0),decide_eq_true (Int.lt_trans hj (by decide))⟩];exact Bool.false_ne_true
 ·exact⟨_,.push S aI _,_,_,_,rfl,Wd.aU ..,(List.length_replicate ..)▸Nat.lt_of_le_of_lt hn (show 1000<ai by decide),(sE x j.toNat #[]).symm▸wR (r1.mono (ah.push S aI _).le) _⟩
theorem AZ{op:Operator}{a b c:V}{x y:Value}(h:binop op a b=some c)(S:aH W H s)(hx:Rel W a x)(hy:Rel W b y):
  wpAny (model G.prog G.w) A (binaryOp op x y) (fun z=>aT W H s aI H fun W' d=>Rel W' c z) E s:=by
 induction op with
 |Add=>exact yd h S hx hy|Mult=>induction a using V.casesOn with
  |int i=>obtain⟨t,rfl⟩:=hx;exact aB.el h hy fun j u h=>j_ h fun hs h=>have q:=aW hs;h▸P.mul_int (bW S) (sC q.1 q.2)
  |lst p=>
   obtain⟨a1,n1,⟨DY⟩,rfl,z1,l1,r1⟩:=hx;refine aB.el h hy fun j u h=>?_
   induction p using List.casesOn with |nil=>exact nE h|cons v p=>induction p using List.casesOn with |cons _ _=>exact nE h|nil=>induction DY using List.casesOn with |nil=>exact r1.elim|cons x r=>induction r using List.casesOn with |cons _ _=>exact r1.2.elim|nil=>exact j_ h fun hs h=>have q:=aW hs;h▸DZ S z1 r1.1 (of_decide_eq_true q.1) (of_decide_eq_true q.2)
  |_=>exact nE h
 |Sub=>exact aB.el h hx fun i t h=>aB.el h hy fun j u h=>Option.some.inj h▸P.sub_int (bW S)|FloorDiv=>
   refine aB.el h hx fun i t h=>aB.el h hy fun j u h=>j_ h fun hs h=>?_
   obtain q:=aW hs;exact h▸AutoIntOps.floordiv_1 (fun e=>bne_iff_ne.mp q.1 (eq_of_beq e)) (by exact(noPylong q.2)▸(Bool.false_ne_true)) (bW S)
 |Mod=>exact aB.el h hx fun i t h=>aB.el h hy fun j u h=>j_ h fun hs h=>h▸AutoIntOps.mod_1 (fun e=>bne_iff_ne.mp hs (eq_of_beq e)) (bW S)|Pow=>
   refine aB.el h hx fun i t h=>aB.el h hy fun j u h=>j_ h fun hs h=>?_
   have q:=aW hs;have q1:=aW q.1
   obtain q2:=aW q1.1;exact h▸JL (of_decide_eq_true q2.1) q2.2 (of_decide_eq_true q1.2) (of_decide_eq_true q.2) fun t k=>cD S _ ⟨_,rfl⟩
 |_=>exact nE h
end
end Mine
end
noncomputable section
namespace Mine
inductive Iz where
|at(i:Nat)|cast(t:Ln)|lit(n:Nat)|add(a b:Iz)|sub(a b:Iz)|neg(a:Iz)|mul(n:Nat)(a:Iz)|oM(n:Nat)(a:Iz)
namespace Iz
noncomputable def Ia:List Int→Nat→Int|[],aK=>0|a::aK,0=>a|aK::v,i+1=>Ia v i
def den(u:List Nat)(v:List Int):Iz→Int|.at i=>Ia v i|.cast t=>(t.den u:Nat)|.lit n=>Int.ofNat n|.add a b=>a.den u v+b.den u v|.sub a b=>a.den u v-b.den u v|.neg a=>-a.den u v|.mul n a=>Int.ofNat n* a.den u v|.oM n a=>a.den u v* Int.ofNat n
noncomputable def aJ(f:Nat→Int)(g:Ln→Int)(h:Nat→Int):Iz→Int|.at i=>f i|.cast t=>g t|.lit n=>h n|.add a b=>a.aJ f g h+b.aJ f g h|.sub a b=>a.aJ f g h+-1* b.aJ f g h|.neg a=>-1* a.aJ f g h|.mul n a=>Int.ofNat n* a.aJ f g h|.oM n a=>Int.ofNat n* a.aJ f g h
noncomputable def ci(i:Nat)(t:Iz):Int:=t.aJ (fun j=>bif Nat.beq i j then 1 else 0) (fun a=>0) fun a=>0
noncomputable def cn(i:Nat)(t:Iz):Int:=t.aJ (fun a=>0) (fun t=>Int.ofNat (t.co i)) fun a=>0
noncomputable def c0(t:Iz):Int:=t.aJ (fun a=>0) (fun t=>Int.ofNat t.c0) fun n=>Int.ofNat n
noncomputable def dec(f c:Nat):Iz×Nat:=match f with
|0=>(.lit 0,c)|f+1=>
 bif Nat.ble (c %16) 5 then(.at (c %16),c/16)
 else bif Nat.beq (c %16) 6 then(.at (c/16 %16),c/256)
 else bif Nat.beq (c %16) 7 then match Ln.dec 64 (c/16) with |(t,r)=>(.cast t,r)
 else bif Nat.beq (c %16) 8 then match dec f (c/16) with |(a,c)=>match dec f c with |(b,c)=>(.add a b,c)
 else bif Nat.beq (c %16) 9 then(.lit (c/16 %16),c/256)
 else bif Nat.beq (c %16) 10 then match dec f (c/256) with |(a,r)=>(.mul (c/16 %16) a,r)
 else bif Nat.beq (c %16) 11 then match dec f (c/256) with |(a,r)=>(.oM (c/16 %16) a,r)
 else bif Nat.beq (c %16) 12 then match dec f (c/16) with |(a,c)=>match dec f c with |(b,c)=>(.sub a b,c)
 else bif Nat.beq (c %16) 13 then match dec f (c/16) with |(a,r)=>(.neg a,r)
 else(.lit (c/4096 %16^(c/16 %256)),c/4096/16^(c/16 %256))
def side(b:Bool)(c:Nat):Iz×Nat:=bif b then dec 64 c else match Ln.dec 64 c with |(t,r)=>(.cast t,r)
noncomputable def jZ{α:Type}(p:Iz×Nat)(q:Nat→Iz×Nat)(m:Nat)(i:Bool)(t:Ln.Rk)(k:Nat→Bool→Ln.Rk→Iz→Iz→Nat→α):α:=match p with |(a,r)=>match q r with |(b,r)=>k m i t a b r
def ye(u:List Nat)(v:List Int)(k:Ln.Rk)(a b:Iz):Prop:=match k with |.le=>a.den u v≤b.den u v|.lt=>a.den u v<b.den u v|.eq=>a.den u v=b.den u v|.qe=>a.den u v=b.den u v|.zp=>¬a.den u v≤b.den u v|.zq=>¬a.den u v<b.den u v|.no=>False
def JN(a:Iz)(f:Ln→Prop)(g:Prop):Prop:=@Iz.casesOn (fun b=>Prop) a (fun b=>g) f (fun b=>g) (fun b b=>g) (fun b b=>g) (fun b=>g) (fun b b=>g) (fun b b=>g)
def JO(u:List Nat)(v:List Int)(i:Bool)(k:Ln.Rk)(a b:Iz):Prop:=bif i then ye u v k a b else a.JN (fun x=>b.JN (fun y=>k.den u x y) (ye u v k a b)) (ye u v k a b)
def Dn(u:List Nat)(v:List Int):Nat→Nat→Prop|0,c=>jZ (side (Nat.ble 8 (c/16 %16)) (c/256)) (side (Nat.ble 8 (c/16 %16))) (c %16) (Nat.ble 8 (c/16 %16)) (.dec (c/16 %8)) fun d i k a b d=>JO u v i k a b|n+1,c=>jZ (side (Nat.ble 8 (c/16 %16)) (c/256)) (side (Nat.ble 8 (c/16 %16))) (c %16) (Nat.ble 8 (c/16 %16)) (.dec (c/16 %8)) fun d i k a b c=>JO u v i k a b→Dn u v n c
noncomputable def step(m e:Nat)(l r P:Iz):Iz:=.add (.mul m (.add (.sub l r) (.lit e))) P
def JP(t:Bool)(m:Nat)(k:Ln.Rk)(a b P:Iz):Iz:=match k with |.le=>step m 0 a b P|.lt=>step m 1 a b P|.eq=>bif t then step m 0 a b P else step m 0 b a P|.qe=>bif t then step m 0 b a P else step m 0 a b P|.zp=>step m 1 b a P|.zq=>step m 0 b a P|.no=>P
noncomputable def sgn:Int→Bool|.ofNat _=>true|.negSucc _=>false
noncomputable def S2:Int→Bool|.ofNat (_+1)=>true|_=>false
noncomputable def XX:Int→Bool|.ofNat 0=>true|_=>false
noncomputable def un(u:List Nat)(i:Nat)(P:Iz):Bool:=match u with |[]=>true|_::u=>sgn (P.cn i)&&un u (i+1) P
noncomputable def vn(v:List Int)(i:Nat)(P:Iz):Bool:=match v with |[]=>true|_::v=>XX (P.ci i)&&vn v (i+1) P
def fin(u:List Nat)(v:List Int)(P:Iz):Bool:=S2 P.c0&&(un u 0 P&&vn v 0 P)
def goal(u:List Nat)(v:List Int)(m:Nat)(k:Ln.Rk)(a b P Q:Iz):Bool:=match k with |.le=>fin u v (step m 1 b a P)|.lt=>fin u v (step m 0 b a P)|.eq=>fin u v (step (m %4) 1 b a P)&&fin u v (step (m/4) 1 a b Q)|.zp=>fin u v (step m 0 a b P)|.zq=>fin u v (step m 1 a b P)|_=>fin u v P
noncomputable def cS(u:List Nat)(v:List Int)(q:Bool):Nat→Nat→Iz→Iz→Bool|0,c,P,Q=>jZ (side (Nat.ble 8 (c/16 %16)) (c/256)) (side (Nat.ble 8 (c/16 %16))) (c %16) (Nat.ble 8 (c/16 %16)) (.dec (c/16 %8)) fun m d k a b d=>goal u v m k a b P Q|n+1,c,P,Q=>jZ (side (Nat.ble 8 (c/16 %16)) (c/256)) (side (Nat.ble 8 (c/16 %16))) (c %16) (Nat.ble 8 (c/16 %16)) (.dec (c/16 %8)) fun m d k a b c=>cS u v q n c (JP true (bif q then m %4 else m) k a b P) (JP false (m/4) k a b Q)
noncomputable def di(v:List Int)(f:Nat→Int):Int:=match v with |[]=>0|a::v=>f 0* a+di v fun i=>f (i+1)
abbrev dn(u:List Nat):(Nat→Int)→Int:=di (u.map Int.ofNat)
theorem NL(a b c d:Int):a+b+(c+d)=a+c+(b+d):=by omega
theorem qG(u:List Int)(f g:Nat→Int):di u (fun i=>f i+g i)=di u f+di u g:=by
 induction u generalizing f g with |nil=>rfl|cons a v ih=>exact(congr (congrArg HAdd.hAdd (Int.add_mul ..)) (ih ..)).trans (NL ..)
theorem A0(u:List Int)(n:Int)(f:Nat→Int):di u (fun i=>n* f i)=n* di u f:=by
 induction u generalizing f with |nil=>exact(Int.mul_zero n).symm|cons a v ih=>exact(congr (congrArg HAdd.hAdd (Int.mul_assoc ..)) (ih ..)).trans (Int.mul_add ..).symm
theorem jB(u:List Int):di u (fun b=>0)=0:=by
 induction u with |nil=>rfl|cons a v ih=>exact(congr (congrArg HAdd.hAdd (Int.zero_mul a)) ih).trans rfl
theorem NN(v:List Int)(j:Nat):di v (fun i=>bif Nat.beq i j then 1 else 0)=Ia v j:=by
 induction v generalizing j with |nil=>rfl|cons a v ih=>induction j with |zero=>exact(congr (congrArg HAdd.hAdd (Int.one_mul a)) (jB v)).trans (Int.add_zero a)|succ j=>exact(congr (congrArg HAdd.hAdd (Int.zero_mul a)) (ih j)).trans (Int.zero_add _)
theorem NO(u:List Nat)(f:Nat→Nat):dn u (fun i=>Int.ofNat (f i))=(Ln.dot u f:Nat):=by
 induction u generalizing f with |nil=>rfl|cons a u ih=>exact congrArg (Int.ofNat (f 0)* Int.ofNat a+·) (ih ..)
theorem S3{x c n i k:Int}(h:x=c+n+i):k* x=k* c+k* n+k* i:=h▸(Int.mul_add ..).trans (congrArg (·+_) (Int.mul_add ..))
theorem sum(u:List Nat)(v:List Int)(t:Iz):t.den u v=t.c0+dn u (fun i=>t.cn i)+di v fun i=>t.ci i:=by
 have mul (n:Int) (a:Iz) (h:a.den u v=a.c0+dn u (fun i=>a.cn i)+di v fun i=>a.ci i):n* a.den u v=n* a.c0+dn u (fun i=>n* a.cn i)+di v fun i=>n* a.ci i:=(S3 h).trans (congr (congrArg HAdd.hAdd (congrArg _ (A0 ..).symm)) (A0 ..).symm)
 have add (a b:Iz) (ha:a.den u v=a.c0+dn u (fun i=>a.cn i)+di v fun i=>a.ci i) (hb:b.den u v=b.c0+dn u (fun i=>b.cn i)+di v fun i=>b.ci i):a.den u v+b.den u v=(a.c0+b.c0)+dn u (fun i=>a.cn i+b.cn i)+di v fun i=>a.ci i+b.ci i:=(congr (congrArg HAdd.hAdd ha) hb).trans ((NL ..).trans (congr (congrArg HAdd.hAdd ((NL ..).trans (congrArg _ (qG ..).symm))) (qG ..).symm))
 induction t with |«at»j=>exact(NN v j).symm.trans ((Int.zero_add _).symm.trans (congrArg (·+_) (((jB _).symm.trans (Int.zero_add _).symm))))|cast t=>exact(congrArg Int.ofNat (Ln.sum u t)).trans ((congrArg (Int.ofNat t.c0+·) (NO u _).symm).trans ((Int.add_zero _).symm.trans (congrArg (_+·) (jB v).symm)))|lit n=>exact((Int.add_zero _).symm.trans (congrArg (_+·) (jB _).symm)).trans ((Int.add_zero _).symm.trans (congrArg (_+·) (jB v).symm))|add a b ha hb=>exact add a b ha hb|sub a b ha hb=>exact(Int.sub_eq_add_neg.trans (congrArg (_+·) (Int.neg_eq_neg_one_mul _))).trans ((congr (congrArg HAdd.hAdd ha) (mul (-1) b hb)).trans ((NL ..).trans (congr (congrArg HAdd.hAdd ((NL ..).trans (congrArg _ (qG ..).symm))) (qG ..).symm)))|neg a h=>exact(Int.neg_eq_neg_one_mul _).trans (mul (-1) a h)|mul n a h=>exact mul n a h|oM n a h=>exact(Int.mul_comm ..).trans (mul n a h)
theorem NP{u:List Nat}{i:Nat}{P:Iz}(h:un u i P=true):0≤dn u fun j=>P.cn (j+i):=by
 induction u generalizing i with
 |nil=>exact Int.le_refl _|cons a u ih=>
  obtain⟨h1,h2⟩:=aW h;refine Int.add_nonneg (Int.mul_nonneg ?_ (Int.natCast_nonneg a)) ?_
  ·show 0≤P.cn (0+i);rw[Nat.zero_add];induction e:P.cn i with |ofNat n=>exact Int.natCast_nonneg n|negSucc n=>rw[e] at h1;exact bE h1
  ·have :=ih h2;simp only[Nat.add_assoc,Nat.add_comm 1 i];exact this
theorem NQ{v:List Int}{i:Nat}{P:Iz}(h:vn v i P=true):(di v fun j=>P.ci (j+i))=0:=by
 induction v generalizing i with
 |nil=>rfl|cons a u ih=>
  obtain⟨h1,h2⟩:=aW h;have e0:P.ci (0+i)=0:=by
   rw[Nat.zero_add];induction e:P.ci i with
   |ofNat n=>induction n with |zero=>rfl|succ n=>rw[e] at h1;exact bE h1
   |negSucc n=>rw[e] at h1;exact bE h1
  have :=ih h2;simp only[di,e0,Int.zero_mul,Nat.add_assoc,Nat.add_comm 1 i,this];rfl
theorem cf{u:List Nat}{v:List Int}{P:Iz}(h:fin u v P=true)(q:P.den u v≤0):False:=by
 obtain⟨h1,h2⟩:=aW h;obtain⟨h2,h3⟩:=aW h2;rw[sum] at q;have a:=NP h2
 have b:=NQ h3;have c:0<P.c0:=by
  induction e:P.c0 with
  |ofNat n=>induction n with |zero=>rw[e] at h1;exact bE h1|succ n=>exact Int.natCast_pos.mpr (Nat.succ_pos n)
  |negSucc n=>rw[e] at h1;exact bE h1
 simp only[Nat.add_zero] at a b;omega
theorem aM{u:List Nat}{v:List Int}{m e:Nat}{l r P:Iz}(h:l.den u v+(e:Nat)≤r.den u v)(q:P.den u v≤0):(step m e l r P).den u v≤0:=by have :=Int.mul_le_mul_of_nonneg_left (show l.den u v-r.den u v+(e:Nat)≤0 by omega) (Int.natCast_nonneg m);rw[Int.mul_zero] at this;exact Int.add_le_add this q
theorem A1{a:Iz}{f:Ln→Prop}{g:Prop}(h:∀t,a=.cast t→(f t↔g)):a.JN f g↔g:=by
 induction a with |cast t=>exact h t rfl|_=>exact .rfl
theorem u3{u:List Nat}{v:List Int}{i:Bool}{k:Ln.Rk}{a b:Iz}:JO u v i k a b↔ye u v k a b:=by
 induction i with
 |true=>exact .rfl|false=>
  refine A1 fun x ha=>A1 fun y hb=>?_
  subst ha hb;induction k with |le=>exact Int.ofNat_le.symm|lt=>exact Int.ofNat_lt.symm|eq=>exact Int.ofNat_inj.symm|qe=>exact Int.ofNat_inj.symm|zp=>exact not_congr Int.ofNat_le.symm|zq=>exact not_congr Int.ofNat_lt.symm|no=>exact .rfl
theorem wU{u:List Nat}{v:List Int}{t:Bool}{m:Nat}{k:Ln.Rk}{a b P:Iz}(h:ye u v k a b)(q:P.den u v≤0):(JP t m k a b P).den u v≤0:=by
 have z (x:Int):x+(0:Nat)=x:=Int.add_zero x;induction k with
 |le=>exact aM ((z _).symm▸h) q|lt=>exact aM h q|zp=>exact aM (Int.lt_of_not_ge h) q|zq=>exact aM ((z _).symm▸Int.not_lt.mp h) q|no=>exact q|eq=>induction t;exact aM ((z _).symm▸Int.le_of_eq h.symm) q;exact aM ((z _).symm▸Int.le_of_eq h) q
 |qe=>induction t;exact aM ((z _).symm▸Int.le_of_eq h) q;exact aM ((z _).symm▸Int.le_of_eq h.symm) q
theorem qz{u:List Nat}{v:List Int}{m:Nat}{k:Ln.Rk}{a b P Q:Iz}(h:goal u v m k a b P Q=true)(p:P.den u v≤0)(q:Q.den u v≤0):ye u v k a b:=by
 have z (x:Int):x+(0:Nat)=x:=Int.add_zero x;induction k with |le=>exact Int.not_lt.mp fun x=>cf h (aM x p)|lt=>exact Int.not_le.mp fun x=>cf h (aM ((z _).symm▸x) p)|eq=>exact Int.le_antisymm (Int.not_lt.mp fun x=>cf (aW h).1 (aM x p)) (Int.not_lt.mp fun x=>cf (aW h).2 (aM x q))|zp=>exact fun x=>cf h (aM ((z _).symm▸x) p)|zq=>exact fun x=>cf h (aM x p)|no=>exact cf h p|qe=>exact(cf h p).elim
theorem jw{α β:Type}{R:α→β→Prop}{p:Iz×Nat}{q:Nat→Iz×Nat}{m:Nat}{i:Bool}{t:Ln.Rk}{k:Nat→Bool→Ln.Rk→Iz→Iz→Nat→α}{k':Nat→Bool→Ln.Rk→Iz→Iz→Nat→β}(h:∀m i t a b c,R (k m i t a b c) (k' m i t a b c)):R (jZ p q m i t k) (jZ p q m i t k'):=h ..
theorem uu{u:List Nat}{v:List Int}{g:Bool}{n c:Nat}{P Q:Iz}(h:cS u v g n c P Q=true)(p:P.den u v≤0)(q:Q.den u v≤0):Dn u v n c:=by
 induction n generalizing c P Q with |zero=>exact jw (R:=fun x y=>x=true→y) (fun a a a a a a h=>u3.mpr (qz h p q)) h|succ n ih=>exact jw (R:=fun x y=>x=true→y) (fun a a a a a a h x=>ih h (wU (u3.mp x) p) (wU (u3.mp x) q)) h
theorem go(c:Nat)(u:List Nat)(v:List Int)(h:cS u v (Nat.beq (c/16 %16) 1) (c %16) (c/256) (.lit 0) (.lit 0)=true):Dn u v (c %16) (c/256):=uu h (Int.le_refl _) (Int.le_refl _)
end Iz
theorem rQ(c:Nat){a:Nat}(h:Iz.cS [a] [] (Nat.beq (c/16 %16) 1) (c %16) (c/256) (.lit 0) (.lit 0)=true):Iz.Dn [a] [] (c %16) (c/256):=Iz.go c _ _ h
theorem wV(c:Nat){x:Int}(h:Iz.cS [] [x] (Nat.beq (c/16 %16) 1) (c %16) (c/256) (.lit 0) (.lit 0)=true):Iz.Dn [] [x] (c %16) (c/256):=Iz.go c _ _ h
theorem DA(c:Nat){a b:Nat}(h:Iz.cS [a,b] [] (Nat.beq (c/16 %16) 1) (c %16) (c/256) (.lit 0) (.lit 0)=true):Iz.Dn [a,b] [] (c %16) (c/256):=Iz.go c _ _ h
theorem D0(c:Nat){a:Nat}{x:Int}(h:Iz.cS [a] [x] (Nat.beq (c/16 %16) 1) (c %16) (c/256) (.lit 0) (.lit 0)=true):Iz.Dn [a] [x] (c %16) (c/256):=Iz.go c _ _ h
theorem NR(c:Nat){a b d e:Nat}(h:Iz.cS [a,b,d,e] [] (Nat.beq (c/16 %16) 1) (c %16) (c/256) (.lit 0) (.lit 0)=true):Iz.Dn [a,b,d,e] [] (c %16) (c/256):=Iz.go c _ _ h
theorem NS(c:Nat){x y:Int}(h:Iz.cS [] [x,y] (Nat.beq (c/16 %16) 1) (c %16) (c/256) (.lit 0) (.lit 0)=true):Iz.Dn [] [x,y] (c %16) (c/256):=Iz.go c _ _ h
end Mine
end
noncomputable section
open PySem PySem.W PySem.Builtin PySem.Builtin.Str PyProof.Rows
namespace Mine
section
variable{n:Nat}{A:Around}{E:Value→Shared→Prop}{W:Wd}{H H':AH}{s:Shared}{sc:Scope}{env:af}{e':Env}
theorem lj(xs:Array Value):(!xs.isEmpty)=(xs.size !=0):=by rfl
set_option tactic.hygienic true in
theorem bO{k:Nat}{o:az}(h:hget k H=some (o,H')):H[k]?=some o∧oO H k∧H'=H:=by
 unfold hget at h;split at h
 ·exact nE h
 ·rename_i o' hn ho;cases h;refine⟨ho,⟨o,ho,?_⟩,rfl⟩;induction o<;>first|trivial|exact hn ho
 ·exact nE h
theorem aH.at(S:aH W H s){k:Nat}{o:az}{a:Addr}(h:H[k]?=some o)(ha:W.φ k=some a):lK W s.heap a k o:=by obtain⟨a',h1,h2⟩:=S.obj k o h;rw[ha] at h1;obtain rfl:=Option.some.inj h1;exact h2
theorem u4{v:V}{b:Bool}{x:Value}(h:Rf v H=some (b,H'))(S:aH W H s)(r:Rel W v x){Q:Bool→Shared→Prop}
  (k:∀t,Q b {s with toks:=t})(hH:H'=H:=by rfl):wpAny (model G.prog G.w) A (truthy x) Q E s:=by
 induction v using V.casesOn with
 |none=>obtain XY:=(aR h).1;subst XY;subst r;exact truthy_none (k s.toks)
 |bool c=>obtain NT:=(aR h).1;subst NT;subst r;exact wpAny_truthy_bool (k s.toks)
 |int i=>obtain⟨rfl,_⟩:=aR h;obtain⟨t,rfl⟩:=r;exact P.truthy_int (k s.toks)
 |str y=>
  obtain⟨rfl,_⟩:=aR h;obtain⟨hz,t,rfl⟩:=r;refine P.truthy_str (by unfold ai at hz;exact rQ (nat_lit 0x9096107800000000000000010e811000006f01102) ae hz) ?_;obtain e:((y.length:Int)!=0)=(y.length !=0):=by rw[Bool.eq_iff_iff];simp
  rw[e];exact k _
 |lst vs=>obtain⟨rfl,_⟩:=aR h;obtain⟨a,n,xs,rfl,z,hz,rs⟩:=r;obtain el:=rs.length;simp only[Array.length_toList] at el;obtain il:s.heap.IsList a xs:=⟨_,S.z _ _ z,rfl,n,rfl⟩;refine wpAny_truthy_list il (by unfold ai at hz;exact DA (nat_lit 0x800000000000000010e17911000006f011103102) ae el hz) ?_;rw[lj,←el];exact k _
 |ref j=>
  refine bH h fun o H₁ h1 h2=>?_
  obtain⟨ho,hn,rfl⟩:=bO h1;obtain⟨a,rfl,ha⟩:=r;obtain O:=S.at ho ha;induction o with
  |lst vs=>obtain⟨rfl,_⟩:=aR h2;obtain⟨n,xs,g1,hz,rs⟩:=O;obtain el:=rs.length;simp only[Array.length_toList] at el;obtain il:s.heap.IsList a xs:=⟨_,g1,rfl,n,rfl⟩;refine wpAny_truthy_list il (by unfold ai at hz;exact DA (nat_lit 0x800000000000000010e17911000006f011103102) ae el hz) ?_;rw[lj,←el];exact k _
  |_=>exact nE h2
 |_=>exact nE h
theorem u5{M:Model}{E:Value→Shared→Prop}{l r:Expr}{op:CmpOp}{p:Pos}{Q:Bool→Shared→Prop}{s:Shared}(h:wpAny M A (eval (.Compare l [op] [r] p) e') (fun v s₁=>wpAny M A (truthy v) Q E s₁) E s):
  wpAny M A (isTrue (.Compare l [op] [r] p) e' (eval (.Compare l [op] [r] p) e')) Q E s:=fun Γ q hΓ=>by
 obtain h':=h Γ q hΓ;simp only[isTrue_Compare1];simp only[eval_Compare1] at h';simp only[Sem.wp_bind',Sem.wp_holding,Sem.wp_cmd_standAt,Sem.wp_operate] at h'⊢;refine Sem.wp_mono M Γ _ (fun a p₁ s₁ h₁=>Sem.wp_mono M Γ _ (fun b p₂ s₂ h₂=>Sem.wp_mono M Γ _ (fun c p₃ s₃ h₃=>h₃ Γ _ hΓ) (fun d d d h'=>h') _ _ h₂) (fun d d d h'=>h') _ _ h₁) (fun d d d h'=>h') _ _ h'
end
noncomputable def Wd.ref(W:Wd)(k:Nat)(a:Addr):Wd:={W with φ:=fun j=>if j=k then some a else W.φ j,own:=fun b=>if b=a then some k else W.own b}
section
variable{n:Nat}{A:Around}{E:Value→Shared→Prop}{W:Wd}{H H':AH}{s:Shared}{sc:Scope}{env:af}{e':Env}
theorem Wd.ig(S:aH W H s){k:Nat}{a:Addr}(hk:H.length≤k):W.Le (W.ref k a):=
 ⟨fun c c h=>h,fun j b h=>by
  refine(?_:(if j=k then some a else W.φ j)=some b);have :=(S.b9 b j (S.ju j b h)).1
  refine(if_neg (aQ (nat_lit 0x9096120312101101103) ae this hk)).trans ?_;exact h⟩
set_option tactic.hygienic true in
theorem ah.new(S:aH W H s)(X:Addr→Prop)(o:az)(ob:Obj)(hf:ob.isFreed=false)(t:Nat)
  (hr:lK (W.ref H.length s.heap.objs.size) (s.heap.push ob) s.heap.objs.size H.length o):
  ah W H s X (W.ref H.length s.heap.objs.size) (H++[o]) {s with heap:=s.heap.push ob,toks:=t}:=by
 have L:W.Le (W.ref H.length s.heap.objs.size):=Wd.ig S (Nat.le_refl _);have kp:∀a o,s.heap.get? a=some o→(s.heap.push ob).get? a=some o:=fun a o e=>Heap.get?_push_of_some _ e
 have ow:∀a k,(W.ref H.length s.heap.objs.size).own a=some k→(a=s.heap.objs.size∧k=H.length)∨(a≠s.heap.objs.size∧W.own a=some k):=by
  intro a k h;have h':(if a=s.heap.objs.size then some H.length else W.own a)=some k:=h
  split at h'
  ·rename_i e;obtain rfl:=Option.some.inj h';exact .inl ⟨e,rfl⟩
  ·rename_i e;exact .inr ⟨e,h'⟩
 have wN:∀a k,W.own a=some k→(W.ref H.length s.heap.objs.size).own a=some k:=by intro a k h;refine(if_neg (Nat.ne_of_lt (S.b9 a k h).2)).trans ?_;exact h
 refine⟨⟨?_,?_,?_,?_,?_,?_,S.base⟩,L,wN,?_,fun d d h=>.inl h,fun a o e d d d=>kp _ _ e,fun a ps d e=>⟨#[],by exact kp _ _ e⟩,?_,by simp,by rw[Heap.size_push];exact aV (nat_lit 6719275264) ae,rfl,rfl⟩
 ·exact fun a o h=>kp _ _ (S.z a o h)
 ·intro k a h;have h':(if k=H.length then some s.heap.objs.size else W.φ k)=some a:=h;show(if a=s.heap.objs.size then some H.length else W.own a)=some k;split at h'
  ·rename_i e;obtain rfl:=Option.some.inj h';rw[if_pos rfl,e]
  ·obtain this:=S.ju k a h';refine(if_neg (Nat.ne_of_lt (S.b9 a k this).2)).trans ?_;exact this
 ·intro a k h;rcases ow a k h with ⟨rfl,rfl⟩|⟨bV,h'⟩
  ·exact⟨by simp,by rw[Heap.size_push];exact Nat.lt_succ_self _⟩
  ·obtain this:=S.b9 a k h';exact⟨by simp;exact aE (nat_lit 441454204817665) ae this.1,by rw[Heap.size_push];exact Nat.lt_succ_of_lt this.2⟩
 ·intro a k h hl;rcases ow a k h with ⟨rfl,rfl⟩|⟨bV,h'⟩
  ·exact S.ic (Nat.le_refl _)
  ·refine S.sr a k h' ?_;obtain⟨o',JQ,hn⟩:=hl;rw[List.getElem?_append_left (S.b9 a k h').1] at JQ;exact⟨o',JQ,hn⟩
 ·intro k o' h;by_cases hk:k<H.length
  ·rw[List.getElem?_append_left hk] at h;obtain⟨a,h1,h2⟩:=S.obj k o' h;exact⟨a,L.φ _ _ h1,h2.keeps L (fun b hb=>wN b k hb) (fun o e=>kp _ _ e) fun b o d e=>kp _ _ e⟩
  ·obtain gV:k=H.length:=by
    have :=(cV h).1;simp at this;exact aE (nat_lit 0x10251054191801112) ae this hk
   subst gV;rw[List.getElem?_append_right (Nat.le_refl _),Nat.sub_self] at h;obtain rfl:=Option.some.inj h;exact⟨_,by simp[Wd.ref],hr⟩
 ·intro c P q hm;obtain⟨h1,h0,h2,mS,ps,h3,h4,h5⟩:=S.tab c P q hm;obtain hP:(if P=s.heap.objs.size then some H.length else W.own P)=none:=by refine(if_neg (Nat.ne_of_lt (Heap.lt_size h3)))▸?_;exact mS
  exact⟨h1.keeps kp,h0,h2,hP,ps,kp _ _ h3,h4,h5⟩
 ·intro a k h;rcases ow a k h with ⟨rfl,rfl⟩|⟨bV,h'⟩
  ·exact .inr ⟨Nat.le_refl _,by rw[List.getElem?_eq_none (Nat.le_refl _)];intro e;exact nE e⟩
  ·exact .inl h'
 ·intro k h;obtain this:=(cV h).1;rw[List.getElem?_append_left this];exact h
theorem eI{o:az}{v:V}(h:gY o H=some (v,H')):v=.ref H.length∧H'=H++[o]:=by cases h;exact⟨rfl,rfl⟩
theorem Wd.eJ(W:Wd)(k:Nat)(a:Addr):(W.ref k a).φ k=some a:=by simp[Wd.ref]
theorem u6{c:Bool}{vs:List V}{xs:List Value}{v:V}(h:(if c then gY (.lst vs) else pure (.lst vs)) H=some (v,H'))(S:aH W H s)(r:aA W vs xs)(hz:vs.length<ai):
  wpAny (model G.prog G.w) A (newList xs) (fun x=>aT W H s aI H' fun W' a=>Rel W' v x) E s:=by
 obtain el:=r.length;refine wpAny_newObj_type (hd:=by show xs.toArray.size≤sizeLine;simp only[List.size_toArray,←el];exact br hz) ?_;induction c with
 |false=>refine hU h ?_;obtain PP:=ah.push S aI (gW xs.toArray 0);refine⟨_,PP,?_⟩;exact⟨_,_,_,rfl,Wd.aU ..,hz,by exact r.mono PP.le⟩
 |true=>obtain⟨rfl,rfl⟩:=eI h;obtain PP:=ah.new S aI (.lst vs) (gW xs.toArray 0) rfl s.toks ⟨0,xs.toArray,Heap.get?_push_size _ rfl,hz,by exact r.mono (Wd.ig S (Nat.le_refl _))⟩;refine⟨_,PP,?_⟩;exact⟨_,rfl,Wd.eJ ..⟩
theorem sF{vs:List V}{xs:List Value}(S:aH W H s)(r:aA W vs xs)(hz:vs.length<ai):
  wpAny (model G.prog G.w) A (newTuple xs) (fun x=>aT W H s aI H fun W' a=>Rel W' (.tup vs) x) E s:=by
 obtain el:=r.length;refine wpAny_newObj_type (hd:=by show xs.toArray.size≤sizeLine;simp only[List.size_toArray,←el];exact br hz) ?_;obtain PP:=ah.push S aI (pC xs.toArray 0);refine⟨_,PP,?_⟩;exact⟨_,_,_,rfl,Wd.aU ..,hz,by exact r.mono PP.le⟩
end
section
variable{A:Around}{W:Wd}{H:AH}{s:Shared}
theorem Reld.length:∀{kvs:List (Str×V)} {es:List DictEntry},Reld W kvs es→kvs.length=es.length|[],[],aK=>rfl|(k,v)::r,e::es,h=>by simp only[List.length_cons,Reld.length h.2.2]|[],aK::bA,h=>False.elim h|aK::bA,[],h=>False.elim h
theorem Reld.strs:∀{kvs:List (Str×V)} {es:List DictEntry},Reld W kvs es→(es.all fun e=>isExactStrKey e.key)=true
|[],[],aK=>rfl|(k,v)::r,e::es,h=>by obtain⟨⟨_,_,t,hk⟩,_,hr⟩:=h;simp only[List.all_cons,Reld.strs hr,hk];rfl
|[],aK::bA,h=>False.elim h|aK::bA,[],h=>False.elim h
theorem Reld.find:∀{kvs:List (Str×V)} {es:List DictEntry} (x:Str),Reld W kvs es→
  match es.findIdx? (fun e=>e.key.isStr x) with |none=>kvs.lookup x=none|some j=>∃e u,es[j]?=some e∧kvs.lookup x=some u∧Rel W u e.val
 |[],[],x,aK=>by rfl|(k,v)::r,e::es,x,h=>by
  obtain⟨⟨hl,_,t,hk⟩,hv,hr⟩:=h;rw[List.findIdx?_cons,hk];by_cases hx:k=x
  ·subst hx;simp only[Value.isStr,beq_self_eq_true,if_true,List.lookup_cons];exact⟨e,v,rfl,rfl,hv⟩
  ·obtain h1:Value.isStr (.str k t) x=false:=by simp[Value.isStr,hx]
   obtain h2:(x==k)=false:=by simp;exact fun h=>hx h.symm
   rw[h1];simp only[Bool.false_eq_true,if_false,List.lookup_cons,h2];obtain ih:=Reld.find x hr;induction hf:es.findIdx? (fun e=>e.key.isStr x) with
   |none=>obtain ih:=hf▸ih;exact ih
   |some j=>
    rw[hf] at ih;refine ih.elim fun e' NU=>?_;refine NU.elim fun u S4=>?_;obtain h3:=S4.1;obtain h4:=S4.2.1;obtain h5:=S4.2.2
    exact⟨e',u,by exact h3,h4,h5⟩
 |[],aK::bA,gI,h=>False.elim h|aK::bA,[],gI,h=>False.elim h
theorem D3{es:Array DictEntry}(h:(es.toList.all fun e=>isExactStrKey e.key)=true):(es.all fun e=>isExactStrKey e.key)=true:=by refine Array.all_toList▸?_;exact h
theorem sG(es:Array DictEntry)(p:DictEntry→Bool):es.findIdx? p=es.toList.findIdx? p:=by induction es with |mk l=>simp
theorem sH{prog:Program}{w:World}{E:Value→Shared→Prop}{kvs:List (Str×V)}{d:Addr}{n:Nat}{es:Array DictEntry}{x:Str}{t:Tok}{Rj:Int}{Q:Option Nat→Shared→Prop}
  (ho:s.heap.get? d=some (cX es n))(r:Reld W kvs es.toList)
  (k:match kvs.lookup x with |none=>Q none s|some u=>∀j e,es[j]?=some e→Rel W u e.val→Q (some j) s):wpAny (model prog w) A (dictFind d (.str x t) Rj) Q E s:=by
 refine KTD.kt_dictFind_strs ho rfl (D3 r.strs) ?_;obtain hf:=r.find x;rw[sG];induction hi:es.toList.findIdx? (fun e=>e.key.isStr x) with
 |none=>obtain hf:=hi▸hf;obtain k:=hf▸k;exact k
 |some j=>rw[hi] at hf;obtain⟨e,u,h1,h2,h3⟩:=hf;obtain k:=h2▸k;exact k j e (by refine(Array.getElem?_toList)▸?_;exact h1) h3
structure JR(A:Around)(s:Shared)(x y:Value)(r:Bool):Prop where
 self:x=y→r=true
 eq:SeqAt.EqAt A s x y r
 rc:SeqAt.RcAt A s x y r
 ne:SeqAt.RcNeAt A s x y (!r)
inductive XZ(T:Value→Value→Bool→Prop)(xs ys:List Value)(r:Bool):Prop|mk(e:Nat→Bool)(h1:xs.length=ys.length)(h2:(List.range xs.length).all e=r)(h3:∀j (h:j<xs.length) (h':j<ys.length),T xs[j] ys[j] (e j))
theorem V_{T:Value→Value→Bool→Prop}{f:V→V→Option Bool}(he:∀{v u x y p},f v u=some p→Rel W v x→Rel W u y→T x y p){vs us:List V}{xs ys:List Value}{q:Bool}(h1:aA W vs xs)(h2:aA W us ys)(h:gZ f vs us=some q):XZ T xs ys q:=by
 induction vs generalizing us xs ys q with
 |nil=>induction xs with
  |cons _ _=>exact h1.elim|nil=>induction us with
   |nil=>induction ys with |nil=>exact⟨fun a=>true,rfl,Option.some.inj h,fun j h=>absurd h (Nat.not_lt_zero j)⟩|cons _ _=>exact h2.elim
   |cons _ _=>exact nE h
 |cons v vs ih=>induction xs with
  |nil=>exact h1.elim|cons x xs=>induction us with
   |nil=>exact nE h|cons u us=>induction ys with
    |nil=>exact h2.elim|cons y ys=>
     obtain h:(match f v u,gZ f vs us with |some p,some q=>some (p&&q)|_,_=>none)=some q:=h;induction hp:f v u with
     |none=>obtain h:=hp▸h;exact nE h
     |some p=>induction hq:gZ f vs us with
      |none=>rw[hp,hq] at h;exact nE h|some q'=>
       rw[hp,hq] at h;induction ih h1.2 h2.2 hq with |mk e g1 g2 g3=>refine⟨fun j=>j.casesOn p e,congrArg (·+1) g1,?_,fun j=>j.casesOn (fun a a=>he hp h1.1 h2.1) fun j h h'=>g3 j (Nat.lt_of_succ_lt_succ h) (Nat.lt_of_succ_lt_succ h')⟩;simp only[List.length_cons,List.range_succ_eq_map,List.all_cons,List.all_map];exact(congrArg (p&&·) g2).trans (Option.some.inj h)
def HR(W:Wd)(h:Heap):V→Value→Prop|.lst vs,x=>DX h.get? gW vs.length (aA W vs) x|.tup vs,x=>DX h.get? pC vs.length (aA W vs) x|.aF kvs,x=>Nx h.get? kvs (Reld W kvs) x|v,x=>Rel W v x
noncomputable def JS(o:Option az)(k:Nat):V:=match o with |some (.lst xs)=>.lst xs|some (.aF kvs)=>.aF kvs|_=>.ref k
theorem jC{k:Nat}{o:Option az}(ho:H[k]?=o):deref H (.ref k)=JS o k:=ho▸rfl
theorem mT{a:V}{x:Value}(S:aH W H s)(r:Rel W a x):HR W s.heap (deref H a) x:=by
 induction a using V.casesOn with
 |lst vs=>obtain⟨a,n,xs,h1,h2,h3,h4⟩:=r;exact⟨a,n,xs,h1,S.z _ _ h2,h3,h4⟩
 |tup vs=>obtain⟨a,n,xs,h1,h2,h3,h4⟩:=r;exact⟨a,n,xs,h1,S.z _ _ h2,h3,h4⟩
 |aF vs=>obtain⟨a,n,xs,h1,h2,h3,h4,h5,h6⟩:=r;exact⟨a,n,xs,h1,S.z _ _ h2,h3,h4,h5,h6⟩
 |ref k=>
  have r':=r;obtain⟨a,rfl,ha⟩:=r';induction ho:H[k]? with
  |none=>rw[jC ho];exact r|some o=>
   have O:=S.at ho ha;induction o with
   |lst vs=>rw[jC ho];obtain⟨n,xs,h1,h2,h3⟩:=O;exact⟨a,n,xs,rfl,h1,h2,h3⟩
   |aF vs=>rw[jC ho];obtain⟨n,xs,h1,h2,h3,h4,h5⟩:=O;exact⟨a,n,xs,rfl,h1,h2,h3,h4,h5⟩
   |_=>rw[jC ho];exact r
 |_=>exact r
theorem c9{α:Type}{l:List (Str×α)}{x:Str}{k:α}(nd:(l.map (·.1)).Nodup)(h:(x,k)∈l):l.lookup x=some k:=by
 induction l with
 |nil=>exact nomatch h|cons p r ih=>
  obtain nd:=xW nd;rw[List.lookup_cons];rcases bM h with e|e
  ·subst e;rw[beq_self_eq_true]
  ·have bV:(x==p.1)=false:=oK fun he=>nd.1 (he.subst (motive:=fun z=>z∈r.map (·.1)) (uq ⟨_,e,rfl⟩))
   rw[bV];exact ih nd.2 e
theorem gW.yf{h:Option Obj}{xs ys:Array Value}{n m:Nat}(a:h=some (gW xs n))(b:h=some (gW ys m)):xs=ys:=(Data.seq.inj (Obj.mk.inj (Option.some.inj (a.symm.trans b))).2.2.1).1
theorem pC.yf{h:Option Obj}{xs ys:Array Value}{n m:Nat}(a:h=some (pC xs n))(b:h=some (pC ys m)):xs=ys:=(Data.seq.inj (Obj.mk.inj (Option.some.inj (a.symm.trans b))).2.2.1).1
theorem cX.yf{h:Option Obj}{xs ys:Array DictEntry}{n m:Nat}(a:h=some (cX xs n))(b:h=some (cX ys m)):xs=ys:=(Data.dict.inj (Obj.mk.inj (Option.some.inj (a.symm.trans b))).2.2.1).1
theorem pF{l:Addr}{xs:Array Value}{n:Nat}(h:s.heap.get? l=some (gW xs n)):s.heap.IsList l xs:=⟨_,h,rfl,n,rfl⟩
theorem DB{l:Addr}{xs:Array Value}{n:Nat}(h:s.heap.get? l=some (pC xs n)):s.heap.IsTuple l xs:=⟨_,h,rfl,n,rfl⟩
inductive NV(W:Wd)(es:Array DictEntry):List Nat→List (Str×V)→Prop|nil:NV W es [] []|cons{i:Nat}{rest:List Nat}{k:Str}{v:V}{kx:List (Str×V)}{e:DictEntry}(he:es[i]?=some e)(hk:Nz k e)(hv:Rel W v e.val)(t:NV W es rest kx):NV W es (i::rest) ((k,v)::kx)
theorem Wa{es:Array DictEntry}:∀{kx:List (Str×V)} {l:List DictEntry} {i:Nat},(∀j,l[j]?=es[i+j]?)→Reld W kx l→NV W es (List.range' i l.length) kx|[],[],aK,bA,gI=>.nil|(k,v)::kx,e::l,i,h,r=>.cons (h 0).symm r.1 r.2.1 (Wa (fun j=>(h (j+1)).trans (by rw[Nat.add_assoc,Nat.add_comm j 1])) r.2.2)|[],aK::bA,gI,ux,r=>r.elim
inductive X0(f:V→V→Option Bool)(ky:List (Str×V))(k:Str)(v:V)(kx:List (Str×V))(r:Bool):Prop|no(h:ky.lookup k=none)(hr:false=r)|one(u:V)(p q:Bool)(h:ky.lookup k=some u)(hp:f v u=some p)(hq:veqd f ky kx=some q)(hr:(p&&q)=r)
theorem Wb{f:V→V→Option Bool}{ky:List (Str×V)}{k:Str}{v:V}{kx:List (Str×V)}{r:Bool}(h:veqd f ky ((k,v)::kx)=some r):X0 f ky k v kx r:=by
 obtain h:(match ky.lookup k with |none=>some false|some u=>(match f v u,veqd f ky kx with |some p,some q=>some (p&&q)|_,_=>none))=some r:=h;induction hk:ky.lookup k with
 |none=>obtain h:=hk▸h;exact .no hk (Option.some.inj h)
 |some u=>
  obtain h:=hk▸h;have h:(match f v u,veqd f ky kx with |some p,some q=>some (p&&q)|_,_=>none)=some r:=h
  induction hp:f v u with
  |none=>obtain h:=hp▸h;exact nE h
  |some p=>induction hq:veqd f ky kx with |none=>rw[hp,hq] at h;exact nE h|some q=>rw[hp,hq] at h;exact .one u p q hk hp hq (Option.some.inj h)
theorem jD{prog:Program}{w:World}{E:Value→Shared→Prop}{nm:String}{a b:Addr}{kx ky:List (Str×V)}{n m:Nat}{es fs:Array DictEntry}{f:V→V→Option Bool}{r:Bool}{Q:Bool→Shared→Prop}
  (ha:a≠sysModules)(hb:b≠sysModules)(ga:s.heap.get? a=some (cX es n))(gb:s.heap.get? b=some (cX fs m))(ra:Reld W kx es.toList)(rb:Reld W ky fs.toList)
  (hr:(bif kx.length==ky.length then veqd f ky kx else some false)=some r)(he:∀{v u x y q},f v u=some q→Rel W v x→Rel W u y→SeqAt.EqAt A s x y q)(h:Q r s):
  wpAny (model prog w) A (Builtin.Dict.samePairs nm a b) Q E s:=by
 obtain X3:kx.length=es.size:=ra.length;obtain X4:ky.length=fs.size:=rb.length;rw[X3,X4] at hr;unfold Builtin.Dict.samePairs Builtin.Dict.showsAll;rw[if_neg (fun h=>ha (eq_of_beq h)),if_neg (fun h=>hb (eq_of_beq h))];refine wpAny_bind (wpAny_pure (wpAny_bind (wpAny_pure (wpAny_bind (wpAny_dictEntries ga rfl (wpAny_bind (wpAny_dictEntries gb rfl ?_)))))));induction hsz:es.size==fs.size with
 |false=>rw[hsz] at hr;rw[if_pos (show(es.size !=fs.size)=true from congrArg Bool.not hsz)];exact wpAny_bind (wpAny_rule (wpAny_pure (Option.some.inj hr▸h)))|true=>
  rw[hsz] at hr;rw[if_neg (show ¬(es.size !=fs.size)=true from fun q=>bE ((congrArg Bool.not hsz).symm.trans q))];refine wpAny_bind (wpAny_dictEpoch ga rfl (wpAny_bind ?_));rw[Std.Legacy.Range.forIn_eq_forIn_range',show [:es.size].size=es.toList.length from Nat.div_one _];refine wpAny_forIn_list _ (fun rest q s'=>s'=s∧q=(none,())∧∃k1,NV W es rest k1∧veqd f ky k1=some r) _ ?_ ?_ _ _ ⟨rfl,rfl,kx,Wa (fun j=>by rw[Nat.zero_add];exact Array.getElem?_toList) ra,hr⟩
  ·rintro x rest q s' ⟨rfl,rfl,k1,hS,hv⟩;cases hS with
   |cons ge hk gv t=>
    refine wpAny_bind (wpAny_dictEntries ga rfl ?_);refine ge▸?_;induction hk with
    |mk _ _ tk hk=>
     dsimp only;refine hk▸?_;refine wpAny_bind (wpAny_holding (wpAny_bind (sH gb rb ?_)));induction Wb hv with
     |no hl hr=>refine hl▸?_;exact wpAny_pure (wpAny_pure (wpAny_pure (hr▸h)))|one u p q hl hp hq hr=>
      refine hl▸?_;intro j e hj ru;refine wpAny_bind (wpAny_dictEntries gb rfl ?_);refine hj▸?_;refine wpAny_holding (he hp gv ru prog w _ _ ?_);induction p with |false=>exact wpAny_pure (wpAny_pure ((show false=r from hr)▸h))|true=>refine wpAny_bind (wpAny_dictEpoch ga rfl ?_);refine(if_neg (show ¬(n !=n)=true from fun q=>bne_iff_ne.mp q rfl))▸?_;exact wpAny_pure ⟨rfl,rfl,_,t,hq.trans (congrArg some hr)⟩
  ·rintro q s' ⟨rfl,rfl,k1,hS,hv⟩;cases hS;exact wpAny_pure (Option.some.inj hv▸h)
theorem D4{a b:Addr}{kx ky:List (Str×V)}{n m:Nat}{es fs:Array DictEntry}{f:V→V→Option Bool}{r:Bool}
  (ha:a≠sysModules)(hb:b≠sysModules)(ga:s.heap.get? a=some (cX es n))(gb:s.heap.get? b=some (cX fs m))(ra:Reld W kx es.toList)(rb:Reld W ky fs.toList)
  (hr:(bif kx.length==ky.length then veqd f ky kx else some false)=some r)(he:∀{v u x y q},f v u=some q→Rel W v x→Rel W u y→SeqAt.EqAt A.in1 s x y q)(hu:A.units<cLine):
  SeqAt.RcAt A s (.ref a) (.ref b) r∧SeqAt.RcNeAt A s (.ref a) (.ref b) (!r):=by
 obtain Ta:s.TypeIs (.ref a) "dict":=⟨_,ga,rfl⟩;obtain Tb:s.TypeIs (.ref b) "dict":=⟨_,gb,rfl⟩;constructor
 ·intro prog w E Q h;refine wpAny_richCompare_same_room (op:=.Eq) Ta Tb PySem.F.slot_dict_eq (wpAny_call_entry PySem.F.slot_dict_eq Ta PySem.F.entry_dict_eq ?_ (PySem.F.args_dict_eq_2 _ _)) hu;refine wpAny_bind ?_;refine wpAny_bind (wpAny_notOrdered_dict Ta ?_);refine wpAny_pure ?_;refine wpAny_bind (wpAny_isInstance (T:="dict") Tb PySem.F.sub_dict_dict ?_);refine wpAny_bind (wpAny_pure (wpAny_bind (wpAny_pure ?_)));refine wpAny_bind (jD ha hb ga gb ra rb hr he ?_);refine wpAny_pure ⟨_,rfl,?_,?_⟩
  ·exact fun x=>nomatch x
  ·simpa using h
 ·intro prog w E Q h;refine wpAny_richCompare_same_room (op:=.NotEq) Ta Tb PySem.F.slot_dict_ne (wpAny_call_entry PySem.F.slot_dict_ne Ta PySem.F.entry_dict_ne ?_ (PySem.F.args_dict_ne_2 _ _)) hu;refine wpAny_bind ?_;refine wpAny_bind (wpAny_notOrdered_dict Ta ?_);refine wpAny_pure ?_;refine wpAny_bind (wpAny_isInstance (T:="dict") Tb PySem.F.sub_dict_dict ?_);refine wpAny_bind (wpAny_pure (wpAny_bind (wpAny_pure ?_)));refine wpAny_bind (jD ha hb ga gb ra rb hr he ?_);refine wpAny_pure ⟨_,rfl,?_,?_⟩
  ·exact fun x=>nomatch x
  ·simpa using h
theorem Hr{kx ky:List (Str×V)}{es:List DictEntry}{f:V→V→Option Bool}(he:∀{v u x q},f v u=some q→Rel W v x→Rel W u x→q=true)(ra:Reld W kx es)(rb:Reld W ky es):∀{k1:List (Str×V)} {q:Bool},(∀p∈k1,kx.lookup p.1=some p.2)→veqd f ky k1=some q→q=true
|[],aK,bA,h=>(Option.some.inj h).symm|(k,v)::k1,q,hp,h=>by
 obtain f1:=ra.find k;obtain f2:=rb.find k;obtain hl:kx.lookup k=some v:=hp _ (.head _);obtain f1:=hl▸f1;induction hi:es.findIdx? (fun e=>e.key.isStr k) with
 |none=>obtain f1:=hi▸f1;exact nE f1.symm
 |some j=>
  rw[hi] at f1 f2;obtain⟨e,u,g1,g2,g3⟩:=f1;obtain⟨e',u',S5,Wc,X5⟩:=f2;induction Option.some.inj (g1.symm.trans S5);induction Wb h with |no DC=>rw[Wc] at DC;exact nE DC.symm|one u2 p q' DC hq hr hz=>induction Option.some.inj (Wc.symm.trans DC);induction Option.some.inj g2;exact hz▸jv ⟨he hq g3 X5,Hr he ra rb (fun p X6=>hp p (.tail _ X6)) hr⟩
theorem lT{A:Around}{l b:Addr}{r:Bool}(hs:l=b→r=true)(h1:SeqAt.RcAt A s (.ref l) (.ref b) r)(h2:SeqAt.RcNeAt A s (.ref l) (.ref b) (!r)):JR A s (.ref l) (.ref b) r:=⟨fun e=>hs (Value.ref.inj e),(Decidable.em (l=b)).elim (fun e=>e▸hs e▸SeqAt.EqAt.same _) fun hl=>SeqAt.EqAt.of_refs hl h1,h1,h2⟩
theorem A2{A:Around}{e:Nat→Bool}{xs ys:Array Value}(q:xs=ys)(g:∀j (h:j<xs.toList.length) (h':j<ys.toList.length),JR A s xs.toList[j] ys.toList[j] (e j)):(List.range xs.toList.length).all e=true:=by subst q;exact List.all_eq_true.mpr fun j hj=>(g j (ur hj) (ur hj)).self rfl
theorem JT{α:Type}{c:Bool}{a b:Option α}{r:α}{P:Prop}(h:(bif c then a else b)=some r)(k:c=true→a=some r→P)(l:c=false→b=some r→P):P:=by
 induction c with |true=>exact k rfl h|false=>exact l rfl h
theorem D5{A:Around}{a b:V}{x y:Value}{r:Bool}{f:V→V→Option Bool}(h:VX f H a b=some r)(S:aH W H s)(ra:Rel W a x)(rb:Rel W b y)(JU:A.units<cLine)(he:∀{v u x y p},f v u=some p→Rel W v x→Rel W u y→JR A.in1 s x y p):JR A s x y r:=by
 obtain ha:=mT S ra;obtain hb:=mT S rb;refine ie h (fun h=>aB.el h ra fun i t h=>aB.el h rb fun j u h=>Option.some.inj h▸⟨fun e=>beq_iff_eq.mpr (Value.int.inj e).1,SeqAt.EqAt.int_int _ _ _ _,SeqAt.RcAt.int_int _ _ _ _,SeqAt.RcNeAt.int_int _ _ _ _⟩) fun h=>?_
 refine ie h (fun h=>onStr.el h ra fun i t c h=>onStr.el h rb fun j u c h=>Option.some.inj h▸⟨fun e=>beq_iff_eq.mpr (Value.str.inj e).1,SeqAt.EqAt.str_str _ _ _ _,SeqAt.RcAt.str_str _ _ _ _,SeqAt.RcNeAt.str_str _ _ _ _⟩) fun h=>?_
 refine ie h (fun h=>cI.el h ra fun i h=>cI.el h rb fun j h=>Option.some.inj h▸⟨fun e=>beq_iff_eq.mpr (Value.bool.inj e),SeqAt.EqAt.bool_bool _ _,SeqAt.RcAt.bool_bool _ _,SeqAt.RcNeAt.bool_bool _ _⟩) fun h=>?_
 refine ie h (fun h=>k7.el h fun vs e1 h=>k7.el h fun us e2 h=>JT h (fun hz hq=>?_) fun c h=>nE h) fun h=>ie h (fun h=>eg.el h fun vs e1 h=>eg.el h fun us e2 h=>JT h (fun hz hq=>?_) fun hz hq=>?_) fun h=>gH.el h fun kx e1 h=>gH.el h fun ky e2 hq=>?_
 ·cases e1;cases e2;obtain⟨l,m,xs,rfl,g1,_,r1⟩:=ra;obtain⟨l',m',ys,rfl,g2,_,r2⟩:=rb;induction V_ (T:=JR A.in1 s) he r1 r2 hq with
  |mk e q1 q2 q3=>
   obtain q1:xs.size=ys.size:=q1;obtain q4:r=((List.range (min xs.size ys.size)).all e&&xs.size==ys.size):=by rw[←q1,Nat.min_self,beq_self_eq_true,Bool.and_true];exact q2.symm
   refine lT (fun e=>q2▸A2 (pC.yf (S.z _ _ g1) (e▸S.z _ _ g2)) q3) ?_ ?_
   ·rw[q4];exact SeqAt.RcAt.tuples (DB (S.z _ _ g1)) (DB (S.z _ _ g2)) JU fun j h1 h2=>(q3 j h1 h2).eq
   ·rw[q4];exact SeqAt.RcNeAt.tuples (DB (S.z _ _ g1)) (DB (S.z _ _ g2)) JU fun j h1 h2=>(q3 j h1 h2).eq
 ·rw[e1] at ha;rw[e2] at hb;obtain⟨l,m,xs,rfl,g1,_,r1⟩:=ha;obtain⟨l',m',ys,rfl,g2,_,r2⟩:=hb;induction V_ (T:=JR A.in1 s) he r1 r2 hq with |mk e q1 q2 q3=>exact lT (fun e=>q2▸A2 (gW.yf g1 (e▸g2)) q3) (q2▸SeqAt.RcAt.lists (pF g1) (pF g2) q1 JU fun j h1 h2=>(q3 j h1 h2).eq) (q2▸SeqAt.RcNeAt.lists (pF g1) (pF g2) q1 JU fun j h1 h2=>(q3 j h1 h2).eq)
 ·rw[e1] at ha;rw[e2] at hb;obtain⟨l,m,xs,rfl,g1,_,r1⟩:=ha;obtain⟨l',m',ys,rfl,g2,_,r2⟩:=hb;obtain hn:¬xs.size=ys.size:=fun e=>beq_eq_false_iff_ne.mp hz (r1.length.trans (e.trans r2.length.symm))
  exact Option.some.inj hq▸lT (fun e=>absurd (congrArg Array.size (gW.yf g1 (e▸g2))) hn) (SeqAt.RcAt.lists_lengths (pF g1) (pF g2) (bne_iff_ne.mpr hn) JU) (SeqAt.RcNeAt.lists_lengths (pF g1) (pF g2) (bne_iff_ne.mpr hn) JU)
 ·rw[e1] at ha;rw[e2] at hb;obtain⟨l,m,es,rfl,g1,n1,nd,_,r1⟩:=ha;obtain⟨l',m',fs,rfl,g2,n2,_,_,r2⟩:=hb;obtain hd:=D4 n1 n2 g1 g2 r1 r2 hq (fun h r1 r2=>(he h r1 r2).eq) JU;refine lT (fun e=>?_) hd.1 hd.2;obtain e:=cX.yf g1 (e▸g2);rw[←e] at r2;rw[r1.length,r2.length,beq_self_eq_true] at hq;exact Hr (fun h r1 r2=>(he h r1 r2).self rfl) r1 r2 (fun p hp=>c9 nd hp) hq
theorem qH:∀(n:Nat) {A:Around} {a b:V} {x y:Value} {r:Bool},f_ n H a b=some r→aH W H s→Rel W a x→Rel W b y→A.units+n<cLine→JR A s x y r|0,aK,bA,gI,ux,Gd,We,h,zq7,zq8,zq9,X7=>nE h|n+1,A,aK,bA,gI,ux,Gd,h,S,ra,rb,hu=>D5 h S ra rb (Nat.lt_of_le_of_lt (Nat.le_add_right ..) hu) fun h r1 r2=>qH n h S r1 r2 (Nat.lt_of_le_of_lt (Nat.le_of_eq (Nat.add_right_comm A.units 1 n)) hu)
end
section
variable{A:Around}{E:Value→Shared→Prop}{W:Wd}{H H':AH}{s:Shared}
def eE(W:Wd):List (Str×V)→List (Str×Value)→Prop|[],[]=>True|(k,v)::r,(k',y)::r'=>k'=k∧k.length<ai∧Rel W v y∧eE W r r'|aK,bA=>False
abbrev sk:=strKind G.prog G.w
theorem eE.keys:∀{kvs:List (Str×V)} {ps:List (Str×Value)},eE W kvs ps→kvs.map (·.1)=ps.map (·.1)|[],[],aK=>rfl|(k,v)::r,(k',y)::r',h=>by simp only[List.map_cons,h.1,eE.keys h.2.2.2]|[],aK::bA,h=>False.elim h|aK::bA,[],h=>False.elim h
theorem eE.length{kvs:List (Str×V)}{ps:List (Str×Value)}(h:eE W kvs ps):kvs.length=ps.length:=by obtain this:=congrArg List.length h.keys;simpa using this
theorem fU:∀{kvs:List (Str×V)} {es:List DictEntry},Reld W kvs es→∃ps,Pairs (sk) es ps∧eE W kvs ps∧∀e∈es,∃k,(sk).is k e.key=true∧e.hash=(sk).hash k
|[],[],aK=>⟨[],.nil,trivial,fun e he=>nomatch he⟩|(k,v)::r,e::es,h=>by
 obtain⟨⟨hl,hh,t,hk⟩,hv,hr⟩:=h;refine(fU hr).elim fun ps JG=>?_;obtain h1:=JG.1;obtain h2:=JG.2.1;obtain h3:=JG.2.2
 obtain Wf:(sk).is k e.key=true:=by refine hk▸?_;exact strKind_is ..
 refine⟨(k,e.val)::ps,.cons Wf rfl h1,⟨rfl,hl,hv,h2⟩,fun e' he=>?_⟩;rcases bM he with rfl|he
 ·exact⟨k,Wf,hh⟩
 ·exact h3 e' he
|[],aK::bA,h=>False.elim h|aK::bA,[],h=>False.elim h
theorem yg{es:List DictEntry}{ps:List (Str×Value)}(h:Pairs (sk) es ps):∀{kvs:List (Str×V)},eE W kvs ps→(∀e∈es,∃k,(sk).is k e.key=true∧e.hash=(sk).hash k)→Reld W kvs es:=by
 induction h with
 |nil=>
  intro kvs h2 _;induction kvs with |nil=>trivial|cons _ _=>exact(h2:False).elim
 |cons a1 a2 a3 ih=>
  intro kvs h2 h3;induction kvs with |nil=>exact(h2:False).elim|cons p r=>obtain NW:=h2.1;obtain hl:=h2.2.1;obtain hv:=h2.2.2.1;obtain hr:=h2.2.2.2;obtain⟨t,ht⟩:=Value.isStrOf_shape a1;obtain⟨k',gV,hh⟩:=h3 _ (.head _);exact⟨⟨hl,NW▸(sk).inj _ _ _ gV a1▸hh,t,NW▸ht⟩,a2▸hv,ih hr fun e he=>h3 e (.tail _ he)⟩
theorem dM{h:Heap}{a:Addr}{es:Array DictEntry}{n:Nat}{kvs:List (Str×V)}(g:h.get? a=some (cX es n))(nd:(kvs.map (·.1)).Nodup)(r:Reld W kvs es.toList):
  ∃ps,h.DictOf (sk) a ps∧eE W kvs ps:=by
 refine(fU r).elim fun ps JV=>?_;obtain h1:=JV.1;obtain h2:=JV.2.1;obtain h3:=JV.2.2
 refine⟨ps,⟨_,es,n,g,⟨rfl,rfl,rfl⟩,rfl,fun e he=>?_,h1,by refine h2.keys▸?_;exact nd⟩,h2⟩;exact h3 e (by simp_all)
theorem kc{h:Heap}{a:Addr}{ps:List (Str×Value)}{kvs:List (Str×V)}(d:h.DictOf (sk) a ps)(r:eE W kvs ps):
  ∃es n,h.get? a=some (cX es n)∧(kvs.map (·.1)).Nodup∧Reld W kvs es.toList:=by
 obtain⟨⟨cls,dd,data,sl⟩,es,ep,ho,⟨h1,h2,h3⟩,h4,h5,h6,h7⟩:=d;simp only at h1 h2 h3 h4;subst h1 h2 h3 h4;exact⟨es,ep,ho,by rw[r.keys];exact h7,yg h6 r fun e he=>h5 e (by simp_all)⟩
theorem eE.lookup:∀{kvs:List (Str×V)} {ps:List (Str×Value)} (k:Str),eE W kvs ps→match kvs.lookup k with |none=>valueAt ps k=none|some v=>∃y,valueAt ps k=some y∧Rel W v y
|[],[],k,aK=>rfl|(k',v)::r,(k2,y)::r',k,h=>by
 obtain S6:=h.1;obtain hv:=h.2.2.1;obtain hr:=h.2.2.2;subst S6;dsimp only[List.lookup_cons,valueAt,List.find?_cons];by_cases hk:k=k2
 ·subst hk;simp;exact hv
 ·obtain h1:(k==k2)=false:=by simpa using hk
  obtain h2:decide (k2=k)=false:=by simp;exact fun h=>hk h.symm
  rw[h1,h2];obtain this:=hr.lookup k;exact this
|[],aK::bA,gI,h=>False.elim h|aK::bA,[],gI,h=>False.elim h
theorem eE.D6{k:Str}{v:V}{y:Value}(hk:k.length<ai)(hv:Rel W v y){kvs:List (Str×V)}{ps:List (Str×Value)}(nd:(ps.map (·.1)).Nodup)(h:eE W kvs ps):eE W (aP kvs k v) (stored ps k y):=by
 induction kvs generalizing ps with
 |nil=>induction ps with |nil=>exact⟨rfl,hk,hv,trivial⟩|cons=>exact h.elim
 |cons p r ih=>induction ps with
  |nil=>exact h.elim|cons q r'=>
   obtain⟨e,hl,hu,hr⟩:=(h:q.1=p.1∧p.1.length<ai∧Rel W p.2 q.2∧eE W r r');obtain⟨n1,n2⟩:=xW nd;show eE W (bif k==p.1 then(p.1,v)::r else p::aP r k v) _;unfold stored;rw[List.any_cons,List.map_cons];by_cases hx:q.1=k
   ·rw[decide_eq_true hx,if_pos hx,show(k==p.1)=true from beq_iff_eq.mpr (hx.symm.trans e)];exact⟨e,hl,hv,(map_store_of_not_mem r' k y (hx▸n1)).symm▸hr⟩
   ·rw[decide_eq_false hx,if_neg hx,show(k==p.1)=false from beq_false_of_ne fun z=>hx (e.trans z.symm)];have :=ih n2 hr;unfold stored at this;refine(?_:eE W (p::aP r k v) (if r'.any (fun p=>decide (p.1=k)) then q::r'.map _ else q::(r'++[(k,y)])));induction hh:r'.any fun p=>decide (p.1=k)<;>rw[hh] at this<;>exact⟨e,hl,hu,this⟩
end
noncomputable def Hs(x y:Value):Bool:=match x with
|.int i _=>match y with |.int j _=>i==j|_=>false
|.str a _=>match y with |.str b _=>a==b|_=>false
|_=>false
section
variable{A:Around}{E:Value→Shared→Prop}{W:Wd}{H H':AH}{s:Shared}
theorem JW{a b:V}{x y:Value}{r:Bool}(h:LW a b=some r)(ra:Rel W a x)(rb:Rel W b y):Hs x y=r∧SeqAt.EqAt A s x y (Hs x y):=ie h (fun h=>aB.el h ra fun i t h=>aB.el h rb fun j u h=>⟨Option.some.inj h,SeqAt.EqAt.int_int _ _ _ _⟩) fun h=>onStr.el h ra fun i t c h=>onStr.el h rb fun j u c h=>⟨Option.some.inj h,SeqAt.EqAt.str_str _ _ _ _⟩
theorem u7{x:V}{x':Value}(rx:Rel W x x'){vs:List V}{xs:List Value}{r:List Bool}(h:eqRow x vs=some r)(rs:aA W vs xs):xs.map (Hs · x')=r∧∀y∈xs,SeqAt.EqAt A s y x' (Hs y x'):=by
 induction vs generalizing xs r with
 |nil=>induction xs with |nil=>exact⟨Option.some.inj h,fun a h=>nomatch h⟩|cons _ _=>exact rs.elim
 |cons v vs ih=>induction xs with
  |nil=>exact rs.elim|cons y ys=>
   obtain h:(match LW v x,eqRow x vs with |some p,some q=>some (p::q)|_,_=>none)=some r:=h;induction h1:LW v x with
   |none=>obtain h:=h1▸h;exact nE h
   |some p=>induction h2:eqRow x vs with |none=>rw[h1,h2] at h;exact nE h|some q=>rw[h1,h2] at h;obtain g:=ih h2 rs.2;obtain e:=JW (A:=A) (s:=s) h1 rs.1 rx;exact⟨(congr (congrArg List.cons e.1) g.1).trans (Option.some.inj h),fun z hz=>(bM hz).elim (fun q=>q▸e.2) (g.2 z)⟩
theorem bf{b:Bool}{X:Addr→Prop}(S:aH W H s):aT W H s X H (fun W' a=>Rel W' (.bool b) (.bool b)) s:=bN S rfl
theorem gu{b:Bool}{X:Addr→Prop}(S:aH W H s)(k:Nat):aT W H s X H (fun W' a=>Rel W' (.bool b) (.bool b)) {s with toks:=k}:=cD S k rfl
theorem u9{x:Str}{t:Tok}{d:Addr}{es:Array DictEntry}{n:Nat}{kvs:List (Str×V)}(S:aH W H s)(g:s.heap.get? d=some (cX es n))(hd:d≠sysModules)(nd:(kvs.map (·.1)).Nodup)(r:Reld W kvs es.toList):
  wpAny (model G.prog G.w) A (compareOp .In (.str x t) (.ref d)) (fun z=>aT W H s aI H fun W' a=>Rel W' (.bool (kvs.lookup x).isSome) z) E s∧
  wpAny (model G.prog G.w) A (compareOp .NotIn (.str x t) (.ref d)) (fun z=>aT W H s aI H fun W' a=>Rel W' (.bool !(kvs.lookup x).isSome) z) E s:=by
 refine(dM g nd r).elim fun ps z=>z.elim fun D rp=>?_
 obtain hl:=rp.lookup x;obtain e:(valueAt ps x).isSome=(kvs.lookup x).isSome:=by
  induction hk:kvs.lookup x with
  |none=>obtain hl:=hk▸hl;rw[hl];rfl
  |some v=>rw[hk] at hl;obtain⟨y,hy,_⟩:=hl;rw[hy];rfl
 refine e▸?_;exact⟨wpAny_in_of (strKind_is _ _ _ _) (by simpa using hd) D.mapOf (gu S _),wpAny_notIn_of (strKind_is _ _ _ _) (by simpa using hd) D.mapOf (gu S _)⟩
theorem pG{a b:V}{r:Bool}{x y:Value}(h:inside H a b=some r)(S:aH W H s)(hx:Rel W a x)(hy:Rel W b y):
  wpAny (model G.prog G.w) A (compareOp .In x y) (fun z=>aT W H s aI H fun W' c=>Rel W' (.bool r) z) E s∧
  wpAny (model G.prog G.w) A (compareOp .NotIn x y) (fun z=>aT W H s aI H fun W' c=>Rel W' (.bool !r) z) E s:=by
 refine ie h (fun h=>onStr.el h hx fun p t c h=>ie h (fun h=>onStr.el h hy fun q u c h=>Option.some.inj h▸⟨P.in_str (bf S),P.notIn_str (bf S)⟩) fun h=>gH.el h fun kvs e h=>?_) fun h=>eg.el h fun ys e h=>?_
 ·cases e;obtain⟨l,n,xs,rfl,z,_,rs⟩:=hy;obtain⟨q,hq,hr⟩:=gf h;obtain g:=u7 (A:=A.in1) (s:=s) hx hq rs;obtain e:xs.any (Hs · x)=r:=by rw[←hr,←g.1,List.any_map];exact Array.any_toList.symm
  obtain m:=fun y (hy:y∈xs)=>g.2 y (Array.mem_def.mp hy)
  exact⟨SeqAt.in_listAt _ (pF (S.z _ _ z)) m (e▸bf S),SeqAt.notIn_listAt _ (pF (S.z _ _ z)) m (e▸bf S)⟩
 ·obtain hh:=mT S hy;rw[e] at hh;obtain⟨d,n,es,rfl,z,h0,nd,_,rd⟩:=hh;exact Option.some.inj h▸u9 S z h0 nd rd
end
section
variable{n:Nat}{A:Around}{E:Value→Shared→Prop}{W:Wd}{H H':AH}{s:Shared}{sc:Scope}{env:af}{e':Env}
theorem JX{op:CmpOp}{a b c:V}{x y:Value}(h:dK H op a b=some c)(S:aH W H s)(hx:Rel W a x)(hy:Rel W b y)(hu:A.units+12<cLine):
  wpAny (model G.prog G.w) A (compareOp op x y) (fun z=>aT W H s aI H fun W' d=>Rel W' c z) E s:=by
 induction op with
 |Eq=>obtain⟨r,hr,rfl⟩:=gf h;exact(qH bg hr S hx hy (Nat.lt_of_succ_lt (Nat.lt_of_succ_lt hu))).rc _ _ _ _ (bf S)
 |NotEq=>obtain⟨r,hr,rfl⟩:=gf h;exact(qH bg hr S hx hy (Nat.lt_of_succ_lt (Nat.lt_of_succ_lt hu))).ne _ _ _ _ (bf S)
 |Lt=>exact ie h (fun h=>aB.el h hx fun i t h=>aB.el h hy fun j u h=>Option.some.inj h▸P.lt_int (bf S)) fun h=>onStr.el h hx fun i t d h=>onStr.el h hy fun j u d h=>Option.some.inj h▸P.lt_str (bf S)|Gt=>exact ie h (fun h=>aB.el h hx fun i t h=>aB.el h hy fun j u h=>Option.some.inj h▸P.gt_int (bf S)) fun h=>onStr.el h hx fun i t d h=>onStr.el h hy fun j u d h=>Option.some.inj h▸compareOp_gives (op:=.Gt) (typeIs_str _ _ t) (typeIs_str _ _ u) F.slot_str_gt F.entry_str_gt (F.args_str_gt_2 _ _) (gives_str_gt _ _ t u) (fun e=>nomatch e) (bf S)|GtE=>exact aB.el h hx fun i t h=>aB.el h hy fun j u h=>Option.some.inj h▸P.ge_int (bf S)|Is=>exact cI.el h hy fun q h=>ie h (fun h=>cI.el h hx fun p h=>Option.some.inj h▸is_bool (bf S)) fun h=>aB.el h hx fun p t h=>Option.some.inj h▸wpAny_is_other rfl (fun e=>nomatch e) (bf S)|IsNot=>exact ie h (fun h=>cI.el h hy fun q h=>cI.el h hx fun p h=>Option.some.inj h▸isnot_bool (bf S)) fun h=>j0.el h hy fun h=>ie h (fun h=>j0.el h hx fun h=>Option.some.inj h▸isnot_none_none (bf S)) fun h=>onStr.el h hx fun p t d h=>Option.some.inj h▸isnot_str_none (bf S)|In=>
  refine ie h (fun h=>onSet.el h fun xs e h=>aB.el h hx fun i t hq=>?_) fun h=>?_
  ·obtain⟨r,hr,rfl⟩:=gf h;exact(pG hr S hx hy).1
  ·cases e;obtain⟨rfl,rfl⟩:=hy;exact Option.some.inj hq▸S.cj.setIn rfl fun k=>gu S k
 |NotIn=>obtain⟨r,hr,rfl⟩:=gf h;exact(pG hr S hx hy).2
 |_=>exact nE h
end
section
variable{n:Nat}{A:Around}{E:Value→Shared→Prop}{W:Wd}{H H':AH}{s:Shared}{sc:Scope}{env:af}{e':Env}
theorem yh{P:Sem Value→Prop}{o i:Value}(h1:P (operate [i,o] (getItem o i)))(h2:P (operate [o,i] (getItem o i)))(sl:Expr):P (subscripted sl false o i):=by
 induction sl using Expr.casesOn with
 |Slice lo hi st p=>induction st with |none=>exact h1|some _=>exact h2
 |_=>exact h2
theorem wW{value slice:Expr}{pos:Pos}{Q:Value→Shared→Prop}
  (h:wpAny (model G.prog G.w) A (eval value e') (fun o s₁=>wpAny (model G.prog G.w) A (eval slice e') (fun i s₂=>∃T id,typeLookup (.type T) "__getitem__"=pure (some (.builtin id))∧s₂.TypeIs o T∧wpAny (model G.prog G.w) A (getItem o i) Q E s₂) E s₁) E s):
  wpAny (model G.prog G.w) A (eval (.Subscript value slice pos) e') Q E s:=by
 refine wpAny_bind (wpAny_mono h (fun o s₁ h₁=>wpAny_bind (wpAny_holding (wpAny_mono h₁ (fun i s₂ h₂=>wpAny_bind (wpAny_standAt ?_)) fun a a x=>x)))
  fun a a x=>x)
 refine h₂.elim fun T z4=>?_;refine z4.elim fun id z5=>?_;obtain hl:=z5.1;obtain hT:=z5.2.1;obtain hg:=z5.2.2
 obtain fin:∀l,wpAny (model G.prog G.w) A (operate l (getItem o i)) (fun r s₃=>wpAny (model G.prog G.w) A (letTemporaryGo value o r>>=fun a=>pure r) Q E s₃) E s₂:=fun l=>wpAny_operating (wpAny_mono hg (fun r s₃ h₃=>wpAny_bind (wpAny_letTemporaryGo (wpAny_pure h₃))) fun a a x=>x)
 refine wpAny_bind ?_;refine wpAny_bind (wpAny_specialOf hT hl ?_);exact wpAny_pure (yh (P:=fun m=>wpAny (model G.prog G.w) A (m>>=fun r=>letTemporaryGo value o r>>=fun a=>pure r) Q E s₂) (wpAny_bind (fin _)) (wpAny_bind (fin _)) slice)
theorem eF{m:Nat}{i:Int}{k:Nat}(h:cB m i=some k):-2^63≤i∧i<2^63∧seqIndex? i m=some k:=by
 unfold cB at h;induction hc:decide (-2^63≤i)&&decide (i<2^63) with |false=>rw[hc] at h;exact nE h|true=>rw[hc] at h;obtain q:=aW hc;exact⟨of_decide_eq_true q.1,of_decide_eq_true q.2,h⟩
theorem qI{l:Addr}{xs:Array Value}{m:Nat}{vs:List V}{i:Int}{u:Tok}{c:V}(S:aH W H s)(g:s.heap.get? l=some (gW xs m))(r:aA W vs xs.toList)
  (h:(cB vs.length i).bind (fun k=>vs[k]?)=some c):
  wpAny (model G.prog G.w) A (getItem (.ref l) (.int i u)) (fun z=>aT W H s aI H fun W' a=>Rel W' c z) E s:=by
 refine(rS h).elim fun k z=>z.elim fun hk hv=>?_
 obtain hb:=eF hk;obtain⟨x,hx,rx⟩:=r.get hv;obtain hx:xs[k]?=some x:=Array.getElem?_toList.symm.trans hx;obtain h3:(if(decide (0≤(if i<0 then i+(vs.length:Int) else i))&&decide ((if i<0 then i+(vs.length:Int) else i)<vs.length))=true then some (if i<0 then i+(vs.length:Int) else i).toNat else none)=some k:=hb.2.2;obtain h3:=(show vs.length=xs.size from r.length)▸h3;by_cases hi:i<0
 ·rw[if_pos hi] at h3;exact j_ h3 fun hc e=>wpAny_getItem_list_neg (pF g) hi (by obtain this:=of_decide_eq_true (aW hc).1;exact D0 (nat_lit 0x7d810708098101) ae this) hb.1 (e▸hx) (bN S rx)
 ·rw[if_neg hi] at h3;exact j_ h3 fun hc e=>wpAny_getItem_list (pF g) (of_decide_eq_true (aW hc).1) hb.2.1 (e▸hx) (bN S rx)
theorem qJ{d:Addr}{es:Array DictEntry}{m:Nat}{kvs:List (Str×V)}{x:Str}{t:Tok}{c:V}(S:aH W H s)(g:s.heap.get? d=some (cX es m))(nd:(kvs.map (·.1)).Nodup)(r:Reld W kvs es.toList)
  (h:kvs.lookup x=some c):wpAny (model G.prog G.w) A (getItem (.ref d) (.str x t)) (fun z=>aT W H s aI H fun W' a=>Rel W' c z) E s:=by
 obtain⟨ps,D,rp⟩:=dM g nd r;obtain hl:=rp.lookup x;rw[h] at hl;obtain⟨y,hy,ry⟩:=hl;exact wpAny_getItem_of (strKind_is _ _ _ _) D.mapOf hy (cD S _ ry)
def yi(s:Shared)(x:Value):Prop:=∃T id,typeLookup (.type T) "__getitem__"=pure (some (.builtin id))∧s.TypeIs x T
theorem pH{l:Addr}{xs:Array Value}{m:Nat}(g:s.heap.get? l=some (gW xs m)):yi s (.ref l):=⟨_,_,slot_list_getitem.lookup,_,g,rfl⟩
theorem mU{l:Addr}{xs:Array Value}{m:Nat}(g:s.heap.get? l=some (pC xs m)):yi s (.ref l):=⟨_,_,F.slot_tuple_getitem.lookup,_,g,rfl⟩
theorem yj{l:Addr}{xs:Array DictEntry}{m:Nat}(g:s.heap.get? l=some (cX xs m)):yi s (.ref l):=⟨_,_,slot_dict_getitem.lookup,_,g,rfl⟩
theorem sI{x:Str}{t:Tok}:yi s (.str x t):=⟨_,_,F.slot_str_getitem.lookup,typeIs_str s x t⟩
theorem wX{a i c:V}{x y:Value}(h:item H a i=some c)(S:aH W H s)(hx:Rel W a x)(hy:Rel W i y):
  yi s x∧wpAny (model G.prog G.w) A (getItem x y) (fun z=>aT W H s aI H fun W' b=>Rel W' c z) E s:=by
 have hh:=mT S hx;have h:rV (deref H a) i=some c:=h
 revert hh h
 generalize deref H a=a';intro hh h;induction a' using V.casesOn with
 |lst vs=>obtain⟨l,m,xs,rfl,g,_,r⟩:=hh;exact⟨pH g,aB.el h hy fun i u h=>qI S g r h⟩
 |tup vs=>
  obtain⟨l,m,xs,rfl,g,_,r⟩:=hh;refine⟨mU g,aB.el h hy fun i u h=>?_⟩;obtain⟨k,hk,hv⟩:=rS h;have hb:=eF hk
  obtain⟨q,hq,rq⟩:=r.get hv;exact P.getItem_tuple g hb.1 hb.2.1 ((show vs.length=xs.size from r.length)▸hb.2.2) (Array.getElem?_toList.symm.trans hq) (bN S rq)
 |str x=>obtain⟨hl,t,rfl⟩:=hh;refine⟨sI,aB.el h hy fun i u h=>?_⟩;obtain⟨k,hk,hv⟩:=rS h;obtain hb:=eF hk;obtain⟨ch,hc,e⟩:=gf hv;exact e▸P.getItem_str (c:=ch) (Bool.or_eq_false_iff.mpr ⟨decide_eq_false (Int.not_lt.mpr hb.1),decide_eq_false (Int.not_le.mpr hb.2.1)⟩) (by rw[hb.2.2];exact hc) (dZ S (show 1<ai by decide))
 |aF kvs=>obtain⟨d,m,es,rfl,g,_,nd,_,r⟩:=hh;exact⟨yj g,onStr.el h hy fun x u b h=>qJ S g nd r h⟩
 |_=>exact nE h
theorem A3{vs:List V}{xs:Array Value}(r:aA W vs xs.toList)(lo hi:Option Int):aA W (cut vs lo hi) (cut xs.toList lo hi):=by obtain el:=r.length;unfold cut;refine el▸?_;exact(r.drop _).take _
theorem A4{α:Type}(xs:List α)(lo hi:Option Int):(cut xs lo hi).length≤xs.length:=((List.take_sublist ..).trans (List.drop_sublist ..)).length_le
def kg(x:Value)(o:Option Int):Prop:=(o=none∧x=.none)∨∃i t,o=some i∧x=.int i t
theorem kg.part{x:Value}{o:Option Int}(h:kg x o):IsPart x o:=by
 rcases h with ⟨rfl,rfl⟩|⟨i,t,rfl,rfl⟩
 ·exact .none
 ·exact .int i t
theorem kg.at{x:Value}{o:Option Int}{i:Int}(h:kg x o)(e:o=some i):∃t,x=.int i t:=by
 rcases h with ⟨rfl,rfl⟩|⟨j,t,rfl,rfl⟩
 ·exact nE e
 ·exact⟨t,Option.some.inj e▸rfl⟩
theorem kg.pair{x:Value}{o:Option Int}(h:kg x o):∃p:Option (Int×Tok),p.map (·.1)=o∧x=partValue p:=by
 rcases h with ⟨rfl,rfl⟩|⟨i,t,rfl,rfl⟩
 ·exact⟨none,rfl,rfl⟩
 ·exact⟨some (i,t),rfl,rfl⟩
theorem u_(a b n:Nat)(h:a≤n)(k:b≤n):Builtin.Slice.sliceAdjust (some (a:Int)) (some (b:Int)) 1 (n:Int)=((a:Int),(b:Int)):=
 have e:∀c:Nat,c≤n→(if(c:Int)<0 then max ((c:Int)+n) 0 else min (c:Int) n)=(c:Int):=fun c h=>(if_neg (Int.not_lt.mpr (Int.natCast_nonneg c))).trans (Int.min_eq_left (Int.ofNat_le.mpr h))
 Prod.ext (e a h) (e b k)
theorem vc(a b:Nat)(h:a≤b):Builtin.Slice.slicePlaces (a:Int) (b:Int) 1=b-a:=by
 show(if(a:Int)<(b:Int) then((b:Int)-a-1)/1+1 else 0).toNat=b-a;rw[Int.ediv_one,Int.sub_add_cancel];by_cases hl:(a:Int)<(b:Int)
 ·rw[if_pos hl];exact Int.toNat_sub b a
 ·rw[if_neg hl];exact(Nat.sub_eq_zero_of_le (Int.ofNat_le.mp (Int.not_lt.mp hl))).symm
theorem D7(xs:Array Value)(a k:Nat):((List.range k).filterMap fun(j:Nat)=>xs[((a:Int)+(j:Int)* 1).toNat]?)=(xs.toList.drop a).take k:=by
 obtain e:(fun(k:Nat)=>xs[((a:Int)+(k:Int)* 1).toNat]?)=fun k=>xs[a+k]?:=funext fun k=>by rw[Int.mul_one];rfl
 simp only[e,←pick_run xs a k,List.filterMap_map];rfl
theorem mV{t sl:Addr}{xs:Array Value}{m:Nat}{vs:List V}{u u':Tok}{a b:Nat}(S:aH W H s)(z:s.heap.get? t=some (pC xs m))(hz:vs.length<ai)(r:aA W vs xs.toList)
  (hs:s.heap.IsSliceOf sl (.int a u) (.int b u') .none)(h1:1≤a)(Rl:a≤b)(hb:b≤vs.length):
  wpAny (model G.prog G.w) A (getItem (.ref t) (.ref sl)) (fun z=>aT W H s aI H fun W' c=>Rel W' (.tup ((vs.drop a).take (b-a))) z) E s:=by
 obtain el:vs.length=xs.size:=r.length;rw[el] at hb;obtain D8:=(r.drop a).take (b-a);obtain jd:((vs.drop a).take (b-a)).length<ai:=Nat.lt_of_le_of_lt ((List.take_sublist ..).trans (List.drop_sublist ..)).length_le hz;obtain ht:s.heap.IsTuple t xs:=DB z;refine(id hs).elim fun os JY=>?_;obtain rP:=JY.1;obtain Ht:=JY.2.1;obtain S7:=JY.2.2
 unfold getItem
 try with_reducible refine wpAny_holding ?_
 first|refine wpAny_bind (wpAny_pure ?_)|skip
 refine wpAny_bind (wpAny_sequenceKey ht.typeIs rfl ?_)
 refine wpAny_bind (wpAny_callSpecial?_slot (name:=Str.ofString "__getitem__") ht.typeIs F.slot_tuple_getitem
  (wpAny_call_entry F.slot_tuple_getitem ht.typeIs F.entry_tuple_getitem ?_ (F.args_tuple_getitem_2 _ _)))
 refine(?_:wpAny _ _ (Builtin.Tuple.tupleItemsOf (.ref t)>>=_) _ _ s);refine wpAny_bind (wpAny_bind (wpAny_seqItems z rfl (wpAny_pure (wpAny_bind (wpAny_typeOf (show s.TypeIs (.ref sl) "slice" from⟨os,rP,Ht⟩) ?_)))));refine wpAny_bind ?_;refine wpAny_bind (wpAny_bind (wpAny_field rP S7 (x:=.int a u) rfl (wpAny_bind (wpAny_field rP S7 (x:=.int b u') rfl (wpAny_bind (wpAny_field rP S7 (x:=.none) rfl (wpAny_pure ?_)))))));refine wpAny_bind (slicePart_none ?_);refine wpAny_bind (slicePart_int (wpAny_bind (slicePart_int (wpAny_bind (wpAny_pure ?_)))));refine(?_:wpAny _ _ (match Builtin.Slice.sliceAdjust (some (a:Int)) (some (b:Int)) 1 (xs.size:Int) with |(lo,hi)=>pure (lo,(1:Int),Builtin.Slice.slicePlaces lo hi 1)) _ _ s);refine(u_ a b xs.size (Nat.le_trans Rl hb) hb)▸?_;show wpAny _ _ (pure ((a:Int),(1:Int),Builtin.Slice.slicePlaces (a:Int) (b:Int) 1)) _ _ s;refine(vc a b Rl).symm▸?_;refine wpAny_pure ?_;simp only[show((a:Int)==0)=false from oK (Int.ne_of_gt (Int.ofNat_lt.mpr h1)),D7];exact wpAny_bind (m:=Builtin.Tuple.tupleExact _) (wpAny_newObj_type (wpAny_pure ⟨_,rfl,wpAny_pure ⟨_,ah.push S aI (pC ((xs.toList.drop a).take (b-a)).toArray 0),_,_,_,rfl,Wd.aU ..,jd,D8.mono (ah.push S aI _).le⟩⟩) (show((xs.toList.drop a).take (b-a)).toArray.size≤sizeLine from br (n:=((xs.toList.drop a).take (b-a)).length) (D8.length▸jd)))
theorem oQ{t sl:Addr}{xs:Array Value}{m:Nat}{vs:List V}{lv hv:Value}{lo hi:Option Int}(S:aH W H s)(g:s.heap.get? t=some (gW xs m))(hz:vs.length<ai)(r:aA W vs xs.toList)
  (hs:s.heap.IsSliceOf sl lv hv .none)(hl:kg lv lo)(hh:kg hv hi):
  wpAny (model G.prog G.w) A (getItem (.ref t) (.ref sl)) (fun z=>aT W H s aI H fun W' a=>Rel W' (.lst (cut vs lo hi)) z) E s:=by
 obtain el:=r.length;simp only[Array.length_toList] at el;obtain D8:=A3 r lo hi;obtain jd:(cut vs lo hi).length<ai:=Nat.lt_of_le_of_lt (A4 ..) hz;obtain e:slicePick xs lo hi none=(cut xs.toList lo hi).toArray:=by rw[slicePick_plain];rfl
 refine wpAny_getItem_list_slice (pF g) hs hl.part hh.part .none (by decide) ?_ (br (aQ (nat_lit 9307503654351106) ae el hz));rw[e];obtain PP:=ah.push S aI (gW (cut xs.toList lo hi).toArray 0);refine⟨_,PP,?_⟩;exact⟨_,_,_,rfl,Wd.aU ..,jd,by exact D8.mono PP.le⟩
theorem picked_eq(x:Str)(l u:Option (Int×Tok)):slicePicked x l u none=(List.range ((u.map (·.1)).elim x.length (clipAt x.length)-(l.map (·.1)).elim 0 (clipAt x.length))).map ((l.map (·.1)).elim 0 (clipAt x.length)+·):=by
 obtain e:∀i:Int,max 0 (min (if i<0 then i+(x.length:Int) else i) (x.length:Int))=((clipAt x.length i:Nat):Int):=fun i=>(clipAt_cast _ _).symm
 obtain key:∀(lo hi:Option Int),sliceRange (match lo with |none=>(0:Int)|some i=>max 0 (min (if i<0 then i+(x.length:Int) else i) (x.length:Int))) (match hi with |none=>(x.length:Int)|some i=>max 0 (min (if i<0 then i+(x.length:Int) else i) (x.length:Int))) 1=(List.range (hi.elim x.length (clipAt x.length)-lo.elim 0 (clipAt x.length))).map (lo.elim 0 (clipAt x.length)+·):=by intro lo hi;rw[←sliceRange_one];induction lo<;>induction hi<;>simp[e]
 exact key _ _
theorem qK{x:Str}{t:Tok}{sl:Addr}{lv hv:Value}{lo hi:Option Int}(S:aH W H s)(hz:x.length<ai)
  (hs:s.heap.IsSliceOf sl lv hv .none)(hl:kg lv lo)(hh:kg hv hi):
  wpAny (model G.prog G.w) A (getItem (.str x t) (.ref sl)) (fun z=>aT W H s aI H fun W' a=>Rel W' (.str ⟨(cut x.cps.toList lo hi).toArray⟩) z) E s:=by
 obtain⟨l,rfl,rfl⟩:=hl.pair;obtain⟨u,rfl,rfl⟩:=hh.pair;refine wpAny_getItem_str_slice (l:=l) (u:=u) (st:=none) hs rfl ?_;have e:((slicePicked x l u none).filterMap (x.cps[·]?))=cut x.cps.toList (l.map (·.1)) (u.map (·.1)):=by rw[picked_eq,pick_run];unfold cut;rw[Array.length_toList];rfl
 have jd:(cut x.cps.toList (l.map (·.1)) (u.map (·.1))).toArray.size<ai:=Nat.lt_of_le_of_lt (A4 ..) hz;unfold sliceMade;rw[e];induction hc:(((none:Option (Int×Tok)).map (·.1)).getD 1==1&&(slicePicked x l u none).length==x.length) with
 |true=>
  have hc:(slicePicked x l u none).length=x.cps.toList.length:=eq_of_beq (aW hc).2;rw[picked_eq,List.length_map,List.length_range] at hc;have b1:(u.map (·.1)).elim x.length (clipAt x.length)≤x.length:=by
   induction u with |none=>exact Nat.le_refl _|some q=>exact Int.ofNat_le.mp (clipAt_cast x.length q.1▸Int.max_le.mpr ⟨Int.natCast_nonneg _,Int.min_le_right ..⟩)
  have whole:cut x.cps.toList (l.map (·.1)) (u.map (·.1))=x.cps.toList:=((List.take_sublist ..).trans (List.drop_sublist ..)).eq_of_length_le (by rw[List.length_take,List.length_drop];exact Nat.le_min.mpr ⟨Nat.le_of_eq hc.symm,Nat.le_trans (Nat.le_of_eq hc.symm) (Nat.sub_le_sub_right b1 _)⟩);rw[whole];exact bN (P:=fun W' a=>Rel W' (.str ⟨x.cps.toList.toArray⟩) (.str x t)) S ⟨hz,t,rfl⟩
 |false=>exact⟨br jd,dZ S jd⟩
theorem A5{a c:V}{x:Value}{sl:Addr}{lv hv:Value}{lo hi:Option Int}(h:slice H a lo hi=some c)(S:aH W H s)(hx:Rel W a x)
  (hs:s.heap.IsSliceOf sl lv hv .none)(hl:kg lv lo)(S8:kg hv hi):
  yi s x∧wpAny (model G.prog G.w) A (getItem x (.ref sl)) (fun z=>aT W H s aI H fun W' d=>Rel W' c z) E s:=by
 obtain hh:=mT S hx;have h:(match deref H a with |.tup xs=>lo.bind (fun i=>hi.bind fun j=>bif F_ i j xs.length then some (.tup ((xs.drop i.toNat).take (j.toNat-i.toNat))) else none)|.lst xs=>some (.lst (cut xs lo hi))|.str x=>some (.str ⟨(cut x.cps.toList lo hi).toArray⟩)|_=>none)=some c:=h
 revert hh h
 generalize deref H a=a';intro hh h;induction a' using V.casesOn with
 |tup vs=>
  obtain⟨l,m,xs,rfl,g,hz,r⟩:=hh;obtain⟨i,ei,h⟩:=rS h;obtain⟨j,ej,h⟩:=rS h;refine sD h fun hc e=>e▸⟨mU g,?_⟩
  have q:=aW hc;have q1:=aW q.1
  have h1:=of_decide_eq_true q1.1;have h2:=of_decide_eq_true q1.2
  have h3:=of_decide_eq_true q.2;obtain⟨a,rfl⟩:=Int.eq_ofNat_of_zero_le (Int.le_trans (by decide) h1);obtain⟨b,rfl⟩:=Int.eq_ofNat_of_zero_le (Int.le_trans (Int.le_trans (by decide) h1) h2);obtain⟨u,rfl⟩:=hl.at ei;obtain⟨u',rfl⟩:=S8.at ej;exact mV S g hz r hs (Int.ofNat_le.mp h1) (Int.ofNat_le.mp h2) (Int.ofNat_le.mp h3)
 |lst vs=>obtain⟨l,m,xs,rfl,g,hz,r⟩:=hh;exact Option.some.inj h▸⟨pH g,oQ S g hz r hs hl S8⟩
 |str x=>obtain⟨hz,t,rfl⟩:=hh;exact Option.some.inj h▸⟨sI,qK S hz hs hl S8⟩
 |_=>exact nE h
end
theorem iY{p:Arguments}{ps:List Str}(h:cL p=some ps):∃as,p=⟨[],as,none,[],[],none,[]⟩∧ps=as.map (·.arg):=by
 obtain⟨a,as,b,c,d,e,f⟩:=p;induction a with |cons _ _=>exact nE h|nil=>
 induction b with |some _=>exact nE h|none=>
 induction c with |cons _ _=>exact nE h|nil=>
 induction d with |cons _ _=>exact nE h|nil=>
 induction e with |some _=>exact nE h|none=>
 induction f with |cons _ _=>exact nE h|nil=>exact⟨as,rfl,(Option.some.inj h).symm⟩
theorem fh:∀(ps:List Str) (xs:List Value),ps.length=xs.length→∀n∈ps,((ps.zip xs).lookup n).isNone=false
|[],aK,bA,n,h=>by exact nomatch h|p::ps,[],h,aK,bA=>by simp at h|p::ps,x::xs,h,n,hn=>by
 simp only[List.zip_cons_cons,List.lookup_cons];by_cases hp:n=p
 ·subst hp;simp
 ·obtain h1:(n==p)=false:=by simpa using hp
  refine h1.symm▸?_;exact fh ps xs (by simpa using h) n ((bM hn).resolve_left hp)
theorem iZ:∀(ps:List Str) (xs:List Value) (pre:List (Str×Value)),ps.length=xs.length→ps.Nodup→(∀q∈pre,q.1∉ps)→ps.filterMap (fun n=>((pre++ps.zip xs).lookup n).map (n,·))=ps.zip xs
|[],aK,bA,gI,ux,Gd=>rfl|p::ps,[],aK,h,bA,gI=>by simp at h|p::ps,x::xs,pre,h,nd,yk=>by
 obtain hl:(pre++(p::ps).zip (x::xs)).lookup p=some x:=by
  refine List.lookup_append.trans ?_;have :pre.lookup p=none:=by rw[List.lookup_eq_none_iff];intro q hq;obtain this:=yk q hq;simp only[List.mem_cons,not_or] at this;simpa using fun e=>this.1 e.symm
  rw[this];simp
 rw[List.filterMap_cons,hl];simp only[Option.map_some,List.zip_cons_cons];congr 1;obtain e:pre++(p,x)::ps.zip xs=(pre++[(p,x)])++ps.zip xs:=by simp
 refine e▸?_;simp only[List.nodup_cons] at nd;refine iZ ps xs (pre++[(p,x)]) (by simpa using h) nd.2 fun q hq=>?_
 rcases List.mem_append.mp hq with hq|hq
 ·obtain this:=yk q hq;simp only[List.mem_cons,not_or] at this;exact this.2
 ·rw[List.mem_singleton] at hq;subst hq;exact nd.1
theorem lq{fd:FuncData}{ps:List Str}{xs:List Value}(hp:cL fd.params=some ps)(hd:fd.defaults=.none)(hk:fd.kwdefaults=.none)(hl:ps.length=xs.length)(nd:ps.Nodup):
  bindArgs fd ⟨xs,[]⟩=pure (ps.zip xs):=by
 obtain⟨as,LY,rfl⟩:=iY hp;unfold bindArgs;rw[LY,hd];obtain h1:seqItems? Value.none=pure none:=rfl;obtain hlen:as.length=xs.length:=by simpa using hl
 obtain NX:List.filter (fun n=>(List.lookup n ((as.map (·.arg)).zip xs)).isNone) (as.map (·.arg))=[]:=by rw[List.filter_eq_nil_iff];intro n hn;rw[fh _ _ hl n hn];simp
 obtain hb:=iZ (as.map (·.arg)) xs [] hl nd (fun q hq=>by exact nomatch hq);simp only[List.nil_append] at hb;rw[List.filterMap_map] at hb;simp[h1,hlen,NX,hb,List.take_of_length_le]
theorem pI(K:Str→Option NameKind):∀(r:List (Str×Value)) (m:Str→Option Value) (x:Str),x∉r.map (·.1)→bindL K r m x=m x
|[],aK,bA,gI=>rfl|(n,v)::r,m,x,h=>by
 simp only[List.map_cons,List.mem_cons,not_or] at h;refine(pI K r _ x h.2).trans ?_;split
 ·skip
  exact if_neg h.1
 ·rfl
theorem pJ(K:Str→Option NameKind):∀(r:List (Str×Value)) (m:Str→Option Value) (x:Str),x∉r.map (·.1)→bindC K r m x=m x
|[],aK,bA,gI=>rfl|(n,v)::r,m,x,h=>by
 simp only[List.map_cons,List.mem_cons,not_or] at h;refine(pJ K r _ x h.2).trans ?_;split
 ·rfl
 ·skip
  exact if_neg h.1
section
variable{W:Wd}
theorem jE:∀(ps:List Str) (xs:List Value),ps.length=xs.length→(ps.zip xs).map (·.1)=ps|[],aK,bA=>rfl|p::ps,[],h=>by simp at h|p::ps,x::xs,h=>by exact congrArg _ (jE ps xs (by simpa using h))
theorem pK(K:Str→Option NameKind){ps:List Str}{vs:List V}{xs:List Value}(m:Str→Option Value)(nd:ps.Nodup)(hl:ps.length=vs.length)(hr:aA W vs xs)(x:Str)(u:V)(hk:K x=some .local)(h:(ps.zip vs).lookup x=some u):
  ∃y,bindL K (ps.zip xs) m x=some y∧Rel W u y:=by
 induction ps generalizing vs xs m with
 |nil=>exact nE h|cons p ps ih=>induction vs using List.casesOn with
  |nil=>exact nE h|cons v vs=>induction xs using List.casesOn with
   |nil=>exact hr.elim|cons y ys=>
    rw[List.nodup_cons] at nd;simp only[List.zip_cons_cons,List.lookup_cons] at h⊢;unfold bindL;by_cases hx:x=p
    ·subst hx;rw[beq_self_eq_true,Option.some.injEq] at h;subst h;have DC:ps.length=ys.length:=by obtain this:=hr.2.length;simp only[List.length_cons] at hl;exact aQ (nat_lit 0x12251025190819282512) ae hl this
     rw[pI _ _ _ _ (by rw[jE ps ys DC];exact nd.1),if_pos hk];exact⟨y,by simp,hr.1⟩
    ·obtain h1:(x==p)=false:=by simpa using hx
     obtain h:=h1▸h;exact ih _ nd.2 (Nat.succ.inj hl) hr.2 h
theorem yl(K:Str→Option NameKind){ps:List Str}{vs:List V}{xs:List Value}(m:Str→Option Value)(nd:ps.Nodup)(hl:ps.length=vs.length)(hr:aA W vs xs)(x:Str)(u:V)(hk:K x≠some .local)(h:(ps.zip vs).lookup x=some u):
  ∃y,bindC K (ps.zip xs) m x=some y∧Rel W u y:=by
 induction ps generalizing vs xs m with
 |nil=>exact nE h|cons p ps ih=>induction vs using List.casesOn with
  |nil=>exact nE h|cons v vs=>induction xs using List.casesOn with
   |nil=>exact hr.elim|cons y ys=>
    rw[List.nodup_cons] at nd;simp only[List.zip_cons_cons,List.lookup_cons] at h⊢;unfold bindC;by_cases hx:x=p
    ·subst hx;rw[beq_self_eq_true,Option.some.injEq] at h;subst h;have DC:ps.length=ys.length:=by obtain this:=hr.2.length;simp only[List.length_cons] at hl;exact aQ (nat_lit 0x12251025190819282512) ae hl this
     rw[pJ _ _ _ _ (by rw[jE ps ys DC];exact nd.1),if_neg hk];exact⟨y,by simp,hr.1⟩
    ·obtain h1:(x==p)=false:=by simpa using hx
     obtain h:=h1▸h;exact ih _ nd.2 (Nat.succ.inj hl) hr.2 h
end
theorem eK:∀(names:List (Str×NameKind)) (n:Nat) (acc:List (Str×Addr)) (x:Str),(acc.lookup x).isSome=true→((cellsFrom n names acc).lookup x).isSome=true
|[],aK,bA,gI,h=>h|(y,k)::r,n,acc,x,h=>by
 unfold cellsFrom;split
 ·refine eK r _ _ x ?_;simp only[List.lookup_cons];split<;>trivial
 ·exact eK r _ _ x h
theorem dO:∀(names:List (Str×NameKind)) (n:Nat) (acc:List (Str×Addr)) (x:Str),names.lookup x=some .cell→((cellsFrom n names acc).lookup x).isSome=true
|[],aK,bA,gI,h=>by simp at h|(y,k)::r,n,acc,x,h=>by
 simp only[List.lookup_cons] at h;unfold cellsFrom;by_cases hx:x=y
 ·subst hx;rw[beq_self_eq_true,Option.some.injEq] at h;subst h;exact eK r _ _ x (by simp_all)
 ·have h1:(x==y)=false:=by simpa using hx
  obtain h:=h1▸h;split
  ·exact dO r _ _ x h
  ·exact dO r _ _ x h
theorem LZ{ps:List Str}{vs:List V}(x:Str):aS (ps.zip vs) x=(ps.zip vs).lookup x:=rfl
def D9(sc:Scope)(env:af)(e:Env)(a:Addr):Prop:=∃x,kindOf sc x=some .cell∧G.C.wo x=true∧(aS env x).isSome=true∧e.cells.lookup x=some a
open Classical in
def fV(sc:Scope)(env:af)(e:Env)(W:Wd)(h:Heap):Wd:={W with Z:=fun a=>if D9 sc env e a then h.get? a else W.Z a}
theorem wY{sc:Scope}{env:af}{e:Env}{W:Wd}{h:Heap}{a:Addr}(x:D9 sc env e a):(fV sc env e W h).Z a=h.get? a:=if_pos x
theorem jF{sc:Scope}{env:af}{e:Env}{W:Wd}{h:Heap}{a:Addr}(x:¬D9 sc env e a):(fV sc env e W h).Z a=W.Z a:=if_neg x
section
variable{n:Nat}{A:Around}{E:Value→Shared→Prop}{W:Wd}{H H':AH}{s:Shared}{sc:Scope}{env:af}{e':Env}
theorem aH.fJ(S:aH W H s){a:Addr}(h:s.heap.objs.size≤a):¬G.fg a:=fun⟨c,q,hm⟩=>by obtain⟨_,_,_,_,ps,h1,_⟩:=S.tab c a q hm;exact absurd (Heap.lt_size h1) (Nat.not_lt_of_le h)
theorem aH.cO(S:aH W H s){a:Addr}(h:s.heap.objs.size≤a):W.own a=none:=by
 induction e:W.own a with |none=>rfl|some k=>exact absurd (S.b9 a k e).2 (Nat.not_lt_of_le h)
theorem A6{d:zF}{ps:List Str}{vs:List V}{xs:List Value}{s₁:Shared}{fd:FuncData}{f:Addr}(S:aH W H s)(hd:d.ok=true)(wZ:d.params=ps)(hl:ps.length=vs.length)(rs:aA W vs xs)
  (sJ:fd.scope=d.sc)(hg:fd.globals=mainGlobals)(hb:fd.builtins=builtinsNs)(hc:∃c P,fd.code=.ref c∧(c,P,fd.qualname++".<locals>.")∈G.tabs)
  (I:InCallC s (callEnvC fd s.heap.objs.size f).locals (bindL (callEnvC fd s.heap.objs.size f).kindOf (ps.zip xs) fun b=>none) (callEnvC fd s.heap.objs.size f).cells
    (bindC (callEnvC fd s.heap.objs.size f).kindOf (ps.zip xs) fun b=>none) s₁):
  ah W H s aI (fV d.sc (ps.zip vs) (callEnvC fd s.heap.objs.size f) W s₁.heap) H s₁∧
  ak d.sc (ps.zip vs) (callEnvC fd s.heap.objs.size f) (fV d.sc (ps.zip vs) (callEnvC fd s.heap.objs.size f) W s₁.heap) s₁∧
  ∀a,bI d.sc (callEnvC fd s.heap.objs.size f) a→s.heap.objs.size≤a:=by
 generalize he:callEnvC fd s.heap.objs.size f=e at I;have w4:e.locals=s.heap.objs.size:=by refine he▸?_;rfl
 have NY:e.scope=d.sc:=by simp only[←he,←sJ];rfl
 obtain S9:e.cells=cellsFrom (s.heap.objs.size+1) d.sc.names []:=by rw[←he,←sJ];rfl
 have hK:∀x,e.kindOf x=kindOf d.sc x:=fun x=>by unfold Env.kindOf kindOf;rw[NY]
 unfold zF.ok at hd;simp only[Bool.and_eq_true,decide_eq_true_eq,beq_iff_eq,Bool.not_eq_true'] at hd;obtain S_:=hd.1;obtain X8:=hd.2;refine S_.elim fun Tc NZ=>?_;refine Tc.elim fun Td X9=>?_;refine Td.elim fun Te L0=>?_;refine Te.elim fun Tf Rm=>?_;refine Tf.elim fun Hu hd2=>?_
 rw[wZ] at NZ;obtain⟨h',tk,w5⟩:=I.toInCall.same;have big:∀x c,e.cells.lookup x=some c→s.heap.objs.size<c:=fun x c hx=>by have :=I.above x c (mem_of_lookup hx);rw[w4] at this;exact this
 obtain hsz:s.heap.objs.size≤s₁.heap.objs.size:=by have :=I.toInCall.ns.lt;rw[w4] at this;exact Nat.le_of_lt this
 obtain hz:∀a o,W.Z a=some o→(fV d.sc (ps.zip vs) e W s₁.heap).Z a=some o:=by
  intro a o h;rw[jF]
  ·exact h
  ·rintro⟨x,_,_,_,hx⟩;exact absurd (S.S0 h) (Nat.not_lt_of_le (Nat.le_of_lt (big x a hx)))
 have PP:ah W H s aI (fV d.sc (ps.zip vs) e W s₁.heap) H s₁:=by
  refine ah.grow S aI I.toInCall.keep hsz rfl rfl hz ?_ (by rw[w5]) (by rw[w5]);intro a o h;by_cases hx:D9 d.sc (ps.zip vs) e a
  ·rw[wY hx] at h;refine hx.elim fun x Tg=>?_;obtain hx:=Tg.2.2.2
   exact .inr ⟨Nat.le_of_lt (big x a hx),h⟩
  ·rw[jF hx] at h;exact .inl h
 refine⟨PP,⟨?_,?_,?_,?_,?_,?_,?_,?_,?_⟩,?_⟩
 ·exact NY▸(Hu)
 ·refine he▸?_;exact hg
 ·refine he▸?_;exact hb
 ·intro _;obtain⟨c,P,h1,h2⟩:=hc;exact⟨c,P,by rw[←he];exact h1,by exact he▸(h2)⟩
 ·intro x k hk _;left;rw[hK];exact hk
 ·obtain⟨o,es,ep,h1,h2,h3⟩:=I.toInCall.ns;refine⟨o,es,ep,_,h1,S.fJ (by rw[w4];exact Nat.le_refl _),h2,I.toInCall.ns,S.cO (by rw[w4];exact Nat.le_refl _),?_,?_⟩
  ·rw[jF]
   ·exact S.ic (by rw[w4];exact Nat.le_refl _)
   ·rintro⟨x,_,_,_,hx⟩;have :=big x _ hx;rw[w4] at this;exact absurd this (Nat.lt_irrefl _)
  ·intro x v hk hv;obtain⟨y,hy,ry⟩:=pK (W:=W) e.kindOf (fun b=>none) NZ hl rs x v (by rw[hK];exact hk) hv;exact⟨y,hy,ry.mono PP.le⟩
 ·intro x hx;obtain⟨c,hc⟩:=mh (by rw[S9];exact dO d.sc.names (s.heap.objs.size+1) [] x hx:(e.cells.lookup x).isSome=true);obtain⟨o,ho,fK⟩:=I.cell x c hc;obtain hb:=big x c hc;refine⟨c,o,_,hc,ho,S.fJ (Nat.le_of_lt hb),fK,S.cO (Nat.le_of_lt hb),?_⟩;cases hv:aS (ps.zip vs) x with
  |none=>
   rw[jF]
   ·exact S.ic (Nat.le_of_lt hb)
   ·rintro⟨y,_,_,hy,Th⟩;have :y=x:=name_of_addr I.apart (mem_of_lookup Th) (mem_of_lookup hc);subst this;rw[hv] at hy;exact bE hy
  |some v=>
   obtain⟨y,hy,ry⟩:=yl (W:=W) e.kindOf (fun b=>none) NZ hl rs x v (by rw[hK,hx];decide) hv;refine⟨⟨y,hy,ry.mono PP.le⟩,?_⟩;by_cases hw:G.C.wo x=true
   ·rw[if_pos hw];rw[wY ⟨x,hx,hw,by rw[hv];rfl,hc⟩];exact ho
   ·rw[if_neg hw];rw[jF]
    ·exact S.ic (Nat.le_of_lt hb)
    ·rintro⟨y,_,X_,_,Th⟩;have :y=x:=name_of_addr I.apart (mem_of_lookup Th) (mem_of_lookup hc);cases this;exact hw X_
 ·intro x v hk hv;exfalso;obtain hx:x∈ps:=(List.of_mem_zip (mem_of_lookup hv)).1;rw[wZ] at L0;have :=cZ L0 x hx
  unfold AS at this;rw[hk] at this;exact bE this
 ·intro x y c hx hy h1 h2;exact name_of_addr I.apart (mem_of_lookup h1) (mem_of_lookup h2)
 ·intro a ha;rcases ha with rfl|⟨x,_,hx⟩
  ·rw[w4];exact Nat.le_refl _
  ·exact Nat.le_of_lt (big x a hx)
end
section
variable{n:Nat}{A:Around}{E:Value→Shared→Prop}{sc:Scope}{e':Env}
end
section
variable{H H':AH}{W:Wd}{s:Shared}
theorem bY{k:Nat}{o:az}{u:Unit}(h:fQ k o H=some (u,H')):H'=H.set k o:=by cases h;rfl
theorem c_{k j:Nat}{o:az}(h:(H.set k .gone)[j]?=some o):(j=k∧o=.gone)∨(j≠k∧H[j]?=some o):=by
 by_cases hj:j=k
 ·subst hj;obtain bL:j<H.length:=by obtain this:=(cV h).1;simpa using this
  rw[List.getElem?_set_self bL] at h;exact .inl ⟨rfl,(Option.some.inj h).symm⟩
 ·rw[List.getElem?_set_ne (Ne.symm hj)] at h;exact .inr ⟨hj,h⟩
theorem aH.N1(S:aH W H s)(k:Nat):aH W (H.set k .gone) s:=by
 refine⟨S.z,S.ju,fun a j h=>⟨by rw[List.length_set];exact(S.b9 a j h).1,(S.b9 a j h).2⟩,fun a j h hl=>?_,fun j o h=>?_,S.tab,S.base⟩
 ·refine S.sr a j h ?_;obtain⟨o,ho,hn⟩:=hl;rcases c_ ho with ⟨_,rfl⟩|⟨_,ho⟩
  ·exact hn.elim
  ·exact⟨o,ho,hn⟩
 ·rcases c_ h with ⟨rfl,rfl⟩|⟨_,ho⟩
  ·have bL:j<H.length:=by
    obtain this:=(cV h).1;simpa using this
   refine(S.obj j _ (List.getElem?_eq_getElem bL)).elim fun a D_=>?_;obtain h1:=D_.1
   exact⟨a,h1,trivial⟩
  ·exact S.obj j o ho
theorem ah.N1(S:aH W H s)(X:Addr→Prop)(k:Nat):ah W H s X W (H.set k .gone) s:=
 ⟨S.N1 k,.refl W,fun a a h=>h,fun a a h=>.inl h,fun a a h=>.inl h,fun a a h a a a=>h,fun a ps a h=>⟨#[],by exact h⟩,fun j h=>by
  by_cases hj:j=k
  ·subst hj;obtain bL:=(cV h).1;exact List.getElem?_set_self bL
  ·refine(List.getElem?_set_ne (Ne.symm hj)).trans ?_;exact h,by rw[List.length_set];exact Nat.le_refl _,Nat.le_refl _,rfl,rfl⟩
set_option tactic.hygienic true in
theorem ah.freeze(S:aH W H s)(X:Addr→Prop){k:Nat}{a:Addr}{o:Obj}(hk:H[k]?=some .gone)(ha:W.φ k=some a)(ho:s.heap.get? a=some o)(hn:¬G.fg a)(hz:W.Z a=none∨W.Z a=some o)(hX:X a):
  ah W H s X (W.add a o) H s:=by
 have own:=S.ju k a ha;have ug:∀b o',W.Z b=some o'→(W.add a o).Z b=some o':=by
  intro b o' h;show(if b=a then some o else W.Z b)=some o';split
  ·rename_i e;subst e;rcases hz with hz|hz
   ·rw[hz] at h;exact nE h
   ·rw[hz] at h;exact h
  ·exact h
 have zc:∀b o',(W.add a o).Z b=some o'→(b=a∧o'=o)∨W.Z b=some o':=by
  intro b o' h;have h':(if b=a then some o else W.Z b)=some o':=h
  split at h'
  ·rename_i e;obtain rfl:=Option.some.inj h';exact .inl ⟨e,rfl⟩
  ·exact .inr h'
 have L:W.Le (W.add a o):=⟨ug,fun d d h=>h⟩;refine⟨⟨fun b o' h=>?_,S.ju,S.b9,fun b j h hl=>?_,fun j o' h=>?_,fun c P q hm=>?_,S.base.mono ug⟩,L,fun d d h=>h,fun d d h=>.inl h,fun b o' h=>?_,fun d d h d d d=>h,fun d ps d h=>⟨#[],by exact h⟩,fun d h=>h,Nat.le_refl _,Nat.le_refl _,rfl,rfl⟩
 ·rcases zc b o' h with ⟨rfl,rfl⟩|h
  ·exact ho
  ·exact S.z b o' h
 ·induction hh:(W.add a o).Z b with
  |none=>rfl|some o'=>
   rcases zc b o' hh with ⟨rfl,rfl⟩|h'
   ·have h2:W.own b=some j:=h;rw[own] at h2;obtain rfl:=Option.some.inj h2;obtain⟨q,hq,hn⟩:=hl;rw[hk] at hq;obtain rfl:=Option.some.inj hq;exact hn.elim
   ·rw[S.sr b j h hl] at h';exact nE h'
 ·obtain⟨b,h1,h2⟩:=S.obj j o' h;exact⟨b,h1,h2.keeps L (fun d h=>h) (fun d e=>e) fun d d d e=>e⟩
 ·obtain⟨h1,⟨oc,h0⟩,h2,mS,ps,h3,h4,h5⟩:=S.tab c P q hm;refine⟨h1,⟨oc,ug _ _ h0⟩,?_,mS,ps,h3,h4,fun pos cv hc=>(h5 pos cv hc).mono ug⟩
  ·induction hh:(W.add a o).Z P with
   |none=>rfl|some o'=>
    rcases zc P o' hh with ⟨rfl,rfl⟩|h'
    ·exact absurd ⟨c,q,hm⟩ hn
    ·rw[h2] at h';exact nE h'
 ·rcases zc b o' h with ⟨rfl,rfl⟩|h
  ·exact .inr (.inr (.inr hX))
  ·exact .inl h
theorem aH.pL(S:aH W H s){a:Addr}{o:Obj}(h:s.heap.get? a=some o)(hc:o.cls≠.none):¬G.fg a:=fun⟨c,q,hm⟩=>by obtain⟨_,_,_,_,ps,h1,_⟩:=S.tab c a q hm;rw[h] at h1;obtain rfl:=Option.some.inj h1;exact hc rfl
theorem mW{f:V→M V}{n:Nat}
  (hf:∀{v v':V} {H H':AH} {W:Wd} {x:Value},f v H=some (v',H')→aH W H s→Rel W v x→∃W',ah W H s aI W' H' s∧Rel W' v' x)
  {vs qL:List V}{H H':AH}{W:Wd}{xs:List Value}(h:eB f vs H=some (qL,H'))(S:aH W H s)(r:aA W vs xs):∃W',ah W H s aI W' H' s∧aA W' qL xs:=by
 induction vs generalizing qL H H' W xs with
 |nil=>induction xs with |cons _ _=>exact r.elim|nil=>refine hU h ?_;exact⟨W,.refl S,r⟩
 |cons v vs ih=>induction xs with
  |nil=>exact r.elim|cons x xs=>
   refine bH h fun y H₁ h1 h=>?_
   refine bH h fun ys H₂ h2 h=>?_
   refine hU h ?_;obtain⟨W₁,P₁,r₁⟩:=hf h1 S r.1;obtain⟨W₂,P₂,r₂⟩:=ih h2 P₁.sim (r.2.mono P₁.le);exact⟨W₂,P₁.trans S P₂,⟨r₁.mono P₂.le,r₂⟩⟩
theorem ik{f:V→M V}:∀{vs qL:List V} {H H':AH},eB f vs H=some (qL,H')→qL.length=vs.length
|[],qL,H,H',h=>by refine hU h ?_;rfl|v::vs,qL,H,H',h=>by
 refine bH h fun y H₁ h1 h=>?_
 refine bH h fun ys H₂ h2 h=>?_
 refine hU h ?_;simp[ik h2]
theorem jG{f:V→M V}:∀{vs qL:List (Str×V)} {H H':AH},e9 f vs H=some (qL,H')→qL.map (·.1)=vs.map (·.1)
|[],qL,H,H',h=>by refine hU h ?_;rfl|(k,v)::vs,qL,H,H',h=>by
 refine bH h fun y H₁ h1 h=>?_
 refine bH h fun ys H₂ h2 h=>?_
 refine hU h ?_;simp[jG h2]
theorem vd{f:V→M V}{n:Nat}
  (hf:∀{v v':V} {H H':AH} {W:Wd} {x:Value},f v H=some (v',H')→aH W H s→Rel W v x→∃W',ah W H s aI W' H' s∧Rel W' v' x)
  {vs qL:List (Str×V)}{H H':AH}{W:Wd}{es:List DictEntry}(h:e9 f vs H=some (qL,H'))(S:aH W H s)(r:Reld W vs es):∃W',ah W H s aI W' H' s∧Reld W' qL es:=by
 induction vs generalizing qL H H' W es with
 |nil=>induction es with |cons _ _=>exact r.elim|nil=>refine hU h ?_;exact⟨W,.refl S,r⟩
 |cons v vs ih=>induction es with
  |nil=>exact r.elim|cons x xs=>
   refine bH h fun y H₁ h1 h=>?_
   refine bH h fun ys H₂ h2 h=>?_
   refine hU h ?_;obtain⟨W₁,P₁,r₁⟩:=hf h1 S r.2.1;obtain⟨W₂,P₂,r₂⟩:=ih h2 P₁.sim (r.2.2.mono P₁.le);exact⟨W₂,P₁.trans S P₂,⟨r.1,r₁.mono P₂.le,r₂⟩⟩
theorem iM:∀(n:Nat) {v v':V} {H H':AH} {W:Wd} {x:Value},freeze n v H=some (v',H')→aH W H s→Rel W v x→∃W',ah W H s aI W' H' s∧Rel W' v' x
|0,v,v',H,H',W,x,h,aK,bA=>by exact nE h|n+1,v,v',H,H',W,x,h,S,r=>by
 induction v using V.casesOn with
 |ref k=>
  refine bH h fun o H₁ h1 h=>?_
  obtain⟨ho,hn,rfl⟩:=bO h1;obtain⟨a,rfl,ha⟩:=r;have O:=S.at ho ha
  obtain bL:=(cV ho).1;obtain zn:=S.sr a k (S.ju k a ha) hn;have hg:∀(o:az),(H₁.set k o)[k]?=some o:=fun o=>List.getElem?_set_self bL
  induction o with
  |lst xs=>
   refine bH h fun u H₂ h2 h=>?_
   have :=bY h2;subst this;refine bH h fun ys H₃ h3 h=>?_
   refine hU h ?_;obtain⟨m',zs,g,hz,rs⟩:=O;obtain P₁:=ah.N1 S (fun b=>b=a) k;have P₂:=ah.freeze P₁.sim (fun b=>b=a) (hg .gone) ha g (S.pL g (by simp_all)) (.inl zn) rfl
   have P':ah _ _ _ aI _ _ _:=(P₁.trans S P₂).Hq fun b hb=>.inr ⟨k,by refine hb▸?_;exact S.ju k a ha,hn⟩
   obtain⟨W₃,P₃,r₃⟩:=mW (n:=n) (iM n) h3 P'.sim (rs.mono P'.le);refine⟨W₃,P'.trans S P₃,?_⟩;exact⟨a,m',zs,rfl,P₃.le.z _ _ (Wd.aU ..),by rw[ik h3];exact hz,r₃⟩
  |aF xs=>
   refine bH h fun u H₂ h2 h=>?_
   have :=bY h2;subst this;refine bH h fun ys H₃ h3 h=>?_
   refine hU h ?_;obtain⟨m',zs,g,h0,nd,hz,rs⟩:=O;have P₁:=ah.N1 S (fun b=>b=a) k
   obtain P₂:=ah.freeze P₁.sim (fun b=>b=a) (hg .gone) ha g (S.pL g (by simp_all)) (.inl zn) rfl;have P':ah _ _ _ aI _ _ _:=(P₁.trans S P₂).Hq fun b hb=>.inr ⟨k,by rw[hb];exact S.ju k a ha,hn⟩
   refine(vd (n:=n) (iM n) h3 P'.sim (rs.mono P'.le)).elim fun W₃ N2=>?_;obtain P₃:=N2.1;obtain r₃:=N2.2
   refine⟨W₃,P'.trans S P₃,?_⟩;obtain hk:=jG h3;exact⟨a,m',zs,rfl,P₃.le.z _ _ (Wd.aU ..),h0,by rw[hk];exact nd,by obtain this:=congrArg List.length hk;simp only[List.length_map] at this;rw[this];exact hz,r₃⟩
  |_=>exact nE h
 |tup xs=>
  refine bH h fun ys H₃ h3 h=>?_
  refine hU h ?_;obtain⟨a,m',zs,rfl,z,hz,rs⟩:=r;obtain⟨W₃,P₃,r₃⟩:=mW (n:=n) (iM n) h3 S rs;refine⟨W₃,P₃,?_⟩;exact⟨a,m',zs,rfl,P₃.le.z _ _ z,by rw[ik h3];exact hz,r₃⟩
 |_=>refine hU h ?_;exact⟨W,.refl S,r⟩
end
section
variable{n:Nat}{A:Around}{E:Value→Shared→Prop}{W:Wd}{H H':AH}{s:Shared}
theorem bx.deeper{A:Around}{n:Nat}(h:bx A (n+1))(e:Env):bx (A.deeper e) n:=⟨h.handled,by obtain this:=h.depth;simp only[Around.deeper];exact aQ (nat_lit 0x21190881121918081101) ae this,by obtain this:=h.units;simp only[Around.deeper];exact aQ (nat_lit 0x21ca390881121918ca081101) ae this⟩
theorem bx.in1{A:Around}{n:Nat}(h:bx A (n+1)):bx A.in1 n:=⟨h.handled,by obtain this:=h.depth;exact aQ (nat_lit 0x21081121918081101) ae this,by obtain this:=h.units;lia⟩
theorem bx.lim{A:Around}{n:Nat}(h:bx A n):A.depth<recursionLimit:=by obtain this:=h.depth;exact aQ (nat_lit 35257940709633) ae this
theorem lg.val{fl:Fl}{g:Flow}:lg W fl g→Rel W (R2 fl) (match g with |.ret v=>v|_=>.none):=by
 intro F;induction fl with |next=>subst F;rfl|cont=>subst F;rfl|ret u=>obtain⟨x,rfl,rx⟩:=F;exact rx
theorem iN{sc:Scope}{x:Str}{k:NameKind}(h:kindOf (gi sc) x=some k)(hk:k≠.globalExplicit):kindOf sc x=some k:=by
 unfold kindOf gi at h;unfold kindOf;rw[List.lookup_append] at h;induction hx:sc.names.lookup x with
 |some k'=>rw[hx] at h;exact h|none=>
  rw[hx] at h;simp only[Option.none_or,List.lookup_cons] at h;split at h
  ·obtain rfl:=Option.some.inj h;exact absurd rfl hk
  ·simp at h
theorem vf(sc:Scope):gK (gi sc)=true:=by unfold gK gi;simp
theorem lJ.get:∀{c7:List (Str×V)} {cl:List (Str×Addr)} {x:Str} {v:V},lJ W c7 cl→c7.lookup x=some v→Hl W.Z x cl (Rel W v)
|[],aK,bA,gI,ux,h=>by simp at h|(k,u)::r,cl,x,v,hr,h=>by
 simp only[List.lookup_cons] at h;by_cases hx:x=k
 ·subst hx;rw[beq_self_eq_true,Option.some.injEq] at h;subst h;exact hr.1
 ·obtain h1:(x==k)=false:=by simpa using hx
  obtain h:=h1▸h;exact hr.2.get h
theorem ym{ps:List Str}{vs:List V}{xs:List Value}{sc:Scope}{c7:List (Str×V)}{cl:List (Str×Addr)}{h₁:Heap}{e:Env}(S:aH W H s)(hc:wB ps sc c7=true)(hl:ps.length=vs.length)(rs:aA W vs xs)
  (rc:lJ W c7 cl)(w4:e.locals=s.heap.objs.size)(NY:e.scope=sc)(S9:e.cells=cl)(Yb:e.globals=mainGlobals)(Yc:e.builtins=builtinsNs)
  (vg:h₁.Ns s.heap.objs.size fun x=>(ps.zip xs).reverse.lookup x)(o:Obj)(zu:Heap.SameBut s.heap.objs.size (s.heap.push o) h₁):
  ah W H s aI W H {s with heap:=h₁,toks:=s.toks+(ps.zip xs).length}∧ak (gi sc) (ps.zip vs++c7) e W {s with heap:=h₁,toks:=s.toks+(ps.zip xs).length}∧
  ∀a,bI (gi sc) e a→s.heap.objs.size≤a:=by
 unfold wB at hc;simp only[Bool.and_eq_true,decide_eq_true_eq,beq_iff_eq,Bool.not_eq_true'] at hc;obtain⟨⟨⟨⟨⟨⟨⟨⟨lM,N3⟩,Rn⟩,Ro⟩,N4⟩,Yd⟩,hc6⟩,Wg⟩,hc8⟩:=hc;obtain hk:∀a o',s.heap.get? a=some o'→h₁.get? a=some o':=fun a o' e=>zu.extBut a o' (Nat.ne_of_lt (Heap.lt_size e)) (Heap.get?_push_of_some _ e)
 have hsz:s.heap.objs.size≤h₁.objs.size:=Nat.le_of_lt vg.lt;have PP:ah W H s aI W H {s with heap:=h₁,toks:=s.toks+(ps.zip xs).length}:=ah.grow S aI hk hsz rfl rfl (fun b b h=>h) (fun b b h=>.inl h) rfl rfl
 have vh:∀x,kindOf (gi sc) x≠some .cell:=fun x hx=>by have :=iN hx (by decide);obtain this:=cZ N4 _ (mem_of_lookup this);simp at this
 have N5:∀p∈ps,kindOf sc p=some .local:=fun p hp=>by obtain this:=cZ Yd p hp;simpa using this
 refine⟨PP,⟨?_,Yb,Yc,?_,?_,?_,?_,?_,?_⟩,?_⟩
 ·exact NY▸(N3)
 ·intro h;rw[vf] at h;exact nomatch h
 ·intro x k hx hk;left;unfold Env.kindOf;refine NY▸?_;exact iN hx hk
 ·refine(id vg).elim fun ob Ea=>?_;refine Ea.elim fun es Ye=>?_;refine Ye.elim fun ep Ti=>?_;obtain h1:=Ti.1;obtain h2:=Ti.2.1;obtain h3:=Ti.2.2
  refine⟨ob,es,ep,_,by rw[w4];exact h1,S.fJ (by rw[w4];exact Nat.le_refl _),h2,by rw[w4];exact vg,S.cO (by rw[w4];exact Nat.le_refl _),S.ic (by rw[w4];exact Nat.le_refl _),?_⟩;intro x v hx hv;obtain AY:=iN hx (by decide);have A7:(ps.zip vs++c7).lookup x=some v:=hv
  rw[List.lookup_append] at A7;have :c7.lookup x=none:=by rw[List.lookup_eq_none_iff];intro q hq;obtain this:=cZ lM q hq;simp only[Bool.and_eq_true,beq_iff_eq] at this;simp only[bne_iff_ne,ne_eq];rintro rfl;rw[AY] at this;exact absurd this.1 (by decide)
  rw[this,Option.or_none] at A7;obtain⟨y,hy,ry⟩:=pK (W:=W) (fun b=>some .local) (fun b=>none) Wg hl rs x v rfl A7;refine⟨y,?_,ry⟩;obtain JZ:ps.length=xs.length:=by rw[hl];exact rs.length
  obtain key:∀(l:List (Str×Value)) (m:Str→Option Value),(l.map (·.1)).Nodup→bindL (fun b=>some .local) l m x=(l.reverse.lookup x).or (m x):=by
   intro l;induction l with
   |nil=>intro m _;rfl|cons p l ih=>
    intro m nd;obtain⟨k,u⟩:=p;simp only[List.map_cons,List.nodup_cons] at nd;unfold bindL;rw[if_pos rfl,ih _ nd.2,List.reverse_cons,List.lookup_append];by_cases hx:x=k
    ·subst hx;simp
    ·obtain h1:(x==k)=false:=by simpa using hx
     simp[List.lookup_cons,h1,hx]
  rw[key _ _ (by rw[jE _ _ JZ];exact Wg)] at hy;simpa using hy
 ·intro x hx;exact absurd hx (vh x)
 ·intro x v hx hv;obtain AY:=iN hx (by decide);have A7:(ps.zip vs++c7).lookup x=some v:=hv
  rw[List.lookup_append] at A7;have hn:(ps.zip vs).lookup x=none:=by
   rw[List.lookup_eq_none_iff];intro q hq;simp only[bne_iff_ne,ne_eq];rintro rfl;have :=N5 q.1 (List.of_mem_zip (show(q.1,q.2)∈_ from hq)).1
   rw[AY] at this;exact nomatch this
  rw[hn,Option.none_or] at A7;obtain⟨c,o',y,h1,h2,h3,h4⟩:=rc.get A7;obtain N6:=cZ lM _ (mem_of_lookup A7);simp only[Bool.and_eq_true,bne_iff_ne,ne_eq] at N6;exact⟨c,o',y,by rw[S9];exact h1,hk _ _ (S.z _ _ h2),h3,h4,by simpa using N6.2,.inl h2⟩
 ·intro x y c hx;exact absurd hx (vh x)
 ·intro a ha;rcases ha with rfl|⟨x,hx,_⟩
  ·rw[w4];exact Nat.le_refl _
  ·exact absurd hx (vh x)
end
end Mine
end
noncomputable section
open PySem PySem.W PySem.Builtin PySem.Builtin.Str
namespace Mine
theorem kh{M:Model}{Γ:Ctx}{p:Pos}{t:Sem Fin}{fs:List Frame}{s s':Shared}{e:End}(h:Runs M Γ p t fs s e s'):s.heap.objs.size≤s'.heap.objs.size:=by induction h<;>(try simp only[Shared.setGen,Heap.size_push,Heap.size_after_update] at *)<;>(first|exact aV (nat_lit 256) ae|exact aE (nat_lit 68737302785) ae ‹_›|exact aE (nat_lit 281548411109633) ae ‹_›|exact aQ (nat_lit 5067717828804866) ae ‹_› ‹_›)
theorem vj{M:Model}{Γ:Ctx}{p:Pos}{g:Nat}{r:Resume}{s s':Shared}{res:GenResult}(h:Wakes M Γ p g r s res s'):s.heap.objs.size≤s'.heap.objs.size:=by
 unfold Wakes at h;split at h
 ·exact h.elim
 ·split at h
  ·obtain⟨e₁,s₁,hr,_,_,rfl⟩:=h;exact(kh hr:(s.setGen g .running).heap.objs.size≤s₁.heap.objs.size)
  ·exact h.2▸(Nat.le_refl _)
  ·exact h.2▸(Nat.le_refl _)
 ·obtain⟨e₁,s₁,hr,_,_,rfl⟩:=h;exact(kh hr:(s.setGen g .running).heap.objs.size≤s₁.heap.objs.size)
 ·rw[h.2];exact Nat.le_refl _
 ·rw[h.2];exact Nat.le_refl _
theorem Eb{α:Type}(M:Model)(Γ:Ctx)(n:Nat)(t:Sem α):∀(Q:α→Pos→Shared→Prop) (E:Value→Pos→Shared→Prop) (p:Pos) (s:Shared),n≤s.heap.objs.size→Sem.wp M Γ t Q E p s→
  Sem.wp M Γ t (fun a p' s'=>n≤s'.heap.objs.size∧Q a p' s') (fun e p' s'=>n≤s'.heap.objs.size∧E e p' s') p s:=by
 induction t with
 |pure a=>intro Q E p s hn h;exact⟨hn,h⟩|raise e=>intro Q E p s hn h;exact⟨hn,h⟩|unsupported _=>intro Q E p s _ h;exact h|finish _=>intro Q E p s _ h;exact h|rule _ k ih=>intro Q E p s hn h;exact ih () Q E p s hn h|«at»p' k ih=>intro Q E p s hn h;exact ih () Q E p' s hn h|load a _ k ih=>intro Q E p s hn h;refine h.elim fun o z=>z.elim fun ho h=>?_;exact⟨o,ho,ih o Q E p s hn h⟩|update a _ f k ih=>intro Q E p s hn h;exact⟨h.1,ih () Q E p _ (by rw[Heap.size_after_update];exact hn) h.2⟩|loadIfAlive a k ih=>intro Q E p s hn h;exact ih _ Q E p s hn h|point _ k ih=>intro Q E p s hn h;exact ih () Q E p s hn h|register _ _=>intro Q E p s _ h;exact h|alloc o k ih=>intro Q E p s hn h;exact ih _ Q E p _ (by rw[Heap.size_push];exact Nat.le_succ_of_le hn) h|fresh k ih=>intro Q E p s hn h;exact ih _ Q E p _ hn h|ask k ih=>intro Q E p s hn h;exact ih _ Q E p s hn h|choose src m k ih=>intro Q E p s hn h;exact⟨h.1,ih _ Q E p _ hn h.2⟩|os q _ k ih=>intro Q E p s hn h;exact ih _ Q E p _ hn h|call c hd _ _ k ih=>intro Q E p s hn h;refine h.elim fun r J0=>?_;refine J0.elim fun s' qM=>?_;obtain hr:=qM.1;obtain h:=qM.2;exact⟨r,s',hr,ih r Q E p s' (Nat.le_trans hn (kh hr)) h⟩
 |handled own k ih=>intro Q E p s hn h;exact ih _ Q E p s hn h|genState g k ih=>intro Q E p s hn h;refine h.elim fun st N7=>?_;obtain hs:=N7.1;obtain h:=N7.2;exact⟨st,hs,ih _ Q E p s hn h⟩
 |newGen c k ih=>intro Q E p s hn h;exact ih _ Q E p _ hn h|resume g r _ k ih=>intro Q E p s hn h;obtain⟨res,s',hw,h⟩:=h;exact⟨res,s',hw,ih res Q E p s' (Nat.le_trans hn (vj hw)) h⟩
 |yield _ _ _ _=>intro Q E p s _ h;exact h|stack k ih=>intro Q E p s hn h;exact ih _ Q E p s hn h|fork _ _=>intro Q E p s _ h;exact h|thread k ih=>intro Q E p s hn h;exact ih _ Q E p s hn h|await _ _ _ _ _=>intro Q E p s _ h;exact h
theorem bG{α:Type}{M:Model}{A:Around}{s:Shared}{t:Sem α}{Q:α→Shared→Prop}{E:Value→Shared→Prop}
  (h:wpAny M A t (fun a s'=>s.heap.objs.size≤s'.heap.objs.size→Q a s') E s):wpAny M A t Q E s:=
 wpAny_mono (fun Γ p hΓ=>Eb M Γ s.heap.objs.size t _ _ p s (Nat.le_refl _) (h Γ p hΓ):wpAny M A t (fun a s'=>s.heap.objs.size≤s'.heap.objs.size∧(s.heap.objs.size≤s'.heap.objs.size→Q a s')) (fun e s'=>s.heap.objs.size≤s'.heap.objs.size∧E e s') s)
  (fun b b x=>x.2 x.1) (fun b b x=>x.2)
end Mine
end
noncomputable section
open PySem PySem.W PySem.Builtin PySem.Builtin.Str PySem.Builtin.ObjectAttr
namespace Mine
theorem aX:StoreFacts "function" [.type "function",.type "object"] "object.__setattr__" "object" where
 mro:=by kernel_rfl
 slot:=.of (owner:="object") (n:="__setattr__") (by rw[typeLookup_type,builtinLookup_eq_fast];kernel_rfl) (by decide+kernel) (by decide+kernel) (by decide+kernel)
  (by first|exact .inl (by decide+kernel)|exact .inr (by decide+kernel)) (by rw[isSubtype_type];kernel_rfl)
 entry:=F.entry_object_sa
 kind:=by decide+kernel
 split:=by decide+kernel
 hasOwner:=by decide+kernel
 args:=fun a b c=>by unfold argsOk;kernel_rfl
 passes:=fun self=>by kernel_rfl
theorem i3:typeLookup (.type "function") (Str.ofString "read")=pure none:=am_miss_of_fast (by kernel_rfl)
theorem kj:typeLookup (.type "function") "__getattr__"=pure none:=am_miss_of_fast (by kernel_rfl)
theorem cF:Slot "function" (Str.ofString "__getattribute__") "object.__getattribute__":=
 .of (owner:="object") (n:="__getattribute__") (by rw[typeLookup_type,builtinLookup_eq_fast];kernel_rfl) (by decide+kernel) (by decide+kernel) (by decide+kernel)
  (by first|exact .inl (by decide+kernel)|exact .inr (by decide+kernel)) (by rw[isSubtype_type];kernel_rfl)
section
variable{A:Around}{E:Value→Shared→Prop}{h:Heap}{g:Array GenState}{d:Drawn}{t:Nat}{os:OsState}{x:Addr}{o:Obj}{fd:FuncData}{name:Str}{v:Value}
theorem sM{M:Model}{jH:Value}{Q:Unit→Shared→Prop}(hx:h.get? x=some o)(hc:o.cls=.type "function")(hq:Q () ⟨h,g,d,t,os⟩):
  wpAny M A (checkBuiltinCall "object.__setattr__" ⟨[.ref x,jH,v],[]⟩) Q E ⟨h,g,d,t,os⟩:=by
 have ha:=aX.args (.ref x) jH v;have hT:(⟨h,g,d,t,os⟩:Shared).TypeIs (.ref x) "function":=⟨_,hx,hc⟩
 simp only[checkBuiltinCall,aX.kind,aX.split];refine wpAny_bind ?_
 ·unfold isInstance;refine wpAny_bind (wpAny_typeOf hT ?_);have :isSubtype (.type "function") (.type "object")=pure true:=by rw[isSubtype_type];kernel_rfl
  rw[this];refine wpAny_pure ?_;induction J1:Manifest.signature? "object.__setattr__" with
  |none=>exact wpAny_pure hq|some sig=>
   simp only[argsOk,J1] at ha;have h2:Bind.checkArgs "object.__setattr__" sig ⟨[.ref x,jH,v],[]⟩=pure ():=ha
   show wpAny M A (Bind.checkArgs "object.__setattr__" sig ⟨[.ref x,jH,v],[]⟩) Q E _;rw[h2];exact wpAny_pure hq
theorem sN{M:Model}{jH:Value}{Q:Unit→Shared→Prop}(hx:h.get? x=some o)(hc:o.cls=.type "function")(hq:Q () ⟨h,g,d,t,os⟩):
  wpAny M A (checkBuiltinCall "object.__getattribute__" ⟨[.ref x,jH],[]⟩) Q E ⟨h,g,d,t,os⟩:=by
 have hT:(⟨h,g,d,t,os⟩:Shared).TypeIs (.ref x) "function":=⟨_,hx,hc⟩;have hk:builtinKind "object.__getattribute__"=some .slot:=by decide+kernel
 have Yg:splitId "object.__getattribute__"=some ("object","__getattribute__"):=by decide+kernel
 simp only[checkBuiltinCall,hk,Yg];refine wpAny_bind ?_
 ·unfold isInstance;refine wpAny_bind (wpAny_typeOf hT ?_);have :isSubtype (.type "function") (.type "object")=pure true:=by rw[isSubtype_type];kernel_rfl
  rw[this];refine wpAny_pure ?_;have ha:=F.args_object_getattribute_2 (.ref x) jH
  induction J1:Manifest.signature? "object.__getattribute__" with
  |none=>exact wpAny_pure hq|some sig=>
   simp only[argsOk,J1] at ha;have h2:Bind.checkArgs "object.__getattribute__" sig ⟨[.ref x,jH],[]⟩=pure ():=ha
   show wpAny M A (Bind.checkArgs "object.__getattribute__" sig ⟨[.ref x,jH],[]⟩) Q E _;rw[h2];exact wpAny_pure hq
theorem mX{tk:Tok}{Q:Fin→Shared→Prop}(hx:h.get? x=some o)(hc:o.cls=.type "function")(fK:o.data=.func fd)(N8:o.dict=none)(hB:typeLookup (.type "function") name=pure none)
  (hq:∀h' yn,h'.get? x=some {cls:=o.cls,dict:=some h.objs.size,data:=o.data,slots:=o.slots}→h'.Ns1 h.objs.size (fun y=>if y=name then some v else none)→(∀b ob,b≠x→h.get? b=some ob→h'.get? b=some ob)→Q (.done (.ret .none)) ⟨h',g,d,yn,os⟩):
  wpAny (model G.prog G.w) A (Builtin.«object.__setattr__» ⟨[.ref x,.str name tk,v],[]⟩) Q E ⟨h,g,d,t,os⟩:=by
 have N9:=aX.passes (.ref x);have J2:=aX.mro
 have hT:(⟨h,g,d,t,os⟩:Shared).TypeIs (.ref x) "function":=⟨_,hx,hc⟩;unfold Builtin.«object.__setattr__»
 repeat (first|rw[refuse_eq]|rw[N9]|rw[J2]|rw[hB]|(with_reducible refine wpAny_loadPart_at hx ?_;rw[hc])|wp_step)
 have Yh:typeHasDict (.type "function")=true:=by kernel_rfl
 have Yi:∀a b,dictMade (.type "function") a b=pure (some b):=fun a b=>by
  unfold dictMade;have :finalisedInACycleAlone "function"=false:=by decide+kernel
  simp only[this];rfl
 rw[N8,fK,Yh]
 skip
 have Hv:(h.push {cls:=.type "dict",data:=.dict #[]}).get? x=some o:=Heap.get?_push_of_some _ hx;have Wh:x≠h.objs.size:=Nat.ne_of_lt (Heap.lt_size hx)
 refine wpAny_bind (wpAny_alloc' ?_);refine wpAny_bind (wpAny_update' Hv ?_);rw[Yi];refine wpAny_pure ?_
 have Tj:((h.push {cls:=.type "dict",data:=.dict #[]}).update x fun o=>{cls:=o.cls,dict:=some h.objs.size,data:=o.data,slots:=o.slots}).get? h.objs.size
   =some {cls:=.type "dict",data:=.dict #[]}:=
  (Heap.get?_update_ne _ _ _ _ Wh.symm).trans (Heap.get?_push_at rfl rfl)
 have iV:((h.push {cls:=.type "dict",data:=.dict #[]}).update x fun o=>{cls:=o.cls,dict:=some h.objs.size,data:=o.data,slots:=o.slots}).Ns h.objs.size (fun c=>none):=⟨_,#[],_,Tj,rfl,fun e he=>absurd he (by simp),fun c=>rfl⟩;show wpAny _ _ (storeInDict h.objs.size (.str name tk) name v) _ _ _;unfold storeInDict newKeyGuard;refine wpAny_bind (wpAny_pure (wpAny_bind (wpAny_nsSet1 (Heap.Ns1.of_empty iV) fun h' Rp hs=>?_)));obtain⟨oD,esD,epD,Yj,Yk,Yl⟩:=Rp.count (Within.cons name v Within.nil);refine wpAny_bind (wpAny_lookBehind Yj (by rw[Yk];exact pastItsLine_dict (Nat.le_trans Yl (by rw[List.length_cons,List.length_nil,sizeLine_eq];exact Ln.go (nat_lit 0x1910000007f8190980100) [] ae))) ?_)
 wp_walk
 refine hq h' _ ?_ Rp (fun b ob Rq hb=>?_)
 ·refine(hs.2 x Wh).trans (Heap.get?_update_self _ Hv ?_);have Tn:=(Heap.get?_some_iff.mp hx).2;obtain⟨oc,od,Rr,To⟩:=o;induction Rr<;>first|rfl|exact Tn
 ·exact(hs.2 b (Nat.ne_of_lt (Heap.lt_size hb))).trans ((Heap.get?_update_ne _ _ _ _ Rq).trans (Heap.get?_push_of_some _ hb))
theorem vm{Q:Unit→Shared→Prop}(hx:h.get? x=some o)(hc:o.cls=.type "function")(fK:o.data=.func fd)(N8:o.dict=none)(hB:typeLookup (.type "function") name=pure none)
  (hq:∀h' yn,h'.get? x=some {cls:=o.cls,dict:=some h.objs.size,data:=o.data,slots:=o.slots}→h'.Ns1 h.objs.size (fun y=>if y=name then some v else none)→(∀b ob,b≠x→h.get? b=some ob→h'.get? b=some ob)→Q () ⟨h',g,d,yn,os⟩):
  wpAny (model G.prog G.w) A (setAttr (.ref x) name v) Q E ⟨h,g,d,t,os⟩:=by
 have f3:=aX.slot.bind (.ref x);have f4:=aX.slot.lookup
 unfold setAttr callSpecial? specialOf
 repeat (any_goals (first|assumption|(with_reducible refine wpAny_loadPart_at hx ?_;rw[hc])|wp_step))
 refine codeAny_call_builtin aX.slot.plain aX.entry (sM hx hc (mX hx hc fK N8 hB fun h' yn g1 g2 g3=>?_))
 repeat (any_goals (first|assumption|wp_step))
 exact hq h' yn g1 g2 g3
theorem lN{m:Str→Option Value}{dx:Addr}{tk:Tok}{Q:Fin→Shared→Prop}(hx:h.get? x=some o)(hc:o.cls=.type "function")(fK:o.data=.func fd)(yo:o.dict=some dx)(hn:h.Ns dx m)(hm:m name=some v)(hB:typeLookup (.type "function") name=pure none)
  (hq:Q (.done (.ret v)) ⟨h,g,d,t,os⟩):wpAny (model G.prog G.w) A (Builtin.«object.__getattribute__» ⟨[.ref x,.str name tk],[]⟩) Q E ⟨h,g,d,t,os⟩:=by
 have hT:(⟨h,g,d,t,os⟩:Shared).TypeIs (.ref x) "function":=⟨_,hx,hc⟩;unfold Builtin.«object.__getattribute__»
 repeat (any_goals (first|assumption|rw[hB]|(with_reducible refine wpAny_loadPart_at hx ?_;rw[hc])|wp_step))
 rw[fK];unfold instanceDict;refine wpAny_bind (wpAny_loadPart_at hx ?_);rw[hc,yo];refine wpAny_pure ?_;unfold inDict
 repeat (any_goals (first|(with_reducible refine wpAny_nsGet hn ?_;rw[hm])|assumption|wp_step))
theorem vo{m:Str→Option Value}{dx:Addr}{Q:Value→Shared→Prop}(hx:h.get? x=some o)(hc:o.cls=.type "function")(fK:o.data=.func fd)(yo:o.dict=some dx)(hn:h.Ns dx m)(hm:m name=some v)(hB:typeLookup (.type "function") name=pure none)
  (hh:handedOut v=pure v)(hq:∀k,Q v ⟨h,g,d,k,os⟩):wpAny (model G.prog G.w) A (getAttr (.ref x) name) Q E ⟨h,g,d,t,os⟩:=by
 have hT:(⟨h,g,d,t+1,os⟩:Shared).TypeIs (.ref x) "function":=⟨_,hx,hc⟩;have f1:=cF.lookup
 unfold getAttr getAttrBy;refine wpAny_bind (wpAny_mkText ?_);refine wpAny_holding (wpAny_bind (wpAny_typeOf hT ?_));rw[f1];refine wpAny_bind (wpAny_pure ?_);have ho:onTheHeap (.type "function")=false:=rfl
 rw[ho];dsimp only
 skip
 unfold getAttrByItsOwn hookBefore callGetattribute boundAndCalled;rw[ho];refine wpAny_bind ?_
 skip
 refine wpAny_pure ?_;have f3:=cF.bind (.ref x)
 refine wpAny_bind (wpAny_attempt (wpAny_holding ?_));rw[Bool.false_and,if_neg (by decide),f3];refine wpAny_bind (wpAny_pure (wpAny_call ?_));refine codeAny_call_builtin cF.plain F.entry_object_getattribute (sN hx hc (lN hx hc fK yo hn hm hB ?_));show wpAny _ _ (handedOut v) _ _ _;rw[hh];exact wpAny_pure (hq _)
theorem qN{m:Str→Option Value}{dx:Addr}{pl:Sem Bool}{Q:Value×List Value→Shared→Prop}(hx:h.get? x=some o)(hc:o.cls=.type "function")(fK:o.data=.func fd)(yo:o.dict=some dx)(hn:h.Ns dx m)(hm:m name=some v)(hB:typeLookup (.type "function") name=pure none)
  (hh:handedOut v=pure v)(hq:∀k,Q (v,[]) ⟨h,g,d,k,os⟩):wpAny (model G.prog G.w) A (getMethod (.ref x) name pl) Q E ⟨h,g,d,t,os⟩:=by
 have hT:(⟨h,g,d,t,os⟩:Shared).TypeIs (.ref x) "function":=⟨_,hx,hc⟩;have Tp:=F.canon_object_ga
 have f1:=cF.lookup;have f2:=kj
 unfold getMethod;refine wpAny_bind (wpAny_specialOf hT f1 ?_);dsimp only;rw[if_neg (by rw[Tp];simp)];refine wpAny_bind (wpAny_specialOf hT f2 ?_)
 skip
 refine wpAny_bind (wpAny_specialOf hT hB ?_);exact wpAny_bind (vo hx hc fK yo hn hm hB hh fun k=>wpAny_pure (hq k))
end
end Mine
end
noncomputable section
open PySem PySem.W PySem.Builtin PySem.Builtin.Str PyProof.Rows
namespace Mine
section
variable{A:Around}{E:Value→Shared→Prop}{W W':Wd}{H H':AH}{s s':Shared}
theorem eM{k j:Nat}{o o':az}(h:(H.set k o)[j]?=some o'):(j=k∧o'=o∧k<H.length)∨(j≠k∧H[j]?=some o'):=by
 by_cases hj:j=k
 ·subst hj;obtain bL:j<H.length:=by obtain this:=(cV h).1;simpa using this
  rw[List.getElem?_set_self bL] at h;exact .inl ⟨rfl,(Option.some.inj h).symm,bL⟩
 ·rw[List.getElem?_set_ne (Ne.symm hj)] at h;exact .inr ⟨hj,h⟩
theorem ah.upd(S:aH W H s)(X:Addr→Prop){k:Nat}{a:Addr}{o':az}(hl:oO H k)(ha:W.φ k=some a)(hφ:W'.φ=W.φ)(hZ:W'.Z=W.Z)(J3:∀b j,W.own b=some j→W'.own b=some j)
  (Ec:∀b j,W'.own b=some j→W.own b=some j∨(j=k∧s.heap.objs.size≤b∧b<s'.heap.objs.size))(hsz:s.heap.objs.size≤s'.heap.objs.size)
  (hk:∀b ob,s.heap.get? b=some ob→W.own b≠some k→s'.heap.get? b=some ob)(hr:lK W' s'.heap a k o')(rP:s'.os=s.os)(hg:s'.gens=s.gens):
  ah W H s X W' (H.set k o') s':=by
 have L:W.Le W':=⟨fun d d h=>by rw[hZ];exact h,fun d d h=>by rw[hφ];exact h⟩;have zk:∀b ob,W.Z b=some ob→s'.heap.get? b=some ob:=fun b ob h=>hk b ob (S.z b ob h) fun e=>by rw[S.sr b k e hl] at h;exact nE h
 refine⟨⟨fun b ob h=>?_,fun j b h=>?_,fun b j h=>?_,fun b j h N_=>?_,fun j o h=>?_,fun c P q hm=>?_,by rw[hZ];exact S.base⟩,L,J3,fun b j h=>?_,fun b ob h=>by rw[hZ] at h;exact .inl h,fun b ob h hn hd hx=>?_,fun b ps ht h=>?_,fun j h=>?_,by rw[List.length_set];exact Nat.le_refl _,hsz,rP,hg⟩
 ·rw[hZ] at h;exact zk b ob h
 ·rw[hφ] at h;exact J3 _ _ (S.ju j b h)
 ·rw[List.length_set];rcases Ec b j h with h|⟨rfl,_,h⟩
  ·exact⟨(S.b9 b j h).1,Nat.lt_of_lt_of_le (S.b9 b j h).2 hsz⟩
  ·exact⟨(S.b9 a j (S.ju j a ha)).1,h⟩
 ·rw[hZ];rcases Ec b j h with h|⟨rfl,h1,h2⟩
  ·refine S.sr b j h ?_;by_cases hj:j=k
   ·subst hj;exact hl
   ·obtain⟨o,ho,hn⟩:=N_;rw[List.getElem?_set_ne (Ne.symm hj)] at ho;exact⟨o,ho,hn⟩
  ·exact S.ic h1
 ·rcases eM h with ⟨rfl,rfl,_⟩|⟨bV,hh⟩
  ·exact⟨a,by rw[hφ];exact ha,hr⟩
  ·obtain⟨b,h1,h2⟩:=S.obj j _ hh;refine⟨b,by rw[hφ];exact h1,h2.keeps L (fun b hb=>J3 _ _ hb) (fun ob e=>hk _ _ e ?_) fun b' ob hb e=>hk _ _ e ?_⟩
   ·rw[S.ju j b h1];intro e;exact bV (Option.some.inj e)
   ·rw[hb];intro e;exact bV (Option.some.inj e)
 ·obtain⟨h1,⟨oc,h0⟩,h2,mS,ps,h3,h4,h5⟩:=S.tab c P q hm;refine⟨?_,⟨oc,by rw[hZ];exact h0⟩,by rw[hZ];exact h2,?_,ps,hk _ _ h3 (by rw[mS];intro e;exact nE e),h4,fun pos cv hc=>by rw[hZ];exact h5 pos cv hc⟩
  ·obtain⟨o,vs,file,tf,flags,tg,J4,text,tt,e,r⟩:=h1;have :=S.z _ _ h0;rw[e] at this;obtain rfl:=Option.some.inj this;exact⟨_,vs,file,tf,flags,tg,J4,text,tt,zk _ _ h0,r⟩
  ·induction ho:W'.own P with
   |none=>rfl|some j=>
    rcases Ec P j ho with h|⟨_,h,_⟩
    ·rw[mS] at h;exact nE h
    ·exact absurd (Heap.lt_size h3) (Nat.not_lt_of_le h)
 ·rcases Ec b j h with h|⟨hj,h,_⟩
  ·exact .inl h
  ·refine .inr ⟨h,fun e=>?_⟩;obtain⟨o,ho,hn⟩:=hl;rw[hj,ho] at e;obtain rfl:=Option.some.inj e;exact hn
 ·exact hk b ob h fun e=>hd k e hl
 ·obtain⟨c,q,hm⟩:=ht;obtain⟨_,_,_,mS,ps',h3,_⟩:=S.tab c b q hm;exact⟨#[],by exact hk _ _ h (by rw[mS];intro e;exact nE e)⟩
 ·by_cases hj:j=k
  ·subst hj;obtain⟨o,ho,hn⟩:=hl;rw[h] at ho;obtain rfl:=Option.some.inj ho;exact hn.elim
  ·rw[List.getElem?_set_ne (Ne.symm hj)];exact h
theorem ah.J5(S:aH W H s)(X:Addr→Prop){k:Nat}{a:Addr}{o':az}(hl:oO H k)(ha:W.φ k=some a)(hsz:s.heap.objs.size≤s'.heap.objs.size)
  (hk:∀b ob,s.heap.get? b=some ob→W.own b≠some k→s'.heap.get? b=some ob)(hr:lK W s'.heap a k o')(rP:s'.os=s.os)(hg:s'.gens=s.gens):ah W H s X W (H.set k o') s':=
 .upd S X hl ha rfl rfl (fun c c h=>h) (fun c c h=>.inl h) hsz hk hr rP hg
theorem lu(l:List (Str×V))(k x:Str)(v:V):(aP l k v).lookup x=if x=k then some v else l.lookup x:=(c8 ..).trans (ite_congr (propext beq_iff_eq) (fun a=>rfl) fun a=>rfl)
theorem FldR.D6{m:Str→Option Value}{fs:List (Str×V)}(x:FldR W m fs){a:Str}{v:V}{y:Value}(r:Rel W v y):FldR W (fun z=>if z=a then some y else m z) (aP fs a v):=fun z=>by
 rw[lu];by_cases h:z=a
 ·subst h;simp;exact r
 ·simp only[h,if_false];exact x z
theorem handed{v:V}{y:Value}(h:qB v=true)(r:Rel W v y):handedOut y=pure y:=by
 induction v using V.casesOn<;>skip<;>first
  |(subst r;rfl)|(obtain⟨_,rfl⟩:=r;rfl)|(obtain⟨_,_,rfl⟩:=r;rfl)|(rfl)|(rfl)|(obtain⟨_,_,_,rfl,_⟩:=r;rfl)|(obtain⟨_,_,_,_,rfl,_⟩:=r;rfl)|(obtain⟨rfl,_⟩:=r;rfl)|(exact bE h)
theorem lU{k c:Nat}{fs:List (Str×V)}{a:Addr}(S:aH W H s)(hk:H[k]?=some (.inst c fs))(ha:W.φ k=some a){d:Ie}(hd:G.C.gh.lookup c=some d):
  ∃m o dx,s.heap.Inst a (G.ca c) m∧FldR W m fs∧s.heap.get? a=some o∧o.cls=.ref (G.ca c)∧o.dict=some dx∧(∀c,o.data≠.cls c)∧dx≠a∧W.own dx=some k∧fs.length<ai∧a≠G.ca c∧s.heap.Ns1 dx m:=by
 obtain⟨o,dx,h1,h2,h3,h4,h6,h7,h8,m,h9,Ny⟩:=S.at hk ha;refine⟨m,o,dx,⟨o,h1,h2,h4,.inr ⟨dx,h3,h6,h9⟩⟩,Ny,h1,h2,h3,h4,h6,h7,h8,?_,h9⟩;intro e;obtain⟨nm,q,N,bs,sn,sub,col,dd,k0,k1,k2,k3,k5,mN,hC,_⟩:=S.cj.cls c d hd;rw[e,hC] at h1;obtain rfl:=Option.some.inj h1;cases h2
theorem mY{C:Cx}{c:Nat}{a:Str}(h:pe C c a=true):∃d,C.gh.lookup c=some d∧a∈d.DM:=by
 unfold pe at h;induction hd:C.gh.lookup c with |none=>simp only[hd] at h;exact bE h|some d=>rw[hd] at h;exact⟨d,rfl,by simpa using h⟩
set_option tactic.hygienic true in
theorem mZ{o v:V}{a:Str}{x y:Value}{u:Unit}(h:setAttrA G.C o a v H=some (u,H'))(S:aH W H s)(hx:Rel W o x)(hy:Rel W v y){Q:Unit→Shared→Prop}
  (kq:∀W' s',ah W H s aI W' H' s'→Q () s'):wpAny (model G.prog G.w) A (setAttr x a y) Q E s:=by
 unfold setAttrA at h;split at h
 ·rename_i k;refine bH h fun ob H₁ h1 h=>?_
  refine(bO h1).elim fun ho z=>z.elim fun hn Oa=>?_;subst Oa
  obtain⟨ad,rfl,ha⟩:=hx;induction ob with
  |inst c fs=>
   dsimp only at h;split at h
   ·rename_i hc
    simp only[Bool.and_eq_true] at hc;obtain⟨d,hd,vp⟩:=mY hc.1;obtain this:=bY h;subst this;obtain⟨m,ob,dx,I,F,g1,g2,g3,g4,g6,g7,g8,g9,L2⟩:=lU S ho ha hd;obtain⟨nm,q,N,bs,sn,sub,col,dd,k0,k1,k2,k3,k5,mN,hC,hN,_,_,vg,_,DE⟩:=S.cj.cls c d hd;obtain⟨Tq,hB⟩:=DE a vp;obtain hw:Within m (fs.map (·.1)):=fun z hz=>by
     obtain this:=F z;induction hl:fs.lookup z with |none=>rw[hl] at this;exact absurd this hz|some w=>exact uq ⟨_,mem_of_lookup hl,rfl⟩
    refine bG ?_;obtain⟨hp,gg,dr,tt,os⟩:=s;refine store_attr PySem.F.store_object hC hN vg Tq hB g9 I (fun h' yn I' hk w5 w6=>?_) hw (by rw[List.length_map];exact br g8);obtain⟨o₁,q1,q2,q3,q4,q5⟩:=w5 ob g1;have Tr:=q5 dx g3
    have yo:h'.Ns1 dx (fun z=>if z=a then some y else m z):=by
     obtain⟨o₂,r1,r2,r3,r4⟩:=I';have Ym:h'.get? ad=some o₁:=q1
     rw[Ym] at r1;obtain rfl:=Option.some.inj r1;rcases r4 with ⟨r5,_⟩|⟨Yn,r5,_,r6⟩
     ·rw[Tr] at r5;cases r5
     ·rw[Tr] at r5;obtain rfl:=Option.some.inj r5;exact r6
    obtain Tt:∀b Rt,hp.get? b=some Rt→W.own b≠some k→h'.get? b=some Rt:=fun b Rt e bV=>hk b Rt (by rintro rfl;exact bV (S.ju k b ha)) (fun o₀ Yn e1 e2=>by
     have Wi:hp.get? ad=some o₀:=e1;have S5:hp.get? ad=some ob:=g1
     rw[S5] at Wi;obtain rfl:=Option.some.inj Wi;rw[g3] at e2;obtain rfl:=Option.some.inj e2;rintro rfl;exact bV g7) e
    refine kq W ⟨h',gg,dr,yn,os⟩ (ah.J5 (o':=.inst c (aP fs a v)) S aI hn ha w6 Tt ⟨o₁,dx,q1,by rw[q2,g2],Tr,by rw[q3];exact g4,g6,g7,?_,_,yo,F.D6 hy⟩ rfl rfl);obtain this:=cC fs a v;obtain this:=ck hc.2;omega
   ·exact nE h
  |o_ c fs=>
   dsimp only at h;split at h
   ·split at h
    ·rename_i hc;simp only[Bool.and_eq_true] at hc;obtain this:=bY h;subst this;obtain⟨ob,fd,g1,g2,g3,g4⟩:=S.at ho ha;obtain Ru:fs=[]:=by simpa using hc.2
     obtain Yo:a=Str.ofString "read":=by simpa using hc.1
     subst Ru Yo;obtain N8:ob.dict=none:=by
      rcases g4 with g4|⟨d,e1,_⟩
      ·exact g4.2
      ·exact absurd rfl e1
     refine bG ?_;obtain⟨hp,gg,dr,tt,os⟩:=s;refine vm g1 g2 g3 N8 i3 fun h' yn q1 q2 q3 hsz=>?_
     obtain bV:hp.objs.size≠ad:=(Nat.ne_of_lt (Heap.lt_size g1)).symm;obtain gY:W.own hp.objs.size=none:=by
      induction e:W.own hp.objs.size with |none=>rfl|some j=>exact absurd (S.b9 _ _ e).2 (Nat.lt_irrefl _)
     obtain bL:hp.objs.size<h'.objs.size:=by obtain⟨od,_,_,e,_⟩:=q2;exact Heap.lt_size e
     let W':Wd:={W with own:=fun b=>if b=hp.objs.size then some k else W.own b};obtain L:W.Le W':=⟨fun f f e=>e,fun f f e=>e⟩;refine kq W' ⟨h',gg,dr,yn,os⟩ (ah.upd (W':=W') S aI hn ha rfl rfl (fun b j e=>?_) (fun b j e=>?_) hsz (fun b ob e Yp=>q3 b ob (fun hb=>Yp (by rw[hb];exact S.ju k ad ha)) e) ⟨_,fd,q1,g2,g3,.inr ⟨_,by simp,rfl,bV,?_,_,q2,fun z=>?_⟩⟩ rfl rfl)
     ·show(if b=hp.objs.size then some k else W.own b)=some j;rw[if_neg]
      ·exact e
      ·rintro rfl;rw[gY] at e;exact nE e
     ·have e':(if b=hp.objs.size then some k else W.own b)=some j:=e;split at e'
      ·rename_i hb;obtain rfl:=Option.some.inj e';subst hb;exact .inr ⟨rfl,Nat.le_refl _,bL⟩
      ·exact .inl e'
     ·show(if hp.objs.size=hp.objs.size then some k else _)=some k;rw[if_pos rfl]
     ·rw[List.lookup_cons];by_cases hz:z=Str.ofString "read"
      ·subst hz;exact⟨_,rfl,hy.mono L⟩
      ·have :(z==Str.ofString "read")=false:=by simpa using hz
       rw[this];simp only[List.lookup_nil,if_neg hz]
    ·exact nE h
   ·exact nE h
  |_=>exact nE h
 ·exact nE h
end
section
variable{n:Nat}{A:Around}{E:Value→Shared→Prop}{W:Wd}{H H':AH}{s:Shared}{sc:Scope}{env:af}{e':Env}
theorem fW{o:Expr}{attr:Str}{env:Env}{whole:Sem Value}(h:dN o=false):attributeBase o attr env whole=whole:=by induction o using Expr.casesOn<;>first|rfl|exact nomatch h
set_option tactic.hygienic true in
theorem m3{o v:V}{a:Str}{x:Value}(h:getAttrA G.C o a H=some (v,H'))(S:aH W H s)(hx:Rel W o x):
  wpAny (model G.prog G.w) A (getAttr x a true) (fun z=>aT W H s aI H' fun W' b=>Rel W' v z) E s:=by
 unfold getAttrA at h;split at h
 ·rename_i k;refine bH h fun ob H₁ h1 h=>?_
  refine(bO h1).elim fun ho z=>z.elim fun hn z1=>?_;subst z1
  obtain⟨ad,rfl,ha⟩:=hx;cases ob with
  |inst c fs=>
   dsimp only at h;cases hl:fs.lookup a with
   |some u=>
    rw[hl] at h;dsimp only at h;split at h
    ·rename_i hc;simp only[Bool.and_eq_true] at hc;refine hU h ?_;obtain⟨d,hd,vp⟩:=mY hc.1;obtain⟨m,ob,dx,I,F,g1,g2,g3,g4,g6,g7,g8,g9,L2⟩:=lU S ho ha hd;obtain⟨nm,q,N,bs,sn,sub,col,dd,k0,k1,k2,k3,k5,mN,hC,hN,Ob,_,_,_,DE⟩:=S.cj.cls c d hd;obtain⟨Tq,hB⟩:=DE a vp;obtain hf:=F a;rw[hl] at hf;obtain⟨y,hy,ry⟩:=hf;exact load_attr hC hN Ob Tq hB I hy (handed hc.2 ry) (cD S _ ry)
    ·exact nE h
   |none=>
    rw[hl] at h;cases hd:G.C.gh.lookup c with
    |none=>rw[hd] at h;exact nE h|some d=>
     rw[hd] at h;simp only[Option.bind_some] at h;cases hm:d.meths.lookup a with |none=>rw[hm] at h;exact nE h|some f=>rw[hm] at h;refine hU h ?_;obtain⟨m,ob,dx,I,F,g1,g2,g3,g4,g6,g7,g8,g9,L2⟩:=lU S ho ha hd;obtain⟨nm,q,N,bs,sn,sub,col,dd,k0,k1,k2,k3,k5,mN,hC,hN,Ob,_,_,Oc,DE⟩:=S.cj.cls c d hd;obtain⟨od,es,ep,q1,q2,q3,q4,q5⟩:=L2;obtain hf:=F a;rw[hl] at hf;refine S.cj.bound c d a f hd hm rfl g1 g2 g3 g4 q1 q2 q3 (by rw[q5];exact hf) ?_;obtain PP:=ah.push S aI {cls:=.type "method",data:=.fields #[.ref (G.fa f),.ref ad]} rfl (s.toks+1);refine⟨_,PP,?_⟩;exact⟨_,ad,rfl,PP.le.φ _ _ ha,Wd.aU ..,(Oc a f hm).h2⟩
  |_=>exact nE h
 ·exact nE h
def A8(fv:V)(f':Value)(h:Heap):Prop:=AU h∧∃W,Rel W fv f'∧∀a o,W.Z a=some o→h.get? a=some o
noncomputable def callable(v:V):Bool:=Nat.ble 9 v.ctorIdx&&Nat.ble v.ctorIdx 14
theorem qO{fv:V}{f':Value}(hc:callable fv=true)(h:Heap)(X:A8 fv f' h)(jd:∀c,fv=.cls c→(G.C.gh.lookup c).isSome=true):
  ∃k,(k=Keeper.frame∨k=Keeper.machine∨k=Keeper.boundFrame)∧Looks (model G.prog G.w) h (keeperOf f') k:=by
 obtain⟨B,W,r,z⟩:=X;induction fv using V.casesOn with
 |fn f=>obtain⟨rfl,hs⟩:=r;obtain⟨d,hd⟩:=mh hs;obtain⟨_,o,fd,ho,_,fK,_⟩:=B.fns f d hd;obtain⟨oc,od,Rr,To⟩:=o;subst fK;exact⟨.frame,.inl rfl,(Looks.ld (part:=none) ho).andThen .now⟩
 |rO ps body sc c7=>obtain⟨a,o,fd,rfl,hz,_,fK,_⟩:=r;obtain⟨oc,od,Rr,To⟩:=o;subst fK;exact⟨.frame,.inl rfl,(Looks.ld (part:=none) (z _ _ hz)).andThen .now⟩
 |bm k f=>obtain⟨a,b,rfl,_,hz,hs⟩:=r;obtain⟨d,hd⟩:=mh hs;obtain⟨_,o,fd,ho,_,fK,_⟩:=B.fns f d hd;obtain⟨oc,od,Rr,To⟩:=o;subst fK;exact⟨.boundFrame,.inr (.inr rfl),(Looks.ld (part:=none) (z _ _ hz)).andThen ((Looks.ld (part:=none) ho).andThen .now)⟩
 |cls c=>
  subst r;obtain⟨d,hd⟩:=mh (jd c rfl);obtain⟨nm,q,N,bs,sn,sub,col,dd,k0,k1,k2,k3,k5,mN,hC,_⟩:=B.cls c d hd;obtain L:Looks (model G.prog G.w) h (specialOf (.ref (G.ca c)) "__call__") (some (.builtin "type.__call__")):=by intro A Q E s k q;exact wpAny_specialOf (T:="type") ⟨_,k _ _ hC,rfl⟩ PySem.F.lookup_type_call q
  exact⟨.machine,.inr (.inl rfl),(Looks.ld (part:=none) hC).andThen (L.andThen .now)⟩
 |blt i=>subst r;exact⟨.machine,.inr (.inl rfl),.now⟩|typ i=>subst r;exact⟨.machine,.inr (.inl rfl),.now⟩|_=>exact nomatch (show false=true from hc)
theorem ko{o:Expr}{m:Str}{ap p:Pos}{as:List Expr}{Q:Value→Shared→Prop}(hs:dN o=false)(L3:as.any isStarred=false)(hl:(ap.endLine==p.line)=true)(hn:as.length<29)
  (h:wpAny (model G.prog G.w) A (eval o e') (fun ov s₁=>wpAny (model G.prog G.w) A (getMethod ov m (do return (←importBound o e').getD true)) (fun r s₂=>wpAny (model G.prog G.w) A (callWith p r.1 r.2 (backTo p (starEach as e')) []) Q E s₂) E s₁) E s):
  wpAny (model G.prog G.w) A (eval (.Call (.Attribute o m ap) as [] p) e') Q E s:=by
 simp only[arm_eval_Call,fW hs];obtain w7:∀{l:List Expr},l.any isStarred=false→(backTo p (starEach l e')).all (fun x=>!x.1)=true:=by
  intro l;induction l with
  |nil=>intro _;rfl|cons e r ih=>
   intro hh;simp only[List.any_cons,Bool.or_eq_false_iff] at hh;obtain hs:starEach (e::r) e'=(false,eval e e')::starEach r e':=by induction e using Expr.casesOn<;>first|rfl|(exact nomatch hh)
   rw[hs];refine(ih hh.2).trans ?_;rfl
 obtain Tu:methodCallForm (as.length+([]:List Keyword).length) (backTo p (starEach as e')) (backToKw p (keywordEach [] e'))=true:=by
  unfold methodCallForm;rw[w7 L3];have :as.length+([]:List Keyword).length+(if(backToKw p (keywordEach [] e')).isEmpty then 0 else 1)<30:=by show as.length+0+(if true then 0 else 1)<30;lia
  simp only[this,decide_true,Bool.and_true];rfl
 refine wpAny_bind (wpAny_mono h (fun ov s₁ h₁=>wpAny_bind (wpAny_standAt ?_)) fun a a e=>e);unfold methodCall;refine Tu▸?_;refine wpAny_bind (wpAny_holding ?_);refine wpAny_mono h₁ (fun r s₂ h₂=>?_) fun a a e=>e
 unfold methodCallPos;refine(if_pos (by exact hl))▸?_;exact wpAny_bind (wpAny_pure h₂)
end
section
variable{A:Around}{E:Value→Shared→Prop}{h:Heap}{g:Array GenState}{d:Drawn}{t:Nat}{os:OsState}
variable{nm q:Str}{C N:Addr}{bs:List Value}{sn:List Str}{sub:List Value}{col:Option Bool}{dd:Option Addr}{k0 k1 k2 k3 k5:Option Value}
noncomputable abbrev dc(h:Heap)(C:Addr):Heap:=(h.push {cls:=.type "dict",data:=.dict #[]}).push {cls:=.ref C,dict:=some h.objs.size,data:=.plain}
theorem yp{mN:Str→Option Value}{rest:List Value}{fI:Addr}{oI:Obj}{Q:Fin→Shared→Prop}
  (hC:h.get? C=some (excClassObj nm q C N bs [.type "object"] true sn sub false col dd k0 k1 k2 k3 k5 "object.__new__"))(hn:h.Ns N mN)(hi:mN "__init__"=some (.ref fI))
  (Tv:h.get? fI=some oI)(Od:oI.cls=.type "function")
  (hq:wpAny (model G.prog G.w) A (call (.ref fI) (.ref (h.objs.size+1)::rest)) (fun r s'=>r=.none∧Q (.done (.ret (.ref (h.objs.size+1)))) s') E ⟨dc h C,g,d,t,os⟩):
  wpAny (model G.prog G.w) A (Builtin.«type.__call__» ⟨.ref C::rest,[]⟩) Q E ⟨h,g,d,t,os⟩:=by
 obtain F:=PySem.F.objNew;obtain J2:mroOf (.type "object")=pure [.type "object"]:=by kernel_rfl
 obtain DF:typeLookup (.type "object") "__init__"=pure (some (.builtin "object.__init__")):=by kernel_rfl
 repeat (first|with_reducible refine wpAny_loadPart_at hC ?_|with_reducible refine wpAny_madeBy_exc hC ?_|wp_step)
 refine codeAny_call_builtin_code (Code.quiet_builtin _ F.quiet) (wpAny_check_obj_new F hC ?_);refine codeAny_obj_new F hC hn hi ?_;obtain up:∀{b o},h.get? b=some o→(dc h C).get? b=some o:=fun e=>Heap.get?_push_of_some _ (Heap.get?_push_of_some _ e)
 obtain Oe:(dc h C).Ns N mN:=let ⟨o,es,ep,e,r⟩:=hn;⟨o,es,ep,up e,r⟩
 obtain Yq:(Value.ref C::[Value.type "object"]).contains (.ref C)=true:=by simp
 repeat (first|with_reducible refine wpAny_loadPart_at hget ?_|(with_reducible refine wpAny_isSubtype_exc (up hC) ?_;rw[Yq])|wp_step)
 show wpAny _ _ (typeLookup (.ref C) _) _ _ _;refine wpAny_typeLookup_exc (up hC) Oe J2 DF ?_;rw[hi];refine wpAny_holding (wpAny_bind ?_);unfold bindSpecial;refine wpAny_bind (wpAny_typeOf (T:="function") ⟨_,up Tv,Od⟩ ?_);rw[if_pos (by decide)];refine wpAny_pure (wpAny_bind (wpAny_mono hq (fun r s' hr=>?_) fun a a x=>x));obtain⟨rfl,hQ⟩:=hr
 wp_walk
 exact hQ
theorem yq{mN:Str→Option Value}{rest:List Value}{fI:Addr}{oI:Obj}{Q E:Value→Shared→Prop}
  (hC:h.get? C=some (excClassObj nm q C N bs [.type "object"] true sn sub false col dd k0 k1 k2 k3 k5 "object.__new__"))(hn:h.Ns N mN)(hi:mN "__init__"=some (.ref fI))
  (Tv:h.get? fI=some oI)(Od:oI.cls=.type "function")
  (hq:wpAny (model G.prog G.w) (A.under (.builtin "type.__call__" ⟨.ref C::rest,[]⟩)) (call (.ref fI) (.ref (h.objs.size+1)::rest)) (fun r s'=>r=.none∧Q (.ref (h.objs.size+1)) s') E ⟨dc h C,g,d,t,os⟩):
  codeAny (model G.prog G.w) A (.call (.ref C) ⟨rest,[]⟩) (wants Q E) ⟨h,g,d,t,os⟩:=by
 obtain f1:=tc_lookup;obtain f2:=tc_bind (.ref C);obtain hT:(⟨h,g,d,t,os⟩:Shared).TypeIs (.ref C) "type":=⟨_,hC,rfl⟩;refine codeAny_of_tree ?_
 repeat (any_goals (first|assumption|with_reducible refine wpAny_loadPart_at hC ?_|wp_step))
 refine⟨rfl,?_⟩;refine codeAny_call_builtin_at (Code.quiet_builtin _ (by decide+kernel)) entry_typeCall (wpAny_check_type_call_sub hC (yp hC hn hi Tv Od ?_));exact hq
end
section
variable{n:Nat}{A:Around}{E:Value→Shared→Prop}{W W':Wd}{H H':AH}{s s':Shared}
set_option tactic.hygienic true in
theorem ah.Of(S:aH W H s)(X:Addr→Prop)(o:az){a:Addr}(hφ:W'.φ=fun j=>if j=H.length then some a else W.φ j)(hZ:W'.Z=W.Z)(ha:W'.own a=some H.length)
  (J3:∀b j,W.own b=some j→W'.own b=some j)(Ec:∀b j,W'.own b=some j→W.own b=some j∨(j=H.length∧s.heap.objs.size≤b∧b<s'.heap.objs.size))(hsz:s.heap.objs.size≤s'.heap.objs.size)
  (hk:∀b ob,s.heap.get? b=some ob→s'.heap.get? b=some ob)(hr:lK W' s'.heap a H.length o)(rP:s'.os=s.os)(hg:s'.gens=s.gens):
  ah W H s X W' (H++[o]) s':=by
 have L:W.Le W':=⟨fun d d h=>by rw[hZ];exact h,fun j b h=>by
  rw[hφ];show(if j=H.length then some a else W.φ j)=some b;have :=(S.b9 b j (S.ju j b h)).1
  refine(if_neg (aE (nat_lit 0x909611031101102) ae this)).trans ?_;exact h⟩
 refine⟨⟨?_,?_,?_,?_,?_,?_,by exact hZ▸(S.base)⟩,L,J3,?_,fun d d h=>by rw[hZ] at h;exact .inl h,fun b o e d d d=>hk _ _ e,fun b ps d e=>⟨#[],by exact hk _ _ e⟩,?_,by simp,hsz,rP,hg⟩
 ·intro b ob h;rw[hZ] at h;exact hk _ _ (S.z b ob h)
 ·intro k b h;rw[hφ] at h;have h':(if k=H.length then some a else W.φ k)=some b:=h
  split at h'
  ·rename_i e;obtain rfl:=Option.some.inj h';rw[e];exact ha
  ·exact J3 _ _ (S.ju k b h')
 ·intro b k h;rcases Ec b k h with h'|⟨rfl,_,h'⟩
  ·have :=S.b9 b k h';exact⟨by simp;exact aE (nat_lit 441454204817665) ae this.1,Nat.lt_of_lt_of_le this.2 hsz⟩
  ·exact⟨by simp,h'⟩
 ·intro b k h hl;rw[hZ];rcases Ec b k h with h'|⟨rfl,h',_⟩
  ·refine S.sr b k h' ?_;obtain⟨o',JQ,hn⟩:=hl;rw[List.getElem?_append_left (S.b9 b k h').1] at JQ;exact⟨o',JQ,hn⟩
  ·exact S.ic h'
 ·intro k o' h;by_cases Rv:k<H.length
  ·rw[List.getElem?_append_left Rv] at h;obtain⟨b,h1,h2⟩:=S.obj k o' h;exact⟨b,L.φ _ _ h1,h2.keeps L (fun b hb=>J3 _ _ hb) (fun o e=>hk _ _ e) fun b o d e=>hk _ _ e⟩
  ·obtain gV:k=H.length:=by
    obtain this:=(cV h).1;simp at this;exact aE (nat_lit 0x10251054191801112) ae this Rv
   subst gV;rw[List.getElem?_append_right (Nat.le_refl _),Nat.sub_self] at h;obtain rfl:=Option.some.inj h;exact⟨a,by rw[hφ];simp,hr⟩
 ·intro c P q hm;obtain⟨h1,⟨oc,h0⟩,h2,mS,ps,h3,h4,h5⟩:=S.tab c P q hm;refine⟨h1.keeps hk,⟨oc,by rw[hZ];exact h0⟩,by rw[hZ];exact h2,?_,ps,hk _ _ h3,h4,fun pos cv hc=>by rw[hZ];exact h5 pos cv hc⟩;induction ho:W'.own P with
  |none=>rfl|some j=>
   rcases Ec P j ho with h|⟨_,h,_⟩
   ·rw[mS] at h;exact nE h
   ·exact absurd (Heap.lt_size h3) (Nat.not_lt_of_le h)
 ·intro b k h;rcases Ec b k h with h'|⟨hj,h',_⟩
  ·exact .inl h'
  ·exact .inr ⟨h',by rw[hj,List.getElem?_eq_none (Nat.le_refl _)];intro e;cases e⟩
 ·intro k h;obtain this:=(cV h).1;rw[List.getElem?_append_left this];exact h
theorem bx.create{A:Around}{n:Nat}(h:bx A (n+1))(C:Addr)(rest:List Value):bx (A.under (.builtin "type.__call__" ⟨.ref C::rest,[]⟩)) n:=by
 refine⟨h.handled,?_,?_⟩
 ·obtain hw:(Code.builtin "type.__call__" ⟨.ref C::rest,[]⟩).weight=1:=by
   rfl
  have :=h.depth;refine(?_:A.depth+_+n<recursionLimit);refine hw▸?_;exact aQ (nat_lit 0x21190881121918081101) ae this
 ·obtain hu:(Code.builtin "type.__call__" ⟨.ref C::rest,[]⟩).cUnits=1:=by
   rfl
  obtain this:=h.units;refine(?_:A.units+_+12* n<cLine);refine hu▸?_;exact aQ (nat_lit 0x21ca190881121918ca081101) ae this
end
section
variable{n:Nat}{A:Around}{E:Value→Shared→Prop}{W W':Wd}{H H':AH}{s s':Shared}{sc:Scope}{env:af}{e':Env}
theorem ah.Hw(S:aH W H s){X:Addr→Prop}{b:Addr}(hX:X b)(hs:Heap.SameBut b s.heap s'.heap)(ho:W.own b=none)(hz:W.Z b=none)(ht:¬G.fg b)
  (hφ:W'.φ=W.φ)(hO:W'.own=W.own)(hZ:∀a o,W.Z a=some o→W'.Z a=some o)(Hx:∀a o,W'.Z a=some o→W.Z a=some o∨(a=b∧s'.heap.get? b=some o))(rP:s'.os=s.os)(hg:s'.gens=s.gens):
  ah W H s X W' H s':=by
 have L:W.Le W':=⟨hZ,fun d d h=>by rw[hφ];exact h⟩;have kp:∀a,a≠b→s'.heap.get? a=s.heap.get? a:=fun a h=>hs.2 a h
 have zb:∀a o,W.Z a=some o→a≠b:=fun a o h e=>by subst e;rw[hz] at h;exact nE h
 refine⟨⟨fun a o h=>?_,fun k a h=>by rw[hφ] at h;rw[hO];exact S.ju k a h,fun a k h=>?_,fun a k h hl=>?_,fun k o h=>?_,fun c P q hm=>?_,S.base.mono hZ⟩,L,fun a k h=>by rw[hO];exact h,fun a k h=>.inl (by rw[hO] at h;exact h),fun a o h=>?_,fun a o h hn hd hx=>?_,fun a ps Yr h=>⟨#[],?_⟩,fun k h=>h,Nat.le_refl _,by rw[hs.1];exact Nat.le_refl _,rP,hg⟩
 ·rcases Hx a o h with h|⟨rfl,h⟩
  ·rw[kp a (zb a o h)];exact S.z a o h
  ·exact h
 ·rw[hO] at h;exact⟨(S.b9 a k h).1,by rw[hs.1];exact(S.b9 a k h).2⟩
 ·rw[hO] at h;induction e:W'.Z a with
  |none=>rfl|some o=>
   rcases Hx a o e with h1|⟨rfl,h1⟩
   ·rw[S.sr a k h hl] at h1;exact nE h1
   ·rw[ho] at h;exact nE h
 ·obtain⟨a,h1,h2⟩:=S.obj k o h;have bV:∀c,W.own c=some k→c≠b:=fun c hc e=>by subst e;rw[ho] at hc;exact nE hc
  exact⟨a,by rw[hφ];exact h1,h2.keeps L (fun c hc=>by rw[hO];exact hc) (fun o e=>by rw[kp a (bV a (S.ju k a h1))];exact e) fun c o hc e=>by rw[kp c (bV c hc)];exact e⟩
 ·obtain⟨h1,⟨oc,h0⟩,h2,mS,ps,h3,h4,h5⟩:=S.tab c P q hm;obtain hP:P≠b:=fun e=>ht ⟨c,q,e▸hm⟩
  refine⟨?_,⟨oc,hZ _ _ h0⟩,?_,by rw[hO];exact mS,ps,by rw[kp P hP];exact h3,h4,fun pos cv hc=>(h5 pos cv hc).mono hZ⟩
  ·obtain⟨o,vs,file,tf,flags,tg,J4,text,tt,e,r⟩:=h1;exact⟨o,vs,file,tf,flags,tg,J4,text,tt,by rw[kp c (zb c oc h0)];exact e,r⟩
  ·induction e:W'.Z P with
   |none=>rfl|some o=>
    rcases Hx P o e with h1|⟨h1,_⟩
    ·rw[h2] at h1;exact nE h1
    ·exact absurd h1 hP
 ·rcases Hx a o h with h|⟨rfl,_⟩
  ·exact .inl h
  ·exact .inr (.inr (.inr hX))
 ·rw[kp a (fun e=>hx (e▸hX))];exact h
 ·rw[Array.append_empty,kp a (fun e=>ht (e▸Yr))];exact h
theorem bJ(l:af)(k x:Str)(v:V):aS (aP l k v) x=if x=k then some v else aS l x:=lu l k x v
theorem ak.iq(N:ak sc env e' W s){c:Addr}{o:Obj}{u:Option Value}(h:s.heap.get? c=some o)(hd:o.data=.cell u):e'.locals≠c:=by rintro rfl;obtain⟨o',es,ep,m,h1,h2,h3,_⟩:=N.locals;rw[h] at h1;obtain rfl:=Option.some.inj h1;rw[hd] at h3;cases h3
theorem fj{x:Str}{v:V}{y:Value}(S:aH W H s)(N:ak sc env e' W s)(hk:kindOf sc x=some .local)(r:Rel W v y):
  wpAny (model G.prog G.w) A (storeName e' x y) (fun a=>aT W H s (bI sc e') H fun W' s'=>ak sc (aP env x v) e' W' s') E s:=by
 refine N.locals.elim fun o Tw=>?_;refine Tw.elim fun es Tz=>?_;refine Tz.elim fun ep TA=>?_;refine TA.elim fun m A9=>?_;obtain h2:=A9.2.1;obtain h4:=A9.2.2.2.1;obtain h5:=A9.2.2.2.2.1;obtain h6:=A9.2.2.2.2.2.1;obtain h7:=A9.2.2.2.2.2.2
 obtain gV:=(N.kinds x _ hk (by decide)).resolve_right (fun q=>nomatch q.1);refine wpAny_storeName_local gV h4 (fun h' hn hs=>?_) (by refine N.kind▸?_;rfl);obtain PP:ah W H s (bI sc e') W H {s with heap:=h',toks:=s.toks+1}:=ah.Hw S (.inl rfl) hs h5 h6 h2 rfl rfl (fun a a h=>h) (fun a a h=>.inl h) rfl rfl;refine⟨W,PP,N.kind,N.globals,N.builtins,N.code,N.kinds,?_,?_,?_,N.inj⟩
 ·obtain⟨o',JJ,SQ,q1,q2,q3⟩:=id hn;refine⟨o',JJ,SQ,_,q1,h2,q2,hn,h5,h6,fun z w hz hw=>?_⟩;rw[bJ] at hw;by_cases w9:z=x
  ·subst w9;simp only[if_true,Option.some.injEq] at hw;subst hw;exact⟨y,by simp,r⟩
  ·rw[if_neg w9] at hw;obtain⟨q,hq,rq⟩:=h7 z w hz hw;exact⟨q,by rw[if_neg w9];exact hq,rq⟩
 ·intro z hz;refine(N.cells z hz).elim fun c TF=>?_;refine TF.elim fun oc TG=>?_;refine TG.elim fun u yt=>?_;obtain g1:=yt.1;obtain g2:=yt.2.1;obtain g3:=yt.2.2.1;obtain g4:=yt.2.2.2.1;obtain g5:=yt.2.2.2.2.1;obtain g6:=yt.2.2.2.2.2
  obtain bV:z≠x:=by rintro rfl;rw[hk] at hz;exact nomatch hz
  rw[bJ,if_neg bV];exact⟨c,oc,u,g1,(hs.2 c (N.iq g2 g4).symm).trans g2,g3,g4,g5,g6⟩
 ·intro z w hz hw;obtain bV:z≠x:=by rintro rfl;rw[hk] at hz;exact nomatch hz
  rw[bJ,if_neg bV] at hw;refine(N.frees z w hz hw).elim fun c TH=>?_;refine TH.elim fun oc TJ=>?_;refine TJ.elim fun q yu=>?_;obtain g1:=yu.1;obtain g2:=yu.2.1;obtain g4:=yu.2.2.1;obtain g5:=yu.2.2.2.1;obtain g8:=yu.2.2.2.2.1;obtain g6:=yu.2.2.2.2.2
  exact⟨c,oc,q,g1,(hs.2 c (N.iq g2 g4).symm).trans g2,g4,g5,g8,g6⟩
set_option tactic.hygienic true in
theorem vq{x:Str}{v:V}{y:Value}(S:aH W H s)(N:ak sc env e' W s)(hk:kindOf sc x=some .cell)(hw:G.C.wo x=true→aS env x=none)(r:Rel W v y):
  wpAny (model G.prog G.w) A (storeName e' x y) (fun b=>aT W H s (bI sc e') H fun W' s'=>ak sc (aP env x v) e' W' s') E s:=by
 obtain⟨c,o,u,h1,h2,h3,h4,h5,h6⟩:=N.cells x hk;have gV:=(N.kinds x _ hk (by decide)).resolve_right (fun q=>nomatch q.1)
 have TL:W.Z c=none:=by
  induction ha:aS env x with
  |none=>obtain h6:=ha▸h6;exact h6
  |some w=>
   rw[ha] at h6;by_cases zv:G.C.wo x=true
   ·rw[hw zv] at ha;exact nE ha
   ·have :=h6.2;rw[if_neg zv] at this;exact this
 refine wpAny_storeName_cell N.kind gV h1 ⟨o,h2,h4⟩ (fun h' hc hs=>?_);obtain⟨o',g1,g2⟩:=hc;let W':Wd:=if G.C.wo x=true then W.add c o' else W
 have hφ:W'.φ=W.φ:=by show(if _ then _ else _:Wd).φ=_;split<;>rfl
 have hO:W'.own=W.own:=by show(if _ then _ else _:Wd).own=_;split<;>rfl
 have hZ:∀a oa,W.Z a=some oa→W'.Z a=some oa:=by
  intro a oa h;show(if _ then _ else _:Wd).Z a=_;split
  ·show(if a=c then some o' else W.Z a)=some oa;rw[if_neg]
   ·exact h
   ·rintro rfl;rw[TL] at h;exact nE h
  ·exact h
 have Hx:∀a oa,W'.Z a=some oa→W.Z a=some oa∨(a=c∧h'.get? c=some oa):=by
  intro a oa h;have h':(if G.C.wo x=true then W.add c o' else W:Wd).Z a=some oa:=h
  split at h'
  ·have h2:(if a=c then some o' else W.Z a)=some oa:=h';split at h2
   ·rename_i e;obtain rfl:=Option.some.inj h2;exact .inr ⟨e,g1⟩
   ·exact .inl h2
  ·exact .inl h'
 have PP:ah W H s (bI sc e') W' H {s with heap:=h'}:=ah.Hw S (.inr ⟨x,hk,h1⟩) hs h5 TL h3 hφ hO hZ Hx rfl rfl;have bV:∀z d,(kindOf sc z=some .cell∨kindOf sc z=some .free)→z≠x→e'.cells.lookup z=some d→d≠c:=fun z d Ys w9 hd e=>by subst e;exact w9 (N.inj x z d hk Ys h1 hd).symm
 refine⟨W',PP,N.kind,N.globals,N.builtins,N.code,N.kinds,?_,?_,?_,N.inj⟩
 ·refine N.locals.elim fun ob Og=>?_;refine Og.elim fun es Oh=>?_;refine Oh.elim fun ep Oi=>?_;refine Oi.elim fun m m4=>?_;obtain q1:=m4.1;obtain q2:=m4.2.1;obtain q3:=m4.2.2.1;obtain q4:=m4.2.2.2.1;obtain q5:=m4.2.2.2.2.1;obtain q6:=m4.2.2.2.2.2.1;obtain q7:=m4.2.2.2.2.2.2
  have TM:=N.iq h2 h4;refine⟨ob,es,ep,m,(hs.2 _ TM).trans q1,q2,q3,q4.sameBut hs TM,by rw[hO];exact q5,?_,fun z w hz hw=>?_⟩
  ·induction e:W'.Z e'.locals with
   |none=>rfl|some oa=>
    rcases Hx _ _ e with h|⟨h,_⟩
    ·rw[q6] at h;exact nE h
    ·exact absurd h TM
  ·have w9:z≠x:=by rintro rfl;rw[hk] at hz;exact nomatch hz
   rw[bJ,if_neg w9] at hw;obtain⟨t,ht,rt⟩:=q7 z w hz hw;exact⟨t,ht,rt.mono PP.le⟩
 ·intro z hz;by_cases w9:z=x
  ·subst w9;rw[bJ,if_pos rfl];refine⟨c,o',_,h1,g1,h3,g2,by rw[hO];exact h5,⟨y,rfl,r.mono PP.le⟩,?_⟩;by_cases zv:G.C.wo z=true
   ·rw[if_pos zv];show(if G.C.wo z=true then W.add c o' else W:Wd).Z c=_;rw[if_pos zv];exact Wd.aU ..
   ·rw[if_neg zv];show(if G.C.wo z=true then W.add c o' else W:Wd).Z c=_;rw[if_neg zv];exact TL
  ·refine(N.cells z hz).elim fun d Oj=>?_;refine Oj.elim fun od Ol=>?_;refine Ol.elim fun w pM=>?_;obtain q1:=pM.1;obtain q2:=pM.2.1;obtain q3:=pM.2.2.1;obtain q4:=pM.2.2.2.1;obtain q5:=pM.2.2.2.2.1;obtain q6:=pM.2.2.2.2.2
   have Rw:=bV z d (.inl hz) w9 q1;rw[bJ,if_neg w9];have zn:W.Z d=none→W'.Z d=none:=fun hn=>by
    induction e:W'.Z d with
    |none=>rfl|some oa=>
     rcases Hx _ _ e with h|⟨h,_⟩
     ·rw[hn] at h;exact nE h
     ·exact absurd h Rw
   refine⟨d,od,w,q1,(hs.2 d Rw).trans q2,q3,q4,by rw[hO];exact q5,?_⟩
   revert q6
   induction aS env z with
   |none=>exact zn|some t=>
    rintro⟨⟨a,e1,e2⟩,e3⟩;refine⟨⟨a,e1,e2.mono PP.le⟩,?_⟩;by_cases zv:G.C.wo z=true
    ·rw[if_pos zv] at e3⊢;exact hZ _ _ e3
    ·rw[if_neg zv] at e3⊢;exact zn e3
 ·intro z w hz Wj;have w9:z≠x:=by rintro rfl;rw[hk] at hz;exact nomatch hz
  rw[bJ,if_neg w9] at Wj;refine(N.frees z w hz Wj).elim fun d Om=>?_;refine Om.elim fun od Oo=>?_;refine Oo.elim fun t pN=>?_;obtain q1:=pN.1;obtain q2:=pN.2.1;obtain q4:=pN.2.2.1;obtain q5:=pN.2.2.2.1;obtain q8:=pN.2.2.2.2.1;obtain q6:=pN.2.2.2.2.2
  obtain Rw:=bV z d (.inr hz) w9 q1;refine⟨d,od,t,q1,(hs.2 d Rw).trans q2,q4,q5.mono PP.le,q8,?_⟩;rcases q6 with q6|⟨q6,q7,q9⟩
  ·exact .inl (hZ _ _ q6)
  ·exact .inr ⟨q6,by rw[hO];exact q7,q9⟩
end
section
variable{n:Nat}{A:Around}{E:Value→Shared→Prop}{W W':Wd}{H H':AH}{s s':Shared}{sc:Scope}{env:af}{e':Env}
theorem je(xs:Array Value)(n:Nat)(f:Array Value→Array Value):∃m,(gW xs n).mapSeq f=gW (f xs) m:=by exact⟨_,rfl⟩
theorem ku{l:Addr}{items:Array Value}{m:Nat}{k:Int}{t:Tok}{v:Value}{Q:Unit→Shared→Prop}(g:s.heap.get? l=some (gW items m))
  (h0:0≤k)(Oq:k<2^63)(hn:k<items.size)
  (hQ:∀h' m',h'.get? l=some (gW (items.setIfInBounds k.toNat v) m')→Heap.SameBut l s.heap h'→Q () {s with heap:=h'}):
  wpAny (model G.prog G.w) A (setItem (.ref l) (.int k t) v) Q E s:=by
 obtain hl:s.heap.IsList l items:=pF g;unfold setItem
 try with_reducible refine wpAny_holding ?_
 first|refine wpAny_bind (wpAny_pure ?_)|skip
 refine wpAny_bind (wpAny_sequenceKey hl.typeIs rfl ?_)
 refine wpAny_bind (wpAny_callSpecial?_slot (name:=Str.ofString "__setitem__") hl.typeIs slot_list_setitem
  (wpAny_call_entry slot_list_setitem hl.typeIs entry_list_setitem ?_ (args_list_setitem _ _ _)))
 refine(?_:wpAny _ _ (Builtin.List.listSubscript? (.int k t)>>=_) _ _ s);refine wpAny_bind (wpAny_listSubscript_int (fitsIndex_of h0 Oq) ?_);clear Oq;obtain⟨j,rfl⟩:=Int.eq_ofNat_of_zero_le h0;obtain hj:j<items.size:=by exact DA (nat_lit 17665586860289) ae hn
 obtain AY:items[j]?=some items[j]:=Array.getElem?_eq_getElem hj;refine wpAny_bind (wpAny_bind (wpAny_seqItemAt g rfl (wpAny_pure ?_)));refine AY▸?_;refine(je items m (·.setIfInBounds j v)).elim fun m' hm=>?_
 obtain Ot:(s.heap.update l (Obj.mapSeq (·.setIfInBounds j v))).get? l=some (gW (items.setIfInBounds j v) m'):=by exact hm▸(Heap.get?_update_self _ g rfl)
 refine wpAny_bind (wpAny_setSeqItemAt g rfl ?_)
 first
  |exact wpAny_bind (wpAny_pure (wpAny_pure ⟨.none,rfl,wpAny_pure (hQ _ _ Ot (Heap.SameBut.update ..))⟩))|exact wpAny_pure ⟨.none,rfl,wpAny_pure (hQ _ _ Ot (Heap.SameBut.update ..))⟩
theorem aA.set:∀{vs:List V} {xs:List Value} {v:V} {y:Value} (i:Nat),aA W vs xs→Rel W v y→aA W (vs.set i v) (xs.set i y)|[],[],aK,bA,gI,h,ux=>by trivial|v::vs,x::xs,aK,bA,0,h,r=>by exact⟨r,h.2⟩|v::vs,x::xs,aK,bA,i+1,h,r=>by exact⟨h.1,h.2.set i r⟩|[],aK::bA,gI,ux,Gd,h,We=>False.elim h|aK::bA,[],gI,ux,Gd,h,We=>False.elim h
theorem ah.one(S:aH W H s){k:Nat}{a:Addr}{o':az}{h':Heap}{tk:Nat}(hl:oO H k)(ha:W.φ k=some a)(hs:Heap.SameBut a s.heap h')(r:lK W h' a k o'):ah W H s aI W (H.set k o') {s with heap:=h',toks:=tk}:=.J5 S aI hl ha (Nat.le_of_eq hs.1.symm) (fun b c e bV=>(hs.2 b fun q=>bV (q▸S.ju k a ha)).trans e) r rfl rfl
theorem m5{o i v:V}{x j y:Value}{u:Unit}(h:jz o i v H=some (u,H'))(S:aH W H s)(ro:Rel W o x)(ri:Rel W i j)(rv:Rel W v y){Q:Unit→Shared→Prop}
  (kq:∀W' s',ah W H s aI W' H' s'→Q () s'):wpAny (model G.prog G.w) A (setItem x j y) Q E s:=by
 refine wm.el h ro fun k a ha h=>DN.el h ri (fun i t h=>bH h fun ob H₁ h1 h=>?_) fun z t hz h=>bH h fun ob H₁ h1 h=>?_
 ·obtain⟨Ou,hn,rfl⟩:=bO h1;induction ob with
  |lst vs=>
   obtain h:(match jc vs i v with |some ys=>fQ k (.lst ys)|none=>M.fail:M Unit) H₁=some (u,H'):=h;induction hs:jc vs i v with
   |none=>obtain h:=hs▸h;exact nE h
   |some ys=>
    simp only[hs] at h;cases bY h;obtain hs:(if decide (0≤i)=true then(cB vs.length i).map fun k=>vs.set k v else none)=some ys:=hs;by_cases h0:0≤i
    ·rw[if_pos (decide_eq_true h0)] at hs;obtain⟨q,hq,rfl⟩:=gf hs;obtain hb:=eF hq;obtain⟨m,xs,g,hl,r⟩:=S.at Ou ha;obtain h3:(if(decide (0≤(if i<0 then i+(vs.length:Int) else i))&&decide ((if i<0 then i+(vs.length:Int) else i)<vs.length))=true then some (if i<0 then i+(vs.length:Int) else i).toNat else none)=some q:=hb.2.2;rw[if_neg (Int.not_lt.mpr h0)] at h3;refine j_ h3 fun hc e=>ku g h0 hb.2.1 ((show vs.length=xs.size from r.length)▸of_decide_eq_true (aW hc).2) fun h' m' g' zu=>?_
     subst e;exact kq W _ (.one (o':=.lst (vs.set i.toNat v)) S hn ha zu ⟨m',_,g',by rw[List.length_set];exact hl,by simp only[Array.toList_setIfInBounds];exact r.set i.toNat rv⟩)
    ·rw[if_neg fun q=>h0 (of_decide_eq_true q)] at hs;exact nE hs
  |_=>exact nE h
 ·obtain⟨Ou,hn,rfl⟩:=bO h1;induction ob with
  |aF kvs=>
   refine zL h fun hc h=>?_
   cases bY h;obtain⟨m,es,g,hm,nd,hl,r⟩:=S.at Ou ha;obtain⟨ps,D,rp⟩:=dM g nd r;refine wpAny_setItem_pairs (hsz:=rp.length▸br hl) (strKind_is _ _ _ _) D fun h' D' hs=>?_
   refine(kc D' (rp.D6 hz rv (rp.keys▸nd))).elim fun JJ TN=>?_;refine TN.elim fun m' J6=>?_;obtain g':=J6.1;obtain Ov:=J6.2.1;obtain r':=J6.2.2
   exact kq W _ (.one (o':=.aF (aP kvs z v)) S hn ha hs ⟨m',JJ,g',hm,Ov,Nat.lt_of_le_of_lt (cC kvs z v) (ck hc),r'⟩)
  |_=>exact nE h
end
section
variable{n:Nat}{A:Around}{E:Value→Shared→Prop}{W W':Wd}{H H':AH}{s s':Shared}{sc:Scope}{env:af}{e':Env}
theorem m6{a b v:V}{x y:Value}(h:jx a b=some v)(S:aH W H s)(ra:Rel W a x)(rb:Rel W b y):
  wpAny (model G.prog G.w) A (inplaceOp .Add x y) (fun z=>aT W H s aI H fun W' c=>Rel W' v z) E s:=by
 cases a with
 |int i=>obtain⟨t,rfl⟩:=ra;exact aB.el h rb fun j u h=>Option.some.inj h▸AutoIntOps.iadd_0 (bW S)
 |str p=>obtain⟨_,t,rfl⟩:=ra;exact onStr.el h rb fun q u c h=>j_ h fun hs h=>have hz:=ck hs;h▸PyProof.Rows.iadd_str (fun t' tk=>dZ S (strLen_append ..▸hz)) (br hz)
 |_=>exact nE h
theorem ak.congr{aj:af}(N:ak sc env e' W s)(h:∀x,aS env x=aS aj x):ak sc aj e' W s:=by
 refine⟨N.kind,N.globals,N.builtins,N.code,N.kinds,?_,?_,?_,N.inj⟩
 ·refine N.locals.elim fun o Yt=>?_;refine Yt.elim fun es Yu=>?_;refine Yu.elim fun ep Yv=>?_;refine Yv.elim fun m Ea=>?_;obtain h1:=Ea.1;obtain h2:=Ea.2.1;obtain h3:=Ea.2.2.1;obtain h4:=Ea.2.2.2.1;obtain h5:=Ea.2.2.2.2.1;obtain h6:=Ea.2.2.2.2.2.1;obtain h7:=Ea.2.2.2.2.2.2
  exact⟨o,es,ep,m,h1,h2,h3,h4,h5,h6,fun x v hk hv=>h7 x v hk (by rw[h];exact hv)⟩
 ·intro x hx;refine(N.cells x hx).elim fun c TP=>?_;refine TP.elim fun o J0=>?_;refine J0.elim fun u qM=>?_;obtain h1:=qM.1;obtain h2:=qM.2.1;obtain h3:=qM.2.2.1;obtain h4:=qM.2.2.2.1;obtain h5:=qM.2.2.2.2.1;obtain h6:=qM.2.2.2.2.2
  rw[h] at h6;exact⟨c,o,u,h1,h2,h3,h4,h5,h6⟩
 ·intro x v hx hv;exact N.frees x v hx (by rw[h];exact hv)
theorem pO(N:ak sc env e' W s){x:Str}(h:e'.kindOf x=some .local)(h':kindOf sc x=some .local∨kindOf sc x=some .cell):kindOf sc x=some .local:=by
 rcases h' with h'|h'
 ·exact h'
 ·rcases N.kinds x _ h' (by decide) with h1|⟨h1,_⟩
  ·rw[h] at h1;exact nomatch h1
  ·exact nomatch h1
theorem yv{L:List (Str×V)}{env:af}{W:Wd}{s:Shared}{xs:List Value}(S:aH W H s)(N:ak sc env e' W s)(r:aA W (L.map (·.2)) xs)(hl:∀p∈L,kindOf sc p.1=some .local):
  wpAny (model G.prog G.w) A (assignInOrder (L.map fun p=>bindName e' p.1) xs) (fun a=>aT W H s (bI sc e') H fun W' s'=>ak sc (L.foldl (fun env p=>aP env p.1 p.2) env) e' W' s') E s:=by
 induction L generalizing env W s xs with |nil=>exact wpAny_pure ⟨W,.refl S,N⟩|cons p L ih=>induction xs with |nil=>exact r.elim|cons x xs=>refine wpAny_bind (wpAny_holding (wpAny_bindName (wpAny_mono (fj S N (hl _ (.head _)) r.1) (fun a s₁ z=>z.elim fun W₁ z=>?_) fun a a e=>e)));exact yc S z.1 (ih z.1.sim z.2 (r.2.mono z.1.le) fun p hp=>hl p (.tail _ hp)) (fun a h=>h)
theorem foldl_look:∀{L:List (Str×V)} {env:af} (z:Str),(L.map (·.1)).Nodup→aS (L.foldl (fun env p=>aP env p.1 p.2) env) z=match L.lookup z with |some v=>some v|none=>aS env z
|[],env,z,aK=>rfl|(y,v)::L,env,z,nd=>by
 simp only[List.map_cons,List.nodup_cons] at nd;simp only[List.foldl_cons,foldl_look z nd.2,List.lookup_cons];by_cases h:z=y
 ·subst h
  have :L.lookup z=none:=by
   rw[List.lookup_eq_none_iff];intro p hp;have :p.1≠z:=fun e=>nd.1 (e▸List.mem_map_of_mem hp)
   simpa using fun e=>this e.symm
  refine this▸?_;simp[bJ]
 ·obtain h':(z==y)=false:=by simpa using h
  simp only[h',bJ,if_neg h]
theorem m7{L:List (Str×V)}(nd:(L.map (·.1)).Nodup)(z:Str):L.reverse.lookup z=L.lookup z:=by
 obtain Ov:(L.reverse.map (·.1)).Nodup:=by rw[List.map_reverse];exact List.pairwise_reverse.mpr (List.Pairwise.imp (fun h=>Ne.symm h) nd)
 induction h:L.lookup z with |none=>rw[List.lookup_eq_none_iff] at h⊢;intro p hp;exact h p (List.mem_reverse.mp hp)|some v=>exact c9 Ov (List.mem_reverse.mpr (mem_of_lookup h))
set_option tactic.hygienic true in
theorem sO{t v:Expr}{l:Nat}:∃b,swapsWith v (some t) l e'=pure b∧(b=true→gq v=true∧∃y p,t=.Name y p∧e'.kindOf y=some .local):=by
 unfold swapsWith;split
 ·rename_i scope sJ;obtain hc:gq v=true:=by induction v using Expr.casesOn<;>first|rfl|exact nE sJ
  induction t using Expr.casesOn with |Name y p=>refine⟨_,rfl,fun hb=>⟨hc,y,p,rfl,?_⟩⟩;simp only[Bool.and_eq_true] at hb;simpa using hb.1.1.2|_=>exact⟨false,rfl,fun h=>bE h⟩
 ·exact⟨false,rfl,fun h=>bE h⟩
theorem aA.reverse{vs:List V}{xs:List Value}(h:aA W vs xs):aA W vs.reverse xs.reverse:=by
 induction vs generalizing xs with
 |nil=>induction xs with |nil=>exact h|cons _ _=>exact False.elim h
 |cons v vs ih=>induction xs with |nil=>exact False.elim h|cons x xs=>simp only[List.reverse_cons,List.reverse_cons];exact(ih h.2).append (by exact⟨h.1,trivial⟩)
noncomputable def dP(e':Env)(line:Nat):Expr→Option Str
|.Name x pos=>if e'.kindOf x==some .local&&pos.line==line then some x else none
|_=>none
set_option tactic.hygienic true in
theorem qP{t v:Expr}(hc:mD t v=false):swappedStores [t] v e'=pure none∨∃ts k p line,t=.Tuple ts k p∧swappedStores [t] v e'=pure (some (ts.filterMap (dP e' line)))∧(ts.filterMap (dP e' line)).length=ts.length∧(ts.filterMap (dP e' line)).eraseDups.length=(ts.filterMap (dP e' line)).length:=by
 induction t using Expr.casesOn with
 |Tuple ts k p=>
  induction v using Expr.casesOn with
  |Tuple vs k' p'=>
   have hc:(vs.all (constantsAlone 8)&&!vs.all (foldedForSure 8))=false:=hc
   obtain e:swappedStores [.Tuple ts k p] (.Tuple vs k' p') e'=(do
    if !(ts.length==2||ts.length==3)||vs.length !=ts.length||e'.blockKind !=.function then return none
    if vs.any fun |.Starred ..=>true|_=>false then return none
    let names:=ts.filterMap (dP e' ((ts.head?.map (·.pos.line)).getD 0))
    if names.length !=ts.length||names.eraseDups.length !=names.length then return none
    if vs.all (foldedForSure 8) then return none
    if vs.all (constantsAlone 8) then unsupported "assign.tuple-of-constant-expressions:order-of-the-stores"
    return some names):=rfl
   refine e▸?_;split
   ·exact .inl rfl
   ·split
    ·exact .inl rfl
    ·dsimp only;split
     ·exact .inl rfl
     ·rename_i h3;split
      ·exact .inl rfl
      ·rename_i h4;split
       ·rename_i h5;rw[h5] at hc;rw[Bool.not_eq_true] at h4;rw[h4] at hc;exact nomatch hc
       ·refine .inr ⟨ts,k,p,_,rfl,rfl,?_⟩;simp only[Bool.or_eq_true,bne_iff_ne,ne_eq,not_or,Decidable.not_not] at h3;exact h3
  |_=>exact .inl rfl
 |List ts p=>exact nomatch (show true=false from hc)|_=>exact .inl rfl
end
section
variable{n:Nat}{A:Around}{E:Value→Shared→Prop}{W W':Wd}{H H':AH}{s s':Shared}{sc:Scope}{env:af}{e':Env}
theorem qQ{line:Nat}{t:Expr}{x:Str}(h:dP e' line t=some x):(∃p,t=.Name x p)∧e'.kindOf x=some .local:=by
 induction t using Expr.casesOn with
 |Name y p=>
  have h:(if(e'.kindOf y==some .local&&p.line==line)=true then some y else none)=some x:=h;by_cases hc:(e'.kindOf y==some .local&&p.line==line)=true
  ·rw[if_pos hc] at h;obtain rfl:=Option.some.inj h;exact⟨⟨p,rfl⟩,eq_of_beq (aW hc).1⟩
  ·rw[if_neg hc] at h;exact nE h
 |_=>exact nE h
theorem jf:∀{l:List Str},l.eraseDups.length=l.length→l.Nodup:=by
 intro l;induction hn:l.length using Nat.strongRecOn generalizing l with
 |_ m ih=>
  intro h;induction l with
  |nil=>exact List.nodup_nil|cons x l=>
   rw[List.eraseDups_cons] at h;simp only[List.length_cons] at h hn;have h1:(l.filter fun b=>!b==x).eraseDups.length≤(l.filter fun b=>!b==x).length:=by
    have :∀(k:Nat) (l:List Str),l.length≤k→l.eraseDups.length≤l.length:=by
     intro k;induction k with
     |zero=>intro l hl;have :l=[]:=List.length_eq_zero_iff.mp (aV (nat_lit 9905546199313) ae hl);subst this;simp |succ k ih=>
      intro l hl;induction l with
      |nil=>simp |cons y l=>
       rw[List.eraseDups_cons];simp only[List.length_cons] at hl⊢;have h2:=List.length_filter_le (fun b=>!b==y) l
       have h3:=ih (l.filter fun b=>!b==y) (aQ (nat_lit 0x20011928191801100102) ae h2 hl);exact aQ (nat_lit 0x19281908012101100102) ae h3 h2
    exact this _ _ (Nat.le_refl _)
   have h2:=List.length_filter_le (fun b=>!b==x) l;have h3:(l.filter fun b=>!b==x).length=l.length:=by exact gS (nat_lit 0x1025020431928243191834100114) ae h2 hn h h1
   have h4:=List.length_filter_eq_length_iff.mp h3;have h5:l.filter (fun b=>!b==x)=l:=List.filter_eq_self.mpr h4
   rw[h5] at h;refine List.nodup_cons.mpr ⟨fun hm=>?_,ih l.length (aE (nat_lit 282647922745601) ae hn) rfl (aQ (nat_lit 0x20251192835119082512) ae h hn)⟩;have :=h4 x hm
   simp at this
end
section
variable{A:Around}{E:Value→Shared→Prop}{W W':Wd}{H H':AH}{s s':Shared}{X:Addr→Prop}
theorem ah.back{k:Nat}{o:az}{a:Addr}(S:aH W H s)(P:ah W (H.set k .gone) s X W' H' s')(ho:H[k]?=some o)(hl:oO H k)(ha:W.φ k=some a)(O':lK W' s'.heap a k o)
  (hx:∀b,X b→W.own b≠some k):ah W H s X W' (H'.set k o) s':=by
 have bL:k<H.length:=(cV ho).1;have hg:(H.set k .gone)[k]?=some az.gone:=List.getElem?_set_self bL
 have hlen:H.length≤H'.length:=by obtain this:=P.len;rwa [List.length_set] at this
 have Ow:∀b,W'.own b=some k→W.own b=some k:=fun b h=>(P.Dz b k h).resolve_right fun q=>q.2 hg
 have hz:∀b,W'.own b=some k→W'.Z b=none:=fun b h=>by
  induction e:W'.Z b with
  |none=>rfl|some ob=>
   obtain hb:=Ow b h;rcases P.wO b ob e with h1|h1|⟨j,h1,h2⟩|h1
   ·rw[S.sr b k hb hl] at h1;exact nE h1
   ·exact absurd (S.b9 b k hb).2 (Nat.not_lt_of_le h1)
   ·rw[hb] at h1;obtain rfl:=Option.some.inj h1;obtain⟨q,hq,hn⟩:=h2;rw[hg] at hq;obtain rfl:=Option.some.inj hq;exact hn.elim
   ·exact absurd hb (hx b h1)
 have lv:∀j,oO (H.set k .gone) j→oO H j:=fun j ⟨q,hq,hn⟩=>by
  rcases c_ hq with ⟨_,rfl⟩|⟨_,hq⟩
  ·exact hn.elim
  ·exact⟨q,hq,hn⟩
 refine⟨⟨P.sim.z,P.sim.ju,fun b j h=>⟨by rw[List.length_set];exact(P.sim.b9 b j h).1,(P.sim.b9 b j h).2⟩,fun b j h N_=>?_,fun j q hq=>?_,P.sim.tab,P.sim.base⟩,P.le,P.wN,fun b j h=>?_,fun b ob h=>?_,fun b ob h hn hd hX=>P.keep b ob h hn (fun j hj N_=>hd j hj (lv j N_)) hX,P.cl,fun j hj=>?_,by rw[List.length_set];exact hlen,P.size,P.os,P.gens⟩
 ·by_cases hj:j=k
  ·cases hj;exact hz b h
  ·obtain⟨q,hq,hn⟩:=N_;rw[List.getElem?_set_ne (Ne.symm hj)] at hq;exact P.sim.sr b j h ⟨q,hq,hn⟩
 ·rcases eM hq with ⟨rfl,rfl,_⟩|⟨_,hq⟩
  ·exact⟨a,P.le.φ _ _ ha,O'⟩
  ·exact P.sim.obj j q hq
 ·rcases P.Dz b j h with h1|⟨h1,h2⟩
  ·exact .inl h1
  ·refine .inr ⟨h1,fun e=>h2 ?_⟩;by_cases hj:k=j
   ·subst hj;exact hg
   ·refine(List.getElem?_set_ne hj).trans ?_;exact e
 ·exact(P.wO b ob h).imp id (Or.imp id (Or.imp (fun⟨j,h1,h2⟩=>⟨j,h1,lv j h2⟩) id))
 ·obtain bV:k≠j:=fun e=>by
   subst e;obtain⟨q,hq,hn⟩:=hl;rw[hj] at hq;obtain rfl:=Option.some.inj hq;exact hn
  refine(List.getElem?_set_ne bV).trans ?_;exact P.gone j (by refine(List.getElem?_set_ne bV).trans ?_;exact hj)
end
section
variable{n:Nat}{A:Around}{E:Value→Shared→Prop}{W W':Wd}{H H':AH}{s s':Shared}{sc:Scope}{env:af}{e':Env}
def b_(W:Wd)(a:Addr):Prop:=W.own a=none∧W.Z a=none∧¬G.fg a
def bB(W:Wd)(s:Shared)(a:Addr):Prop:=b_ W a∧∃o vs,s.heap.get? a=some o∧o.data=.fields vs
def dQ(D:Addr→Prop)(P:Heap→Prop):Prop:=∀h h':Heap,P h→(∀a o,D a→h.get? a=some o→h'.get? a=some o)→P h'
def ir(t:Expr)(it:Value)(IA D:Addr→Prop)(W₀:Wd):List V→(Heap→Prop)→Prop|[],P=>∀{A:Around} {E:Value→Shared→Prop} {Q:Option Value→Shared→Prop} {s:Shared},A.handled=none→P s.heap→(∀h' tk,s.heap.objs.size≤h'.objs.size→(∀b o,¬IA b→s.heap.get? b=some o→h'.get? b=some o)→Q none {s with heap:=h',toks:=tk})→wpAny (model G.prog G.w) A (pyNext it) Q E s|x::xs,P=>∃P':Heap→Prop,dQ (fun a=>IA a∨D a) P'∧ir t it IA D W₀ xs P'∧∀{A:Around} {E:Value→Shared→Prop} {H:AH} {W:Wd} {s:Shared},W₀.Le W→aH W H s→(∀a,IA a→bB W s a)→A.handled=none→P s.heap→wpAny (model G.prog G.w) A (pyNext it) (fun r s₁=>∃y,r=some y∧∀{E':Value→Shared→Prop},wpAny (model G.prog G.w) A (letOwnedTupleGo t it y) (fun c s'=>∃W',ah W H s IA W' H s'∧(∀a,IA a→bB W' s' a)∧Rel W' x y∧P' s'.heap) E' s₁) E s
theorem b_.post{X:Addr→Prop}(P:ah W H s X W' H' s'){a:Addr}(f:b_ W a)(bL:a<s.heap.objs.size)(hx:¬X a):b_ W' a:=by
 obtain h1:=f.1;obtain h2:=f.2.1;obtain h3:=f.2.2;refine⟨?_,?_,h3⟩
 ·induction e:W'.own a with
  |none=>rfl|some k=>
   rcases P.Dz a k e with h|⟨h,_⟩
   ·rw[h1] at h;exact nE h
   ·exact absurd bL (Nat.not_lt_of_le h)
 ·induction e:W'.Z a with
  |none=>rfl|some o=>
   rcases P.wO a o e with h|h|⟨k,h,_⟩|h
   ·rw[h2] at h;exact nE h
   ·exact absurd bL (Nat.not_lt_of_le h)
   ·rw[h1] at h;exact nE h
   ·exact absurd h hx
def Still(W:Wd)(H:AH)(s:Shared)(X:Addr→Prop)(a:Addr):Prop:=(∃o,s.heap.get? a=some o)∧¬G.fg a∧(∀k,W.own a=some k→¬oO H k)∧¬X a
theorem Still.post{X:Addr→Prop}{a:Addr}(S:aH W H s)(P:ah W H s X W' H' s')(f:Still W H s X a):Still W' H' s' X a∧∀o,s.heap.get? a=some o→s'.heap.get? a=some o:=by
 obtain D_:=f.1;obtain h1:=f.2.1;obtain h2:=f.2.2.1;obtain h3:=f.2.2.2;refine D_.elim fun o ho=>?_
 exact⟨⟨⟨o,P.keep a o ho h1 h2 h3⟩,h1,P.dead S (Heap.lt_size ho) h2,h3⟩,fun o ho=>P.keep a o ho h1 h2 h3⟩
theorem ah.free(S:aH W H s){IA:Addr→Prop}(hf:∀a,IA a→b_ W a)(hk:∀b o,¬IA b→s.heap.get? b=some o→s'.heap.get? b=some o)(hsz:s.heap.objs.size≤s'.heap.objs.size)(rP:s'.os=s.os)(hg:s'.gens=s.gens):
  ah W H s IA W H s':=by
 have zi:∀a o,W.Z a=some o→¬IA a:=fun a o h hi=>by rw[(hf a hi).2.1] at h;exact nE h
 have oi:∀a k,W.own a=some k→¬IA a:=fun a k h hi=>by rw[(hf a hi).1] at h;exact nE h
 refine⟨⟨fun a o h=>hk a o (zi a o h) (S.z a o h),S.ju,fun a k h=>⟨(S.b9 a k h).1,Nat.lt_of_lt_of_le (S.b9 a k h).2 hsz⟩,S.sr,fun k o h=>?_,fun c P q hm=>?_,S.base⟩,.refl W,fun d d h=>h,fun d d h=>.inl h,fun d d h=>.inl h,fun a o h hn hd hx=>hk a o hx h,fun a ps ht h=>⟨#[],by exact hk a _ (fun hi=>(hf a hi).2.2 ht) h⟩,fun d h=>h,Nat.le_refl _,hsz,rP,hg⟩
 ·obtain⟨a,h1,h2⟩:=S.obj k o h;exact⟨a,h1,h2.keeps (.refl W) (fun d h=>h) (fun o e=>hk a o (oi a k (S.ju k a h1)) e) fun b o hb e=>hk b o (oi b k hb) e⟩
 ·obtain⟨h1,⟨oc,h0⟩,h2,mS,ps,h3,h4,h5⟩:=S.tab c P q hm;refine⟨?_,⟨oc,h0⟩,h2,mS,ps,hk P _ (fun hi=>(hf P hi).2.2 ⟨c,q,hm⟩) h3,h4,h5⟩;obtain⟨o,vs,file,tf,flags,tg,J4,text,tt,e,r⟩:=h1;exact⟨o,vs,file,tf,flags,tg,J4,text,tt,hk c o (zi c oc h0) e,r⟩
theorem bB.post{X:Addr→Prop}(P:ah W H s X W' H' s'){a:Addr}(f:bB W s a)(hx:¬X a):bB W' s' a:=by obtain⟨f,o,vs,ho,hd⟩:=f;exact⟨f.post P (Heap.lt_size ho) hx,o,vs,P.keep a o ho f.2.2 (fun k h=>by rw[f.1] at h;exact nE h) hx,hd⟩
theorem bB.keep{X:Addr→Prop}(P:ah W H s X W' H' s'){a:Addr}(f:bB W s a)(hx:¬X a){o:Obj}(ho:s.heap.get? a=some o):s'.heap.get? a=some o:=P.keep a o ho f.1.2.2 (fun k h=>by rw[f.1.1] at h;exact nE h) hx
theorem bB.apart(N:ak sc env e' W s){a:Addr}(f:bB W s a):a≠e'.locals∧∀y,(kindOf sc y=some .cell∨(kindOf sc y=some .free∧(aS env y).isSome=true))→e'.cells.lookup y≠some a:=by
 obtain⟨f,o,vs,ho,hd⟩:=f;refine⟨?_,fun y hy hl=>?_⟩
 ·rintro rfl;obtain⟨o',es,ep,m,h1,h2,h3,_⟩:=N.locals;rw[ho] at h1;obtain rfl:=Option.some.inj h1;rw[hd] at h3;cases h3
 ·rcases hy with hy|⟨hy,hb⟩
  ·obtain⟨c,oc,u,h1,h2,h3,h4,_⟩:=N.cells y hy;rw[hl] at h1;obtain rfl:=Option.some.inj h1;rw[ho] at h2;obtain rfl:=Option.some.inj h2;rw[hd] at h4;exact nomatch h4
  ·obtain⟨v,hv⟩:=mh hb;obtain⟨c,oc,z,h1,h2,h4,_⟩:=N.frees y v hy hv;rw[hl] at h1;obtain rfl:=Option.some.inj h1;rw[ho] at h2;obtain rfl:=Option.some.inj h2;rw[hd] at h4;exact nomatch h4
theorem bB.fM(N:ak sc env e' W s){a:Addr}(f:bB W s a):¬bI sc e' a:=fun ho=>by
 rcases ho with ho|⟨x,h1,h2⟩
 ·exact(f.apart N).1 ho
 ·exact(f.apart N).2 x (.inl h1) h2
end
section
variable{n:Nat}{A:Around}{E:Value→Shared→Prop}{W W':Wd}{H H':AH}{s s':Shared}{sc:Scope}{env:af}{e':Env}
noncomputable def w_(T:String):Bool:=["enumerate","zip","dict_itemiterator","dict_reverseitemiterator","odict_iterator","itertools.zip_longest","itertools.pairwise"].contains T
theorem ly{M:Model}{t:Expr}{I:Addr}{o:Obj}{T:String}{y:Value}{Q:Unit→Shared→Prop}(ho:s.heap.get? I=some o)(hc:o.cls=.type T)(hT:w_ T=false)(h:Q () s):
  wpAny M A (letOwnedTupleGo t (.ref I) y) Q E s:=by
 have main:∀(a:Addr),wpAny M A (do
   let o←load I
   match o.cls,o.data with
   |.type n,.fields vs=>
    if ["enumerate","zip","dict_itemiterator","dict_reverseitemiterator","odict_iterator","itertools.zip_longest","itertools.pairwise"].contains n&&vs[0]?==some (rawInt a) then
     rule "for.unpacks-the-owned-tuple"
     updateField I 0 .none
   |aK,bA=>pure ():Sem Unit) Q E s:=by
  intro a;refine wpAny_bind (wpAny_load ho ?_);refine hc▸?_;unfold w_ at hT
  induction hd:o.data<;>first
   |exact wpAny_pure h|(dsimp only;refine hT▸?_;exact wpAny_pure h)
 induction t using Expr.casesOn<;>first
  |exact wpAny_pure h|(induction y<;>first
    |exact wpAny_pure h|exact main _)
structure Iter(t:Expr)(it:Value)(IA D:Addr→Prop)(W₀:Wd)(xs:List V)(P:Heap→Prop):Prop where
 A_:ir t it IA D W₀ xs P
 oR:dQ (fun a=>IA a∨D a) P
 self:∀{A:Around} {E:Value→Shared→Prop} {Q:Value→Shared→Prop} {s:Shared},A.handled=none→P s.heap→Q it s→wpAny (model G.prog G.w) A (pyIter it) Q E s
theorem sP{t:Expr}{W₀:Wd}{I:Addr}{fp:List Addr}{m:Nat}{Pv:Nat→Value→Prop}{St:Nat→Heap→Prop}(Wk:∀A:Around,A.handled=none→Walks G.prog G.w A I fp [I] m Pv St)
  (hI:∀i h,St i h→∃o T vs,h.get? I=some o∧o.cls=.type T∧w_ T=false∧o.data=.fields vs){vs:List V}(hm:vs.length=m)(lO:∀i x v,vs[i]?=some x→Pv i v→∀W,W₀.Le W→Rel W x v):
  ∀(k i:Nat),m-i=k→i≤m→ir t (.ref I) (fun a=>a=I) (fun a=>a∈fp∧a≠I) W₀ (vs.drop i) (St i):=by
 obtain oR:∀i,dQ (fun a=>a=I∨a∈fp∧a≠I) (St i):=fun i h h' st hk=>(Wk {} rfl).frame i h h' st fun b hb o e=>hk b o (by
  by_cases Ba:b=I
  ·exact .inl Ba
  ·exact .inr ⟨hb,Ba⟩) e
 intro k;induction k with
 |zero=>
  intro i hk hi;obtain m8:i=m:=by exact aQ (nat_lit 0x102509234028104100113) ae hi (Ln.aN (m) (i)) hk
  subst m8;rw[List.drop_of_length_le (by exact aE (nat_lit 68737310977) ae hm)];intro A E Q s hA st hQ;exact bG ((Wk A hA).done s _ E st fun h' tk Hy hsz=>hQ h' tk hsz fun b o hb e=>Hy b o (by simpa using hb) e)
 |succ k ih=>
  intro i hk hi;have bL:i<vs.length:=by exact uv (nat_lit 0x24111918031323134082103) ae (Nat.sub_add_cancel (aE (nat_lit 68737302785) ae hi:i≤m)) hm hk
  rw[List.drop_eq_getElem_cons bL];refine⟨St (i+1),oR _,ih (i+1) (by grind) (aQ (nat_lit 0x21908012121101102) ae bL hm),fun{A E H W s} hL S Ed hA st=>?_⟩;refine bG ((Wk A hA).item i s _ E (by simp_all) st fun v h' tk hP Hz Hy hsz=>⟨v,rfl,fun{E'}=>?_⟩);refine(hI _ _ Hz).elim fun o D_=>?_;refine D_.elim fun T Ox=>?_;refine Ox.elim fun qL DG=>?_;obtain ho:=DG.1;obtain hc:=DG.2.1;obtain hT:=DG.2.2.1;obtain hd:=DG.2.2.2
  refine ly ho hc hT ?_;obtain PP:ah W H s (fun a=>a=I) W H {s with heap:=h',toks:=tk}:=ah.free S (fun a ha=>(Ed a ha).1) (fun b o hb e=>Hy b o (by simpa using hb) e) hsz rfl rfl;exact⟨W,PP,fun a ha=>⟨(Ed a ha).1,o,qL,by rw[ha];exact ho,hd⟩,lO i _ v (List.getElem?_eq_getElem bL) hP W hL,Hz⟩
theorem cQ{t:Expr}{W₀:Wd}{I:Addr}{fp:List Addr}{m:Nat}{Pv:Nat→Value→Prop}{St:Nat→Heap→Prop}(Wk:∀A:Around,A.handled=none→Walks G.prog G.w A I fp [I] m Pv St)
  (hI:∀i h,St i h→∃o T vs,h.get? I=some o∧o.cls=.type T∧w_ T=false∧o.data=.fields vs){vs:List V}(hm:vs.length=m)(lO:∀i x v,vs[i]?=some x→Pv i v→∀W,W₀.Le W→Rel W x v):
  Iter t (.ref I) (fun a=>a=I) (fun a=>a∈fp∧a≠I) W₀ vs (St 0):=
 ⟨sP Wk hI hm lO m 0 rfl (aV (nat_lit 590080) ae),fun h h' st hk=>(Wk {} rfl).frame 0 h h' st fun b hb o e=>hk b o (by
  by_cases Ba:b=I
  ·exact .inl Ba
  ·exact .inr ⟨hb,Ba⟩) e,fun hA st hQ=>(Wk _ hA).self 0 _ _ _ st hQ⟩
def SrcAt(W:Wd)(H:AH)(s:Shared)(a:Addr):Prop:=(∃o,s.heap.get? a=some o∧∀y,o.data≠.cell y)∧((∃k,W.own a=some k∧H[k]?=some az.gone)∨∃o,W.Z a=some o)
theorem SrcAt.Bb{a:Addr}(S:aH W H s)(x:SrcAt W H s a){X:Addr→Prop}(hX:¬X a):Still W H s X a:=by
 obtain⟨⟨o,ho,_⟩,h⟩:=x;refine⟨⟨o,ho⟩,fun⟨c,q,hm⟩=>?_,fun k hk hl=>?_,hX⟩
 ·obtain⟨_,_,hz,hw,_⟩:=S.tab c a q hm;rcases h with ⟨k,h,_⟩|⟨o,h⟩
  ·rw[hw] at h;exact nE h
  ·rw[hz] at h;exact nE h
 ·rcases h with ⟨j,h,hg⟩|⟨o',h⟩
  ·rw[h] at hk;obtain rfl:=Option.some.inj hk;obtain⟨q,hq,hn⟩:=hl;rw[hg] at hq;obtain rfl:=Option.some.inj hq;exact hn
  ·rw[S.sr a k hk hl] at h;exact nE h
theorem SrcAt.fM{a:Addr}(N:ak sc env e' W s)(x:SrcAt W H s a):¬bI sc e' a:=by
 obtain⟨⟨o,ho,hd⟩,h⟩:=x;rintro(rfl|⟨y,hy,hl⟩)
 ·refine N.locals.elim fun Yw TQ=>?_;refine TQ.elim fun Yx TR=>?_;refine TR.elim fun Yy TS=>?_;refine TS.elim fun NT Oz=>?_;obtain hw:=Oz.2.2.2.2.1;obtain hz:=Oz.2.2.2.2.2.1
  rcases h with ⟨j,h,hg⟩|⟨o',h⟩
  ·rw[hw] at h;exact nE h
  ·rw[hz] at h;exact nE h
 ·obtain⟨c,oc,u,h1,h2,h3,h4,_⟩:=N.cells y hy;rw[hl] at h1;obtain rfl:=Option.some.inj h1;rw[ho] at h2;obtain rfl:=Option.some.inj h2;exact hd u h4
def Lock(W:Wd)(H:AH)(s:Shared)(back:Option (Nat×az))(H₁:AH):Prop:=(back=none∧H₁=H)∨∃k o a,back=some (k,o)∧H[k]?=some o∧oO H k∧W.φ k=some a∧H₁=H.set k .gone
theorem Lock.post{back:Option (Nat×az)}{H₁:AH}(S:aH W H s)(L:Lock W H s back H₁)(X:Addr→Prop):ah W H s X W H₁ s:=by
 rcases L with ⟨_,rfl⟩|⟨k,o,a,_,_,_,_,rfl⟩
 ·exact .refl S
 ·exact ah.N1 S X k
theorem Lock.back{back:Option (Nat×az)}{H₁ Hf:AH}{X:Addr→Prop}(S:aH W H s)(L:Lock W H s back H₁)(P:ah W H₁ s X W' H' s')(hX:∀b k,W.own b=some k→¬X b)
  (h:iJ back H'=some ((),Hf)):ah W H s X W' Hf s':=by
 rcases L with ⟨rfl,rfl⟩|⟨k,o,a,rfl,ho,hl,ha,rfl⟩
 ·obtain TU:=(aR h).2;subst TU;exact P
 ·obtain this:=bY h;subst this;have own:=S.ju k a ha
  have bL:k<H.length:=(cV ho).1;have dead:¬oO (H.set k .gone) k:=fun⟨q,hq,hn⟩=>by rw[List.getElem?_set_self bL] at hq;obtain rfl:=Option.some.inj hq;exact hn
  obtain nt:∀b,W.own b=some k→¬G.fg b:=fun b hb ⟨c,q,hm⟩=>by obtain⟨_,_,_,hw,_⟩:=S.tab c b q hm;rw[hw] at hb;exact nE hb
  have kp:∀b o,W.own b=some k→s.heap.get? b=some o→s'.heap.get? b=some o:=fun b o hb e=>P.keep b o e (nt b hb) (fun j hj=>by rw[hb] at hj;obtain rfl:=Option.some.inj hj;exact dead) (hX b k hb)
  exact ah.back S P ho hl ha ((S.at ho ha).keeps P.le (fun b hb=>P.wN b k hb) (fun o e=>kp a o own e) kp) fun b hb hk=>hX b k hk hb
end
section
variable{n:Nat}{A:Around}{E:Value→Shared→Prop}{W W':Wd}{H H':AH}{s s':Shared}{sc:Scope}{env:af}{e':Env}
inductive sQ(W:Wd)(H:AH)(s:Shared):Value→List V→Prop|lst(l:Addr)(ys:Array Value)(m:Nat)(xs:List V):s.heap.get? l=some (gW ys m)→xs.length<ai→aA W xs ys.toList→SrcAt W H s l→sQ W H s (.ref l) xs|tup(l:Addr)(ys:Array Value)(m:Nat)(xs:List V):s.heap.get? l=some (pC ys m)→xs.length<ai→aA W xs ys.toList→SrcAt W H s l→sQ W H s (.ref l) xs|str(x:Str)(t:Tok):x.length<ai→sQ W H s (.str x t) (x.cps.toList.map fun c=>.str ⟨#[c]⟩)|mj(r:Addr)(a b:Int)(t u v:Tok):IsRange s.heap r a b 1 t u v→Builtin.Range.small a b 1=true→sQ W H s (.ref r) ((List.range (b-a).toNat).map fun(i:Nat)=>.int (a+(i:Int)))|aF(d:Addr)(es:Array DictEntry)(m:Nat)(kvs:List (Str×V)):s.heap.get? d=some (cX es m)→d≠sysModules→(kvs.map (·.1)).Nodup→kvs.length<ai→Reld W kvs es.toList→SrcAt W H s d→sQ W H s (.ref d) (kvs.map fun kv=>.str kv.1)
theorem SrcAt.z{a:Addr}{o:Obj}(S:aH W H s)(h:W.Z a=some o)(hd:∀y,o.data≠.cell y):SrcAt W H s a:=⟨⟨o,S.z _ _ h,hd⟩,.inr ⟨o,h⟩⟩
theorem SrcAt.lock{a:Addr}{o:Obj}{k:Nat}(S:aH W H s)(hk:k<H.length)(ha:W.φ k=some a)(h:s.heap.get? a=some o)(hd:∀y,o.data≠.cell y):SrcAt W (H.set k .gone) s a:=⟨⟨o,h,hd⟩,.inl ⟨k,S.ju k a ha,List.getElem?_set_self hk⟩⟩
theorem sR{v:V}{x:Value}{xs:List V}{back:Option (Nat×az)}(h:srcOf v H=some ((xs,back),H'))(S:aH W H s)(r:Rel W v x):Lock W H s back H'∧sQ W H' s x xs:=by
 induction v using V.casesOn with
 |lst vs=>refine jA h ?_;obtain⟨a,m,ys,rfl,hz,hl,rs⟩:=r;exact⟨.inl ⟨rfl,rfl⟩,.lst a ys m _ (S.z _ _ hz) hl rs (.z S hz (by intro y e;cases e))⟩
 |tup vs=>refine jA h ?_;obtain⟨a,m,ys,rfl,hz,hl,rs⟩:=r;exact⟨.inl ⟨rfl,rfl⟩,.tup a ys m _ (S.z _ _ hz) hl rs (.z S hz (by intro y e;cases e))⟩
 |str y=>refine jA h ?_;obtain⟨hl,t,rfl⟩:=r;exact⟨.inl ⟨rfl,rfl⟩,.str _ _ hl⟩
 |mj a b=>refine jA h ?_;obtain⟨q,t,u,v,rfl,hz,hs⟩:=r;exact⟨.inl ⟨rfl,rfl⟩,.mj q a b t u v (S.z _ _ hz) hs⟩
 |aF kvs=>refine jA h ?_;obtain⟨a,m,es,rfl,hz,h0,nd,hl,rs⟩:=r;exact⟨.inl ⟨rfl,rfl⟩,.aF a es m _ (S.z _ _ hz) h0 nd hl rs (.z S hz (by intro y e;cases e))⟩
 |ref k=>
  refine bH h fun o H₁ h1 k1=>?_
  obtain⟨ho,hn,rfl⟩:=bO h1;obtain⟨a,rfl,ha⟩:=r;have O:=S.at ho ha
  have bL:=(cV ho).1;induction o with
  |lst vs=>
   refine bH k1 fun u H₂ h2 k2=>?_
   have :=bY h2;subst this;refine jA k2 ?_;obtain⟨m,ys,g,hl,rs⟩:=O;exact⟨.inr ⟨k,_,a,rfl,ho,hn,ha,rfl⟩,.lst a ys m _ g hl rs (.lock S bL ha g (by intro y e;cases e))⟩
  |aF kvs=>
   refine bH k1 fun u H₂ h2 k2=>?_
   have :=bY h2;subst this;refine jA k2 ?_;obtain⟨m,es,g,h0,nd,hl,rs⟩:=O;exact⟨.inr ⟨k,_,a,rfl,ho,hn,ha,rfl⟩,.aF a es m _ g h0 nd hl rs (.lock S bL ha g (by intro y e;cases e))⟩
  |_=>exact nE k1
 |_=>exact nE h
inductive lz(t:Expr)(it:Value)(W:Wd)(H:AH)(s₁:Shared)(n0:Nat)(xs:List V):Prop|mk(IA D:Addr→Prop)(P:Heap→Prop)(I:Iter t it IA D W xs P)(p:P s₁.heap)(h:∀a,IA a→bB W s₁ a∧n0≤a)(hD:∀a,D a→SrcAt W H s₁ a)
theorem SrcAt.push{a:Addr}(x:SrcAt W H s a)(o:Obj)(t:Nat):SrcAt W H {s with heap:=s.heap.push o,toks:=t} a:=by obtain⟨⟨q,hq,hd⟩,h⟩:=x;exact⟨⟨q,Heap.get?_push_of_some _ hq,hd⟩,h⟩
theorem bB.push(S:aH W H s){o:Obj}{vs:Array Value}(hd:o.data=.fields vs)(t:Nat):bB W {s with heap:=s.heap.push o,toks:=t} s.heap.objs.size:=⟨⟨S.cO (Nat.le_refl _),S.ic (Nat.le_refl _),S.fJ (Nat.le_refl _)⟩,o,vs,Heap.get?_push_size _ (Obj.isFreed_of_fields hd),hd⟩
theorem eE.get{kvs:List (Str×V)}{ps:List (Str×Value)}{i:Nat}{k:Str}{y:Value}(h:eE W kvs ps)(hx:ps[i]?=some (k,y)):∃v,kvs[i]?=some (k,v)∧k.length<ai∧Rel W v y:=by
 induction kvs generalizing ps i with
 |nil=>induction ps with |nil=>exact nE hx|cons _ _=>exact h.elim
 |cons a r ih=>induction ps with
  |nil=>exact h.elim|cons b r'=>induction i with
   |zero=>obtain hb:=Option.some.inj hx;subst hb;exact⟨a.2,congrArg some (Prod.ext h.1.symm rfl),h.1.symm▸h.2.1,h.2.2.1⟩
   |succ i=>exact ih h.2.2.2 hx
theorem rangeSize_one(a b:Int):((b-a).toNat:Int)=Builtin.Range.rangeSize a b 1:=by
 unfold Builtin.Range.rangeSize;obtain h1:(1:Int)>0:=by exact Iz.go (nat_lit 420057344) [] [] ae
 split<;>lia
theorem Ef{t:Expr}{x:Value}{xs:List V}(V:sQ W H s x xs)(S:aH W H s):
  wpAny (model G.prog G.w) A (pyIter x) (fun it s₁=>ah W H s aI W H s₁∧lz t it W H s₁ s.heap.objs.size xs) E s:=by
 obtain L4:∀{a:Addr} {o:Obj},s.heap.get? a=some o→a≠s.heap.objs.size:=fun h=>Nat.ne_of_lt (Heap.lt_size h)
 induction V with
 |lst l ys m xs g hl rs sa=>
  have bV:=L4 g;refine wpAny_pyIter_list (pF g) ⟨ah.fT S aI _,_,_,_,cQ (fun A hA=>Walks.list hA s.heap.objs.size l bV ys) (fun i h st=>?_) ?_ ?_,⟨⟨_,Heap.get?_push_size _ rfl,rfl,rfl⟩,_,Heap.get?_push_of_some _ g,rfl,m,rfl⟩,fun a ha=>?_,fun a ha=>?_⟩
  ·obtain⟨⟨o,ho,hc,hd⟩,_⟩:=st;exact⟨o,_,_,ho,hc,by decide,hd⟩
  ·have :=rs.length;simpa using this
  ·intro i x v hx hv W' L;obtain⟨y,hy,r⟩:=rs.get hx;rw[Array.getElem?_toList] at hy;rw[hy] at hv;cases hv;exact r.mono L
  ·cases ha;exact⟨bB.push S rfl s.toks,Nat.le_refl _⟩
  ·have :a=l:=by
    rcases bM ha.1 with h|h
    ·exact absurd h ha.2
    ·simpa using h
   subst this;exact sa.push _ s.toks
 |tup l ys m xs g hl rs sa=>
  have bV:=L4 g;refine wpAny_pyIter_tuple (DB g) ⟨ah.fT S aI _,_,_,_,cQ (fun A hA=>Walks.tuple hA s.heap.objs.size l bV ys) (fun i h st=>?_) ?_ ?_,⟨⟨_,Heap.get?_push_size _ rfl,rfl,rfl⟩,_,Heap.get?_push_of_some _ g,rfl,m,rfl⟩,fun a ha=>?_,fun a ha=>?_⟩
  ·obtain⟨⟨o,ho,hc,hd⟩,_⟩:=st;exact⟨o,_,_,ho,hc,by decide,hd⟩
  ·have :=rs.length;simpa using this
  ·intro i x v hx hv W' L;obtain⟨y,hy,r⟩:=rs.get hx;rw[Array.getElem?_toList] at hy;rw[hy] at hv;cases hv;exact r.mono L
  ·cases ha;exact⟨bB.push S rfl s.toks,Nat.le_refl _⟩
  ·have :a=l:=by
    rcases bM ha.1 with h|h
    ·exact absurd h ha.2
    ·simpa using h
   subst this;exact sa.push _ s.toks
 |str y tk hl=>
  have lO:∀(i:Nat) (x:V) (v:Value),(y.cps.toList.map fun c=>V.str ⟨#[c]⟩)[i]?=some x→SignAt y i v→∀W',W.Le W'→Rel W' x v:=by rintro i x v hx ⟨c,u,hc,rfl⟩ W' L;rw[List.getElem?_map,Array.getElem?_toList,hc] at hx;cases hx;exact⟨by show 1<ai;decide,u,rfl⟩
  induction ha:y.cps.all (·<128)
  ·refine wpAny_pyIter_wide ha ⟨ah.fT S aI _,_,_,_,cQ (fun A hA=>Walks.strWide hA s.heap.objs.size y tk) (fun i h st=>?_) (by simp) lO,⟨_,Heap.get?_push_size _ rfl,rfl,rfl⟩,fun a ha=>?_,fun a ha=>?_⟩
   ·obtain⟨o,ho,hc,hd⟩:=st;exact⟨o,_,_,ho,hc,by decide,hd⟩
   ·cases ha;exact⟨bB.push S rfl s.toks,Nat.le_refl _⟩
   ·exact absurd (by simpa using ha.1) ha.2
  ·refine wpAny_pyIter_ascii ha ⟨ah.fT S aI _,_,_,_,cQ (fun A hA=>Walks.strAscii hA s.heap.objs.size y tk) (fun i h st=>?_) (by simp) lO,⟨_,Heap.get?_push_size _ rfl,rfl,rfl⟩,fun a ha=>?_,fun a ha=>?_⟩
   ·obtain⟨o,ho,hc,hd⟩:=st;exact⟨o,_,_,ho,hc,by decide,hd⟩
   ·cases ha;exact⟨bB.push S rfl s.toks,Nat.le_refl _⟩
   ·exact absurd (by simpa using ha.1) ha.2
 |mj r a b tk u v g hs=>
  refine wpAny_pyIter_range g hs ⟨ah.fT S aI _,_,_,_,cQ (fun A hA=>Walks.range hA s.heap.objs.size a 1 (b-a).toNat) (fun i h st=>?_) (by simp) ?_,?_,fun a ha=>?_,fun a ha=>?_⟩
  ·exact⟨_,_,_,st,rfl,by decide,rfl⟩
  ·rintro i x v hx ⟨t,rfl⟩ W' L;rw[List.getElem?_map] at hx;induction hr:(List.range (b-a).toNat)[i]? with
   |none=>rw[hr] at hx;exact nE hx|some j=>
    rw[hr] at hx;cases hx;have :j=i:=by have :=cV hr;obtain⟨h1,h2⟩:=this;simp at h2;exact h2.symm
    subst this;exact⟨t,congrArg (fun j=>Value.int (a+j) t) (Int.mul_one _)⟩
  ·skip
   rw[rangeSize_one];have :a+((0:Nat):Int)* 1=a:=by simp
   rw[this];have :Builtin.Range.rangeSize a b 1-((0:Nat):Int)=Builtin.Range.rangeSize a b 1:=by simp
   rw[this];exact Heap.get?_push_size _ rfl
  ·cases ha;exact⟨bB.push S rfl s.toks,Nat.le_refl _⟩
  ·exact absurd (by simpa using ha.1) ha.2
 |aF d es m kvs g h0 nd hl rs sa=>
  have bV:=L4 g;obtain⟨ps,h1,h2,h3⟩:=fU rs;have D:∀h:Heap,h.get? d=some (cX es m)→h.DictAt (sk) d ps m:=fun h g=>⟨_,es,g,⟨rfl,rfl,rfl⟩,rfl,fun e he=>h3 e (by simpa using he),h1,by rw[←h2.keys];exact nd⟩
  refine wpAny_pyIter_dict (by simpa using h0) (D _ g) ⟨ah.fT S aI _,_,_,_,cQ (fun A hA=>Walks.dictKeys (knd:=sk) hA s.heap.objs.size d bV ps m) (fun i h st=>?_) ?_ ?_,⟨⟨_,Heap.get?_push_size _ rfl,rfl,rfl⟩,D _ (Heap.get?_push_of_some _ g)⟩,fun a ha=>?_,fun a ha=>?_⟩
  ·obtain⟨⟨o,ho,hc,hd⟩,_⟩:=st;exact⟨o,_,_,ho,hc,by decide,hd⟩
  ·simp[h2.length]
  ·rintro i x v hx ⟨k,y,hk,hv⟩ W' L;obtain⟨u,hu,hlen,_⟩:=h2.get hk;rw[List.getElem?_map,hu] at hx;cases hx;obtain⟨tk,TV⟩:=Value.isStrOf_shape hv;exact⟨hlen,tk,TV⟩
  ·cases ha;exact⟨bB.push S rfl s.toks,Nat.le_refl _⟩
  ·have :a=d:=by
    rcases bM ha.1 with h|h
    ·exact absurd h ha.2
    ·simpa using h
   subst this;exact sa.push _ s.toks
end
section
variable{n:Nat}{A:Around}{E:Value→Shared→Prop}{W W':Wd}{H H':AH}{s s':Shared}{sc:Scope}{env:af}{e':Env}
def vt(W:Wd)(H:AH)(s:Shared)(back:Option (Nat×az))(W₁:Wd)(H₁:AH)(s₁:Shared):Prop:=ah W H s aI W₁ H₁ s₁∧∀{X:Addr→Prop} {W':Wd} {H' Hf:AH} {s':Shared},ah W₁ H₁ s₁ X W' H' s'→(∀b k,W₁.own b=some k→¬X b)→iJ back H'=some ((),Hf)→ah W H s X W' Hf s'
theorem vt.mk'{back:Option (Nat×az)}{W₀ W₁:Wd}{H₀ H₁:AH}{s₀ s₁:Shared}(S:aH W H s)(P₀:ah W H s aI W₀ H₀ s₀)(L:Lock W₀ H₀ s₀ back H₁)(P₁:ah W₀ H₁ s₀ aI W₁ H₁ s₁):vt W H s back W₁ H₁ s₁:=by obtain PL:=L.post P₀.sim aI;refine⟨P₀.trans S (PL.trans P₀.sim P₁),fun{X W' H' Hf s'} Q hX hb=>?_⟩;obtain Q':=(P₁.wk (X':=X) fun a h=>h.elim).trans PL.sim Q;obtain Yz:=L.back P₀.sim Q' (fun b k hb=>hX b k (P₁.wN b k hb)) hb;exact(P₀.wk (X':=X) fun a h=>h.elim).trans S Yz
theorem lV{v:V}{x:Value}{kvs:List (Str×V)}{back:Option (Nat×az)}(h:DQ v H=some ((kvs,back),H'))(S:aH W H s)(r:Rel W v x):
  Lock W H s back H'∧∃d es m,x=.ref d∧s.heap.get? d=some (cX es m)∧d≠sysModules∧(kvs.map (·.1)).Nodup∧kvs.length<ai∧Reld W kvs es.toList∧SrcAt W H' s d:=by
 cases v with
 |aF kvs=>refine jA h ?_;obtain⟨a,m,es,rfl,hz,h0,nd,hl,rs⟩:=r;exact⟨.inl ⟨rfl,rfl⟩,a,es,m,rfl,S.z _ _ hz,h0,nd,hl,rs,.z S hz (by intro y e;cases e)⟩
 |ref k=>
  refine bH h fun o H₁ h1 k1=>?_
  obtain⟨ho,hn,rfl⟩:=bO h1;obtain⟨a,rfl,ha⟩:=r;have O:=S.at ho ha
  have bL:=(cV ho).1;cases o with
  |aF kvs=>
   refine bH k1 fun u H₂ h2 k2=>?_
   have :=bY h2;subst this;refine jA k2 ?_;obtain⟨m,es,g,h0,nd,hl,rs⟩:=O;exact⟨.inr ⟨k,_,a,rfl,ho,hn,ha,rfl⟩,a,es,m,rfl,g,h0,nd,hl,rs,.lock S bL ha g (by intro y e;cases e)⟩
  |_=>exact nE k1
 |_=>exact nE h
theorem m9{IA:Addr→Prop}{v1 v2:V}{a b:Value}{Bc:Heap}{tk:Nat}(S:aH W H s)(Ed:∀a,IA a→bB W s a)(ht:Bc.get? s.heap.objs.size=some (pC #[a,b] 0))(hsz:Bc.objs.size=s.heap.objs.size+1)
  (hk:∀c o,¬IA c→s.heap.get? c=some o→Bc.get? c=some o)(ex:∀a,IA a→∃o vs,Bc.get? a=some o∧o.data=.fields vs)(r1:Rel W v1 a)(r2:Rel W v2 b):
  ∃W',ah W H s IA W' H {s with heap:=Bc,toks:=tk}∧(∀a,IA a→bB W' {s with heap:=Bc,toks:=tk} a)∧Rel W' (.tup [v1,v2]) (.ref s.heap.objs.size):=by
 obtain P₁:=ah.push S aI (pC #[a,b] 0) rfl tk;obtain lt:∀c,IA c→c<s.heap.objs.size:=fun c hc=>by obtain⟨_,o,_,ho,_⟩:=Ed c hc;exact Heap.lt_size ho
 obtain hF:∀c,IA c→b_ (W.add s.heap.objs.size (pC #[a,b] 0)) c:=fun c hc=>((Ed c hc).post P₁ (fun h=>h)).1
 obtain P₂:ah (W.add s.heap.objs.size (pC #[a,b] 0)) H {s with heap:=s.heap.push (pC #[a,b] 0),toks:=tk} IA (W.add s.heap.objs.size (pC #[a,b] 0)) H {s with heap:=Bc,toks:=tk}:=by
  refine ah.free P₁.sim hF (fun c o hc ho=>?_) (by simp only[hsz];exact Nat.le_of_eq (Heap.size_push ..)) rfl rfl;by_cases Ht:c=s.heap.objs.size
  ·subst Ht;rw[Heap.get?_push_size _ rfl] at ho;obtain rfl:=Option.some.inj ho;exact ht
  ·refine hk c o hc ?_
   rwa [Heap.get?_push_ne _ _ _ Ht] at ho
 refine⟨_,(P₁.wk fun d h=>h.elim).trans S P₂,fun c hc=>⟨hF c hc,ex c hc⟩,?_⟩;exact⟨_,_,_,rfl,Wd.aU ..,by show 2<ai;decide,by exact⟨r1.mono P₁.le,r2.mono P₁.le,trivial⟩⟩
end
section
variable{n:Nat}{A:Around}{E:Value→Shared→Prop}{W W':Wd}{H H':AH}{s s':Shared}{sc:Scope}{env:af}{e':Env}
theorem vy{elts:List Expr}{x1}{pos:Pos}{W₀:Wd}{e it:Addr}{fp:List Addr}{m:Nat}{Pv:Nat→Value→Prop}{St:Nat→Heap→Prop}(D:∀A:Around,A.handled=none→Draws G.prog G.w A it fp m Pv St)
  (TX:e≠it)(Rx:e∉fp)(Wl:it∈fp)(DE:∀i h,St i h→∃o vs,h.get? it=some o∧o.data=.fields vs){vs:List V}(hm:vs.length=m)(lO:∀i x v,vs[i]?=some x→Pv i v→∀W,W₀.Le W→Rel W x v):
  ∀(k i:Nat),m-i=k→i≤m→ir (.Tuple elts x1 pos) (.ref e) (fun a=>a=e∨a=it) (fun a=>a∈fp∧a≠it) W₀ (bw i (vs.drop i)) (fun h=>(∃old,IsEnum h e it i old)∧St i h):=by
 have oR:∀i:Nat,dQ (fun a=>(a=e∨a=it)∨a∈fp∧a≠it) (fun h=>(∃old,IsEnum h e it i old)∧St i h):=fun i h h' ⟨⟨old,he⟩,st⟩ hk=>⟨⟨old,hk e _ (.inl (.inl rfl)) he⟩,(D {} rfl).frame i h h' st fun b hb o e=>hk b o (by
  by_cases Ba:b=it
  ·exact .inl (.inr Ba)
  ·exact .inr ⟨hb,Ba⟩) e⟩
 intro k;induction k with
 |zero=>
  intro i hk hi;have m8:i=m:=by exact aQ (nat_lit 0x102509234028104100113) ae hi (Ln.aN (m) (i)) hk
  subst m8;rw[List.drop_of_length_le (by exact aE (nat_lit 68737310977) ae hm)];intro A E Q s hA ⟨⟨old,he⟩,st⟩ hQ;exact bG (wpAny_pyNext_enum_endD (D A.in1 hA) he st fun h' hx hsz=>hQ h' s.toks hsz fun b o hb e=>hx b o (fun h=>hb (.inr h)) e)
 |succ k ih=>
  intro i hk hi;have bL:i<vs.length:=by exact uv (nat_lit 0x24111918031323134082103) ae (Nat.sub_add_cancel (aE (nat_lit 68737302785) ae hi:i≤m)) hm hk
  refine(List.drop_eq_getElem_cons bL)▸?_;refine⟨_,oR (i+1),by obtain this:=ih (i+1) (uv (nat_lit 0x1225194828304340834191802540830131948282115) ae (Nat.sub_add_cancel (aQ (nat_lit 0x21908012121101102) ae bL hm:i+1≤m)) (Ln.aN (m) (i)) hk (Nat.sub_add_cancel (aE (nat_lit 68737302785) ae hi:i≤m)) (Ln.aN (m) (i+1))) (aQ (nat_lit 0x21908012121101102) ae bL hm);exact this,fun{A E H W s} hL S Ed hA ⟨⟨old,he⟩,st⟩=>?_⟩;refine wpAny_pyNext_enum_itemD (D A.in1 hA) he st (by simp_all) TX Rx fun x h' tk hP ho Hz hT hsz Hy=>⟨_,rfl,fun{E'}=>?_⟩
  refine wpAny_letOwnedTupleGo_enum ho fun Bc Bd qR=>?_
  have J7:e<s.heap.objs.size:=Heap.lt_size he;have OA:St (i+1) Bc:=(D {} rfl).frame _ _ _ Hz fun b hb o y=>qR.extBut b o (fun q=>Rx (q▸hb)) y
  obtain⟨W',P,TY,r⟩:=m9 (IA:=fun a=>a=e∨a=it) (v1:=.int (i:Int)) (v2:=vs[i]) (a:=.int (i:Int) tk) (b:=x) (tk:=tk+1) S Ed (qR.extBut _ _ (Nat.ne_of_gt J7) hT) (by simp only[qR.1,hsz])
   (fun c o hc L5=>qR.extBut _ _ (fun h=>hc (.inl h)) (Hy c o (fun h=>hc (.inl h)) (fun h=>hc (.inr h)) L5))
   (fun a ha=>by
    rcases ha with rfl|rfl
    ·exact⟨_,_,Bd,rfl⟩
    ·exact DE _ _ OA) ⟨_,rfl⟩ (lO i _ x (List.getElem?_eq_getElem bL) hP W hL)
  exact⟨W',P,TY,r,⟨x,by exact Bd⟩,OA⟩
theorem kB{elts:List Expr}{x1}{pos:Pos}{W₀:Wd}{e it:Addr}{fp:List Addr}{m:Nat}{Pv:Nat→Value→Prop}{St:Nat→Heap→Prop}(D:∀A:Around,A.handled=none→Draws G.prog G.w A it fp m Pv St)
  (TX:e≠it)(Rx:e∉fp)(Wl:it∈fp)(DE:∀i h,St i h→∃o vs,h.get? it=some o∧o.data=.fields vs){vs:List V}(hm:vs.length=m)(lO:∀i x v,vs[i]?=some x→Pv i v→∀W,W₀.Le W→Rel W x v):
  Iter (.Tuple elts x1 pos) (.ref e) (fun a=>a=e∨a=it) (fun a=>a∈fp∧a≠it) W₀ (bw 0 vs) (fun h=>(∃old,IsEnum h e it 0 old)∧St 0 h):=
 ⟨by obtain this:=vy (x1:=x1) (elts:=elts) (pos:=pos) D TX Rx Wl DE hm lO m 0 rfl (by simp_all);exact this,
 fun h h' ⟨⟨old,he⟩,st⟩ hk=>⟨⟨old,hk e _ (.inl (.inl rfl)) he⟩,(D {} rfl).frame 0 h h' st fun b hb o e=>hk b o (by
  by_cases Ba:b=it
  ·exact .inl (.inr Ba)
  ·exact .inr ⟨hb,Ba⟩) e⟩,fun hA ⟨⟨old,he⟩,st⟩ hQ=>wpAny_pyIter_enum he hQ⟩
theorem sS{elts:List Expr}{x1}{pos:Pos}{W₀:Wd}{it d:Addr}{ps:List (Str×Value)}{kvs:List (Str×V)}{ep:Nat}(bV:d≠it)(rp:eE W₀ kvs ps):
  ∀(k i:Nat),ps.length-i=k→i≤ps.length→ir (.Tuple elts x1 pos) (.ref it) (fun a=>a=it) (fun a=>a=d) W₀ ((kvs.map fun kv=>.tup [.str kv.1,kv.2]).drop i)
   (fun h=>(∃ok ov,IsItemIter h it d i ps.length ep ok ov)∧h.DictAt (sk) d ps ep):=by
 obtain oR:∀i:Nat,dQ (fun a=>a=it∨a=d) (fun h=>(∃ok ov,IsItemIter h it d i ps.length ep ok ov)∧h.DictAt (sk) d ps ep):=fun i h h' ⟨⟨ok,ov,he⟩,st⟩ hk=>⟨⟨ok,ov,hk it _ (.inl rfl) he⟩,st.at' fun o e=>hk d o (.inr rfl) e⟩
 have hlen:=rp.length;intro k;induction k with
 |zero=>
  intro i hk hi;have m8:i=ps.length:=by exact aQ (nat_lit 0x102509234028104100113) ae hi (Ln.aN (ps.length) (i)) hk
  subst m8;rw[List.drop_of_length_le (by simp;exact aE (nat_lit 68737310977) ae hlen)];intro A E Q s hA ⟨⟨ok,ov,he⟩,st⟩ hQ;exact bG (wpAny_pyNext_items_end hA he st (by simp) fun h' hx hsz=>hQ h' s.toks hsz fun b o hb e=>hx b o hb e)
 |succ k ih=>
  intro i hk hi;have bL:i<(kvs.map fun kv=>V.tup [.str kv.1,kv.2]).length:=by simp;exact uv (nat_lit 0x24111918031323134082103) ae (Nat.sub_add_cancel (aE (nat_lit 68737302785) ae hi:i≤ps.length)) hlen hk
  simp only[List.drop_eq_getElem_cons bL];refine⟨_,oR (i+1),ih (i+1) (by omega) (gS (nat_lit 0x3192801191803132082102) ae (Nat.sub_add_cancel (aE (nat_lit 68737302785) ae hi:i≤ps.length)) hk),fun{A E H W s} hL S Ed hA ⟨⟨ok,ov,he⟩,st⟩=>?_⟩;obtain⟨⟨k0,y⟩,hx⟩:∃p,ps[i]?=some p:=⟨ps[i]'(by exact gS (nat_lit 0x3211191803132082102) ae (Nat.sub_add_cancel (aE (nat_lit 68737302785) ae hi:i≤ps.length)) hk),List.getElem?_eq_getElem (by exact gS (nat_lit 0x3211191803132082102) ae (Nat.sub_add_cancel (aE (nat_lit 68737302785) ae hi:i≤ps.length)) hk)⟩;refine(rp.get hx).elim fun u JH=>?_;obtain hu:=JH.1;obtain hl:=JH.2.1;obtain ru:=JH.2.2
  refine wpAny_pyNext_items_item he st hx fun key h' TZ ho hT hsz Hy=>⟨_,rfl,fun{E'}=>?_⟩
  refine wpAny_letOwnedTupleGo_items ho fun Bc Bd qR=>?_
  obtain J7:it<s.heap.objs.size:=Heap.lt_size he;refine(Value.isStrOf_shape TZ).elim fun tk TV=>?_
  obtain ev:(kvs.map fun kv=>V.tup [.str kv.1,kv.2])[i]=.tup [.str k0,u]:=by
   obtain h1:(kvs.map fun kv=>V.tup [.str kv.1,kv.2])[i]?=some (.tup [.str k0,u]):=by rw[List.getElem?_map,hu];rfl
   rw[List.getElem?_eq_getElem bL] at h1;exact Option.some.inj h1
  rw[ev]
  obtain⟨W',P,TY,r⟩:=m9 (IA:=fun a=>a=it) (v1:=.str k0) (v2:=u) (a:=key) (b:=y) (tk:=s.toks) S Ed (qR.extBut _ _ (Nat.ne_of_gt J7) hT) (by rw[qR.1,hsz])
   (fun c o hc L5=>qR.extBut _ _ hc (Hy c o hc L5)) (fun a ha=>by cases ha;exact⟨_,_,Bd,rfl⟩) (by exact⟨hl,tk,TV⟩) (ru.mono hL)
  refine⟨W',P,TY,r,⟨_,_,Bd⟩,st.at' fun o e=>qR.extBut _ _ bV (Hy d o bV e)⟩
end
section
variable{A:Around}{E:Value→Shared→Prop}{s:Shared}
theorem jI{it t:Addr}{i:Nat}{items:Array Value}{Q:Value→Shared→Prop}(hh:A.handled=none)(hit:s.heap.IsTupleIter it t i)(ht:s.heap.IsTuple t items)
  (hQ:∀x h',items[i]?=some x→h'.IsTupleIter it t (i+1)→Heap.SameBut it s.heap h'→Q x {s with heap:=h'})
  (hE:∀h' e,items[i]?=none→Heap.ExtBut it s.heap h'→(∃o,h'.get? e=some o∧o.cls=.type "StopIteration")→E (.ref e) {s with heap:=h'}):
  wpAny (model G.prog G.w) A (Builtin.SmallTypes.nextOf (.ref it)) Q E s:=by
 obtain⟨o,ho,hc,hd⟩:=id hit;obtain⟨ol,YA,_,nl,T3⟩:=ht
 refine wpAny_bind (wpAny_callSpecial?_slot (name:=Str.ofString "__next__") hit.typeIs F.slot_tuple_iterator_next
  (wpAny_call_entry F.slot_tuple_iterator_next hit.typeIs F.entry_tuple_iterator_next ?_ (F.args_tuple_iterator_next_1 _)))
 show wpAny _ _ (field (.ref it) 0>>=_) _ _ s;refine wpAny_bind (wpAny_field ho hd (x:=.ref t) rfl ?_);refine wpAny_bind (wpAny_field ho hd (x:=.int i 0) rfl ?_);refine wpAny_bind (wpAny_seqItems YA T3 ?_);induction hx:items[i]? with
 |some x=>simp only[Int.toNat_natCast,hx];refine wpAny_bind (wpAny_setField ho hd (Nat.le_refl _) (wpAny_pure ⟨x,rfl,wpAny_pure (hQ _ _ hx ?_ (Heap.SameBut.update ..))⟩));exact⟨_,Heap.get?_update_self _ ho (Obj.isFreed_of_fields (Obj.data_mapFields hd _)),(Obj.cls_mapFields ..).trans hc,by rw[Obj.data_mapFields hd];rfl⟩|none=>
  simp only[Int.toNat_natCast,hx];refine wpAny_bind (wpAny_rule (wpAny_bind (wpAny_setField ho hd (by simp) ?_)));refine wpAny_bind ?_;refine wpAny_bind (wpAny_newObj_type ?_ (Ln.go (nat_lit 72057596169224448) [] ae));refine wpAny_bind (m:=firstArgMember _ _) (wpAny_of_eq (a:=Value.none) (by first|rfl|(rfl)) ?_);refine wpAny_newObj_type ?_ (by size_fits);refine wpAny_bind (wpAny_handled ?_)
  first|rw[show A.in1.handled=none from hh]|rw[hh]
  refine wpAny_bind (wpAny_pure (wpAny_throw ?_));exact hE _ _ hx (((Heap.SameBut.update ..).extBut.push _).push _) ⟨_,Heap.get?_push_size _ rfl,rfl⟩
theorem sU(hh:A.handled=none)(it l:Addr)(bV:l≠it)(items:Array Value):
  Draws G.prog G.w A it [it,l] items.size (fun i v=>items[i]?=some v) (fun i h=>h.IsTupleIter it l i∧h.IsTuple l items) where
 live:=fun c c st=>let ⟨o,ho,_⟩:=st.1;⟨o,ho⟩
 frame:=fun c c c st hk=>⟨st.1.at fun o e=>hk it (by simp) o e,st.2.at fun o e=>hk l (by simp) o e⟩
 item:=fun i s Q E hi st hQ=>jI hh st.1 st.2 (fun x h' hx T4 Wm=>hQ _ h' s.toks hx ⟨T4,let ⟨o,ho,r⟩:=st.2;⟨o,Wm.extBut l o bV ho,r⟩⟩ Wm) fun h' e hx=>by rw[Array.getElem?_eq_getElem hi] at hx;exact nomatch hx
 done:=fun s Q E st hE=>jI hh st.1 st.2 (fun x h' hx=>by simp at hx) fun h' e c a b=>hE h' e a b
theorem oS{M:Model}{g:List (Code×Pos)→Bool}{Q:Bool→Shared→Prop}(h:∀b,Q b s):wpAny M A stack (fun st s'=>wpAny M A (Pure.pure (g st)) Q E s') E s:=wpAny_stack_any fun a=>wpAny_pure (h _)
open AutoSeq1 (wpAny_loadPart') in
theorem iw(l:Addr)(items:Array Value)(n:Nat):
  Meets (Builtin.«enumerate.__new__» ⟨[.type "enumerate",.ref l],[]⟩) (fun a R s=>s.heap.get? l=some (pC items n)∧
   R (.ok (.ret (.ref (s.heap.push {cls:=.type "tuple_iterator",data:=.fields #[.ref l,.int 0 0]}).objs.size)))
    {s with heap:=(s.heap.push {cls:=.type "tuple_iterator",data:=.fields #[.ref l,.int 0 0]}).push {cls:=.type "enumerate",data:=.fields #[.none,.bool false,.ref s.heap.objs.size,rawInt 0,.none,.none]}}):=
 .of_wp fun prog w A R s h=>by
  obtain⟨hp,g,d,tk,os⟩:=s;obtain⟨hl,h⟩:=h;have MC:=sub_enumerate
  have hL:Heap.IsTuple (Shared.heap ⟨hp,g,d,tk,os⟩) l items:=⟨_,hl,rfl,n,rfl⟩
  wp_walk using wpAny_loadPart' hl
  refine oS fun b=>?_
  cases b<;>(wp_walk using wpAny_loadPart' hl,wpAny_pyIter_tuple hL)<;>exact⟨_,rfl,h⟩
theorem iy{l:Addr}{items:Array Value}{n:Nat}{Q:Value→Shared→Prop}(hl:s.heap.get? l=some (pC items n))
  (h:∀h',IsEnum h' (s.heap.objs.size+1) s.heap.objs.size 0 .none→h'.IsTupleIter s.heap.objs.size l 0→h'.objs.size=s.heap.objs.size+2→(∀b o,s.heap.get? b=some o→h'.get? b=some o)→Q (.ref (s.heap.objs.size+1)) {s with heap:=h'}):
  wpAny (model G.prog G.w) A (call (.type "enumerate") [.ref l]) Q E s:=by
 refine callType_new F.called_enumerate rfl (F.typeCall_enumerate_1 _) (F.newCall_enumerate_1 _) (fun obj=>F.args_object_init_2 obj _) F.entry_enumerate_new
  (iw l items n) ⟨hl,?_⟩
 obtain hz:(s.heap.push {cls:=.type "tuple_iterator",data:=.fields #[.ref l,.int 0 0]}).objs.size=s.heap.objs.size+1:=Heap.size_push ..;rw[hz]
 obtain he:IsEnum ((s.heap.push {cls:=.type "tuple_iterator",data:=.fields #[.ref l,.int 0 0]}).push
   {cls:=.type "enumerate",data:=.fields #[.none,.bool false,.ref s.heap.objs.size,rawInt 0,.none,.none]}) (s.heap.objs.size+1) s.heap.objs.size 0 .none:=by
  obtain this:=Heap.get?_push_size (s.heap.push {cls:=.type "tuple_iterator",data:=.fields #[.ref l,.int 0 0]})
   (o:={cls:=.type "enumerate",data:=.fields #[.none,.bool false,.ref s.heap.objs.size,rawInt 0,.none,.none]}) rfl
  rw[hz] at this;exact this
 exact⟨⟨_,he,rfl⟩,h _ he ⟨_,Heap.get?_push_of_some _ (Heap.get?_push_size _ rfl),rfl,rfl⟩ (by rw[Heap.size_push,hz]) fun b o x=>Heap.get?_push_of_some _ (Heap.get?_push_of_some _ x)⟩
end
section
variable{n:Nat}{A:Around}{E:Value→Shared→Prop}{W W':Wd}{H H':AH}{s s':Shared}{sc:Scope}{env:af}{e':Env}
theorem vz(S:aH W H s){h':Heap}(hsz:h'.objs.size=s.heap.objs.size+2)(hk:∀b o,s.heap.get? b=some o→h'.get? b=some o):ah W H s aI W H {s with heap:=h'}:=ah.grow S aI hk (aE (nat_lit 17671936553217) ae hsz) rfl rfl (fun a a h=>h) (fun a a h=>.inl h) rfl rfl
theorem fX(S:aH W H s){h':Heap}{a:Addr}{o:Obj}{vs:Array Value}(ha:s.heap.objs.size≤a)(ho:h'.get? a=some o)(hd:o.data=.fields vs):bB W {s with heap:=h'} a:=⟨⟨S.cO ha,S.ic ha,S.fJ ha⟩,o,vs,ho,hd⟩
theorem SrcAt.old{a:Addr}(x:SrcAt W H s a){h':Heap}(hk:∀b o,s.heap.get? b=some o→h'.get? b=some o):SrcAt W H {s with heap:=h'} a:=by obtain⟨⟨q,hq,hd⟩,h⟩:=x;exact⟨⟨q,hk _ _ hq,hd⟩,h⟩
theorem Eg{elts:List Expr}{x1}{pos:Pos}{x:Value}{xs:List V}(V:sQ W H s x xs)(S:aH W H s)(hr:∀r a b t u v,x=.ref r→¬IsRange s.heap r a b 1 t u v)(hd:∀d es m,x=.ref d→s.heap.get? d≠some (cX es m)){Q:Value→Shared→Prop}
  (k:∀y s₁,ah W H s aI W H s₁→lz (.Tuple elts x1 pos) y W H s₁ s.heap.objs.size (bw 0 xs)→(∀{A:Around} {E:Value→Shared→Prop} {Q:Value→Shared→Prop},Q y s₁→wpAny (model G.prog G.w) A (pyIter y) Q E s₁)→Q y s₁):
  wpAny (model G.prog G.w) A (PySem.call (.type "enumerate") [x]) Q E s:=by
 obtain Be:s.heap.objs.size+1≠s.heap.objs.size:=by exact aV (nat_lit 0x90961019082101) ae
 obtain L4:∀{a:Addr} {o:Obj},s.heap.get? a=some o→a<s.heap.objs.size:=fun h=>Heap.lt_size h
 induction V with
 |lst l ys m xs g hl rs sa=>
  have bL:=L4 g;refine call_enumerate_list (pF g) fun h' he hit hsz hk=>?_
  obtain⟨oi,OB,_,Bf⟩:=id hit;refine k _ _ (vz S hsz hk) ⟨_,_,_,kB (fun A hA=>Draws.list hA s.heap.objs.size l (Nat.ne_of_lt bL) ys) Be ?_ ?_ (fun i h st=>let ⟨⟨o,ho,_,hd⟩,_⟩:=st;⟨o,_,ho,hd⟩) ?_ ?_,⟨⟨_,he⟩,hit,(pF g).at fun o e=>hk _ _ e⟩,fun a ha=>?_,fun a ha=>?_⟩ fun hQ=>wpAny_pyIter_enum he hQ
  ·intro hm;rcases bM hm with h|h
   ·exact Be h
   ·have h:=List.mem_singleton.mp h;exact Nat.not_lt_of_le (Nat.le_succ _) (h▸bL)
  ·simp
  ·have :=rs.length;exact this
  ·intro i x v hx hv W' L;obtain⟨y,hy,r⟩:=rs.get hx;rw[Array.getElem?_toList] at hy;rw[hy] at hv;cases hv;exact r.mono L
  ·rcases ha with rfl|rfl
   ·exact⟨fX S (Nat.le_succ _) he rfl,Nat.le_succ _⟩
   ·exact⟨fX S (Nat.le_refl _) OB Bf,Nat.le_refl _⟩
  ·have :a=l:=by
    rcases bM ha.1 with h|h
    ·exact absurd h ha.2
    ·simpa using h
   subst this;exact sa.old hk
 |tup l ys m xs g hl rs sa=>
  have bL:=L4 g;refine iy g fun h' he hit hsz hk=>?_
  obtain⟨oi,OB,_,Bf⟩:=id hit;refine k _ _ (vz S hsz hk) ⟨_,_,_,kB (fun A hA=>sU hA s.heap.objs.size l (Nat.ne_of_lt bL) ys) Be ?_ ?_ (fun i h st=>let ⟨⟨o,ho,_,hd⟩,_⟩:=st;⟨o,_,ho,hd⟩) ?_ ?_,⟨⟨_,he⟩,hit,(DB g).at fun o e=>hk _ _ e⟩,fun a ha=>?_,fun a ha=>?_⟩ fun hQ=>wpAny_pyIter_enum he hQ
  ·intro hm;rcases bM hm with h|h
   ·exact Be h
   ·have h:=List.mem_singleton.mp h;exact Nat.not_lt_of_le (Nat.le_succ _) (h▸bL)
  ·simp
  ·have :=rs.length;exact this
  ·intro i x v hx hv W' L;obtain⟨y,hy,r⟩:=rs.get hx;rw[Array.getElem?_toList] at hy;rw[hy] at hv;cases hv;exact r.mono L
  ·rcases ha with rfl|rfl
   ·exact⟨fX S (Nat.le_succ _) he rfl,Nat.le_succ _⟩
   ·exact⟨fX S (Nat.le_refl _) OB Bf,Nat.le_refl _⟩
  ·have :a=l:=by
    rcases bM ha.1 with h|h
    ·exact absurd h ha.2
    ·simpa using h
   subst this;exact sa.old hk
 |str y tk hl=>
  have lO:∀(i:Nat) (x:V) (v:Value),(y.cps.toList.map fun c=>V.str ⟨#[c]⟩)[i]?=some x→(∃c u,y.cps[i]?=some c∧v=.str ⟨#[c]⟩ u)→∀W',W.Le W'→Rel W' x v:=by rintro i x v hx ⟨c,u,hc,rfl⟩ W' L;rw[List.getElem?_map,Array.getElem?_toList,hc] at hx;obtain rfl:=Option.some.inj hx;exact⟨by show 1<ai;decide,u,rfl⟩
  refine call_enumerate_str fun h' he hit hsz hk=>?_
  obtain⟨oi,OB,_,Bf⟩:=id hit
  obtain main:∀(ty:String),(∀A:Around,A.handled=none→Draws G.prog G.w A s.heap.objs.size [s.heap.objs.size] y.cps.size (fun i v=>∃c u,y.cps[i]?=some c∧v=.str ⟨#[c]⟩ u) (fun i h=>h.IsStrIter s.heap.objs.size ty y tk i))→
    h'.IsStrIter s.heap.objs.size ty y tk 0→Q (.ref (s.heap.objs.size+1)) {s with heap:=h'}:=by
   intro ty D hit;refine k _ _ (vz S hsz hk) ⟨_,_,_,kB D Be (by simp) (by simp) (fun i h st=>let ⟨o,ho,_,hd⟩:=st;⟨o,_,ho,hd⟩) (by simp) lO,⟨⟨_,he⟩,hit⟩,fun a ha=>?_,fun a ha=>?_⟩ fun hQ=>wpAny_pyIter_enum he hQ
   ·rcases ha with rfl|rfl
    ·exact⟨fX S (Nat.le_succ _) he rfl,Nat.le_succ _⟩
    ·exact⟨fX S (Nat.le_refl _) OB Bf,Nat.le_refl _⟩
   ·exact absurd (by simpa using ha.1) ha.2
  unfold strIterType at hit;cases ha:y.cps.all (·<128)
  ·rw[ha] at hit;exact main _ (fun A hA=>Draws.strWide hA _ y tk) hit
  ·rw[ha] at hit;exact main _ (fun A hA=>Draws.strAscii hA _ y tk) hit
 |mj r a b tk u v g hs=>exact absurd g (hr _ _ _ _ _ _ rfl)|aF d es m kvs g h0 nd hl rs sa=>exact absurd g (hd _ _ _ rfl)
end
section
variable{n:Nat}{A:Around}{E:Value→Shared→Prop}{W W':Wd}{H H':AH}{s s':Shared}{sc:Scope}{env:af}{e':Env}
theorem lz.le{t:Expr}{it:Value}{n0 n1:Nat}{xs:List V}(g:lz t it W H s n0 xs)(h:n1≤n0):lz t it W H s n1 xs:=by obtain⟨IA,D,P,h1,h2,h3,h4⟩:=g;exact⟨IA,D,P,h1,h2,fun a ha=>⟨(h3 a ha).1,Nat.le_trans h (h3 a ha).2⟩,h4⟩
abbrev OC(A:Around)(W:Wd)(H:AH)(s:Shared)(t:Expr)(xs:List V)(back:Option (Nat×az))(H':AH)(x:Value)(s₁:Shared):Prop:=∀{E₂:Value→Shared→Prop},wpAny (model G.prog G.w) A (pyIter x) (fun i s₂=>∃W₂,vt W H s back W₂ H' s₂∧lz t i W₂ H' s₂ s.heap.objs.size xs) E₂ s₁
theorem fY{d:Addr}{es:Array DictEntry}{m:Nat}(g:s.heap.get? d=some (cX es m)):∀a,Value.ref d=.ref a→∃ob,s.heap.get? a=some ob∧ob.dict=none:=fun a e=>by obtain rfl:=PySem.Value.ref.inj e;exact⟨_,g,rfl⟩
theorem dg{v:V}{zs:List Value}(h:aA W [v] zs):∃z,zs=[z]∧Rel W v z:=by
 match zs,h with |[],h=>exact False.elim h|[z],h=>exact⟨z,rfl,h.1⟩|aK::bA::gI,h=>exact h.2.elim
theorem Bg{u v:V}{zs:List Value}(h:aA W [u,v] zs):∃y z,zs=[y,z]∧Rel W u y∧Rel W v z:=by
 match zs,h with |[],h=>exact False.elim h|[z],h=>exact h.2.elim|[y,z],h=>exact⟨y,z,rfl,h.1,h.2.1⟩|aK::bA::gI::ux,h=>exact h.2.2.elim
theorem m_{zs:List Value}(h:aA W [] zs):zs=[]:=by
 induction zs with |nil=>rfl|cons _ _=>exact False.elim h
theorem pP{h:Heap}{d:Addr}{es:Array DictEntry}{m:Nat}{kvs:List (Str×V)}(g:h.get? d=some (cX es m))(nd:(kvs.map (·.1)).Nodup)(rs:Reld W kvs es.toList):
  ∃ps,eE W kvs ps∧∀h':Heap,h'.get? d=some (cX es m)→h'.DictAt (sk) d ps m:=by
 refine(fU rs).elim fun ps YB=>?_;refine YB.elim fun h1 Wn=>?_;obtain h2:=Wn.1;obtain h3:=Wn.2
 exact⟨ps,h2,fun h' g=>⟨_,es,g,⟨rfl,rfl,rfl⟩,rfl,fun e he=>h3 e (by simpa using he),h1,by rw[←h2.keys];exact nd⟩⟩
theorem Bh{elts:List Expr}{x1}{pos:Pos}{d:Addr}{es:Array DictEntry}{m:Nat}{kvs:List (Str×V)}(S:aH W H s)(g:s.heap.get? d=some (cX es m))(h0:d≠sysModules)(nd:(kvs.map (·.1)).Nodup)(rs:Reld W kvs es.toList)(sa:SrcAt W H s d):
  wpAny (model G.prog G.w) A (PySem.call (.builtin "dict.items") [.ref d]) (fun x s₁=>∀{E₂:Value→Shared→Prop},wpAny (model G.prog G.w) A (pyIter x) (fun i s₂=>ah W H s aI W H s₂∧lz (.Tuple elts x1 pos) i W H s₂ s.heap.objs.size (kvs.map fun kv=>.tup [.str kv.1,kv.2])) E₂ s₁) E s:=by
 refine(pP g nd rs).elim fun ps z=>z.elim fun rp D=>?_
 obtain T5:(d==sysModules)=false:=by simpa using h0
 refine call_meetsIn F.slot_dict_items (show s.TypeIs (.ref d) "dict" from⟨_,g,rfl⟩) F.entry_dict_items (F.args_dict_items_1 _) (meets_dict_items (sk) d T5) ⟨⟨ps,(D _ g).dictOf⟩,?_⟩;intro E₂;obtain P₁:=ah.fT S aI {cls:=.type "dict_items",data:=.fields #[.ref d]};obtain g1:=Heap.get?_push_of_some (h:=s.heap) {cls:=.type "dict_items",data:=.fields #[.ref d]} g;obtain P₂:=ah.fT P₁.sim aI {cls:=.type "dict_itemiterator",data:=.fields #[.none,.bool false,.ref d,.int 0 0,.int ps.length 0,.int m 0,.none,.none]};obtain OD:s.heap.objs.size≤(s.heap.push {cls:=.type "dict_items",data:=.fields #[.ref d]}).objs.size:=P₁.size;obtain bV:d≠(s.heap.push {cls:=.type "dict_items",data:=.fields #[.ref d]}).objs.size:=Nat.ne_of_lt (Nat.lt_of_lt_of_le (Heap.lt_size g) OD);refine wpAny_pyIter_items (knd:=sk) ⟨_,Heap.get?_push_size _ rfl,rfl,rfl⟩ (D _ g1) ⟨P₁.trans S P₂,_,_,_,⟨sS bV rp ps.length 0 rfl (aV (nat_lit 590080) ae),fun h h' ⟨⟨ok,ov,he⟩,st⟩ hk=>⟨⟨ok,ov,hk _ _ (.inl rfl) he⟩,st.at' fun o e=>hk d o (.inr rfl) e⟩,fun hA ⟨⟨ok,ov,he⟩,st⟩ hQ=>kcp_self he hQ⟩,⟨⟨.none,.none,Heap.get?_push_size _ rfl⟩,D _ (Heap.get?_push_of_some _ g1)⟩,fun a ha=>?_,fun a ha=>?_⟩
 ·subst ha;exact⟨bB.push P₁.sim rfl _,OD⟩
 ·cases ha;exact(sa.push _ _).push _ _
theorem yw{t:Expr}{d:Addr}{es:Array DictEntry}{m:Nat}{kvs:List (Str×V)}(S:aH W H s)(g:s.heap.get? d=some (cX es m))(h0:d≠sysModules)(nd:(kvs.map (·.1)).Nodup)(rs:Reld W kvs es.toList)(sa:SrcAt W H s d):
  wpAny (model G.prog G.w) A (PySem.call (.builtin "dict.values") [.ref d]) (fun x s₁=>∀{E₂:Value→Shared→Prop},wpAny (model G.prog G.w) A (pyIter x) (fun i s₂=>ah W H s aI W H s₂∧lz t i W H s₂ s.heap.objs.size (kvs.map (·.2))) E₂ s₁) E s:=by
 refine(pP g nd rs).elim fun ps z=>z.elim fun rp D=>?_
 obtain T5:(d==sysModules)=false:=by simpa using h0
 refine call_meetsIn F.slot_dict_values (show s.TypeIs (.ref d) "dict" from⟨_,g,rfl⟩) F.entry_dict_values (F.args_dict_values_1 _) (meets_dict_values (sk) d T5) ⟨⟨ps,(D _ g).dictOf⟩,?_⟩;intro E₂;obtain P₁:=ah.fT S aI {cls:=.type "dict_values",data:=.fields #[.ref d]};obtain g1:=Heap.get?_push_of_some (h:=s.heap) {cls:=.type "dict_values",data:=.fields #[.ref d]} g;obtain P₂:=ah.fT P₁.sim aI {cls:=.type "dict_valueiterator",data:=.fields #[.ref d,.int 0 0,.int ps.length 0,.int m 0]};obtain OD:s.heap.objs.size≤(s.heap.push {cls:=.type "dict_values",data:=.fields #[.ref d]}).objs.size:=P₁.size;obtain bV:d≠(s.heap.push {cls:=.type "dict_values",data:=.fields #[.ref d]}).objs.size:=Nat.ne_of_lt (Nat.lt_of_lt_of_le (Heap.lt_size g) OD);refine wpAny_pyIter_values (knd:=sk) ⟨_,Heap.get?_push_size _ rfl,rfl,rfl⟩ (D _ g1) ⟨P₁.trans S P₂,_,_,_,cQ (fun A hA=>Walks.dictValues (knd:=sk) hA _ d bV ps m) (fun i h st=>?_) ?_ ?_,⟨⟨_,Heap.get?_push_size _ rfl,rfl,rfl⟩,D _ (Heap.get?_push_of_some _ g1)⟩,fun a ha=>?_,fun a ha=>?_⟩
 ·obtain OE:=st.1;refine OE.elim fun o z=>z.elim fun ho z=>z.elim fun hc hd=>?_
  exact⟨o,_,_,ho,hc,by decide,hd⟩
 ·simp[rp.length]
 ·rintro i x v hx ⟨k,hk⟩ W' L;obtain⟨u,hu,hlen,ru⟩:=rp.get hk;rw[List.getElem?_map,hu] at hx;obtain rfl:=Option.some.inj hx;exact ru.mono L
 ·subst ha;exact⟨bB.push P₁.sim rfl _,OD⟩
 ·have :a=d:=by
   rcases bM ha.1 with h|h
   ·exact absurd h ha.2
   ·simpa using h
  cases this;exact(sa.push _ _).push _ _
theorem qS{v:V}{x:Value}{ys:List V}{back:Option (Nat×az)}(h:srcOf v H=some ((ys,back),H'))(hc:enumSrc v back=true)(S:aH W H s)(r:Rel W v x):
  (∀r a b t u v',x=.ref r→¬IsRange s.heap r a b 1 t u v')∧(∀d es m,x=.ref d→s.heap.get? d≠some (cX es m)):=by
 induction v using V.casesOn with
 |lst vs=>
  obtain⟨l,m,ys,rfl,z,_⟩:=r;have g:=S.z _ _ z
  exact⟨fun r a b t u v' e hr=>(by cases e;unfold IsRange at hr;rw[g] at hr;simp at hr),fun d es m e hr=>(by cases e;rw[g] at hr;simp at hr)⟩
 |tup vs=>
  obtain⟨l,m,ys,rfl,z,_⟩:=r;have g:=S.z _ _ z
  exact⟨fun r a b t u v' e hr=>(by cases e;unfold IsRange at hr;rw[g] at hr;simp at hr),fun d es m e hr=>(by cases e;rw[g] at hr;simp at hr)⟩
 |str y=>obtain⟨_,t,rfl⟩:=r;exact⟨fun r a b t u v' e=>(nomatch e),fun d es m e=>(nomatch e)⟩
 |ref k=>
  obtain⟨a,rfl,ha⟩:=r;refine bH h fun o H₅ g1 g2=>?_
  obtain⟨ho,hn,rfl⟩:=bO g1;have O:=S.at ho ha
  induction o with
  |lst vs=>obtain⟨m,ys,g,_⟩:=O;exact⟨fun r a b t u v' e hr=>(by obtain rfl:=PySem.Value.ref.inj e;unfold IsRange at hr;rw[g] at hr;simp at hr),fun d es m e hr=>(by obtain rfl:=PySem.Value.ref.inj e;rw[g] at hr;simp at hr)⟩
  |aF vs=>
   refine bH g2 fun u H₆ g3 g4=>?_
   obtain e:=(aR g4).1;obtain⟨rfl,rfl⟩:=Prod.mk.inj e;exact nomatch (show false=true from hc)
  |_=>exact nE g2
 |_=>exact bE (show false=true from hc)
end
end Mine
end
noncomputable section
open PySem PySem.W PySem.Builtin PySem.Builtin.Str
namespace Mine
theorem jJ:Slot "callable_iterator" "__iter__" "callable_iterator.__iter__":=
 .of (owner:="callable_iterator") (n:="__iter__") (by rw[typeLookup_type,builtinLookup_eq_fast];kernel_rfl) (by decide+kernel) (by decide+kernel) (by decide+kernel)
  (by first|exact .inl (by decide+kernel)|exact .inr (by decide+kernel)) (by rw[isSubtype_type];kernel_rfl)
theorem dh:Slot "callable_iterator" "__next__" "callable_iterator.__next__":=
 .of (owner:="callable_iterator") (n:="__next__") (by rw[typeLookup_type,builtinLookup_eq_fast];kernel_rfl) (by decide+kernel) (by decide+kernel) (by decide+kernel)
  (by first|exact .inl (by decide+kernel)|exact .inr (by decide+kernel)) (by rw[isSubtype_type];kernel_rfl)
theorem i4:entryFor table "callable_iterator.__next__"=some Builtin.«callable_iterator.__next__»:=entryFor_of_tree (by kernel_rfl)
theorem oT:entryFor table "callable_iterator.__iter__"=some Builtin.«dict_keyiterator.__iter__»:=entryFor_alias (id':="dict_keyiterator.__iter__") (by kernel_rfl) (by first|rfl|decide+kernel|(unfold String.splitOn;simp +decide [String.splitOnAux])) (by decide+kernel) (by kernel_rfl)
theorem jK(a:Value):argsOk "callable_iterator.__next__" ⟨[a],[]⟩:=by unfold argsOk;kernel_rfl
theorem qT(a:Value):argsOk "callable_iterator.__iter__" ⟨[a],[]⟩:=by unfold argsOk;kernel_rfl
theorem lP(f:Value)(pos:List Value):callBorrowed f pos=(call f pos).keep [borrowed]:=by
 show Sem.call _ _ _ _ _=Sem.call _ _ _ _ _;congr 1;funext r;induction r with
 |ok f=>induction f<;>rfl
 |error e=>rfl
theorem jg{M:Model}{A:Around}{E:Value→Shared→Prop}{s:Shared}{f:Value}{pos:List Value}{Q:Value→Shared→Prop}(h:wpAny M A (call f pos) Q E s):wpAny M A (callBorrowed f pos) Q E s:=by rw[lP];exact Calls.wpAny_keep h
end Mine
end
noncomputable section
open PySem PySem.W PySem.Builtin PySem.Builtin.Str PyProof.Rows
namespace Mine
section
variable{n:Nat}{A:Around}{E:Value→Shared→Prop}{W W':Wd}{H H':AH}{s s':Shared}{sc:Scope}{env:af}{e':Env}
theorem nf{M:Model}{b f c:Addr}{oc:Obj}{fd:FuncData}{Q:Bool→Shared→Prop}(hb:s.heap.get? b=some {cls:=.type "method",data:=.fields #[.ref f,.ref c]})(hf:s.heap.get? f=some oc)(hd:oc.data=.func fd)(h:Q true s):
  wpAny M A (borrowsExactly (.ref b)) Q E s:=by
 unfold borrowsExactly;refine wpAny_bind (wpAny_load hb ?_);refine wpAny_bind (wpAny_load hf ?_);rw[hd];exact wpAny_pure h
theorem dj{a:Addr}{o:Obj}{vs:Array Value}{k:Nat}{x:Value}{Q:Unit→Shared→Prop}(ho:s.heap.get? a=some o)(hd:o.data=.fields vs)(hk:k<vs.size)
  (h:∀h' o',h'.get? a=some o'→o'.cls=o.cls→o'.data=.fields (vs.setIfInBounds k x)→Heap.SameBut a s.heap h'→Q () {s with heap:=h'}):wpAny (model G.prog G.w) A (setField (.ref a) k x) Q E s:=
 wpAny_setField ho hd hk (h _ _ (Heap.get?_update_self _ ho (Obj.isFreed_of_fields (Obj.data_mapFields hd _))) (Obj.cls_mapFields ..) (Obj.data_mapFields hd _) (Heap.SameBut.update ..))
end
section
variable{n:Nat}{A:Around}{E:Value→Shared→Prop}{W W':Wd}{H H':AH}{s s':Shared}{sc:Scope}{env:af}{e':Env}
theorem Bj(hh:A.handled=none){a:Addr}{o:Obj}(ho:s.heap.get? a=some o)(hc:o.cls=.type "callable_iterator")(hd:o.data=.fields #[.none,.none,.bool true]){Q:Option Value→Shared→Prop}
  (q:∀h',s.heap.objs.size≤h'.objs.size→(∀b ob,s.heap.get? b=some ob→h'.get? b=some ob)→Q none {s with heap:=h'}):wpAny (model G.prog G.w) A (pyNext (.ref a)) Q E s:=by
 have hT:s.TypeIs (.ref a) "callable_iterator":=⟨o,ho,hc⟩;refine wpAny_bind (wpAny_attempt (wpAny_callSpecial?_slot (name:=Str.ofString "__next__") hT dh (wpAny_call_entry dh hT i4 ?_ (jK _))));refine(?_:wpAny _ _ (field (.ref a) 2>>=_) _ _ s);refine wpAny_bind (wpAny_field ho hd (x:=.bool true) rfl ?_);refine wpAny_bind (wpAny_rule ?_);refine wpAny_bind ?_;refine wpAny_bind ?_;refine wpAny_bind (wpAny_newObj_type ?_ (Ln.go (nat_lit 72057596169224448) [] ae));refine wpAny_bind (m:=firstArgMember _ _) (wpAny_of_eq (a:=Value.none) (by first|rfl|(rfl)) ?_);refine wpAny_newObj_type ?_ (by size_fits);refine wpAny_bind (wpAny_handled ?_);refine(show A.in1.handled=none from hh).symm▸?_;refine wpAny_bind (wpAny_pure (wpAny_throw ?_));refine wpAny_bind (wpAny_isInstance (T:="StopIteration") (b:=true) ⟨_,Heap.get?_push_size _ rfl,rfl⟩ isSubtype_stop ?_);exact wpAny_pure (q _ (by rw[Heap.size_push,Heap.size_push];exact aV (nat_lit 27595307483392) ae) fun b ob e=>Heap.get?_push_of_some _ (Heap.get?_push_of_some _ e))
theorem Bk{a:Addr}{o:Obj}(ho:s.heap.get? a=some o)(hc:o.cls=.type "callable_iterator"){Q:Value→Shared→Prop}(h:Q (.ref a) s):wpAny (model G.prog G.w) A (pyIter (.ref a)) Q E s:=by obtain hT:s.TypeIs (.ref a) "callable_iterator":=⟨o,ho,hc⟩;refine wpAny_pyIter_slot hT jJ (wpAny_call_entry jJ hT oT ?_ (qT _));exact wpAny_pure ⟨_,rfl,"callable_iterator",_,hT,dh.lookup,h⟩
end
section
variable{n:Nat}{A:Around}{E:Value→Shared→Prop}{W W':Wd}{H H':AH}{s s':Shared}{sc:Scope}{env:af}{e':Env}
theorem bI.free(N:ak sc env e' W s){a:Addr}(h:bI sc e' a):W.own a=none:=by
 rcases h with rfl|⟨y,hy,hl⟩
 ·refine N.locals.elim fun Wo OF=>?_;refine OF.elim fun z30 J8=>?_;refine J8.elim fun L6 zw=>?_;refine zw.elim fun J9 T6=>?_;obtain hw:=T6.2.2.2.2.1
  exact hw
 ·refine(N.cells y hy).elim fun c JK=>?_;refine JK.elim fun oc su=>?_;refine su.elim fun u Bl=>?_;obtain h1:=Bl.1;obtain h2:=Bl.2.1;obtain h3:=Bl.2.2.1;obtain h4:=Bl.2.2.2.1;obtain h5:=Bl.2.2.2.2.1
  rw[hl] at h1;obtain rfl:=Option.some.inj h1;exact h5
end
end Mine
end
noncomputable section
end
noncomputable section
open PySem PySem.W PySem.Builtin PySem.Builtin.Str PySem.StrLaws
namespace Mine
theorem gw(x:Str)(c lim:Nat):∀(k a:Nat) (acc:Array Nat) (free:Nat),free≤a→acc.size≤lim→
  (forIn (List.range' a k) (acc,free) (occBody x ⟨#[c]⟩ x.length lim)).run.fst.toList=acc.toList++((List.range' a k).filter fun i=>decide (x.cps.toList[i]?=some c)).take (lim-acc.size)
 |0,a,acc,free,aK,bA=>by simp[List.range']|k+1,a,acc,free,hf,hl=>by
  rw[List.range'_succ,List.forIn_cons];obtain hs:=subAt_one x c a;unfold occBody;by_cases hc:x.cps.toList[a]?=some c
  ·refine(hs.mpr hc).elim fun h1 h2=>?_
   by_cases bL:acc.size<lim
   ·rw[if_pos ⟨⟨⟨bL,hf⟩,h1⟩,h2⟩];show(forIn (List.range' (a+1) k) (acc.push a,a+1) (occBody x ⟨#[c]⟩ x.length lim)).run.fst.toList=_;refine(gw x c lim k (a+1) _ _ (Nat.le_refl _) (by rw[Array.size_push];assumption)).trans ?_;rw[List.filter_cons_of_pos (by simpa using hc)];obtain⟨d,hd⟩:∃d,lim-acc.size=d+1:=⟨lim-acc.size-1,Ln.go (nat_lit 0x19180250191834191800112) [_,_,0,0] ae (Ln.aN (lim-acc.size) (1)) (Nat.sub_add_cancel (aQ (nat_lit 0x21901028101101102) ae bL (Ln.aN (lim) (acc.size)):1≤lim-acc.size))⟩;simp only[Array.size_push,hd,List.take_succ_cons,show lim-(acc.size+1)=d by exact uv (nat_lit 0x1225194828304340834191802540830131948282115) ae (Nat.sub_add_cancel (aE (nat_lit 308997144973569) ae bL:acc.size+1≤lim)) (Ln.aN (lim) (acc.size)) hd (Nat.sub_add_cancel (aE (nat_lit 68737306881) ae bL:acc.size≤lim)) (Ln.aN (lim) (acc.size+1))];simp
   ·rw[if_neg (fun h=>bL h.1.1.1)];show(forIn (List.range' (a+1) k) (acc,free) (occBody x ⟨#[c]⟩ x.length lim)).run.fst.toList=_;refine(gw x c lim k (a+1) _ _ (by exact aE (nat_lit 441453936378113) ae hf) hl).trans ?_;have :lim-acc.size=0:=by exact aQ (nat_lit 0x9225105110282112) ae (Nat.sub_add_cancel (aE (nat_lit 68737302785) ae hl:acc.size≤lim)) bL
    rw[this];rfl
  ·rw[if_neg (fun h=>hc (hs.mp ⟨h.1.2,h.2⟩))];show(forIn (List.range' (a+1) k) (acc,free) (occBody x ⟨#[c]⟩ x.length lim)).run.fst.toList=_;refine(gw x c lim k (a+1) _ _ (by exact aE (nat_lit 441453936378113) ae hf) hl).trans ?_;rw[List.filter_cons_of_neg (by simpa using hc)]
theorem lA(x:Str)(c lim:Nat):occurrences x ⟨#[c]⟩ 0 x.length lim=((List.range' 0 (x.length+1)).filter fun i=>decide (x.cps.toList[i]?=some c)).take lim:=by simp only[occ_eq,gw x c lim _ 0 #[] 0 (Nat.le_refl _) (Nat.zero_le _)];rfl
theorem ng(c:Nat):∀(l pre:List Nat),((List.range' pre.length l.length).filter fun i=>decide ((pre++l)[i]?=some c)).length=(l.filter (·==c)).length
|[],pre=>by rfl|d::l,pre=>by
 simp only[List.length_cons,List.range'_succ];obtain ih:=ng c l (pre++[d]);simp only[List.length_append,List.length_singleton,List.append_assoc,List.singleton_append] at ih;obtain h0:(pre++d::l)[pre.length]?=some d:=by simp
 by_cases hd:d=c
 ·rw[List.filter_cons_of_pos (by rw[h0];simpa using hd),List.filter_cons_of_pos (by simpa using hd),List.length_cons,List.length_cons,ih]
 ·rw[List.filter_cons_of_neg (by rw[h0];simpa using hd),List.filter_cons_of_neg (by simpa using hd),ih]
theorem vA(x:Str)(c:Nat):((List.range' 0 (x.length+1)).filter fun i=>decide (x.cps.toList[i]?=some c))=((List.range' 0 x.length).filter fun i=>decide (x.cps.toList[i]?=some c)):=by
 simp only[List.range'_concat,List.filter_append];have :x.cps.toList[0+1* x.length]?=none:=by rw[List.getElem?_eq_none];show x.length≤_;exact aV (nat_lit 111828533504) ae
 rw[List.filter_cons_of_neg (by refine this▸?_;simp)];simp
theorem qU(x:Str)(c:Nat):Txt.count x ⟨#[c]⟩=(mq c x:Nat):=by unfold Txt.count;rw[lA,List.take_of_length_le (by refine Nat.le_trans (List.length_filter_le _ _) ?_;exact List.length_range'▸(Nat.le_refl _)),vA];obtain this:=ng c x.cps.toList [];unfold mq;rw[←this];rfl
end Mine
end
noncomputable section
open PySem PySem.W PySem.Builtin PySem.Builtin.Str PyProof.Rows
namespace Mine
section
variable{n:Nat}{A:Around}{E:Value→Shared→Prop}{W W':Wd}{H H':AH}{s s':Shared}{sc:Scope}{env:af}{e':Env}
theorem nh{α:Type}{c:Bool}{m n:M α}{r:α×AH}{P:Prop}(h:(if c=true then m else n) H=some r)(k:c=true→m H=some r→P)(l:n H=some r→P):P:=by
 induction c with |true=>exact k rfl h|false=>exact l h
theorem sV:∀{vs:List V} {ys:List Str} {xs:List Value},rW vs=some ys→aA W vs xs→StrsAre xs ys
|[],aK,[],h,bA=>Option.some.inj h▸.nil|v::vs,ys,x::xs,h,r=>onStr.el (P:=fun x=>StrsAre (x::xs) ys) h r.1 fun i t a h=>by obtain⟨zs,h1,h2⟩:=gf h;exact h2▸.cons i t (sV h1 r.2)
|[],aK,bA::gI,ux,r=>r.elim|aK::bA,gI,[],ux,r=>r.elim
theorem Bm{x:Str}{t:Tok}{v r:V}{z:Value}(h:pg x v H=some (r,H'))(hx:x.length=0)(S:aH W H s)(rv:Rel W v z):
  wpAny (model G.prog G.w) A (PySem.call (.builtin "str.join") [.str x t,z]) (fun z=>aT W H s aI H' fun W' a=>Rel W' r z) E s:=by
 obtain hh:=mT S rv;refine eg.el h fun vs e h=>?_
 rw[e] at hh;obtain⟨l,m,ys,rfl,g,hl,rs⟩:=hh;obtain⟨zs,h1,h2⟩:=rS h;refine sD h2 fun hc e=>?_
 obtain q:=aW hc;obtain⟨rfl,rfl⟩:=Prod.mk.inj e;exact join_list (pF g) (sV h1 rs) (by simp only[hx,Nat.mul_zero];exact Nat.le_trans (Nat.le_of_lt (ck q.1)) (by decide)) fun t' k=>dZ S (ck q.2)
theorem nj{y:Str}{c:Nat}(h:rY y=some c):y=⟨#[c]⟩:=by
 unfold rY at h;induction y with
 |mk cps=>
  induction hl:cps.toList with
  |nil=>simp[hl] at h|cons a r=>
   induction r with |nil=>simp[hl] at h;subst h;congr 1;exact Array.toList_inj.mp hl|cons b q=>simp[hl] at h
theorem Eh{x:Str}{t:Tok}{v r:V}{z:Value}(h:Ih x v H=some (r,H'))(S:aH W H s)(rv:Rel W v z):
  wpAny (model G.prog G.w) A (PySem.call (.builtin "str.count") [.str x t,z]) (fun z=>aT W H s aI H' fun W' a=>Rel W' r z) E s:=by
 obtain⟨hq,rfl⟩:=sy h;refine onStr.el hq rv fun y u a h=>?_
 obtain⟨c,hc,e⟩:=gf h;cases nj hc;exact e▸SC.count (qU x c▸bW S)
theorem Bo{x:Str}{t:Tok}(hl:x.length=1)(S:aH W H s):
  wpAny (model G.prog G.w) A (PySem.call (.builtin "str.lower") [.str x t]) (fun z=>aT W H s aI H fun W' a=>Rel W' (.str (Txt.lower x)) z) E s:=
 SCL.lower (hl▸by decide) fun hlen=>dZ S (Nat.lt_of_le_of_lt hlen (hl▸show 3* 1<ai by decide))
end
section
variable{n:Nat}{A:Around}{E:Value→Shared→Prop}{W W':Wd}{H H':AH}{s s':Shared}{sc:Scope}{env:af}{e':Env}
theorem nk{k:Nat}{l:Addr}{vs us:List V}{xs ys:Array Value}{m:Nat}{f:Array Value→Array Value}(S:aH W H s)(hk:H[k]?=some (.lst vs))(ha:W.φ k=some l)(g:s.heap.get? l=some (gW xs m))(hf:f xs=ys)(hl:us.length<ai)(rs:aA W us ys.toList):
  ah W H s aI W (H.set k (.lst us)) {s with heap:=s.heap.update l (Obj.mapSeq f)}:=by
 refine(je xs m f).elim fun m' hm=>?_
 exact .one S ⟨_,hk,trivial⟩ ha (Heap.SameBut.update ..) ⟨m',ys,hf▸hm▸Heap.get?_update_self _ g rfl,hl,rs⟩
theorem Ei{k:Nat}{l:Addr}{xs:List V}{v r:V}{q:Value}(h:Ii k xs v H=some (r,H'))(S:aH W H s)(ho:H[k]?=some (.lst xs))(ha:W.φ k=some l)(rq:Rel W v q):
  wpAny (model G.prog G.w) A (PySem.call (.builtin "list.append") [.ref l,q]) (fun z=>aT W H s aI H' fun W' a=>Rel W' r z) E s:=by
 obtain⟨m,ys,g,hl,ry⟩:=S.at ho ha;refine zL h fun hs h=>?_
 cases h;exact call_meets F.slot_list_append ⟨_,g,rfl⟩ F.entry_list_append (F.args_list_append_2 _ _) (PySem.list_append l ys m q (br ((show xs.length=ys.size from ry.length)▸hl))) ⟨g,W,nk S ho ha g rfl (List.length_append▸ck hs) (by rw[Array.toList_push];exact ry.append (us:=[v]) (ys:=[q]) ⟨rq,trivial⟩),rfl⟩
theorem Ej{k:Nat}{l:Addr}{xs:List V}{v r:V}{q:Value}(h:Ij k xs v H=some (r,H'))(S:aH W H s)(ho:H[k]?=some (.lst xs))(ha:W.φ k=some l)(rq:Rel W v q):
  wpAny (model G.prog G.w) A (PySem.call (.builtin "list.pop") [.ref l,q]) (fun z=>aT W H s aI H' fun W' a=>Rel W' r z) E s:=by
 obtain⟨m,⟨ys⟩,g,hl,ry⟩:=S.at ho ha;refine aB.el h rq fun i t h=>?_
 induction xs using List.casesOn with
 |nil=>exact nE h|cons x xs=>induction ys using List.casesOn with
  |nil=>exact ry.elim|cons y ys=>
   refine sD h fun hi h=>?_
   cases eq_of_beq hi;cases h;exact call_meets F.slot_list_pop ⟨_,g,rfl⟩ F.entry_list_pop (F.args_list_pop_2 _ _) (PySem.MeetsSeq.list_pop_at l ⟨y::ys⟩ m 0 t 0 y rfl (show(if(decide ((0:Int)≤0)&&decide ((0:Int)<((y::ys).length:Int)))=true then some (0:Int).toNat else none)=some 0 from if_pos (jv ⟨rfl,decide_eq_true (Int.natCast_pos.mpr (Nat.succ_pos _))⟩)) rfl (br (n:=(y::ys).length) ((show(r::xs).length=(y::ys).length from ry.length)▸hl))) ⟨g,W,nk S ho ha g rfl (Nat.lt_of_succ_lt hl) (by simpa using ry.2),ry.1⟩
theorem Ek{k:Nat}{l:Addr}{xs:List V}{i v r:V}{p q:Value}(h:Ik k xs i v H=some (r,H'))(S:aH W H s)(ho:H[k]?=some (.lst xs))(ha:W.φ k=some l)(rp:Rel W i p)(rq:Rel W v q):
  wpAny (model G.prog G.w) A (PySem.call (.builtin "list.insert") [.ref l,p,q]) (fun z=>aT W H s aI H' fun W' a=>Rel W' r z) E s:=by
 obtain⟨m,ys,g,hl,ry⟩:=S.at ho ha;refine aB.el h rp fun i t h=>sD h fun hs h=>?_
 obtain⟨rfl,rfl⟩:=Prod.mk.inj h;obtain c:=aW hs;obtain c1:=aW c.1;obtain h0:=of_decide_eq_true c1.1;obtain hf:Builtin.List.listFitsIndex i=true:=jv ⟨decide_eq_true (Int.le_trans (by decide) h0),c1.2⟩;refine call_meets F.slot_list_insert ⟨_,g,rfl⟩ F.entry_list_insert (F.args_list_insert_3 _ _ _) (AutoSeq1.list_insert_list_int_val_1 l ys m i t q (by rw[hf];exact Bool.false_ne_true) (br ((show xs.length=ys.size from ry.length)▸hl))) ⟨g,W,nk S ho ha g rfl ?_ ?_,rfl⟩
 ·simp only[List.length_append,List.length_cons,List.length_take,List.length_drop];obtain this:=ck c.2;omega
 ·obtain hm:ys.toList.take (min i.toNat ys.size)=ys.toList.take i.toNat∧ys.toList.drop (min i.toNat ys.size)=ys.toList.drop i.toNat:=by
   induction Nat.le_total i.toNat ys.size with |inl h=>rw[Nat.min_eq_left h];exact⟨rfl,rfl⟩|inr h=>rw[Nat.min_eq_right h,List.take_of_length_le h,List.drop_of_length_le h];exact⟨List.take_of_length_le (Nat.le_refl _),List.drop_of_length_le (Nat.le_refl _)⟩
  rw[if_neg (Int.not_lt.mpr h0)];refine(congrArg Array.toList (kl_ins_eq ys.toList (min i.toNat ys.size) q)).symm▸?_;simp only[hm.1,hm.2];exact(ry.take _).append (us:=v::_) (ys:=q::_) ⟨rq,ry.drop _⟩
theorem El{r:List Bool}{f:Value→Bool}:∀{ys:List Value} {j:Nat},ys.map f=r→r.findIdx? id=some j→∃hj:j<ys.length,f ys[j]=true∧∀m (hm:m<ys.length),m<j→f ys[m]=false:=fun{ys j} e h=>by subst e;rw[List.findIdx?_map] at h;obtain q:=List.findIdx?_eq_some_iff_getElem.mp h;exact q.elim fun hj q=>⟨hj,q.1,fun m hm bL=>Bool.eq_false_iff.mpr (q.2 m bL)⟩
theorem yx{l:Addr}{m:Nat}{xs:List V}{ys:Array Value}{v:V}{n:Nat}{q:Value}(h:eA v xs=some n)(S:aH W H s)(z:W.Z l=some (gW ys m))(ry:aA W xs ys.toList)(rq:Rel W v q):
  wpAny (model G.prog G.w) A (PySem.call (.builtin "list.count") [.ref l,q]) (fun z=>aT W H s aI H fun W' a=>Rel W' (.int n) z) E s:=by
 refine(gf h).elim fun r OG=>?_;obtain hr:=OG.1;obtain e:=OG.2
 obtain w:=u7 (A:=A.in1) (s:=s) rq hr ry;refine call_meets F.slot_list_count ⟨_,S.z _ _ z,rfl⟩ F.entry_list_count (F.args_list_count_2 _ _) (SeqAt.list_countAt l ys m none #[] q (Hs · q)) ⟨S.z _ _ z,fun y hy=>w.2 y (Array.mem_def.mp hy),?_⟩;exact(show ys.toList.countP (Hs · q)=n by simp only[←e,←w.1,List.countP_map];rfl)▸(bW S)
theorem yy{l:Addr}{m:Nat}{xs:List V}{ys:Array Value}{v:V}{n:Nat}{q:Value}(h:jy v xs=some n)(S:aH W H s)(z:W.Z l=some (gW ys m))(hl:xs.length<ai)(ry:aA W xs ys.toList)(rq:Rel W v q):
  wpAny (model G.prog G.w) A (PySem.call (.builtin "list.index") [.ref l,q]) (fun z=>aT W H s aI H fun W' a=>Rel W' (.int n) z) E s:=by
 obtain⟨r,hr,e⟩:=rS h;obtain w:=u7 (A:=A.in1) (s:=s) rq hr ry;obtain⟨hj,g3,g4⟩:=El w.1 e;exact call_meets F.slot_list_index ⟨_,S.z _ _ z,rfl⟩ F.entry_list_index (F.args_list_index_2 _ _) (SeqAt.list_indexAt l ys m none #[] q (Hs · q) n hj (Int.lt_trans (Int.ofNat_lt.mpr (Nat.lt_trans hj (ry.length▸hl))) (show((ai:Nat):Int)<2^63-1 by decide)) g3 fun k hk bL=>g4 k hk bL) ⟨S.z _ _ z,fun y hy=>w.2 y (Array.mem_def.mp hy),bW S⟩
end
section
variable{n:Nat}{A:Around}{E:Value→Shared→Prop}{W W':Wd}{H H':AH}{s s':Shared}{sc:Scope}{env:af}{e':Env}
theorem Em{d:Addr}{es:Array DictEntry}{m:Nat}{kvs:List (Str×V)}{x:Str}{t:Tok}{dv:V}{y:Value}(S:aH W H s)(g:s.heap.get? d=some (cX es m))(h0:d≠sysModules)(nd:(kvs.map (·.1)).Nodup)(rs:Reld W kvs es.toList)(rd:Rel W dv y):
  wpAny (model G.prog G.w) A (PySem.call (.builtin "dict.get") [.ref d,.str x t,y]) (fun z=>aT W H s aI H fun W' a=>Rel W' ((kvs.lookup x).getD dv) z) E s:=by
 refine(dM g nd rs).elim fun ps z=>z.elim fun hD rp=>?_
 refine call_meetsIn F.slot_dict_get (show s.TypeIs (.ref d) "dict" from⟨_,g,rfl⟩) F.entry_dict_get (F.args_dict_get_3 _ _ _) (meets_dict_get_default (sk) d (strKind_is _ _ x t) (by simpa using h0) y) ⟨_,hD.mapOf,?_⟩;obtain hl:=rp.lookup x;show aT W H s aI H (fun W' a=>Rel W' ((kvs.lookup x).getD dv) ((valueAt ps x).getD y)) {s with toks:=s.toks+1};refine cD S _ ?_;induction hk:kvs.lookup x with
 |none=>obtain hl:=hk▸hl;refine hl▸?_;exact rd
 |some v=>rw[hk] at hl;obtain⟨z,hz,rz⟩:=hl;refine hz▸?_;exact rz
theorem sW{kvs:List (Str×V)}{v:V}{vs:List V}{d:Addr}{es:Array DictEntry}{m:Nat}{xs:List Value}(h:pn kvs "get" vs H=some (v,H'))(S:aH W H s)(g:s.heap.get? d=some (cX es m))(h0:d≠sysModules)(nd:(kvs.map (·.1)).Nodup)(rs:Reld W kvs es.toList)(rx:aA W vs xs):
  wpAny (model G.prog G.w) A (PySem.call (.builtin "dict.get") (.ref d::xs)) (fun z=>aT W H s aI H' fun W' a=>Rel W' v z) E s:=by
 refine wq.el h rx fun u y dv z ry rz h=>onStr.el h ry fun x t a h=>?_
 cases h;exact Em S g h0 nd rs rz
theorem Bp{v:V}{vs:List V}{xs:List Value}(h:r7 G.sq "get" vs H=some (v,H'))(S:aH W H s)(rx:aA W vs xs):
  wpAny (model G.prog G.w) A (PySem.call (.builtin "dict.get") (.ref G.DW::xs)) (fun z=>aT W H s aI H' fun W' a=>Rel W' v z) E s:=by
 refine k8.el h rx fun u y ry h=>aB.el h ry fun i t h=>?_
 cases h;refine S.cj.AW rfl (fun x hx t' k=>?_) fun hx k=>?_
 ·refine hx▸?_;exact dZ S (S.cj.AX i x hx)
 ·refine hx▸?_;exact cD S k rfl
end
section
variable{n:Nat}{A:Around}{E:Value→Shared→Prop}{W W':Wd}{H H':AH}{s s':Shared}{sc:Scope}{env:af}{e':Env}
theorem yz{v:V}{vs:List V}{zs:List Value}(h:aA W (v::vs) zs):∃z r,zs=z::r∧Rel W v z∧aA W vs r:=by
 induction zs with |nil=>exact h.elim|cons z r=>exact⟨z,r,rfl,h.1,h.2⟩
theorem xd{k n:Nat}(h:k<ai)(e:k=n):((n:Nat):Int)<2^63:=Int.lt_trans (Int.ofNat_lt.mpr (e▸h)) (show((ai:Nat):Int)<2^63 by decide)
theorem T7{k n:Nat}(h:k<ai)(e:k=n):¬(((n:Nat):Int)≥2^63):=Int.not_le.mpr (xd h e)
theorem En{vs:List V}{v:V}{xs:List Value}(h:Mu vs H=some (v,H'))(S:aH W H s)(rs:aA W vs xs):
  wpAny (model G.prog G.w) A (PySem.call (.builtin "len") xs) (fun z=>aT W H s aI H' fun W' a=>Rel W' v z) E s:=by
 refine k8.el h rs fun u y ry h=>?_
 obtain⟨k,hk,e⟩:=gf h;obtain⟨rfl,rfl⟩:=Prod.mk.inj e;have fin:∀{n t u:Nat},k=n→aT W H s aI H (fun W' a=>Rel W' (.int k) (.int (n:Int) t)) {s with toks:=u}:=fun e=>e▸cD S _ ⟨_,rfl⟩
 have hh:=mT S ry
 revert hh hk
 generalize deref H u=a';intro hk hh;induction a' using V.casesOn with
 |str x=>obtain⟨hl,t,rfl⟩:=hh;obtain rfl:=Option.some.inj hk;exact P.len_str (T7 hl rfl) (fin rfl)
 |lst us=>obtain⟨l,m,ys,rfl,g,hl,r⟩:=hh;cases hk;exact Calls.call_len_list (pF g) (xd hl r.length) (fin r.length)
 |tup us=>obtain⟨l,m,ys,rfl,g,hl,r⟩:=hh;cases hk;exact len_tuple (DB g) (xd hl r.length) (fin r.length)
 |aF us=>obtain⟨l,m,ys,rfl,g,h0,nd,hl,r⟩:=hh;obtain rfl:=Option.some.inj hk;obtain⟨ps,hD,rp⟩:=dM g nd r;exact call_len_dict (oK h0) hD (xd hl rp.length) (fin rp.length)
 |_=>exact nE hk
theorem Eo{vs:List V}{v:V}{xs:List Value}(h:Mv vs H=some (v,H'))(S:aH W H s)(rs:aA W vs xs):
  wpAny (model G.prog G.w) A (PySem.call (.builtin "chr") xs) (fun z=>aT W H s aI H' fun W' a=>Rel W' v z) E s:=by
 refine k8.el h rs fun u y ry h=>aB.el h ry fun i t h=>sD h fun hc e=>?_
 obtain⟨rfl,rfl⟩:=Prod.mk.inj e;have q:=aW hc
 exact P.chr_of_int (Bool.or_eq_false_iff.mpr ⟨decide_eq_false (Int.not_lt.mpr (of_decide_eq_true q.1)),decide_eq_false (Int.not_lt.mpr (Int.le_of_lt_add_one (of_decide_eq_true q.2)))⟩) (dZ S (show 1<ai by decide))
theorem Ep{vs:List V}{v:V}{xs:List Value}(h:Mw vs H=some (v,H'))(S:aH W H s)(rs:aA W vs xs):
  wpAny (model G.prog G.w) A (PySem.call (.builtin "ord") xs) (fun z=>aT W H s aI H' fun W' a=>Rel W' v z) E s:=by
 refine k8.el h rs fun u y ry h=>onStr.el h ry fun x t a h=>?_
 obtain⟨c,hc,e⟩:=gf h;obtain⟨rfl,rfl⟩:=Prod.mk.inj e;cases nj hc;exact P.ord_of_char (bW S)
theorem Er{vs:List V}{v:V}{xs:List Value}(h:My vs H=some (v,H'))(S:aH W H s)(rs:aA W vs xs):
  wpAny (model G.prog G.w) A (PySem.call (.builtin "isinstance") xs) (fun z=>aT W H s aI H' fun W' a=>Rel W' v z) E s:=by
 refine wq.el h rs fun u y w z ry rz h=>aB.el h ry fun i t h=>wu.el h rz fun T h=>sD h fun hc e=>?_
 obtain⟨rfl,rfl⟩:=Prod.mk.inj e;cases eq_of_beq hc;exact IsiPair.int_tuple (gu S _)
theorem jL(f:Nat→Int):∀n,preSum f (n+1)=f 0+preSum (fun j=>f (j+1)) n|0=>by simp[preSum]|n+1=>by obtain ih:=jL f n;refine(?_:preSum f (n+1)+f (n+1)=f 0+(preSum (fun j=>f (j+1)) n+f (n+1)));refine ih▸?_;exact Iz.go (nat_lit 9429970342946064) [] [_,_,_] ae
theorem xe:∀{vs:List V} {i:Int},sumInts vs=some i→∃ns:List Int,vs=ns.map .int∧preSum (fun j=>ns.getD j 0) ns.length=i|[],i,h=>⟨[],rfl,Option.some.inj h⟩|v::vs,i,h=>aB.inv h fun k e h=>by obtain⟨j,hj,e2⟩:=gf h;obtain⟨ns,h1,h2⟩:=xe hj;exact⟨k::ns,by simp only[e,h1];rfl,by simp only[List.length_cons,jL];exact h2.symm▸e2⟩
theorem Es{vs:List V}{v:V}{xs:List Value}(h:Mx vs H=some (v,H'))(S:aH W H s)(rs:aA W vs xs)(hh:A.handled=none):
  wpAny (model G.prog G.w) A (PySem.call (.builtin "sum") xs) (fun z=>aT W H s aI H' fun W' a=>Rel W' v z) E s:=by
 refine k8.el h rs fun u z rz h=>eg.el h fun us e h=>?_
 subst e;obtain⟨i,hs,e⟩:=gf h;obtain⟨rfl,rfl⟩:=Prod.mk.inj e;obtain⟨ns,rfl,hp⟩:=xe hs;obtain⟨l,m,ys,rfl,hz,hl,r⟩:=rz;obtain g:=S.z _ _ hz;obtain el:ns.length=ys.size:=(List.length_map ..).symm.trans r.length;obtain bV:l≠s.heap.objs.size:=Nat.ne_of_lt (Heap.lt_size g);refine bG (call_sum_walkAnyS (wpAny_pyIter_list (pF g) ⟨s.heap.objs.size,_,_,_,_,_,_,fun j=>ns.getD j 0,rfl,(Walks.list (A:=A.in1) hh s.heap.objs.size l bV ys).toS,?_,?_,?_,?_⟩))
 ·exact⟨⟨_,Heap.get?_push_size _ rfl,rfl,rfl⟩,_,Heap.get?_push_of_some _ g,rfl,m,rfl⟩
 ·intro b hb;rw[Heap.size_push];rcases bM hb with rfl|hb
  ·exact Nat.lt_succ_self _
  ·refine(List.mem_singleton.mp hb)▸?_;exact Nat.lt_succ_of_lt (Heap.lt_size g)
 ·intro j w hw;obtain hj:j<ys.size:=(Array.getElem?_eq_some_iff.mp hw).1;obtain hv:(ns.map V.int)[j]?=some (.int (ns.getD j 0)):=by simp[List.getD_eq_getElem?_getD,List.getElem?_eq_getElem (show j<ns.length by exact aQ (nat_lit 9025969084961026) ae hj el)]
  obtain⟨x,hx,rx⟩:=r.get hv;rw[Array.getElem?_toList,hw] at hx;obtain rfl:=Option.some.inj hx;exact rx
 ·intro s' t' M hsz;rw[←el,hp];refine⟨W,ah.grow S aI (fun b o hb=>M.heap b o ?_ (Heap.get?_push_of_some _ hb)) hsz rfl rfl (fun a a h=>h) (fun a a h=>.inl h) M.os M.gens,⟨_,rfl⟩⟩;intro hm;exact Nat.ne_of_lt (Heap.lt_size hb) (List.mem_singleton.mp hm)
theorem kC:typeLookup (.type "method") (Str.ofString "__call__")=pure (some (.builtin "method.__call__")):=by kernel_rfl
theorem vB(a b:Value):argsOk "iter" ⟨[a,b],[]⟩:=by unfold argsOk;kernel_rfl
theorem Bq{vs:List V}{v:V}{xs:List Value}(h:Ga vs H=some (v,H'))(S:aH W H s)(rs:aA W vs xs):
  wpAny (model G.prog G.w) A (PySem.call (.builtin "iter") xs) (fun z=>aT W H s aI H' fun W' a=>Rel W' v z) E s:=by
 refine wq.el h rs fun u y st z ry rz h=>DR.el h fun j g e h=>?_
 subst e;have YC:=ry
 obtain⟨rfl,rfl⟩:=eI h;obtain⟨m,c,rfl,hj,zm,hg⟩:=ry;obtain gm:=S.z _ _ zm;refine Calls.call_function_entry (by decide+kernel) (by decide+kernel) kdk_entry_iter (vB _ _) ?_;refine wpAny_bind (m:=someArgs "iter" 1 2 _) (wpAny_pure ?_);refine wpAny_bind (wpAny_specialOf (show s.TypeIs (.ref m) "method" from⟨_,gm,rfl⟩) kC ?_);refine wpAny_bind (wpAny_rule ?_);refine wpAny_bind (wpAny_newObj_type (wpAny_pure ⟨_,rfl,?_⟩))
 obtain PP:=ah.new S aI (.lI (.bm j g) st true) {cls:=.type "callable_iterator",data:=.fields #[.ref m,z,.bool false]} rfl s.toks
  ⟨_,.ref m,z,Heap.get?_push_size _ rfl,rfl,rfl,fun a=>⟨YC.mono (Wd.ig S (Nat.le_refl _)),rz.mono (Wd.ig S (Nat.le_refl _))⟩⟩
 refine⟨_,PP,?_⟩;exact⟨_,rfl,Wd.eJ ..⟩
theorem Br{i:String}{vs:List V}{v:V}{xs:List Value}(h:g_ i vs H=some (v,H'))(S:aH W H s)(rs:aA W vs xs)(hh:A.handled=none):
  wpAny (model G.prog G.w) A (PySem.call (.builtin i) xs) (fun z=>aT W H s aI H' fun W' a=>Rel W' v z) E s:=by
 refine nh h (fun hc h=>eq_of_beq hc▸En h S rs) fun h=>nh h (fun hc h=>eq_of_beq hc▸Eo h S rs) fun h=>nh h (fun hc h=>eq_of_beq hc▸Ep h S rs) fun h=>nh h (fun hc h=>eq_of_beq hc▸Es h S rs hh) fun h=>nh h (fun hc h=>eq_of_beq hc▸Er h S rs) fun h=>nh h (fun hc h=>eq_of_beq hc▸Bq h S rs) fun h=>nE h
end
section
variable{A:Around}{E:Value→Shared→Prop}{s:Shared}
theorem qV{Q:List Value→Shared→Prop}(it:Addr){T:String}{o:Obj}{items:Array Value}{n:Nat}(hT:T="list"∨T="tuple")(ho:s.heap.get? it=some o)(hc:o.cls=.type T)(hd:o.data=.seq items n)
  (hQ:∀h':Heap,s.heap.objs.size≤h'.objs.size→(∀b o',s.heap.get? b=some o'→h'.get? b=some o')→Q items.toList {s with heap:=h'})(hsz:items.size≤sizeLine):wpAny (model G.prog G.w) A (collect (.ref it)) Q E s:=
 bG (wpAny_collect_seq (hsz:=hsz) it hT ho hc hd fun h' hk hz=>hQ h' hz hk)
end
section
variable{n:Nat}{A:Around}{E:Value→Shared→Prop}{W W':Wd}{H H':AH}{s s':Shared}{sc:Scope}{env:af}{e':Env}
set_option tactic.hygienic true in
theorem nq{c:Bool}{vs:List V}{v:V}{a:Addr}{h':Heap}{tk m:Nat}{ys:Array Value}(h:(if c then gY (.lst vs) else pure (.lst vs)) H=some (v,H'))(S:aH W H s)(ha:s.heap.objs.size≤a)
  (hk:∀b o,s.heap.get? b=some o→h'.get? b=some o)(g:h'.get? a=some (gW ys m))(hl:vs.length<ai)(r:aA W vs ys.toList):
  aT W H s aI H' (fun W' d=>Rel W' v (.ref a)) {s with heap:=h',toks:=tk}:=by
 obtain bL:a<h'.objs.size:=Heap.lt_size g;obtain hsz:s.heap.objs.size≤h'.objs.size:=Nat.le_of_lt (Nat.lt_of_le_of_lt ha bL);induction c with
 |false=>
  obtain⟨rfl,rfl⟩:=aR h;obtain PP:ah W H' s aI (W.add a (gW ys m)) H' {s with heap:=h',toks:=tk}:=ah.grow S aI hk hsz rfl rfl (fun b o e=>by
    refine(?_:(if b=a then some (gW ys m) else W.Z b)=some o);rw[if_neg (fun q=>by rw[q] at e;rw[S.ic ha] at e;exact nE e)];exact e) (fun b o e=>by
    have e':(if b=a then some (gW ys m) else W.Z b)=some o:=e;split at e'
    ·rename_i q;obtain rfl:=Option.some.inj e';exact .inr ⟨q▸ha,by exact q▸(g)⟩
    ·exact .inl e') rfl rfl
  refine⟨_,PP,?_⟩;exact⟨a,m,ys,rfl,Wd.aU ..,hl,r.mono PP.le⟩
 |true=>
  obtain⟨rfl,rfl⟩:=eI h;have L:W.Le (W.ref H.length a):=Wd.ig S (Nat.le_refl _)
  have PP:ah W H s aI (W.ref H.length a) (H++[.lst vs]) {s with heap:=h',toks:=tk}:=ah.Of S aI (.lst vs) (a:=a) rfl rfl (by simp[Wd.ref]) (fun b j hb=>by
    refine(?_:(if b=a then some H.length else W.own b)=some j);rw[if_neg (fun q=>by rw[q,S.cO ha] at hb;exact nE hb)];exact hb) (fun b j hb=>by
    have Et:(if b=a then some H.length else W.own b)=some j:=hb;split at Et
    ·rename_i q;obtain rfl:=Option.some.inj Et;exact .inr ⟨rfl,by refine q▸?_;exact ha,by refine q▸?_;exact bL⟩
    ·exact .inl Et) hsz hk ⟨m,ys,g,hl,r.mono L⟩ rfl rfl
  refine⟨_,PP,?_⟩;exact⟨a,rfl,Wd.eJ ..⟩
theorem fm:∀{vs:List V} {ys:Array Value},ys.size=vs.length→(∀(j:Nat) (x:Value),ys[j]?=some x→∃v,vs[j]?=some v∧Rel W v x)→aA W vs ys.toList:=by
 obtain key:∀{vs:List V} {xs:List Value},xs.length=vs.length→(∀(j:Nat) (x:Value),xs[j]?=some x→∃v,vs[j]?=some v∧Rel W v x)→aA W vs xs:=by
  intro vs;induction vs with
  |nil=>intro xs hl _;obtain this:=List.length_eq_zero_iff.mp hl;subst this;trivial
  |cons v vs ih=>
   intro xs hl hg;induction xs with |nil=>exact nomatch hl|cons x xs=>obtain⟨u,hu,ru⟩:=hg 0 x rfl;obtain rfl:=Option.some.inj hu;refine⟨ru,ih (by simpa using hl) fun j y hy=>?_⟩;obtain this:=hg (j+1) y (by exact hy);exact this
 intro vs ys hl hg;exact key (by exact hl) fun j x hx=>hg j x (by rwa [Array.getElem?_toList] at hx)
theorem OH.inv{u:V}{xs:List V}{P:Prop}(h:wz u=some xs)(k:∀x,u=.str x→xs=(x.cps.toList.map fun c=>.str ⟨#[c]⟩)→P)(l:∀a b,u=.mj a b→xs=((List.range (b-a).toNat).map fun(i:Nat)=>.int (a+(i:Int)))→P):P:=by
 induction u using V.casesOn with |str x=>exact k x rfl (Option.some.inj h).symm|mj a b=>exact l a b rfl (Option.some.inj h).symm|_=>exact nE h
theorem Eu{vs:List V}{v:V}{xs:List Value}(h:Mz vs H=some (v,H'))(S:aH W H s)(rs:aA W vs xs):
  wpAny (model G.prog G.w) A (PySem.call (.type "int") xs) (fun z=>aT W H s aI H' fun W' a=>Rel W' v z) E s:=by
 refine k8.el h rs fun u y ry h=>cI.el h ry fun b h=>?_
 cases h;exact call_int_bool (bW S)
theorem sX{a b:Int}{t u w:Tok}{tk:Nat}(S:aH W H s)(ha:iK a=true)(hb:iK b=true):aT W H s aI H (fun W' c=>Rel W' (.mj a b) (.ref s.heap.objs.size)) {s with heap:=s.heap.push {cls:=.type "range",data:=.fields #[.int a t,.int b u,.int 1 w]},toks:=tk}:=
 ⟨_,ah.push S aI _ rfl tk,_,_,_,_,rfl,Wd.aU ..,by
  have :=of_decide_eq_true ha;have :=of_decide_eq_true hb
  exact small_one (by omega) (by omega) (by omega) (by omega)⟩
theorem yC{vs:List V}{v:V}{xs:List Value}(h:rangeT vs H=some (v,H'))(S:aH W H s)(rs:aA W vs xs):
  wpAny (model G.prog G.w) A (PySem.call (.type "range") xs) (fun z=>aT W H s aI H' fun W' c=>Rel W' v z) E s:=by
 refine ie h (fun h=>k8.el h rs fun u y ry h=>aB.el h ry fun b t h=>sD h fun hb e=>?_) fun h=>wq.el h rs fun u y w z ry rz h=>aB.el h ry fun a t h=>aB.el h rz fun b t' h=>sD h fun hb e=>?_
 ·obtain⟨rfl,rfl⟩:=Prod.mk.inj e;exact call_range_1 (sX (a:=0) S rfl hb)
 ·obtain⟨rfl,rfl⟩:=Prod.mk.inj e;have q:=aW hb;exact call_range_2 (sX S q.1 q.2)
theorem vC{c:Bool}{vs:List V}{v:V}{xs:List Value}(h:zI c vs H=some (v,H'))(S:aH W H s)(rs:aA W vs xs)(hh:A.handled=none):
  wpAny (model G.prog G.w) A (PySem.call (.type "list") xs) (fun z=>aT W H s aI H' fun W' d=>Rel W' v z) E s:=by
 refine k8.el h rs fun u y rz h=>?_
 obtain⟨us,hu,h⟩:=rS h;refine JT h (fun hs h2=>?_) fun d h=>nE h
 obtain hl:=ck hs;refine OH.inv hu (fun x e1 e2=>?_) fun a b e1 e2=>?_
 ·subst e1;obtain⟨hx,t,rfl⟩:=rz;refine call_list_str hh x t (hn:=br hx) fun h' tk acc c' hk hD gx=>nq h2 S (Nat.le_refl _) hk hD hl ?_
  rw[e2];refine fm (gx.1.trans (List.length_map ..).symm) fun j v hv=>?_
  obtain⟨c,w,hc,rfl⟩:=gx.2 j v hv;exact⟨.str ⟨#[c]⟩,by simp only[List.getElem?_map,Array.getElem?_toList,hc];rfl,(show 1<ai by decide),w,rfl⟩
 ·subst e1;obtain⟨q,t,w,w',rfl,hz,T8⟩:=rz;obtain hlen:(b-a).toNat<ai:=by rw[e2,List.length_map,List.length_range] at hl;exact hl
  refine call_list_range hh (S.z _ _ hz) T8 (n:=(b-a).toNat) (Mine.rangeSize_one a b).symm (Nat.le_trans (Nat.le_of_lt hlen) (by decide)) fun h' tk acc c' hk hD gx=>nq h2 S (Nat.le_refl _) hk hD hl ?_
  rw[e2];refine fm (by simp only[gx.1,List.length_map,List.length_range]) fun j v hv=>?_
  obtain hj:j<acc.size:=(Array.getElem?_eq_some_iff.mp hv).1;rw[gx.1] at hj;obtain⟨yn,rfl⟩:=gx.2 j v hv;exact⟨.int (a+(j:Int)),by simp only[List.getElem?_map,List.getElem?_range hj];rfl,_,by rw[Int.mul_one]⟩
theorem Bs{c:Bool}{i:String}{vs:List V}{v:V}{xs:List Value}(h:gj c i vs H=some (v,H'))(S:aH W H s)(rs:aA W vs xs)(hh:A.handled=none):
  wpAny (model G.prog G.w) A (PySem.call (.type i) xs) (fun z=>aT W H s aI H' fun W' a=>Rel W' v z) E s:=
 nh h (fun hc h=>eq_of_beq hc▸Eu h S rs) fun h=>nh h (fun hc h=>eq_of_beq hc▸yC h S rs) fun h=>nh h (fun hc h=>eq_of_beq hc▸vC h S rs hh) fun h=>nE h
end
section
variable{n:Nat}{A:Around}{E:Value→Shared→Prop}{W W' W₀:Wd}{H H' H₀:AH}{s s' s₀:Shared}{sc:Scope}{env:af}{e':Env}
set_option tactic.hygienic true in
theorem ah.vD{X:Addr→Prop}{a:Addr}{ob:Obj}(P:ah W₀ H₀ s₀ X W H s)(f:b_ W a)(ha:s₀.heap.objs.size≤a)(g:s.heap.get? a=some ob):ah W₀ H₀ s₀ X (W.add a ob) H s:=by
 obtain S:=P.sim;obtain⟨f1,f2,f3⟩:=f;have ug:∀b o,W.Z b=some o→(W.add a ob).Z b=some o:=fun b o e=>by show(if b=a then some ob else W.Z b)=some o;rw[if_neg (fun q=>by rw[q,f2] at e;exact nE e)];exact e
 have zc:∀b o,(W.add a ob).Z b=some o→(b=a∧o=ob)∨W.Z b=some o:=fun b o e=>by
  have e':(if b=a then some ob else W.Z b)=some o:=e;split at e'
  ·rename_i q;obtain rfl:=Option.some.inj e';exact .inl ⟨q,rfl⟩
  ·exact .inr e'
 have L:W.Le (W.add a ob):=⟨ug,fun d d h=>h⟩;refine⟨⟨fun b o e=>?_,S.ju,S.b9,fun b j h hl=>?_,fun j o e=>?_,fun c Q q hm=>?_,S.base.mono ug⟩,P.le.trans L,P.wN,P.Dz,fun b o e=>?_,P.keep,P.cl,P.gone,P.len,P.size,P.os,P.gens⟩
 ·rcases zc b o e with ⟨rfl,rfl⟩|e
  ·exact g
  ·exact S.z b o e
 ·induction hh:(W.add a ob).Z b with
  |none=>rfl|some o=>
   rcases zc b o hh with ⟨rfl,rfl⟩|h'
   ·have h2:W.own b=some j:=h;rw[f1] at h2;exact nE h2
   ·rw[S.sr b j h hl] at h';exact nE h'
 ·obtain⟨b,h1,h2⟩:=S.obj j o e;exact⟨b,h1,h2.keeps L (fun d h=>h) (fun d e=>e) fun d d d e=>e⟩
 ·obtain⟨h1,⟨oc,h0⟩,h2,mS,ps,h3,h4,h5⟩:=S.tab c Q q hm;refine⟨h1,⟨oc,ug _ _ h0⟩,?_,mS,ps,h3,h4,fun pos cv hc=>(h5 pos cv hc).mono ug⟩
  ·induction hh:(W.add a ob).Z Q with
   |none=>rfl|some o=>
    rcases zc Q o hh with ⟨rfl,_⟩|h'
    ·exact absurd ⟨c,q,hm⟩ f3
    ·rw[h2] at h';exact nE h'
 ·rcases zc b o e with ⟨rfl,rfl⟩|e
  ·exact .inr (.inl ha)
  ·exact P.wO b o e
set_option tactic.hygienic true in
theorem ah.Bt{X:Addr→Prop}{a:Addr}{o:az}(P:ah W₀ H₀ s₀ X W H s)(f:b_ W a)(ha:s₀.heap.objs.size≤a)(bL:a<s.heap.objs.size)(hr:lK (W.ref H.length a) s.heap a H.length o):
  ah W₀ H₀ s₀ X (W.ref H.length a) (H++[o]) s:=by
 obtain S:=P.sim;obtain⟨f1,f2,f3⟩:=f;obtain L:W.Le (W.ref H.length a):=Wd.ig S (Nat.le_refl _);have oc:∀b k,(W.ref H.length a).own b=some k→(b=a∧k=H.length)∨(b≠a∧W.own b=some k):=fun b k e=>by
  have e':(if b=a then some H.length else W.own b)=some k:=e;split at e'
  ·rename_i q;obtain rfl:=Option.some.inj e';exact .inl ⟨q,rfl⟩
  ·rename_i q;exact .inr ⟨q,e'⟩
 have wN:∀b k,W.own b=some k→(W.ref H.length a).own b=some k:=fun b k e=>by refine(if_neg (fun q=>by rw[q,f1] at e;exact nE e)).trans ?_;exact e
 refine⟨⟨S.z,fun k b e=>?_,fun b k e=>?_,fun b k e hl=>?_,fun k o' e=>?_,fun c Q q hm=>?_,S.base⟩,P.le.trans L,fun b k e=>wN b k (P.wN b k e),fun b k e=>?_,P.wO,P.keep,P.cl,fun k e=>?_,by simp;exact Nat.le_succ_of_le P.len,P.size,P.os,P.gens⟩
 ·have e':(if k=H.length then some a else W.φ k)=some b:=e;show(if b=a then some H.length else W.own b)=some k;split at e'
  ·rename_i q;obtain rfl:=Option.some.inj e';rw[if_pos rfl,q]
  ·exact wN b k (S.ju k b e')
 ·rcases oc b k e with ⟨rfl,rfl⟩|⟨_,e⟩
  ·exact⟨by simp,bL⟩
  ·exact⟨by simp;exact Nat.lt_succ_of_lt (S.b9 b k e).1,(S.b9 b k e).2⟩
 ·rcases oc b k e with ⟨rfl,rfl⟩|⟨_,e⟩
  ·exact f2
  ·refine S.sr b k e ?_;obtain⟨q,hq,hn⟩:=hl;rw[List.getElem?_append_left (S.b9 b k e).1] at hq;exact⟨q,hq,hn⟩
 ·by_cases hk:k<H.length
  ·rw[List.getElem?_append_left hk] at e;obtain⟨b,h1,h2⟩:=S.obj k o' e;exact⟨b,L.φ _ _ h1,h2.keeps L (fun b hb=>wN b k hb) (fun d e=>e) fun d d d e=>e⟩
  ·have gV:k=H.length:=by
    have :=(cV e).1;simp at this;exact aE (nat_lit 0x10251054191801112) ae this hk
   subst gV;rw[List.getElem?_append_right (Nat.le_refl _),Nat.sub_self] at e;obtain rfl:=Option.some.inj e;exact⟨a,Wd.eJ ..,hr⟩
 ·obtain⟨h1,h0,h2,mS,ps,h3,h4,h5⟩:=S.tab c Q q hm;refine⟨h1,h0,h2,?_,ps,h3,h4,h5⟩;show(if Q=a then some H.length else W.own Q)=none;rw[if_neg (fun e=>f3 ⟨c,q,by refine e▸?_;exact hm⟩)];exact mS
 ·rcases oc b k e with ⟨rfl,rfl⟩|⟨_,e⟩
  ·exact .inr ⟨ha,by rw[List.getElem?_eq_none P.len];intro e;cases e⟩
  ·exact P.Dz b k e
 ·have :=P.gone k e;have bL:=(cV this).1;refine(List.getElem?_append_left bL).trans ?_;exact this
theorem yD{X:Addr→Prop}{c:Bool}{vs:List V}{v:V}{a:Addr}{ys:Array Value}{m:Nat}(h:(if c then gY (.lst vs) else pure (.lst vs)) H=some (v,H'))(P:ah W₀ H₀ s₀ X W H s)(f:b_ W a)(ha:s₀.heap.objs.size≤a)
  (g:s.heap.get? a=some (gW ys m))(hl:vs.length<ai)(r:aA W vs ys.toList):∃W',ah W₀ H₀ s₀ X W' H' s∧W.Le W'∧Rel W' v (.ref a)∧∀b,b≠a→b_ W b→b_ W' b:=by
 induction c with
 |false=>refine hU h ?_;obtain L:W.Le (W.add a (gW ys m)):=⟨fun b o e=>by refine(if_neg (fun q=>by rw[q,f.2.1] at e;exact nE e)).trans ?_;exact e,fun d d h=>h⟩;refine⟨_,P.vD f ha g,L,?_,fun b hb fb=>⟨fb.1,(if_neg hb).trans fb.2.1,fb.2.2⟩⟩;exact⟨a,m,ys,rfl,Wd.aU ..,hl,r.mono L⟩
 |true=>
  obtain⟨rfl,rfl⟩:=eI h;have L:W.Le (W.ref H.length a):=Wd.ig P.sim (Nat.le_refl _)
  refine⟨_,P.Bt f ha (Heap.lt_size g) ⟨m,ys,g,hl,r.mono L⟩,L,?_,fun b hb fb=>⟨(if_neg hb).trans fb.1,fb.2.1,fb.2.2⟩⟩;exact⟨a,rfl,Wd.eJ ..⟩
theorem kD{X:Addr→Prop}{c:Bool}{vs:List (Str×V)}{v:V}{a:Addr}{ys:Array DictEntry}{m:Nat}(h:(if c then gY (.aF vs) else pure (.aF vs)) H=some (v,H'))(P:ah W₀ H₀ s₀ X W H s)(f:b_ W a)(ha:s₀.heap.objs.size≤a)
  (g:s.heap.get? a=some (cX ys m))(h0:a≠sysModules)(nd:(vs.map (·.1)).Nodup)(hl:vs.length<ai)(r:Reld W vs ys.toList):∃W',ah W₀ H₀ s₀ X W' H' s∧W.Le W'∧Rel W' v (.ref a)∧∀b,b≠a→b_ W b→b_ W' b:=by
 cases c with
 |false=>refine hU h ?_;obtain L:W.Le (W.add a (cX ys m)):=⟨fun b o e=>by refine(if_neg (fun q=>by rw[q,f.2.1] at e;exact nE e)).trans ?_;exact e,fun d d h=>h⟩;refine⟨_,P.vD f ha g,L,?_,fun b hb fb=>⟨fb.1,(if_neg hb).trans fb.2.1,fb.2.2⟩⟩;exact⟨a,m,ys,rfl,Wd.aU ..,h0,nd,hl,r.mono L⟩
 |true=>obtain T9:=(eI h).1;obtain T_:=(eI h).2;subst T9;subst T_;obtain L:W.Le (W.ref H.length a):=Wd.ig P.sim (Nat.le_refl _);refine⟨_,P.Bt f ha (Heap.lt_size g) ⟨m,ys,g,h0,nd,hl,r.mono L⟩,L,?_,fun b hb fb=>⟨(if_neg hb).trans fb.1,fb.2.1,fb.2.2⟩⟩;exact⟨a,rfl,Wd.eJ ..⟩
end
section
variable{n:Nat}{A:Around}{E:Value→Shared→Prop}{W W' W₀:Wd}{H H' H₀:AH}{s s' s₀:Shared}{sc:Scope}{env:af}{e':Env}
theorem aH.mods(S:aH W H s){a:Addr}(h:s.heap.objs.size≤a):a≠sysModules:=by rintro rfl;exact absurd S.cj.mods (Nat.not_lt_of_le h)
end
set_option tactic.hygienic true in
theorem pQ{pos:Pos}{a b:Int}{c cv:Value}:∀(l:List Value),TriplesOk l→codeAmong pos (l++[rawInt a,rawInt b,c])=some cv→codeAmong pos l=some cv∨cv=c
|[],aK,h=>by
 have h':(if a==pos.line&&b==pos.col then some c else codeAmong pos [])=some cv:=h;split at h'
 ·obtain rfl:=Option.some.inj h';exact .inr rfl
 ·exact nE h'
|[x],ht,aK=>by induction x<;>exact ht.elim
|[x,y],ht,aK=>by induction x<;>first|exact ht.elim|(induction y<;>exact ht.elim)
|x::y::z::r,ht,h=>by
 induction x<;>first|exact ht.elim|skip
 induction y<;>first|exact ht.elim|skip
 rename_i x _ y _;have h':(if x==pos.line&&y==pos.col then some z else codeAmong pos (r++[rawInt a,rawInt b,c]))=some cv:=h
 refine(?_:(if x==pos.line&&y==pos.col then some z else codeAmong pos r)=some cv∨_);split at h'
 ·rename_i hc;rw[if_pos hc];exact .inl h'
 ·rename_i hc;rw[if_neg hc];exact pQ r ht h'
theorem ji{e:Env}:∀(names:List (Str×NameKind)) (cs:List (Str×Addr)),(∀n∈names,n.2=.free→(e.cells.lookup n.1).isSome=true)→
  ∃cl,(forIn names cs fun(x:Str×NameKind) (cs:List (Str×Addr))=>(match x with |(name,kind)=>if(kind==.free)=true then do let a←cellOf e name;pure (ForInStep.yield ((name,a)::cs)) else pure (ForInStep.yield cs):Sem (ForInStep (List (Str×Addr)))))=pure cl∧
   (∀n,(n,NameKind.free)∈names→cl.lookup n=e.cells.lookup n)∧(∀n,(n,NameKind.free)∉names→cl.lookup n=cs.lookup n)
 |[],cs,aK=>⟨cs,by rw[List.forIn_nil],(fun n h=>nomatch h),fun b b=>rfl⟩|(m,k)::r,cs,h=>by
  rw[List.forIn_cons];obtain hr:∀n∈r,n.2=.free→(e.cells.lookup n.1).isSome=true:=fun n hn=>h n (List.mem_cons_of_mem _ hn)
  by_cases hk:k=.free
  ·subst hk;obtain⟨a,ha⟩:=mh (h _ (List.mem_cons_self ..) rfl);refine(ji (e:=e) r ((m,a)::cs) hr).elim fun cl z5=>?_;obtain g1:=z5.1;obtain g2:=z5.2.1;obtain g3:=z5.2.2
   refine⟨cl,?_,fun n hn=>?_,fun n hn=>?_⟩
   ·have :cellOf e m=pure a:=by unfold cellOf;rw[ha]
    simp only[this,beq_self_eq_true,if_true,pure_bind];exact g1
   ·by_cases Ua:(n,NameKind.free)∈r
    ·exact g2 n Ua
    ·rcases bM hn with e1|e1
     ·cases e1;simp only[g3 _ Ua,List.lookup_cons_self,ha]
     ·exact absurd e1 Ua
   ·obtain h1:(n,NameKind.free)∉r:=fun q=>hn (List.mem_cons_of_mem _ q)
    obtain h2:n≠m:=fun q=>hn (by refine q▸?_;exact List.mem_cons_self ..)
    simp only[g3 n h1,List.lookup_cons];have :(n==m)=false:=by simpa using h2
    rw[this]
  ·refine(ji (e:=e) r cs hr).elim fun cl zx=>?_;obtain g1:=zx.1;obtain g2:=zx.2.1;obtain g3:=zx.2.2
   refine⟨cl,?_,fun n hn=>?_,fun n hn=>?_⟩
   ·have :(k==NameKind.free)=false:=by simpa using hk
    simp only[this,Bool.false_eq_true,if_false,pure_bind];exact g1
   ·rcases bM hn with e1|e1
    ·obtain⟨rfl,rfl⟩:=Prod.mk.inj e1;exact absurd rfl hk
    ·exact g2 n e1
   ·exact g3 n fun q=>hn (List.mem_cons_of_mem _ q)
section
variable{n:Nat}{A:Around}{E:Value→Shared→Prop}{W W' W₀:Wd}{H H' H₀:AH}{s s' s₀:Shared}{sc au:Scope}{env:af}{e':Env}
theorem fu(h:gn sc au=true):au.kind=.function∧(au.names.map (·.1)).Nodup∧gK au=false∧∀x,(x,NameKind.free)∈au.names→(kindOf sc x=some .cell∨kindOf sc x=some .free)∧x≠Str.ofString "__classdict__":=by
 unfold gn at h;simp only[Bool.and_eq_true,beq_iff_eq,decide_eq_true_eq,Bool.not_eq_true',List.all_eq_true] at h;refine h.elim fun Ub h4=>?_;refine Ub.elim fun Uc h3=>?_;refine Uc.elim fun h1 h2=>?_
 refine⟨h1,h2,h3,fun x hx=>?_⟩;obtain this:=h4 _ hx;simp only[Bool.or_eq_true,bne_iff_ne,ne_eq,not_true_eq_false,false_or,Bool.and_eq_true,beq_iff_eq] at this;exact this
theorem mapM_some{α β:Type}{f:α→Option β}:∀{l:List α} {r:List β},l.mapM f=some r→∀x∈l,∃y,f x=some y∧y∈r
|[],r,h,x,hx=>by cases hx
|a::l,r,h,x,hx=>by
 rw[List.mapM_cons] at h;induction ha:f a with
 |none=>obtain h:=ha▸h;exact nE h
 |some b=>
  rw[ha] at h;induction hr:l.mapM f with
  |none=>obtain h:=hr▸h;exact nE h
  |some bs=>
   rw[hr] at h;obtain rfl:=Option.some.inj h;rcases bM hx with rfl|hx
   ·exact⟨b,ha,List.mem_cons_self ..⟩
   ·refine(mapM_some hr x hx).elim fun y Wq=>?_;obtain h1:=Wq.1;obtain h2:=Wq.2
    exact⟨y,h1,List.mem_cons_of_mem _ h2⟩
theorem pR{α β:Type}{f:α→Option β}:∀{l:List α} {r:List β},l.mapM f=some r→∀y∈r,∃x∈l,f x=some y
|[],r,h,y,hy=>by obtain rfl:=Option.some.inj h;cases hy
|a::l,r,h,y,hy=>by
 rw[List.mapM_cons] at h;induction ha:f a with
 |none=>obtain h:=ha▸h;exact nE h
 |some b=>
  rw[ha] at h;induction hr:l.mapM f with
  |none=>obtain h:=hr▸h;exact nE h
  |some bs=>
   rw[hr] at h;obtain rfl:=Option.some.inj h;rcases bM hy with rfl|hy
   ·exact⟨a,List.mem_cons_self ..,ha⟩
   ·refine(pR hr y hy).elim fun x Wr=>?_;obtain h1:=Wr.1;obtain h2:=Wr.2
    exact⟨x,List.mem_cons_of_mem _ h1,h2⟩
theorem gy{c7:List (Str×V)}(h:e_ au env=some c7):(∀x,(x,NameKind.free)∈au.names→∃v,aS env x=some v∧(x,v)∈c7)∧∀x v,(x,v)∈c7→(x,NameKind.free)∈au.names∧aS env x=some v:=by
 refine⟨fun x hx=>?_,fun x v hv=>?_⟩
 ·obtain⟨y,h1,h2⟩:=mapM_some h (x,.free) (List.mem_filter.mpr ⟨hx,by rfl⟩);induction hl:aS env x with
  |none=>obtain h1:=hl▸h1;exact nE h1
  |some v=>rw[hl] at h1;obtain rfl:=Option.some.inj h1;exact⟨v,rfl,h2⟩
 ·obtain⟨⟨m,k⟩,h1,h2⟩:=pR h (x,v) hv;obtain hm:=(zD h1).1;obtain hk:=(zD h1).2;obtain hk:k=.free:=by simpa using hk
  subst hk;induction hl:aS env m with
  |none=>obtain h2:=hl▸h2;exact nE h2
  |some u=>rw[hl] at h2;cases h2;exact⟨hm,hl⟩
theorem nu{c7:List (Str×V)}(hc:e_ au env=some c7)(gr:gn sc au=true)(N:ak sc env e' W s):
  ∃cl,closureFor au e'=pure cl∧(∀x,(x,NameKind.free)∈au.names→cl.lookup x=e'.cells.lookup x)∧∀x,(x,NameKind.free)∉au.names→cl.lookup x=none:=by
 obtain Ud:=fu gr;obtain nv:=Ud.2.2.2;refine(gy hc).elim fun c1 b=>?_
 obtain hs:∀m∈au.names,m.2=.free→(e'.cells.lookup m.1).isSome=true:=fun m hm hk=>by
  obtain⟨x,k⟩:=m;subst hk;refine(c1 x hm).elim fun v Ue=>?_;obtain hv:=Ue.1
  rcases(nv x hm).1 with h|h
  ·obtain⟨c,_,_,h1,_⟩:=N.cells x h;rw[h1];rfl
  ·obtain⟨c,_,_,h1,_⟩:=N.frees x v h hv;rw[h1];rfl
 refine(ji (e:=e') au.names [] hs).elim fun cl Bu=>?_;obtain g1:=Bu.1;obtain g2:=Bu.2.1;obtain g3:=Bu.2.2
 refine⟨cl,?_,g2,fun x hx=>by rw[g3 x hx];rfl⟩;show(forIn au.names ([]:List (Str×Addr)) (fun(x:Str×NameKind) (cs:List (Str×Addr))=>(match x with |(name,kind)=>if(kind==.free)=true then do let a←cellOf e' name;pure (ForInStep.yield ((name,a)::cs)) else pure (ForInStep.yield cs):Sem (ForInStep (List (Str×Addr)))))>>=fun r=>pure r)=pure cl
 rw[g1];rfl
end
section
variable{n:Nat}{A:Around}{E:Value→Shared→Prop}{W W' W₀:Wd}{H H' H₀:AH}{s s' s₀:Shared}{sc au:Scope}{env:af}{e':Env}
set_option tactic.hygienic true in
theorem ah.table(S:aH W H s)(X:Addr→Prop){c P c':Addr}{q:Str}{ps:Array Value}{oc:Obj}{vs:Array Value}{t:Tok}{a b:Int}{h':Heap}{tk:Nat}(hm:(c,P,q)∈G.tabs)(hP:s.heap.get? P=some (tabObj ps))
  (hx:Heap.ExtBut P s.heap h')(hsz:s.heap.objs.size≤h'.objs.size)(xg:s.heap.objs.size≤c')(Ug:h'.get? c'=some oc)(hd:oc.data=.fields vs)(hv:vs[1]?=some (.str (q++"<lambda>") t))
  (vE:h'.get? P=some (tabObj (ps++#[rawInt a,rawInt b,.ref c']))):ah W H s X (W.add c' oc) H {s with heap:=h',toks:=tk}:=by
 obtain⟨_,_,zP,oP,Ry,gP,tP,cP⟩:=S.tab c P q hm;have :Ry=ps:=by
  rw[hP] at gP;have :=Option.some.inj gP
  simp only[tabObj,Obj.mk.injEq,Data.fields.injEq,true_and,and_true] at this;exact this.symm
 subst this;obtain zc:W.Z c'=none:=S.ic xg;obtain YD:W.own c'=none:=S.cO xg;have ug:∀b o,W.Z b=some o→(W.add c' oc).Z b=some o:=fun b o e=>by show(if b=c' then some oc else W.Z b)=some o;rw[if_neg (fun q=>by rw[q,zc] at e;exact nE e)];exact e
 have Uh:∀b o,(W.add c' oc).Z b=some o→(b=c'∧o=oc)∨W.Z b=some o:=fun b o e=>by
  have e':(if b=c' then some oc else W.Z b)=some o:=e;split at e'
  ·rename_i q;obtain rfl:=Option.some.inj e';exact .inl ⟨q,rfl⟩
  ·exact .inr e'
 have L:W.Le (W.add c' oc):=⟨ug,fun d d h=>h⟩;have zk:∀b o,W.Z b=some o→h'.get? b=some o:=fun b o e=>hx b o (fun q=>by rw[q,zP] at e;exact nE e) (S.z b o e)
 have ok:∀b k o,W.own b=some k→s.heap.get? b=some o→h'.get? b=some o:=fun b k o hb e=>hx b o (fun q=>by rw[q,oP] at hb;exact nE hb) e
 refine⟨⟨fun b o e=>?_,S.ju,fun b k e=>⟨(S.b9 b k e).1,Nat.lt_of_lt_of_le (S.b9 b k e).2 hsz⟩,fun b k e hl=>?_,fun k o e=>?_,fun c2 P2 q2 Ws=>?_,S.base.mono ug⟩,L,fun d d h=>h,fun d d h=>.inl h,fun b o e=>?_,fun b o e hn d d=>hx b o (fun q1=>hn ⟨c,q,by rw[q1];exact hm⟩) e,fun b Ui ht e=>?_,fun d h=>h,Nat.le_refl _,hsz,rfl,rfl⟩
 ·rcases Uh b o e with ⟨rfl,rfl⟩|e
  ·exact Ug
  ·exact zk b o e
 ·induction hh:(W.add c' oc).Z b with
  |none=>rfl|some o=>
   rcases Uh b o hh with ⟨rfl,rfl⟩|h1
   ·have e2:W.own b=some k:=e;rw[YD] at e2;exact nE e2
   ·rw[S.sr b k e hl] at h1;exact nE h1
 ·obtain⟨b,h1,h2⟩:=S.obj k o e;exact⟨b,h1,h2.keeps L (fun d h=>h) (fun ob e=>ok b k ob (S.ju k b h1) e) fun b' ob hb e=>ok b' k ob hb e⟩
 ·obtain⟨h1,⟨Wt,h0⟩,h2,mS,Ui,h3,h4,h5⟩:=S.tab c2 P2 q2 Ws
  have hd2:CodeHd h' c2 P2:=by
   obtain⟨o,YE,file,tf,flags,tg,J4,text,tt,e,r⟩:=h1;have :=S.z _ _ h0
   rw[e] at this;cases this;exact⟨_,YE,file,tf,flags,tg,J4,text,tt,zk _ _ h0,r⟩
  have Wu:(W.add c' oc).Z P2=none:=by show(if P2=c' then some oc else W.Z P2)=none;rw[if_neg (fun q=>absurd (Heap.lt_size h3) (Nat.not_lt_of_le (by rw[q];exact xg)))];exact h2
  by_cases Wv:P2=P
  ·subst Wv;obtain YF:=S.cj.AV c P2 q c2 q2 hm Ws;subst YF;rw[gP] at h3;have :Ui=Ry:=by have :=Option.some.inj h3;simp only[tabObj,Obj.mk.injEq,Data.fields.injEq,true_and,and_true] at this;exact this.symm
   subst this;refine⟨hd2,⟨Wt,ug _ _ h0⟩,Wu,mS,_,vE,by rw[Array.toList_append];exact TriplesOk_snoc _ _ _ _ h4,fun pos cv hc=>?_⟩;rw[Array.toList_append] at hc;rcases pQ _ h4 hc with hc|rfl
   ·exact(h5 pos cv hc).mono ug
   ·exact⟨c',oc,vs,t,rfl,Wd.aU ..,hd,hv⟩
  ·refine⟨hd2,⟨Wt,ug _ _ h0⟩,Wu,mS,Ui,hx _ _ Wv h3,h4,fun pos cv hc=>(h5 pos cv hc).mono ug⟩
 ·rcases Uh b o e with ⟨rfl,rfl⟩|e
  ·exact .inr (.inl xg)
  ·exact .inl e
 ·by_cases hb:b=P
  ·subst hb;rw[hP] at e;obtain this:=Option.some.inj e;simp only[tabObj,Obj.mk.injEq,Data.fields.injEq,true_and,and_true] at this;subst this;exact⟨_,vE⟩
  ·exact⟨#[],by exact hx _ _ hb e⟩
theorem Ew{c7:List (Str×V)}{cl:List (Str×Addr)}(hc:e_ au env=some c7)(gr:gn sc au=true)(zv:c7.all (fun kv=>G.C.wo kv.1)=true)(N:ak sc env e' W s)
  (jd:∀x,(x,NameKind.free)∈au.names→cl.lookup x=e'.cells.lookup x):lJ W c7 cl:=by
 refine(fu gr).elim fun YG Uj=>?_;obtain nv:=Uj.2.2
 obtain⟨c1,c2⟩:=gy hc;obtain key:∀l:List (Str×V),(∀p∈l,p∈c7)→lJ W l cl:=by
  intro l;induction l with
  |nil=>intro _;trivial|cons p r ih=>
   obtain⟨x,v⟩:=p;intro hp;refine⟨?_,ih fun p hm=>hp p (List.mem_cons_of_mem _ hm)⟩;obtain hm:=hp (x,v) (List.mem_cons_self ..);refine(c2 x v hm).elim fun hx hv=>?_
   have hw:G.C.wo x=true:=cZ zv _ hm;rcases(nv x hx).1 with h|h
   ·obtain⟨c,o,u,h1,h2,h3,h4,h5,h6⟩:=N.cells x h;rw[hv] at h6;obtain⟨⟨y,rfl,ry⟩,hz⟩:=h6;rw[if_pos hw] at hz;exact⟨c,o,y,by refine(jd x hx).trans ?_;exact h1,hz,h4,ry⟩
   ·obtain⟨c,o,y,h1,h2,h4,h5,_,h6⟩:=N.frees x v h hv;rcases h6 with h6|⟨h6,_⟩
    ·exact⟨c,o,y,by refine(jd x hx).trans ?_;exact h1,h6,h4,h5⟩
    ·rw[hw] at h6;exact nomatch h6
 exact key c7 fun p h=>h
end
noncomputable def Out.expr(out:Out)(gens:List Comprehension)(au:Scope)(pos:Pos):Expr:=match out with |.e x=>.ListComp x gens au pos|.kv k v=>.DictComp k v gens au pos
noncomputable def emitC(out:Out)(acc:Value)(env:Env):Sem Unit:=match out with
|.e elt=>do let _←call (.builtin "list.append") [acc,←eval elt env]
|.kv k v=>do
 let kv←eval k env;let vv←holding [kv] (eval v env)
 match acc with
 |.ref d=>do
  standAt {k.pos with endLine:=v.pos.endLine,endCol:=v.pos.endCol}
  holding [kv,vv] (dictSet d kv vv)
 |_=>unsupported "internal:dictcomp"
noncomputable def pS(out:Out)(gens:List Comprehension)(au:Scope)(pos:Pos)(d:Nat)(acc:Value)(env:Env)(K:Sem PySem.Fin):Sem PySem.Fin:=match gens[d+1]? with
|some g'=>do
 let x←eval g'.iter env
 standAt g'.iter.pos
 let x←if g'.is_async !=0 then foldedIterable g'.iter x else foldedSetIterable g'.iter env x
 let _←runOwn (.compStart (out.expr gens au pos) (d+1) (←holding [x] (if g'.is_async !=0 then asyncIter x else pyIter x)) acc env) env
 K
|none=>do
 emitC out acc env
 K
theorem compTurn_gen{out:Out}{gens:List Comprehension}{au:Scope}{pos:Pos}{d:Nat}{it acc:Value}{env:Env}{g:Comprehension}(hg:gens[d]?=some g)(ha:g.is_async=0):
  compTurn (out.expr gens au pos) d it acc env=(do
   standAt g.iter.pos
   match ←pyNext it with
   |none=>pure (.done .next)|some v=>
    letOwnedTupleGo g.target it v
    assign g.target env v
    let mut ok:=true
    for c in g.ifs do
     if ok then ok←isTrue c env (eval c env)
    if ok then
     pS out gens au pos d acc env (again (.compLoop (out.expr gens au pos) d it acc env))
    else again (.compLoop (out.expr gens au pos) d it acc env)):=by
 obtain⟨t,i,f,a⟩:=g;cases ha;induction out with |e x=>unfold compTurn Out.expr;dsimp only;rw[hg];rfl|kv k v=>unfold compTurn Out.expr;dsimp only;rw[hg];rfl
section
variable{A:Around}{E:Value→Shared→Prop}{R:Result→Shared→Prop}{s:Shared}
theorem i5{out:Out}{gens:List Comprehension}{au:Scope}{pos:Pos}{d:Nat}{it acc:Value}{env:Env}{g:Comprehension}(hg:gens[d]?=some g)(ha:g.is_async=0)
  (h0:codeAny (model G.prog G.w) A (.compLoop (out.expr gens au pos) d it acc env) R s)
  (h:wpAny (model G.prog G.w) A (pyIter it) (fun HA s'=>codeAny (model G.prog G.w) A (.compLoop (out.expr gens au pos) d HA acc env) R s') (notedBy (model G.prog G.w) A env fun x s'=>R (.error x) s') s):
  codeAny (model G.prog G.w) A (.compStart (out.expr gens au pos) d it acc env) R s:=by
 have jd:clausesOf (out.expr gens au pos)=gens:=by induction out<;>rfl
 refine codeAny_of_tree ?_
 have J_:wpAny (model G.prog G.w) A ((compStart (out.expr gens au pos) d it acc env).onRaise (fun x=>do noteFrame x env;standAt theWindowsPlace)) (fun fin s'=>match fin with |.done f=>R (.ok f) s'|.again c'=>c'.quiet=true∧codeAny (model G.prog G.w) A c' R s')
   (fun e s'=>R (.error e) s') s:=by
  refine wpAny_notedAt ?_;unfold compStart;rw[jd,hg];obtain Rz:(some g).elim false (fun x=>x.is_async !=0)=false:=by simp[ha]
  refine Rz.symm▸?_;have Ww:(Code.compLoop (out.expr gens au pos) d it acc env).quiet=true:=by induction out<;>rfl
  have OI:∀HA,(Code.compLoop (out.expr gens au pos) d HA acc env).quiet=true:=fun HA=>by induction out<;>rfl
  refine wpAny_bind (wpAny_askSetting (wpAny_ite ?_));split
  ·first
    |exact wpAny_bind (wpAny_pure (wpAny_pure (And.intro Ww h0)))|exact wpAny_pure (And.intro Ww h0)
  ·first
    |exact wpAny_bind (wpAny_rule (wpAny_bind (wpAny_standAt (wpAny_bind (wpAny_mono h (fun HA s' h'=>wpAny_pure (And.intro (OI HA) h')) fun a a x=>x)))))|(refine wpAny_bind (wpAny_rule ?_);exact wpAny_bind (wpAny_standAt (wpAny_bind (wpAny_mono h (fun HA s' h'=>wpAny_pure (And.intro (OI HA) h')) fun a a x=>x))))
 induction out<;>exact J_
theorem qW{out:Out}{gens:List Comprehension}{au:Scope}{pos:Pos}{d:Nat}{it acc:Value}{env:Env}{g:Comprehension}(hg:gens[d]?=some g)(ha:g.is_async=0)(I:Nat→Shared→Prop)
  (turn:∀n s,I n s→∀(E:Value→Shared→Prop) (Q:Option Value→Shared→Prop) (B:Bool→Shared→Prop) (K:Sem PySem.Fin) (T:PySem.Fin→Shared→Prop),(∀s',R (.ok .next) s'→Q none s')→
   (∀v s',wpAny (model G.prog G.w) A (letOwnedTupleGo g.target it v) (fun a s₀=>wpAny (model G.prog G.w) A (assign g.target env v) (fun a s₂=>wpAny (model G.prog G.w) A (forIn g.ifs true fun c r=>if r=true then do let ok←isTrue c env (eval c env);pure (ForInStep.yield ok) else pure (ForInStep.yield r)) B E s₂) E s₀) E s'→Q (some v) s')→
   (∀s',wpAny (model G.prog G.w) A (pS out gens au pos d acc env K) T E s'→B true s')→(∀m s',m<n→I m s'→wpAny (model G.prog G.w) A K T E s')→(∀m s',m<n→I m s'→B false s')→wpAny (model G.prog G.w) A (pyNext it) Q E s)
  (n:Nat)(h:I n s):codeAny (model G.prog G.w) A (.compLoop (out.expr gens au pos) d it acc env) R s:=by
 have hq:(Code.compLoop (out.expr gens au pos) d it acc env).quiet=true:=by induction out<;>rfl
 refine codeAny_loop hq I (fun n s hI=>?_) n h;have J_:wpAny (model G.prog G.w) A ((compTurn (out.expr gens au pos) d it acc env).onRaise (fun x=>do noteFrame x env;theTreesLotGoes x)) (fun fin s'=>match fin with |.done f=>R (.ok f) s'|.again c'=>c'=.compLoop (out.expr gens au pos) d it acc env∧∃m,m<n∧I m s') (fun e s'=>R (.error e) s') s:=by
  refine wpAny_noted ?_;refine(compTurn_gen hg ha)▸?_;exact wpAny_bind (wpAny_standAt (wpAny_bind (turn n s hI _ _ (fun ok s'=>wpAny (model G.prog G.w) A (if ok=true then pS out gens au pos d acc env (again (.compLoop (out.expr gens au pos) d it acc env)) else again (.compLoop (out.expr gens au pos) d it acc env)) _ _ s') (again (.compLoop (out.expr gens au pos) d it acc env)) _ (fun a h=>wpAny_pure h) (fun v a h=>wpAny_bind (wpAny_mono h (fun a a h=>wpAny_bind (wpAny_mono h (fun a a h=>wpAny_bind h) fun a a h=>h)) fun a a h=>h)) (fun a h=>h) (fun m a hm h=>wpAny_pure ⟨rfl,m,hm,h⟩) fun m a hm h=>wpAny_pure ⟨rfl,m,hm,h⟩)))
 induction out<;>exact J_
end
section
variable{n:Nat}{A:Around}{E:Value→Shared→Prop}{W W' W₀:Wd}{H H' H₀:AH}{s s' s₀:Shared}{sc au:Scope}{env:af}{e':Env}
theorem pT{env:Env}:∀(cs:List Expr),(forIn cs false fun c r=>if r=true then do let ok←PySem.isTrue c env (PySem.eval c env);pure (ForInStep.yield ok) else pure (ForInStep.yield r):Sem Bool)=pure false|[]=>by rfl|c::r=>by rw[List.forIn_cons];exact pT r
def iW(W:Wd)(s:Shared)(a:Addr):Acc→Prop|.l vs=>∃ys m,s.heap.get? a=some (gW ys m)∧vs.length<ai∧aA W vs ys.toList|.d kvs=>∃es m,s.heap.get? a=some (cX es m)∧a≠sysModules∧(kvs.map (·.1)).Nodup∧kvs.length<ai∧Reld W kvs es.toList
theorem iW.keep{a:Addr}{ac:Acc}{X:Addr→Prop}(x:iW W s a ac)(f:b_ W a)(P:ah W H s X W' H' s')(hx:¬X a):iW W' s' a ac∧b_ W' a:=by
 have kp:∀o,s.heap.get? a=some o→s'.heap.get? a=some o:=fun o ho=>P.keep a o ho f.2.2 (fun k h=>by rw[f.1] at h;exact nE h) hx
 induction ac with
 |l vs=>obtain⟨ys,m,g,hl,r⟩:=x;exact⟨⟨ys,m,kp _ g,hl,r.mono P.le⟩,f.post P (Heap.lt_size g) hx⟩
 |d kvs=>obtain⟨es,m,g,h0,nd,hl,r⟩:=x;exact⟨⟨es,m,kp _ g,h0,nd,hl,r.mono P.le⟩,f.post P (Heap.lt_size g) hx⟩
def Apart(au:Scope)(e':Env)(a:Addr):Prop:=a≠e'.locals∧∀y,(kindOf au y=some .cell∨kindOf au y=some .free)→e'.cells.lookup y≠some a
theorem Apart.fM{a:Addr}(h:Apart au e' a):¬bI au e' a:=by
 rintro(rfl|⟨y,hy,hl⟩)
 ·exact h.1 rfl
 ·exact h.2 y (.inl hy) hl
theorem d7{a:Addr}{h':Heap}{tk:Nat}(S:aH W H s)(f:b_ W a)(zu:Heap.SameBut a s.heap h'):ah W H s (fun b=>b=a) W H {s with heap:=h',toks:=tk}:=ah.free S (fun b hb=>by exact hb▸(f)) (fun b o hb ho=>zu.extBut b o hb ho) (Nat.le_of_eq zu.1.symm) rfl rfl
end
section
variable{n:Nat}{A:Around}{E:Value→Shared→Prop}{W W' W₀:Wd}{H H' H₀:AH}{s s' s₀:Shared}{sc au:Scope}{env:af}{e':Env}
theorem iW.lt{a:Addr}{ac:Acc}(x:iW W s a ac):a<s.heap.objs.size:=by
 induction ac with
 |l vs=>obtain⟨ys,m,g,_⟩:=x;exact Heap.lt_size g
 |d kvs=>obtain⟨es,m,g,_⟩:=x;exact Heap.lt_size g
theorem SrcAt.lW{b:Addr}(x:SrcAt W H s b):¬b_ W b:=fun f=>by
 obtain⟨_,hz⟩:=x;rcases hz with ⟨k,hz,_⟩|⟨o',hz⟩
 ·rw[f.1] at hz;exact nE hz
 ·rw[f.2.1] at hz;exact nE hz
theorem qX{α:Type}{l:List α}{d:Nat}{x:α}{r:List α}(h:l.drop d=x::r):l[d]?=some x∧l.drop (d+1)=r:=by
 constructor
 ·have :=List.getElem?_drop (xs:=l) (i:=d) (j:=0);rw[h] at this;simpa using this.symm
 ·rw[←List.drop_drop,h];rfl
end
noncomputable abbrev J'(u:Option Value):Obj:={cls:=.type "cell",data:=.cell u}
section
variable{M:Model}{A:Around}{E:Value→Shared→Prop}{s:Shared}
theorem Bv(names:List (Str×NameKind))(cells:List (Str×Addr)){s:Shared}{Q:List (Str×Addr)→Shared→Prop}
  (h:∀r h',(∀b o,s.heap.get? b=some o→h'.get? b=some o)→s.heap.objs.size≤h'.objs.size→(∀x,(x,NameKind.cell)∈names→∃c,r.lookup x=some c∧s.heap.objs.size≤c∧h'.get? c=some (J' none))→(∀x,(x,NameKind.cell)∉names→r.lookup x=cells.lookup x)→(∀x y c,(x,NameKind.cell)∈names→(y,NameKind.cell)∈names→r.lookup x=some c→r.lookup y=some c→x=y)→Q r {s with heap:=h'}):
  wpAny M A (forIn names cells fun(x:Str×NameKind) (cs:List (Str×Addr))=>(match x with |(name,kind)=>if(kind==.cell)=true then do let a←alloc {cls:=.type "cell",data:=.cell none};pure (ForInStep.yield ((name,a)::cs)) else pure (ForInStep.yield cs):Sem (ForInStep (List (Str×Addr))))) Q E s:=by
 induction names generalizing cells s Q with
 |nil=>exact wpAny_pure (h cells s.heap (fun d d e=>e) (Nat.le_refl _) (fun x hx=>nomatch hx) (fun d d=>rfl) (fun x y c hx=>nomatch hx))|cons p rest ih=>
  obtain⟨m,k⟩:=p;rw[List.forIn_cons];by_cases hk:k=.cell
  ·subst hk;refine wpAny_bind (wpAny_bind (wpAny_alloc (wpAny_pure ?_)));refine ih ((m,s.heap.objs.size)::cells) fun r h' hk hsz h1 h2 h3=>?_
   have hsz:s.heap.objs.size+1≤h'.objs.size:=by
    have :(s.heap.push (J' none)).objs.size≤h'.objs.size:=hsz
    rwa [Heap.size_push] at this
   have h1:∀x,(x,NameKind.cell)∈rest→∃c,r.lookup x=some c∧s.heap.objs.size+1≤c∧h'.get? c=some (J' none):=fun x hx=>by
    refine(h1 x hx).elim fun c z2=>?_;obtain e1:=z2.1;obtain e2:=z2.2.1;obtain e3:=z2.2.2
    rw[Heap.size_push] at e2;exact⟨c,e1,e2,e3⟩
   have hm:(m,NameKind.cell)∉rest→r.lookup m=some s.heap.objs.size:=fun hn=>by simp only[h2 m hn,List.lookup_cons_self]
   refine h r h' (fun b o e=>hk b o (Heap.get?_push_of_some _ e)) (Ln.go (nat_lit 281548411109633) [_,_,0] ae hsz) (fun x hx=>?_) (fun x hx=>?_) (fun x y c hx hy e1 e2=>?_)
   ·by_cases hr:(x,NameKind.cell)∈rest
    ·obtain⟨c,e1,e2,e3⟩:=h1 x hr;exact⟨c,e1,aE (nat_lit 281548411109633) ae e2,e3⟩
    ·rcases bM hx with e|e
     ·cases e;exact⟨_,hm hr,Nat.le_refl _,hk _ _ (Heap.get?_push_size _ rfl)⟩
     ·exact absurd e hr
   ·have hr:(x,NameKind.cell)∉rest:=fun q=>hx (List.mem_cons_of_mem _ q)
    have bV:x≠m:=fun q=>hx (by refine q▸?_;exact List.mem_cons_self ..)
    simp only[h2 x hr,List.lookup_cons];have :(x==m)=false:=by simpa using bV
    rw[this]
   ·by_cases RA:(x,NameKind.cell)∈rest
    ·by_cases L7:(y,NameKind.cell)∈rest
     ·exact h3 x y c RA L7 e1 e2
     ·rcases bM hy with e|e
      ·cases e;rw[hm L7] at e2;cases e2;obtain⟨c',e3,e4,_⟩:=h1 x RA;rw[e1] at e3;obtain rfl:=Option.some.inj e3;exact absurd e4 (Nat.not_succ_le_self _)
      ·exact absurd e L7
    ·rcases bM hx with e|e
     ·cases e;rw[hm RA] at e1;obtain rfl:=Option.some.inj e1;by_cases L7:(y,NameKind.cell)∈rest
      ·obtain⟨c',e3,e4,_⟩:=h1 y L7;rw[e2] at e3;obtain rfl:=Option.some.inj e3;exact absurd e4 (Nat.not_succ_le_self _)
      ·rcases bM hy with e|e
       ·cases e;rfl
       ·exact absurd e L7
     ·exact absurd e RA
  ·have hb:(k==NameKind.cell)=false:=by simpa using hk
   simp only[hb,Bool.false_eq_true,if_false];refine wpAny_bind (wpAny_pure ?_);refine ih cells fun r h' gV hsz h1 h2 h3=>h r h' gV hsz (fun x hx=>?_) (fun x hx=>?_) (fun x y c hx hy=>?_)
   ·rcases bM hx with e|e
    ·cases e;exact absurd rfl hk
    ·exact h1 x e
   ·exact h2 x fun q=>hx (List.mem_cons_of_mem _ q)
   ·have AY:(x,NameKind.cell)∈rest:=by
     rcases bM hx with e|e
     ·cases e;exact absurd rfl hk
     ·exact e
    have NJ:(y,NameKind.cell)∈rest:=by
     rcases bM hy with e|e
     ·cases e;exact absurd rfl hk
     ·exact e
    exact h3 x y c AY NJ
theorem yE{scope:Scope}{globals:Addr}{cl:List (Str×Addr)}{qual:Str}{e':Env}{Q:Env→Shared→Prop}
  (h:∀r h',(∀b o,s.heap.get? b=some o→h'.get? b=some o)→s.heap.objs.size<h'.objs.size→h'.get? s.heap.objs.size=some {cls:=.type "dict",data:=.dict #[]}→
   (∀x,(x,NameKind.cell)∈scope.names→∃c,r.lookup x=some c∧s.heap.objs.size<c∧h'.get? c=some (J' none))→
   (∀x,(x,NameKind.cell)∉scope.names→r.lookup x=cl.lookup x)→(∀x y c,(x,NameKind.cell)∈scope.names→(y,NameKind.cell)∈scope.names→r.lookup x=some c→r.lookup y=some c→x=y)→
   Q {scope,locals:=s.heap.objs.size,globals,cells:=r,qual,func:=none,code:=e'.code,frame:=e'.frame,builtins:=e'.builtins} {s with heap:=h'}):
  wpAny M A (newFunctionEnv scope globals cl [] qual none .none (some e')) Q E s:=by
 refine wpAny_bind (wpAny_alloc ?_);refine wpAny_bind (Bv scope.names cl fun r h' hk hsz h1 h2 h3=>?_);obtain hsz:s.heap.objs.size+1≤h'.objs.size:=by
  have :(s.heap.push {cls:=.type "dict",data:=.dict #[]}).objs.size≤h'.objs.size:=hsz
  rwa [Heap.size_push] at this
 refine wpAny_bind (wpAny_of_eq (List.forIn_nil ..) (wpAny_pure ?_));refine h r h' (fun b o e=>hk b o (Heap.get?_push_of_some _ e)) hsz (hk _ _ (Heap.get?_push_size _ rfl)) (fun x hx=>?_) h2 h3;refine(h1 x hx).elim fun c Ka=>?_;obtain e1:=Ka.1;obtain e2:=Ka.2.1;obtain e3:=Ka.2.2
 rw[Heap.size_push] at e2;exact⟨c,e1,e2,e3⟩
end
theorem iz{env:Env}:∀{names:List (Str×NameKind)} {x:Str} {k:NameKind},names.lookup x=some k→
  (names.map fun(n,k)=>if(k==NameKind.free&&env.scope.kind==.function&&env.kindOf n==some .cell) then(n,NameKind.cell) else(n,k)).lookup x=some k∨
  (k=.free∧(names.map fun(n,k)=>if(k==NameKind.free&&env.scope.kind==.function&&env.kindOf n==some .cell) then(n,NameKind.cell) else(n,k)).lookup x=some .cell)
 |[],aK,bA,h=>by exact nE h|(n,j)::r,x,k,h=>by
  obtain ih:=@iz env r x k;refine(?_:List.lookup x ((if(j==NameKind.free&&env.scope.kind==.function&&env.kindOf n==some .cell)=true then(n,NameKind.cell) else(n,j))::_)=_∨(_∧List.lookup x ((if(j==NameKind.free&&env.scope.kind==.function&&env.kindOf n==some .cell)=true then(n,NameKind.cell) else(n,j))::_)=_));induction hx:x==n with
  |true=>
   simp only[List.lookup_cons,hx] at h;obtain rfl:=Option.some.inj h;by_cases hc:(j==NameKind.free&&env.scope.kind==.function&&env.kindOf n==some .cell)=true
   ·rw[if_pos hc];simp only[Bool.and_eq_true,beq_iff_eq] at hc;simp only[List.lookup_cons,hx];exact .inr ⟨hc.1.1,trivial⟩
   ·rw[if_neg hc];simp only[List.lookup_cons,hx];exact .inl trivial
  |false=>
   simp only[List.lookup_cons,hx] at h;by_cases hc:(j==NameKind.free&&env.scope.kind==.function&&env.kindOf n==some .cell)=true
   ·rw[if_pos hc];simp only[List.lookup_cons,hx];exact ih h
   ·rw[if_neg hc];simp only[List.lookup_cons,hx];exact ih h
section
variable{n:Nat}{A:Around}{E:Value→Shared→Prop}{W W' W₀:Wd}{H H' H₀:AH}{s s' s₀ s₂ s₃:Shared}{sc au:Scope}{env:af}{e':Env}
theorem nA{l:List (Str×V)}{x:Str}{v:V}(h:aS l x=some v):(x,v)∈l:=mem_of_lookup h
theorem vF{c7:List (Str×V)}{cl r:List (Str×Addr)}{L:Addr}{n0:Nat}{o:Obj}(L8:gK sc=false)(gr:gn sc au=true)(lM:e_ au env=some c7)(N:ak sc env e' W s)(Wx:s.heap.objs.size=n0)
  (hk:∀b o,s.heap.get? b=some o→s'.heap.get? b=some o)(fr:∀b,n0≤b→b_ W b)(jd:∀x,(x,NameKind.free)∈au.names→cl.lookup x=e'.cells.lookup x)
  (gL:s'.heap.get? L=some {cls:=.type "dict",data:=.dict #[]})(hL:n0≤L)
  (h1:∀x,(x,NameKind.cell)∈au.names→∃c,r.lookup x=some c∧L<c∧s'.heap.get? c=some (J' none))(h2:∀x,(x,NameKind.cell)∉au.names→r.lookup x=cl.lookup x)
  (h3:∀x y c,(x,NameKind.cell)∈au.names→(y,NameKind.cell)∈au.names→r.lookup x=some c→r.lookup y=some c→x=y)(glob:e'.globals=mainGlobals):
  ak au c7 {scope:=relabel au e',locals:=L,globals:=e'.globals,cells:=r,qual:=e'.qual,func:=none,code:=e'.code,frame:=e'.frame,builtins:=e'.builtins} W s'∧
  (∀y,kindOf au y=some .free→∃c,r.lookup y=some c∧c<n0):=by
 refine(fu gr).elim fun Bw z=>z.elim fun nd z=>z.elim fun YH nv=>?_
 obtain⟨c1,c2⟩:=gy lM;have HB:∀x k,kindOf au x=some k→(x,k)∈au.names:=fun x k h=>mem_of_lookup h
 have Wy:∀x k,(x,k)∈au.names→kindOf au x=some k:=fun x k h=>c9 nd h
 have OJ:∀x v,aS c7 x=some v→kindOf au x=some .free∧aS env x=some v:=fun x v h=>by
  refine(c2 x v (nA h)).elim fun g1 g2=>?_
  exact⟨Wy _ _ g1,g2⟩
 have OL:∀x,kindOf au x≠some .free→aS c7 x=none:=fun x h=>by
  induction e:aS c7 x with |none=>rfl|some v=>exact absurd (OJ x v e).1 h
 have Bx:∀x,kindOf au x=some .free→r.lookup x=e'.cells.lookup x:=fun x h=>by
  obtain hn:(x,NameKind.cell)∉au.names:=fun q=>by have :=Wy _ _ q;rw[h] at this;exact nomatch this
  simp only[h2 x hn,jd x (HB _ _ h)]
 have old:∀x,kindOf au x=some .free→∃v c o y,aS env x=some v∧e'.cells.lookup x=some c∧s.heap.get? c=some o∧o.data=.cell (some y)∧Rel W v y∧(W.Z c=some o∨(G.C.wo x=false∧W.own c=none∧¬G.fg c)):=fun x h=>by
  refine(c1 x (HB _ _ h)).elim fun v z=>z.elim fun hv a=>?_
  rcases(nv x (HB _ _ h)).1 with hs|hs
  ·refine(N.cells x hs).elim fun c OM=>?_;refine OM.elim fun o ON=>?_;refine ON.elim fun u pU=>?_;obtain g1:=pU.1;obtain g2:=pU.2.1;obtain g3:=pU.2.2.1;obtain g4:=pU.2.2.2.1;obtain g5:=pU.2.2.2.2.1;obtain g6:=pU.2.2.2.2.2
   rw[hv] at g6;obtain⟨⟨y,rfl,ry⟩,hz⟩:=g6;refine⟨v,c,o,y,hv,g1,g2,g4,ry,?_⟩;by_cases hw:G.C.wo x=true
   ·rw[if_pos hw] at hz;exact .inl hz
   ·exact .inr ⟨by simpa using hw,g5,g3⟩
  ·refine(N.frees x v hs hv).elim fun c OO=>?_;refine OO.elim fun o OP=>?_;refine OP.elim fun y sY=>?_;obtain g1:=sY.1;obtain g2:=sY.2.1;obtain g4:=sY.2.2.1;obtain g5:=sY.2.2.2.1;obtain g6:=sY.2.2.2.2.2
   exact⟨v,c,o,y,hv,g1,g2,g4,g5,g6⟩
 obtain fL:=fr L hL;refine⟨⟨Bw,glob,N.builtins,fun a=>N.code L8,fun x k h bV=>?_,?_,fun x hx=>?_,fun x v hx hv=>?_,fun x y c hx hy e1 e2=>?_⟩,fun y hy=>?_⟩
 ·exact iz h
 ·refine⟨_,#[],0,fun a=>none,gL,fL.2.2,rfl,⟨_,_,_,gL,rfl,fun e he=>by simp at he,fun x=>rfl⟩,fL.1,fL.2.1,fun x v hx hv=>?_⟩;rw[OL x (by rw[hx];intro h;exact nomatch h)] at hv;exact nE hv
 ·refine(h1 x (HB _ _ hx)).elim fun c By=>?_;obtain g1:=By.1;obtain g2:=By.2.1;obtain g3:=By.2.2
  obtain fc:=fr c (Nat.le_trans hL (Nat.le_of_lt g2));refine⟨c,_,none,g1,g3,fc.2.2,rfl,fc.1,?_⟩;rw[OL x (by rw[hx];intro h;exact nomatch h)];exact fc.2.1
 ·obtain⟨v',c,o',y,g1,g2,g3,g4,g5,g6⟩:=old x hx;have A7:=(OJ x v hv).2;rw[g1] at A7;obtain rfl:=Option.some.inj A7;exact⟨c,o',y,by rw[←g2];exact Bx x hx,hk _ _ g3,g4,g5,by simpa using (nv x (HB _ _ hx)).2,g6⟩
 ·obtain⟨c',q1,q2,_⟩:=h1 x (HB _ _ hx);rw[e1] at q1;obtain rfl:=Option.some.inj q1;rcases hy with hy|hy
  ·exact h3 x y c (HB _ _ hx) (HB _ _ hy) e1 e2
  ·obtain⟨v',c',o',z,g1,g2,g3,_⟩:=old y hy;rw[Bx y hy,g2] at e2;obtain rfl:=Option.some.inj e2;have :=Heap.lt_size g3
   rw[Wx] at this;exact absurd (Nat.lt_of_lt_of_le this hL) (Nat.not_lt_of_le (Nat.le_of_lt q2))
 ·refine(old y hy).elim fun v' OQ=>?_;refine OQ.elim fun c' OR=>?_;refine OR.elim fun o' OS=>?_;refine OS.elim fun z BA=>?_;obtain g1:=BA.1;obtain g2:=BA.2.1;obtain g3:=BA.2.2.1
  exact⟨c',by rw[Bx y hy];exact g2,by have :=Heap.lt_size g3;rw[Wx] at this;exact this⟩
end
noncomputable def qY(out:Out):Sem Value:=match out with |.e _=>newList []|.kv _ _=>newDict
def kG(out:Out):Obj:=match out with |.e _=>gW #[] 0|.kv _ _=>cX #[] 0
section
variable{n:Nat}{A:Around}{E:Value→Shared→Prop}{W W' W₀:Wd}{H H' H₀:AH}{s s' s₀ s₂ s₃:Shared}{sc au:Scope}{env:af}{e':Env}
theorem yF{M:Model}{out:Out}{Q:Value→Shared→Prop}(h:Q (.ref s.heap.objs.size) {s with heap:=s.heap.push (kG out)}):wpAny M A (qY out) Q E s:=by
 induction out with |e x=>exact wpAny_newObj_type h (by show(0:Nat)≤sizeLine;exact Nat.zero_le _)|kv k v=>exact wpAny_newObj_type h
theorem BB{out:Out}{a:Addr}(g:s.heap.get? a=some (kG out))(h0:a≠sysModules):iW W s a out.start:=by
 induction out with |e x=>exact⟨#[],0,g,by show 0<ai;decide,by trivial⟩|kv k v=>exact⟨#[],0,g,h0,by simp,by show 0<ai;decide,by trivial⟩
end
section
variable{n:Nat}{A:Around}{E:Value→Shared→Prop}{W W' W₀ W₄:Wd}{H H' H₀:AH}{s s' s₀ s₂ s₃ s₄:Shared}{sc au:Scope}{env:af}{e':Env}
def yG(c:Bool):Acc→M V
|.l vs=>if c then gY (.lst vs) else pure (.lst vs)
|.d kvs=>if c then gY (.aF kvs) else pure (.aF kvs)
theorem sZ{X:Addr→Prop}{c:Bool}{ac:Acc}{v:V}{a:Addr}{H₁:AH}(h:yG c ac H=some (v,H₁))(P:ah W₀ H₀ s₀ X W H s)(f:b_ W a)(ha:s₀.heap.objs.size≤a)(hA:iW W s a ac):
  ∃W',ah W₀ H₀ s₀ X W' H₁ s∧W.Le W'∧Rel W' v (.ref a)∧∀b,b≠a→b_ W b→b_ W' b:=by
 induction ac with
 |l vs=>obtain⟨ys,m,g,hl,r⟩:=hA;exact yD h P f ha g hl r
 |d kvs=>obtain⟨es,m,g,h0,nd,hl,r⟩:=hA;exact kD h P f ha g h0 nd hl r
theorem OT(N:ak sc env e' W s){b:Addr}(h:bI sc e' b):b<s.heap.objs.size:=by
 rcases h with rfl|⟨y,hy,hl⟩
 ·obtain⟨o,_,_,_,h1,_⟩:=N.locals;exact Heap.lt_size h1
 ·obtain⟨c,oc,u,h1,h2,_⟩:=N.cells y hy;rw[hl] at h1;obtain rfl:=Option.some.inj h1;exact Heap.lt_size h2
end
def BC:Prop:=∀{A:Around} {E:Value→Shared→Prop} {W:Wd} {H H':AH} {s:Shared} {vs:List V} {xs:List Value} {v:V},lR vs H=some (v,H')→aH W H s→aA W vs xs→A.handled=none→wpAny (model G.prog G.w) A (PySem.call (.builtin "sorted") xs) (fun z=>aT W H s aI H' fun W' a=>Rel W' v z) E s
section
variable{n:Nat}{A:Around}{E:Value→Shared→Prop}{W W':Wd}{H H':AH}{s s':Shared}{sc:Scope}{env:af}{e':Env}
end
end Mine
end
noncomputable section
end
noncomputable section
open PySem PySem.W PySem.Builtin PySem.Builtin.Str PyProof.Rows
namespace Mine
theorem BD{α:Type}{cmp:Nat→Nat→(Bool→Shared→Prop)→Shared→Prop}{gJ:Nat→Nat→Option Bool}{s:Shared}(hc:∀i j b (C:Bool→Shared→Prop),gJ i j=some b→C b s→cmp i j C s){Q:α→Shared→Prop}:
  ∀(t:KasT α) {a:α},runK gJ t=some a→Q a s→t.kasWp cmp Q s
 |.ret x,a,h,hq=>by obtain rfl:=Option.some.inj h;exact hq
 |.ask i j k,a,h,hq=>by
  unfold runK at h;induction hb:gJ i j with |none=>rw[hb] at h;exact nE h|some b=>rw[hb] at h;exact hc i j b _ hb (BD hc (k b) h hq)
section
variable{A:Around}{E:Value→Shared→Prop}{W W':Wd}{H H':AH}{s s':Shared}
theorem gz:∀{vs:List V} {xs:List Value} {i:Nat} {v:V},aA W vs xs→vs[i]?=some v→∃x,xs[i]?=some x∧Rel W v x
|[],[],i,v,aK,h=>by simp at h|u::vs,x::xs,0,v,r,h=>by simp at h;subst h;exact⟨x,rfl,r.1⟩|u::vs,x::xs,i+1,v,r,h=>by obtain⟨y,hy,ry⟩:=gz r.2 (i:=i) (by exact h);exact⟨y,by exact hy,ry⟩
|[],aK::bA,i,v,r,gI=>False.elim r|aK::bA,[],i,v,r,gI=>False.elim r
theorem yH{vs:List V}{xs:List Value}(r:aA W vs xs)(i:Nat):Rel W (vs.getD i .none) (xs.getD i .none):=by
 induction h:vs[i]? with
 |some v=>obtain⟨x,hx,rx⟩:=gz r h;simp only[List.getD_eq_getElem?_getD,List.getD_eq_getElem?_getD,h,hx];exact rx
 |none=>
  obtain h2:xs[i]?=none:=by obtain this:=r.length;rw[List.getElem?_eq_none_iff] at h⊢;exact aQ (nat_lit 9289911199871234) ae this h
  simp only[List.getD_eq_getElem?_getD,List.getD_eq_getElem?_getD,h,h2];rfl
theorem jj{vs:List V}{xs:List Value}(r:aA W vs xs):∀(p:List Nat),aA W (p.map fun i=>vs.getD i .none) (p.map fun i=>xs.getD i .none)|[]=>by trivial|i::p=>by exact⟨yH r i,jj r p⟩
set_option tactic.hygienic true in
theorem nB{ks:List V}{i j:Nat}{b:Bool}(h:sortAns ks i j=some b):∃u v,ks[i]?=some u∧ks[j]?=some v∧Rg bg u v=some b:=by
 unfold sortAns at h;split at h
 ·rename_i a c h1 h2;exact⟨a,c,h1,h2,h⟩
 ·exact nE h
theorem lB{vs:List V}{xs:List Value}(r:aA W vs xs){x:Value}(hx:x∈xs):∃v∈vs,Rel W v x:=by
 refine(List.getElem?_of_mem hx).elim fun i hi=>?_
 have hl:=r.length;have bL:=(cV hi).1
 obtain hv:vs[i]?=some vs[i]:=List.getElem?_eq_getElem (by omega);obtain⟨y,hy,ry⟩:=gz r hv;rw[hi] at hy;obtain rfl:=Option.some.inj hy;exact⟨_,List.getElem_mem _,ry⟩
def vG(A:Around)(ks:List V)(vs:List Value)(s:Shared):Prop:=∃κ,(∀(Q:SortKind→Shared→Prop) (E:Value→Shared→Prop),Q κ s→wpAny (model G.prog G.w) A (keyKind' vs.toArray) Q E s)∧∀i j b (C:Bool→Shared→Prop),sortAns ks i j=some b→C b s→kas_ask G.prog G.w A κ vs i j C s
theorem getD_at{xs:List Value}{i:Nat}{x:Value}(h:xs[i]?=some x):xs.getD i Value.none=x:=by rw[List.getD_eq_getElem?_getD,h];rfl
theorem BE{ks:List V}{vs:List Value}(hk:ks.all DO=true)(r:aA W ks vs)(h2:2≤vs.length):vG A ks vs s:=by
 have hint:∀v x,DO v=true→Rel W v x→∃i t,v=.int i∧x=.int i t:=fun v x h r=>by induction v using V.casesOn<;>first|(obtain⟨t,rfl⟩:=r;exact⟨_,t,rfl,rfl⟩)|exact bE h
 refine⟨oneType',fun Q E hq=>kas_kind (T:=.type "int") h2 (fun x hx=>?_) rfl rfl hq,fun i j b C h hC=>?_⟩
 ·obtain⟨v,hv,rv⟩:=lB r hx;obtain⟨i,t,rfl,rfl⟩:=hint v x (cZ hk v hv) rv;exact Looks.of_pure rfl
 ·obtain⟨u,v,hu,hv,hl⟩:=nB h;obtain⟨x,hx,rx⟩:=gz r hu;obtain⟨y,hy,ry⟩:=gz r hv;obtain⟨p,t,rfl,rfl⟩:=hint u x (cZ hk u (List.mem_of_getElem? hu)) rx;obtain⟨q,t',rfl,rfl⟩:=hint v y (cZ hk v (List.mem_of_getElem? hv)) ry;unfold kas_ask;simp only[getD_at hx,getD_at hy];obtain rfl:=Option.some.inj hl;exact kat_lt_int hC
theorem keys_str{ks:List V}{vs:List Value}(hk:ks.all DP=true)(r:aA W ks vs)(h2:2≤vs.length):vG A ks vs s:=by
 have Kc:∀v x,DP v=true→Rel W v x→∃i t,v=.str i∧x=.str i t:=fun v x h r=>by induction v using V.casesOn<;>first|(obtain⟨_,t,rfl⟩:=r;exact⟨_,t,rfl,rfl⟩)|exact bE h
 refine⟨oneType',fun Q E hq=>kas_kind (T:=.type "str") h2 (fun x hx=>?_) rfl rfl hq,fun i j b C h hC=>?_⟩
 ·obtain⟨v,hv,rv⟩:=lB r hx;obtain⟨i,t,rfl,rfl⟩:=Kc v x (cZ hk v hv) rv;exact Looks.of_pure rfl
 ·obtain⟨u,v,hu,hv,hl⟩:=nB h;obtain⟨x,hx,rx⟩:=gz r hu;obtain⟨y,hy,ry⟩:=gz r hv;obtain⟨p,t,rfl,rfl⟩:=Kc u x (cZ hk u (List.mem_of_getElem? hu)) rx;obtain⟨q,t',rfl,rfl⟩:=Kc v y (cZ hk v (List.mem_of_getElem? hv)) ry;unfold kas_ask;simp only[getD_at hx,getD_at hy];obtain rfl:=Option.some.inj hl;exact kas_lt_str hC
theorem xh{ks:List V}{vs:List Value}(hk:sortable ks=true)(r:aA W ks vs)(hz:∀b o,W.Z b=some o→s.heap.get? b=some o)(h2:2≤vs.length):vG A ks vs s:=by
 simp only[sortable,Bool.or_eq_true] at hk;rcases hk with hk|hk
 ·exact BE hk r h2
 ·exact keys_str hk r h2
theorem xj{ks:List V}{kvs vs:List Value}{p:Array Nat}{κ:SortKind}(hl:kvs.length=vs.length)(h2:2≤vs.length)(zy:vs.length<64)
  (ha:∀i j b (C:Bool→Shared→Prop),sortAns ks i j=some b→C b s→kas_ask G.prog G.w A κ kvs i j C s)(hr:runK (sortAns ks) (kas_sort vs.length)=some p):
  wpAny (model G.prog G.w) A ((sortRuns').run (SortSt.mk' κ (kvs.toArray.zip vs.toArray) #[] 7 none)) (fun r s'=>s'=s∧(arrOf r.2).map (·.2)=List.toArray (p.toList.map fun i=>vs.getD i Value.none)∧failedOf r.2=none∧p.size=vs.length) E s:=by
 refine kat_run (Q:=fun st s'=>s'=s∧(arrOf st).map (·.2)=List.toArray (p.toList.map fun i=>vs.getD i Value.none)∧failedOf st=none∧p.size=vs.length) (G:=fun q s'=>q=p∧s'=s) hl h2 zy ?_ ?_
 ·rintro q st s' hq OU hf ⟨rfl,rfl⟩;exact⟨rfl,kat_snds hl OU,hf,hq⟩
 ·exact BD ha _ hr ⟨rfl,rfl⟩
end
section
variable{A:Around}{E:Value→Shared→Prop}{s:Shared}
theorem oU{R:List Value→Shared→Prop}{r:Addr}{a b c:Int}{t u v:Tok}{n:Nat}(hh:A.handled=none)(hr:IsRange s.heap r a b c t u v)(Kd:Builtin.Range.small a b c=true)
  (hn:Builtin.Range.rangeSize a b c=n)(hlen:n≤2^24)
  (h:∀(h':Heap) (tk:Nat) (acc:Array Value),(∀b o,s.heap.get? b=some o→h'.get? b=some o)→ItemsOf (fun i v=>∃t,v=.int (a+i* c) t) acc n→R acc.toList {s with heap:=h',toks:=tk}):
  wpAny (model G.prog G.w) A (collect (.ref r)) R E s:=by
 refine wpAny_bind (wpAny_runValue (codeAny_builtin entry_proto_collect' ?_));refine wpAny_bind (wpAny_newObj_type ?_);refine wpAny_pure ⟨plainId_quiet PySem.F.plain_list_iadd _,codeAny_builtin entry_list_iadd' ?_⟩;obtain OV:(s.heap.push {cls:=.type "list",data:=.seq ([]:List Value).toArray}).get? s.heap.objs.size=some {cls:=.type "list",data:=.seq #[]}:=Heap.get?_push_size _ rfl
 obtain key:=wpAny_extend_range (prog:=G.prog) (w:=G.w) (A:=A) (s:={s with heap:=s.heap.push {cls:=.type "list",data:=.seq ([]:List Value).toArray}})
  (R:=fun(q:Result) (s':Shared)=>∃(h':Heap) (tk:Nat) (s7:Array Value) (c':Nat),q=.ok (.ret (.ref s.heap.objs.size))∧s'={s with heap:=h',toks:=tk}∧(∀b o,s.heap.get? b=some o→h'.get? b=some o)∧h'.get? s.heap.objs.size=some {cls:=.type "list",dict:=none,data:=.seq s7 c',slots:=#[]}∧ItemsOf (fun i v=>∃t,v=.int (a+i* c) t) s7 n)
  hh (Heap.get?_push_of_some _ hr) Kd hn hlen s.heap.objs.size (.ref s.heap.objs.size) 0 OV
  (fun h' tk s7 c' hk OW gx=>⟨h',tk,s7,c',rfl,rfl,fun b o e=>hk b o (Nat.ne_of_lt (Heap.lt_size e)) (Heap.get?_push_of_some _ e),OW,gx⟩)
 refine wpAny_mono key (fun fin s' x=>?_) fun e s' x=>?_
 ·induction fin with
  |done f=>obtain⟨h',tk,s7,c',e,rfl,hk,OW,gx⟩:=x;cases e;refine wpAny_bind (wpAny_load OW ?_);exact wpAny_pure (h h' tk s7 hk gx)
  |again c₁=>refine⟨x.1,codeAny_mono x.2 fun q s₂ y=>?_⟩;obtain⟨h',tk,s7,c',rfl,rfl,hk,OW,gx⟩:=y;refine wpAny_bind (wpAny_load OW ?_);exact wpAny_pure (h h' tk s7 hk gx)
 ·obtain⟨_,_,_,_,e',_⟩:=x;exact nomatch e'
end
section
variable{n:Nat}{A:Around}{E:Value→Shared→Prop}{W W':Wd}{H H':AH}{s s':Shared}{sc:Scope}{env:af}{e':Env}
theorem qZ{v:V}{xs:List V}(h:iL v H=some (xs,H')):H'=H:=by
 induction v using V.casesOn with
 |mj a b=>exact(aR h).2|aF kvs=>exact(aR h).2|lst xs=>exact(aR h).2|ref k=>
  refine bH h fun o H₁ h1 h2=>?_
  refine(bO h1).elim fun c z=>z.elim fun c Uk=>?_;subst Uk
  induction o<;>first|exact(aR h2).2|exact nE h2
 |_=>exact nE h
theorem nC{v:V}{xs:List V}{z:Value}(h:iL v H=some (xs,H'))(S:aH W H s)(r:Rel W v z)(hh:A.handled=none)(hl:xs.length<64){Q:List Value→Shared→Prop}
  (hQ:∀h' tk vs,(∀b o,s.heap.get? b=some o→h'.get? b=some o)→aA W xs vs→Q vs {s with heap:=h',toks:=tk}):
  wpAny (model G.prog G.w) A (collect z) Q E s:=by
 have seq:∀{l:Addr} {ys:Array Value} {m:Nat},s.heap.get? l=some (gW ys m)→aA W xs ys.toList→wpAny (model G.prog G.w) A (collect (.ref l)) Q E s:=fun{l ys m} g rs=>by
  obtain el:=rs.length;simp only[Array.length_toList] at el;refine qV (hsz:=by rw[sizeLine_eq];exact aE (nat_lit 0x10000007f10140e011103102) ae el hl) l (.inl rfl) g rfl rfl fun h' c hk=>?_
  exact hQ h' s.toks _ hk rs
 have Wz:∀{d:Addr} {es:Array DictEntry} {m:Nat} {kvs:List (Str×V)},xs=kvs.map (fun kv=>.str kv.1)→s.heap.get? d=some (cX es m)→d≠sysModules→(kvs.map (·.1)).Nodup→Reld W kvs es.toList→wpAny (model G.prog G.w) A (collect (.ref d)) Q E s:=fun{d es m kvs} hx g h0 nd rs=>by
  obtain⟨ps,h1,h2,h3⟩:=fU rs;obtain hlen:=h2.length;subst hx;rw[List.length_map] at hl;refine kdu_collect (kdl_dict (knd:=sk) (d:=d) (kvs:=ps) (ep:=m) (by simpa using h0)) hh (⟨_,es,g,⟨rfl,rfl,rfl⟩,rfl,fun e he=>h3 e (by simpa using he),h1,by rw[←h2.keys];exact nd⟩) (by rw[sizeLine_eq];exact aE (nat_lit 0x10000007f10140e011103102) ae hlen hl) fun h' tk acc hk gx=>?_
  refine hQ h' tk _ hk (fm (by rw[gx.1,List.length_map];exact aE (nat_lit 4916786449) ae hlen) fun j x hx=>?_);obtain⟨k,y,gV,hv⟩:=gx.2 j x hx;obtain⟨u,hu,OX,_⟩:=h2.get gV;refine⟨.str k,by rw[List.getElem?_map,hu];rfl,?_⟩;obtain⟨t,rfl⟩:=Value.isStrOf_shape hv;exact⟨OX,t,rfl⟩
 induction v using V.casesOn with
 |mj a b=>
  obtain⟨rfl,rfl⟩:=aR h;obtain⟨q,t,w,w',rfl,hz,T8⟩:=r;obtain hlen:(b-a).toNat<64:=by simpa using hl
  refine oU hh (S.z _ _ hz) T8 (n:=(b-a).toNat) (Mine.rangeSize_one a b).symm (aV (nat_lit 0x10000007f00140e01101) ae hlen) fun h' tk acc hk gx=>hQ h' tk _ hk ?_
  refine fm (by simp[gx.1]) fun j v hv=>?_
  have hj:j<acc.size:=(Array.getElem?_eq_some_iff.mp hv).1;rw[gx.1] at hj;obtain⟨yn,rfl⟩:=gx.2 j v hv;refine⟨.int (a+(j:Int)),?_,⟨yn,congrArg (fun z=>Value.int (a+z) yn) (Int.mul_one _)⟩⟩;rw[List.getElem?_map,List.getElem?_range hj];rfl
 |aF kvs=>obtain⟨e,rfl⟩:=aR h;obtain⟨d,m,es,rfl,hz,h0,nd,_,rs⟩:=r;exact Wz e (S.z _ _ hz) h0 nd rs
 |lst ys=>obtain⟨rfl,rfl⟩:=aR h;obtain⟨l,m,ys,rfl,hz,_,rs⟩:=r;exact seq (S.z _ _ hz) rs
 |ref k=>
  refine bH h fun o H₁ h1 h2=>?_
  obtain⟨ho,_,rfl⟩:=bO h1;obtain⟨a,rfl,ha⟩:=r;have O:=S.at ho ha
  induction o with
  |lst ys=>obtain⟨rfl,rfl⟩:=aR h2;obtain⟨m,ys,g,_,rs⟩:=O;exact seq g rs
  |aF kvs=>obtain⟨e,rfl⟩:=aR h2;obtain⟨m,es,g,h0,nd,_,rs⟩:=O;exact Wz e g h0 nd rs
  |_=>exact nE h2
 |_=>exact nE h
theorem fy{ks xs:List V}{v:V}(h:b8 ks xs=some v):∃out,v=.lst out∧(xs.length<2→out=xs)∧
  (¬xs.length<2→xs.length<64∧sortable ks=true∧∃p,runK (sortAns ks) (kas_sort xs.length)=some p∧out=p.toList.map fun i=>xs.getD i .none):=by
 unfold b8 at h;by_cases h2:xs.length<2
 ·rw[if_pos h2] at h;obtain rfl:=Option.some.inj h;exact⟨xs,rfl,fun a=>rfl,fun h=>absurd h2 h⟩
 ·rw[if_neg h2] at h;by_cases h3:(decide (xs.length<64)&&sortable ks)=true
  ·rw[if_pos h3] at h;obtain⟨p,hp,rfl⟩:=gf h;rw[Bool.and_eq_true,decide_eq_true_eq] at h3;exact⟨_,rfl,fun h=>absurd h h2,fun a=>⟨h3.1,h3.2,p,hp,rfl⟩⟩
  ·rw[if_neg h3] at h;exact nE h
theorem oV{a:Addr}{vs:List Value}{xs:List V}{m:Nat}{out:List V}{Pq:PySem.Fin→Shared→Prop}(h:b8 xs xs=some (.lst out))(rs:aA W xs vs)(hl:xs.length<64)(ho:s.heap.get? a=some (seqObj "list" vs.toArray m))
  (hz:∀b o,W.Z b=some o→s.heap.get? b=some o)(Ul:W.Z a=none)
  (hP:∀outs h',(∀b o,b≠a→s.heap.get? b=some o→h'.get? b=some o)→(∃m',h'.get? a=some (seqObj "list" outs m'))→aA W out outs.toList→out.length<64→Pq (.done (.ret .none)) {s with heap:=h'}):
  wpAny (model G.prog G.w) A (Builtin.«list.sort» ⟨[.ref a],[]⟩) Pq E s:=by
 have el:=rs.length;rw[list_sort_plain];refine wpAny_bind (listItems_at ho rfl ?_);refine wpAny_bind (listUpdate_at ho rfl ?_ (by rw[List.size_toArray,sizeLine_eq];exact aE (nat_lit 0x10000007f10140e011103102) ae el hl) (Nat.zero_le _));obtain⟨e1,DH⟩:∃e1,(s.heap.update a (Obj.mapSeq fun c=>#[])).get? a=some (seqObj "list" #[] e1):=⟨_,get?_update_seq ho (fun c=>#[])⟩;refine wpAny_bind (seqEpoch_at DH rfl ?_);refine wpAny_bind (wpAny_newTuple ?_ (by show vs.length≤_;rw[sizeLine_eq];exact aE (nat_lit 0x10000007f10140e011103102) ae el hl));refine wpAny_bind (wpAny_newList ?_ (Nat.zero_le _));refine wpAny_holding ?_;obtain OY:(((s.heap.update a (Obj.mapSeq fun c=>#[])).push (seqObj "tuple" vs.toArray 0)).push (seqObj "list" #[] 0)).get? a=some (seqObj "list" #[] e1):=Heap.get?_push_of_some _ (Heap.get?_push_of_some _ DH);obtain HC:∀b o,b≠a→s.heap.get? b=some o→(((s.heap.update a (Obj.mapSeq fun c=>#[])).push (seqObj "tuple" vs.toArray 0)).push (seqObj "list" #[] 0)).get? b=some o:=fun b o hb e=>Heap.get?_push_of_some _ (Heap.get?_push_of_some _ ((Heap.get?_update_other _ _ (Ne.symm hb)).trans e))
 dsimp only;have fin:∀outs:Array Value,∃m',((((s.heap.update a (Obj.mapSeq fun c=>#[])).push (seqObj "tuple" vs.toArray 0)).push (seqObj "list" #[] 0)).update a (Obj.mapSeq fun c=>outs)).get? a=some (seqObj "list" outs m'):=fun outs=>⟨_,get?_update_seq OY _⟩
 have HD:∀(outs:Array Value) b o,b≠a→s.heap.get? b=some o→((((s.heap.update a (Obj.mapSeq fun c=>#[])).push (seqObj "tuple" vs.toArray 0)).push (seqObj "list" #[] 0)).update a (Obj.mapSeq fun c=>outs)).get? b=some o:=fun outs b o hb e=>(Heap.get?_update_other _ _ (Ne.symm hb)).trans (HC b o hb e)
 have hsz:vs.toArray.size=vs.length:=by rfl
 obtain⟨OZ,e,q1,q2⟩:=fy h;cases e;by_cases h2:vs.toArray.size<2
 ·rw[if_pos h2,if_pos h2]
  obtain this:=q1 (aQ (nat_lit 0x29211290111031122103) ae el hsz h2);induction this;refine wpAny_bind (wpAny_pure ?_);refine wpAny_bind (wpAny_pure ?_);dsimp only;obtain eo:(Array.map (fun x=>x.snd) (arrOf (SortSt.mk' general' (vs.toArray.zip vs.toArray) #[] 7 none)))=vs.toArray:=by
   show Array.map (fun x=>x.snd) (vs.toArray.zip vs.toArray)=vs.toArray;apply Array.ext
   ·simp
   ·intro i h1 h2;simp
  rw[eo];refine wpAny_bind (seqEpoch_at OY rfl ?_);refine wpAny_bind (listUpdate_at OY rfl ?_ (Nat.zero_le _) (by rw[List.size_toArray,sizeLine_eq];exact aE (nat_lit 0x1910000007f810129011103102) ae hsz h2));simp only[bne_self_eq_false,Bool.false_eq_true,if_false];exact wpAny_pure (hP vs.toArray _ (HD _) (fin _) (by exact rs) hl)
 ·rw[if_neg h2,if_neg h2];obtain⟨zy,hs,p,hp,rfl⟩:=q2 (by simp_all)
  obtain⟨κ,hk,Ke⟩:=xh (A:=A) (s:={s with heap:=((s.heap.update a (Obj.mapSeq fun c=>#[])).push (seqObj "tuple" vs.toArray 0)).push (seqObj "list" #[] 0)}) hs rs
   (fun b o hb=>HC b o (fun q=>by rw[q,Ul] at hb;exact nE hb) (hz b o hb)) (by exact aE (nat_lit 0x1290110212905102) ae h2 hsz)
  refine wpAny_bind (hk _ _ ?_);rw[el] at hp;refine wpAny_bind (wpAny_mono (xj rfl (by exact aE (nat_lit 0x1290110212905102) ae h2 hsz) (aE (nat_lit 0x40e11140e011103102) ae el zy) Ke hp) ?_ fun c c e=>e);rintro⟨⟨⟩,Hz⟩ s' ⟨rfl,OU,hf,wZ⟩;have Um:Array.map (fun x=>x.snd) (arrOf Hz)=List.toArray (p.toList.map fun i=>vs.getD i Value.none):=OU
  rw[Um];refine wpAny_bind (seqEpoch_at OY rfl ?_);refine wpAny_bind (listUpdate_at OY rfl ?_ (Nat.zero_le _) (by rw[List.size_toArray,List.length_map,Array.length_toList,wZ,sizeLine_eq];exact aE (nat_lit 0x1910000007f810140e011103102) ae el zy));rw[hf];simp only[bne_self_eq_false,Bool.false_eq_true,if_false];exact wpAny_pure (hP _ _ (HD _) (fin _) (by exact jj rs p.toList) (by rw[List.length_map,Array.length_toList,wZ];exact aE (nat_lit 0x40e11140e011103102) ae el zy))
theorem yI:BC:=by
 intro A E W H H' s vs xs v h S rs hh;induction vs using List.casesOn with
 |nil=>exact nE h|cons v0 rest=>
  induction rest using List.casesOn with
  |cons _ _=>exact nE h|nil=>
   obtain⟨z,rfl,rz⟩:=dg rs;refine bH h fun us H₁ h1 h2=>?_
   obtain⟨h3,rfl⟩:=sy h2;obtain this:=qZ h1;subst this;obtain⟨out,rfl,q1,q2⟩:=fy h3;have hl:us.length<64:=by
    by_cases hs:us.length<2
    ·exact aV (nat_lit 0x40e0112901101) ae hs
    ·exact(q2 hs).1
   refine Calls.call_function_entry kind_sorted plain_sorted entry_sorted (args_sorted1 _) ?_;refine wpAny_bind (m:=checkCount "sorted" 1 1 _) (wpAny_pure ?_);refine wpAny_bind (bG (nC h1 S rz (by exact hh) hl fun h' tk vs hk rs xg=>?_));obtain el:=rs.length;refine wpAny_bind (wpAny_newList ?_ (by rw[sizeLine_eq];exact aE (nat_lit 0x10000007f10140e011103102) ae el hl));refine wpAny_bind (wpAny_holding (wpAny_call_entry slot_list_sort ⟨_,Heap.get?_push_size _ rfl,rfl⟩ entry_list_sort (oV (W:=W) h3 rs hl (Heap.get?_push_size _ rfl) (fun b o hb=>Heap.get?_push_of_some _ (hk b o (S.z b o hb))) (S.ic xg) fun outs Bc zz hg ro HE=>⟨_,rfl,?_⟩) (args_list_sort _)));obtain⟨m',hg⟩:=hg;have HE:out.length<ai:=Nat.lt_trans HE (by decide)
   refine wpAny_pure ⟨_,rfl,nq (c:=false) (tk:=tk) (vs:=out) rfl S xg (fun b o e=>zz b o (fun q=>absurd (Heap.lt_size e) (by rw[q];exact Nat.not_lt_of_le xg)) (Heap.get?_push_of_some _ (hk b o e))) hg HE ro⟩
end
theorem bx.YI{A:Around}{n:Nat}(h:bx A (n+1)):bx A.in1.in1 n:=⟨h.handled,by have :=h.depth;simp only[Around.in1_depth];exact aQ (nat_lit 0x21081121918081101) ae this,by obtain this:=h.units;simp only[Around.in1_units];exact aQ (nat_lit 0x21ca191908881121918ca081101) ae this⟩
section
variable{n:Nat}{A:Around}{E:Value→Shared→Prop}{W W':Wd}{H H':AH}{s s':Shared}{sc:Scope}{env:af}{e':Env}
structure iA(W₀:Wd)(H₀:AH)(s₀:Shared)(l kS:Addr)(e1:Nat)(ks:List V)(W:Wd)(H:AH)(t:Shared):Prop where
 post:ah W₀ H₀ s₀ aI W H t
 gl:t.heap.get? l=some (seqObj "list" #[] e1)
 gk:∃keys e,t.heap.get? kS=some (seqObj "list" keys e)∧aA W ks keys.toList
 fl:b_ W l
 fk:b_ W kS
 ll:s₀.heap.objs.size≤l
 lk:s₀.heap.objs.size≤kS
 ne:l≠kS
theorem iA.step{W₀:Wd}{H₀ H₁:AH}{s₀ t t':Shared}{l kS:Addr}{e1:Nat}{ks:List V}{k:V}{x:Value}(K:iA W₀ H₀ s₀ l kS e1 ks W H t)(S₀:aH W₀ H₀ s₀)(P:ah W H t aI W' H₁ t')(r:Rel W' k x):
  ∃keys e,t'.heap.get? kS=some (seqObj "list" keys e)∧keys.size=ks.length∧iA W₀ H₀ s₀ l kS e1 (ks++[k]) W' H₁ {t' with heap:=t'.heap.update kS (Obj.mapSeq (·.push x))}:=by
 refine K.gk.elim fun keys z=>z.elim fun e z=>z.elim fun gk rk=>?_
 obtain el:=rk.length;obtain YJ:t'.heap.get? l=some (seqObj "list" #[] e1):=P.keep _ _ K.gl K.fl.2.2 (fun j hj=>by rw[K.fl.1] at hj;exact nE hj) (fun h=>h);obtain WA:t'.heap.get? kS=some (seqObj "list" keys e):=P.keep _ _ gk K.fk.2.2 (fun j hj=>by rw[K.fk.1] at hj;exact nE hj) (fun h=>h);obtain YK:b_ W' l:=K.fl.post P (Heap.lt_size K.gl) (fun h=>h);obtain WB:b_ W' kS:=K.fk.post P (Heap.lt_size gk) (fun h=>h);obtain P₁:=K.post.trans S₀ P;obtain P₂:ah W' H₁ t' (fun a=>a=kS) W' H₁ {t' with heap:=t'.heap.update kS (Obj.mapSeq (·.push x))}:=ah.free P₁.sim (fun a ha=>by cases ha;exact WB) (fun b o hb ho=>(Heap.get?_update_other _ _ (Ne.symm hb)).trans ho) (by rw[Heap.size_update];exact Nat.le_refl _) rfl rfl;refine⟨keys,e,WA,el.symm,⟨((P₁.wk (X':=fun a=>a=kS) fun c h=>h.elim).trans S₀ P₂).drop fun a ha=>.inr (by cases ha;exact K.lk),(Heap.get?_update_other _ _ K.ne.symm).trans YJ,⟨_,_,get?_update_seq WA _,?_⟩,YK,WB,K.ll,K.lk,K.ne⟩⟩;rw[Array.toList_push];exact(rk.mono P.le).append (by exact⟨r,trivial⟩)
end
section
variable{n:Nat}{A:Around}{E:Value→Shared→Prop}{W W':Wd}{H H':AH}{s s':Shared}{sc:Scope}{env:af}{e':Env}
theorem Ex{W₀:Wd}{H₀:AH}{s₀:Shared}{l kS:Addr}{e1:Nat}{ks xs out:List V}{vs:List Value}{Pq:PySem.Fin→Shared→Prop}(K:iA W₀ H₀ s₀ l kS e1 ks W H s)(S₀:aH W₀ H₀ s₀)(hl:ks.length=xs.length)
  (rs:aA W xs vs)(zy:xs.length<64)(h:b8 ks xs=some (.lst out))
  (hP:∀W' t,ah W₀ H₀ s₀ aI W' H t→Rel W' (.lst out) (.ref l)→Pq (.done (.ret .none)) t):
  wpAny (model G.prog G.w) A (do
   let keys←Builtin.List.listItems (.ref kS)
   ksk_end l false vs.toArray e1 (.ref kS) keys) Pq E s:=by
 obtain⟨keys,e,gk,rk⟩:=K.gk;obtain el:=rs.length;obtain ek:=rk.length;simp only[Array.length_toList] at ek;have S:=K.post.sim
 have fin:∀(outs:List Value) (st:SortSt),aA W out outs→out.length<64→(arrOf st).map (·.2)=List.toArray outs→failedOf st=none→wpAny (model G.prog G.w) A (ksk_tail l false e1 (.ref kS) st) Pq E s:=by
  intro outs st ro ho Un hf;obtain eo:=ro.length;unfold ksk_tail;have O0:Array.map (fun x=>x.snd) (arrOf st)=List.toArray outs:=Un
  rw[O0];have Uo:(s.heap.update kS (Obj.mapSeq fun c=>(#[]:Array Value))).get? l=some (seqObj "list" #[] e1):=(Heap.get?_update_other _ _ K.ne.symm).trans K.gl
  refine wpAny_bind (listUpdate_at gk rfl ?_ (by rw[sizeLine_eq];exact aQ (nat_lit 0x10000007f10140e2112021103103) ae ek hl zy) (Nat.zero_le _));refine wpAny_bind (wpAny_letGo ?_);refine wpAny_bind (seqEpoch_at Uo rfl ?_);refine wpAny_bind (listUpdate_at Uo rfl ?_ (Nat.zero_le _) (by show outs.toArray.size≤_;rw[List.size_toArray,sizeLine_eq];exact aE (nat_lit 0x1910000007f810140e011103102) ae eo ho));rw[hf];simp only[bne_self_eq_false,Bool.false_eq_true,if_false];obtain⟨m',hg⟩:∃m',((s.heap.update kS (Obj.mapSeq fun c=>(#[]:Array Value))).update l (Obj.mapSeq fun c=>List.toArray outs)).get? l=some (seqObj "list" (List.toArray outs) m'):=⟨_,get?_update_seq Uo _⟩
  obtain P₂:ah W H s (fun a=>a=l∨a=kS) W H {s with heap:=(s.heap.update kS (Obj.mapSeq fun c=>(#[]:Array Value))).update l (Obj.mapSeq fun c=>List.toArray outs)}:=
   ah.free S (fun a ha=>ha.elim (fun q=>q▸K.fl) (fun q=>q▸K.fk)) (fun b o hb ho=>(Heap.get?_update_other _ _ (fun q=>hb (.inl q.symm))).trans ((Heap.get?_update_other _ _ (fun q=>hb (.inr q.symm))).trans ho))
    (by rw[Heap.size_update,Heap.size_update];exact Nat.le_refl _) rfl rfl
  obtain P₃:ah W₀ H₀ s₀ aI W H {s with heap:=(s.heap.update kS (Obj.mapSeq fun c=>(#[]:Array Value))).update l (Obj.mapSeq fun c=>List.toArray outs)}:=((K.post.wk (X':=fun a=>a=l∨a=kS) fun c h=>h.elim).trans S₀ P₂).drop fun a ha=>.inr (ha.elim (fun q=>q▸K.ll) (fun q=>q▸K.lk))
  obtain P₄:=P₃.vD K.fl K.ll hg;refine wpAny_pure (hP _ _ P₄ ?_);obtain L:W.Le (W.add l (seqObj "list" (List.toArray outs) m')):=⟨fun b o hb=>by show(if b=l then some _ else W.Z b)=some o;rw[if_neg (fun q=>by rw[q,K.fl.2.1] at hb;exact nE hb)];exact hb,fun c c h=>h⟩;exact⟨l,m',_,rfl,Wd.aU ..,Nat.lt_trans ho (by decide),by exact ro.mono L⟩
 refine wpAny_bind (listItems_at gk rfl ?_);unfold ksk_end
 try dsimp only
 obtain⟨OZ,YL,q1,q2⟩:=fy h;obtain rfl:=V.lst.inj YL;by_cases h2:vs.toArray.size<2
 ·rw[if_pos h2,if_pos h2];have O3:vs.length<2:=by exact h2
  obtain this:=q1 (aE (nat_lit 0x2911129011012102) ae el O3);subst this;refine wpAny_bind (wpAny_pure ?_);refine wpAny_bind (wpAny_pure ?_);refine fin vs _ rs zy ?_ rfl;show Array.map (fun x=>x.snd) (keys.zip vs.toArray)=vs.toArray;apply Array.ext
  ·simp;omega
  ·intro i h1 h2;simp
 ·rw[if_neg h2,if_neg h2];have O3:¬vs.length<2:=by simpa using h2
  obtain⟨_,hs,p,hp,rfl⟩:=q2 (aE (nat_lit 0x909612911101312905103) ae O3 el);obtain ekv:keys.toList.toArray=keys:=by simp
  obtain⟨κ,hk,Ke⟩:=xh (A:=A) hs rk S.z (by simp only[Array.length_toList];exact gS (nat_lit 0x229012121313103312905104) ae O3 el hl ek);refine wpAny_bind (hk _ _ ?_);rw[el] at hp;have run:=xj (E:=E) (vs:=vs) (κ:=κ) (by rw[Array.length_toList];exact gS (nat_lit 0x312532252025103513) ae ek hl el) (aV (nat_lit 2817809993985) ae O3) (aE (nat_lit 0x40e11140e011103102) ae el ‹_›) Ke hp
  refine wpAny_bind (wpAny_mono run ?_ fun c c e=>e);rintro⟨⟨⟩,Hz⟩ s' ⟨rfl,OU,hf,wZ⟩;exact fin _ Hz (jj rs p.toList) (by rw[List.length_map,Array.length_toList,wZ];exact aE (nat_lit 0x40e11140e011103102) ae el ‹_›) OU hf
end
end Mine
end
noncomputable section
end
noncomputable section
open PySem PySem.W PySem.Builtin PySem.Builtin.Str PyProof.Rows
namespace Mine
theorem gA{K:Frag}{h:Heap}{N:Addr}{mg:Str→Option Value}{n:Str}{v:Value}(X:K.In h)(G:h.Ns N mg)(e:nsIn K N n=some (some v)):mg n=some v:=by
 obtain⟨o,es,ep,ho,hd,_,hf⟩:=G;have e:(match K.lookup N with |some ⟨_,_,.dict es _,_⟩=>(match es.toList.find? (·.key.isStr n) with |some e=>some (some e.val)|none=>if es.toList.any (·.refKey) then none else some none)|_=>none)=some (some v):=e
 induction q:K.lookup N with
 |none=>rw[q] at e;exact nE e|some z=>
  obtain rfl:=Option.some.inj (ho.symm.trans (X _ _ q));rw[q,show o=⟨o.cls,o.dict,.dict es ep,o.slots⟩ from hd▸rfl] at e;refine(hf n).symm.trans ?_;have e:(match es.toList.find? (·.key.isStr n) with |some e=>some (some e.val)|none=>if es.toList.any (·.refKey) then none else some none)=some (some v):=e
  rw[Array.find?_toList] at e;show(es.find? fun e=>e.key.isStr n).map (·.val)=some v;induction he:es.find? fun e=>e.key.isStr n with |some y=>rw[he] at e;exact congrArg _ (Option.some.inj (Option.some.inj e))|none=>rw[he] at e;induction ha:es.toList.any (·.refKey) with |true=>rw[ha] at e;exact nE e|false=>rw[ha] at e;exact nomatch e
theorem yJ{K:Frag}{C f:Addr}{od:Obj}{es:Array DictEntry}{ep:Nat}{name:Str}(hd:od.data=.dict es ep)(sk:StrKeys es)(hn:nsFind es name=none)(hc:hasDictIn K C=true)
  (hf:findIn K (.ref C) name=some (some (.ref f)))(hg:specialIn K (.ref f) "__get__"=some (some (.builtin "function.__get__")))(ht:takesIn K (.ref f)=some false)(Kf:copiedNames.contains name=false):
  findObj K C (some od) name=some (.bind (.builtin "function.__get__") (.ref f)):=by
 refine findObj_fn hc hf hg ht Kf ((congrArg (fun d=>lookIn name ⟨od.cls,od.dict,d,od.slots⟩) hd).trans ?_);show(match es.toList.find? (·.key.isStr name) with |some e=>some (some e.val)|none=>if es.toList.any (·.refKey) then none else some none)=some none;rw[(Array.find?_toList ..).trans (Option.map_eq_none_iff.mp hn),List.any_eq_false.mpr fun e he=>?_]
 ·rfl
 ·obtain⟨n,t,hk⟩:=sk e (Array.mem_toList_iff.mp he);show ¬(match e.key with |.ref _=>true|_=>false)=true;rw[hk];exact Bool.false_ne_true
section
variable{A:Around}{E:Value→Shared→Prop}{s:Shared}
theorem BF{K:Frag}{C f x dx:Addr}{o od:Obj}{es:Array DictEntry}{ep:Nat}{name:Str}{Q:Value→Shared→Prop}(X:K.In s.heap)(ho:s.heap.get? x=some o)(Kg:o.cls=.ref C)(yo:o.dict=some dx)(Up:∀c,o.data≠.cls c)
  (Uq:s.heap.get? dx=some od)(hd:od.data=.dict es ep)(sk:StrKeys es)(hn:nsFind es name=none)(hc:hasDictIn K C=true)
  (hf:findIn K (.ref C) name=some (some (.ref f)))(hg:specialIn K (.ref f) "__get__"=some (some (.builtin "function.__get__")))(ht:takesIn K (.ref f)=some false)(Kf:copiedNames.contains name=false)
  (hp:plainGet K C name=true)(YM:typeIn K (.ref f)=some (.type "function"))
  (h:Q (.ref s.heap.objs.size) {s with heap:=s.heap.push {cls:=.type "method",data:=.fields #[.ref f,.ref x]},toks:=s.toks+1}):
  wpAny (model G.prog G.w) A (getAttr (.ref x) name true) Q E s:=by
 obtain I:InstAt s.heap x o C (some od):=⟨ho,Kg,by unfold notCls;induction Il:o.data with |cls c=>exact absurd Il (Up c)|_=>rfl,by refine yo▸?_;exact Uq⟩;refine get_bind X I (plainGet_of hp).1 (yJ hd sk hn hc hf hg ht Kf) (plainGet_of hp).2 ?_;refine wpAny_call (fn_get (s:={s with toks:=s.toks+1}) X YM ?_);exact wpAny_pure h
theorem BG{a:Addr}{so:Obj}{S:Int→Bool}{n:Nat}{i:Int}{t:Tok}{Q:Value→Shared→Prop}(g:s.heap.get? a=some so)(YN:so.SetObjOf (PySem.intKind G.prog G.w) S n)(hb:n<scanBound)(h:∀k,Q (.bool (S i)) {s with toks:=k}):
  wpAny (model G.prog G.w) A (compareOp .In (.int i t) (.ref a)) Q E s:=
 wpAny_inSet_of (knd:=PySem.intKind G.prog G.w) (k:=i) (by show(i==i)=true;simp) rfl (YN.setOf g hb) (h _)
end
def AllP{α β:Type}(P:α→β→Prop):List (α×β)→Prop|[]=>True|(a,b)::r=>P a b∧AllP P r
theorem AllP.at{α β:Type}[BEq α][LawfulBEq α]{P:α→β→Prop}{l:List (α×β)}{a:α}{b:β}(h:AllP P l)(e:l.lookup a=some b):P a b:=by
 induction l with
 |nil=>exact nE e|cons p r ih=>
  rw[List.lookup_cons] at e;induction hk:a==p.1 with |true=>rw[hk] at e;exact eq_of_beq hk▸Option.some.inj e▸h.1|false=>rw[hk] at e;exact ih h.2 e
theorem AllP.of{α β:Type}{f:α→β→Bool}:∀{l:List (α×β)},l.all (fun p=>f p.1 p.2)=true→AllP (fun a b=>f a b=true) l|[],aK=>trivial|aK::bA,h=>⟨(aW h).1,AllP.of (aW h).2⟩
theorem AllP.cons{α β:Type}{P:α→β→Prop}{a:α}{b:β}{r:List (α×β)}(h:P a b)(t:AllP P r):AllP P ((a,b)::r):=⟨h,t⟩
noncomputable def Ur(o:Obj):FuncData:=match o.data with |.func d=>d|_=>default
noncomputable def WC(o:Obj):Array Value:=match o.data with |.fields v=>v|_=>#[]
def fO(s:Stmt)(c:Nat)(d:FuncData):Obj:={cls:=.type "function",dict:=none,data:=(.func {d with params:=Hd.fP s,body:=.stmts (Hd.fB s),scope:=Hd.fS s,globals:=mainGlobals,closure:=[],defaults:=.none,kwdefaults:=.none,code:=.ref c,builtins:=builtinsNs}),slots:=#[]}
section
variable{h:Heap}(X:(Hd.kF w0.params).In h)
include X
theorem dm(i f c:Nat)(o oc:Obj){s:Stmt}{t:Tok}(e:(Hd.kF w0.params).lookup f=some (fO s c (Ur o)))(e2:(Hd.kF w0.params).lookup c=some {cls:=.type "code",dict:=none,data:=.fields (WC oc),slots:=#[]})(e3:(WC oc)[1]?=some (.str (Ur o).qualname t))
  (m:(mR[i]?).map (fun p=>(p.1,p.2.2))=some (c,(Ur o).qualname++".<locals>."))(ok:(dY s).ok=true)(pm:(cL (Hd.fP s)).isSome=true):(dY s).ok=true∧FnAt h f (dY s):=by
 refine(gf m).elim fun p q=>⟨ok,_,_,X f _ e,rfl,rfl,rfl,rfl,rfl,rfl,rfl,rfl,rfl,?_,⟨c,_,_,t,rfl,X c _ e2,rfl,e3⟩,⟨c,p.2.1,rfl,List.mem_of_getElem? (i:=i) ?_⟩⟩
 ·show _=some ((cL (Hd.fP s)).getD []);induction hh:cL (Hd.fP s) with |none=>rw[hh] at pm;exact bE pm|some v=>rfl
 ·exact q.1.trans (congrArg some (Prod.ext (congrArg Prod.fst q.2:) (Prod.ext rfl (congrArg Prod.snd q.2:))))
theorem O4:AllP (fun f d=>d.ok=true∧FnAt h f d) V7:=
 .cons (by refine dm X 0 28 27 (Hd.zQ w0.params) (Hd.zO w0.params) ?_ ?_ (by rfl) ?_ ?_ ?_<;>kernel_rfl)<|
 .cons (by refine dm X 1 35 34 (Hd.zS w0.params) (Hd.zR w0.params) ?_ ?_ (by rfl) ?_ ?_ ?_<;>kernel_rfl)<|
 .cons (by refine dm X 2 42 41 (Hd.zU w0.params) (Hd.zT w0.params) ?_ ?_ (by rfl) ?_ ?_ ?_<;>kernel_rfl)<|
 .cons (by refine dm X 3 49 48 (Hd.zW w0.params) (Hd.zV w0.params) ?_ ?_ (by rfl) ?_ ?_ ?_<;>kernel_rfl)<|
 .cons (by refine dm X 4 70 69 (Hd.zZ w0.params) (Hd.zY w0.params) ?_ ?_ (by rfl) ?_ ?_ ?_<;>kernel_rfl)<|
 .cons (by refine dm X 5 77 76 (Hd.z3 w0.params) (Hd.z0 w0.params) ?_ ?_ (by rfl) ?_ ?_ ?_<;>kernel_rfl)<|
 .cons (by refine dm X 6 91 90 (Hd.z9 w0.params) (Hd.z8 w0.params) ?_ ?_ (by rfl) ?_ ?_ ?_<;>kernel_rfl)<|
 .cons (by refine dm X 7 98 97 (Hd.Aa w0.params) (Hd.z_ w0.params) ?_ ?_ (by rfl) ?_ ?_ ?_<;>kernel_rfl)<|
 .cons (by refine dm X 8 105 104 (Hd.uD w0.params) (Hd.uC w0.params) ?_ ?_ (by rfl) ?_ ?_ ?_<;>kernel_rfl)<|
 .cons (by refine dm X 9 123 122 (Hd.uF w0.params) (Hd.uE w0.params) ?_ ?_ (by rfl) ?_ ?_ ?_<;>kernel_rfl)<|
 .cons (by refine dm X 10 169 168 (Hd.uH w0.params) (Hd.uG w0.params) ?_ ?_ (by rfl) ?_ ?_ ?_<;>kernel_rfl)<|
 .cons (by refine dm X 11 176 175 (Hd.uJ w0.params) (Hd.uI w0.params) ?_ ?_ (by rfl) ?_ ?_ ?_<;>kernel_rfl)<|
 .cons (by refine dm X 12 181 180 (Hd.uL w0.params) (Hd.uK w0.params) ?_ ?_ (by rfl) ?_ ?_ ?_<;>kernel_rfl)<|
 .cons (by refine dm X 13 188 187 (Hd.uN w0.params) (Hd.uM w0.params) ?_ ?_ (by rfl) ?_ ?_ ?_<;>kernel_rfl)<|
 .cons (by refine dm X 14 195 194 (Hd.uP w0.params) (Hd.uO w0.params) ?_ ?_ (by rfl) ?_ ?_ ?_<;>kernel_rfl)<|
 .cons (by refine dm X 15 200 199 (Hd.uR w0.params) (Hd.uQ w0.params) ?_ ?_ (by rfl) ?_ ?_ ?_<;>kernel_rfl)<|
 .cons (by refine dm X 16 205 204 (Hd.uT w0.params) (Hd.uS w0.params) ?_ ?_ (by rfl) ?_ ?_ ?_<;>kernel_rfl)<|
 .cons (by refine dm X 17 210 209 (Hd.uV w0.params) (Hd.uU w0.params) ?_ ?_ (by rfl) ?_ ?_ ?_<;>kernel_rfl)<|
 .cons (by refine dm X 18 215 214 (Hd.uX w0.params) (Hd.uW w0.params) ?_ ?_ (by rfl) ?_ ?_ ?_<;>kernel_rfl)<|trivial
noncomputable def BH:Option (Option Value)→Bool|some none=>true|_=>false
omit X in
theorem s8{x:Option (Option Value)}(h:BH x=true):x=some none:=by
 cases x with |none=>exact nomatch h|some y=>cases y with |none=>rfl|some _=>exact nomatch h
theorem BI{c N:Nat}{d:Ie}{nm q bs sn sub col dd k0 k1 k2 k3 k5}(e:(Hd.kF w0.params).lookup c=some (excClassObj nm q c N bs [.type "object"] true sn sub false col dd k0 k1 k2 k3 k5 "object.__new__"))(o:nsOkIn (Hd.kF w0.params) N=true)
  (h1:nsIn (Hd.kF w0.params) N (Str.ofString "__getattribute__")=some none)(h2:nsIn (Hd.kF w0.params) N (Str.ofString "__getattr__")=some none)(h3:nsIn (Hd.kF w0.params) N (Str.ofString "__setattr__")=some none)
  (m:AllP (fun m f=>nsIn (Hd.kF w0.params) N m=some (some (.ref f))∧(jb C4 f).isSome=true∧(fastLookup "object" m).isSome=true) d.meths)(fl:d.DM.all (fun a=>BH (nsIn (Hd.kF w0.params) N a)&&BH (fastLookup "object" a))=true):JF h c d:=by
 have n:h.Ns N (h.nsMap N):=.of_isNs (isNs_of_in X o);refine⟨_,_,N,_,_,_,_,_,_,_,_,_,_,h.nsMap N,X c _ e,n,ns_none_of X n h1,ns_none_of X n h2,ns_none_of X n h3,fun x f hx=>?_,fun x hx=>?_⟩
 ·have q:=m.at hx;refine⟨gA X n q.1,q.2.1,?_⟩;rw[typeLookup_type,builtinLookup_eq_fast,←Option.some_get q.2.2];exact⟨_,rfl⟩
 ·have q:=aW (cZ fl x hx);refine⟨ns_none_of X n (s8 q.1),?_⟩;rw[typeLookup_type,builtinLookup_eq_fast,s8 q.2]
theorem Kh:AllP (fun c d=>JF h c d) JE:=by refine .cons (BI X (c:=52) (N:=51) (rfl:_=some (Hd.zX w0.params)) (by kernel_rfl) (by kernel_rfl) (by kernel_rfl) (by kernel_rfl) (by repeat first|exact trivial|refine .cons ⟨by kernel_rfl,by kernel_rfl,by kernel_rfl⟩ ?_) (by kernel_rfl)) ?_;refine .cons (BI X (c:=80) (N:=79) (rfl:_=some (Hd.z7 w0.params)) (by kernel_rfl) (by kernel_rfl) (by kernel_rfl) (by kernel_rfl) (by repeat first|exact trivial|refine .cons ⟨by kernel_rfl,by kernel_rfl,by kernel_rfl⟩ ?_) (by kernel_rfl)) ?_;trivial
noncomputable def O5(K:Frag)(c:Addr)(m:Str)(f:Addr):Bool:=hasDictIn K c&&(findIn K (.ref c) m==some (some (.ref f))&&(specialIn K (.ref f) "__get__"==some (some (.builtin "function.__get__"))&&
  (takesIn K (.ref f)==some false&&((copiedNames.contains m).not&&(plainGet K c m&&typeIn K (.ref f)==some (.type "function"))))))
omit X in
theorem BJ:AllP (fun c d=>AllP (fun m f=>O5 (Hd.kF w0.params) c m f=true) d.meths) JE:=.cons (.of (by kernel_rfl)) (.cons (.of (by kernel_rfl)) trivial)
end
end Mine
end
noncomputable section
open PySem PySem.W PySem.Builtin PySem.Builtin.Str PyProof.Rows
noncomputable section
namespace Mine
open Hd (ents E3 ent e7)
theorem kH(st:Nat)(i:Int):∀(T:Nat) (L:List E3),match L.lookup i with |some x=>∃t,((ents st T L).find? fun e=>e.key.isInt i).map (·.val)=some (.str x t)|none=>((ents st T L).find? fun e=>e.key.isInt i)=none
|aK,[]=>rfl|T,(j,x)::r=>by
 have e0:ents st T ((j,x)::r)=ent T (j,x)::ents st (T+st) r:=rfl;rw[List.lookup_cons,e0];induction h:i==j with
 |true=>
  have e:Value.isInt i (ent T (j,x)).key=true:=by have :=eq_of_beq h;subst this;show Value.isInt i (.int i T)=true;simp[Value.isInt]
  dsimp only;exact⟨T+1,by rw[List.find?_cons_of_pos (p:=fun e:DictEntry=>Value.isInt i e.key) e];rfl⟩
 |false=>
  have e:¬Value.isInt i (ent T (j,x)).key=true:=by show ¬Value.isInt i (.int j T)=true;simp only[beq_eq_false_iff_ne,ne_eq] at h;simp[Value.isInt];exact fun q=>h q.symm
  dsimp only;rw[List.find?_cons_of_neg (p:=fun e:DictEntry=>Value.isInt i e.key) e];exact kH st i (T+st) r
theorem nD{i:Int}:∀{L R:List E3},(L++R).lookup i=match L.lookup i with |some x=>some x|none=>R.lookup i
|[],aK=>rfl|(j,x)::L,R=>by
 rw[List.cons_append,List.lookup_cons,List.lookup_cons];induction i==j with |true=>rfl|false=>exact nD
set_option tactic.hygienic true in
theorem setObj_of{prog:Program}{o:Obj}{es:Array (Int×Value)}{ep:Nat}{t:SetTable}(xs:List Int)(hx:o.ExactSet)(hd:o.data=.set es ep t)
  (h1:es.toList.all (fun e=>match e.2 with |.int k _=>k==e.1&&hashInt k==e.1|_=>false)=true)(h2:xs.all (fun x=>es.toList.any (·.1==x))=true)(h3:es.toList.all (fun e=>xs.contains e.1)=true)(hf:t.fits es.size=true):
  o.SetObjOf (PySem.intKind prog w0) (fun i=>xs.contains i) es.size:=by
 have sh:∀e∈es.toList,∃t,e.2=.int e.1 t∧hashInt e.1=e.1:=by
  intro e he;have :=cZ h1 e he
  split at this
  ·rename_i k tk hk;simp only[Bool.and_eq_true,beq_iff_eq] at this;obtain⟨rfl,h5⟩:=this;exact⟨tk,hk,h5⟩
  ·exact bE this
 refine⟨hx,es,ep,t,hd,fun e he=>?_,fun k=>⟨fun hk=>?_,?_⟩,rfl,hf⟩
 ·obtain⟨tk,h4,h5⟩:=sh e he;exact⟨⟨e.1,by rw[h4];show Value.isInt e.1 (.int e.1 tk)=true;simp[Value.isInt],h5.symm⟩,by rw[h4];rfl⟩
 ·have :=cZ h2 k (by simpa using hk);obtain⟨e,he,gV⟩:=List.any_eq_true.mp this;have :=eq_of_beq gV
  subst this;obtain⟨tk,h4,_⟩:=sh e he;exact⟨e,he,by rw[h4];show Value.isInt e.1 (.int e.1 tk)=true;simp[Value.isInt]⟩
 ·rintro⟨e,he,hk⟩;obtain⟨tk,h4,_⟩:=sh e he;have gV:Value.isInt k e.2=true:=hk
  rw[h4] at gV;have :e.1=k:=by simpa [Value.isInt] using gV
  subst this;exact cZ h3 e he
section
variable{h:Heap}(X:(Hd.kF w0.params).In h)
include X
omit X in
theorem Kl:(Hd.mO w0.params).SetObjOf (PySem.intKind k9 w0) (fun i=>cH.contains i) 27:=by obtain⟨es,ep,t,hd,h1,h2,h3,hf,hz⟩:∃es ep t,(Hd.mO w0.params).data=.set es ep t∧es.toList.all (fun e=>match e.2 with |.int k _=>k==e.1&&hashInt k==e.1|_=>false)=true∧cH.all (fun x=>es.toList.any (·.1==x))=true∧es.toList.all (fun e=>cH.contains e.1)=true∧t.fits es.size=true∧es.size=27:=⟨_,_,_,rfl,by kernel_rfl,by kernel_rfl,by kernel_rfl,by kernel_rfl,by kernel_rfl⟩;rw[←hz];exact setObj_of cH ⟨rfl,rfl,rfl⟩ hd h1 h2 h3 hf
omit X in
theorem pV{st T:Nat}{L:List E3}(hL:∀e∈L,Hd.Dy e):∀e∈ents st T L,∃k,(PySem.intKind k9 w0).is k e.key=true∧e.hash=(PySem.intKind k9 w0).hash k:=by
 induction L generalizing T with
 |nil=>intro e he;cases he
 |cons x r ih=>
  intro e he;have BK:e∈ent T x::ents st (T+st) r:=he
  rcases bM BK with rfl|BK
  ·refine⟨x.1,?_,(hL x (.head _)).1.symm⟩;show Value.isInt x.1 (.int x.1 T)=true;simp[Value.isInt]
  ·exact ih (fun y hy=>hL y (.tail _ hy)) e BK
theorem s9(i:Int):∃es n,h.get? 124=some (cX es n)∧h.MapOf (PySem.intKind k9 w0) 124 (findBy Value.isInt es)∧match e7.lookup i with |some x=>∃t,findBy Value.isInt es i=some (.str x t)|none=>findBy Value.isInt es i=none:=by
 have g:h.get? 124=some (Hd.qE w0.params):=X 124 _ (by kernel_rfl);obtain⟨a,b,c,d,k,e0⟩:∃a b c d k,Hd.qE w0.params=Hd.bX (ents a b (e7.take k)++ents c d (e7.drop k)):=⟨_,_,_,_,_,rfl⟩;rw[e0] at g;refine⟨_,_,g,⟨_,_,_,g,⟨rfl,rfl,rfl⟩,rfl,?_,fun k=>rfl⟩,?_⟩
 ·intro e he;have BK:e∈ents a b (e7.take k)++ents c d (e7.drop k):=by simpa using he
  rcases List.mem_append.mp BK with BK|BK
  ·exact pV (fun y hy=>Hd.JD y (List.mem_of_mem_take hy)) e BK
  ·exact pV (fun y hy=>Hd.JD y (List.mem_of_mem_drop hy)) e BK
 ·have h1:=kH a i b (e7.take k);have h2:=kH c i d (e7.drop k);have e2:findBy Value.isInt (ents a b (e7.take k)++ents c d (e7.drop k)).toArray i=((ents a b (e7.take k)).find? (fun e=>Value.isInt i e.key)|>.or ((ents c d (e7.drop k)).find? fun e=>Value.isInt i e.key)).map (·.val):=by unfold findBy;rw[List.find?_toArray,List.find?_append]
  rw[e2];have e3:e7.lookup i=match (e7.take k).lookup i with |some x=>some x|none=>(e7.drop k).lookup i:=by rw[←nD,List.take_append_drop]
  rw[e3];induction hl:(e7.take k).lookup i with
  |some x=>
   rw[hl] at h1;obtain⟨t,ht⟩:=h1;refine⟨t,?_⟩;induction hf:(ents a b (e7.take k)).find? (fun e=>Value.isInt i e.key) with |none=>rw[hf] at ht;exact nE ht|some e=>rw[hf] at ht;exact ht
  |none=>
   rw[hl] at h1;dsimp only at h1⊢;rw[h1]
   revert h2
   induction (e7.drop k).lookup i with
   |some x=>rintro⟨t,ht⟩;exact⟨t,ht⟩
   |none=>intro h2;rw[h2];rfl
end
end Mine
end
end
noncomputable section
open PySem PySem.W PySem.Builtin PySem.Builtin.Str PyProof.Rows
namespace Mine
def Z0(h₁:Heap)(a:Addr):Option Obj:=if Hd.kT.contains a then none else h₁.get? a
def W0(h₁:Heap):Wd:=⟨fun a=>none,fun a=>none,Z0 h₁⟩
theorem Km{h₁:Heap}{a:Addr}{o:Obj}(e:Z0 h₁ a=some o):h₁.get? a=some o:=by
 unfold Z0 at e;induction h:Hd.kT.contains a with |true=>rw[h] at e;exact nE e|false=>rw[h] at e;exact e
theorem xm{h₁:Heap}{a:Addr}(e:Hd.kT.contains a=false):Z0 h₁ a=h₁.get? a:=by unfold Z0;refine e▸?_;rfl
theorem BL{h h':Heap}{a:Addr}{m:Str→Option Value}(x:h.Ns a m)(e:∀o,h.get? a=some o→h'.get? a=some o):h'.Ns a m:=
 let ⟨o,es,ep,g,r⟩:=x;⟨o,es,ep,e _ g,r⟩
theorem Ey:∀a∈mR,∀b∈mR,a.2.1=b.2.1→a.2.2=b.2.2:=by decide+kernel
theorem Ez{i:Int}{x:Str}(h:Hd.e7.lookup i=some x):x.length<ai:=by
 have :Hd.e7.all (fun p=>decide (p.2.length<2^20))=true:=by kernel_rfl
 exact of_decide_eq_true ((AllP.of (f:=fun a x=>decide (x.length<2^20)) this).at h)
theorem O6(P:Params):(Hd.kF P).all (fun p=>!Hd.kT.contains p.1)=true:=by kernel_rfl
theorem lX:∀p∈mR,p.2.1∈Hd.kT∧Hd.kT.contains p.1=false:=by decide+kernel
section
variable{h₁:Heap}(X₀:(Hd.kF w0.params).In h₁)
include X₀
theorem YO{h:Heap}(hz:∀a o,Z0 h₁ a=some o→h.get? a=some o):(Hd.kF w0.params).In h:=by intro a o e;refine hz a o ?_;obtain h:=(AllP.of (f:=fun a b=>!Hd.kT.contains a) (O6 w0.params)).at e;rw[xm (Bool.not_eq_true' _▸h),X₀ a o e]
theorem s_:∀p∈mR,CodeHd h₁ p.1 p.2.1:=by
 intro p hp;have :mR.all (fun p=>codeHdIn (Hd.kF w0.params) p.1 p.2.1)=true:=by kernel_rfl
 exact codeHd_of_K X₀ (cZ this p hp)
omit X₀ in
theorem BN:AllP (fun x v=>∃y,(∀W,Rel W v y)∧nsIn (Hd.kF w0.params) mainGlobals x=some (some y)) AQ:=by
 repeat refine .cons ⟨_,fun W=>by first|exact rfl|exact⟨rfl,rfl⟩,by kernel_rfl⟩ ?_
 trivial
theorem BO{mg:Str→Option Value}(g:h₁.Ns mainGlobals mg){x:Str}{v:V}(h:AQ.lookup x=some v):∃y,(∀W,Rel W v y)∧mg x=some y:=(BN.at h).imp fun a q=>⟨q.1,gA X₀ g q.2⟩
theorem EA{mg mb:Str→Option Value}(g:h₁.Ns mainGlobals mg)(hb:∀x:Str,x≠"__name__"→mb x=bootBuiltins x):∀n∈mw,mg (Str.ofString n)=none∧mb (Str.ofString n)=some (.builtin n):=by
 intro n hn;simp only[mw,List.mem_cons,List.not_mem_nil,or_false] at hn;rcases hn with rfl|rfl|rfl|rfl|rfl|rfl|rfl
 all_goals exact⟨ns_none_of X₀ g (by kernel_rfl),(hb _ (by decide+kernel)).trans (by decide+kernel)⟩
theorem EB{mg mb:Str→Option Value}(g:h₁.Ns mainGlobals mg)(hb:∀x:Str,x≠"__name__"→mb x=bootBuiltins x):∀n∈my,mg (Str.ofString n)=none∧mb (Str.ofString n)=some (.type n):=by
 intro n hn;simp only[my,List.mem_cons,List.not_mem_nil,or_false] at hn;rcases hn with rfl|rfl|rfl|rfl|rfl
 all_goals exact⟨ns_none_of X₀ g (by kernel_rfl),(hb _ (by decide+kernel)).trans (by decide+kernel)⟩
end
set_option tactic.hygienic true in
theorem EC{h₁:Heap}{p:Program}{loose:List Str}{sj:ExcName→Option Value}{mg mb:Str→Option Value}(X₀:(Hd.kF w0.params).In h₁)(T:Top p loose sj mg mb h₁):Base (Z0 h₁):=by
 intro h hz;have X:=YO X₀ hz
 have to:∀{a:Addr},Hd.kT.contains a=false→∀o,h₁.get? a=some o→h.get? a=some o:=fun{a} ha o e=>hz a o (by rw[xm ha];exact e)
 have g:h.Ns mainGlobals mg:=BL T.g (to (by decide+kernel));have b:h.Ns builtinsNs mb:=BL T.b (to (by decide+kernel))
 refine{noLimit:=?_,mods:=?_,fns:=?_,cls:=?_,bound:=?_,setIn:=?_,AV:=?_,Ho:=?_,AW:=?_,AX:=?_,glob:=?_}
 ·obtain⟨mc,x,y⟩:=T.nolimit;exact⟨mc,BL x (to (by decide+kernel)),y⟩
 ·have :=Heap.lt_size (X 113 (Hd.mO w0.params) (by kernel_rfl));exact Nat.lt_trans (by decide) this
 ·intro f d hf;exact(O4 X).at hf
 ·intro c d hc;exact(Kh X).at hc
 ·intro c d a f hc ha A E Q s x dx o od es ep hs ho jd yo Up Uq hd sk hn hQ;obtain⟨b1,z⟩:=aW ((BJ.at hc).at ha);obtain⟨b2,z⟩:=aW z;obtain⟨b3,z⟩:=aW z;obtain⟨b4,z⟩:=aW z;obtain⟨b5,z⟩:=aW z;obtain⟨b6,b7⟩:=aW z;subst hs;exact BF X ho jd yo Up Uq hd sk hn b1 (eq_of_beq b2) (eq_of_beq b3) (eq_of_beq b4) ((Bool.not_eq_true' _).mp b5) b6 (eq_of_beq b7) hQ
 ·intro A E Q s i t hs hQ;subst hs;exact BG (X 113 _ (by kernel_rfl)) Kl (by decide+kernel) hQ
 ·intro c P q c' q' h1 h2;exact Ey _ h1 _ h2 rfl
 ·obtain⟨es,n,g,_⟩:=s9 X 0;exact⟨es,n,g⟩
 ·intro A E Q s i t hs h1 h2;subst hs;refine(s9 X i).elim fun es Us=>?_;refine Us.elim fun n Kn=>?_;obtain g:=Kn.1;obtain hM:=Kn.2.1;obtain hf:=Kn.2.2
  refine call_meetsIn F.slot_dict_get (show s.TypeIs (.ref 124) "dict" from⟨_,g,rfl⟩) F.entry_dict_get (F.args_dict_get_2 _ _) (meets_dict_get (PySem.intKind k9 w0) 124 (k:=i) (by show Value.isInt i (.int i t)=true;simp[Value.isInt]) (by decide+kernel)) ⟨_,hM,?_⟩
  revert hf h1 h2
  show(∀x,Hd.e7.lookup i=some x→_)→(Hd.e7.lookup i=none→_)→_;induction hl:Hd.e7.lookup i with
  |some x=>rintro h1 _ ⟨tk,ht⟩;rw[ht];exact h1 x rfl tk _
  |none=>intro _ h2 hn;rw[hn];exact h2 rfl _
 ·intro i x hx;exact Ez hx
 ·refine⟨mg,mb,g,b,fun x v hx=>?_,fun c P q hm=>⟨?_,?_⟩⟩
  ·unfold lookGlob at hx;split at hx
   ·rename_i u hu;obtain rfl:=Option.some.inj hx;obtain⟨y,h1,h2⟩:=BO X g hu;exact⟨y,h1,.inl h2⟩
   ·split at hx
    ·rename_i n hn;obtain rfl:=Option.some.inj hx;obtain hm:=List.mem_of_find?_eq_some hn;obtain he:=eq_of_beq (List.find?_some (p:=fun n=>Str.ofString n==x) hn);subst he;obtain⟨h1,h2⟩:=EA X g T.builtins n hm;exact⟨_,fun W=>rfl,.inr ⟨h1,h2⟩⟩
    ·obtain⟨n,hn,rfl⟩:=gf hx;have hm:=List.mem_of_find?_eq_some hn;obtain he:=eq_of_beq (List.find?_some (p:=fun n=>Str.ofString n==x) hn);subst he;obtain⟨h1,h2⟩:=EB X g T.builtins n hm;exact⟨_,fun W=>rfl,.inr ⟨h1,h2⟩⟩
  ·have hP:=(lX _ (show(c,P,q)∈mR from hm)).1;refine⟨4,boot_o_4 w0.params,gA X g (by kernel_rfl),by decide+kernel,by decide+kernel,?_,X 4 _ (by kernel_rfl),rfl,rfl,rfl⟩;rintro rfl;exact absurd (show 4∈Hd.kT from hP) (by decide+kernel)
  ·have hP:=(lX _ (show(c,P,q)∈mR from hm)).1;rintro rfl;exact absurd (show mainGlobals∈Hd.kT from hP) (by decide+kernel)
theorem Ko{s:Shared}{p:Program}{loose:List Str}{sj:ExcName→Option Value}{mg mb:Str→Option Value}(X₀:(Hd.kF w0.params).In s.heap)(TT:∀P∈Hd.kT,s.heap.get? P=some (tabObj #[]))(T:Top p loose sj mg mb s.heap):aH (W0 s.heap) [] s:=by
 refine⟨fun a o e=>Km e,fun k a e=>(by exact nE e),fun a k e=>(by exact nE e),fun a k e=>(by exact nE e),fun k o e=>(by simp at e),fun c P q hm=>?_,EC X₀ T⟩;have WD:(c,P,q)∈mR:=hm
 obtain⟨h1,h2⟩:=lX _ WD;obtain hc:=s_ X₀ _ WD;refine⟨hc,?_,?_,rfl,#[],TT P h1,?_,?_⟩
 ·obtain⟨o,_,_,_,_,_,_,_,_,e,_⟩:=hc;exact⟨o,by refine(xm h2).trans ?_;exact e⟩
 ·show Z0 s.heap P=none;exact if_pos (by simpa using h1)
 ·exact trivial
 ·intro pos cv YQ;simp[codeAmong] at YQ
section
def bS(d:Nat)(sc:Scope)(env:af)(e:Expr)(H:AH)(v:V)(H':AH):Prop:=∀⦃A:Around⦄⦃E:Value→Shared→Prop⦄⦃W:Wd⦄⦃s:Shared⦄⦃e':Env⦄⦃Q:Value→Shared→Prop⦄,bx A d→aH W H s→ak sc env e' W s→(∀x W' s',ah W H s aI W' H' s'→Rel W' v x→Q x s')→wpAny (model G.prog G.w) A (eval e e') Q E s
def oF(d:Nat)(sc:Scope)(env:af)(e:Expr)(H:AH)(b:Bool)(H':AH):Prop:=∀⦃A:Around⦄⦃E:Value→Shared→Prop⦄⦃W:Wd⦄⦃s:Shared⦄⦃e':Env⦄⦃Q:Bool→Shared→Prop⦄,bx A d→aH W H s→ak sc env e' W s→(∀W' s',ah W H s aI W' H' s'→Q b s')→wpAny (model G.prog G.w) A (isTrue e e' (eval e e')) Q E s
inductive kI(d:Nat)(sc:Scope)(env:af):List Expr→AH→List V→AH→Prop where
|nil{H:AH}:kI d sc env [] H [] H|cons{e:Expr}{es:List Expr}{H H₁ H':AH}{v:V}{vs:List V}(hs:isStarred e=false)(h:bS d sc env e H v H₁)(k:kI d sc env es H₁ vs H'):kI d sc env (e::es) H (v::vs) H'
def aD(d:Nat)(f:V)(vs:List V)(H:AH)(v:V)(H':AH):Prop:=∀⦃A:Around⦄⦃E:Value→Shared→Prop⦄⦃W:Wd⦄⦃s:Shared⦄⦃f':Value⦄⦃xs:List Value⦄⦃Q:Value→Shared→Prop⦄,bx A d→aH W H s→Rel W f f'→aA W vs xs→(∀x W' s',ah W H s aI W' H' s'→Rel W' v x→Q x s')→codeAny (model G.prog G.w) A (.call f' ⟨xs,[]⟩) (wants Q E) s
def oW(d:Nat)(sc:Scope)(env:af)(t:Expr)(v:V)(H:AH)(aj:af)(H':AH):Prop:=∀⦃A:Around⦄⦃E:Value→Shared→Prop⦄⦃W:Wd⦄⦃s:Shared⦄⦃e':Env⦄⦃x:Value⦄⦃Q:Unit→Shared→Prop⦄,bx A d→aH W H s→ak sc env e' W s→Rel W v x→(∀u W' s',ah W H s (bI sc e') W' H' s'→ak sc aj e' W' s'→Q u s')→wpAny (model G.prog G.w) A (PySem.assign t e' x) Q E s
def gU(d:Nat)(sc:Scope)(env:af)(c:Stmt)(H:AH)(fl:Fl)(aj:af)(H':AH):Prop:=∀⦃A:Around⦄⦃E:Value→Shared→Prop⦄⦃W:Wd⦄⦃s:Shared⦄⦃e':Env⦄⦃Q:Flow→Shared→Prop⦄,bx A d→aH W H s→ak sc env e' W s→(∀f W' s',ah W H s (bI sc e') W' H' s'→ak sc aj e' W' s'→lg W' fl f→Q f s')→wpAny (model G.prog G.w) A (PySem.exec c e') Q E s
theorem ah.k{α:Type}{t:Sem α}{A:Around}{E:Value→Shared→Prop}{X:Addr→Prop}{W W₁:Wd}{H H₁ H':AH}{s s₁:Shared}{R:α→Wd→Shared→Prop}{Q:α→Shared→Prop}(P:ah W H s X W₁ H₁ s₁)(S:aH W H s)(k:∀x W' s',ah W H s X W' H' s'→R x W' s'→Q x s')(h:wpAny (model G.prog G.w) A t (fun x=>aT W₁ H₁ s₁ X H' (R x)) E s₁):wpAny (model G.prog G.w) A t Q E s₁:=wpAny_mono h (fun x s₂ q=>q.elim fun W₂ q=>k x W₂ s₂ (P.trans S q.1) q.2) fun a a h=>h
variable{d:Nat}{sc:Scope}{env:af}{e l r t o i:Expr}{a b v c:V}{H H₁ H₂ H':AH}{p:Pos}
theorem O7{op:Operator}(h1:bS d sc env l H a H₁)(h2:bS d sc env r H₁ b H')(h3:binop op a b=some v):bS d sc env (.BinOp l op r p) H v H':=fun c c c c c c rm S N k=>wpAny_BinOp (h1 rm S N fun c c c P₁ r₁=>h2 rm P₁.sim (N.expr P₁) fun c c c P₂ r₂=>(P₁.trans S P₂).k S k (AZ h3 P₂.sim (r₁.mono P₂.le) r₂))
theorem Kp(h1:bS d sc env o H a H₁)(h2:bS d sc env i H₁ b H')(h4:item H' a b=some c):bS d sc env (.Subscript o i p) H c H':=fun e e e e e e rm S N k=>wW (h1 rm S N fun e e e P₁ r₁=>h2 rm P₁.sim (N.expr P₁) fun e e e P₂ r₂=>(wX h4 P₂.sim (r₁.mono P₂.le) r₂).elim fun g g3=>g.elim fun T g=>g.elim fun x g=>⟨T,x,g.1,g.2,(P₁.trans S P₂).k S k g3⟩)
theorem O8{op:CmpOp}(hm:behindInMarks op r=false)(h1:bS (d+1) sc env l H a H₁)(h2:bS (d+1) sc env r H₁ b H')(h3:dK H' op a b=some v):bS (d+1) sc env (.Compare l [op] [r] p) H v H':=fun c c c c c c rm S N k=>wpAny_Compare1 (h1 rm S N fun c c c P₁ r₁=>h2 rm P₁.sim (N.expr P₁) fun c c c P₂ r₂=>(P₁.trans S P₂).k S k (JX h3 P₂.sim (r₁.mono P₂.le) r₂ (Nat.lt_of_le_of_lt (Nat.add_le_add_left (Nat.le_mul_of_pos_right 12 (Nat.succ_pos _)) _) rm.units))) hm
theorem O9(h1:oF d sc env t H true H₁)(h2:bS d sc env l H₁ v H'):bS d sc env (.IfExp t l r p) H v H':=fun a a a a a a rm S N k=>wpAny_IfExp (h1 rm S N fun a a P₁=>h2 rm P₁.sim (N.expr P₁) fun a a a P₂ r₂=>k _ _ _ (P₁.trans S P₂) r₂)
theorem O_(h1:oF d sc env t H false H₁)(h2:bS d sc env r H₁ v H'):bS d sc env (.IfExp t l r p) H v H':=fun a a a a a a rm S N k=>wpAny_IfExp (h1 rm S N fun a a P₁=>h2 rm P₁.sim (N.expr P₁) fun a a a P₂ r₂=>k _ _ _ (P₁.trans S P₂) r₂)
theorem Pa{j:Int}(h1:bS d sc env l H (.int j) H'):bS d sc env (.UnaryOp .USub l p) H (.int (-j)) H':=fun a a a a a a rm S N k=>wpAny_UnaryOp (h1 rm S N fun a a a P₁ r₁=>P₁.k S k (Exists.elim r₁ fun a h=>h▸P.neg_int (bW (X:=aI) P₁.sim)))
theorem q_{x:Str}(hx:(x==Str.ofString "__debug__")=false)(h:dW G.C sc env x=some v):bS d sc env (.Name x p) H v H:=fun a a a a a a rm S N k=>wpAny_Name ((ah.refl S).k S k (j9 h S N)) hx
theorem Pb{j:Int}{q:Nat}:bS d sc env (.Constant (.int j) q p) H (.int j) H:=fun a a a a a a rm S N k=>wpAny_Constant_int (k _ _ _ (.toks S aI _) ⟨_,rfl⟩)
theorem Pc{x:Str}{q:Nat}(hz:x.length<ai):bS d sc env (.Constant (.str x) q p) H (.str x) H:=fun a a a a a a rm S N k=>Calls.Constant_str (k _ _ _ (.toks S aI _) ⟨hz,_,rfl⟩)
theorem Kq{x:Bool}{q:Nat}:bS d sc env (.Constant (.bool x) q p) H (.bool x) H:=fun a a a a a a rm S N k=>eval_Constant ..▸wpAny_pure (k _ _ _ (.refl S) rfl)
theorem Kr{q:Nat}:bS d sc env (.Constant .none q p) H .none H:=fun a a a a a a rm S N k=>eval_Constant ..▸wpAny_pure (k _ _ _ (.refl S) rfl)
theorem dR{e':Env}{es:List Expr}(hs:isStarred e=false):starEach (e::es) e'=(false,eval e e')::starEach es e':=by induction e using Expr.casesOn<;>first|rfl|exact nomatch hs
theorem kI.run{es:List Expr}{vs:List V}(h:kI d sc env es H vs H'){A:Around}{E:Value→Shared→Prop}{W:Wd}{s:Shared}{e':Env}{q:Pos}(rm:bx A d)(S:aH W H s)(N:ak sc env e' W s):∀{Q:List Value→Shared→Prop},(∀xs W' s',ah W H s aI W' H' s'→aA W' vs xs→Q xs s')→
  wpAny (model G.prog G.w) A (spliced (backTo q (starEach es e'))) Q E s:=by
 induction h generalizing W s with |nil=>exact fun k=>wpAny_pure (k _ _ _ (.refl S) trivial)|cons hs h _ ih=>exact fun k=>dR hs▸Calls.spliced_cons (rest:=backTo q (starEach _ e')) (h rm S N fun a a a P₁ r₁=>ih P₁.sim (N.expr P₁) fun a a a P₂ r₂=>k _ _ _ (P₁.trans S P₂) ⟨r₁.mono P₂.le,r₂⟩)
theorem Ks{es:List Expr}{vs:List V}{v:V}(h:kI d sc env es H vs H₁)(hz:vs.length<ai)(hn:(if G.C.mu p then gY (.lst vs) else pure (.lst vs)) H₁=some (v,H')):bS d sc env (.List es p) H v H':=fun a a a a a a rm S N k=>arm_eval_List ..▸wpAny_bind (wpAny_standAt (wpAny_bind (h.run rm S N fun a a a P₁ r₁=>P₁.k S k (u6 hn P₁.sim r₁ hz))))
theorem Pd{es:List Expr}{q:Nat}{vs:List V}(h:kI d sc env es H vs H')(hz:vs.length<ai):bS d sc env (.Tuple es q p) H (.tup vs) H':=fun a a a a a a rm S N k=>arm_eval_Tuple ..▸wpAny_bind (wpAny_standAt (wpAny_bind (h.run rm S N fun a a a P₁ r₁=>P₁.k S k (sF P₁.sim r₁ hz))))
theorem Pe{x:Str}(hs:dN o=false)(h1:bS d sc env o H a H₁)(h2:getAttrA G.C a x H₁=some (v,H')):bS d sc env (.Attribute o x p) H v H':=fun b b b b b b rm S N k=>arm_eval_Attribute ..▸fW hs▸wpAny_bind (h1 rm S N fun b b b P₁ r₁=>wpAny_bind (wpAny_standAt (wpAny_bind (wpAny_holding ((ah.refl P₁.sim).k P₁.sim (fun b b b P₂ r₂=>wpAny_bind (wpAny_letTemporaryGo (wpAny_pure (k _ _ _ (P₁.trans S P₂) r₂)))) (m3 h2 P₁.sim r₁))))))
theorem Pf{b:Bool}(h:oF d sc env t H b H'):oF d sc env (.UnaryOp .Not t p) H (!b) H':=fun a a a a a a rm S N k=>wpAny_isTrue_Not (h rm S N k)
theorem Pg{b:Bool}(h1:oF d sc env t H true H₁)(h2:oF d sc env l H₁ b H'):oF d sc env (.IfExp t l r p) H b H':=fun a a a a a a rm S N k=>isTrue_IfExp (h1 rm S N fun a a P₁=>h2 rm P₁.sim (N.expr P₁) fun a a P₂=>k _ _ (P₁.trans S P₂))
theorem Ph{b:Bool}(h1:oF d sc env t H false H₁)(h2:oF d sc env r H₁ b H'):oF d sc env (.IfExp t l r p) H b H':=fun a a a a a a rm S N k=>isTrue_IfExp (h1 rm S N fun a a P₁=>h2 rm P₁.sim (N.expr P₁) fun a a P₂=>k _ _ (P₁.trans S P₂))
theorem Pj{op:CmpOp}{b:Bool}(h:bS d sc env (.Compare l [op] [r] p) H (.bool b) H'):oF d sc env (.Compare l [op] [r] p) H b H':=fun a a a a a a rm S N k=>u5 (h rm S N fun a a a P₁ r₁=>u4 (v:=.bool b) (b:=b) rfl P₁.sim r₁ fun a=>k _ _ (P₁.trans S (.toks P₁.sim aI _)))
end
section
variable{d:Nat}{sc:Scope}{env aj ao:af}{e l r t o i x:Expr}{a b v c:V}{H H₁ H₂ H₃ H':AH}{p q:Pos}{fl:Fl}{st:Stmt}{bd:List Stmt}
noncomputable def BP(e:Expr):Bool:=Nat.beq e.ctorIdx 25
def oX(d:Nat)(sc:Scope)(env:af)(b:List Stmt)(H:AH)(fl:Fl)(aj:af)(H':AH):Prop:=∀⦃A:Around⦄⦃E:Value→Shared→Prop⦄⦃W:Wd⦄⦃s:Shared⦄⦃e':Env⦄⦃Q:Flow→Shared→Prop⦄,bx A d→aH W H s→ak sc env e' W s→(∀f W' s',ah W H s (bI sc e') W' H' s'→ak sc aj e' W' s'→lg W' fl f→Q f s')→wpAny (model G.prog G.w) A (PySem.execs b e') Q E s
theorem ah.up{W W':Wd}{s s':Shared}{X:Addr→Prop}(P:ah W H s aI W' H' s'):ah W H s X W' H' s':=P.wk fun a h=>h.elim
theorem nF{M:Model}{α β:Type}{m:Sem α}{b:α}{f:α→Sem β}{A:Around}{Q:β→Shared→Prop}{E:Value→Shared→Prop}{s:Shared}(h:m=pure b)(k:wpAny M A (f b) Q E s):wpAny M A (m>>=f) Q E s:=h▸wpAny_bind (wpAny_pure k)
theorem Pk:oX d sc env [] H .next env H:=fun a a a a a a rm S N k=>wpAny_execs_nil (k _ _ _ (.refl S) N rfl)
theorem bu(h1:gU d sc env st H .next ao H₁)(h2:oX d sc ao bd H₁ fl aj H'):oX d sc env (st::bd) H fl aj H':=fun a a a a a a rm S N k=>wpAny_execs_cons (h1 rm S N fun f a a P₁ N₁ F₁=>(show f=.next from F₁)▸h2 rm P₁.sim N₁ fun a a a P₂ N₂ F₂=>k _ _ _ (P₁.trans S P₂) N₂ F₂)
theorem BQ(h1:gU d sc env st H (.ret v) aj H'):oX d sc env (st::bd) H (.ret v) aj H':=fun a a a a a a rm S N k=>wpAny_execs_cons (h1 rm S N fun f a a P₁ N₁ F₁=>F₁.elim fun x hx=>hx.1▸k _ _ _ P₁ N₁ ⟨x,rfl,hx.2⟩)
theorem Ku(h1:gU d sc env st H .cont aj H'):oX d sc env (st::bd) H .cont aj H':=fun a a a a a a rm S N k=>wpAny_execs_cons (h1 rm S N fun f a a P₁ N₁ F₁=>(show f=.cont from F₁)▸k _ _ _ P₁ N₁ rfl)
theorem Pn(h:bS d sc env x H v H'):gU d sc env (.Return (some x) p) H (.ret v) env H':=fun a a a a a a rm S N k=>exec_Return_some ..▸wpAny_bind (wpAny_standAt (wpAny_bind (h rm S N fun z a a P r=>wpAny_pure (k _ _ _ P.up (N.expr P) ⟨z,rfl,r⟩))))
theorem Po{RB:List Stmt}(h:oF d sc env t H true H₁)(h2:oX d sc env bd H₁ fl aj H'):gU d sc env (.If t bd RB p) H fl aj H':=fun a a a a a a rm S N k=>arm_exec_If ..▸wpAny_bind (wpAny_standAt (wpAny_bind (h rm S N fun a a P=>h2 rm P.sim (N.expr P) fun a a a P₂ N₂ F₂=>k _ _ _ (P.up.trans S P₂) N₂ F₂)))
theorem Pp{RB:List Stmt}(h:oF d sc env t H false H₁)(h2:oX d sc env RB H₁ fl aj H'):gU d sc env (.If t bd RB p) H fl aj H':=fun a a a a a a rm S N k=>arm_exec_If ..▸wpAny_bind (wpAny_standAt (wpAny_bind (h rm S N fun a a P=>h2 rm P.sim (N.expr P) fun a a a P₂ N₂ F₂=>k _ _ _ (P.up.trans S P₂) N₂ F₂)))
theorem Kv(hc:gq x=false)(h:bS d sc env x H .none H'):gU d sc env (.Expr x p) H .next env H':=fun b b b b e' b rm S N k=>
 PySem.exec_Expr e' x p (by unfold interactive;rw[N.kind];rfl) (by induction x using Expr.casesOn<;>first|rfl|(exact nomatch hc))▸
  wpAny_bind (wpAny_standAt (wpAny_bind (h rm S N fun z b b P r=>(show z=.none from r)▸dropValue_plain (v:=.none) (fun a e=>nomatch e)▸wpAny_pure (k _ _ _ P.up (N.expr P) rfl))))
theorem ED{n:Nat}{e':Env}(hc:gq x=false):swapsWith x (some t) n e'=pure false:=by induction x using Expr.casesOn<;>first|rfl|cases hc
theorem yK{e':Env}{ts:List Expr}{k:Nat}(hc:BP x=false):swappedStores [.Tuple ts k p] x e'=pure none:=by induction x using Expr.casesOn<;>first|rfl|cases hc
theorem HF(hc:gq x=false)(hs:∀e',swappedStores [t] x e'=pure none)(ha:∀e',PySem.assignEach [t] e'=[(false,PySem.assign t e')])(h1:bS d sc env x H a H₁)(h2:oW d sc env t a H₁ aj H'):gU d sc env (.Assign [t] x p) H .next aj H':=fun b b b b b b rm S N k=>arm_exec_Assign ..▸wpAny_bind (wpAny_standAt (nF (ED hc) (wpAny_bind (h1 rm S N fun b b b P₁ r₁=>nF (hs _) (ha _▸wpAny_bind (h2 rm P₁.sim (N.expr P₁) r₁ fun b b b P₂ N₂=>wpAny_pure (k _ _ _ (P₁.up.trans S P₂) N₂ rfl)))))))
theorem Pr{y:Str}(hk:kindOf sc y=some .local):oW d sc env (.Name y p) a H (aP env y a) H:=fun b b b b b b b rm S N r k=>wpAny_assign_Name ((ah.refl S).k S (fun x W' s' P (N':ak sc (aP env y a) _ W' s')=>k x W' s' P N') (fj S N hk r))
theorem Kw{y:Str}(hk:kindOf sc y=some .cell)(hw:G.C.wo y=true→aS env y=none):oW d sc env (.Name y p) a H (aP env y a) H:=fun b b b b b b b rm S N r k=>wpAny_assign_Name ((ah.refl S).k S (fun x W' s' P (N':ak sc (aP env y a) _ W' s')=>k x W' s' P N') (vq S N hk hw r))
theorem Pu{y:Str}(h1:bS d sc env o H v H₁)(h2:setAttrA G.C v y a H₁=some ((),H')):oW d sc env (.Attribute o y p) a H env H':=fun b b b b b b b rm S N r k=>arm_assign_Attribute ..▸wpAny_bind (wpAny_holding (h1 rm S N fun b b b P₁ r₁=>wpAny_bind (wpAny_standAt (wpAny_bind (wpAny_holding (mZ h2 P₁.sim r₁ (r.mono P₁.le) fun b b P₂=>wpAny_release (k _ _ _ (P₁.trans S P₂).up (N.expr (P₁.trans S P₂)))))))))
theorem Pw(h1:bS d sc env o H v H₁)(h2:bS d sc env i H₁ b H₂)(h3:jz v b a H₂=some ((),H')):oW d sc env (.Subscript o i p) a H env H':=fun c c c c c c c rm S N r k=>arm_assign_Subscript ..▸wpAny_bind (wpAny_holding (h1 rm S N fun c c c P₁ r₁=>wpAny_bind (wpAny_holding (h2 rm P₁.sim (N.expr P₁) fun c c c P₂ r₂=>wpAny_bind (wpAny_standAt (wpAny_bind (wpAny_holding (m5 h3 P₂.sim (r₁.mono P₂.le) r₂ (r.mono (P₁.le.trans P₂.le)) fun c c P₃=>wpAny_release (k _ _ _ ((P₁.trans S P₂).trans S P₃).up (N.expr ((P₁.trans S P₂).trans S P₃)))))))))))
end
section
variable{d:Nat}{sc:Scope}{env aj ao:af}{e l r t o i x:Expr}{es:List Expr}{a b v c fv:V}{vs us:List V}{H H₁ H₂ H₃ H':AH}{p q ap:Pos}{fl:Fl}{st:Stmt}{bd:List Stmt}
def pW(d:Nat)(f:V)(vs:List V)(H:AH)(v:V)(H':AH):Prop:=∀⦃A:Around⦄⦃E:Value→Shared→Prop⦄⦃W:Wd⦄⦃s:Shared⦄⦃f':Value⦄⦃xs:List Value⦄⦃Q:Value→Shared→Prop⦄,bx A d→aH W H s→Rel W f f'→aA W vs xs→(∀x W' s',ah W H s aI W' H' s'→Rel W' v x→Q x s')→wpAny (model G.prog G.w) A (PySem.call f' xs) Q E s
theorem aD.wp(h:aD d fv vs H v H'):pW d fv vs H v H':=fun a a a a a a a rm S rf rs k=>wpAny_call (h rm S rf rs k)
theorem kI.star{e':Env}(h:kI d sc env es H vs H'):(backTo p (starEach es e')).any (·.1)=false:=by
 induction h with |nil=>rfl|cons hs _ _ ih=>exact dR hs▸ih
theorem kI.args{A:Around}{E:Value→Shared→Prop}{W:Wd}{s:Shared}{e':Env}{f':Value}{Q:Args→Shared→Prop}(h:kI d sc env es H vs H')(rm:bx A d)(S:aH W H s)(N:ak sc env e' W s)
  (k:∀xs W' s',ah W H s aI W' H' s'→aA W' vs xs→Q ⟨xs,[]⟩ s'):wpAny (model G.prog G.w) A (evalArgs f' true (backTo p (starEach es e')) []) Q E s:=by
 induction h with |nil=>exact evalArgs_nil3 (k [] W s (.refl S) trivial)|cons hs h1 h2=>obtain m:=(kI.cons hs h1 h2).run (q:=p) (E:=E) rm S N k;rw[dR hs] at m⊢;exact Calls.evalArgs_plain m
theorem cw{A:Around}{E:Value→Shared→Prop}{W:Wd}{s:Shared}{e':Env}{f':Value}{first:List Value}{Q:Value→Shared→Prop}(h:kI d sc env es H vs H₁)(hc:callable fv=true)(jd:∀c,fv=.cls c→(G.C.gh.lookup c).isSome=true)(rm:bx A d)(S:aH W H s)(N:ak sc env e' W s)
  (rf:Rel W fv f')(k:∀xs W' s',ah W H s aI W' H₁ s'→Rel W' fv f'→aA W' vs xs→wpAny (model G.prog G.w) A (PySem.call f' (first++xs)) Q E s'):
  wpAny (model G.prog G.w) A (callWith q f' first (backTo p (starEach es e')) []) Q E s:=
 callWith_of (P:=A8 fv f') ((Bool.or_false _).trans (h.star (p:=p) (e':=e'))) (fun h X=>qO hc h X jd) (h.args rm S N fun xs W₁ s₁ P₁ r₁=>⟨⟨P₁.sim.cj,W₁,rf.mono P₁.le,P₁.sim.z⟩,k _ W₁ s₁ P₁ (rf.mono P₁.le) r₁⟩)
theorem EE{f:Str}(h1:bS d sc env (.Name f q) H fv H₁)(h2:kI d sc env es H₁ vs H₂)(hc:callable fv=true)(jd:∀c,fv=.cls c→(G.C.gh.lookup c).isSome=true)(h3:pW d fv vs H₂ v H'):bS d sc env (.Call (.Name f q) es [] p) H v H':=fun a a a a a a rm S N k=>arm_eval_Call_Name' ..▸wpAny_bind (h1 rm S N fun a a a P₁ r₁=>cw h2 hc jd rm P₁.sim (N.expr P₁) r₁ (first:=[]) fun a a a P₂ rf rs=>h3 rm P₂.sim rf rs fun a a a P₃ r=>k _ _ _ ((P₁.trans S P₂).trans S P₃) r)
def jM(d:Nat)(sc:Scope)(env:af)(o:V)(m:Str)(es:List Expr)(H:AH)(v:V)(H':AH):Prop:=∀⦃A:Around⦄⦃E:Value→Shared→Prop⦄⦃W:Wd⦄⦃s:Shared⦄⦃e':Env⦄⦃ov:Value⦄⦃p:Pos⦄⦃Q:Value→Shared→Prop⦄,bx A d→aH W H s→ak sc env e' W s→Rel W o ov→(∀x W' s',ah W H s aI W' H' s'→Rel W' v x→Q x s')→∀{im:Sem Bool},wpAny (model G.prog G.w) A (getMethod ov m im) (fun r s₂=>wpAny (model G.prog G.w) A (callWith p r.1 r.2 (backTo p (starEach es e')) []) Q E s₂) E s
end
section
variable{d:Nat}{sc:Scope}{env aj ao:af}{e l r t o i x:Expr}{es:List Expr}{a b v c ov:V}{vs us:List V}{H H₁ H₂ H₃ H':AH}{p q ap:Pos}{m:Str}
theorem EF(hs:dN o=false)(L3:es.any isStarred=false)(hl:(ap.endLine==p.line)=true)(hn:es.length<29)(h1:bS d sc env o H ov H₁)(h2:jM d sc env ov m es H₁ v H'):bS d sc env (.Call (.Attribute o m ap) es [] p) H v H':=fun a a a a a a rm S N k=>ko hs L3 hl hn (h1 rm S N fun a a a P₁ r₁=>h2 rm P₁.sim (N.expr P₁) r₁ fun a a a P₂ r₂=>k _ _ _ (P₁.trans S P₂) r₂)
theorem Kx{k c f:Nat}{fs:List (Str×V)}{cd:Ie}(hk:H[k]?=some (.inst c fs))(hl:fs.lookup m=none)(hd:G.C.gh.lookup c=some cd)(hm:cd.meths.lookup m=some f)(h1:kI d sc env es H vs H₁)(h2:aD d (.fn f) (.ref k::vs) H₁ v H'):jM d sc env (.ref k) m es H v H':=by
 intro A E W s e' ov p Q rm S N r0 kk im;obtain⟨a,rfl,ha⟩:=r0;refine(lU S hk ha hd).elim fun mA YR=>?_;refine YR.elim fun ob YS=>?_;refine YS.elim fun dx WE=>?_;obtain I:=WE.1;obtain F:=WE.2.1
 obtain⟨nm,qn,N0,bs,sn,sub,col,dd,k0,k1',k2,k3,k5,mN,hC,hN,Ob,WG,vg,Oc,DE⟩:=S.cj.cls c cd hd;obtain⟨hf,Ru,y,hB⟩:=Oc m f hm;obtain⟨YT,YU⟩:=mh Ru;obtain⟨_,of,fd,Ut,Uu,_⟩:=S.cj.fns f YT YU;obtain Rj:=F m;rw[hl] at Rj;obtain tail:=cw (q:=p) (p:=p) (E:=E) (Q:=Q) (fv:=.fn f) (f':=.ref (G.fa f)) (first:=[.ref a]) h1 rfl (fun c e=>nomatch e) rm S N ⟨rfl,Ru⟩ fun xs b b P₁ rf rx=>h2.wp rm P₁.sim rf (xs:=.ref a::xs) ⟨⟨a,rfl,P₁.le.φ _ _ ha⟩,rx⟩ fun b b b P₂ r₂=>kk _ _ _ (P₁.trans S P₂) r₂
 exact method_of hC hN Ob WG hf Ut Uu hB I Rj tail
theorem Px{k:Nat}{cl g:V}{fs:List (Str×V)}(hk:H[k]?=some (.o_ cl fs))(hl:fs.lookup (Str.ofString "read")=some g)(hg:zK g=true)(h1:kI d sc env es H vs H₁)(h2:aD d g vs H₁ v H'):jM d sc env (.ref k) (Str.ofString "read") es H v H':=by
 intro A E W s e' ov p Q rm S N r0 kk im;obtain⟨a,rfl,ha⟩:=r0;obtain⟨o,fd,Ou,Ug,YV,Il⟩:=S.at hk ha;rcases Il with ⟨rfl,_⟩|⟨dx,bV,yo,hda,Ow,mF,vg,hF⟩
 ·exact nE hl
 ·obtain WH:=hF (Str.ofString "read")
  rw[hl] at WH;obtain⟨y,hy,ry⟩:=WH;obtain tail:∀k:Nat,wpAny (model G.prog G.w) A (callWith p y [] (backTo p (starEach es e')) []) Q E {s with toks:=k}:=fun k=>
   have PT:=ah.toks S aI k
   cw h1 (by induction g using V.casesOn<;>first|rfl|cases hg) (fun c e=>by subst e;exact bE hg) rm PT.sim (N.expr PT) ry (first:=[]) fun xs b b P₁ rf rx=>h2.wp rm P₁.sim rf rx fun b b b P₂ r₂=>kk _ _ _ ((PT.trans S P₁).trans S P₂) r₂
  exact qN Ou Ug YV yo vg.ns hy i3 (handed (by induction g using V.casesOn<;>first|rfl|cases hg) ry) tail
def EG(T:String)(m:Str)(o:V)(vs:List V)(H:AH)(v:V)(H':AH):Prop:=∃id,Slot T m id∧typeOf (.builtin id)=pure (.type "method_descriptor")∧∀⦃A:Around⦄⦃E:Value→Shared→Prop⦄⦃W:Wd⦄⦃s:Shared⦄⦃x:Value⦄⦃xs:List Value⦄,aH W H s→Rel W o x→aA W vs xs→bx A 1→wpAny (model G.prog G.w) A (PySem.call (.builtin id) (x::xs)) (fun z=>aT W H s aI H' fun W' a=>Rel W' v z) E s
theorem pX{T:String}(pa:PlainAttrs T)(hT:∀{W s x},aH W H s→Rel W ov x→s.TypeIs x T∧∀a,x=.ref a→∃ob,s.heap.get? a=some ob∧ob.dict=none)(h1:kI (d+1) sc env es H vs H₁)(h2:EG T m ov vs H₁ v H'):jM (d+1) sc env ov m es H v H':=fun A E W s e' x p Q rm S N r0 kk im=>h2.elim fun id g=>getMethod_builtin (hT S r0).1 pa g.1 g.2.1 (hT S r0).2 (cw h1 (fv:=.blt id) (p:=p) rfl (fun c e=>nomatch e) rm S N rfl fun xs b b P₁ b rx=>P₁.k S kk (g.2.2 P₁.sim (r0.mono P₁.le) rx (rm.le (Nat.succ_le_succ (Nat.zero_le d)))))
end
theorem yL{W:Wd}{vs:List Value}{ns:List Int}(h:IntsAre vs ns):aA W (ns.map .int) vs:=by
 induction h with |nil=>trivial|cons n t _ ih=>exact⟨⟨t,rfl⟩,ih⟩
theorem EH:∀P∈Hd.kT,∃p∈mR,p.2.1=P:=by decide+kernel
theorem Ky{s s':Shared}{W':Wd}{H':AH}(X₀:(Hd.kF w0.params).In s.heap)(TT:∀P∈Hd.kT,s.heap.get? P=some (tabObj #[]))(P:ah (W0 s.heap) [] s aI W' H' s'):OldK s.heap s'.heap:=by
 obtain grown:∀b o,b∈Hd.kT→s.heap.get? b=some o→isCodeTable s.heap b∧o=tabObj #[]∧∃ps,s'.heap.get? b=some (tabObj ps):=fun b o hb e=>by
  obtain e2:=TT b hb;rw[e] at e2;obtain rfl:=Option.some.inj e2;obtain⟨p,hp,rfl⟩:=EH b hb;obtain hc:=s_ X₀ p hp;refine⟨(hc.tab e).isCodeTable,rfl,?_⟩;refine(P.cl p.2.1 #[] ⟨p.1,p.2.2,hp⟩ e).elim fun more h=>?_
  exact⟨_,h⟩
 obtain keep:∀b o,¬b∈Hd.kT→s.heap.get? b=some o→s'.heap.get? b=some o:=fun b o hb e=>P.keep b o e (fun⟨c,q,hm⟩=>hb (lX _ hm).1) (fun k hk=>by exact nE hk) (fun h=>h)
 refine⟨fun b o e=>?_,fun b o e=>?_⟩
 ·by_cases hb:b∈Hd.kT
  ·obtain⟨ht,rfl,ps,hP⟩:=grown b o hb e;exact .inr (.inl ⟨ht,rfl,#[],ps,rfl,by exact Array.empty_append▸(hP)⟩)
  ·exact .inl (keep b o hb e)
 ·by_cases hb:b∈Hd.kT
  ·obtain⟨_,_,ps,hP⟩:=grown b o hb e;exact⟨_,hP⟩
  ·exact⟨o,keep b o hb e⟩
theorem EI{P:Params}{h:Heap}{a:Addr}{vs:List Value}{d:List WData}(w1:Well P h (.ref a) (.list d))(hL:h.IsList a vs.toArray):h.get? a=some (gW vs.toArray 0):=by
 cases w1 with |list g _=>obtain⟨o,ho,_,n,hd⟩:=hL;rw[g] at ho;obtain rfl:=Option.some.inj ho;cases hd;exact g
theorem EJ{s:Shared}{p:Program}{loose:List Str}{sj:ExcName→Option Value}{mg mb:Str→Option Value}{fa a:Addr}{vs:List Value}{ns:List Int}{m:Nat}{E:Value→Shared→Prop}(X₀:(Hd.kF w0.params).In s.heap)(TT:∀P∈Hd.kT,s.heap.get? P=some (tabObj #[]))(T:Top p loose sj mg mb s.heap)
  (hf:mg (Mine.T "law")=some (.ref fa))(g:s.heap.get? a=some (gW vs.toArray m))(hI:IntsAre vs ns)(hl:ns.length<64){H':AH}(run:aD 9 (.fn 215) [.lst (ns.map .int)] [] (.bool true) H'):
  wpAny (model k9 w0) callerA (PySem.call (.ref fa) [.ref a]) (fun v s'=>v=.bool true∧OldK s.heap s'.heap∧s'.os=s.os∧s'.gens=s.gens) E s:=by
 obtain S:=Ko X₀ TT T;have Uv:fa=215:=by have :=gA X₀ T.g (n:=Mine.T "law") (v:=.ref 215) (by kernel_rfl);rw[hf] at this;cases this;rfl
 subst Uv;have ha:Hd.kT.contains a=false:=by
  induction h:Hd.kT.contains a with |false=>rfl|true=>have :=TT a (by simp_all);rw[g] at this;exact nomatch this
 refine wpAny_call (run (A:=callerA) (E:=E) (f':=.ref 215) (xs:=[.ref a]) ⟨rfl,by decide+kernel,by decide+kernel⟩ S ?_ ?_ fun v W' s' P r=>?_)
 ·skip
  exact⟨rfl,rfl⟩
 ·skip
  refine⟨⟨a,m,_,rfl,?_,?_,by exact yL hI⟩,trivial⟩
  ·skip
   refine(xm ha).trans ?_;exact g
  ·rw[List.length_map];exact Nat.lt_trans hl (by decide)
 ·skip
  exact⟨r,Ky X₀ TT P,P.os,P.gens⟩
end Mine
end
noncomputable section
open PySem PySem.W PySem.Builtin PySem.Builtin.Str
namespace Mine
noncomputable def gX(l:List Nat):Bool:=decide (l.reverse=l)
noncomputable def chainOf:List Nat→List (List Nat)|[]=>[[]]|a::t=>if gX (a::t) then(a::t)::chainOf t else chainOf t
theorem iO(l:List Nat):gX l=true↔l.reverse=l:=by simp[gX]
theorem bz{y:List Nat}:∀{t:List Nat},y∈chainOf t↔y<:+t∧gX y=true
|[]=>by
 rw[chainOf,List.mem_singleton,List.suffix_nil];constructor
 ·rintro rfl;exact⟨rfl,rfl⟩
 ·exact fun h=>h.1
|a::t=>by
 rw[List.suffix_cons_iff];unfold chainOf;induction hp:gX (a::t) with
 |true=>
  rw[if_pos rfl,List.mem_cons,bz];constructor
  ·rintro(rfl|h)
   ·exact⟨.inl rfl,hp⟩
   ·exact⟨.inr h.1,h.2⟩
  ·rintro⟨rfl|h,h2⟩
   ·exact .inl rfl
   ·exact .inr ⟨h,h2⟩
 |false=>
  rw[if_neg (by simp),bz];constructor
  ·exact fun h=>⟨.inr h.1,h.2⟩
  ·rintro⟨rfl|h,h2⟩
   ·rw[hp] at h2;exact bE h2
   ·exact⟨h,h2⟩
theorem iB(t:List Nat):chainOf t≠[]:=by have :[]∈chainOf t:=bz.mpr ⟨List.nil_suffix,rfl⟩;intro h;rw[h] at this;exact nomatch this
theorem fZ{y t:List Nat}(h:y∈chainOf t):y.length≤t.length:=(bz.mp h).1.length_le
theorem vH{y t:List Nat}(h:y∈chainOf t)(hl:y.length=t.length):y=t:=(bz.mp h).1.eq_of_length hl
theorem bT{y:List Nat}:∀{t:List Nat} {pre r:List (List Nat)},chainOf t=pre++y::r→chainOf y=y::r
|[],pre,r,h=>by
 have h':[[]]=pre++y::r:=h;induction pre with
 |nil=>obtain⟨rfl,rfl⟩:=List.cons.inj h';rfl
 |cons p q=>induction q<;>simp at h'
|a::t,pre,r,h=>by
 by_cases hp:gX (a::t)=true
 ·have h':(a::t)::chainOf t=pre++y::r:=by
   rw[←h];simp only[chainOf];rw[if_pos hp]
  induction pre with
  |nil=>obtain⟨rfl,rfl⟩:=List.cons.inj (show(a::t)::chainOf t=y::r from h');exact if_pos hp
  |cons p q=>exact bT (t:=t) (pre:=q) (List.cons.inj h').2
 ·have h':chainOf t=pre++y::r:=by
   rw[←h];simp only[chainOf];rw[if_neg hp]
  exact bT h'
theorem nG{b:Nat}{t:List Nat}{r:List (List Nat)}(h:chainOf (b::t)=(b::t)::r):r=chainOf t:=by
 unfold chainOf at h;split at h
 ·exact(List.cons.inj h).2.symm
 ·have :(b::t)∈chainOf t:=by rw[h];exact .head _
  have :=fZ this;simp only[List.length_cons] at this;lia
theorem gB{t:List Nat}{pre r:List (List Nat)}(h:chainOf t=pre++[]::r):r=[]:=by have :=bT h;cases this;rfl
theorem i6{t y:List Nat}{pre r:List (List Nat)}(h:chainOf t=pre++y::r)(hy:y≠[]):∃z s,r=z::s:=by
 obtain e:=bT h;induction y with
 |nil=>exact absurd rfl hy|cons b u=>
  have :=nG e;induction r with |nil=>exact absurd this.symm (iB u)|cons z s=>exact⟨z,s,rfl⟩
theorem dS{t y:List Nat}{pre r:List (List Nat)}(h:chainOf t=pre++y::r):∀z∈r,z.length<y.length:=by
 intro z hz;have e:=bT h
 have hm:z∈chainOf y:=by rw[e];exact .tail _ hz
 induction y using List.casesOn with
 |nil=>have :=gB h;subst this;exact nomatch hz|cons b u=>
  have :=nG e;subst this;have :=fZ hz
  simp;exact aE (nat_lit 441454204813569) ae this
theorem fC:∀t:List Nat,(chainOf t).Nodup
|[]=>by trivial|a::t=>by
 unfold chainOf;split
 ·refine List.nodup_cons.mpr ⟨fun h=>?_,fC t⟩;have :=fZ h;simp only[List.length_cons] at this;exact aV (nat_lit 0x90961019080101) ae this
 ·exact fC t
theorem BR(a c:Nat)(t:List Nat):gX (a::(t++[c]))=(a==c&&gX t):=by
 rw[Bool.eq_iff_iff];simp only[gX,decide_eq_true_eq,Bool.and_eq_true,beq_iff_eq];rw[List.reverse_cons,List.reverse_append];constructor
 ·intro h;have h':c::(t.reverse++[a])=a::(t++[c]):=h;obtain⟨rfl,h2⟩:=List.cons.inj h';exact⟨rfl,List.append_cancel_right h2⟩
 ·rintro⟨rfl,h⟩;simp[h]
noncomputable def cu(t:List Nat)(c:Nat)(e:List Nat):Bool:=decide (e.length<t.length)&&t[t.length-e.length-1]?==some c
theorem kJ(c:Nat):∀t:List Nat,chainOf (t++[c])=((chainOf t).filter (cu t c)).map (fun e=>c::(e++[c]))++[[c],[]]
|[]=>by simp[chainOf,gX,cu]|a::t=>by
 obtain ih:=kJ c t;have same:∀e,e.length<t.length→cu (a::t) c e=cu t c e:=fun e he=>by
  unfold cu;obtain e1:(a::t).length-e.length-1=(t.length-e.length-1)+1:=by simp;exact uv (nat_lit 0x29180253081928042348344191834191840134820119283082116) ae (Nat.sub_add_cancel (aE (nat_lit 441453936382209) ae he:e.length≤t.length+1)) (Ln.aN (t.length) (e.length)) (Ln.aN (t.length-e.length) (1)) (Nat.sub_add_cancel (aQ (nat_lit 0x21901028101101102) ae he (Ln.aN (t.length) (e.length)):1≤t.length-e.length)) (Nat.sub_add_cancel (aE (nat_lit 68737306881) ae he:e.length≤t.length)) (Ln.aN (t.length+1) (e.length))
  simp only[e1,List.getElem?_cons_succ];obtain e2:decide (e.length<(a::t).length)=decide (e.length<t.length):=by rw[decide_eq_true he,decide_eq_true (by simp;exact aE (nat_lit 441454204817665) ae he)]
  simp only[e2]
 have top:cu (a::t) c t=(a==c):=by
  unfold cu;obtain e1:(a::t).length-t.length-1=0:=by simp
  simp
 have Uw:cu t c t=false:=by simp[cu]
 have full:cu (a::t) c (a::t)=false:=by simp[cu]
 have step:(chainOf (a::t)).filter (cu (a::t) c)=(chainOf t).filter (cu (a::t) c):=by
  rw[chainOf.eq_2];split
  ·rw[List.filter_cons,full];rfl
  ·rfl
 have hL:chainOf (a::t++[c])=if gX (a::(t++[c])) then(a::(t++[c]))::chainOf (t++[c]) else chainOf (t++[c]):=by show chainOf (a::(t++[c]))=_;rfl
 simp only[hL,step,ih,BR];by_cases hp:gX t=true
 ·obtain⟨R,hR,hs⟩:∃R,chainOf t=t::R∧∀e∈R,e.length<t.length:=by
   have :t∈chainOf t:=bz.mpr ⟨List.suffix_refl _,hp⟩;induction h:chainOf t using List.casesOn with
   |nil=>exact absurd h (iB t)|cons x R=>
    obtain hx:x=t:=by
     rw[h] at this;rcases bM this with e|e
     ·exact e.symm
     ·have :=dS (pre:=[]) h t e;obtain h3:x∈chainOf t:=by exact h▸(.head _)
      have :=fZ h3;omega
    subst hx;exact⟨R,rfl,dS (pre:=[]) h⟩
  obtain e1:R.filter (cu (a::t) c)=R.filter (cu t c):=List.filter_congr fun e he=>same e (hs e he)
  rw[hR,List.filter_cons,List.filter_cons,top,Uw,e1,hp];by_cases WI:a=c
  ·subst WI;simp
  ·have :(a==c)=false:=by simpa using WI
   simp[this]
 ·obtain hs:∀e∈chainOf t,e.length<t.length:=fun e he=>by
   have h1:=fZ he;rcases Nat.lt_or_ge e.length t.length with h|h
   ·exact h
   ·have :=vH he (aE (nat_lit 322225693589778) ae h1 h);cases this;exact absurd (bz.mp he).2 hp
  obtain e1:(chainOf t).filter (cu (a::t) c)=(chainOf t).filter (cu t c):=List.filter_congr fun e he=>same e (hs e he)
  rw[e1];simp[hp]
theorem rh{w y x:List Nat}{r:List (List Nat)}{k:Nat}(hk:k≤w.length)(h:chainOf (w.take k)=x::r)(hy:y∈r):∃j,j<k∧y∈chainOf (w.take j):=by
 obtain e:=bT (pre:=[]) h;have hx:=bz.mp (show x∈chainOf (w.take k) by refine h▸?_;exact .head _)
 have Ux:=bz.mp (show y∈chainOf x by exact e▸(.tail _ hy));obtain bL:=dS (pre:=[]) h y hy;obtain px:=(iO x).mp hx.2;obtain py:=(iO y).mp Ux.2;obtain yk:y<+:x:=by
  obtain this:=List.reverse_prefix.mpr Ux.1
  rwa [px,py] at this
 obtain⟨s,hs⟩:=yk;obtain⟨p,hp⟩:=hx.1;obtain hlen:p.length+x.length=k:=by obtain this:=congrArg List.length hp;simp only[List.length_append,List.length_take] at this;lia
 refine⟨p.length+y.length,gS (nat_lit 0x230811131121082102) ae hlen bL,bz.mpr ⟨⟨p,?_⟩,Ux.2⟩⟩;obtain e2:(w.take k).take (p.length+y.length)=w.take (p.length+y.length):=by refine List.take_take.trans ?_;congr 1;lia
 rw[←e2,←hp,←hs,←List.append_assoc];have :(p++y).length=p.length+y.length:=by simp
 rw[←this,List.take_left'];rfl
noncomputable def tailOf:List Nat→List (List Nat)|[]=>[]|a::t=>if gX (a::t) then(a::t)::tailOf t else tailOf t
theorem cy:∀t:List Nat,chainOf t=tailOf t++[[]]|[]=>rfl|a::t=>by unfold chainOf tailOf;rw[cy t];split<;>rfl
theorem bP{x t:List Nat}:x∈tailOf t↔x∈chainOf t∧x≠[]:=by
 rw[cy,List.mem_append,List.mem_singleton];obtain hn:[]∉tailOf t:=by obtain this:=fC t;rw[cy] at this;exact fun h=>(ja this).2.2 [] h [] (by trivial) rfl
 constructor
 ·exact fun h=>⟨.inl h,fun e=>hn (e▸h)⟩
 ·rintro⟨h|h,h2⟩
  ·exact h
  ·exact absurd h h2
theorem jk(t:List Nat):(tailOf t).Nodup:=by have :=fC t;rw[cy] at this;exact(ja this).1
def lastOf(t:List Nat):List Nat:=(chainOf t).headD []
def ay(x:List Nat):List Nat:=(chainOf x).getD 1 []
noncomputable def prevIn:List Nat→List (List Nat)→List Nat→List Nat|p,[],x=>[]|p,y::r,x=>if y=x then p else prevIn y r x
theorem rj{x:List Nat}{r:List (List Nat)}:∀(pre:List (List Nat)) (p:List Nat),x∉pre→prevIn p (pre++x::r) x=(p::pre).getLast (by grind)
|[],p,h=>by simp[prevIn]|q::pre,p,h=>by
 obtain hq:q≠x:=fun e=>h (e▸.head _)
 refine(?_:(if q=x then p else prevIn q (pre++x::r) x)=_);rw[if_neg hq,rj pre q (fun hh=>h (.tail _ hh))];exact(List.getLast_cons (a:=p) (List.cons_ne_nil q pre)).symm
theorem pY{x y:List Nat}{pre r:List (List Nat)}(p:List Nat)(h:x∉pre++[y]):prevIn p (pre++y::x::r) x=y:=by obtain this:=rj (x:=x) (r:=r) (pre++[y]) p h;rw[List.append_assoc] at this;rw[show pre++y::x::r=pre++([y]++x::r) from rfl,this];rw[List.getLast_cons (by simp)];simp
theorem rB{y:List Nat}{t:List Nat}{pre r:List (List Nat)}(h:tailOf t=pre++y::r):ay y=r.headD []:=by
 have :chainOf t=pre++y::(r++[[]]):=by rw[cy,h];simp
 unfold ay;refine(bT this)▸?_;induction r<;>rfl
theorem iC{one t:List Nat}(h:one∈tailOf t)(hx:ay one≠[]):ay one∈tailOf t∧prevIn [] (tailOf t) (ay one)=one:=by
 obtain⟨pre,r,e⟩:=List.append_of_mem h;have hl:=rB e
 induction r with |nil=>exact absurd hl hx|cons x r=>have AY:ay one=x:=hl;rw[AY];obtain nd:=jk t;rw[e] at nd;refine⟨by rw[e];simp,?_⟩;rw[e];refine pY _ ?_;rw[show pre++one::x::r=(pre++[one])++x::r by simp] at nd;exact fun hm=>(ja nd).2.2 x hm x (.head _) rfl
theorem cz{x t:List Nat}(h:x∈tailOf t)(hy:prevIn [] (tailOf t) x≠[]):prevIn [] (tailOf t) x∈tailOf t∧ay (prevIn [] (tailOf t) x)=x:=by
 obtain⟨pre,r,e⟩:=List.append_of_mem h;have nd:=jk t
 rw[e] at nd;have hx:x∉pre:=fun hm=>(ja nd).2.2 x hm x (.head _) rfl
 rcases List.eq_nil_or_concat pre with rfl|⟨Uy,y,rfl⟩
 ·rw[e] at hy;simp[prevIn] at hy
 ·have e2:tailOf t=Uy++y::x::r:=by refine e.trans ?_;simp
  have :prevIn [] (tailOf t) x=y:=by exact e2▸(pY _ (by simpa using hx))
  refine this▸?_;exact⟨by rw[e2];simp,rB e2⟩
theorem nH{x t:List Nat}(h:x∈tailOf t):prevIn [] (tailOf t) x=[]↔lastOf t=x:=by
 obtain⟨pre,r,e⟩:=List.append_of_mem h;have nd:=jk t
 rw[e] at nd;have hx:x∉pre:=fun hm=>(ja nd).2.2 x hm x (.head _) rfl
 obtain bV:∀y∈tailOf t,y≠[]:=fun y hy=>(bP.mp hy).2
 unfold lastOf;rw[cy,e,rj _ _ hx];induction pre with
 |nil=>simp |cons y pre=>
  have :(([]:List Nat)::y::pre).getLast (by simp)∈tailOf t:=by simp only[e];exact List.mem_append_left _ (List.getLast_mem _)
  constructor
  ·intro h2;exact absurd h2 (bV _ this)
  ·intro h2;have :y=x:=h2;exact absurd (this▸.head _) hx
theorem oY{x t:List Nat}(h:x∈tailOf t)(hy:prevIn [] (tailOf t) x≠[]):x.length<(prevIn [] (tailOf t) x).length:=by
 obtain key:∀y,y∈tailOf t→ay y=x→x.length<y.length:=fun y h1 h2=>by
  obtain⟨pre,r,e⟩:=List.append_of_mem h1;have hl:=rB e
  rw[h2] at hl;induction r with
  |nil=>exact absurd hl (bP.mp h).2|cons z r=>
   have hz:x=z:=hl;obtain e2:chainOf t=pre++y::(z::r++[[]]):=by rw[cy,e];simp
   exact dS e2 x (by rw[hz];simp)
 obtain⟨h1,h2⟩:=cz h hy;exact key _ h1 h2
theorem nI{t:List Nat}(h:t≠[]):lastOf t∈tailOf t:=by
 unfold lastOf;rcases List.eq_nil_or_concat t with rfl|⟨u,c,rfl⟩
 ·exact absurd rfl h
 ·obtain hc:[c]∈tailOf (u++[c]):=bP.mpr ⟨by rw[kJ];simp,by simp⟩;rw[cy];rw[List.concat_eq_append];induction e:tailOf (u++[c]) with |nil=>rw[e] at hc;exact nomatch hc|cons y r=>exact List.Mem.head _
theorem yM{t:List Nat}(h:t≠[]):∃r,chainOf t=lastOf t::ay (lastOf t)::r:=by
 obtain hm:=nI h;unfold lastOf at *;induction e:chainOf t with
 |nil=>exact absurd e (iB t)|cons x r=>
  obtain hm:=e▸hm;have hx:=(bP.mp hm).2
  obtain⟨z,s,rfl⟩:=i6 (pre:=[]) e hx;have :=bT (pre:=[]) e
  refine⟨s,?_⟩;unfold ay;refine this.symm▸?_;rfl
end Mine
end
noncomputable section
open PySem PySem.W PySem.Builtin PySem.Builtin.Str PyProof.Rows
namespace Mine
section
variable{d:Nat}{sc:Scope}{env aj ao:af}{e l r t o i x:Expr}{es:List Expr}{a b v v' c ov f:V}{vs us:List V}{H H₁ H₂ H₃ H':AH}{p q ap:Pos}{m:Str}{fl:Fl}
theorem BS{n:Nat}(h:aD d f vs H v H₁)(hz:freeze n v H₁=some (v',H')):aD d f vs H v' H':=fun a a a a a a a rm S rf rs k=>h rm S rf rs fun a a a P r=>(iM n hz P.sim r).elim fun a q=>k _ _ _ (P.trans S q.1) q.2
theorem Kz{fk:Nat}{dd:zF}(hd:jb G.C fk=some dd)(hl:dd.params.length=vs.length)(h:oX d dd.sc (dd.params.zip vs) dd.body H fl aj H'):aD (d+1) (.fn fk) vs H (R2 fl) H':=by
 intro A E W s f' xs Q rm S rf rs k;refine rf.elim fun z1 b=>?_;subst z1
 obtain⟨gr,o,fd,ho,Kg,fK,BU,sJ,hg,Uz,UA,KA,UB,KC,N6,xn⟩:=S.cj.fns fk dd hd;have KD:=gr
 unfold zF.ok at KD;simp only[Bool.and_eq_true,decide_eq_true_eq,beq_iff_eq,Bool.not_eq_true'] at KD;obtain⟨⟨⟨⟨⟨⟨Hu,hd2⟩,Rm⟩,L0⟩,X9⟩,NZ⟩,X8⟩:=KD;have JZ:dd.params.length=xs.length:=by rw[hl];exact rs.length
 refine codeAny_call_cells rm.lim ho fK S.cj.noLimit N6 BU (lq KC KA UB JZ NZ) UA ?_ (fun s₁ I=>?_) (by rw[sJ];exact hd2) (by rw[sJ];exact Rm) (by rw[sJ];exact Hu)
 ·intro x hx;obtain YW:x.1∈dd.params:=(List.of_mem_zip (show(x.1,x.2)∈dd.params.zip xs from hx)).1;obtain this:=cZ L0 x.1 YW;unfold AS kindOf at this;rw[sJ]
  revert this
  induction hk:dd.sc.names.lookup x.1 with
  |none=>intro h;exact bE h|some k=>
   induction k with |«local»=>intro _;exact .inl rfl|cell=>intro _;exact .inr ⟨rfl,dO _ _ _ _ hk⟩|_=>intro h;exact bE h
 ·obtain⟨P₁,N₁,own⟩:=A6 S gr rfl hl rs sJ hg Uz xn I;exact h (rm.deeper _) P₁.sim N₁ fun g W₂ s₂ P₂ N₂ F₂=>k _ _ _ (ah.trans' S P₁ P₂ fun a ha=>.inr (own a ha)) F₂.val
theorem UC{k f:Nat}(h:aD d (.fn f) (.ref k::vs) H v H'):aD d (.bm k f) vs H v H':=fun c c c c c c c rm S rf rs k=>by obtain⟨a,b,rfl,h2,h3,h4⟩:=rf;exact ks_codeAny_call_bound (S.z _ _ h3) (h rm S ⟨rfl,h4⟩ ⟨⟨b,rfl,h2⟩,rs⟩ k)
theorem HG{ps:List Str}{body:Expr}{c7:List (Str×V)}(L5:wB ps sc c7=true)(hl:ps.length=vs.length)(h:bS d (gi sc) (ps.zip vs++c7) body H v H'):aD (d+1) (.rO ps body sc c7) vs H v H':=by
 intro A E W s f' xs Q rm S rf rs k;obtain⟨a,o,fd,rfl,hz,Kg,fK,KC,BU,sJ,hg,Uz,KA,UB,⟨c,oc,YX,t,N3,Rn,Ro,N4⟩,rc⟩:=rf;have KG:=L5
 unfold wB at KG;simp only[Bool.and_eq_true,decide_eq_true_eq,beq_iff_eq,Bool.not_eq_true'] at KG;obtain⟨⟨⟨⟨⟨⟨⟨⟨lM,g1⟩,g2⟩,g3⟩,g4⟩,g5⟩,g6⟩,g7⟩,g8⟩:=KG;obtain JZ:ps.length=xs.length:=by rw[hl];exact rs.length
 refine kla_callFunE rm.lim (S.z _ _ hz) fK (by rw[sJ];exact g2) (by rw[sJ];exact g3) BU ⟨c,oc,YX,t,N3,S.z _ _ Rn,Ro,N4⟩ ?_;rw[lq KC KA UB JZ g7];refine wpAny_pure (wpAny_newFunctionEnv ?_ ?_ (fun h₁ vg zu=>?_) (by rw[sJ];exact g1))
 ·intro x hx;rw[sJ] at hx;obtain this:=cZ g4 x hx;simpa using this
 ·intro x hx;obtain this:=cZ g5 x.1 (List.of_mem_zip (show(x.1,x.2)∈ps.zip xs from hx)).1;rw[sJ];unfold kindOf at this;simpa using this
 ·obtain⟨P₁,N₁,own⟩:=ym (e:=newEnv fd.scope s.heap.objs.size fd.globals fd.closure (fd.qualname++".<locals>.") (some a) fd.code none fd.builtins) S L5 hl rs rc rfl sJ rfl hg Uz vg _ zu;exact⟨P₁.sim.cj.noLimit,kla_codeExpr (h (rm.deeper _) P₁.sim N₁ fun x W₂ s₂ P₂ r₂=>k _ _ _ (P₁.trans S P₂) r₂)⟩
end
section
variable{d:Nat}{sc:Scope}{env aj ao:af}{e l r t o i x:Expr}{es:List Expr}{a b c old ov iv y z:V}{vs us:List V}{H H₁ H₂ H₃ H₄ H':AH}{p q ap:Pos}{m n:Str}{fl:Fl}
theorem KH(h1:dW G.C sc env n=some old)(h2:bS d sc env x H y H')(h3:jx old y=some z)(hk:kindOf sc n=some .local):gU d sc env (.AugAssign (.Name n q) .Add x p) H .next (aP env n z) H':=by intro A E W s e' Q rm S N k;refine arm_exec_AugAssign ..▸wpAny_bind (wpAny_standAt (wpAny_bind ((ah.refl S).k S (fun a W₁ s₁ P₁ r₁=>?_) (j9 h1 S N))));refine wpAny_bind (wpAny_holding (h2 rm P₁.sim (N.expr P₁) fun b W₂ s₂ P₂ r₂=>wpAny_bind (wpAny_standAt (wpAny_bind (wpAny_operating ((P₁.trans S P₂).k S (fun c W₃ s₃ P r₃=>?_) (m6 h3 P₂.sim (r₁.mono P₂.le) r₂)))))));exact wpAny_bind (wpAny_standAt (wpAny_bind (wpAny_bindName (P.up.k S (R:=fun e W' s'=>ak sc (aP env n z) e' W' s') (fun e e e P N'=>wpAny_pure (k _ _ _ P N' rfl)) (fj P.sim (N.expr P) hk r₃)))))
theorem eO{α:Type}{t:Sem α}{A:Around}{E:Value→Shared→Prop}{X:Addr→Prop}{W:Wd}{s:Shared}{R:α→Wd→Shared→Prop}{Q:α→Shared→Prop}(h:wpAny (model G.prog G.w) A t (fun x=>aT W H s X H' (R x)) E s)(k:∀x W' s',ah W H s X W' H' s'→R x W' s'→Q x s'):wpAny (model G.prog G.w) A t Q E s:=wpAny_mono h (fun x s₂ q=>q.elim fun W₂ q=>k x W₂ s₂ q.1 q.2) fun a a h=>h
theorem KI(h1:bS d sc env o H ov H₁)(h2:getAttrA G.C ov m H₁=some (old,H₂))(h3:bS d sc env x H₂ y H₃)(h4:jx old y=some z)(h5:setAttrA G.C ov m z H₃=some ((),H')):gU d sc env (.AugAssign (.Attribute o m q) .Add x p) H .next env H':=by
 intro A E W s e' Q rm S N k;refine arm_exec_AugAssign_2 ..▸wpAny_bind (wpAny_standAt (wpAny_bind (h1 rm S N fun u W₁ s₁ P₁ r₁=>wpAny_bind (wpAny_holding (wpAny_bind (wpAny_standAt (wpAny_bind (eO (m3 h2 P₁.sim r₁) fun a W₂ s₂ P₂ r₂=>?_))))))));refine wpAny_bind (wpAny_holding (h3 rm P₂.sim (N.expr (P₁.trans S P₂)) fun b W₃ s₃ P₃ r₃=>wpAny_bind (wpAny_standAt (wpAny_operating (eO (m6 h4 P₃.sim (r₂.mono P₃.le) r₃) fun c W₄ s₄ P₄ r₄=>?_)))));have Q4:=(P₂.trans P₁.sim P₃).trans P₁.sim P₄
 exact wpAny_bind (wpAny_standAt (wpAny_bind (wpAny_holding (mZ h5 P₄.sim (r₁.mono Q4.le) r₄ fun W₅ s₅ P₅=>wpAny_bind (wpAny_release (wpAny_pure (have P:=(P₁.trans S Q4).trans S P₅;k _ _ _ P.up (N.expr P) rfl)))))))
theorem KJ(hi:isSlice i=false)(h1:bS d sc env o H ov H₁)(h2:bS d sc env i H₁ iv H₂)(h3:item H₂ ov iv=some old)(h4:bS d sc env x H₂ y H₃)(h5:jx old y=some z)(h6:jz ov iv z H₃=some ((),H')):gU d sc env (.AugAssign (.Subscript o i q) .Add x p) H .next env H':=by
 intro A E W s e' Q rm S N k;refine arm_exec_AugAssign_3 ..▸wpAny_bind (wpAny_standAt (wpAny_bind (h1 rm S N fun u W₁ s₁ P₁ r₁=>wpAny_bind (wpAny_holding (h2 rm P₁.sim (N.expr P₁) fun j W₂ s₂ P₂ r₂=>wpAny_bind (wpAny_holding (wpAny_bind (wpAny_standAt (wpAny_bind (eO (wX h3 P₂.sim (r₁.mono P₂.le) r₂).2 fun b W₃ s₃ P₃ r₃=>?_))))))))));refine wpAny_bind (wpAny_holding (h4 rm P₃.sim (N.expr ((P₁.trans S P₂).trans S P₃)) fun c W₄ s₄ P₄ r₄=>wpAny_bind (wpAny_standAt (wpAny_operating (eO (m6 h5 P₄.sim (r₃.mono P₄.le) r₄) fun dd W₅ s₅ P₅ r₅=>?_)))));have Q5:=(P₃.trans P₂.sim P₄).trans P₂.sim P₅
 refine wpAny_bind (wpAny_standAt ?_);have main:wpAny (model G.prog G.w) A (do holding [dd,u,j] (setItem u j dd);release [dd,u,j] [];pure Flow.next) Q E s₅:=wpAny_bind (wpAny_holding (m5 h6 P₅.sim (r₁.mono (P₂.le.trans Q5.le)) (r₂.mono Q5.le) r₅ fun W₆ s₆ P₆=>wpAny_bind (wpAny_release (wpAny_pure (have P:=((P₁.trans S P₂).trans S Q5).trans S P₆;k _ _ _ P.up (N.expr P) rfl)))))
 induction i using Expr.casesOn<;>first|exact main|cases hi
end
section
variable{d:Nat}{sc:Scope}{env aj ao:af}{e l r t o i x:Expr}{es ts:List Expr}{a b c v ov iv y z:V}{vs us:List V}{H H₁ H₂ H₃ H₄ H':AH}{p q ap:Pos}{m n:Str}{fl:Fl}
inductive BV(d:Nat)(sc:Scope):af→List Expr→List V→AH→af→AH→Prop where
|nil{env:af}{H:AH}:BV d sc env [] [] H env H|cons{t:Expr}{ts:List Expr}{v:V}{vs:List V}{env ao aj:af}{H H₁ H':AH}(hs:isStarred t=false)(h:oW d sc env t v H ao H₁)(k:BV d sc ao ts vs H₁ aj H'):BV d sc env (t::ts) (v::vs) H aj H'
theorem gM{e':Env}(hs:isStarred t=false):PySem.assignEach (t::ts) e'=(false,PySem.assign t e')::PySem.assignEach ts e':=by induction t using Expr.casesOn<;>first|rfl|exact nomatch hs
theorem BV.len{e':Env}(h:BV d sc env ts vs H aj H'):(PySem.assignEach ts e').length=vs.length∧(PySem.assignEach ts e').findIdx? (·.1)=none:=by
 induction h with |nil=>exact⟨rfl,rfl⟩|cons hs _ _ ih=>refine(gM hs)▸?_;exact⟨congrArg (·+1) ih.1,by rw[List.findIdx?_cons,ih.2];rfl⟩
theorem BV.run{A:Around}{E:Value→Shared→Prop}{W:Wd}{s:Shared}{e':Env}{xs:List Value}(h:BV d sc env ts vs H aj H')(rm:bx A d)(S:aH W H s)(N:ak sc env e' W s)(r:aA W vs xs):
  ∀{Q:Unit→Shared→Prop},(∀u W' s',ah W H s (bI sc e') W' H' s'→ak sc aj e' W' s'→Q u s')→wpAny (model G.prog G.w) A (assignInOrder ((PySem.assignEach ts e').map (·.2)) xs) Q E s:=by
 induction h generalizing W s xs with |nil=>exact fun k=>(match xs,r with |[],_=>wpAny_pure (k _ _ _ (.refl S) N))|cons hs h _ ih=>exact fun k=>gM hs▸(match xs,r with |x::xs,r=>wpAny_bind (wpAny_holding (h rm S N r.1 fun a a a P₁ N₁=>ih P₁.sim N₁ (r.2.mono P₁.le) fun a a a P₂ N₂=>k _ _ _ (P₁.trans S P₂) N₂)))
theorem HH{k:Nat}(h:BV d sc env ts vs H aj H'):oW d sc env (.Tuple ts k p) (.tup vs) H aj H':=by
 intro A E W s e' x Q rm S N r kk;obtain⟨a,m,xs,rfl,hz,hl,r⟩:=r;obtain g:=S.z _ _ hz;obtain el:=r.length;refine arm_assign_Tuple ..▸wpAny_bind (wpAny_standAt ?_);unfold unpack;simp only[h.len.1,el,h.len.2];refine wpAny_bind (wpAny_holding (bG (wpAny_unpackItems_tuple rm.handled (DB g) fun h' he hsz=>?_)));have P₁:ah W H s aI W H {s with heap:=h'}:=ah.grow S aI (fun b o e=>he b o (Nat.ne_of_lt (Heap.lt_size e)) e) hsz rfl rfl (fun c c h=>h) (fun c c h=>.inl h) rfl rfl
 exact h.run rm P₁.sim (N.expr P₁) r fun c c c P N=>kk _ _ _ (P₁.up.trans S P) N
end
section
variable{d:Nat}{sc:Scope}{env aj ao:af}{e e2 l r t o i x:Expr}{es ts:List Expr}{a b c v ov iv y z:V}{vs us:List V}{H H₁ H₂ H₃ H₄ H':AH}{p q ap:Pos}{m n:Str}{fl:Fl}{op:BoolOp}{u w:Bool}
def KL(d:Nat)(sc:Scope)(env:af)(op:BoolOp)(es:List Expr)(H:AH)(v:V)(H':AH):Prop:=∀⦃A:Around⦄⦃E:Value→Shared→Prop⦄⦃W:Wd⦄⦃s:Shared⦄⦃e':Env⦄⦃p:Pos⦄⦃Q:Value→Shared→Prop⦄,bx A d→aH W H s→ak sc env e' W s→(∀x W' s',ah W H s aI W' H' s'→Rel W' v x→Q x s')→wpAny (model G.prog G.w) A (boolOp p op (evalEach es e')) Q E s
noncomputable def HJ:BoolOp→Bool→Bool|.And,b=>!b|.Or,b=>b
theorem Py(h:bS d sc env e H v H'):KL d sc env op [e] H v H':=fun a a a a a a a rm S N k=>h rm S N k
theorem HK(h:bS d sc env e H a H₁)(ht:Rf a H₁=some (u,H₁))(hk:if HJ op u then a=v∧H₁=H' else KL d sc env op (e2::es) H₁ v H'):KL d sc env op (e::e2::es) H v H':=fun A E W s e' p Q rm S N k=>
 wpAny_bind (h rm S N fun x W₁ s₁ P₁ r₁=>wpAny_bind (wpAny_standAt (wpAny_bind (wpAny_holding (u4 ht P₁.sim r₁ fun tk=>by
  have P:=P₁.trans S (ah.toks P₁.sim aI tk);induction op<;>induction u
  ·obtain⟨rfl,rfl⟩:=hk;exact wpAny_pure (k _ _ _ P r₁)
  ·exact(show KL d sc env .And (e2::es) H₁ v H' from hk) rm P.sim (N.expr P) fun b b b P₂ r₂=>k _ _ _ (P.trans S P₂) r₂
  ·exact(show KL d sc env .Or (e2::es) H₁ v H' from hk) rm P.sim (N.expr P) fun b b b P₂ r₂=>k _ _ _ (P.trans S P₂) r₂
  ·obtain⟨rfl,rfl⟩:=hk;exact wpAny_pure (k _ _ _ P r₁))))))
theorem BW(h:KL d sc env op es H v H'):bS d sc env (.BoolOp op es p) H v H':=fun a a a a a a rm S N k=>h (p:=p) rm S N k
def oZ(d:Nat)(sc:Scope)(env:af)(op:BoolOp)(es:List Expr)(H:AH)(u:Bool)(H':AH):Prop:=∀⦃A:Around⦄⦃E:Value→Shared→Prop⦄⦃W:Wd⦄⦃s:Shared⦄⦃e':Env⦄⦃Q:Bool→Shared→Prop⦄,bx A d→aH W H s→ak sc env e' W s→(∀W' s',ah W H s aI W' H' s'→Q u s')→wpAny (model G.prog G.w) A (allTrue op es e') Q E s
theorem KN:oZ d sc env .And [] H true H:=fun a a a a a a rm S N k=>wpAny_pure (k _ _ (.refl S))
theorem Pz:oZ d sc env .Or [] H false H:=fun a a a a a a rm S N k=>wpAny_pure (k _ _ (.refl S))
theorem KO(h:oF d sc env e H false H'):oZ d sc env .And (e::es) H false H':=fun a a a a a a rm S N k=>wpAny_allTrue_And_cons (h rm S N fun a a P=>k _ _ P)
theorem KP(h:oF d sc env e H true H₁)(h2:oZ d sc env .And es H₁ u H'):oZ d sc env .And (e::es) H u H':=fun a a a a a a rm S N k=>wpAny_allTrue_And_cons (h rm S N fun a a P=>h2 rm P.sim (N.expr P) fun a a P₂=>k _ _ (P.trans S P₂))
theorem PA(h:oF d sc env e H true H'):oZ d sc env .Or (e::es) H true H':=fun a a a a a a rm S N k=>wpAny_allTrue_Or_cons (h rm S N fun a a P=>k _ _ P)
theorem PB(h:oF d sc env e H false H₁)(h2:oZ d sc env .Or es H₁ u H'):oZ d sc env .Or (e::es) H u H':=fun a a a a a a rm S N k=>wpAny_allTrue_Or_cons (h rm S N fun a a P=>h2 rm P.sim (N.expr P) fun a a P₂=>k _ _ (P.trans S P₂))
theorem BX(h:oZ d sc env op es H u H'):oF d sc env (.BoolOp op es p) H u H':=fun a a a a a a rm S N k=>wpAny_isTrue_BoolOp (h rm S N k)
theorem PC(he:∀e' w,isTrue e e' w=(do let v←w;standAt e.pos;holding [v] (truthy v)))(h:bS d sc env e H v H')(ht:Rf v H'=some (u,H')):oF d sc env e H u H':=fun a a a a a a rm S N k=>wpAny_isTrue_value (h rm S N fun a a a P r=>u4 ht P.sim r fun a=>k _ _ (P.trans S (.toks P.sim aI _))) (he _ _)
theorem KQ:gU d sc env (.Continue p) H .cont env H:=fun a a a a a a rm S N k=>show wpAny _ _ (do standAt _;pure Flow.cont) _ _ _ from wpAny_bind (wpAny_standAt (wpAny_pure (k _ _ _ (.refl S) N rfl)))
end
section
variable{d:Nat}{sc:Scope}{env aj ao:af}{e e2 l r t o i x:Expr}{es ts:List Expr}{a b c v ov iv y z:V}{vs us:List V}{H H₁ H₂ H₃ H₄ H':AH}{p q ap:Pos}{m n:Str}{fl:Fl}{op:BoolOp}{u w:Bool}
def PD(d:Nat)(sc:Scope)(env:af)(e:Option Expr)(H:AH)(j:Option Int)(H':AH):Prop:=∀⦃A:Around⦄⦃E:Value→Shared→Prop⦄⦃W:Wd⦄⦃s:Shared⦄⦃e':Env⦄⦃Q:Value→Shared→Prop⦄,bx A d→aH W H s→ak sc env e' W s→(∀x W' s',ah W H s aI W' H' s'→kg x j→Q x s')→wpAny (model G.prog G.w) A (evalPart e e') Q E s
theorem KR:PD d sc env none H none H:=fun a a a a a a rm S N k=>evalPart_none _▸wpAny_pure (k _ _ _ (.refl S) (.inl ⟨rfl,rfl⟩))
theorem KS{j:Int}(h:bS d sc env e H (.int j) H'):PD d sc env (some e) H (some j) H':=fun a a a a a a rm S N k=>evalPart_some ..▸h rm S N fun a a a P r=>r.elim fun t hr=>k _ _ _ P (.inr ⟨j,t,rfl,hr⟩)
theorem EK{lo hi:Option Expr}{jl jh:Option Int}(h1:bS d sc env e H a H₁)(h2:PD d sc env lo H₁ jl H₂)(h3:PD d sc env hi H₂ jh H')(h4:slice H' a jl jh=some c):bS d sc env (.Subscript e (.Slice lo hi none p) q) H c H':=fun b b b b b b rm S N k=>
 wW (h1 rm S N fun x W₁ s₁ P₁ r₁=>wpAny_Slice (h2 rm P₁.sim (N.expr P₁) fun lv W₂ s₂ P₂ r₂=>h3 rm P₂.sim (N.expr (P₁.trans S P₂)) fun hv W₃ s₃ P₃ r₃=>evalPart_none _▸wpAny_pure (
  have P₄:=ah.fT P₃.sim aI {cls:=.type "slice",data:=.fields #[lv,hv,.none]}
  (A5 h4 P₄.sim (r₁.mono ((P₂.trans P₁.sim P₃).trans P₁.sim P₄).le) (Heap.IsSliceOf.new _ lv hv .none) r₂ r₃).elim fun g g3=>g.elim fun T g=>g.elim fun id g=>⟨T,id,g.1,g.2,eO g3 fun z W₅ s₅ P₅ r₅=>k _ _ _ ((((P₁.trans S P₂).trans S P₃).trans S P₄).trans S P₅) r₅⟩)))
theorem EL(hn:(if G.C.mu p then gY (.aF []) else pure (.aF [])) H=some (v,H')):bS d sc env (.Dict [] [] p) H v H':=fun b b b s b b rm S N k=>
 have P₀:=ah.fT S aI {cls:=.type "dict",data:=.dict #[]};have fr:=⟨S.cO (Nat.le_refl _),S.ic (Nat.le_refl _),S.fJ (Nat.le_refl _)⟩
 arm_eval_Dict ..▸wpAny_bind (wpAny_standAt (show wpAny _ _ newDict _ _ _ from wpAny_newObj_type (
  (kD (a:=s.heap.objs.size) (ys:=#[]) (m:=0) hn P₀ fr (Nat.le_refl _) (Heap.get?_push_size _ rfl) (S.mods (Nat.le_refl _)) .nil (by show 0<ai;decide) trivial).elim fun W' g=>g.elim fun P' g=>k _ _ _ P' g.2.1)))
end
section
variable{d:Nat}{vs:List V}{H H':AH}
theorem HM{c fk:Nat}{cd:Ie}(hd:G.C.gh.lookup c=some cd)(hm:cd.meths.lookup (Str.ofString "__init__")=some fk)(h:aD d (.fn fk) (.ref H.length::vs) (H++[.inst c []]) .none H'):aD (d+1) (.cls c) vs H (.ref H.length) H':=by
 intro A E W s f' xs Q rm S rf rs kk;subst rf;obtain⟨nm,q,N,bs,sn,sub,col,dd,k0,k1,k2,k3,k5,mN,hC,hN,Ob,WG,vg,Oc,DE⟩:=S.cj.cls c cd hd;obtain⟨hi,hs,_⟩:=Oc _ fk hm;obtain⟨df,YY⟩:=mh hs;obtain⟨_,oI,fd,YZ,Od,_⟩:=S.cj.fns fk df YY;have hk:∀b ob,s.heap.get? b=some ob→(dc s.heap (G.ca c)).get? b=some ob:=fun b ob e=>Heap.get?_push_of_some _ (Heap.get?_push_of_some _ e)
 have w6:(dc s.heap (G.ca c)).objs.size=s.heap.objs.size+2:=by simp only[Heap.size_push]
 have Y0:(dc s.heap (G.ca c)).get? (s.heap.objs.size+1)=some {cls:=.ref (G.ca c),dict:=some s.heap.objs.size,data:=.plain}:=by obtain this:=Heap.get?_push_size (s.heap.push {cls:=.type "dict",data:=.dict #[]}) (o:={cls:=.ref (G.ca c),dict:=some s.heap.objs.size,data:=.plain}) rfl;rw[Heap.size_push] at this;exact this
 obtain Tj:(dc s.heap (G.ca c)).get? s.heap.objs.size=some {cls:=.type "dict",data:=.dict #[]}:=Heap.get?_push_of_some _ (Heap.get?_push_size _ rfl);let W₁:Wd:=⟨fun j=>if j=H.length then some (s.heap.objs.size+1) else W.φ j,fun b=>if b=s.heap.objs.size∨b=s.heap.objs.size+1 then some H.length else W.own b,W.Z⟩
 have w1:W₁.φ H.length=some (s.heap.objs.size+1):=if_pos rfl;obtain P₁:ah W H s aI W₁ (H++[.inst c []]) {s with heap:=dc s.heap (G.ca c)}:=by
  refine ah.Of (a:=s.heap.objs.size+1) S aI _ rfl rfl (if_pos (.inr rfl)) (fun b j h=>?_) (fun b j h=>?_) (w6▸Nat.le_add_right _ 2) hk ?_ rfl rfl
  ·have lt:=(S.b9 b j h).2;exact(if_neg fun q=>q.elim (fun e=>Nat.lt_irrefl _ (e▸lt)) fun e=>absurd (e▸lt) (Nat.not_lt_of_le (Nat.le_succ _))).trans h
  ·by_cases hb:b=s.heap.objs.size∨b=s.heap.objs.size+1
   ·exact .inr ⟨(Option.some.inj ((if_pos hb).symm.trans h)).symm,hb.elim (fun e=>e▸Nat.le_refl _) (fun e=>e▸Nat.le_succ _),w6▸hb.elim (fun e=>e▸Nat.lt_succ_of_lt (Nat.lt_succ_self _)) fun e=>e▸Nat.lt_succ_self _⟩
   ·exact .inl ((if_neg hb).symm.trans h)
  ·refine⟨_,s.heap.objs.size,Y0,rfl,rfl,fun c e=>(by cases e),Nat.ne_of_lt (Nat.lt_succ_self _),if_pos (.inl rfl),(by show 0<ai;decide),fun f=>none,?_,fun x=>rfl⟩;exact Heap.Ns1.of_empty ⟨_,#[],_,Tj,rfl,fun e he=>absurd he (by simp),fun f=>rfl⟩
 obtain⟨hp,gg,dr,tt,os⟩:=s;refine yq (mN:=mN) hC hN hi YZ Od ?_;exact h.wp (rm.create _ _) P₁.sim ⟨rfl,hs⟩ (xs:=.ref (hp.objs.size+1)::xs) ⟨⟨_,rfl,w1⟩,rs.mono P₁.le⟩ fun x W₂ s₂ P₂ r₂=>⟨r₂,kk _ _ _ (P₁.trans S P₂) ⟨_,rfl,P₂.le.φ _ _ w1⟩⟩
end
section
variable{d:Nat}{sc:Scope}{env aj:af}{vs:List V}{H H₁ H':AH}{ts es:List Expr}{p p1 p2:Pos}{k1 k2:Nat}{e':Env}
noncomputable def PE:Expr→Option Str|.Name x _=>some x|_=>none
theorem BY{line:Nat}{ts:List Expr}{ns:List Str}(h:ts.map PE=ns.map some)(hl:(ts.filterMap (dP e' line)).length=ts.length):ts.filterMap (dP e' line)=ns∧∀x∈ns,e'.kindOf x=some .local:=by
 induction ts generalizing ns with
 |nil=>induction ns with |nil=>exact⟨rfl,fun a h=>nomatch h⟩|cons _ _=>exact nomatch h
 |cons t ts ih=>induction ns with
  |nil=>exact nomatch h|cons n ns=>
   obtain⟨h1,h2⟩:=List.cons.inj h;induction ht:dP e' line t with |none=>rw[List.filterMap_cons_none ht] at hl;exact absurd (List.length_filterMap_le (dP e' line) ts) (by exact hl▸(Nat.not_succ_le_self _))|some y=>rw[List.filterMap_cons_some ht] at hl⊢;obtain⟨⟨q,rfl⟩,hy⟩:=qQ ht;obtain rfl:=Option.some.inj h1;obtain⟨g1,g2⟩:=ih h2 (Nat.succ.inj hl);exact⟨by rw[g1],fun x hx=>(bM hx).elim (fun e=>e▸hy) (g2 x)⟩
theorem KU{ns:List Str}(Y3:mD (.Tuple ts k1 p1) (.Tuple es k2 p2)=false)(hn:ts.map PE=ns.map some)(hk:∀x∈ns,kindOf sc x=some .local∨kindOf sc x=some .cell)(hl:ns.length=vs.length)(h1:bS d sc env (.Tuple es k2 p2) H (.tup vs) H₁)
  (h2:BV d sc env ts vs H₁ ((ns.zip vs).foldl (fun env p=>aP env p.1 p.2) env) H₁):gU d sc env (.Assign [.Tuple ts k1 p1] (.Tuple es k2 p2) p) H .next ((ns.zip vs).foldl (fun env p=>aP env p.1 p.2) env) H₁:=by
 intro A E W s e' Q rm S N k;refine arm_exec_Assign ..▸wpAny_bind (wpAny_standAt (nF (b:=false) rfl (wpAny_bind (h1 rm S N fun z W₁ s₁ P₁ r₁=>?_))));rcases qP (e':=e') Y3 with hs|⟨ts',k',q',line,ht,hs,hlen,hd⟩
 ·exact nF hs (wpAny_bind (HH (k:=k1) h2 rm P₁.sim (N.expr P₁) r₁ fun c c c P₂ N₂=>wpAny_pure (k _ _ _ (P₁.up.trans S P₂) N₂ rfl)))
 ·cases ht;obtain⟨g1,g2⟩:=BY hn hlen;have nd:ns.Nodup:=g1▸jf hd
  have L_:(ns.zip vs).map (·.1)=ns:=List.map_fst_zip (Nat.le_of_eq hl);have UD:(ns.zip vs).map (·.2)=vs:=List.map_snd_zip (Nat.le_of_eq hl.symm)
  obtain⟨a,m,xs,rfl,hz,hsl,rx⟩:=r₁;have el:=rx.length
  refine nF hs ?_;refine g1▸?_;refine wpAny_bind (wpAny_rule (wpAny_bind ?_));rw[hl,el];refine bG (wpAny_unpackItems_tuple rm.handled (DB (P₁.sim.z _ _ hz)) fun h' he hsz=>?_);have P₂:ah W₁ H₁ s₁ aI W₁ H₁ {s₁ with heap:=h'}:=ah.grow P₁.sim aI (fun b o e=>he b o (Nat.ne_of_lt (Heap.lt_size e)) e) hsz rfl rfl (fun c c h=>h) (fun c c h=>.inl h) rfl rfl
  obtain bU:=P₁.trans S P₂;obtain N₂:=N.expr bU;obtain er:ns.reverse.map (fun n=>bindName e' n)=(ns.zip vs).reverse.map (fun p=>bindName e' p.1):=by rw[←L_,←List.map_reverse,List.map_map,L_];rfl
  refine er▸?_;obtain UE:((ns.zip vs).map (·.1)).Nodup:=L_.symm▸nd
  refine wpAny_bind (eO (yv (L:=(ns.zip vs).reverse) P₂.sim N₂ (by simp only[List.map_reverse,UD];exact rx.reverse) fun p hp=>have hm:p.1∈ns:=(List.of_mem_zip (List.mem_reverse.mp hp:(p.1,p.2)∈_)).1
   pO N (g2 _ hm) (hk _ hm)) fun c c c P₃ N₃=>wpAny_pure (k _ _ _ (bU.up.trans S P₃) (N₃.congr fun z=>?_) rfl))
  rw[foldl_look z UE,foldl_look z (by rw[List.map_reverse];exact List.pairwise_reverse.mpr (List.Pairwise.imp (fun h=>Ne.symm h) UE)),m7 UE]
end
section
variable{d:Nat}{sc:Scope}{env aj:af}{H H':AH}{fl:Fl}{t:Expr}{body:List Stmt}
inductive bZ(d:Nat)(sc:Scope)(t:Expr)(body:List Stmt):List V→af→AH→Fl→af→AH→Prop where
|nil{env:af}{H:AH}:bZ d sc t body [] env H .next env H|cons{x:V}{xs:List V}{env ao bk aj:af}{H H₁ H₂ H':AH}{f fl:Fl}(h1:oW d sc env t x H ao H₁)(h2:oX d sc ao body H₁ f bk H₂)(hf:f=.next∨f=.cont)(k:bZ d sc t body xs bk H₂ fl aj H'):bZ d sc t body (x::xs) env H fl aj H'|ret{x v:V}{xs:List V}{env ao bk:af}{H H₁ H₂:AH}(h1:oW d sc env t x H ao H₁)(h2:oX d sc ao body H₁ (.ret v) bk H₂):bZ d sc t body (x::xs) env H (.ret v) bk H₂
theorem tq{A:Around}{it:Value}{e:Env}{s:Shared}{R:Result→Shared→Prop}(I:Nat→Shared→Prop)(turn:∀n s,I n s→∀(E:Value→Shared→Prop) (Q:Option Value→Shared→Prop) (K:Flow→Shared→Prop),(∀s',R (.ok .next) s'→Q none s')→
  (∀v s',wpAny (model G.prog G.w) A (letOwnedTupleGo t it v) (fun a s=>wpAny (model G.prog G.w) A (PySem.assign t e v) (fun a s=>wpAny (model G.prog G.w) A (PySem.execs body e) K E s) E s) E s'→Q (some v) s')→
  (∀f m s',f=.next∨f=.cont→m<n→I m s'→K f s')→(∀v s',R (.ok (.ret v)) s'→K (.ret v) s')→wpAny (model G.prog G.w) A (pyNext it) Q E s)(n:Nat)(h:I n s):codeAny (model G.prog G.w) A (.forLoop t it body [] e) R s:=
 codeAny_forLoop_any I (fun n s h=>turn n s h _ _ (fun f s₃=>match f with
  |.next|.cont=>∃m,m<n∧I m s₃
  |.brk=>R (.ok .next) s₃|.ret v=>R (.ok (.ret v)) s₃) (fun a q=>wpAny_execs_nil q) (fun a a q=>q) (fun a a a hf hm q=>by rcases hf with rfl|rfl<;>exact⟨_,hm,q⟩) fun a a q=>q) n h
inductive LoopAt(d:Nat)(sc:Scope)(t:Expr)(body:List Stmt)(e':Env)(it:Value)(IA D:Addr→Prop)(W:Wd)(H:AH)(s:Shared)(fl:Fl)(aj:af)(H':AH):Nat→Shared→Prop
|mk{xs:List V}{env:af}{H₁:AH}{W₁:Wd}{P:Heap→Prop}{s₁:Shared}(h:bZ d sc t body xs env H₁ fl aj H')(P₁:ah W H s (fun a=>bI sc e' a∨IA a) W₁ H₁ s₁)(N:ak sc env e' W₁ s₁)(I:ir t it IA D W xs P)
 (hP:dQ (fun a=>IA a∨D a) P) (p:P s₁.heap) (hI:∀a,IA a→bB W₁ s₁ a) (hD:∀a,D a→Still W₁ H₁ s₁ (fun a=>bI sc e' a∨IA a) a):LoopAt d sc t body e' it IA D W H s fl aj H' xs.length s₁
theorem LoopAt.turn{A:Around}{E:Value→Shared→Prop}{W W₁:Wd}{s s₁:Shared}{e':Env}{it:Value}{IA D:Addr→Prop}{P:Heap→Prop}{x:V}{xs:List V}{env ao bk:af}{H₁ Ha Hb:AH}{f:Fl}{Q:Option Value→Shared→Prop}{K:Flow→Shared→Prop}(rm:bx A d)(S:aH W H s)
  (P₁:ah W H s (fun a=>bI sc e' a∨IA a) W₁ H₁ s₁)(N:ak sc env e' W₁ s₁)(I:ir t it IA D W (x::xs) P)(p:P s₁.heap)(hI:∀a,IA a→bB W₁ s₁ a)(hD:∀a,D a→Still W₁ H₁ s₁ (fun a=>bI sc e' a∨IA a) a)
  (h1:oW d sc env t x H₁ ao Ha)(h2:oX d sc ao body Ha f bk Hb)(k:∀g W₅ s₅ P',ah W H s (fun a=>bI sc e' a∨IA a) W₅ Hb s₅→ak sc bk e' W₅ s₅→lg W₅ f g→dQ (fun a=>IA a∨D a) P'→ir t it IA D W xs P'→P' s₅.heap→(∀a,IA a→bB W₅ s₅ a)→(∀a,D a→Still W₅ Hb s₅ (fun a=>bI sc e' a∨IA a) a)→K g s₅)
  (item:∀v s',wpAny (model G.prog G.w) A (letOwnedTupleGo t it v) (fun b s=>wpAny (model G.prog G.w) A (PySem.assign t e' v) (fun b s=>wpAny (model G.prog G.w) A (PySem.execs body e') K E s) E s) E s'→Q (some v) s'):
  wpAny (model G.prog G.w) A (pyNext it) Q E s₁:=by
 refine I.elim fun P' z=>z.elim fun vE z=>z.elim fun I' step=>?_
 obtain ap:=fun a ha=>(hI a ha).apart N
 refine wpAny_mono (step P₁.le P₁.sim hI rm.handled p) (fun r s₂ q=>q.elim fun y q=>q.1▸item _ _ (wpAny_mono q.2 (fun b s₃ q=>q.elim fun W₃ q=>?_) fun b b e=>e)) fun b b e=>e
 refine h1 rm q.1.sim (N.old q.1 ap) q.2.2.1 fun b W₄ s₄ P₄ N₄=>h2 rm P₄.sim N₄ fun g W₅ s₅ P₅ N₅ F₅=>?_
 have hO:∀a,IA a→¬bI sc e' a:=fun a ha=>(hI a ha).fM N
 have iP:=P₄.trans q.1.sim P₅;obtain xo:=iP.wk (X':=fun a=>bI sc e' a∨IA a) fun a ha=>.inl ha
 obtain Q₃:=q.1.wk (X':=fun a=>bI sc e' a∨IA a) fun a ha=>.inr ha
 have st:=fun a ha=>(((hD a ha).post P₁.sim Q₃).1.post q.1.sim xo)
 have hA:=q.2.1;exact k g W₅ s₅ P' ((P₁.trans S Q₃).trans S xo) N₅ F₅ vE I' (vE _ _ q.2.2.2 fun a o ha ho=>ha.elim (fun ha=>(hA a ha).keep iP (hO a ha) ho) fun ha=>(st a ha).2 o ho) (fun a ha=>(hA a ha).post iP (hO a ha)) fun a ha=>(st a ha).1
theorem bZ.run{A:Around}{E:Value→Shared→Prop}{W:Wd}{s:Shared}{e':Env}{xs:List V}{it:Value}{IA D:Addr→Prop}{P:Heap→Prop}(h:bZ d sc t body xs env H fl aj H')(rm:bx A d)(S:aH W H s)(N:ak sc env e' W s)
  (I:ir t it IA D W xs P)(hP:dQ (fun a=>IA a∨D a) P)(p:P s.heap)(hI:∀a,IA a→bB W s a)(hD:∀a,D a→Still W H s (fun a=>bI sc e' a∨IA a) a):
  codeAny (model G.prog G.w) A (.forLoop t it body [] e') (fun r s'=>∃f,r=.ok f∧aT W H s (fun a=>bI sc e' a∨IA a) H' (fun W' s'=>ak sc aj e' W' s'∧lg W' fl f) s') s:=by
 refine tq (LoopAt d sc t body e' it IA D W H s fl aj H') (fun k s₁ h E Q K stop item again ret=>?_) _ (.mk h (.refl S) N I hP p hI hD);cases h with
 |mk h P₁ N I hP p BZ hD=>
  cases h with
  |nil=>
   refine I rm.handled p fun h' tk hsz hk=>stop _ ?_
   obtain P₂:ah _ H' s₁ IA _ H' {s₁ with heap:=h',toks:=tk}:=ah.free P₁.sim (fun a ha=>(BZ a ha).1) hk hsz rfl rfl;exact⟨_,rfl,_,P₁.trans S (P₂.wk fun a ha=>.inr ha),N.old P₂ fun a ha=>(BZ a ha).apart N,rfl⟩
  |cons h1 h2 hf hk=>
   refine LoopAt.turn rm S P₁ N I p BZ hD h1 h2 (fun g W₅ s₅ P' Q₅ N₅ F₅ vE I' p' a' d'=>again g _ s₅ ?_ (Nat.lt_succ_self _) (.mk hk Q₅ N₅ I' vE p' a' d')) item;rcases hf with rfl|rfl
   ·exact .inl F₅
   ·exact .inr F₅
  |ret h1 h2=>refine LoopAt.turn rm S P₁ N I p BZ hD h1 h2 (fun g W₅ s₅ P' Q₅ N₅ F₅ b b b b b=>F₅.elim fun z hz=>hz.1▸ret _ _ ⟨_,rfl,W₅,Q₅,N₅,z,rfl,hz.2⟩) item
end
section
variable{d:Nat}{sc:Scope}{env aj:af}{H H₁ H₂ H':AH}{fl:Fl}{t e o x:Expr}{body:List Stmt}{v:V}{xs ys:List V}{back:Option (Nat×az)}{p q ap:Pos}
def tu(d:Nat)(sc:Scope)(env:af)(t e:Expr)(H:AH)(xs:List V)(back:Option (Nat×az))(H':AH):Prop:=∀⦃A:Around⦄⦃E:Value→Shared→Prop⦄⦃W:Wd⦄⦃s:Shared⦄⦃e':Env⦄⦃Q:Value→Shared→Prop⦄,bx A d→aH W H s→ak sc env e' W s→(∀x s₁,OC A W H s t xs back H' x s₁→Q x s₁)→wpAny (model G.prog G.w) A (eval e e') Q E s
theorem lY(h1:bS d sc env e H v H₁)(h2:srcOf v H₁=some ((xs,back),H')):tu d sc env t e H xs back H':=fun a a a a a a rm S N k=>h1 rm S N fun x W₁ s₁ P₁ r₁=>k _ _ fun{_}=>(sR h2 P₁.sim r₁).elim fun L V=>wpAny_mono (Ef V (L.post P₁.sim aI).sim) (fun i s₂ g=>⟨W₁,vt.mk' S P₁ L g.1,g.2.le P₁.size⟩) fun a a e=>e
theorem xq(hf:∀e' x,foldedSetIterable e e' x=pure x)(h1:tu d sc env t e H xs back H₁)(h2:bZ d sc t body xs env H₁ fl aj H₂)(h3:iJ back H₂=some ((),H')):gU d sc env (.For t e body [] p) H fl aj H':=by
 intro A E W s e' Q rm S N k;refine wpAny_For (h1 rm S N fun x s₁ hx=>wpAny_mono hx (fun i s₂ z=>z.elim fun W₂ z=>?_) fun c c e=>e) (hf e');obtain⟨hh,IA,D,P,I,p0,tw,hD⟩:=z;have N₂:=N.expr hh.1
 refine codeAny_mono (h2.run (E:=E) rm hh.1.sim N₂ I.A_ I.oR p0 (fun a ha=>(tw a ha).1) fun a ha=>(hD a ha).Bb hh.1.sim ?_) ?_
 ·rintro(ho|hi)
  ·exact(hD a ha).fM N₂ ho
  ·obtain⟨f,o,vs,ho,hd⟩:=(tw a hi).1;exact(hD a ha).2.elim (fun q=>q.elim fun k q=>nE (f.1.symm.trans q.1)) fun q=>q.elim fun o q=>nE (f.2.1.symm.trans q)
 ·rintro r s₃ ⟨f,rfl,W₃,P₃,N₃,F₃⟩;obtain P':=hh.2 P₃ (fun b k hb hx=>hx.elim (fun hx=>nE ((bI.free N₂ hx).symm.trans hb)) fun hx=>nE ((tw b hx).1.1.1.symm.trans hb)) h3;exact k _ _ _ (P'.drop fun a ha=>ha.imp id fun hi=>(tw a hi).2) N₃ F₃
end
section
variable{d:Nat}{sc:Scope}{env aj:af}{H H₁ H₂ H':AH}{fl:Fl}{t e o x:Expr}{v:V}{xs ys:List V}{back:Option (Nat×az)}{p q ap tp:Pos}{ts:List Expr}{tk:Nat}{kvs:List (Str×V)}
theorem KV(h0:bS d sc env (.Name "enumerate" q) H (.typ "enumerate") H₁)(h1:kI d sc env [x] H₁ [v] H₂)(h2:srcOf v H₂=some ((ys,back),H'))(hc:enumSrc v back=true):tu d sc env (.Tuple ts tk tp) (.Call (.Name "enumerate" q) [x] [] p) H (bw 0 ys) back H':=by intro A E W s e' Q rm S N k;refine arm_eval_Call_Name' ..▸wpAny_bind (h0 rm S N fun f' W₁ s₁ P₁ r₁=>cw (fv:=.typ "enumerate") h1 rfl (fun c e=>nomatch e) rm P₁.sim (N.expr P₁) r₁ (first:=[]) fun zs W₂ s₂ P₂ rf Y4=>?_);subst rf;obtain⟨z,rfl,rz⟩:=dg Y4;obtain⟨L,V⟩:=sR h2 P₂.sim rz;obtain ek:=qS h2 hc P₂.sim rz;exact Eg (elts:=ts) (x1:=tk) (pos:=tp) V (L.post P₂.sim aI).sim ek.1 ek.2 fun y s₃ P₃ g self=>k _ _ fun{_}=>self ⟨W₂,vt.mk' S (P₁.trans S P₂) L P₃,g.le (P₁.trans S P₂).size⟩
theorem EM(KW:dN o=false)(hl:(ap.endLine==p.line)=true)(h1:bS d sc env o H v H₁)(h2:DQ v H₁=some ((kvs,back),H')):tu d sc env (.Tuple ts tk tp) (.Call (.Attribute o "items" ap) [] [] p) H (kvs.map fun kv=>.tup [.str kv.1,kv.2]) back H':=by
 intro A E W s e' Q rm S N k;refine ko (as:=[]) KW rfl hl (Nat.succ_pos _) (h1 rm S N fun x W₁ s₁ P₁ r₁=>?_);refine(lV h2 P₁.sim r₁).elim fun L Ub=>?_;refine Ub.elim fun d Uc=>?_;refine Uc.elim fun es Y5=>?_;refine Y5.elim fun m HN=>?_;obtain PF:=HN.1;obtain g:=HN.2.1;subst PF
 refine getMethod_builtin (show s₁.TypeIs (.ref d) "dict" from⟨_,g,rfl⟩) F.plainAttrs_dict F.slot_dict_items F.type_dict_items (fY g) (cw .nil (fv:=.blt "dict.items") (p:=p) rfl (fun c e=>nomatch e) rm P₁.sim (N.expr P₁) rfl fun zs W₂ s₂ P₂ a rz=>?_);cases m_ rz;obtain⟨L₂,d₂,PG,m₂,hd,g₂,h0,nd,hlen,rs,sa⟩:=lV h2 P₂.sim (r₁.mono P₂.le);obtain rfl:=PySem.Value.ref.inj hd;exact wpAny_mono (Bh (elts:=ts) (x1:=tk) (pos:=tp) (L₂.post P₂.sim aI).sim g₂ h0 nd rs sa) (fun x s₃ h₃=>k _ _ fun{_}=>wpAny_mono h₃ (fun i s₄ g=>⟨W₂,vt.mk' S (P₁.trans S P₂) L₂ g.1,g.2.le (P₁.trans S P₂).size⟩) fun a a e=>e) fun a a e=>e
theorem B3(KW:dN o=false)(hl:(ap.endLine==p.line)=true)(h1:bS d sc env o H v H₁)(h2:DQ v H₁=some ((kvs,back),H')):tu d sc env t (.Call (.Attribute o "values" ap) [] [] p) H (kvs.map (·.2)) back H':=by
 intro A E W s e' Q rm S N k;refine ko (as:=[]) KW rfl hl (Nat.succ_pos _) (h1 rm S N fun x W₁ s₁ P₁ r₁=>?_);refine(lV h2 P₁.sim r₁).elim fun L Bu=>?_;refine Bu.elim fun d UG=>?_;refine UG.elim fun es UH=>?_;refine UH.elim fun m PI=>?_;obtain UI:=PI.1;obtain g:=PI.2.1;subst UI
 refine getMethod_builtin (show s₁.TypeIs (.ref d) "dict" from⟨_,g,rfl⟩) F.plainAttrs_dict F.slot_dict_values F.type_dict_values (fY g) (cw .nil (fv:=.blt "dict.values") (p:=p) rfl (fun c e=>nomatch e) rm P₁.sim (N.expr P₁) rfl fun zs W₂ s₂ P₂ a rz=>?_);cases m_ rz;obtain⟨L₂,d₂,PG,m₂,hd,g₂,h0,nd,hlen,rs,sa⟩:=lV h2 P₂.sim (r₁.mono P₂.le);obtain rfl:=PySem.Value.ref.inj hd;exact wpAny_mono (yw (t:=t) (L₂.post P₂.sim aI).sim g₂ h0 nd rs sa) (fun x s₃ h₃=>k _ _ fun{_}=>wpAny_mono h₃ (fun i s₄ g=>⟨W₂,vt.mk' S (P₁.trans S P₂) L₂ g.1,g.2.le (P₁.trans S P₂).size⟩) fun a a e=>e) fun a a e=>e
end
section
variable{n:Nat}{A:Around}{E:Value→Shared→Prop}{W W':Wd}{H H':AH}{s s':Shared}{sc:Scope}{env aj:af}{e':Env}
theorem pZ(rm:bx A (n+1)){k j g:Nat}{a:Addr}{stop B4 f1:V}{r:V}{H₁:AH}{b:Bool}(hk:H[k]?=some (.lI (.bm j g) stop true))(ha:W.φ k=some a)(hr:aD n (.bm j g) [] H r H₁)
  (oG:H₁[k]?=some (.lI f1 B4 true))(Y6:zH f1=true)(hv:f_ bg H₁ B4 r=some b)(S:aH W H s){Q:Option Value→Shared→Prop}
  (q0:b=false→∀y W₁ s₁,ah W H s aI W₁ H₁ s₁→Rel W₁ r y→Q (some y) s₁)
  (q1:b=true→∀W₁ s₁,ah W H s aI W₁ (H₁.set k (.lI f1 B4 false)) s₁→Q none s₁):
  wpAny (model G.prog G.w) A (pyNext (.ref a)) Q E s:=by
 have O:=S.at hk ha;obtain⟨o,x,y,ho,hc,hd,hl⟩:=O;obtain⟨rx,ry⟩:=hl rfl;have hT:s.TypeIs (.ref a) "callable_iterator":=⟨o,ho,hc⟩
 have Y7:=rx;obtain⟨m,c,rfl,hj,zm,hg⟩:=rx;obtain⟨d,UJ⟩:=mh hg;obtain⟨_,of,fd,Ut,_,UK,_⟩:=S.cj.fns g d UJ;refine wpAny_bind (wpAny_attempt (wpAny_callSpecial?_slot (name:=Str.ofString "__next__") hT dh (wpAny_call_entry dh hT i4 ?_ (jK _))));show wpAny _ _ (field (.ref a) 2>>=_) _ _ s;refine wpAny_bind (wpAny_field ho hd (x:=.bool false) rfl ?_);refine wpAny_bind (wpAny_field ho hd (x:=.ref m) rfl ?_);refine wpAny_bind (wpAny_attempt ?_);refine wpAny_bind (nf (S.z _ _ zm) Ut UK ?_);refine jg (hr.wp rm.in1 S Y7 trivial fun z W₁ s₁ P₁ r₁=>?_);have UL:=P₁.le.φ _ _ ha
 obtain⟨o1,x1,y1,DH,N3,Hu,UM⟩:=P₁.sim.at oG UL;obtain⟨Y8,Y9⟩:=UM rfl;refine wpAny_bind (wpAny_field DH Hu (x:=.bool false) rfl ?_);refine wpAny_bind (wpAny_field DH Hu (x:=y1) rfl ?_);refine wpAny_bind (wpAny_holding ((qH bg hv P₁.sim Y9 r₁ (by have :=rm.units;simp only[Around.in1_units,bg];exact aQ (nat_lit 0x2a9190881121918ca081101) ae this)).eq _ _ _ _ ?_));induction b with
 |false=>exact wpAny_bind (wpAny_pure (wpAny_pure ⟨_,rfl,wpAny_pure (q0 rfl z W₁ s₁ P₁ r₁)⟩))|true=>
  obtain⟨j1,g1,rfl⟩:∃j1 g1,f1=.bm j1 g1:=by induction f1 using V.casesOn<;>first|exact⟨_,_,rfl⟩|(exact bE (show false=true from Y6))
  obtain⟨m1,c1,rfl,hj1,Y_,Za⟩:=Y8;obtain⟨d1,UN⟩:=mh Za;obtain⟨_,of1,fd1,UO,_,PJ,_⟩:=P₁.sim.cj.fns g1 d1 UN;have own:=P₁.sim.ju k a UL
  have UM:oO H₁ k:=⟨_,oG,trivial⟩;refine wpAny_bind (wpAny_rule (wpAny_bind ?_));refine wpAny_bind (wpAny_field DH Hu (x:=.ref m1) rfl ?_);refine wpAny_bind ?_;refine wpAny_bind (nf (P₁.sim.z _ _ Y_) UO PJ ?_);refine wpAny_pure ?_;refine wpAny_bind (dj DH Hu (by simp) fun h2 o2 Zb Rn hd2 RC=>?_);refine wpAny_bind (dj Zb hd2 (by simp) fun h3 o3 Zc Ro Rm WJ=>?_);refine dj Zc Rm (by simp) fun h4 o4 Zd N4 L0 WK=>?_
  refine wpAny_bind ?_;simp only[newExc,newTuple];refine wpAny_bind (wpAny_newObj_type ?_ (Ln.go (nat_lit 72057596169224448) [] ae));refine wpAny_bind (m:=firstArgMember _ _) (wpAny_of_eq (a:=Value.none) (by first|rfl|(rfl)) ?_);refine wpAny_newObj_type ?_ (by size_fits);refine wpAny_bind (wpAny_handled ?_);rw[show A.in1.handled=none from rm.handled];refine wpAny_bind (wpAny_pure (wpAny_throw ?_));refine wpAny_bind (wpAny_isInstance (T:="StopIteration") (b:=true) ⟨_,Heap.get?_push_size _ rfl,rfl⟩ isSubtype_stop ?_);refine wpAny_pure (q1 rfl W₁ _ (P₁.trans S (ah.J5 P₁.sim aI UM UL ?_ (fun b ob hb hn=>?_) ?_ rfl rfl)))
  ·skip
   rw[Heap.size_push,Heap.size_push,WK.1,WJ.1,RC.1];exact aV (nat_lit 27595307483392) ae
  ·have bV:b≠a:=fun e=>hn (by rw[e];exact own)
   exact Heap.get?_push_of_some _ (Heap.get?_push_of_some _ (WK.extBut _ _ bV (WJ.extBut _ _ bV (RC.extBut _ _ bV hb))))
  ·refine⟨o4,.none,.none,Heap.get?_push_of_some _ (Heap.get?_push_of_some _ Zd),by rw[N4,Ro,Rn];exact N3,?_,fun h=>bE h⟩;rw[L0];rfl
inductive iX(d:Nat)(sc:Scope)(t:Expr)(body:List Stmt)(k:Nat):Nat→af→AH→Fl→af→AH→Prop where
|dead{m:Nat}{env:af}{H:AH}{f st:V}(hk:H[k]?=some (.lI f st false)):iX d sc t body k m env H .next env H|stop{m:Nat}{env:af}{H H₁:AH}{j g:Nat}{st f1 zA r:V}(hk:H[k]?=some (.lI (.bm j g) st true))(hc:aD d (.bm j g) [] H r H₁)(oG:H₁[k]?=some (.lI f1 zA true))(hb:zH f1=true)(hv:f_ bg H₁ zA r=some true):iX d sc t body k m env H .next env (H₁.set k (.lI f1 zA false))|cons{m:Nat}{env ao bk aj:af}{H H₁ H₂ H₃ H':AH}{j g:Nat}{st f1 zA r:V}{f fl:Fl}(hk:H[k]?=some (.lI (.bm j g) st true))(hc:aD d (.bm j g) [] H r H₁)(oG:H₁[k]?=some (.lI f1 zA true))(hb:zH f1=true)(hv:f_ bg H₁ zA r=some false)
 (h1:oW d sc env t r H₁ ao H₂) (h2:oX d sc ao body H₂ f bk H₃) (hf:f=.next∨f=.cont) (h:iX d sc t body k m bk H₃ fl aj H'):iX d sc t body k (m+1) env H fl aj H'
|ret{m:Nat}{env ao bk:af}{H H₁ H₂ H₃:AH}{j g:Nat}{st f1 zA r v:V}(hk:H[k]?=some (.lI (.bm j g) st true))(hc:aD d (.bm j g) [] H r H₁)(oG:H₁[k]?=some (.lI f1 zA true))(hb:zH f1=true)(hv:f_ bg H₁ zA r=some false)
 (h1:oW d sc env t r H₁ ao H₂) (h2:oX d sc ao body H₂ (.ret v) bk H₃):iX d sc t body k m env H (.ret v) bk H₃
inductive HO(d:Nat)(sc:Scope)(t:Expr)(body:List Stmt)(k:Nat)(e':Env)(a:Addr)(W:Wd)(H:AH)(s:Shared)(fl:Fl)(aj:af)(H':AH):Nat→Shared→Prop|mk{m:Nat}{env:af}{H₁:AH}{W₁:Wd}{s₁:Shared}(h:iX d sc t body k m env H₁ fl aj H')(P₁:ah W H s (bI sc e') W₁ H₁ s₁)(N:ak sc env e' W₁ s₁)(ha:W₁.φ k=some a):HO d sc t body k e' a W H s fl aj H' m s₁
theorem iX.turn{t:Expr}{body:List Stmt}{k:Nat}{a:Addr}{f:Fl}{W₁:Wd}{s₁:Shared}{H₀ H₁ H₂ H₃:AH}{ao bk:af}{j g:Nat}{st f1 zA r:V}{Q:Option Value→Shared→Prop}{K:Flow→Shared→Prop}(rm:bx A (n+1))(EN:bx A n)
  (hk:H₀[k]?=some (.lI (.bm j g) st true))(ha:W₁.φ k=some a)(hc:aD n (.bm j g) [] H₀ r H₁)(oG:H₁[k]?=some (.lI f1 zA true))(hb:zH f1=true)(hv:f_ bg H₁ zA r=some false)(S:aH W H s)(P₁:ah W H s (bI sc e') W₁ H₀ s₁)(N:ak sc env e' W₁ s₁)
  (h1:oW n sc env t r H₁ ao H₂)(h2:oX n sc ao body H₂ f bk H₃)
  (item:∀v s',wpAny (model G.prog G.w) A (letOwnedTupleGo t (.ref a) v) (fun b s=>wpAny (model G.prog G.w) A (PySem.assign t e' v) (fun b s=>wpAny (model G.prog G.w) A (PySem.execs body e') K E s) E s) E s'→Q (some v) s')
  (q:∀g W₅ s₅,ah W H s (bI sc e') W₅ H₃ s₅→ak sc bk e' W₅ s₅→W₅.φ k=some a→lg W₅ f g→K g s₅):wpAny (model G.prog G.w) A (pyNext (.ref a)) Q E s₁:=by
 refine pZ rm hk ha hc oG hb hv P₁.sim (fun b y W₃ s₃ P₃ ry=>item _ _ ?_) fun hb=>nomatch hb
 obtain⟨oo,_,_,go,gc,_,_⟩:=P₃.sim.at oG (P₃.le.φ _ _ ha);refine ly go gc rfl (h1 EN P₃.sim (N.expr P₃) ry fun b W₄ s₄ P₄ N₄=>h2 EN P₄.sim N₄ fun f W₅ s₅ P₅ N₅ F₅=>?_);obtain iP:=P₃.up.trans P₁.sim (P₄.trans P₃.sim P₅);exact q _ _ _ (P₁.trans S iP) N₅ (iP.le.φ _ _ ha) F₅
theorem iX.run{t:Expr}{body:List Stmt}{k m:Nat}{a:Addr}{fl:Fl}(h:iX n sc t body k m env H fl aj H')(rm:bx A (n+1))(S:aH W H s)(N:ak sc env e' W s)(ha:W.φ k=some a):
  codeAny (model G.prog G.w) A (.forLoop t (.ref a) body [] e') (fun r s'=>∃f,r=.ok f∧aT W H s (bI sc e') H' (fun W' s'=>ak sc aj e' W' s'∧lg W' fl f) s') s:=by
 refine tq (HO n sc t body k e' a W H s fl aj H') (fun k' s₁ h E Q K stop item again ret=>?_) m (.mk h (.refl S) N ha);obtain EN:=rm.le (Nat.le_succ n);cases h with
 |mk h P₁ N ha=>
  cases h with
  |dead hk=>
   obtain⟨o,x,y,go,gc,gd,_⟩:=P₁.sim.at hk ha;refine Bj rm.handled go gc gd fun h' hsz hk=>stop _ ?_
   obtain P₂:ah _ H' s₁ aI _ H' {s₁ with heap:=h'}:=ah.grow P₁.sim aI hk hsz rfl rfl (fun b b h=>h) (fun b b h=>.inl h) rfl rfl;exact⟨_,rfl,_,P₁.trans S P₂.up,N.expr P₂,rfl⟩
  |stop hk hc oG hb hv=>exact pZ rm hk ha hc oG hb hv P₁.sim (fun hb=>nomatch hb) fun b W₃ s₃ P₃=>stop _ ⟨_,rfl,W₃,P₁.trans S P₃.up,N.expr P₃,rfl⟩|cons hk hc oG hb hv h1 h2 hf h=>
   refine iX.turn rm EN hk ha hc oG hb hv S P₁ N h1 h2 item fun f W₅ s₅ P₅ N₅ ha F₅=>?_
   refine again f _ s₅ ?_ (Nat.lt_succ_self _) (.mk h P₅ N₅ ha);rcases hf with rfl|rfl
   ·exact .inl F₅
   ·exact .inr F₅
  |ret hk hc oG hb hv h1 h2=>exact iX.turn rm EN hk ha hc oG hb hv S P₁ N h1 h2 item fun f W₅ s₅ P₅ N₅ b F₅=>F₅.elim fun z hz=>hz.1▸ret _ _ ⟨_,rfl,W₅,P₅,N₅,z,rfl,hz.2⟩
theorem KX{t:Expr}{x:Str}{q p:Pos}{body:List Stmt}{k m:Nat}{fl:Fl}{f st:V}{b:Bool}(hn:dW G.C sc env x=some (.ref k))(hd:(x==Str.ofString "__debug__")=false)(hk:H[k]?=some (.lI f st b))(h:iX n sc t body k m env H fl aj H'):gU (n+1) sc env (.For t (.Name x q) body [] p) H fl aj H':=by
 intro A E W s e' Q rm S N kk;refine wpAny_For (wpAny_Name (eO (j9 hn S N) fun y W₁ s₁ P₁ r₁=>?_) hd) fun c=>rfl
 obtain⟨a,rfl,ha⟩:=r₁;obtain⟨o,_,_,ho,hc,_⟩:=P₁.sim.at hk ha;refine Bk ho hc (codeAny_mono (h.run rm P₁.sim (N.expr P₁) ha) ?_);rintro r s₂ ⟨f,rfl,W₂,P₂,q⟩;exact kk _ _ _ (P₁.up.trans S P₂) q.1 q.2
end
noncomputable def cU(ks:List Str)(env:af):af:=env.filter fun p=>ks.contains p.1
def aY(C:Cx)(sc:Scope)(ks:List Str)(env:af):Bool:=env.all fun p=>ks.contains p.1||(kindOf sc p.1==some .local||!C.wo p.1)
theorem kL{ks:List Str}{x:Str}(h:ks.contains x=true):∀env:af,aS (cU ks env) x=aS env x
|[]=>rfl|(y,v)::r=>by
 obtain ih:=kL h r;unfold cU aS at ih⊢;induction hy:ks.contains y with
 |true=>rw[List.filter_cons_of_pos (by exact hy),List.lookup_cons,List.lookup_cons,ih]|false=>
  obtain hn:(x==y)=false:=oK fun e=>nomatch (e▸hy).symm.trans h
  rw[List.filter_cons_of_neg (by exact fun q=>nomatch hy.symm.trans q),List.lookup_cons,hn,ih]
theorem kM{ks:List Str}{x:Str}(h:ks.contains x=false):∀env:af,aS (cU ks env) x=none
|[]=>rfl|(y,v)::r=>by
 obtain ih:=kM h r;unfold cU aS at ih⊢;induction hy:ks.contains y with
 |true=>
  obtain hn:(x==y)=false:=oK fun e=>nomatch (e▸h).symm.trans hy
  rw[List.filter_cons_of_pos (by exact hy),List.lookup_cons,hn,ih]
 |false=>rw[List.filter_cons_of_neg (by exact fun q=>nomatch hy.symm.trans q),ih]
theorem iD{C:Cx}{sc:Scope}{ks:List Str}{x:Str}(h:ks.contains x=false)(hk:kindOf sc x≠some .local):∀env:af,aY C sc ks env=true→aS env x=none∨C.wo x=false
|[],aK=>.inl rfl|(y,v)::r,ho=>by
 obtain q:=aW (show((ks.contains y||(kindOf sc y==some .local||!C.wo y))&&aY C sc ks r)=true from ho);induction e:x==y with
 |true=>induction eq_of_beq e;exact(Bool.or_eq_true_iff.mp q.1).elim (fun q=>bE (h.symm.trans q)) fun q=>(Bool.or_eq_true_iff.mp q).elim (fun q=>absurd (eq_of_beq q) hk) fun q=>.inr ((Bool.not_eq_true' _).mp q)
 |false=>unfold aS;simp only[List.lookup_cons,e];exact iD h hk r q.2
section
variable{d:Nat}{sc:Scope}{env aj ao bk:af}{H H' H₁ H₂:AH}{fl f:Fl}{t:Expr}{body:List Stmt}{x:V}{xs:List V}{ks:List Str}
theorem ak.keep{e':Env}{W:Wd}{s:Shared}(N:ak sc env e' W s)(h:aY G.C sc ks env=true):ak sc (cU ks env) e' W s:=by
 obtain up:∀x v,aS (cU ks env) x=some v→aS env x=some v:=fun x v hx=>by
  induction hc:ks.contains x with |true=>simp only[←hx,kL hc]|false=>exact nE ((kM hc env).symm.trans hx)
 refine⟨N.kind,N.globals,N.builtins,N.code,N.kinds,?_,fun x hx=>?_,fun x v hx hv=>N.frees x v hx (up x v hv),N.inj⟩
 ·refine N.locals.elim fun o JG=>?_;refine JG.elim fun es SP=>?_;refine SP.elim fun ep JH=>?_;refine JH.elim fun m uY=>?_;obtain h1:=uY.1;obtain h2:=uY.2.1;obtain h3:=uY.2.2.1;obtain h4:=uY.2.2.2.1;obtain h5:=uY.2.2.2.2.1;obtain h6:=uY.2.2.2.2.2.1;obtain h7:=uY.2.2.2.2.2.2
  exact⟨o,es,ep,m,h1,h2,h3,h4,h5,h6,fun x v hk hv=>h7 x v hk (up x v hv)⟩
 ·have c:=N.cells x hx;induction hc:ks.contains x with
  |true=>rw[kL hc];exact c|false=>
   rw[kM hc];rcases iD hc (by exact hx▸(fun e=>nomatch e)) env h with h0|h0
   ·rw[h0] at c;exact c
   ·refine c.elim fun c UP=>?_;refine UP.elim fun o UQ=>?_;refine UQ.elim fun u yN=>?_;obtain h1:=yN.1;obtain h2:=yN.2.1;obtain h3:=yN.2.2.1;obtain h4:=yN.2.2.2.1;obtain h5:=yN.2.2.2.2.1;obtain h6:=yN.2.2.2.2.2
    refine⟨c,o,u,h1,h2,h3,h4,h5,?_⟩
    revert h6
    induction aS env x with |none=>exact id|some v=>exact fun h6=>by have h6:=h6.2;rw[h0] at h6;exact h6
theorem oX.keep(h:oX d sc env body H fl aj H')(ho:aY G.C sc ks aj=true):oX d sc env body H fl (cU ks aj) H':=fun a a a a a a rm S N k=>h rm S N fun a a a P N' F=>k _ _ _ P (N'.keep ho) F
theorem gU.keep{st:Stmt}(h:gU d sc env st H fl aj H')(ho:aY G.C sc ks aj=true):gU d sc env st H fl (cU ks aj) H':=fun a a a a a a rm S N k=>h rm S N fun a a a P N' F=>k _ _ _ P (N'.keep ho) F
theorem gU.low{st:Stmt}(h:gU d sc (cU ks env) st H fl aj H')(ho:aY G.C sc ks env=true):gU d sc env st H fl aj H':=fun a a a a a a rm S N k=>h rm S (N.keep ho) k
end
section
variable{d:Nat}{au:Scope}{H H':AH}{out:Out}
inductive Ma(d:Nat)(au:Scope):Out→af→Acc→AH→Acc→AH→Prop where
|e{x:Expr}{env:af}{vs:List V}{v:V}{H H':AH}(h:bS d au env x H v H')(hz:vs.length+1<ai):Ma d au (.e x) env (.l vs) H (.l (vs++[v])) H'|kv{x k:Expr}{env:af}{kvs:List (Str×V)}{t:Str}{v:V}{H H₁ H':AH}(h1:bS d au env k H (.str t) H₁)(h:bS d au env x H₁ v H')(hz:kvs.length+1<ai):Ma d au (.kv k x) env (.d kvs) H (.d (aP kvs t v)) H'
inductive B6(d:Nat)(au:Scope)(env:af):List Expr→AH→Bool→AH→Prop where
|nil{H:AH}:B6 d au env [] H true H|t{c:Expr}{cs:List Expr}{H H₁ H':AH}{b:Bool}(h:oF d au env c H true H₁)(k:B6 d au env cs H₁ b H'):B6 d au env (c::cs) H b H'|f{c:Expr}{cs:List Expr}{H H':AH}(h:oF d au env c H false H'):B6 d au env (c::cs) H false H'
abbrev jm:=af→Acc→AH→af→Acc→AH→Prop
inductive aG(d:Nat)(au:Scope)(g:Comprehension)(T:jm):List V→jm where
|nil{env:af}{ac:Acc}{H:AH}:aG d au g T [] env ac H env ac H|yes{x:V}{xs:List V}{env ao bk aj:af}{ac lC fN:Acc}{H H₁ H₂ H₃ H':AH}{ks:List Str}(h1:oW d au env g.target x H ao H₁)(h2:B6 d au ao g.ifs H₁ true H₂)(h3:T ao ac H₂ bk lC H₃)(ho:aY G.C au ks bk=true)(k:aG d au g T xs (cU ks bk) lC H₃ aj fN H'):aG d au g T (x::xs) env ac H aj fN H'|no{x:V}{xs:List V}{env ao aj:af}{ac fN:Acc}{H H₁ H₂ H':AH}{ks:List Str}(h1:oW d au env g.target x H ao H₁)(h2:B6 d au ao g.ifs H₁ false H₂)(ho:aY G.C au ks ao=true)(k:aG d au g T xs (cU ks ao) ac H₂ aj fN H'):aG d au g T (x::xs) env ac H aj fN H'
theorem B6.run{A:Around}{E:Value→Shared→Prop}{W:Wd}{s:Shared}{e':Env}{env:af}{cs:List Expr}{b:Bool}(h:B6 d au env cs H b H')(rm:bx A d)(S:aH W H s)(N:ak au env e' W s):∀{Q:Bool→Shared→Prop},(∀W' s',ah W H s aI W' H' s'→Q b s')→
  wpAny (model G.prog G.w) A (forIn (m:=Sem) cs true fun c r=>if r=true then do let ok←PySem.isTrue c e' (PySem.eval c e');pure (ForInStep.yield ok) else pure (ForInStep.yield r)) Q E s:=by
 induction h generalizing W s with |nil=>intro Q k;exact wpAny_pure (k _ _ (.refl S))|t h _ ih=>intro Q k;rw[List.forIn_cons];exact wpAny_bind (wpAny_bind (h rm S N fun a a P=>wpAny_pure (ih P.sim (N.expr P) fun a a P₂=>k _ _ (P.trans S P₂))))|f h=>intro Q k;rw[List.forIn_cons];exact wpAny_bind (wpAny_bind (h rm S N fun a a P=>wpAny_pure (wpAny_of_eq (pT _) (k _ _ P))))
structure B7(au:Scope)(e':Env)(a:Addr)(IA:Addr→Prop)(W:Wd)(H:AH)(s:Shared)(aj:af)(ac:Acc)(W':Wd)(H':AH)(s':Shared):Prop where
 post:ah W H s (fun b=>bI au e' b∨b=a∨IA b) W' H' s'
 env:ak au aj e' W' s'
 acc:iW W' s' a ac
 free:b_ W' a
theorem Ma.run{A:Around}{E:Value→Shared→Prop}{W:Wd}{s:Shared}{e':Env}{env:af}{ac fN:Acc}{a:Addr}{Q:Unit→Shared→Prop}(h:Ma d au out env ac H fN H')(rm:bx A d)(S:aH W H s)(N:ak au env e' W s)(hA:iW W s a ac)(f:b_ W a)(ap:Apart au e' a)
  (k:∀u W' s',B7 au e' a (fun c=>False) W H s env fN W' H' s'→Q u s'):wpAny (model G.prog G.w) A (emitC out (.ref a) e') Q E s:=by
 induction h with
 |@e _ _ _ v _ _ h hz=>refine wpAny_bind (h rm S N fun y W₁ s₁ P₁ r₁=>?_);obtain f₁:=(iW.keep hA f P₁ (fun h=>h)).2;obtain⟨ys,m,g,hl,ry⟩:=(iW.keep hA f P₁ (fun h=>h)).1;obtain⟨m',hm⟩:=je ys m (·.push y);obtain PX:=d7 (tk:=s₁.toks) P₁.sim f₁ (Heap.SameBut.update s₁.heap a (Obj.mapSeq (·.push y)));refine wpAny_bind (call_meets F.slot_list_append (show s₁.TypeIs (.ref a) "list" from⟨_,g,rfl⟩) F.entry_list_append (F.args_list_append_2 _ _) (PySem.list_append a ys m y (br ((ry.length.trans Array.length_toList)▸hl))) ⟨g,wpAny_pure (k _ W₁ _ ?_)⟩);exact⟨P₁.up.trans S (PX.wk fun b hb=>.inr (.inl hb)),(N.expr P₁).old PX fun b hb=>⟨hb▸ap.1,fun y hy=>hb▸ap.2 y (hy.imp id (·.1))⟩,⟨ys.push y,m',hm▸Heap.get?_update_self _ g (hm▸rfl),List.length_append ..▸hz,(show(ys.push y).toList=ys.toList++[y] from Array.toList_push ..)▸ry.append (show aA W₁ [v] [y] from⟨r₁,trivial⟩)⟩,f₁⟩
 |@kv _ _ _ kvs _ _ _ _ _ h1 h hz=>
  refine wpAny_bind (h1 rm S N fun y W₁ s₁ P₁ r₁=>wpAny_bind (wpAny_holding (h rm P₁.sim (N.expr P₁) fun z W₂ s₂ P₂ r₂=>wpAny_bind (wpAny_standAt (wpAny_holding ?_)))));obtain bU:=P₁.trans S P₂;obtain f₁:=(iW.keep hA f bU (fun h=>h)).2;obtain⟨es,m,g,h0,nd,hl,rd⟩:=(iW.keep hA f bU (fun h=>h)).1;obtain⟨ps,hD,rp⟩:=dM g nd rd;obtain⟨Rv,tk,rfl⟩:=r₁;refine wpAny_dictSet_pairs (knd:=sk) (hsz:=br (rp.length▸hl)) (strKind_is _ _ _ tk) hD fun h' Ze zu=>?_
  obtain PX:=d7 (tk:=s₂.toks+1) P₂.sim f₁ zu;obtain⟨JJ,m',g',Ov,Zf⟩:=kc Ze (eE.D6 Rv r₂ (rp.keys▸nd) rp);exact k _ W₂ _ ⟨bU.up.trans S (PX.wk fun b hb=>.inr (.inl hb)),(N.expr bU).old PX fun b hb=>⟨hb▸ap.1,fun y hy=>hb▸ap.2 y (hy.imp id (·.1))⟩,⟨JJ,m',g',h0,Ov,Nat.lt_of_le_of_lt (cC kvs _ _) hz,Zf⟩,f₁⟩
end
section
variable{d:Nat}{au:Scope}{H H':AH}{out:Out}{g:Comprehension}{T:jm}{A:Around}{e':Env}{a:Addr}{pos:Pos}{gens gs:List Comprehension}{env aj:af}{ac fN:Acc}{E:Value→Shared→Prop}{W:Wd}{s:Shared}
abbrev CX(au:Scope)(e':Env)(a:Addr)(IA:Addr→Prop):Addr→Prop:=fun b=>bI au e' b∨b=a∨IA b
def HP(A:Around)(au:Scope)(e':Env)(out:Out)(gens:List Comprehension)(pos:Pos)(a:Addr)(d:Nat)(T:jm):Prop:=∀⦃E:Value→Shared→Prop⦄⦃W:Wd⦄⦃s:Shared⦄⦃env aj:af⦄⦃ac fN:Acc⦄⦃H H':AH⦄⦃K:Sem PySem.Fin⦄⦃Q:PySem.Fin→Shared→Prop⦄,T env ac H aj fN H'→aH W H s→ak au env e' W s→iW W s a ac→b_ W a→(∀W' s',B7 au e' a (fun b=>False) W H s aj fN W' H' s'→wpAny (model G.prog G.w) A K Q E s')→wpAny (model G.prog G.w) A (pS out gens au pos d (.ref a) e' K) Q E s
inductive B8(d:Nat)(au:Scope)(g:Comprehension)(T:jm)(e':Env)(a:Addr)(it:Value)(IA D:Addr→Prop)(W:Wd)(H:AH)(s:Shared)(aj:af)(fN:Acc)(H':AH):Nat→Shared→Prop
|mk{xs:List V}{env:af}{ac:Acc}{H₁:AH}{W₁:Wd}{P:Heap→Prop}{s₁:Shared}(h:aG d au g T xs env ac H₁ aj fN H')(c:B7 au e' a IA W H s env ac W₁ H₁ s₁)(I:ir g.target it IA D W xs P)
 (hP:dQ (fun a=>IA a∨D a) P) (p:P s₁.heap) (hI:∀b,IA b→bB W₁ s₁ b) (hD:∀b,D b→Still W₁ H₁ s₁ (CX au e' a IA) b):B8 d au g T e' a it IA D W H s aj fN H' xs.length s₁
theorem aG.run{xs:List V}{it:Value}{k:Nat}{IA D:Addr→Prop}{P:Heap→Prop}(h:aG d au g T xs env ac H aj fN H')(rm:bx A d)(hg:gens[k]?=some g)(ha:g.is_async=0)(ap:Apart au e' a)(tail:HP A au e' out gens pos a k T)
  (S:aH W H s)(N:ak au env e' W s)(hA:iW W s a ac)(f:b_ W a)(I:ir g.target it IA D W xs P)(hP:dQ (fun a=>IA a∨D a) P)(p:P s.heap)(hI:∀b,IA b→bB W s b)(RD:∀b,IA b→b≠a)(hD:∀b,D b→Still W H s (CX au e' a IA) b):
  codeAny (model G.prog G.w) A (.compLoop (out.expr gens au pos) k it (.ref a) e') (fun r s'=>r=.ok .next∧∃W',B7 au e' a IA W H s aj fN W' H' s') s:=by
 refine qW hg ha (B8 d au g T e' a it IA D W H s aj fN H') (fun k s₁ h E Q B K T stop item yes again no=>?_) _ (.mk h ⟨.refl S,N,hA,f⟩ I hP p hI hD);cases h with
 |mk h c I hP p BZ hD=>
  have P₁:=c.post;cases h with
  |nil=>
   refine I rm.handled p fun h' tk hsz hk=>stop _ ?_
   obtain P₂:ah _ H' s₁ IA _ H' {s₁ with heap:=h',toks:=tk}:=ah.free P₁.sim (fun a ha=>(BZ a ha).1) hk hsz rfl rfl;obtain q:=c.acc.keep c.free P₂ (fun hx=>RD a hx rfl);exact⟨rfl,_,P₁.trans S (P₂.wk fun b hb=>.inr (.inr hb)),c.env.old P₂ fun b hb=>(BZ b hb).apart c.env,q.1,q.2⟩
  |yes h1 h2 h3 ho hk=>
   refine I.elim fun P' z1=>?_;obtain vE:=z1.1;obtain I':=z1.2.1;obtain step:=z1.2.2
   refine wpAny_mono (step P₁.le P₁.sim BZ rm.handled p) (fun r s₂ q=>q.elim fun y q=>q.1▸item _ _ (wpAny_mono q.2 (fun i s₃ q=>q.elim fun W₃ q=>?_) fun i i e=>e)) fun i i e=>e
   obtain N₃:=c.env.old q.1 fun b hb=>(BZ b hb).apart c.env
   obtain c₃:=c.acc.keep c.free q.1 (fun hx=>RD a hx rfl);refine h1 rm q.1.sim N₃ q.2.2.1 fun i W₄ s₄ P₄ N₄=>h2.run rm P₄.sim N₄ fun W₅ s₅ P₅=>yes _ ?_
   obtain c₄:=c₃.1.keep c₃.2 P₄ ap.fM;obtain c₅:=c₄.1.keep c₄.2 P₅ (fun h=>h);refine tail h3 P₅.sim (N₄.expr P₅) c₅.1 c₅.2 fun W₆ s₆ c₆=>?_
   have Q₆:ah W₃ _ s₃ (fun b=>bI au e' b∨b=a) W₆ _ s₆:=((P₄.wk fun b hb=>.inl hb).trans q.1.sim P₅.up).trans q.1.sim (c₆.post.wk fun b hb=>hb.imp id fun hb=>hb.resolve_right fun h=>h);have Q₃:=q.1.wk (X':=CX au e' a IA) fun b hb=>.inr (.inr hb)
   have tC:=Q₆.wk (X':=CX au e' a IA) fun b hb=>hb.imp id .inl
   have nJ:=q.2.1;have hx:∀b,IA b→¬(bI au e' b∨b=a):=fun b hb hq=>hq.elim ((nJ b hb).fM N₃) (RD b hb)
   have st:=fun b hb=>((hD b hb).post P₁.sim Q₃).1.post q.1.sim tC
   exact again _ _ (Nat.lt_succ_self _) (.mk hk ⟨(P₁.trans S Q₃).trans S tC,c₆.env.keep ho,c₆.acc,c₆.free⟩ I' vE (vE _ _ q.2.2.2 fun b o hb ho=>hb.elim (fun hb=>(nJ b hb).keep Q₆ (hx b hb) ho) fun hb=>(st b hb).2 o ho) (fun b hb=>(nJ b hb).post Q₆ (hx b hb)) fun b hb=>(st b hb).1)
  |no h1 h2 ho hk=>
   refine I.elim fun P' J8=>?_;obtain vE:=J8.1;obtain I':=J8.2.1;obtain step:=J8.2.2
   refine wpAny_mono (step P₁.le P₁.sim BZ rm.handled p) (fun r s₂ q=>q.elim fun y q=>q.1▸item _ _ (wpAny_mono q.2 (fun i s₃ q=>q.elim fun W₃ q=>?_) fun i i e=>e)) fun i i e=>e
   obtain N₃:=c.env.old q.1 fun b hb=>(BZ b hb).apart c.env
   have c₃:=c.acc.keep c.free q.1 (fun hx=>RD a hx rfl);refine h1 rm q.1.sim N₃ q.2.2.1 fun i W₄ s₄ P₄ N₄=>h2.run rm P₄.sim N₄ fun W₅ s₅ P₅=>?_
   obtain c₄:=c₃.1.keep c₃.2 P₄ ap.fM;obtain c₅:=c₄.1.keep c₄.2 P₅ (fun h=>h);have Q₆:ah W₃ _ s₃ (bI au e') W₅ _ s₅:=P₄.trans q.1.sim P₅.up
   have Q₃:=q.1.wk (X':=CX au e' a IA) fun b hb=>.inr (.inr hb)
   have tC:=Q₆.wk (X':=CX au e' a IA) fun b hb=>.inl hb
   have nJ:=q.2.1;have hx:∀b,IA b→¬bI au e' b:=fun b hb hq=>(nJ b hb).fM N₃ hq
   have st:=fun b hb=>((hD b hb).post P₁.sim Q₃).1.post q.1.sim tC
   exact no _ _ (Nat.lt_succ_self _) (.mk hk ⟨(P₁.trans S Q₃).trans S tC,(N₄.expr P₅).keep ho,c₅.1,c₅.2⟩ I' vE (vE _ _ q.2.2.2 fun b o hb ho=>hb.elim (fun hb=>(nJ b hb).keep Q₆ (hx b hb) ho) fun hb=>(st b hb).2 o ho) (fun b hb=>(nJ b hb).post Q₆ (hx b hb)) fun b hb=>(st b hb).1)
end
section
variable{d:Nat}{sc au:Scope}{H H':AH}{out:Out}{T:jm}{A:Around}{e':Env}{a:Addr}{pos:Pos}{gens:List Comprehension}{env aj:af}{ac fN:Acc}{E:Value→Shared→Prop}{W:Wd}{s:Shared}
inductive PK(d:Nat)(au:Scope)(g:Comprehension)(T:jm):jm|mk{env aj:af}{ac fN:Acc}{H H₁ H₂ H':AH}{xs:List V}{back:Option (Nat×az)}(ha:g.is_async=0)(hf:∀e' x,foldedSetIterable g.iter e' x=pure x)(h1:tu d au env g.target g.iter H xs back H₁)(h2:aG d au g T xs env ac H₁ aj fN H₂)(h3:iJ back H₂=some ((),H')):PK d au g T env ac H aj fN H'
def eu(d:Nat)(au:Scope)(out:Out):List Comprehension→jm|[]=>fun env ac H aj fN H'=>aj=env∧Ma d au out env ac H fN H'|g::gs=>PK d au g (eu d au out gs)
theorem eu.run(rm:bx A d)(ap:Apart au e' a):∀(gs:List Comprehension) (k:Nat),gens.drop (k+1)=gs→HP A au e' out gens pos a k (eu d au out gs)
|[],k,hd=>fun E W s env aj ac fN H H' K Q h S N hA f kk=>by obtain hn:gens[k+1]?=none:=List.getElem?_eq_none (List.drop_eq_nil_iff.mp hd);unfold pS;refine hn▸?_;exact wpAny_bind (h.2.run rm S N hA f ap fun u W' s' c=>kk W' s' (h.1▸c))
|g::gs,k,hd=>fun E W s env aj ac fN H H' K Q h S N hA f kk=>by
 obtain⟨ha,hf,h1,h2,h3⟩:=h;obtain⟨hg,UJ⟩:=qX hd;obtain hb:(g.is_async !=0)=false:=by rw[ha];rfl
 unfold pS;refine hg▸?_;dsimp only;refine hb▸?_;refine wpAny_bind (h1 rm S N fun x s₁ hx=>wpAny_bind (wpAny_standAt (wpAny_bind (wpAny_of_eq (hf e' x) (wpAny_bind (wpAny_holding (wpAny_mono hx (fun i s₂ z=>z.elim fun W₂ z=>?_) fun l l e=>e)))))));obtain⟨hh,IA,D,P,I,p0,tw,hD⟩:=z;have N₂:=N.expr hh.1
 have c₂:=hA.keep f hh.1 (fun h=>h)
 obtain loop:=h2.run (pos:=pos) rm hg ha ap (eu.run rm ap gs (k+1) UJ) hh.1.sim N₂ c₂.1 c₂.2 I.A_ I.oR p0 (fun b hb=>(tw b hb).1) (fun b hb e=>Nat.lt_irrefl _ (Nat.lt_of_lt_of_le hA.lt (e▸(tw b hb).2)))
  (fun b hb=>(hD b hb).Bb hh.1.sim fun q=>q.elim ((hD b hb).fM N₂) fun q=>q.elim (fun q=>(hD b hb).lW (q▸c₂.2)) fun q=>(hD b hb).lW (tw b q).1.1)
 have fin:∀{R:Result→Shared→Prop},(∀s',(∃W',B7 au e' a (fun l=>False) W H s aj fN W' H' s')→R (.ok .next) s')→codeAny (model G.prog G.w) A (.compLoop (out.expr gens au pos) (k+1) i (.ref a) e') R s₂:=fun hQ=>codeAny_mono loop fun r s' q=>q.1▸q.2.elim fun W₃ c=>hQ s' ⟨W₃,(hh.2 c.post (fun b j hb hx=>hx.elim (fun hx=>nE ((bI.free N₂ hx).symm.trans hb)) fun hx=>hx.elim (fun hx=>nE ((hx▸c₂.2.1:W₂.own b=none).symm.trans hb)) fun hx=>nE ((tw b hx).1.1.1.symm.trans hb)) h3).drop fun b hb=>hb.elim (fun h=>.inl (.inl h)) fun h=>h.elim (fun h=>.inl (.inr (.inl h))) fun h=>.inr (tw b h).2,c.env,c.acc,c.free⟩
 exact wpAny_bind (wpAny_runOwn (i5 hg ha (fin fun s' q=>q.elim fun W' c=>kk W' s' c) (I.self rm.handled p0 (fin fun s' q=>q.elim fun W' c=>kk W' s' c))))
end
section
variable{d:Nat}{sc au:Scope}{H H' H₁ H₂:AH}{out:Out}{A:Around}{e':Env}{pos p q:Pos}{g:Comprehension}{gs:List Comprehension}{env aj c7:af}{ac:Acc}{E:Value→Shared→Prop}{W:Wd}{s:Shared}{xs:List V}{back:Option (Nat×az)}{v:V}{y:Str}
inductive o5(d:Nat)(sc:Scope)(env:af)(au:Scope)(out:Out):List Comprehension→AH→Acc→AH→Prop
|mk{g:Comprehension}{gs:List Comprehension}{H H₁ H₂ H':AH}{c7 aj:af}{ac:Acc}{xs:List V}{back:Option (Nat×az)}(L8:gK sc=false)(gr:gn sc au=true)(ha:g.is_async=0)(hf:∀e' x,foldedSetIterable g.iter e' x=pure x)(lM:e_ au env=some c7)
 (h1:tu d sc env g.target g.iter H xs back H₁) (h2:aG d au g (eu d au out gs) xs c7 out.start H₁ aj ac H₂) (h3:iJ back H₂=some ((),H')):o5 d sc env au out (g::gs) H ac H'
set_option tactic.hygienic true in
theorem o5.made{gens:List Comprehension}{use:Option (Value→Sem Unit)}{Q:Value→Shared→Prop}(h:o5 d sc env au out gens H ac H')(rm:bx A d)(S:aH W H s)(N:ak sc env e' W s)
  (k:∀(a L:Addr) W₄ s₄ m,ah W H s aI W₄ H' s₄→b_ W₄ a→s.heap.objs.size≤a→iW W₄ s₄ a ac→b_ W₄ L→s.heap.objs.size≤L→L≠a→s₄.heap.Ns L m→compPost (model G.prog G.w) A E use Q (.ref a) L (.ok .next) s₄):
  wpAny (model G.prog G.w) A (comprehension (out.expr gens au pos) au e' p (qY out) (firstAsync gens) (firstIter gens e') use) Q E s:=by
 obtain⟨L8,gr,ha,hf,lM,h1,h2,h3⟩:=h;rename_i g gs H₁ H₂ c7 aj xs back;obtain HN:=fu gr;obtain Bw:=HN.1;obtain nd:=HN.2.1;obtain nv:=HN.2.2.2;refine(nu lM gr N).elim fun cl PM=>?_;obtain xr:=PM.1;obtain jd:=PM.2.1
 have Uv:firstAsync (g::gs)=false:=by cases g;subst ha;rfl
 simp only[Uv,show firstIter (g::gs) e'=PySem.eval g.iter e' from by cases g;rfl];refine wpAny_comprehension_free (g:=g) (gs:=gs) (by induction out<;>rfl) (hf e') xr Bw (fun x hx hl=>c9 nd (hl▸hx:(x.1,NameKind.local)∈au.names)) (h1 rm S N fun x s₁ hx=>wpAny_mono hx (fun i s₂ z=>z.elim fun W₂ z=>yF (yE fun r h' hk hsz gL c1 c2 c3=>?_)) fun f f e=>e);obtain⟨hh,IA,D,P,I,p0,tw,hD⟩:=z;have S₂:=hh.1.sim
 have B9:s.heap.objs.size≤s₂.heap.objs.size:=hh.1.size;obtain EO:(s₂.heap.push (kG out)).objs.size=s₂.heap.objs.size+1:=Heap.size_push ..;have kp:∀b o,s₂.heap.get? b=some o→h'.get? b=some o:=fun b o e=>hk b o (Heap.get?_push_of_some _ e)
 have P₃:ah W₂ H₁ s₂ aI W₂ H₁ {s₂ with heap:=h'}:=ah.grow S₂ aI kp (Nat.le_of_succ_le (Nat.le_of_lt (EO▸hsz:s₂.heap.objs.size+1<h'.objs.size))) rfl rfl (fun f f h=>h) (fun f f h=>.inl h) rfl rfl;have fr:∀b,s₂.heap.objs.size≤b→b_ W₂ b:=fun b hb=>⟨S₂.cO hb,S₂.ic hb,S₂.fJ hb⟩
 have UR:∀x,(x,NameKind.cell)∈au.names→∃c,r.lookup x=some c∧s₂.heap.objs.size+1<c∧h'.get? c=some (J' none):=EO▸c1;obtain Zg:h'.get? (s₂.heap.objs.size+1)=some {cls:=.type "dict",data:=.dict #[]}:=EO▸gL;refine(vF (s':={s₂ with heap:=h'}) (o:=J' none) L8 gr lM (N.expr hh.1) rfl kp fr jd Zg (Nat.le_succ _) UR c2 c3 N.globals).elim fun N₃ Tn=>?_
 obtain Zh:h'.get? s₂.heap.objs.size=some (kG out):=hk _ _ (Heap.get?_push_size _ (by induction out<;>rfl))
 obtain ap:Apart au {scope:=relabel au e',locals:=s₂.heap.objs.size+1,globals:=e'.globals,cells:=r,qual:=e'.qual,func:=none,code:=e'.code,frame:=e'.frame,builtins:=e'.builtins} s₂.heap.objs.size:=
  ⟨Nat.ne_of_lt (Nat.lt_succ_self _),fun y hy he=>hy.elim
   (fun hy=>(UR y (mem_of_lookup hy)).elim fun c q=>absurd (Option.some.inj (q.1.symm.trans he)▸q.2.1) (Nat.not_lt_of_le (Nat.le_succ _)))
   fun hy=>(Tn y hy).elim fun c q=>absurd (Option.some.inj (q.1.symm.trans he)▸q.2) (Nat.lt_irrefl _)⟩
 have fa:=fr _ (Nat.le_refl _);have hA:=BB (W:=W₂) (s:={s₂ with heap:=h'}) (out:=out) Zh (S₂.mods (Nat.le_refl _))
 have EP:∀b,D b→SrcAt W₂ H₁ {s₂ with heap:=h'} b:=fun b hb=>⟨(hD b hb).1.imp fun o q=>⟨kp _ _ q.1,q.2⟩,(hD b hb).2⟩
 have ps:P h':=I.oR _ _ p0 fun b o f e=>kp _ _ e
 obtain loop:=h2.run (pos:=pos) (gens:=g::gs) (k:=0) rm rfl ha ap (eu.run rm ap gs 0 rfl) P₃.sim N₃ hA fa I.A_ I.oR ps (fun b hb=>⟨(tw b hb).1.1,(tw b hb).1.2.imp fun o q=>q.imp fun vs q=>⟨kp _ _ q.1,q.2⟩⟩)
  (fun b hb e=>(tw b hb).1.2.elim fun o q=>q.elim fun vs q=>Nat.lt_irrefl _ (e▸Heap.lt_size q.1))
  (fun b hb=>(EP b hb).Bb P₃.sim fun q=>q.elim ((EP b hb).fM N₃) fun q=>q.elim (fun q=>(EP b hb).lW (q▸fa)) fun q=>(EP b hb).lW (tw b q).1.1)
 obtain fin:codeAny (model G.prog G.w) A (.compLoop (out.expr (g::gs) au pos) 0 i (.ref s₂.heap.objs.size) {scope:=relabel au e',locals:=s₂.heap.objs.size+1,globals:=e'.globals,cells:=r,qual:=e'.qual,func:=none,code:=e'.code,frame:=e'.frame,builtins:=e'.builtins})
   (compPost (model G.prog G.w) A E use Q (.ref s₂.heap.objs.size) (s₂.heap.objs.size+1)) {s₂ with heap:=h'}:=codeAny_mono loop fun rr s' q=>q.1▸q.2.elim fun W₄ c=>by
  obtain P':=hh.2 (P₃.up.trans S₂ c.post) (fun b j hb hx=>hx.elim (fun hx=>nE ((bI.free N₃ hx).symm.trans hb)) fun hx=>hx.elim (fun hx=>nE ((hx▸fa.1:W₂.own b=none).symm.trans hb)) fun hx=>nE ((tw b hx).1.1.1.symm.trans hb)) h3;have Zi:ah W H s aI W₄ _ s':=P'.drop fun b hb=>.inr (hb.elim (fun hb=>hb.elim (fun hb=>hb▸Nat.le_trans B9 (Nat.le_succ _)) fun hb=>hb.elim fun y hy=>(UR y (mem_of_lookup hy.1)).elim fun c q=>Option.some.inj (q.1.symm.trans hy.2)▸Nat.le_trans B9 (Nat.le_of_lt (Nat.lt_of_succ_lt q.2.1))) fun hb=>hb.elim (fun hb=>hb▸B9) fun hb=>(tw b hb).2)
  refine c.env.locals.elim fun o US=>?_;refine US.elim fun es UT=>?_;refine UT.elim fun ep UU=>?_;refine UU.elim fun m yO=>?_;obtain q1:=yO.1;obtain q2:=yO.2.1;obtain q3:=yO.2.2.1;obtain q4:=yO.2.2.2.1;obtain q5:=yO.2.2.2.2.1;obtain q6:=yO.2.2.2.2.2.1
  exact k _ _ W₄ s' m Zi c.free B9 c.acc ⟨q5,q6,q2⟩ (Nat.le_trans B9 (Nat.le_succ _)) (Nat.ne_of_gt (Nat.lt_succ_self _)) q4
 show codeAny _ _ (.compStart (out.expr (g::gs) au pos) 0 i (.ref s₂.heap.objs.size) {scope:=relabel au e',locals:=(s₂.heap.push (kG out)).objs.size,globals:=e'.globals,cells:=r,qual:=e'.qual,func:=none,code:=e'.code,frame:=e'.frame,builtins:=e'.builtins})
  (compPost (model G.prog G.w) A E use Q (.ref s₂.heap.objs.size) (s₂.heap.push (kG out)).objs.size) {s₂ with heap:=h'}
 refine EO▸?_;exact i5 rfl ha fin (I.self rm.handled ps fin)
end
section
variable{d:Nat}{sc au:Scope}{H H' H₁ H₂:AH}{out:Out}{A:Around}{e':Env}{pos p q:Pos}{gens:List Comprehension}{env aj c7:af}{ac:Acc}{E:Value→Shared→Prop}{W:Wd}{s:Shared}{v:V}{y:Str}{c:Bool}
theorem o5.val{Q:Value→Shared→Prop}(h:o5 d sc env au out gens H ac H₁)(hv:yG c ac H₁=some (v,H'))(rm:bx A d)(S:aH W H s)(N:ak sc env e' W s)(k:∀x W' s',ah W H s aI W' H' s'→Rel W' v x→Q x s'):
  wpAny (model G.prog G.w) A (comprehension (out.expr gens au pos) au e' p (qY out) (firstAsync gens) (firstIter gens e')) Q E s:=
 h.made rm S N fun a L W₄ s₄ m P f ha hA fL hL UW vg=>⟨m,vg,fun h' hs=>
  have P₅:ah W₄ H₁ s₄ (fun b=>b=L) W₄ H₁ {s₄ with heap:=h'}:=d7 (tk:=s₄.toks) P.sim fL hs;have c₅:=hA.keep f P₅ (fun e=>UW e.symm)
  (sZ hv (P.trans' S P₅ fun b hb=>.inr (hb▸hL)) c₅.2 ha c₅.1).elim fun W₅ q=>k _ W₅ _ q.1 q.2.2.1⟩
theorem o5.use{Q:Value→Shared→Prop}(h:o5 d sc env au out gens H ac H₁)(hv:yG c ac H₁=some (v,H'))(hy:kindOf sc y=some .local)(rm:bx A d)(S:aH W H s)(N:ak sc env e' W s)(k:∀x W' s',ah W H s (bI sc e') W' H' s'→ak sc (aP env y v) e' W' s'→Q x s'):
  wpAny (model G.prog G.w) A (comprehension (out.expr gens au pos) au e' p (qY out) (firstAsync gens) (firstIter gens e') (some fun v=>assignAll v [PySem.assign (.Name y q) e'])) Q E s:=by
 refine h.made rm S N fun a L W₄ s₄ m P f ha hA fL hL UW vg=>(sZ hv P f ha hA).elim fun W₅ g=>?_
 refine wpAny_assign_Name (eO (fj g.1.sim (N.expr g.1) hy g.2.2.1) fun i W₆ s₆ P₆ N₆=>?_);obtain RE:¬bI sc e' L:=fun hq=>Nat.lt_irrefl _ (Nat.lt_of_lt_of_le (OT N hq) hL)
 obtain UX:=g.2.2.2 L UW fL;obtain⟨oL,es,ep,gL,r1⟩:=id vg;obtain Zj:=UX.post P₆ (Heap.lt_size gL) RE;refine⟨m,⟨oL,es,ep,P₆.keep L oL gL UX.2.2 (fun k hk=>nE (UX.1.symm.trans hk)) RE,r1⟩,fun h' hs=>?_⟩;obtain P₇:ah W₆ H' s₆ (fun b=>b=L) W₆ H' {s₆ with heap:=h'}:=d7 (tk:=s₆.toks) P₆.sim Zj hs;refine k _ W₆ _ ((g.1.up.trans S P₆).trans' S P₇ fun b hb=>.inr (hb▸hL)) (N₆.old P₇ fun b hb=>hb▸⟨fun e=>RE (.inl e),fun z hz he=>hz.elim (fun hz=>RE (.inr ⟨z,hz,he⟩)) fun hz=>?_⟩);obtain bV:z≠y:=fun e=>nomatch (hy.symm.trans (e▸hz.1:kindOf sc y=some .free):some NameKind.local=some NameKind.free)
 obtain WL:=hz.2;rw[bJ,if_neg bV] at WL;obtain⟨u,hu⟩:=mh WL;refine(N.frees z u hz.1 hu).elim fun c' Zk=>?_;refine Zk.elim fun o' UY=>?_;refine UY.elim fun w' zx=>?_;obtain g1:=zx.1;obtain g2:=zx.2.1
 exact Nat.lt_irrefl _ (Nat.lt_of_lt_of_le (Option.some.inj (g1.symm.trans he)▸Heap.lt_size g2) hL)
theorem vI(h:o5 d sc env au out gens H ac H₁)(hv:yG (G.C.mu p) ac H₁=some (v,H')):bS d sc env (out.expr gens au p) H v H':=fun a a a a a a rm S N k=>by induction out<;>exact h.val hv rm S N k
theorem B_(h:o5 d sc env au out gens H ac H₁)(hv:yG (G.C.mu pos) ac H₁=some (v,H'))(hk:kindOf sc y=some .local∨kindOf sc y=some .cell)(h2:oW d sc env (.Name y q) v H' (aP env y v) H'):gU d sc env (.Assign [.Name y q] (out.expr gens au pos) p) H .next (aP env y v) H':=by
 intro A E W s e' Q rm S N k;refine arm_exec_Assign ..▸wpAny_bind (wpAny_standAt ?_);obtain⟨b,hb,Et⟩:=sO (t:=.Name y q) (v:=out.expr gens au pos) (l:=p.line) (e':=e');refine nF hb ?_;induction b with
 |true=>obtain⟨_,y',q',e,hy⟩:=Et rfl;cases e;obtain hl:=pO N hy hk;induction out<;>exact wpAny_bind (wpAny_bind (h.use hv hl rm S N fun a a a P N'=>wpAny_pure (wpAny_pure (k _ _ _ P N' rfl))))
 |false=>exact wpAny_bind (vI h hv rm S N fun a a a P₁ r₁=>nF (b:=none) rfl (wpAny_bind (h2 rm P₁.sim (N.expr P₁) r₁ fun a a a P₂ N₂=>wpAny_pure (k _ _ _ (P₁.up.trans S P₂) N₂ rfl))))
end
section
variable{d:Nat}{sc:Scope}{env:af}{es:List Expr}{m x:Str}{vs us:List V}{v:V}{H H₁ H':AH}{k:Nat}{kvs KY:List (Str×V)}{p:Pos}{i:String}
theorem PN(h:g_ i vs H=some (v,H')):pW d (.blt i) vs H v H':=fun a a a a a a a rm S rf rs k=>(show _=Value.builtin i from rf)▸eO (Br h S rs rm.handled) k
theorem PO{c:Bool}(h:gj c i vs H=some (v,H')):pW d (.typ i) vs H v H':=fun a a a a a a a rm S rf rs k=>(show _=Value.type i from rf)▸eO (Bs h S rs rm.handled) k
theorem Ca(h:lR vs H=some (v,H')):pW d (.blt "sorted") vs H v H':=fun a a a a a a a rm S rf rs k=>(show _=Value.builtin "sorted" from rf)▸eO (yI h S rs rm.handled) k
theorem vJ{m:Str}{vs:List V}{v:V}{H':AH}(h1:kI (d+1) sc env es H vs H₁)(h:EG "str" m (.str x) vs H₁ v H'):jM (d+1) sc env (.str x) m es H v H':=pX F.plainAttrs_str (fun S r=>by obtain⟨_,t,rfl⟩:=r;exact⟨typeIs_str _ _ t,fun a e=>nomatch e⟩) h1 h
theorem PR(h1:kI (d+1) sc env es H vs H₁)(h2:mC x m vs H₁=some (v,H')):jM (d+1) sc env (.str x) m es H v H':=by
 refine ie h2 (fun h=>?_) fun h=>?_
 ·induction vs with
  |cons _ _=>exact nE h|nil=>
   refine j_ h fun hc e=>?_
   obtain q:=aW hc;obtain⟨rfl,rfl⟩:=Prod.mk.inj e;refine eq_of_beq q.1▸vJ h1 ⟨_,F.slot_str_lower,F.type_str_lower,fun A E W s y ys S r rs rm=>?_⟩;obtain⟨_,t,rfl⟩:=r;induction ys with |nil=>exact Bo (eq_of_beq q.2) S|cons _ _=>exact rs.elim
 ·refine k8.inv h fun u e h=>?_
  subst e;refine nh (m:=pg x u) (n:=if m=="count" then Ih x u else M.fail) h (fun hc h=>?_) fun h=>zL h fun hc h=>?_
  ·have q:=aW hc;refine eq_of_beq q.1▸vJ h1 ⟨_,F.slot_str_join,F.type_str_join,fun A E W s y ys S r rs rm=>?_⟩;obtain⟨_,t,rfl⟩:=r;obtain⟨z,rfl,rz⟩:=dg rs;exact Bm h (eq_of_beq q.2) S rz
  ·refine eq_of_beq hc▸vJ h1 ⟨_,F.slot_str_count,F.type_str_count,fun A E W s y ys S r rs rm=>?_⟩;obtain⟨_,t,rfl⟩:=r;obtain⟨z,rfl,rz⟩:=dg rs;exact Eh h S rz
theorem KZ{K0:List V}(hk:H[k]?=some (.lst us))(h1:kI (d+1) sc env es H vs H₁)(gV:H₁[k]?=some (.lst K0))(h2:j5 k m vs (.lst K0) H₁=some (v,H')):jM (d+1) sc env (.ref k) m es H v H':=by
 have bl:∀{m:Str},EG "list" m (.ref k) vs H₁ v H'→jM (d+1) sc env (.ref k) m es H v H':=fun h=>pX F.plainAttrs_list (fun S r=>by obtain⟨a,rfl,ha⟩:=r;obtain⟨_,_,g,_⟩:=S.at hk ha;exact⟨⟨_,g,rfl⟩,fun b e=>by obtain rfl:=PySem.Value.ref.inj e;exact⟨_,g,rfl⟩⟩) h1 h
 refine ie h2 (fun h=>k8.inv h fun u e h=>?_) fun h=>wq.inv h fun i u e h=>?_
 ·subst e;refine nh (m:=Ii k K0 u) (n:=if m=="pop" then Ij k K0 u else M.fail) h (fun hc h=>?_) fun h=>zL h fun hc h=>?_
  ·refine eq_of_beq hc▸bl ⟨_,F.slot_list_append,F.type_list_append,fun A E W s y ys S r rs rm=>?_⟩;obtain⟨l,rfl,ha⟩:=r;obtain⟨z,rfl,rz⟩:=dg rs;exact Ei h S gV ha rz
  ·refine eq_of_beq hc▸bl ⟨_,F.slot_list_pop,F.type_list_pop,fun A E W s y ys S r rs rm=>?_⟩;obtain⟨l,rfl,ha⟩:=r;obtain⟨z,rfl,rz⟩:=dg rs;exact Ej h S gV ha rz
 ·subst e;refine zL (m:=Ik k K0 i u) h fun hc h=>?_
  refine eq_of_beq hc▸bl ⟨_,F.slot_list_insert,F.type_list_insert,fun A E W s y ys S r rs rm=>?_⟩;obtain⟨l,rfl,ha⟩:=r;obtain⟨z,z',rfl,rz,Zl⟩:=Bg rs;exact Ek h S gV ha rz Zl
theorem K1(h1:kI (d+1) sc env es H vs H₁)(h2:rZ us m vs H₁=some (v,H')):jM (d+1) sc env (.lst us) m es H v H':=by
 have bl:∀{m:Str} {v:V} {H':AH},EG "list" m (.lst us) vs H₁ v H'→jM (d+1) sc env (.lst us) m es H v H':=fun h=>pX F.plainAttrs_list (fun S r=>by obtain⟨l,_,_,rfl,z,_⟩:=r;exact⟨⟨_,S.z _ _ z,rfl⟩,fun b e=>by obtain rfl:=PySem.Value.ref.inj e;exact⟨_,S.z _ _ z,rfl⟩⟩) h1 h
 refine k8.inv h2 fun u e h=>?_
 subst e;induction hc:m=="count" with
 |true=>
  rw[hc] at h;refine(gf h).elim fun n z=>z.elim fun hn e=>?_
  cases e;refine eq_of_beq hc▸bl ⟨_,F.slot_list_count,F.type_list_count,fun A E W s y ys S r rs rm=>?_⟩;obtain⟨l,m,ys,rfl,z,hl,ry⟩:=r;obtain⟨q,rfl,rq⟩:=dg rs;exact yx hn S z ry rq
 |false=>
  rw[hc] at h;induction hd:m=="index" with |false=>rw[hd] at h;exact nE h|true=>rw[hd] at h;obtain⟨n,hn,e⟩:=gf h;cases e;refine eq_of_beq hd▸bl ⟨_,F.slot_list_index,F.type_list_index,fun A E W s y ys S r rs rm=>?_⟩;obtain⟨l,m,ys,rfl,z,hl,ry⟩:=r;obtain⟨q,rfl,rq⟩:=dg rs;exact yy hn S z hl ry rq
theorem PS{tb:List (Int×Str)}(h1:kI (d+1) sc env es H vs H₁)(h2:r7 tb "get" vs H₁=some (v,H')):jM (d+1) sc env (.tabI tb) (Str.ofString "get") es H v H':=pX (T:="dict") F.plainAttrs_dict (fun S r=>by obtain⟨rfl,_⟩:=r;obtain⟨es0,m0,g⟩:=S.cj.Ho;exact⟨⟨_,g,rfl⟩,fY g⟩) h1 ⟨_,F.slot_dict_get,F.type_dict_get,fun a a a a a a S r rs rm=>by obtain⟨rfl,rfl⟩:=r;exact Bp h2 S rs⟩
theorem K3(h1:kI (d+1) sc env es H vs H₁)(h2:pn kvs "get" vs H₁=some (v,H')):jM (d+1) sc env (.aF kvs) (Str.ofString "get") es H v H':=pX (T:="dict") F.plainAttrs_dict (fun S r=>by obtain⟨l,_,_,rfl,z,_⟩:=r;exact⟨⟨_,S.z _ _ z,rfl⟩,fY (S.z _ _ z)⟩) h1 ⟨_,F.slot_dict_get,F.type_dict_get,fun a a a a a a S r rs rm=>by obtain⟨l,_,_,rfl,z,h0,nd,hl,rd⟩:=r;exact sW h2 S (S.z _ _ z) h0 nd rd rs⟩
theorem K4(hk:H[k]?=some (.aF KY))(h1:kI (d+1) sc env es H vs H₁)(oG:H₁[k]?=some (.aF kvs))(h2:pn kvs "get" vs H₁=some (v,H')):jM (d+1) sc env (.ref k) (Str.ofString "get") es H v H':=pX (T:="dict") F.plainAttrs_dict (fun S r=>by obtain⟨a,rfl,ha⟩:=r;obtain⟨_,_,g,_⟩:=S.at hk ha;exact⟨⟨_,g,rfl⟩,fY g⟩) h1 ⟨_,F.slot_dict_get,F.type_dict_get,fun b b b b b b S r rs rm=>by obtain⟨a,rfl,ha⟩:=r;obtain⟨_,_,g,h0,nd,hl,rd⟩:=S.at oG ha;exact sW h2 S g h0 nd rd rs⟩
end
section
variable{d:Nat}{sc o6:Scope}{env c7:af}{body:Expr}{args:Arguments}{ps:List Str}{v:V}{H H':AH}{p:Pos}
theorem PU(L8:gK sc=false)(wZ:cL args=some ps)(lM:e_ o6 env=some c7)(hw:(c7.all fun kv=>G.C.wo kv.1)=true)(gr:gn sc o6=true)(hv:(if G.C.mu p then gY (.o_ (.rO ps body o6 c7) []) else pure (.rO ps body o6 c7):M V) H=some (v,H')):bS d sc env (.Lambda args body o6 p) H v H':=by
 intro A E W s e' Q rm S N k;obtain⟨c,P,xn,hm⟩:=N.code L8;obtain⟨cl,xr,jd,_⟩:=nu lM gr N;have rc:=Ew lM gr hw N jd
 obtain⟨WM,_,zP,oP,Zm,gP,tP,cP⟩:=S.tab c P e'.qual hm;obtain⟨mg,mb,g1,g2,g3,g4⟩:=S.cj.glob;obtain⟨WN,Zn⟩:=g4 c P e'.qual hm;obtain⟨as,rfl,_⟩:=iY wZ
 have fin:∀{W₁:Wd} {s₁:Shared} {cv Mb:Value} {tk:Nat},ah W H s aI W₁ H s₁→pD W₁.Z cv (e'.qual++"<lambda>")→
   Q (.ref s₁.heap.objs.size) {s₁ with heap:=s₁.heap.push {cls:=.type "function",data:=.func (kla_fn "<lambda>" (e'.qual++"<lambda>") ⟨[],as,none,[],[],none,[]⟩ body o6 cl ((mg "__name__").getD .none) cv Mb)},toks:=tk}:=by
  intro W₁ s₁ cv Mb tk P₁ Zo;induction WO:G.C.mu p with
  |false=>rw[WO] at hv;cases hv;obtain P₂:=ah.push P₁.sim aI {cls:=.type "function",data:=.func (kla_fn "<lambda>" (e'.qual++"<lambda>") ⟨[],as,none,[],[],none,[]⟩ body o6 cl ((mg "__name__").getD .none) cv Mb)} rfl tk;exact k _ _ _ (P₁.trans S P₂) ⟨_,_,_,rfl,Wd.aU ..,rfl,rfl,wZ,rfl,rfl,rfl,rfl,rfl,rfl,Zo.mono P₂.le.z,rc.mono (P₁.le.trans P₂.le)⟩
  |true=>
   rw[WO] at hv;cases hv
   exact k _ _ _ (P₁.trans S (ah.new P₁.sim aI (.o_ (.rO ps body o6 c7) []) {cls:=.type "function",data:=.func (kla_fn "<lambda>" (e'.qual++"<lambda>") ⟨[],as,none,[],[],none,[]⟩ body o6 cl ((mg "__name__").getD .none) cv Mb)} rfl tk
    ⟨_,_,Heap.get?_push_size _ rfl,rfl,rfl,.inl ⟨rfl,rfl⟩⟩)) ⟨_,rfl,Wd.eJ ..⟩
 show wpAny _ _ (do
   let dv←evalAll [];let Zp←holding dv (evalAllOpt [])
   makeFunction "<lambda>" (e'.qual++"<lambda>") ⟨[],as,none,[],[],none,[]⟩ (.expr body) o6 e' dv Zp [] p p.line) _ _ _
 refine wpAny_bind (wpAny_pure (wpAny_bind (wpAny_holding (wpAny_pure ?_))));induction UZ:codeAmong p Zm.toList with
 |some cv=>exact kla_makeFunctionHit xr N.globals g1 xn WM gP tP UZ WN fun Mb h' tk hk hsz=>fin (s₁:={s with heap:=h'}) (ah.grow S aI hk hsz rfl rfl (fun a a h=>h) (fun a a h=>.inl h) rfl rfl) (cP p cv UZ)|none=>
  refine kla_makeFunction xr N.globals g1 xn WM gP tP UZ Zn WN fun c' Mb h' tk hx xg bL U0 vE=>?_
  obtain⟨c2,oc,vs,t,e1,e2,e3,e4⟩:=U0;obtain rfl:=PySem.Value.ref.inj e1;exact fin (s₁:={s with heap:=h',toks:=s.toks}) (ah.table S aI hm gP hx (Nat.le_trans xg (Nat.le_of_lt bL)) xg e2 e3 e4 vE) ⟨c',oc,vs,t,rfl,Wd.aU ..,e3,e4⟩
end
section
variable{d:Nat}{sc:Scope}{env:af}{ke ve:Expr}{x:Str}{u v:V}{H H₁ H₂ H':AH}{p:Pos}
theorem ER(h1:bS d sc env ke H (.str x) H₁)(h2:bS d sc env ve H₁ u H₂)(hv:(if G.C.mu p then gY (.aF [(x,u)]) else pure (.aF [(x,u)]):M V) H₂=some (v,H')):bS d sc env (.Dict [some ke] [ve] p) H v H':=by
 intro A E W s e' Q rm S N k;obtain P₀:=ah.fT S aI {cls:=.type "dict",data:=.dict #[]};obtain fr:b_ W s.heap.objs.size:=⟨S.cO (Nat.le_refl _),S.ic (Nat.le_refl _),S.fJ (Nat.le_refl _)⟩;obtain g0:({s with heap:=s.heap.push {cls:=.type "dict",data:=.dict #[]}}:Shared).heap.get? s.heap.objs.size=some (cX #[] 0):=Heap.get?_push_size _ rfl;refine wpAny_Dict_pairs (knd:=sk) (pairs:=[(eval ke e',do let x←eval ve e';standAt p;pure x)]) rfl (List.cons_ne_nil _ _) (Nat.succ_le_succ (Nat.zero_le _)) (evalPairs_cons (h1 rm P₀.sim (N.expr P₀) fun z W₁ s₁ P₁ r₁=>wpAny_bind (h2 rm P₁.sim (N.expr (P₀.trans S P₁)) fun y W₂ s₂ P₂ r₂=>wpAny_bind (wpAny_standAt (wpAny_pure (evalPairs_nil ?_))))));obtain⟨hl,t,rfl⟩:=r₁;obtain bU:=P₁.trans P₀.sim P₂;obtain P':=P₀.trans S bU;obtain WQ:b_ W₂ s.heap.objs.size:=fr.post bU (by rw[Heap.size_push];exact Nat.lt_succ_self _) (fun h=>h);obtain g1:s₂.heap.get? s.heap.objs.size=some (cX #[] 0):=bU.keep _ _ g0 fr.2.2 (fun k hk=>nE (fr.1.symm.trans hk)) (fun h=>h);obtain⟨Ry,Zq,Zr⟩:=dM (W:=W₂) (kvs:=[]) g1 .nil trivial;induction Ry with
 |cons _ _=>exact Zr.elim|nil=>
  refine⟨[(x,y)],⟨strKind_is ..,rfl,trivial⟩,Zq,fun h' hd zu=>?_⟩;refine(kc hd (show eE W₂ [(x,u)] _ from⟨rfl,hl,r₂,trivial⟩)).elim fun es Wo=>?_;refine Wo.elim fun m OF=>?_;obtain g2:=OF.1;obtain Zs:=OF.2.1;obtain Zt:=OF.2.2
  obtain P₂:ah W₂ H₂ s₂ (fun b=>b=s.heap.objs.size) W₂ H₂ {s₂ with heap:=h',toks:=s₂.toks+1}:=d7 bU.sim WQ zu;exact(kD (a:=s.heap.objs.size) hv (P'.trans' S P₂ fun b hb=>.inr (hb▸Nat.le_refl _)) WQ (Nat.le_refl _) g2 (S.mods (Nat.le_refl _)) Zs (by show 1<ai;decide) Zt).elim fun W₃ q=>k _ W₃ _ q.1 q.2.2.1
end
section
variable{d:Nat}{g:V}
inductive kN(d:Nat)(g:V):List V→AH→List V→AH→Prop|nil{H:AH}:kN d g [] H [] H|cons{x k:V}{xs ks:List V}{H H₁ H':AH}(h:aD d g [x] H k H₁)(t:kN d g xs H₁ ks H'):kN d g (x::xs) H (k::ks) H'
theorem kN.len{xs ks:List V}{H H':AH}(h:kN d g xs H ks H'):ks.length=xs.length:=by
 induction h with |nil=>rfl|cons _ _ ih=>exact congrArg (·+1) ih
variable{A:Around}{E:Value→Shared→Prop}{W W₀:Wd}{H H₀ H':AH}{s s₀ t:Shared}{l kS:Addr}{e1:Nat}{f':Value}{xs ks kr:List V}{ys:List Value}
theorem kN.run{body:Value→PUnit→Sem (ForInStep PUnit)}(h:kN d g xs H kr H')(rm:bx A d)(S₀:aH W₀ H₀ s₀)
  (hb:∀x (t:Shared) (Q:Shared→Prop),wpAny (model G.prog G.w) A (PySem.call f' [x]) (fun k t'=>∃keys e,t'.heap.get? kS=some (seqObj "list" keys e)∧keys.size<64∧Q {t' with heap:=t'.heap.update kS (Obj.mapSeq (·.push k))}) (fun a a=>False) t→wpAny (model G.prog G.w) A (body x ⟨⟩) (fun r t'=>r=.yield ⟨⟩∧Q t') E t)
  (K:iA W₀ H₀ s₀ l kS e1 ks W H t)(rf:Rel W g f')(rs:aA W xs ys)(hl:ks.length+xs.length<64):
  wpAny (model G.prog G.w) A (forIn ys PUnit.unit body) (fun a t'=>∃W',W.Le W'∧iA W₀ H₀ s₀ l kS e1 (ks++kr) W' H' t') E t:=by
 induction h generalizing W t ks ys with
 |nil=>cases m_ rs;exact wpAny_pure ⟨W,.refl W,by rw[List.append_nil];exact K⟩
 |@cons x k xs ks0 Ha H₁ Hb h _ ih=>
  obtain⟨y,yr,rfl,r1,r2⟩:=yz rs;rw[List.forIn_cons];refine wpAny_bind (wpAny_mono (hb y t (fun t'=>∃W',W.Le W'∧iA W₀ H₀ s₀ l kS e1 (ks++[k]) W' H₁ t') (h.wp rm K.post.sim rf ⟨r1,trivial⟩ fun z W₁ t₁ P₁ rz=>?_)) (fun q t₁ hq=>?_) fun a a e=>e)
  ·refine(K.step S₀ P₁ rz).elim fun keys zx=>?_;refine zx.elim fun e U1=>?_;obtain g1:=U1.1;obtain g2:=U1.2.1;obtain K':=U1.2.2
   exact⟨keys,e,g1,g2▸Nat.lt_of_le_of_lt (Nat.le_add_right ks.length _) hl,W₁,P₁.le,K'⟩
  ·obtain⟨rfl,W₁,q⟩:=hq;refine wpAny_mono (ih q.2 (rf.mono q.1) (r2.mono q.1) (by rw[List.length_append];simp only[List.length_cons,List.length_nil] at hl⊢;exact aE (nat_lit 0x40e1190980881140e1918081101) ae hl)) (fun a t' q'=>?_) fun a a e=>e
   refine q'.elim fun W' PV=>?_;obtain r1:=PV.1;obtain r2:=PV.2
   rw[List.append_assoc] at r2;exact⟨W',q.1.trans r1,r2⟩
end
section
variable{d:Nat}{g v u:V}{A:Around}{E:Value→Shared→Prop}{W W₀:Wd}{H H₀ H₁ H₂ H₃ H₄ H':AH}{s s₀ t:Shared}{l:Addr}{m:Nat}{f':Value}{xs ks out:List V}{vs:List Value}{sc:Scope}{env:af}{x kf:Expr}{q kp p:Pos}
theorem kN.tree{Pq:PySem.Fin→Shared→Prop}(hc:kN d g xs H₀ ks H')(rm:bx A d)(S₀:aH W₀ H₀ s₀)(P₀:ah W₀ H₀ s₀ aI W₀ H₀ s)(ll:s₀.heap.objs.size≤l)(gl:s.heap.get? l=some (seqObj "list" vs.toArray m))(rf:Rel W₀ g f')(rs:aA W₀ xs vs)(zy:xs.length<64)
  (h:b8 ks xs=some (.lst out))(hP:∀W' t,ah W₀ H₀ s₀ aI W' H' t→Rel W' (.lst out) (.ref l)→Pq (.done (.ret .none)) t):wpAny (model G.prog G.w) A (ksk_tree l f' false) Pq E s:=by
 obtain el:=rs.length;obtain ES:vs.length≤sizeLine:=by rw[sizeLine_eq];exact aE (nat_lit 0x10000007f10140e011103102) ae el zy
 obtain hl:l<s.heap.objs.size:=Heap.lt_size gl;obtain⟨e1,DH⟩:∃e1,(s.heap.update l (Obj.mapSeq fun c=>(#[]:Array Value))).get? l=some (seqObj "list" #[] e1):=⟨_,get?_update_seq gl fun c=>#[]⟩;refine wpAny_bind (listItems_at gl rfl (wpAny_bind (listUpdate_at gl rfl ?_ ES (Nat.zero_le _))));refine wpAny_bind (seqEpoch_at DH rfl (wpAny_bind (wpAny_newTuple (wpAny_bind (wpAny_newList (wpAny_holding ?_) (Nat.zero_le _))) ES)));obtain U3:((s.heap.update l (Obj.mapSeq fun c=>(#[]:Array Value))).push (seqObj "tuple" vs.toArray 0)).objs.size=s.heap.objs.size+1:=by rw[size_push',Heap.size_update]
 obtain fl:b_ W₀ l:=⟨S₀.cO ll,S₀.ic ll,S₀.fJ ll⟩;obtain lk:s₀.heap.objs.size≤((s.heap.update l (Obj.mapSeq fun c=>(#[]:Array Value))).push (seqObj "tuple" vs.toArray 0)).objs.size:=U3▸Nat.le_succ_of_le P₀.size;obtain P₁:ah W₀ H₀ s (fun a=>a=l) W₀ H₀ {s with heap:=((s.heap.update l (Obj.mapSeq fun c=>(#[]:Array Value))).push (seqObj "tuple" vs.toArray 0)).push (seqObj "list" #[] 0)}:=ah.free P₀.sim (fun a ha=>ha▸fl) (fun b o hb ho=>Heap.get?_push_of_some _ (Heap.get?_push_of_some _ ((Heap.get?_update_other _ _ (Ne.symm hb)).trans ho))) (by rw[size_push',U3];exact Nat.le_add_right _ 2) rfl rfl;obtain K:iA W₀ H₀ s₀ l ((s.heap.update l (Obj.mapSeq fun c=>(#[]:Array Value))).push (seqObj "tuple" vs.toArray 0)).objs.size e1 [] W₀ H₀ {s with heap:=((s.heap.update l (Obj.mapSeq fun c=>(#[]:Array Value))).push (seqObj "tuple" vs.toArray 0)).push (seqObj "list" #[] 0)}:=⟨(P₀.up.trans S₀ P₁).drop fun a ha=>.inr (ha▸ll),Heap.get?_push_of_some _ (Heap.get?_push_of_some _ DH),⟨#[],0,Heap.get?_push_size _ rfl,trivial⟩,fl,⟨S₀.cO lk,S₀.ic lk,S₀.fJ lk⟩,ll,lk,U3▸Nat.ne_of_lt (Nat.lt_succ_of_lt hl)⟩;refine wpAny_bind (wpAny_rule ?_);rw[List.forIn_toArray];refine wpAny_bind (wpAny_mono (hc.run rm S₀ (fun x t Q hx=>?_) K rf rs (by simp only[List.length_nil,Nat.zero_add];exact zy)) (fun c t q=>q.elim fun W₁ q=>Ex q.2 S₀ hc.len (rs.mono q.1) zy h hP) fun c c x=>x);refine wpAny_bind (wpAny_attempt (wpAny_mono hx (fun k t' q=>q.elim fun keys q=>q.elim fun e q=>?_) fun c c hF=>hF.elim));obtain PY:keys.size+1≤sizeLine:=by rw[sizeLine_eq];exact aV (nat_lit 0x10000007f19080140e01101) ae q.2.1
 exact wpAny_bind (listUpdate_at q.1 rfl (wpAny_pure ⟨rfl,q.2.2⟩) (Nat.le_trans (Nat.le_succ _) PY) (Nat.le_trans (Nat.le_of_eq (Array.size_push ..)) (Nat.le_succ_of_le PY)))
theorem kN.call{a:Addr}{z:Value}{Q:Value→Shared→Prop}(hc:kN d g xs H ks H')(h1:iL v H=some (xs,H₁))(h:b8 ks xs=some (.lst out))(rm:bx A (d+1))(S:aH W H s)(rz:Rel W v z)(rg:Rel W g (.ref a))(k:∀x W' s',ah W H s aI W' H' s'→Rel W' (.lst out) x→Q x s'):
  wpAny (model G.prog G.w) A (PySem.call (.builtin "sorted") [z] [(Str.ofString "key",.ref a)]) Q E s:=by
 refine(fy h).elim fun OZ z2=>?_;obtain eo:=z2.1;obtain q1:=z2.2.1;obtain q2:=z2.2.2
 have hl:xs.length<64:=if hs:xs.length<2 then Nat.lt_trans hs (by simp_all) else(q2 hs).1
 refine call_function_entry_kw kind_sorted plain_sorted entry_sorted (ksk_s1 _ _) ?_;refine wpAny_bind (m:=checkCount "sorted" 1 1 _) (wpAny_pure (wpAny_bind (bG (nC h1 S rz (by exact rm.handled) hl fun h' tk vs hk rs xg=>?_))));have ES:vs.length≤sizeLine:=by simp only[sizeLine_eq,←rs.length];exact aV (nat_lit 0x10000007f00140e01101) ae hl
 refine wpAny_bind (wpAny_newList (wpAny_bind (wpAny_holding (wpAny_call_entry_kw slot_list_sort ⟨_,Heap.get?_push_size _ rfl,rfl⟩ entry_list_sort ?_ (ksk_l1 _ _)))) ES);obtain P₀:ah W H s aI W H {s with heap:=h'.push (seqObj "list" vs.toArray 0),toks:=tk}:=ah.grow S aI (fun b o e=>Heap.get?_push_of_some _ (hk b o e)) (by rw[size_push'];exact Nat.le_succ_of_le xg) rfl rfl (fun c c h=>h) (fun c c h=>.inl h) rfl rfl;exact hc.tree rm.YI S P₀ xg (Heap.get?_push_size _ rfl) rg rs hl h fun W' t P r=>⟨_,rfl,wpAny_pure ⟨_,rfl,k _ W' _ P r⟩⟩
theorem ET{f:Str}(L3:isStarred x=false)(h1:bS d sc env (.Name f q) H (.blt "sorted") H₁)(h2:bS d sc env x H₁ u H₂)(h3:bS d sc env kf H₂ g H₃)(hg:zK g=true)(h4:iL u H₃=some (xs,H₄))(h5:kN d g xs H₃ ks H')(h6:b8 ks xs=some (.lst out)):
  bS (d+1) sc env (.Call (.Name f q) [x] [⟨some (Str.ofString "key"),kf,kp⟩] p) H (.lst out) H':=by
 intro A E W s e' Q rm S N k;have EN:=rm.le (Nat.le_succ d)
 refine wpAny_Call_Name_kw (h1 EN S N fun f' W₁ s₁ P₁ r₁=>?_);have hf:f'=.builtin "sorted":=r₁
 subst hf;obtain w7:=dR (es:=[]) (e':=e') L3;obtain Zu:kI d sc env [x] H₁ [u] H₂:=.cons L3 h2 .nil;refine callWith_kw ?_ (by rw[w7];rfl) (by rw[w7];rfl);refine Zu.run EN P₁.sim (N.expr P₁) fun zs W₂ s₂ P₂ r₂=>?_
 obtain⟨z,rfl,rz⟩:=dg r₂;have bU:=P₁.trans S P₂
 refine kws_cons (h3 EN P₂.sim (N.expr bU) fun y W₃ s₃ P₃ r₃=>kws_nil ?_);obtain⟨a,rfl⟩:∃a,y=.ref a:=by induction g using V.casesOn<;>first|(obtain⟨a,_,_,rfl,_⟩:=r₃;exact⟨a,rfl⟩)|exact bE hg
 exact h5.call h4 h6 rm P₃.sim (rz.mono P₃.le) r₃ fun b b b P r=>k _ _ _ ((bU.trans S P₃).trans S P) r
end
inductive vK where
|obj(o:az)|call(v:V)(H:AH)|ev(v:V)(H:AH)|ex(fl:Fl)(env:af)(H:AH)|cmp(env:af)(ac:Acc)(H:AH)|ks(l:List Str)|no(i:Nat)(b:Bool)|val(i:Nat)(v:V)|upd(i:Nat)(v:V)(H:AH)
structure Cr(α:Type)(J:α→Prop) where
 a:α
 i:Nat
 O:List vK
 c:Prop→Prop
 pf:∀{P:Prop},c P→J a∧P
abbrev CM(α:Type)(J:α→Prop):=Nat→List vK→Option (Cr α J)
section
variable{α β:Type}{J:α→Prop}{L:β→Prop}
noncomputable def CM.ret(a:α)(h:J a):CM α J:=fun i O=>some ⟨a,i,O,fun P=>P,fun k=>⟨h,k⟩⟩
noncomputable def CM.nil:CM α J:=fun a a=>none
noncomputable def CM.aL(m:CM α J)(k:∀a,CM β (fun b=>J a→L b)):CM β L:=fun i O=>match m i O with |none=>none|some r=>match k r.a r.i r.O with |none=>none|some s=>some ⟨s.a,s.i,s.O,fun P=>r.c (s.c P),fun h=>(r.pf h).elim fun h1 h=>(s.pf h).imp (fun h2=>h2 h1) id⟩
noncomputable def CM.map(m:CM α J)(f:α→β)(h:∀a,J a→L (f a)):CM β L:=fun i O=>match m i O with |none=>none|some r=>some ⟨f r.a,r.i,r.O,r.c,fun q=>(r.pf q).imp (h _) id⟩
noncomputable def cS(b:Bool):CM Unit (fun a=>b=true):=fun i O=>match b with |true=>some ⟨(),i,O,fun P=>P,fun h=>⟨rfl,h⟩⟩|false=>none
noncomputable def U4(i:Nat):List vK→Option (Bool×List vK)|.no j b::O=>bif Nat.beq j i then some (b,O) else none|_=>none
noncomputable def PZ(i:Nat):List vK→Option (V×List vK)|.val j b::O=>bif Nat.beq j i then some (b,O) else none|_=>none
noncomputable def HQ(i:Nat):List vK→Option (V×AH×List vK)|.upd j b H::O=>bif Nat.beq j i then some (b,H,O) else none|_=>none
noncomputable def ask(b:Bool):CM Bool (fun x=>b=x):=fun i O=>match U4 i O with |some (x,O)=>some ⟨x,i+1,O,fun P=>b=x∧P,fun h=>h⟩|none=>match b with |true=>some ⟨true,i+1,O,fun P=>P,fun h=>⟨rfl,h⟩⟩|false=>some ⟨false,i+1,O,fun P=>P,fun h=>⟨rfl,h⟩⟩
noncomputable def nK(o:Option V):CM V (fun v=>o=some v):=fun i O=>match PZ i O with |some (x,O)=>some ⟨x,i+1,O,fun P=>o=some x∧P,fun h=>h⟩|none=>match o with |some x=>some ⟨x,i+1,O,fun P=>P,fun h=>⟨rfl,h⟩⟩|none=>none
noncomputable def o7(m:M V)(H:AH):CM (V×AH) (fun r=>m H=some r):=fun i O=>match HQ i O with |some (x,H',O)=>some ⟨(x,H'),i+1,O,fun P=>m H=some (x,H')∧P,fun h=>h⟩|none=>match m H with |some x=>some ⟨x,i+1,O,fun P=>P,fun h=>⟨rfl,h⟩⟩|none=>none
noncomputable def U5(m:M Unit)(H:AH):CM AH (fun H'=>m H=some ((),H')):=fun i O=>match HQ i O with |some (aK,H',O)=>some ⟨H',i+1,O,fun P=>m H=some ((),H')∧P,fun h=>h⟩|none=>match m H with |some x=>some ⟨x.2,i+1,O,fun P=>P,fun h=>⟨rfl,h⟩⟩|none=>none
noncomputable def CM.obj(H:AH)(k:Nat):CM az (fun o=>H[k]?=some o):=fun i O=>match O with |.obj o::O=>some ⟨o,i,O,fun P=>H[k]?=some o∧P,fun h=>h⟩|_=>none
noncomputable def CM.call(Z:V→AH→Prop):CM (V×AH) (fun r=>Z r.1 r.2):=fun i O=>match O with |.call v H::O=>some ⟨(v,H),i,O,fun P=>Z v H∧P,fun h=>h⟩|_=>none
noncomputable def CM.ev(Z:V→AH→Prop):CM (V×AH) (fun r=>Z r.1 r.2):=fun i O=>match O with |.ev v H::O=>some ⟨(v,H),i,O,fun P=>Z v H∧P,fun h=>h⟩|_=>none
noncomputable def CM.ex(Z:Fl→af→AH→Prop):CM (Fl×af×AH) (fun r=>Z r.1 r.2.1 r.2.2):=fun i O=>match O with |.ex f e H::O=>some ⟨(f,e,H),i,O,fun P=>Z f e H∧P,fun h=>h⟩|_=>none
noncomputable def CM.cmp(Z:af→Acc→AH→Prop):CM (af×Acc×AH) (fun r=>Z r.1 r.2.1 r.2.2):=fun i O=>match O with |.cmp e a H::O=>some ⟨(e,a,H),i,O,fun P=>Z e a H∧P,fun h=>h⟩|_=>none
noncomputable def CM.ks:CM (Option (List Str)) (fun a=>True):=fun i O=>match O with |.ks l::O=>some ⟨some l,i,O,fun P=>P,fun h=>⟨trivial,h⟩⟩|O=>some ⟨none,i,O,fun P=>P,fun h=>⟨trivial,h⟩⟩
theorem CM.ok{m:CM α J}{O:List vK}{c:Prop}{a:α}(F:c)(h:(m 0 O).map (fun r=>(r.a,r.c True))=some (a,c)):J a:=by
 induction e:m 0 O with
 |none=>obtain h:=e▸h;exact nE h
 |some r=>rw[e] at h;obtain⟨rfl,rfl⟩:=Prod.mk.inj (Option.some.inj h);exact(r.pf F).1
structure Fz(O:List vK)(c:Prop):Prop where
 h:c
theorem Fz.nil:Fz [] True:=⟨trivial⟩
section
variable{O:List vK}{c:Prop}{H H':AH}{v:V}
theorem Fz.obj{k:Nat}{o:az}(h:H[k]?=some o)(r:Fz O c):Fz (.obj o::O) (H[k]?=some o∧c):=⟨h,r.h⟩
theorem Fz.no(i:Nat){b x:Bool}(h:b=x)(r:Fz O c):Fz (.no i x::O) (b=x∧c):=⟨h,r.h⟩
theorem Fz.val(i:Nat){o:Option V}(h:o=some v)(r:Fz O c):Fz (.val i v::O) (o=some v∧c):=⟨h,r.h⟩
theorem Fz.upd(i:Nat){m:M V}(h:m H=some (v,H'))(r:Fz O c):Fz (.upd i v H'::O) (m H=some (v,H')∧c):=⟨h,r.h⟩
theorem Fz.vL(i:Nat){m:M Unit}(h:m H=some ((),H'))(r:Fz O c):Fz (.upd i .none H'::O) (m H=some ((),H')∧c):=⟨h,r.h⟩
theorem Fz.ks(l:List Str)(r:Fz O c):Fz (.ks l::O) c:=⟨r.h⟩
theorem Fz.call{d:Nat}{f:V}{vs:List V}(h:aD d f vs H v H')(r:Fz O c):Fz (.call v H'::O) (aD d f vs H v H'∧c):=⟨h,r.h⟩
theorem Fz.ev{d:Nat}{sc:Scope}{env:af}{e:Expr}(h:bS d sc env e H v H')(r:Fz O c):Fz (.ev v H'::O) (bS d sc env e H v H'∧c):=⟨h,r.h⟩
theorem Fz.loop{d:Nat}{sc:Scope}{env aj:af}{t:Expr}{b:List Stmt}{xs:List V}{fl:Fl}(h:bZ d sc t b xs env H fl aj H')(r:Fz O c):Fz (.ex fl aj H'::O) (bZ d sc t b xs env H fl aj H'∧c):=⟨h,r.h⟩
theorem Fz.lI{d:Nat}{sc:Scope}{env aj:af}{t:Expr}{b:List Stmt}{k m:Nat}{fl:Fl}(h:iX d sc t b k m env H fl aj H')(r:Fz O c):Fz (.ex fl aj H'::O) ((∃m,iX d sc t b k m env H fl aj H')∧c):=⟨⟨m,h⟩,r.h⟩
theorem Fz.cmp{d:Nat}{au:Scope}{env aj:af}{g:Comprehension}{T:jm}{xs:List V}{ac fN:Acc}(h:aG d au g T xs env ac H aj fN H')(r:Fz O c):Fz (.cmp aj fN H'::O) (aG d au g T xs env ac H aj fN H'∧c):=⟨h,r.h⟩
end
end
section
variable(d:Nat)
abbrev CE(sc:Scope)(env:af)(e:Expr)(H:AH):=CM (V×AH) fun r=>bS (d+1) sc env e H r.1 r.2
abbrev CT(sc:Scope)(env:af)(e:Expr)(H:AH):=CM (Bool×AH) fun r=>oF (d+1) sc env e H r.1 r.2
abbrev CA(sc:Scope)(env:af)(t:Expr)(v:V)(H:AH):=CM (af×AH) fun r=>oW (d+1) sc env t v H r.1 r.2
abbrev CS(sc:Scope)(env:af)(st:Stmt)(H:AH):=CM (Fl×af×AH) fun r=>gU (d+1) sc env st H r.1 r.2.1 r.2.2
abbrev Zv(sc:Scope)(env:af)(b:List Stmt)(H:AH):=CM (Fl×af×AH) fun r=>oX (d+1) sc env b H r.1 r.2.1 r.2.2
abbrev CL(sc:Scope)(env:af)(es:List Expr)(H:AH):=CM (List V×AH) fun r=>kI (d+1) sc env es H r.1 r.2
structure RL where
 e:∀sc env e H,CE d sc env e H
 t:∀sc env e H,CT d sc env e H
 a:∀sc env t v H,CA d sc env t v H
 x:∀sc env s H,CS d sc env s H
variable{d}
theorem bF{b:Bool}(h:(!b)=true):b=false:=Bool.not_eq_true' _|>.mp h
noncomputable def gO(R:RL d)(sc:Scope)(env:af):∀(es:List Expr) (H:AH),CL d sc env es H|[],H=>.ret ([],H) .nil|e::es,H=>.aL (cS (!isStarred e)) fun c=>.aL (R.e sc env e H) fun a=>.map (gO R sc env es a.2) (fun b=>(a.1::b.1,b.2)) fun b h3 h2 h1=>.cons (bF h1) h2 h3
noncomputable def nL(R:RL d)(sc:Scope):∀(b:List Stmt) (env:af) (H:AH),Zv d sc env b H|[],env,H=>.ret (.next,env,H) Pk|s::b,env,H=>.aL (R.x sc env s H) fun r=>match r with |(.next,env,H)=>.map (nL R sc b env H) (fun q=>q) fun q h2 h1=>bu h1 h2|(.cont,env,H)=>.ret (.cont,env,H) fun h1=>Ku h1|(.ret v,env,H)=>.ret (.ret v,env,H) fun h1=>BQ h1
noncomputable def tD(R:RL d)(sc:Scope):∀(ts:List Expr) (vs:List V) (env:af) (H:AH),CM (af×AH) fun r=>BV (d+1) sc env ts vs H r.1 r.2|[],[],env,H=>.ret (env,H) .nil|t::ts,v::vs,env,H=>.aL (cS (!isStarred t)) fun b=>.aL (R.a sc env t v H) fun r=>.map (tD R sc ts vs r.1 r.2) (fun q=>q) fun q h3 h2 h1=>.cons (bF h1) h2 h3|aK,bA,gI,ux=>.nil
noncomputable def HS(b:Bool)(f:V)(o:az)(H:AH):V×AH:=match b with |true=>(.ref H.length,H++[o])|false=>(f,H)
theorem nM(b:Bool)(f:V)(o:az)(H:AH):(if b=true then gY o else pure f:M V) H=some ((HS b f o H).1,(HS b f o H).2):=by induction b<;>rfl
noncomputable def live:az→Bool|.gone=>false|_=>true
theorem dU{H:AH}{k:Nat}{o:az}{α:Type}{f:az→M α}{r:Option (α×AH)}(h:H[k]?=some o)(hn:live o=true)(hf:f o H=r):M.aL (hget k) f H=r:=by unfold M.aL hget;refine h▸?_;induction o<;>first|exact hf|exact bE hn
def rObj{f:az→M V}(H:AH)(k:Nat):CM (V×AH) fun r=>M.aL (hget k) f H=some (r.1,r.2):=.aL (CM.obj H k) fun o=>.aL (cS (live o)) fun a=>.map (o7 (f o) H) (fun r=>r) fun r h3 h2 h1=>dU h1 h2 h3
def Cb{f:az→M Unit}(H:AH)(k:Nat):CM AH fun H'=>M.aL (hget k) f H=some ((),H'):=.aL (CM.obj H k) fun o=>.aL (cS (live o)) fun a=>.map (U5 (f o) H) (fun r=>r) fun r h3 h2 h1=>dU h1 h2 h3
def U6(C:Cx)(k:Nat)(a:Str):az→M V
|.inst c fs=>match fs.lookup a with
  |some v=>if pe C c a&&qB v then pure v else M.fail
  |none=>match (C.gh.lookup c).bind fun d=>d.meths.lookup a with |some f=>pure (.bm k f)|none=>M.fail
|_=>M.fail
def Cc(C:Cx)(k:Nat)(a:Str)(v:V):az→M Unit
|.inst c fs=>if pe C c a&&sizeOk (fs.length+1) then fQ k (.inst c (aP fs a v)) else M.fail
|.o_ c fs=>match v with
  |.rO ..=>if a=="read"&&fs.isEmpty then fQ k (.o_ c [(a,v)]) else M.fail
  |_=>M.fail
|_=>M.fail
def P0(C:Cx)(o:V)(x:Str)(H:AH):CM (V×AH) fun r=>getAttrA C o x H=some (r.1,r.2):=match o with |.ref k=>rObj (f:=U6 C k x) H k|_=>.nil
def P4(C:Cx)(o:V)(x:Str)(v:V)(H:AH):CM AH fun H'=>setAttrA C o x v H=some ((),H'):=match o with |.ref k=>Cb (f:=Cc C k x v) H k|_=>.nil
def HT(o i v:V)(H:AH):CM AH fun H'=>jz o i v H=some ((),H'):=match o,i with |.ref k,.int j=>Cb (f:=wA k j v) H k|.ref k,.str x=>Cb (f:=mz k x v) H k|aK,bA=>.nil
def P5(v:V)(H:AH):CM Bool fun b=>Rf v H=some (b,H):=match v with
|.none=>.ret false rfl|.bool b=>.ret b rfl|.int i=>.ret (i !=0) rfl|.str s=>.ret (s.length !=0) rfl|.lst xs=>.ret (xs.length !=0) rfl|.ref k=>.aL (CM.obj H k) fun o=>match o with |.lst xs=>.ret (xs.length !=0) fun h=>dU (o:=.lst xs) h rfl rfl|_=>.nil
|_=>.nil
def lD(o:Option az)(i:V):Option V:=match o with |some (.lst xs)=>rV (.lst xs) i|some (.aF kvs)=>rV (.aF kvs) i|_=>none
theorem item_at{H:AH}{k:Nat}{o:az}{i c:V}(h:H[k]?=some o)(hr:lD (some o) i=some c):item H (.ref k) i=some c:=by show rV (match H[k]? with |some (.lst xs)=>.lst xs|some (.aF kvs)=>.aF kvs|_=>.ref k) i=some c;rw[h];induction o<;>first|exact hr|exact nE hr
def HU(a i:V)(H:AH):CM V fun v=>item H a i=some v:=match a with |.ref k=>.aL (CM.obj H k) fun o=>.map (nK (lD (some o) i)) (fun r=>r) fun r h2 h1=>item_at h1 h2|a=>nK _
end
section
variable{d:Nat}
def K5{sc:Scope}{env:af}{H:AH}{q:Nat}{p:Pos}:∀c:Const,CE d sc env (.Constant c q p) H|.none=>.ret (.none,H) Kr|.bool b=>.ret (.bool b,H) Kq|.int i=>.ret (.int i,H) Pb|.str s=>.map (cS (Nat.blt s.length ai)) (fun a=>(.str s,H)) fun a h=>Pc (Nat.le_of_ble_eq_true h)|_=>.nil
theorem Cd{n m:Nat}(h:Nat.blt n m=true):n<m:=Nat.le_of_ble_eq_true h
def P6(f:V)(vs:List V)(H:AH)(p:Pos):CM (V×AH) fun r=>callable f=true∧(∀c,f=.cls c→(G.C.gh.lookup c).isSome=true)∧pW (d+1) f vs H r.1 r.2:=match f with
|.blt i=>match decEq i "sorted" with |.isTrue e=>.map (o7 (lR vs) H) (fun r=>r) fun r h=>⟨rfl,(fun g e=>nomatch e),e▸Ca h⟩|.isFalse _=>.map (o7 (g_ i vs) H) (fun r=>r) fun r h=>⟨rfl,(fun g e=>nomatch e),PN h⟩
|.typ i=>.map (o7 (gj (G.C.mu p) i vs) H) (fun r=>r) fun r h=>⟨rfl,(fun g e=>nomatch e),PO h⟩|.cls c=>.aL (cS (G.C.gh.lookup c).isSome) fun g=>.map (.call (aD (d+1) (.cls c) vs H)) (fun r=>r) fun r h h0=>⟨rfl,fun g e=>V.cls.inj e▸h0,h.wp⟩|.fn k=>.map (.call (aD (d+1) (.fn k) vs H)) (fun r=>r) fun r h=>⟨rfl,(fun g e=>nomatch e),h.wp⟩|.bm k j=>.map (.call (aD (d+1) (.bm k j) vs H)) (fun r=>r) fun r h=>⟨rfl,(fun g e=>nomatch e),h.wp⟩|.rO a b c e=>.map (.call (aD (d+1) (.rO a b c e) vs H)) (fun r=>r) fun r h=>⟨rfl,(fun g e=>nomatch e),h.wp⟩|_=>.nil
def eqStr(x y:Str):CM Unit fun a=>x=y:=.map (cS (x==y)) (fun a=>()) fun a h=>eq_of_beq h
def P7(R:RL d)(sc:Scope)(env:af)(ov:V)(m:Str)(es:List Expr)(H:AH):CM (V×AH) fun r=>jM (d+1) sc env ov m es H r.1 r.2:=match ov with
|.ref k=>.aL (CM.obj H k) fun o=>match o with
 |.inst c fs=>match h1:fs.lookup m,h2:G.C.gh.lookup c with
  |none,some cd=>match h3:cd.meths.lookup m with |some f=>.aL (gO R sc env es H) fun vs=>.map (.call (aD (d+1) (.fn f) (.ref k::vs.1) vs.2)) (fun r=>r) fun r h hl hk=>Kx hk h1 h2 h3 hl h|none=>.nil
  |aK,bA=>.nil
 |.o_ cl fs=>match h1:fs.lookup (Str.ofString "read") with |some g=>.aL (eqStr m (Str.ofString "read")) fun a=>.aL (cS (zK g)) fun a=>.aL (gO R sc env es H) fun vs=>.map (.call (aD (d+1) g vs.1 vs.2)) (fun r=>r) fun r h hl hg hm hk=>hm▸Px hk h1 hg hl h|none=>.nil
 |.lst us=>.aL (gO R sc env es H) fun vs=>.aL (CM.obj vs.2 k) fun o=>(match o with |.lst K0=>.map (o7 (j5 k m vs.1 (.lst K0)) vs.2) (fun r=>r) fun r h oG hl hk=>KZ hk hl oG h|_=>.nil)|.aF kvs=>.aL (eqStr m (Str.ofString "get")) fun a=>.aL (gO R sc env es H) fun vs=>.aL (CM.obj vs.2 k) fun o=>match o with |.aF KY=>.map (o7 (pn KY "get" vs.1) vs.2) (fun r=>r) fun r h oG hl hm hk=>hm▸K4 hk hl oG h|_=>.nil
 |_=>.nil
|.str x=>.aL (gO R sc env es H) fun vs=>.map (o7 (mC x m vs.1) vs.2) (fun r=>r) fun r h hl=>PR hl h|.lst us=>.aL (gO R sc env es H) fun vs=>.map (o7 (rZ us m vs.1) vs.2) (fun r=>r) fun r h hl=>K1 hl h|.tabI tb=>.aL (eqStr m (Str.ofString "get")) fun a=>.aL (gO R sc env es H) fun vs=>.map (o7 (r7 tb "get" vs.1) vs.2) (fun r=>r) fun r h hl hm=>hm▸PS hl h|.aF kvs=>.aL (eqStr m (Str.ofString "get")) fun a=>.aL (gO R sc env es H) fun vs=>.map (o7 (pn kvs "get" vs.1) vs.2) (fun r=>r) fun r h hl hm=>hm▸K3 hl h|_=>.nil
noncomputable def HV(R:RL d)(sc:Scope)(env:af)(op:BoolOp):∀(es:List Expr) (H:AH),CM (V×AH) fun r=>KL (d+1) sc env op es H r.1 r.2
|[e],H=>.map (R.e sc env e H) (fun r=>r) fun r h=>Py h|e::e2::es,H=>.aL (R.e sc env e H) fun a=>.aL (P5 a.1 a.2) fun u=>.aL (ask u) fun w=>match h:HJ op w with |true=>.ret a fun h3 h2 h1=>HK h1 h2 (by rw[h3,h];exact⟨rfl,rfl⟩)|false=>.map (HV R sc env op (e2::es) a.2) (fun r=>r) fun r h4 h3 h2 h1=>HK h1 h2 (by simp only[h3,h];exact h4)
|aK,bA=>.nil
noncomputable def vM(R:RL d)(sc:Scope)(env:af):∀(op:BoolOp) (es:List Expr) (H:AH),CM (Bool×AH) fun r=>oZ (d+1) sc env op es H r.1 r.2
|.And,[],H=>.ret (true,H) KN|.Or,[],H=>.ret (false,H) Pz|.And,e::es,H=>.aL (R.t sc env e H) fun a=>.aL (ask a.1) fun w=>match w with |false=>.ret (false,a.2) fun h2 h1=>KO (h2▸h1)|true=>.map (vM R sc env .And es a.2) (fun r=>r) fun r h3 h2 h1=>KP (h2▸h1) h3
|.Or,e::es,H=>.aL (R.t sc env e H) fun a=>.aL (ask a.1) fun w=>match w with |true=>.ret (true,a.2) fun h2 h1=>PA (h2▸h1)|false=>.map (vM R sc env .Or es a.2) (fun r=>r) fun r h3 h2 h1=>PB (h2▸h1) h3
def HW(R:RL d)(sc:Scope)(env:af):∀(e:Option Expr) (H:AH),CM (Option Int×AH) fun r=>PD (d+1) sc env e H r.1 r.2|none,H=>.ret (none,H) KR|some e,H=>.aL (R.e sc env e H) fun a=>match a with |(.int j,H)=>.ret (some j,H) fun h=>KS h|_=>.nil
def P8{α:Type}(o:Option α):CM α fun r=>o=some r:=match o with |some r=>.ret r rfl|none=>.nil
def Ce(v:V)(H:AH):CM ((List V×Option (Nat×az))×AH) fun r=>srcOf v H=some r:=match v with
|.ref k=>.aL (CM.obj H k) fun o=>match o with |.lst xs=>.ret ((xs,some (k,.lst xs)),H.set k .gone) fun h=>dU (o:=.lst xs) h rfl rfl|.aF kvs=>.ret ((kvs.map fun kv=>.str kv.1,some (k,.aF kvs)),H.set k .gone) fun h=>dU (o:=.aF kvs) h rfl rfl|_=>.nil
|v=>P8 (srcOf v H)
def HX(v:V)(H:AH):CM ((List (Str×V)×Option (Nat×az))×AH) fun r=>DQ v H=some r:=match v with
|.aF kvs=>.ret ((kvs,none),H) rfl|.ref k=>.aL (CM.obj H k) fun o=>match o with |.aF kvs=>.ret ((kvs,some (k,.aF kvs)),H.set k .gone) fun h=>dU (o:=.aF kvs) h rfl rfl|_=>.nil
|_=>.nil
structure U7(d:Nat)(sc:Scope)(env:af)(t e:Expr)(H:AH)(r:(List V×Option (Nat×az))×AH):Prop where
 src:tu d sc env t e H r.1.1 r.1.2 r.2
 fold:∀e' x,foldedSetIterable e e' x=pure x
abbrev P9(d:Nat)(sc:Scope)(env:af)(t e:Expr)(H:AH):=CM ((List V×Option (Nat×az))×AH) fun r=>U7 (d+1) sc env t e H r
def kO(R:RL d)(sc:Scope)(env:af)(t e:Expr)(H:AH)(he:∀e' x,foldedSetIterable e e' x=pure x):P9 d sc env t e H:=.aL (R.e sc env e H) fun a=>.map (Ce a.1 a.2) (fun r=>r) fun r h2 h1=>⟨lY h1 h2,he⟩
def K6(R:RL d)(sc:Scope)(env:af)(t e:Expr)(H:AH):P9 d sc env t e H:=match e with
|.Call f es ks p=>match f,es,ks with
 |.Name f q,[x],[]=>match decEq f "enumerate" with
  |.isTrue hf=>match t with
   |.Tuple ts tk tp=>.aL (R.e sc env (.Name f q) H) fun a=>match a with |(.typ i,H₁)=>.aL (cS (i=="enumerate")) fun c=>.aL (cS (!isStarred x)) fun c=>.aL (R.e sc env x H₁) fun b=>.aL (Ce b.1 b.2) fun r=>.map (cS (enumSrc b.1 r.1.2)) (fun c=>((bw 0 r.1.1,r.1.2),r.2)) fun c h5 h4 h3 h2 h1 h0=>⟨by subst hf;cases eq_of_beq h1;exact KV h0 (.cons (bF h2) h3 .nil) h4 h5,fun c c=>rfl⟩|_=>.nil
   |_=>.nil
  |.isFalse _=>kO R sc env t _ H fun c c=>rfl
 |.Attribute o m ap,[],[]=>match decEq m "items" with
  |.isTrue hm=>match t with |.Tuple ts tk tp=>.aL (cS (!dN o)) fun c=>.aL (cS (ap.endLine==p.line)) fun c=>.aL (R.e sc env o H) fun a=>.map (HX a.1 a.2) (fun r=>((r.1.1.map fun kv=>.tup [.str kv.1,kv.2],r.1.2),r.2)) fun r h4 h3 h2 h1=>⟨by subst hm;exact EM (bF h1) h2 h3 h4,fun c c=>rfl⟩|_=>.nil
  |.isFalse _=>match decEq m "values" with |.isTrue hm=>.aL (cS (!dN o)) fun c=>.aL (cS (ap.endLine==p.line)) fun c=>.aL (R.e sc env o H) fun a=>.map (HX a.1 a.2) (fun r=>((r.1.1.map (·.2),r.1.2),r.2)) fun r h4 h3 h2 h1=>⟨by subst hm;exact B3 (bF h1) h2 h3 h4,fun c c=>rfl⟩|.isFalse _=>kO R sc env t _ H fun c c=>rfl
 |aK,bA,gI=>kO R sc env t _ H fun c c=>rfl
|.Name x q=>kO R sc env t _ H fun c c=>rfl|.Attribute x q p=>kO R sc env t _ H fun c c=>rfl|.Subscript x q p=>kO R sc env t _ H fun c c=>rfl|_=>.nil
noncomputable def tF(o:Option (Nat×az))(H:AH):AH:=match o with |none=>H|some (k,o)=>H.set k o
theorem jN(o:Option (Nat×az))(H:AH):iJ o H=some ((),tF o H):=by induction o<;>rfl
def EU(R:RL d)(sc:Scope)(env:af)(au:Scope)(out:Out)(gens:List Comprehension)(H:AH):CM (Acc×AH) fun r=>o5 (d+1) sc env au out gens H r.1 r.2:=match gens with |[]=>.nil|g::gs=>.aL (cS (!gK sc&&(gn sc au&&g.is_async==0))) fun a=>.aL (K6 R sc env g.target g.iter H) fun r=>match hc:e_ au env with |some c7=>.map (.cmp (fun aj ac H'=>aG (d+1) au g (eu (d+1) au out gs) r.1.1 c7 out.start r.2 aj ac H')) (fun q=>(q.2.1,tF r.1.2 q.2.2)) fun q h2 h1 h0=>have w:=aW h0;have w2:=aW w.2;.mk (bF w.1) w2.1 (eq_of_beq w2.2) h1.fold hc h1.src h2 (jN ..)|none=>.nil
end
section
variable{d:Nat}
noncomputable def tG(c:Bool)(ac:Acc)(H:AH):V×AH:=match ac with |.l vs=>HS c (.lst vs) (.lst vs) H|.d kvs=>HS c (.aF kvs) (.aF kvs) H
theorem lZ(c:Bool)(ac:Acc)(H:AH):yG c ac H=some ((tG c ac H).1,(tG c ac H).2):=by induction ac<;>exact nM ..
def rE(R:RL d)(sc:Scope)(env:af)(e:Expr)(H:AH):CE d sc env e H:=match e with
|.Constant c q p=>K5 c|.Name x p=>.aL (cS (!(x==Str.ofString "__debug__"))) fun g=>.map (nK (dW G.C sc env x)) (fun v=>(v,H)) fun v h h1=>q_ (bF h1) h|.BinOp l op r p=>.aL (R.e sc env l H) fun a=>.aL (R.e sc env r a.2) fun b=>.map (nK (binop op a.1 b.1)) (fun v=>(v,b.2)) fun v h3 h2 h1=>O7 h1 h2 h3|.UnaryOp .USub x p=>.aL (R.e sc env x H) fun a=>match a with |(.int j,H)=>.ret (.int (-j),H) fun h=>Pa h|_=>.nil
|.BoolOp op es p=>.map (HV R sc env op es H) (fun r=>r) fun r h=>BW h|.Compare l [op] [r] p=>.aL (cS (!(behindInMarks op r))) fun g=>.aL (R.e sc env l H) fun a=>.aL (R.e sc env r a.2) fun b=>.map (nK (dK b.2 op a.1 b.1)) (fun v=>(v,b.2)) fun v h3 h2 h1 h0=>O8 (bF h0) h1 h2 h3|.IfExp t a b p=>.aL (R.t sc env t H) fun u=>.aL (ask u.1) fun w=>match w with |true=>.map (R.e sc env a u.2) (fun r=>r) fun r h3 h2 h1=>O9 (h2▸h1) h3|false=>.map (R.e sc env b u.2) (fun r=>r) fun r h3 h2 h1=>O_ (h2▸h1) h3
|.Dict [] [] p=>.ret (HS (G.C.mu p) (.aF []) (.aF []) H) (EL (nM ..))|.Dict [some k] [v] p=>.aL (R.e sc env k H) fun a=>match a with |(.str x,H)=>.map (R.e sc env v H) (fun u=>HS (G.C.mu p) (.aF [(x,u.1)]) (.aF [(x,u.1)]) u.2) fun u h2 h1=>ER h1 h2 (nM ..)|_=>.nil
|.List es p=>.aL (gO R sc env es H) fun vs=>.map (cS (Nat.blt vs.1.length ai)) (fun g=>HS (G.C.mu p) (.lst vs.1) (.lst vs.1) vs.2) fun w h2 h1=>Ks h1 (Cd h2) (nM ..)|.Tuple es q p=>.aL (gO R sc env es H) fun vs=>.map (cS (Nat.blt vs.1.length ai)) (fun g=>(.tup vs.1,vs.2)) fun w h2 h1=>Pd h1 (Cd h2)|.Attribute o x p=>.aL (cS (!dN o)) fun g=>.aL (R.e sc env o H) fun a=>.map (P0 G.C a.1 x a.2) (fun r=>r) fun r h2 h1 h0=>Pe (bF h0) h1 h2|.Subscript o i p=>match i with |.Slice lo hi none q=>.aL (R.e sc env o H) fun a=>.aL (HW R sc env lo a.2) fun l=>.aL (HW R sc env hi l.2) fun r=>.map (nK (slice r.2 a.1 l.1 r.1)) (fun v=>(v,r.2)) fun v h4 h3 h2 h1=>EK h1 h2 h3 h4|i=>.aL (R.e sc env o H) fun a=>.aL (R.e sc env i a.2) fun b=>.map (HU a.1 b.1 b.2) (fun v=>(v,b.2)) fun v h3 h2 h1=>Kp h1 h2 h3
|.Call f es ks p=>match f,ks with |.Attribute o m ap,[]=>.aL (cS (!dN o)) fun g=>.aL (cS (!es.any isStarred)) fun g=>.aL (cS (ap.endLine==p.line)) fun g=>.aL (cS (Nat.blt es.length 29)) fun g=>.aL (R.e sc env o H) fun a=>.map (P7 R sc env a.1 m es a.2) (fun r=>r) fun r h5 h4 h3 h2 h1 h0=>EF (bF h0) (bF h1) h2 (Cd h3) h4 h5|.Name f q,[]=>.aL (R.e sc env (.Name f q) H) fun a=>.aL (gO R sc env es a.2) fun vs=>.map (P6 a.1 vs.1 vs.2 p) (fun r=>r) fun r h3 h2 h1=>EE h1 h2 h3.1 h3.2.1 h3.2.2|f,ks=>.map (.ev (bS (d+1) sc env (.Call f es ks p) H)) (fun r=>r) fun r h=>h
|.ListComp x gens au p=>.map (EU R sc env au (.e x) gens H) (fun r=>tG (G.C.mu p) r.1 r.2) fun r h=>vI (out:=.e x) h (lZ ..)|.DictComp x y gens au p=>.map (EU R sc env au (.kv x y) gens H) (fun r=>tG (G.C.mu p) r.1 r.2) fun r h=>vI (out:=.kv x y) h (lZ ..)|.Lambda args body o6 p=>match hp:cL args,hc:e_ o6 env with |some ps,some c7=>.map (cS (!gK sc&&((c7.all fun kv=>G.C.wo kv.1)&&gn sc o6))) (fun g=>HS (G.C.mu p) (.rO ps body o6 c7) (.o_ (.rO ps body o6 c7) []) H) fun g h=>have w:=aW h;have w2:=aW w.2;PU (bF w.1) hp hc w2.1 w2.2 (nM ..)|aK,bA=>.nil
|e=>.map (.ev (bS (d+1) sc env e H)) (fun r=>r) fun r h=>h
end
section
variable{d:Nat}
def Cf(R:RL d)(sc:Scope)(env:af)(e:Expr)(H:AH)(he:∀e' w,isTrue e e' w=(do let v←w;standAt e.pos;holding [v] (truthy v))):CT d sc env e H:=.aL (R.e sc env e H) fun a=>.map (P5 a.1 a.2) (fun b=>(b,a.2)) fun b h2 h1=>PC he h1 h2
def rT(R:RL d)(sc:Scope)(env:af)(e:Expr)(H:AH):CT d sc env e H:=match e with
|.UnaryOp .Not x p=>.map (R.t sc env x H) (fun r=>(!r.1,r.2)) fun r h=>Pf h|.BoolOp op es p=>.map (vM R sc env op es H) (fun r=>r) fun r h=>BX h|.IfExp t a b p=>.aL (R.t sc env t H) fun u=>.aL (ask u.1) fun w=>match w with |true=>.map (R.t sc env a u.2) (fun r=>r) fun r h3 h2 h1=>Pg (h2▸h1) h3|false=>.map (R.t sc env b u.2) (fun r=>r) fun r h3 h2 h1=>Ph (h2▸h1) h3
|.Compare l [op] [r] p=>.aL (R.e sc env (.Compare l [op] [r] p) H) fun a=>match a with |(.bool b,H)=>.ret (b,H) fun h=>Pj h|_=>.nil
|.Name x p=>Cf R sc env _ H fun c c=>rfl|.Call f es ks p=>Cf R sc env _ H fun c c=>rfl|.Attribute o x p=>Cf R sc env _ H fun c c=>rfl|.Subscript o i p=>Cf R sc env _ H fun c c=>rfl|.BinOp l op r p=>Cf R sc env _ H fun c c=>rfl|_=>.nil
def nameOk(C:Cx)(sc:Scope)(env:af)(y:Str):Bool:=match kindOf sc y with |some .local=>true|some .cell=>!C.wo y||!(aS env y).isSome|_=>false
set_option tactic.hygienic true in
theorem iQ{sc:Scope}{env:af}{y:Str}{v:V}{H:AH}{p:Pos}(h:nameOk G.C sc env y=true):oW d sc env (.Name y p) v H (aP env y v) H∧(kindOf sc y=some .local∨kindOf sc y=some .cell):=by
 unfold nameOk at h;split at h
 ·rename_i e;exact⟨Pr e,.inl e⟩
 ·rename_i e;refine⟨Kw e fun hw=>?_,.inr e⟩;rw[hw] at h;induction e:aS env y with |none=>rfl|some v=>rw[e] at h;exact bE h
 ·exact bE h
def rA(R:RL d)(sc:Scope)(env:af)(t:Expr)(v:V)(H:AH):CA d sc env t v H:=match t with
|.Name y p=>.map (cS (nameOk G.C sc env y)) (fun c=>(aP env y v,H)) fun c h=>(iQ h).1|.Tuple ts q p=>match v with |.tup vs=>.map (tD R sc ts vs env H) (fun r=>r) fun r h=>HH h|_=>.nil
|.Attribute o y p=>.aL (R.e sc env o H) fun a=>.map (P4 G.C a.1 y v a.2) (fun H=>(env,H)) fun H h2 h1=>Pu h1 h2|.Subscript o i p=>.aL (R.e sc env o H) fun a=>.aL (R.e sc env i a.2) fun b=>.map (HT a.1 b.1 v b.2) (fun H=>(env,H)) fun H h3 h2 h1=>Pw h1 h2 h3|_=>.nil
noncomputable def isNm(n:Str):Expr→Bool|.Name y _=>y==n|_=>false
theorem EV{n:Str}{t:Expr}(h:isNm n t=true):∃p,t=.Name n p:=by induction t using Expr.casesOn<;>first|exact nomatch (show false=true from h)|exact⟨_,congrArg (Expr.Name · _) (eq_of_beq (show(_==n)=true from h))⟩
noncomputable def namesOk(C:Cx)(sc:Scope):List Expr→List Str→List V→af→Bool|[],ns,vs,aK=>ns.isEmpty&&vs.isEmpty|t::ts,ns,vs,env=>match ns with |[]=>false|n::ns=>match vs with |[]=>false|v::vs=>isNm n t&&(nameOk C sc env n&&namesOk C sc ts ns vs (aP env n v))
structure EW(d:Nat)(sc:Scope)(ts:List Expr)(ns:List Str)(vs:List V)(env:af)(H:AH):Prop where
 as:BV d sc env ts vs H ((ns.zip vs).foldl (fun env p=>aP env p.1 p.2) env) H
 nm:ts.map PE=ns.map some
 kd:∀x∈ns,kindOf sc x=some .local∨kindOf sc x=some .cell
 ln:ns.length=vs.length
theorem vN{sc:Scope}{H:AH}{ts:List Expr}{ns:List Str}{vs:List V}{env:af}(h:namesOk G.C sc ts ns vs env=true):EW d sc ts ns vs env H:=by
 induction ts generalizing ns vs env with
 |nil=>have h1:=aW h;cases List.isEmpty_iff.mp h1.1;cases List.isEmpty_iff.mp h1.2;exact⟨.nil,rfl,(fun a h=>nomatch h),rfl⟩
 |cons t ts ih=>induction ns using List.casesOn with
  |nil=>exact nomatch (show false=true from h)|cons n ns=>induction vs using List.casesOn with
   |nil=>exact nomatch (show false=true from h)|cons v vs=>
    have h1:=aW h;obtain h2:=aW h1.2;have ih:=ih h2.2
    obtain⟨p,rfl⟩:=EV h1.1;have q:=iQ (d:=d) (v:=v) (H:=H) (p:=p) h2.1
    exact⟨.cons rfl q.1 ih.as,congrArg (_::·) ih.nm,fun x hx=>(bM hx).elim (fun e=>e▸q.2) (ih.kd x),congrArg (·+1) ih.ln⟩
end
section
variable{d:Nat}
noncomputable def plainT(e:Expr):Bool:=Nat.beq e.ctorIdx 23||(Nat.beq e.ctorIdx 20||Nat.beq e.ctorIdx 21)
theorem plainT_ok{t x:Expr}(h:plainT t=true):(∀e',swappedStores [t] x e'=pure none)∧∀e',PySem.assignEach [t] e'=[(false,PySem.assign t e')]:=by induction t using Expr.casesOn<;>first|exact⟨fun a=>rfl,fun a=>rfl⟩|exact bE (show false=true from h)
def EX(R:RL d)(sc:Scope)(env:af)(t x:Expr)(p:Pos)(H:AH):CS d sc env (.Assign [t] x p) H:=match t with
|.Tuple ts k1 p1=>match x with
 |.Tuple es k2 p2=>.aL (cS (!mD (.Tuple ts k1 p1) (.Tuple es k2 p2))) fun b=>.aL (R.e sc env (.Tuple es k2 p2) H) fun a=>match a with |(.tup vs,H₁)=>.map (cS (namesOk G.C sc ts (ts.filterMap PE) vs env)) (fun b=>(.next,((ts.filterMap PE).zip vs).foldl (fun env p=>aP env p.1 p.2) env,H₁)) fun b h2 h1 h0=>have q:=vN (d:=d+1) (H:=H₁) h2;KU (bF h0) q.nm q.kd q.ln h1 q.as|_=>.nil
 |x=>.aL (cS (!BP x&&!gq x)) fun b=>.aL (R.e sc env x H) fun a=>.map (R.a sc env (.Tuple ts k1 p1) a.1 a.2) (fun r=>(.next,r.1,r.2)) fun r h2 h1 h0=>have q:=aW h0;HF (bF q.2) (fun b=>yK (bF q.1)) (fun b=>rfl) h1 h2
|t=>.aL (cS (plainT t&&!gq x)) fun b=>.aL (R.e sc env x H) fun a=>.map (R.a sc env t a.1 a.2) (fun r=>(.next,r.1,r.2)) fun r h2 h1 h0=>have q:=aW h0;have w:=plainT_ok q.1;HF (bF q.2) w.1 w.2 h1 h2
def P_(R:RL d)(sc:Scope)(env:af)(t e:Expr)(body:List Stmt)(p:Pos)(H:AH):CS d sc env (.For t e body [] p) H:=match e with
|.Name x q=>.aL (cS (!(x==Str.ofString "__debug__"))) fun a=>.aL (nK (dW G.C sc env x)) fun v=>match v with
 |.ref k=>.aL (CM.obj H k) fun o=>match o with |.lI f st b=>.map (.ex fun fl aj H'=>∃m,iX d sc t body k m env H fl aj H') (fun r=>r) fun r h3 h2 h1 h0=>h3.elim fun m h3=>KX h1 (bF h0) h2 h3|.lst xs=>.map (.ex fun fl aj H'=>bZ (d+1) sc t body xs env (H.set k .gone) fl aj H') (fun r=>(r.1,r.2.1,r.2.2.set k (.lst xs))) fun r h3 h2 h1 h0=>xq (fun a a=>rfl) (lY (q_ (bF h0) h1) (dU (o:=.lst xs) h2 rfl rfl)) h3 rfl|.aF kvs=>.map (.ex fun fl aj H'=>bZ (d+1) sc t body (kvs.map fun kv=>.str kv.1) env (H.set k .gone) fl aj H') (fun r=>(r.1,r.2.1,r.2.2.set k (.aF kvs))) fun r h3 h2 h1 h0=>xq (fun a a=>rfl) (lY (q_ (bF h0) h1) (dU (o:=.aF kvs) h2 rfl rfl)) h3 rfl|_=>.nil
 |v=>.aL (P8 (srcOf v H)) fun r=>.map (.ex fun fl aj H'=>bZ (d+1) sc t body r.1.1 env r.2 fl aj H') (fun q=>(q.1,q.2.1,tF r.1.2 q.2.2)) fun q h3 h2 h1 h0=>xq (fun a a=>rfl) (lY (q_ (bF h0) h1) h2) h3 (jN ..)
|e=>.aL (K6 R sc env t e H) fun r=>.map (.ex fun fl aj H'=>bZ (d+1) sc t body r.1.1 env r.2 fl aj H') (fun q=>(q.1,q.2.1,tF r.1.2 q.2.2)) fun q h2 h1=>xq h1.fold h1.src h2 (jN ..)
def rX(R:RL d)(sc:Scope)(env:af)(st:Stmt)(H:AH):CS d sc env st H:=match st with
|.Assign [t] x p=>match gq x with
 |true=>match t with
  |.Name y q=>match x with |.ListComp e gens au pos=>.aL (EU R sc env au (.e e) gens H) fun r=>.map (cS (nameOk G.C sc env y)) (fun c=>(.next,aP env y (tG (G.C.mu pos) r.1 r.2).1,(tG (G.C.mu pos) r.1 r.2).2)) fun c h2 h1=>have q:=iQ h2;B_ (out:=.e e) h1 (lZ ..) q.2 q.1|.DictComp e1 e2 gens au pos=>.aL (EU R sc env au (.kv e1 e2) gens H) fun r=>.map (cS (nameOk G.C sc env y)) (fun c=>(.next,aP env y (tG (G.C.mu pos) r.1 r.2).1,(tG (G.C.mu pos) r.1 r.2).2)) fun c h2 h1=>have q:=iQ h2;B_ (out:=.kv e1 e2) h1 (lZ ..) q.2 q.1|_=>.nil
  |_=>.nil
 |false=>EX R sc env t x p H
|.AugAssign t .Add x p=>match t with |.Name n q=>.aL (nK (dW G.C sc env n)) fun old=>.aL (R.e sc env x H) fun y=>.aL (nK (jx old y.1)) fun z=>.map (cS (kindOf sc n==some .local)) (fun c=>(.next,aP env n z,y.2)) fun c h4 h3 h2 h1=>KH h1 h2 h3 (eq_of_beq h4)|.Attribute o m q=>.aL (R.e sc env o H) fun ov=>.aL (P0 G.C ov.1 m ov.2) fun old=>.aL (R.e sc env x old.2) fun y=>.aL (nK (jx old.1 y.1)) fun z=>.map (P4 G.C ov.1 m z y.2) (fun H=>(.next,env,H)) fun c h5 h4 h3 h2 h1=>KI h1 h2 h3 h4 h5|.Subscript o i q=>.aL (cS (!isSlice i)) fun c=>.aL (R.e sc env o H) fun ov=>.aL (R.e sc env i ov.2) fun iv=>.aL (HU ov.1 iv.1 iv.2) fun old=>.aL (R.e sc env x iv.2) fun y=>.aL (nK (jx old y.1)) fun z=>.map (HT ov.1 iv.1 z y.2) (fun H=>(.next,env,H)) fun c h6 h5 h4 h3 h2 h1 h0=>KJ (bF h0) h1 h2 h3 h4 h5 h6|_=>.nil
|.Return (some e) p=>.map (R.e sc env e H) (fun r=>(.ret r.1,env,r.2)) fun r h=>Pn h|.Continue p=>.ret (.cont,env,H) KQ|.Expr e p=>.aL (cS (!gq e)) fun c=>.aL (R.e sc env e H) fun a=>match a with |(.none,H)=>.ret (.next,env,H) fun h1 h0=>Kv (bF h0) h1|_=>.nil
|.If t a b p=>.aL (R.t sc env t H) fun u=>.aL (ask u.1) fun w=>match w with |true=>.map (nL R sc a env u.2) (fun r=>r) fun r h3 h2 h1=>Po (h2▸h1) h3|false=>.map (nL R sc b env u.2) (fun r=>r) fun r h3 h2 h1=>Pp (h2▸h1) h3
|.For t e body [] p=>.aL CM.ks fun ks=>match ks with |none=>.map (P_ R sc env t e body p H) (fun r=>r) fun r h c=>h|some ks=>.aL (cS (aY G.C sc ks env)) fun c=>.map (P_ R sc (cU ks env) t e body p H) (fun r=>r) fun r h2 h1 c=>h2.low h1
|st=>.nil
noncomputable def run:Nat→RL d|0=>⟨fun a a a a=>.nil,fun a a a a=>.nil,fun a a a a a=>.nil,fun a a a a=>.nil⟩|n+1=>⟨rE (run n),rT (run n),rA (run n),rX (run n)⟩
variable{sc:Scope}{env aj:af}{H H':AH}{O:List vK}{c:Prop}{v:V}{e:Expr}{b:List Stmt}{fl:Fl}{u:Bool}{st:Stmt}
theorem nN(F:Fz O c)(h:((run (d:=d) 30).e sc env e H 0 O).map (fun r=>(r.a,r.c True))=some ((v,H'),c)):bS (d+1) sc env e H v H':=CM.ok (J:=fun r:V×AH=>bS (d+1) sc env e H r.1 r.2) F.h h
theorem bK(F:Fz O c)(h:((run (d:=d) 30).x sc env st H 0 O).map (fun r=>(r.a,r.c True))=some ((fl,aj,H'),c)):gU (d+1) sc env st H fl aj H':=CM.ok (J:=fun r:Fl×af×AH=>gU (d+1) sc env st H r.1 r.2.1 r.2.2) F.h h
end
section
variable{d:Nat}{sc:Scope}{env aj ao bk:af}{H H' H₁ H₂:AH}{fl f:Fl}{t:Expr}{body:List Stmt}{x:V}{xs:List V}{ks:List Str}
structure Turn(d:Nat)(sc:Scope)(t:Expr)(body:List Stmt)(x:V)(env:af)(H:AH)(fl:Fl)(aj:af)(H':AH):Prop where
 mk'::
 ex:∃ao H₁,oW d sc env t x H ao H₁∧oX d sc ao body H₁ fl aj H'
def Qa(R:RL d)(ks:List Str)(sc:Scope)(t:Expr)(body:List Stmt)(x:V)(env:af)(H:AH):CM (Fl×af×AH) fun r=>Turn (d+1) sc t body x env H r.1 r.2.1 r.2.2:=.aL (R.a sc env t x H) fun a=>.aL (nL R sc body a.1 a.2) fun r=>.map (cS (aY G.C sc ks r.2.1)) (fun b=>(r.1,cU ks r.2.1,r.2.2)) fun b h3 h2 h1=>⟨_,_,h1,h2.keep h3⟩
theorem av{O:List vK}{c:Prop}(ks:List Str)(F:Fz O c)(h:(Qa (run (d:=d) 30) ks sc t body x env H 0 O).map (fun r=>(r.a,r.c True))=some ((fl,aj,H'),c)):Turn (d+1) sc t body x env H fl aj H':=CM.ok (J:=fun r:Fl×af×AH=>Turn (d+1) sc t body x env H r.1 r.2.1 r.2.2) F.h h
theorem Turn.next(h1:Turn d sc t body x env H f ao H₁)(hf:f=.next∨f=.cont)(k:bZ d sc t body xs ao H₁ fl aj H'):bZ d sc t body (x::xs) env H fl aj H':=h1.ex.elim fun a q=>q.elim fun a q=>.cons q.1 q.2 hf k
theorem Turn.ret{v:V}(h1:Turn d sc t body x env H (.ret v) ao H₁):bZ d sc t body (x::xs) env H (.ret v) ao H₁:=h1.ex.elim fun a q=>q.elim fun a q=>.ret q.1 q.2
theorem bZ.fold{σ α:Type}(enc:α→V)(E:σ→af)(Hp:σ→AH)(g:σ→α→σ)(I:List α→σ→Prop)(hI:∀x xs s,I (x::xs) s→I xs (g s x))(step:∀x xs s,I (x::xs) s→Turn d sc t body (enc x) (E s) (Hp s) .next (E (g s x)) (Hp (g s x))):
  ∀(xs:List α) (s:σ),I xs s→bZ d sc t body (xs.map enc) (E s) (Hp s) .next (E (xs.foldl g s)) (Hp (xs.foldl g s))
 |[],aK,bA=>.nil|x::xs,s,h=>(step x xs s h).next (.inl rfl) (bZ.fold enc E Hp g I hI step xs _ (hI x xs s h))
def Zw(R:RL d)(f:Nat)(vs:List V)(H:AH):CM (V×AH) fun r=>aD (d+2) (.fn f) vs H r.1 r.2:=match hd:jb G.C f with |some dd=>.aL (cS (Nat.beq dd.params.length vs.length)) fun a=>.map (nL R dd.sc dd.body (dd.params.zip vs) H) (fun r=>(R2 r.1,r.2.2)) fun r h2 h1=>Kz hd (Nat.eq_of_beq_eq_true h1) h2|none=>.nil
theorem aZ{f:Nat}{vs:List V}{v:V}{O:List vK}{c:Prop}(F:Fz O c)(h:(Zw (run (d:=d) 30) f vs H 0 O).map (fun r=>(r.a,r.c True))=some ((v,H'),c)):aD (d+2) (.fn f) vs H v H':=CM.ok (J:=fun r:V×AH=>aD (d+2) (.fn f) vs H r.1 r.2) F.h h
end
end Mine
end
noncomputable section
open PySem PySem.W PySem.Builtin PySem.Builtin.Str
namespace Mine
section
noncomputable def Qc(e:Expr):List Expr:=by
 induction e using Expr.casesOn with |BinOp l _ r _=>exact [l,r]|Compare l _ rs _=>exact l::rs|BoolOp _ es _=>exact es|Call f es _ _=>exact f::es|IfExp t a b _=>exact [t,a,b]|ListComp x _ _ _=>exact [x]|Lambda _ b _ _=>exact [b]|Tuple es _ _=>exact es|_=>exact []
def rC(e:Expr)(i:Nat):Expr:=(Qc e).getD i (.Constant .none 0 default)
noncomputable def HY(s:Stmt):List Expr×List (List Stmt):=by
 induction s using Stmt.casesOn with |For t e b _ _=>exact([t,e],[b])|Assign _ v _=>exact([v],[])|AugAssign _ _ v _=>exact([v],[])|Expr v _=>exact([v],[])|Return v _=>exact(v.toList,[])|If t a b _=>exact([t],[a,b])|_=>exact([],[])
def EY(s:Stmt):Expr:=(HY s).1.headD (.Constant .none 0 default)
def K7(s:Stmt)(i:Nat):List Stmt:=(HY s).2.getD i []
abbrev dI(s:Stmt):Expr:=EY s
abbrev d_(s:Stmt):List Stmt:=K7 s 0
noncomputable def bD(b:List Stmt)(i:Nat):Stmt:=b.getD i (.Pass default)
abbrev bd(k:Nat):List Stmt:=Hd.fB (Hd.st k)
variable{d:Nat}{H H':AH}
abbrev tH(k:Nat):Scope:=(dY (Hd.st k)).sc
theorem bS.hp{d:Nat}{sc:Scope}{env:af}{e:Expr}{v:V}{H H₁ H':AH}(h:bS d sc env e H v H₁)(q:H₁=H'):bS d sc env e H v H':=q▸h
theorem aD.hp{d:Nat}{f:V}{vs:List V}{v:V}{H H₁ H':AH}(h:aD d f vs H v H₁)(q:H₁=H'):aD d f vs H v H':=q▸h
theorem EZ(kvs:List (Str×Int)):(aq V.int kvs).map (·.2)=kvs.map fun kv=>.int kv.2:=by refine List.map_map.trans ?_;rfl
theorem foldl_add(xs:List (Str×Int)):∀c:Int,xs.foldl (fun c x=>c+x.2) c=c+(xs.map (·.2)).sum:=by
 induction xs with |nil=>intro c;exact(Int.add_zero c).symm|cons x r ih=>intro c;exact(ih _).trans (Int.add_assoc ..)
theorem nO(kvs:List (Str×Int)):aD (d+2) (.fn 105) [.aF (aq V.int kvs)] H (.int (kvs.map (·.2)).sum) H:=by
 obtain loop:=bZ.fold (d:=d+1) (sc:=tH 6) (t:=dI (bD (bd 6) 1)) (body:=d_ (bD (bd 6) 1)) (fun kv:Str×Int=>.int kv.2) (fun c:Int=>[(T "callers",.aF (aq V.int kvs)),(T "nc",.int c)]) (fun a=>H) (fun c x=>c+x.2) (fun a a=>True) (fun a a a a=>trivial)
  (fun x xs c a=>av [T "callers",T "nc"] .nil (by kernel_rfl)) kvs 0 trivial
 rw[foldl_add,Int.zero_add,←EZ] at loop;exact aZ (.loop loop .nil) (by kernel_rfl)
end
def o8(d:List (Str×Int))(kv:Str×Int):List (Str×Int):=aP d kv.1 kv.2
def put2(d:List (Str×Int))(kv:Str×Int):List (Str×Int):=aP d kv.1 (match d.lookup kv.1 with |some v=>v+kv.2|none=>kv.2)
def tI(t s:List (Str×Int)):List (Str×Int):=s.foldl put2 (t.foldl o8 [])
theorem bC{α β:Type}{m:M α}{f:α→M β}{a:α}{x:Option (β×AH)}(h:m H=some (a,H'))(k:f a H'=x):M.aL m f H=x:=by unfold M.aL;refine h▸?_;exact k
theorem nP(m:Nat)(H:AH):∀d:List (Str×Int),e9 (freeze (m+1)) (aq V.int d) H=some (aq V.int d,H)|[]=>rfl|(y,u)::r=>by unfold e9;exact bC (a:=.int u) (H':=H) rfl (bC (nP m H r) rfl)
noncomputable abbrev WR(d:List (Str×Int)):List V:=d.map fun kv=>.tup [.str kv.1,.int kv.2]
theorem K8(d:List (Str×Int)):(aq V.int d).map (fun kv=>V.tup [.str kv.1,kv.2])=WR d:=by unfold aq;rw[List.map_map];rfl
theorem cM{o:az}:(H++[o])[H.length]?=some o:=List.getElem?_concat_length ..
theorem cN{o o':az}:(H++[o]).set H.length o'=H++[o']:=by rw[List.set_append_right _ _ (Nat.le_refl _),Nat.sub_self];rfl
theorem E0{k:Nat}{x:Str}{v:V}{kvs:List (Str×V)}(hz:kvs.length+1<2^20)(e:H.set k (.aF (aP kvs x v))=H'):mz k x v (.aF kvs) H=some ((),H'):=by show(if sizeOk (kvs.length+1) then fQ k (.aF (aP kvs x v)) else M.fail:M Unit) H=_;rw[show sizeOk (kvs.length+1)=true from decide_eq_true hz,←e];rfl
theorem xu{k:Nat}{kvs:List (Str×V)}(h:H[k]?=some (.aF kvs)):deref H (.ref k)=.aF kvs:=by show(match H[k]? with |some (.lst xs)=>V.lst xs|some (.aF kvs)=>.aF kvs|_=>.ref k)=_;rw[h]
theorem l0{k:Nat}{xs:List V}(h:H[k]?=some (.lst xs)):deref H (.ref k)=.lst xs:=by show(match H[k]? with |some (.lst xs)=>V.lst xs|some (.aF kvs)=>.aF kvs|_=>.ref k)=_;rw[h]
theorem inR{k:Nat}{x:Str}{kvs:List (Str×V)}(h:H[k]?=some (.aF kvs)):dK H .In (.str x) (.ref k)=some (.bool (kvs.lookup x).isSome):=by show(alt (gH (deref H (.ref k)) fun kvs=>some (kvs.lookup x).isSome) none).map V.bool=_;rw[xu h];rfl
section
variable{t s:List (Str×Int)}
abbrev Mc(t s:List (Str×Int))(k:Nat):af:=[(T "target",.aF (aq V.int t)),(T "source",.aF (aq V.int s)),(T "new_callers",.ref k)]
theorem ya{d0:List (Str×Int)}(x:Str)(v:Int)(hz:d0.length+1<2^20):mz H.length x (.int v) (.aF (aq V.int d0)) (H++[.aF (aq V.int d0)])=some ((),H++[.aF (aq V.int (aP d0 x v))]):=E0 (by rw[dX];exact hz) (by rw[cN,j6])
theorem U8(x:Str×Int)(d0:List (Str×Int))(hz:d0.length+1<2^20):Turn (d+1) (tH 5) (dI (bD (bd 5) 1)) (d_ (bD (bd 5) 1)) (.tup [.str x.1,.int x.2]) (Mc t s H.length) (H++[.aF (aq V.int d0)]) .next (Mc t s H.length) (H++[.aF (aq V.int (o8 d0 x))]):=
 have hk:=cM (H:=H) (o:=.aF (aq V.int d0))
 av [T "target",T "source",T "new_callers"] (.obj hk (.vL 3 (ya (H:=H) x.1 x.2 hz) .nil)) (by kernel_rfl)
theorem U9(x:Str×Int)(d0:List (Str×Int))(hz:d0.length+1<2^20):Turn (d+1) (tH 5) (dI (bD (bd 5) 2)) (d_ (bD (bd 5) 2)) (.tup [.str x.1,.int x.2]) (Mc t s H.length) (H++[.aF (aq V.int d0)]) .next (Mc t s H.length) (H++[.aF (aq V.int (put2 d0 x))]):=by
 obtain hk:=cM (H:=H) (o:=.aF (aq V.int d0));obtain hi:=inR (x:=x.1) hk;obtain hl:=fF V.int d0 x.1;unfold put2;induction h:d0.lookup x.1 with
 |none=>rw[h] at hl;obtain hb:((aq V.int d0).lookup x.1).isSome=false:=congrArg Option.isSome hl;exact av [T "target",T "source",T "new_callers"] (.val 2 hi (.no 3 hb (.obj hk (.vL 7 (ya (H:=H) x.1 x.2 hz) .nil)))) (by kernel_rfl)
 |some v=>rw[h] at hl;obtain hb:((aq V.int d0).lookup x.1).isSome=true:=congrArg Option.isSome hl;exact av [T "target",T "source",T "new_callers"] (.val 2 hi (.no 3 hb (.obj hk (.val 11 hl (.obj hk (.vL 14 (ya (H:=H) x.1 (v+x.2) hz) .nil)))))) (by kernel_rfl)
theorem yP{o o':az}:fQ H.length o' (H++[o])=some ((),H++[o']):=congrArg (fun x=>some ((),x)) cN
theorem yQ{m:Nat}{d0:List (Str×Int)}:freeze (m+2) (.ref H.length) (H++[.aF (aq V.int d0)])=some (.aF (aq V.int d0),H++[.gone]):=bC (a:=.aF (aq V.int d0)) (H':=H++[.aF (aq V.int d0)]) (by unfold hget;rw[cM]) (bC (a:=()) (H':=H++[.gone]) yP (bC (nP m _ d0) rfl))
theorem jO{α:Type}{g:List (Str×Int)→α→List (Str×Int)}(hg:∀d x,(g d x).length≤d.length+1):∀(xs:List α) (d:List (Str×Int)),(xs.foldl g d).length≤d.length+xs.length|[],aK=>Nat.le_refl _|x::xs,d=>Nat.le_trans (jO hg xs (g d x)) (Nat.le_trans (Nat.add_le_add_right (hg d x) _) (Nat.le_of_eq (Nat.succ_add_eq_add_succ ..)))
theorem nQ(H:AH)(hz:t.length+s.length+1<2^20):aD (d+2) (.fn 98) [.aF (aq V.int t),.aF (aq V.int s)] H (.aF (aq V.int (tI t s))) (H++[.gone]):=by obtain l1:=bZ.fold (d:=d+1) (sc:=tH 5) (t:=dI (bD (bd 5) 1)) (body:=d_ (bD (bd 5) 1)) (fun kv:Str×Int=>.tup [.str kv.1,.int kv.2]) (fun a=>Mc t s H.length) (fun d0=>H++[.aF (aq V.int d0)]) o8 (fun xs d0=>d0.length+xs.length≤t.length) (fun x xs d0 h=>by have :=cC d0 x.1 x.2;simp only[List.length_cons] at h;unfold o8;exact gS (nat_lit 0x320801319281801191800102) ae this h) (fun x xs d0 h=>U8 x d0 (gS (nat_lit 0x1000006f1908111000006f1932881121080102) ae h hz)) t [] (Nat.le_of_eq (Nat.zero_add _));obtain hl:=jO (g:=o8) (fun d x=>cC d x.1 x.2) t [];obtain l2:=bZ.fold (d:=d+1) (sc:=tH 5) (t:=dI (bD (bd 5) 2)) (body:=d_ (bD (bd 5) 2)) (fun kv:Str×Int=>.tup [.str kv.1,.int kv.2]) (fun a=>Mc t s H.length) (fun d0=>H++[.aF (aq V.int d0)]) put2 (fun xs d0=>d0.length+xs.length≤t.length+s.length) (fun x xs d0 h=>by have :=cC d0 x.1 (match d0.lookup x.1 with |some v=>v+x.2|none=>x.2);simp only[List.length_cons] at h;unfold put2;exact uv (nat_lit 0x4382080143819281801191800102) ae this h) (fun x xs d0 h=>U9 x d0 (gS (nat_lit 0x1000006f1908111000006f193288113281080102) ae h hz)) s (t.foldl o8 []) (by simp only[List.length_nil,Nat.zero_add] at hl;exact aQ (nat_lit 9431645120626945) ae hl);rw[←WR,←K8] at l1 l2;exact BS (aZ (.loop l1 (.loop l2 .nil)) (by kernel_rfl)) (yQ (m:=8))
end
set_option genInjectivity true in
structure St where
 cc:Int
 nc:Int
 tt:Int
 ct:Int
 cs:List (Str×Int)
def St.enc(s:St):V:=.tup [.int s.cc,.int s.nc,.int s.tt,.int s.ct,.aF (aq V.int s.cs)]
noncomputable def St.add(t s:St):St:=⟨s.cc+t.cc,s.nc+t.nc,s.tt+t.tt,s.ct+t.ct,tI t.cs s.cs⟩
theorem jP{d:Nat}(H:AH)(t s:St)(hz:t.cs.length+s.cs.length+1<2^20):aD (d+3) (.fn 91) [t.enc,s.enc] H (t.add s).enc (H++[.gone]):=aZ (.call (nQ (d:=d) H hz) .nil) (by kernel_rfl)
abbrev RG(i j:Nat):List Stmt:=Hd.fB (Hd.cst i j)
abbrev RH(i j:Nat):Scope:=(dY (Hd.cst i j)).sc
noncomputable def xw(way:Int):V:=.lst [.tup [.int 0,.int (-1)],.tup [.int 1,.int way]]
def vO(way:Int)(a:Int)(s:Str)(b:Int)(t:Str):Int:=if decide (a<b) then 1 else if decide (b<a) then -1 else if strLt s t then -way else if strLt t s then way else 0
structure RI(us:List V)(a:Int)(s:Str):Prop where
 i0:∀H,item H (.tup us) (.int 0)=some (.int a)
 i1:∀H,item H (.tup us) (.int 1)=some (.str s)
theorem at2(a:Int)(s:Str):RI [.int a,.str s] a s:=⟨fun b=>by kernel_rfl,fun b=>by kernel_rfl⟩
theorem WS(a:Int)(s:Str)(u:V):RI [.int a,.str s,u] a s:=⟨fun b=>by kernel_rfl,fun b=>by kernel_rfl⟩
section
variable{d k:Nat}{H:AH}{us vs:List V}{way a b:Int}{s t:Str}
abbrev cE(k:Nat)(us vs:List V):af:=[(T "self",.ref k),(T "left",.tup us),(T "right",.tup vs)]
abbrev cK:List Str:=[T "self",T "left",T "right"]
abbrev U_:Expr:=dI (bD (RG 3 1) 0)
abbrev U':List Stmt:=d_ (bD (RG 3 1) 0)
theorem nR(hu:RI us a s)(hv:RI vs b t)(hk:H[k]?=some (.inst 80 [(T "comp_select_list",xw way)])):aD (d+2) (.fn 77) [.ref k,.tup us,.tup vs] H (.int (vO way a s b t)) H:=by
 have fin:∀{v:V},bZ (d+1) (RH 3 1) U_ U' [.tup [.int 0,.int (-1)],.tup [.int 1,.int way]] (cE k us vs) H (.ret v) (cE k us vs) H→aD (d+2) (.fn 77) [.ref k,.tup us,.tup vs] H v H:=fun h=>aZ (.obj hk (.loop h .nil)) (by kernel_rfl)
 obtain u0:=hu.i0 H;have u1:=hu.i1 H
 obtain v0:=hv.i0 H;obtain v1:=hv.i1 H;unfold vO;induction h1:decide (a<b) with
 |true=>exact fin (Turn.ret (av cK (.val 2 u0 (.val 5 v0 (.no 9 h1 .nil))) (by kernel_rfl)))|false=>induction h2:decide (b<a) with
  |true=>exact fin (Turn.ret (av cK (.val 2 u0 (.val 5 v0 (.no 9 h1 (.no 13 h2 .nil)))) (by kernel_rfl)))|false=>
   have n1:Turn (d+1) (RH 3 1) U_ U' (.tup [.int 0,.int (-1)]) (cE k us vs) H .next (cE k us vs) H:=av cK (.val 2 u0 (.val 5 v0 (.no 9 h1 (.no 13 h2 .nil)))) (by kernel_rfl);induction h3:strLt s t with |true=>exact fin (n1.next (.inl rfl) (Turn.ret (av cK (.val 2 u1 (.val 5 v1 (.no 9 h3 .nil))) (by kernel_rfl))))|false=>induction h4:strLt t s with |true=>exact fin (n1.next (.inl rfl) (Turn.ret (av cK (.val 2 u1 (.val 5 v1 (.no 9 h3 (.no 13 h4 .nil)))) (by kernel_rfl))))|false=>obtain n2:Turn (d+1) (RH 3 1) U_ U' (.tup [.int 1,.int way]) (cE k us vs) H .next (cE k us vs) H:=av cK (.val 2 u1 (.val 5 v1 (.no 9 h3 (.no 13 h4 .nil)))) (by kernel_rfl);exact aZ (.obj hk (.loop (n1.next (.inl rfl) (n2.next (.inl rfl) .nil)) .nil)) (by kernel_rfl)
end
abbrev jn(s:Stmt):Expr:=EY s
abbrev E1(e:Expr):Expr:=rC e 0
noncomputable def E2(e:Expr):Scope:=by induction e using Expr.casesOn with |Lambda _ _ s _=>exact s|_=>exact default
abbrev Zx(s:Stmt):List Stmt:=K7 s 0
abbrev Zy(s:Stmt):List Stmt:=K7 s 1
noncomputable def gQ(c:Nat):Str:=⟨#[c]⟩
def cY(c:Nat):V:=.str (gQ c)
def HZ:List Nat→Str|[]=>T ""|c::_=>gQ c
noncomputable def yR:List Nat→Int|[]=>0|c::_=>if c==10 then 1 else 0
theorem cG(c d:Nat):(gQ c==gQ d)=(c==d):=by
 induction h:c==d with |true=>refine(eq_of_beq h)▸?_;exact beq_self_eq_true _|false=>exact oK fun e=>beq_eq_false_iff_ne.mp h (by cases e;rfl)
abbrev WT:Expr:=jn (bD (bd 16) 1)
def p5(kS:Nat):V:=.rO [T "size"] (E1 WT) (E2 WT) [(T "signs",.ref kS)]
def kP(aJ:Int)(ks kp:Nat):az:=.inst 52 [(T "lineno",.int aJ),(T "instream",.ref ks),(T "whitespace",.str (T "\n\t\r ")),(T "pushback",.ref kp)]
structure Lx where
 k:Nat
 ks:Nat
 kp:Nat
 kS:Nat
structure Lx.Ok(a:Lx)(H:AH):Prop where
 lk:a.k<H.length
 lp:a.kp<H.length
 lS:a.kS<H.length
 yS:∃g,H[a.ks]?=some (.o_ g [(T "read",p5 a.kS)])
 d1:a.k≠a.ks
 d2:a.k≠a.kp
 d3:a.k≠a.kS
 d4:a.kp≠a.ks
 d5:a.kS≠a.ks
 d6:a.kp≠a.kS
def Lx.hp(a:Lx)(H:AH)(aJ:Int)(push:List V)(cs:List Nat):AH:=((H.set a.k (kP aJ a.ks a.kp)).set a.kp (.lst push)).set a.kS (.lst (cs.map cY))
section
variable{a:Lx}{H:AH}{aJ l:Int}{push p:List V}{cs r:List Nat}{j c:Nat}
theorem Lx.Ok.self(h:a.Ok H):(a.hp H aJ push cs)[a.k]?=some (kP aJ a.ks a.kp):=by unfold Lx.hp;rw[List.getElem?_set_ne h.d3.symm,List.getElem?_set_ne h.d2.symm,List.getElem?_set_self h.lk]
theorem Lx.Ok.vP(h:a.Ok H):(a.hp H aJ push cs)[a.kp]?=some (.lst push):=by unfold Lx.hp;rw[List.getElem?_set_ne h.d6.symm,List.getElem?_set_self (by rw[List.length_set];exact h.lp)]
theorem Lx.Ok.signs(h:a.Ok H):(a.hp H aJ push cs)[a.kS]?=some (.lst (cs.map cY)):=List.getElem?_set_self (by rw[List.length_set,List.length_set];exact h.lS)
theorem Lx.Cg(h1:a.k≠j)(h2:a.kp≠j)(h3:a.kS≠j):(a.hp H aJ push cs)[j]?=H[j]?:=by unfold Lx.hp;rw[List.getElem?_set_ne h3,List.getElem?_set_ne h2,List.getElem?_set_ne h1]
theorem Lx.Ok.stream(h:a.Ok H):∃g,(a.hp H aJ push cs)[a.ks]?=some (.o_ g [(T "read",p5 a.kS)]):=by rw[Lx.Cg h.d1 h.d4 h.d5];exact h.yS
theorem Lx.Va:(a.hp H aJ push cs).set a.kS (.lst (r.map cY))=a.hp H aJ push r:=List.set_set ..
theorem Lx.Ok.Vb(h:a.Ok H):(a.hp H aJ push cs).set a.k (kP l a.ks a.kp)=a.hp H l push cs:=by unfold Lx.hp;rw[List.set_comm _ _ h.d3.symm,List.set_comm _ _ h.d2.symm,List.set_set]
theorem Lx.Ok.Qd(h:a.Ok H):(a.hp H aJ push cs).set a.kp (.lst p)=a.hp H aJ p cs:=by unfold Lx.hp;rw[List.set_comm _ _ h.d6.symm,List.set_set]
theorem Lx.len:(a.hp H aJ push cs).length=H.length:=by unfold Lx.hp;simp only[List.length_set,List.length_set,List.length_set]
variable{d:Nat}
theorem E4(h:a.Ok H):aD (d+2) (p5 a.kS) [.int 1] (a.hp H aJ push cs) (.str (HZ cs)) (a.hp H aJ push cs.tail):=by
 obtain hk:=h.signs (aJ:=aJ) (push:=push) (cs:=cs);refine HG (by kernel_rfl) (by kernel_rfl) ?_;induction cs with |nil=>exact nN (.obj hk .nil) (by kernel_rfl)|cons c r=>exact(nN (.obj hk (.obj hk (.obj hk .nil))) (by kernel_rfl)).hp (H₁:=(a.hp H aJ push (c::r)).set a.kS (.lst (r.map cY))) Lx.Va
theorem rD(h:a.Ok H):aD (d+3) (.fn 35) [.ref a.k] (a.hp H aJ push cs) (.str (HZ cs)) (a.hp H (aJ+yR cs) push cs.tail):=by
 refine(h.stream (aJ:=aJ) (push:=push) (cs:=cs)).elim fun g hg=>?_
 obtain hk:=h.self (aJ:=aJ) (push:=push) (cs:=cs);obtain hr:=E4 (d:=d) (aJ:=aJ) (push:=push) (cs:=cs) h;obtain zz:=h.self (aJ:=aJ) (push:=push) (cs:=cs.tail);have quiet:yR cs=0→(HZ cs==T "\n")=false→aD (d+3) (.fn 35) [.ref a.k] (a.hp H aJ push cs) (.str (HZ cs)) (a.hp H (aJ+yR cs) push cs.tail):=fun h1 h2=>by rw[h1,Int.add_zero];exact aZ (.obj hk (.obj hg (.call hr (.no 4 h2 .nil)))) (by kernel_rfl)
 induction cs using List.casesOn with
 |nil=>exact quiet rfl rfl|cons c r=>
  induction hc:c==10 with
  |true=>cases eq_of_beq hc;exact(aZ (.obj hk (.obj hg (.call hr (.obj zz (.obj zz .nil))))) (by kernel_rfl)).hp (H₁:=(a.hp H aJ push r).set a.k (kP (aJ+1) a.ks a.kp)) h.Vb
  |false=>exact quiet (show(if(c==10)=true then(1:Int) else 0)=0 by rw[hc];rfl) ((cG c 10).trans hc)
noncomputable def cJ(l:List Nat):Int:=((l.filter (·==10)).length:Int)
theorem E5(L:Int):∀cs:List Nat,L-cJ cs+yR cs=L-cJ cs.tail
|[]=>Int.add_zero _|c::r=>by
 obtain e:cJ (c::r)=yR (c::r)+cJ r:=by
  show((List.filter (·==10) (c::r)).length:Int)=(if(c==10)=true then 1 else 0)+_;refine List.filter_cons▸?_;induction c==10
  ·skip
   exact(Int.zero_add _).symm
  ·refine(?_:(((r.filter (·==10)).length+1:Nat):Int)=1+((r.filter (·==10)).length:Int));simp only[Int.natCast_add];exact Int.add_comm _ 1
 show L-cJ (c::r)+yR (c::r)=L-cJ r;rw[e];lia
abbrev Lx.hl(a:Lx)(H:AH)(L:Int)(push:List V)(cs:List Nat):AH:=a.hp H (L-cJ cs) push cs
theorem fD{L:Int}(h:a.Ok H):aD (d+3) (.fn 35) [.ref a.k] (a.hl H L push cs) (.str (HZ cs)) (a.hl H L push cs.tail):=(rD h).hp (congrArg (a.hp H · push cs.tail) (E5 L cs))
end
noncomputable def sL(l:List Nat):Str:=⟨l.toArray⟩
theorem Ci(a b:List Nat):sL a++sL b=sL (a++b):=congrArg Str.mk (List.append_toArray a b)
theorem cR(a:List Nat):(sL a).length=a.length:=List.size_toArray ..
theorem K9{a b:List Nat}(h:a.length+b.length<2^20):jx (.str (sL a)) (.str (sL b))=some (.str (sL (a++b))):=by show(if sizeOk ((sL a).length+(sL b).length) then some (V.str (sL a++sL b)) else none)=_;simp only[cR,cR,show sizeOk (a.length+b.length)=true from decide_eq_true h,Ci];rfl
theorem K_(cs:List Nat):HZ cs=sL (cs.take 1):=by induction cs<;>rfl
noncomputable def isWs(c:Nat):Bool:=c==10||c==9||c==13||c==32
theorem nS(c:Nat)(y:Str):strSub (gQ c) y=y.cps.toList.contains c:=by
 unfold strSub;rw[show gQ c=⟨#[c]⟩ from rfl,lA];rw[Bool.eq_iff_iff];rw[List.contains_iff_mem];constructor
 ·intro h;obtain h2:((List.range' 0 (y.length+1)).filter fun i=>decide (y.cps.toList[i]?=some c))≠[]:=fun e=>by rw[e] at h;simp at h
  obtain⟨i,hi⟩:=List.exists_mem_of_ne_nil _ h2;have :=(zD hi).2
  exact List.mem_of_getElem? (of_decide_eq_true this)
 ·intro h
  obtain⟨i,hi⟩:=List.getElem?_of_mem h;obtain bL:=(cV hi).1;have hm:i∈(List.range' 0 (y.length+1)).filter fun i=>decide (y.cps.toList[i]?=some c):=by
   refine List.mem_filter.mpr ⟨List.mem_range'_1.mpr ⟨Nat.zero_le _,?_⟩,decide_eq_true hi⟩;have :y.length=y.cps.toList.length:=by rfl
   exact aQ (nat_lit 0x19080982111031121102) ae bL this
  induction hf:(List.range' 0 (y.length+1)).filter fun i=>decide (y.cps.toList[i]?=some c) with |nil=>rw[hf] at hm;exact nomatch hm|cons a r=>rfl
theorem jo(c:Nat):strSub (gQ c) (T "\n\t\r ")=isWs c:=by rw[nS];show((c==10)||((c==9)||((c==13)||((c==32)||false))))=_;rw[Bool.or_false,←Bool.or_assoc,←Bool.or_assoc];rfl
def oH(k:Nat)(b:Bool):az:=.lI (.bm k 35) (.str (T "")) b
structure e8(a:Lx)(H:AH)(j:Nat):Prop where
 ok:a.Ok H
 it:H[j]?=some (oH a.k true)
 j1:a.k≠j
 j2:a.kp≠j
 j3:a.kS≠j
 j4:a.ks≠j
def It(d:Nat)(sc:Scope)(t:Expr)(body:List Stmt)(j:Nat)(env:af)(H:AH)(fl:Fl)(aj:af)(H':AH):Prop:=∃m,iX d sc t body j m env H fl aj H'
section
variable{a:Lx}{H H' H₁:AH}{aJ L:Int}{push:List V}{cs r:List Nat}{j c d:Nat}{sc:Scope}{t:Expr}{body:List Stmt}{env aj ao:af}{f fl:Fl}{v:V}
theorem e8.get(h:e8 a H j):(a.hp H aJ push cs)[j]?=some (oH a.k true):=(Lx.Cg h.j1 h.j2 h.j3).trans h.it
theorem e8.call(h:e8 a H j):aD (d+3) (.bm a.k 35) [] (a.hl H L push cs) (.str (HZ cs)) (a.hl H L push cs.tail):=UC (fD h.ok)
theorem tJ(c:Nat):(T ""==gQ c)=false:=oK fun e=>nomatch congrArg (fun x:Str=>x.cps.toList) e
theorem e8.step(h:e8 a H j)(h1:Turn (d+3) sc t body (cY c) env (a.hl H L push r) f ao H₁)(hf:f=.next∨f=.cont)(h2:It (d+3) sc t body j ao H₁ fl aj H'):It (d+3) sc t body j env (a.hl H L push (c::r)) fl aj H':=h2.elim fun m h2=>h1.ex.elim fun b q=>q.elim fun b q=>⟨m+1,.cons h.get h.call h.get rfl (congrArg some (tJ c)) q.1 q.2 hf h2⟩
theorem e8.ret(h:e8 a H j)(h1:Turn (d+3) sc t body (cY c) env (a.hl H L push r) (.ret v) ao H₁):It (d+3) sc t body j env (a.hl H L push (c::r)) (.ret v) ao H₁:=h1.ex.elim fun b q=>q.elim fun b q=>⟨0,.ret h.get h.call h.get rfl (congrArg some (tJ c)) q.1 q.2⟩
theorem e8.dead(h:e8 a H j):(a.hp H aJ push cs).set j (oH a.k false)=a.hp (H.set j (oH a.k false)) aJ push cs:=by unfold Lx.hp;rw[List.set_comm _ _ h.j3,List.set_comm _ _ h.j2,List.set_comm _ _ h.j1]
theorem It.hp(h:It d sc t body j env H fl aj H₁)(q:H₁=H'):It d sc t body j env H fl aj H':=q▸h
theorem e8.stop(h:e8 a H j):It (d+3) sc t body j env (a.hl H L push []) .next env (a.hl (H.set j (oH a.k false)) L push []):=It.hp ⟨0,.stop h.get (H₁:=a.hl H L push []) h.call h.get rfl (congrArg some (beq_self_eq_true (T "")))⟩ h.dead
end
noncomputable def tk(st:Nat→Bool):List Nat→List Nat×List Nat×Bool
|[]=>([],[],false)|[c]=>if st c then([],[],true) else if c==92 then([],[],false) else([c],[],false)
|c::d::r=>if st c then([],d::r,true) else if c==92 then(d::(tk st r).1,(tk st r).2) else(c::(tk st (d::r)).1,(tk st (d::r)).2)
section
variable{st:Nat→Bool}{c:Nat}{r:List Nat}
theorem E6(h:st c=true):tk st (c::r)=([],r,true):=by induction r<;>(unfold tk;rw[h];rfl)
theorem H6(h:st 92=false):tk st [92]=([],[],false):=by unfold tk;rw[h];rfl
theorem Qe(h:st 92=false)(d:Nat):tk st (92::d::r)=(d::(tk st r).1,(tk st r).2):=by rw[tk,h];rfl
theorem La(h:st c=false)(h2:(c==92)=false):tk st (c::r)=(c::(tk st r).1,(tk st r).2):=by
 induction r with |nil=>unfold tk;rw[h,h2];rfl|cons d r=>rw[tk,h,h2];rfl
end
abbrev oB:List Stmt:=d_ (bD (RG 1 2) 3)
abbrev E7:Stmt:=bD (Zx (bD oB 1)) 0
abbrev Zz:List Stmt:=Zy (bD oB 1)
abbrev yT:Stmt:=bD Zz 2
abbrev E8:Scope:=RH 1 2
abbrev tE(k j:Nat)(acc:List Nat):af:=[(T "self",.ref k),(T "token",.str (sL acc)),(T "fiter",.ref j)]
abbrev tK:List Str:=[T "self",T "token",T "fiter"]
structure Lb(st:Nat→Bool)(t:Expr)(body:List Stmt)(a:Lx)(H:AH)(L:Int)(push:List V)(j d:Nat):Prop where
 stop:∀{acc c r},st c=true→Turn (d+3) E8 t body (cY c) (tE a.k j acc) (a.hl H L push r) (.ret (.str (sL acc))) (tE a.k j acc) (a.hl H L push r)
 RJ:∀{acc:List Nat} {cs},acc.length+1<2^20→Turn (d+3) E8 t body (cY 92) (tE a.k j acc) (a.hl H L push cs) .next (tE a.k j (acc++cs.take 1)) (a.hl H L push cs.tail)
 plain:∀{acc:List Nat} {c r},st c=false→(c==92)=false→acc.length+1<2^20→Turn (d+3) E8 t body (cY c) (tE a.k j acc) (a.hl H L push r) .next (tE a.k j (acc++[c])) (a.hl H L push r)
 ne:st 92=false
def RK(b:Bool)(acc:List Nat):Fl:=bif b then .ret (.str (sL acc)) else .next
def eH(H:AH)(k j:Nat)(b:Bool):AH:=bif b then H else H.set j (oH k false)
section
variable{st:Nat→Bool}{t:Expr}{body:List Stmt}{a:Lx}{H:AH}{L:Int}{push:List V}{j d:Nat}
abbrev jq(d:Nat)(t:Expr)(body:List Stmt)(a:Lx)(H:AH)(L:Int)(push:List V)(j:Nat)(acc cs:List Nat)(q:List Nat×List Nat×Bool):Prop:=It (d+3) E8 t body j (tE a.k j acc) (a.hl H L push cs) (RK q.2.2 (acc++q.1)) (tE a.k j (acc++q.1)) (a.hl (eH H a.k j q.2.2) L push q.2.1)
theorem jq.app{acc x cs r:List Nat}{q:List Nat×List Nat×Bool}{c:Nat}(h:e8 a H j)(h1:Turn (d+3) E8 t body (cY c) (tE a.k j acc) (a.hl H L push cs) .next (tE a.k j (acc++x)) (a.hl H L push r))(h2:jq d t body a H L push j (acc++x) r q):jq d t body a H L push j acc (c::cs) (x++q.1,q.2):=by unfold jq at h2⊢;rw[List.append_assoc] at h2;exact h.step h1 (.inl rfl) h2
theorem eR(T:Lb st t body a H L push j d)(h:e8 a H j):∀(cs acc:List Nat),acc.length+cs.length+1<2^20→jq d t body a H L push j acc cs (tk st cs)
|[],acc,aK=>by unfold jq;simp only[show(tk st []).1=[] from rfl,List.append_nil];exact h.stop|[c],acc,hz=>by
 induction hs:st c with
 |true=>rw[E6 hs];unfold jq;rw[List.append_nil];exact h.ret (T.stop hs)|false=>induction hc:c==92 with
  |true=>cases eq_of_beq hc;obtain q:=eR T h [] acc (Nat.lt_of_succ_lt hz);rw[H6 hs];exact jq.app (x:=[]) (q:=([],[],false)) h ((List.append_nil acc).symm▸T.RJ (cs:=[]) (Nat.lt_of_succ_lt hz)) ((List.append_nil acc).symm▸q)
  |false=>rw[La hs hc];exact jq.app (x:=[c]) h (T.plain hs hc (Nat.lt_of_succ_lt hz)) (eR T h [] (acc++[c]) (by refine List.length_append.symm▸?_;exact hz))
|c::d'::r,acc,hz=>by
 obtain hz:acc.length+(r.length+3)<2^20:=hz;obtain L_:acc.length+1<2^20:=by exact aE (nat_lit 0x1000006f1908111000006f3918081101) ae hz
 induction hs:st c with
 |true=>rw[E6 hs];unfold jq;simp only[List.append_nil];exact h.ret (T.stop hs)|false=>induction hc:c==92 with
  |true=>cases eq_of_beq hc;rw[Qe hs];exact jq.app (x:=[d']) h (T.RJ (cs:=d'::r) L_) (eR T h r (acc++[d']) (by rw[List.length_append];show acc.length+1+r.length+1<_;omega))
  |false=>rw[La hs hc];exact jq.app (x:=[c]) h (T.plain hs hc L_) (eR T h (d'::r) (acc++[c]) (by rw[List.length_append];show acc.length+1+(r.length+1)+1<_;omega))
end
section
variable{a:Lx}{H:AH}{L:Int}{push:List V}{j d:Nat}
theorem yU{acc:List Nat}(cs:List Nat)(h:acc.length+1<2^20):jx (.str (sL acc)) (.str (HZ cs))=some (.str (sL (acc++cs.take 1))):=by rw[K_];exact K9 (Nat.lt_of_le_of_lt (Nat.add_le_add_left (List.length_take_le 1 cs) _) h)
theorem E9(h:e8 a H j):Lb (·==34) (dI E7) (d_ E7) a H L push j d where
 stop:=fun{acc c r} hs=>av tK (.no 2 (b:=gQ c==gQ 34) ((cG c 34).trans hs) .nil) (by kernel_rfl)
 RJ:=fun{acc cs} hz=>
  have hk:=h.ok.self (aJ:=L-cJ cs) (push:=push) (cs:=cs)
  av tK (.obj hk (.call (fD (d:=d) (L:=L) (push:=push) (cs:=cs) h.ok) (.val 9 (yU cs hz) .nil))) (by kernel_rfl)
 plain:=fun{acc c r} hs hc hz=>av tK (.no 2 (b:=gQ c==gQ 34) ((cG c 34).trans hs) (.no 5 (b:=gQ c==gQ 92) ((cG c 92).trans hc) (.val 8 (yU [c] hz) .nil))) (by kernel_rfl)
 ne:=rfl
theorem xx(h:e8 a H j):Lb isWs (dI yT) (d_ yT) a H L push j d where
 stop:=fun{acc c r} hs=>
  have hk:=h.ok.self (aJ:=L-cJ r) (push:=push) (cs:=r)
  av tK (.obj hk (.no 4 ((jo c).trans hs) .nil)) (by kernel_rfl)
 RJ:=fun{acc cs} hz=>
  have hk:=h.ok.self (aJ:=L-cJ cs) (push:=push) (cs:=cs)
  av tK (.obj hk (.no 4 (jo 92) (.obj hk (.call (fD (d:=d) (L:=L) (push:=push) (cs:=cs) h.ok) (.val 11 (yU cs hz) .nil))))) (by kernel_rfl)
 plain:=fun{acc c r} hs hc hz=>
  have hk:=h.ok.self (aJ:=L-cJ r) (push:=push) (cs:=r)
  av tK (.obj hk (.no 4 ((jo c).trans hs) (.no 7 (b:=gQ c==gQ 92) ((cG c 92).trans hc) (.val 10 (yU [c] hz) .nil)))) (by kernel_rfl)
 ne:=rfl
noncomputable def gTok:List Nat→List Nat×List Nat×Bool|[]=>([],[],false)|c::r=>if isWs c then gTok r else if c==34 then tk (·==34) r else if c==92 then(r.take 1++(tk isWs r.tail).1,(tk isWs r.tail).2) else(c::(tk isWs r).1,(tk isWs r).2)
abbrev RM:Expr:=dI (bD (RG 1 2) 3)
theorem Vc{c:Nat}{r:List Nat}(h:e8 a H j)(hc:isWs c=true):Turn (d+4) E8 RM oB (cY c) (tE a.k j []) (a.hl H L push r) .cont (tE a.k j []) (a.hl H L push r):=
 have hk:=h.ok.self (aJ:=L-cJ r) (push:=push) (cs:=r)
 av tK (.obj hk (.no 4 ((jo c).trans hc) .nil)) (by kernel_rfl)
abbrev RN(d:Nat)(a:Lx)(H:AH)(L:Int)(push:List V)(j c:Nat)(r:List Nat)(q:List Nat×List Nat×Bool):Prop:=Turn (d+4) E8 RM oB (cY c) (tE a.k j []) (a.hl H L push r) (RK q.2.2 q.1) (tE a.k j q.1) (a.hl (eH H a.k j q.2.2) L push q.2.1)
theorem ZA{r:List Nat}(h:e8 a H j)(hz:r.length+1<2^20):RN d a H L push j 34 r (tk (·==34) r):=by
 obtain hk:=h.ok.self (aJ:=L-cJ r) (push:=push) (cs:=r);obtain hj:=h.get (aJ:=L-cJ r) (push:=push) (cs:=r);obtain⟨m,q⟩:jq d (dI E7) (d_ E7) a H L push j [] r (tk (·==34) r):=eR (E9 h) h r [] (by simp only[List.length_nil,Nat.zero_add];exact hz)
 revert q
 generalize tk (·==34) r=z;obtain⟨x,y,b⟩:=z;induction b<;>exact fun q=>av tK (.obj hk (.no 4 (jo 34) (.ks tK (.obj hj (.lI q .nil))))) (by kernel_rfl)
theorem ZC{c:Nat}{r:List Nat}(h:e8 a H j)(hw:isWs c=false)(Me:(c==34)=false)(Lc:(c==92)=false)(hz:r.length+2<2^20):RN d a H L push j c r (c::(tk isWs r).1,(tk isWs r).2):=by
 obtain hk:=h.ok.self (aJ:=L-cJ r) (push:=push) (cs:=r);obtain hj:=h.get (aJ:=L-cJ r) (push:=push) (cs:=r);obtain⟨m,q⟩:jq d (dI yT) (d_ yT) a H L push j [c] r (tk isWs r):=eR (xx h) h r [c] (by simp only[List.length_singleton,Nat.add_comm 1];exact hz)
 revert q
 generalize tk isWs r=z;obtain⟨x,y,b⟩:=z;obtain e:=yU (acc:=[]) [c] (by decide);induction b<;>exact fun q=>av tK (.obj hk (.no 4 ((jo c).trans hw) (.no 7 (b:=gQ c==gQ 34) ((cG c 34).trans Me) (.no 10 (b:=gQ c==gQ 92) ((cG c 92).trans Lc) (.val 13 e (.ks tK (.obj hj (.lI q .nil)))))))) (by kernel_rfl)
theorem ZD{r:List Nat}(h:e8 a H j)(hz:r.length+2<2^20):RN d a H L push j 92 r (r.take 1++(tk isWs r.tail).1,(tk isWs r.tail).2):=by
 obtain hk:=h.ok.self (aJ:=L-cJ r) (push:=push) (cs:=r);obtain hj:=h.get (aJ:=L-cJ r.tail) (push:=push) (cs:=r.tail);obtain hl:(r.take 1).length+r.tail.length+1<2^20:=by obtain h1:=List.length_take_le 1 r;obtain h2:=List.length_tail (l:=r);exact gS (nat_lit 0x1000006f190288111000006f293811310119201102104) ae h2 h1 (Nat.sub_le (r.length) (1)) hz
 obtain⟨m,q⟩:jq d (dI yT) (d_ yT) a H L push j (r.take 1) r.tail (tk isWs r.tail):=eR (xx h) h r.tail (r.take 1) hl
 revert q
 generalize tk isWs r.tail=z;obtain⟨x,y,b⟩:=z;obtain e:=yU (acc:=[]) r (by decide);obtain hc:=fD (d:=d+1) (L:=L) (push:=push) (cs:=r) h.ok;induction b<;>exact fun q=>av tK (.obj hk (.no 4 (jo 92) (.obj hk (.call hc (.val 14 e (.ks tK (.obj hj (.lI q .nil)))))))) (by kernel_rfl)
theorem Cj(h:e8 a H j):∀cs:List Nat,cs.length+2<2^20→It (d+4) E8 RM oB j (tE a.k j []) (a.hl H L push cs) (RK (gTok cs).2.2 (gTok cs).1) (tE a.k j (gTok cs).1) (a.hl (eH H a.k j (gTok cs).2.2) L push (gTok cs).2.1)
|[],aK=>h.stop (d:=d+1)|c::r,hz=>by
 obtain hz:r.length+3<2^20:=hz;have go:∀q,RN d a H L push j c r q→It (d+4) E8 RM oB j (tE a.k j []) (a.hl H L push (c::r)) (RK q.2.2 q.1) (tE a.k j q.1) (a.hl (eH H a.k j q.2.2) L push q.2.1):=fun q h1=>by
  obtain⟨x,y,b⟩:=q;induction b with |true=>exact h.ret (d:=d+1) h1|false=>exact h.step (d:=d+1) h1 (.inl rfl) ⟨0,.dead (f:=.bm a.k 35) (st:=.str (T "")) ((Lx.Cg h.j1 h.j2 h.j3).trans (List.getElem?_set_self (cV h.it).1))⟩
 unfold gTok;induction hw:isWs c with
 |true=>exact h.step (d:=d+1) (Vc h hw) (.inr rfl) (Cj h r (Nat.lt_of_succ_lt hz))|false=>induction Me:c==34 with
  |true=>cases eq_of_beq Me;exact go _ (ZA h (by solve_by_elim [Nat.le_refl,Nat.le_of_lt,Nat.lt_of_lt_of_le,Nat.le_trans,Nat.lt_of_le_of_lt,Nat.lt_trans]))
  |false=>induction Lc:c==92 with
   |true=>cases eq_of_beq Lc;exact go _ (ZD h (aV (nat_lit 0x1000006f2908111000006f39081101) ae hz))
   |false=>exact go _ (ZC h hw Me Lc (aV (nat_lit 0x1000006f2908111000006f39081101) ae hz))
theorem Lx.Ok.app{o:az}(h:a.Ok H):a.Ok (H++[o]):=by
 obtain e:∀{i:Nat},i<H.length→i<(H++[o]).length:=fun q=>by exact List.length_append▸(Nat.lt_succ_of_lt q)
 obtain⟨g,hg⟩:=h.yS;exact⟨e h.lk,e h.lp,e h.lS,⟨g,by refine(List.getElem?_append_left (cV hg).1).trans ?_;exact hg⟩,h.d1,h.d2,h.d3,h.d4,h.d5,h.d6⟩
theorem Lx.app{o:az}(h:a.Ok H){l:Int}{cs:List Nat}:a.hp H l push cs++[o]=a.hp (H++[o]) l push cs:=by unfold Lx.hp;rw[List.set_append_left _ _ h.lk,List.set_append_left _ _ (by rw[List.length_set];exact h.lp),List.set_append_left _ _ (by simp only[List.length_set,List.length_set];exact h.lS)]
theorem nT{x:V}{p:List V}{cs:List Nat}{l:Int}(h:a.Ok H):aD (d+2) (.fn 42) [.ref a.k] (a.hp H l (x::p) cs) x (a.hp H l p cs):=by obtain hk:=h.self (aJ:=l) (push:=x::p) (cs:=cs);obtain hp:=h.vP (aJ:=l) (push:=x::p) (cs:=cs);exact(aZ (.obj hk (.obj hp (.obj hk (.obj hp (.obj hp .nil))))) (by kernel_rfl)).hp (H₁:=(a.hp H l (x::p) cs).set a.kp (.lst p)) h.Qd
theorem Ld{k:Nat}{v:V}{xs:List V}{H H':AH}(hz:xs.length+1<2^20)(e:H.set k (.lst (xs++[v]))=H'):j5 k (T "append") [v] (.lst xs) H=some (.none,H'):=by exact(congrArg (fun c:Bool=>alt ((if c=true then(do fQ k (.lst (xs++[v]));pure .none:M V) else M.fail) H) none) (show sizeOk (xs.length+1)=true from decide_eq_true hz)).trans (congrArg (fun h=>some (V.none,h)) e)
theorem xy{v:V}{cs:List Nat}{l:Int}(h:a.Ok H)(hz:push.length+1<2^20):aD (d+2) (.fn 49) [.ref a.k,v] (a.hp H l push cs) .none (a.hp H l (push++[v]) cs):=by obtain hk:=h.self (aJ:=l) (push:=push) (cs:=cs);obtain hp:=h.vP (aJ:=l) (push:=push) (cs:=cs);obtain e:=Ld (k:=a.kp) (v:=v) (H:=a.hp H l push cs) hz (h.Qd (p:=push++[v]));exact aZ (.obj hk (.obj hp (.obj hp (.upd 3 e .nil)))) (by kernel_rfl)
theorem yV(cs:List Nat)(h:a.Ok H)(hz:cs.length+2<2^20):aD (d+6) (.fn 42) [.ref a.k] (a.hl H L [] cs) (.str (sL (gTok cs).1)) (a.hl (H++[oH a.k (gTok cs).2.2]) L [] (gTok cs).2.1):=by
 obtain hk:=h.self (aJ:=L-cJ cs) (push:=[]) (cs:=cs);obtain hp:=h.vP (aJ:=L-cJ cs) (push:=[]) (cs:=cs);obtain e0:(a.hl H L [] cs).length=H.length:=Lx.len;have hI:e8 a (H++[oH a.k true]) (a.hl H L [] cs).length:=⟨h.app,e0▸cM,e0▸Nat.ne_of_lt h.lk,e0▸Nat.ne_of_lt h.lp,e0▸Nat.ne_of_lt h.lS,e0▸Nat.ne_of_lt (h.yS.elim fun c q=>(cV q).1)⟩
 obtain hj:=hI.get (aJ:=L-cJ cs) (push:=[]) (cs:=cs);obtain ea:=Lx.app (a:=a) (push:=[]) (o:=oH a.k true) h (l:=L-cJ cs) (cs:=cs);obtain ee:∀b,eH (H++[oH a.k true]) a.k (a.hl H L [] cs).length b=H++[oH a.k b]:=fun b=>by
  induction b with |true=>rfl|false=>show(H++[oH a.k true]).set _ _=_;rw[e0,cN]
 refine(Cj (L:=L) (push:=[]) (d:=d) hI cs hz).elim fun m q=>?_
 rw[show a.hl (H++[oH a.k true]) L [] cs=a.hl H L [] cs++[oH a.k true] from ea.symm,ee] at q;rw[←ea] at hj
 revert q
 generalize gTok cs=z;obtain b:=z.2.2;induction b<;>exact fun q=>aZ (.obj hk (.obj hp (.obj hk (.ks tK (.obj hj (.lI q .nil)))))) (by kernel_rfl)
end
def Vd(c:Nat):Str:=⟨placed (gQ c) fun i a=>Unicode.lowerAt (gQ c).cps i⟩
def lE(c:Nat):Str:=match Hd.e7.lookup (c:Int) with |some x=>x|none=>Vd c
theorem H7{d:Nat}(c:Nat)(H:AH):aD (d+2) (.fn 123) [.str (gQ c)] H (.bool (cH.contains (c:Int))) H:=aZ .nil (by kernel_rfl)
theorem Qf{d:Nat}(c:Nat)(H:AH):aD (d+2) (.fn 169) [.str (gQ c)] H (.str (lE c)) H:=by
 unfold lE;induction hl:Hd.e7.lookup (c:Int) with
 |some x=>
  obtain e:r7 Hd.e7 "get" [.int c] H=some (.str x,H):=by show(pure (match Hd.e7.lookup (c:Int) with |some x=>V.str x|none=>V.none):M V) H=_;refine hl▸?_;rfl
  exact aZ (.upd 4 e .nil) (by kernel_rfl)
 |none=>
  obtain e:r7 Hd.e7 "get" [.int c] H=some (.none,H):=by show(pure (match Hd.e7.lookup (c:Int) with |some x=>V.str x|none=>V.none):M V) H=_;refine hl▸?_;rfl
  exact aZ (.upd 4 e .nil) (by kernel_rfl)
end Mine
end
noncomputable section
open PySem PySem.W PySem.Builtin PySem.Builtin.Str PyProof.Rows
namespace Mine
section
variable{d:Nat}{au:Scope}{out:Out}{g:Comprehension}{gs:List Comprehension}{T:jm}
inductive gR(d:Nat)(au:Scope)(g:Comprehension)(T:jm)(x:V):jm|yes{env ao bk:af}{ac lC:Acc}{H H₁ H₂ H₃:AH}{ks:List Str}(h1:oW d au env g.target x H ao H₁)(h2:B6 d au ao g.ifs H₁ true H₂)(h3:T ao ac H₂ bk lC H₃)(ho:aY G.C au ks bk=true):gR d au g T x env ac H (cU ks bk) lC H₃|no{env ao:af}{ac:Acc}{H H₁ H₂:AH}{ks:List Str}(h1:oW d au env g.target x H ao H₁)(h2:B6 d au ao g.ifs H₁ false H₂)(ho:aY G.C au ks ao=true):gR d au g T x env ac H (cU ks ao) ac H₂
theorem gR.go{x:V}{xs:List V}{env ao aj:af}{ac lC fN:Acc}{H H₁ H':AH}(h:gR d au g T x env ac H ao lC H₁)(k:aG d au g T xs ao lC H₁ aj fN H'):aG d au g T (x::xs) env ac H aj fN H':=by
 induction h with |yes h1 h2 h3 ho=>exact .yes h1 h2 h3 ho k|no h1 h2 ho=>exact .no h1 h2 ho k
theorem aG.fold{σ α:Type}{env:af}(enc:α→V)(A:σ→Acc)(Hp:σ→AH)(f:σ→α→σ)(I:List α→σ→Prop)(hI:∀x xs s,I (x::xs) s→I xs (f s x))(step:∀x xs s,I (x::xs) s→gR d au g T (enc x) env (A s) (Hp s) env (A (f s x)) (Hp (f s x))):
  ∀(xs:List α) (s:σ),I xs s→aG d au g T (xs.map enc) env (A s) (Hp s) env (A (xs.foldl f s)) (Hp (xs.foldl f s))
 |[],aK,bA=>.nil|x::xs,s,h=>(step x xs s h).go (aG.fold enc A Hp f I hI step xs _ (hI x xs s h))
theorem aG.pick{α:Type}{env:af}{H:AH}(enc f:α→V)(p:α→Bool)(xs:List α)(vs:List V)(hz:vs.length+xs.length<ai)(h:∀x∈xs,∀vs:List V,vs.length+1<ai→gR d au g T (enc x) env (.l vs) H env (.l (bif p x then vs++[f x] else vs)) H):
  aG d au g T (xs.map enc) env (.l vs) H env (.l (vs++(xs.filter p).map f)) H:=by
 induction xs generalizing vs with
 |nil=>rw[show vs++(([]:List α).filter p).map f=vs from List.append_nil vs];exact .nil|cons x xs ih=>
  obtain hz:vs.length+(xs.length+1)<ai:=hz;refine(h x (List.mem_cons_self ..) vs (aQ (nat_lit 0x219081121918081101) ae hz)).go ?_;induction hp:p x with |true=>simp only[List.filter_cons_of_pos hp,List.map_cons,List.append_cons vs (f x) (List.map f (List.filter p xs))];exact ih (vs++[f x]) (by rw[List.length_append];show vs.length+1+xs.length<_;exact aQ (nat_lit 0x21190881121918081101) ae hz) fun y hy=>h y (List.mem_cons_of_mem _ hy)|false=>rw[List.filter_cons_of_neg (by exact hp▸(Bool.false_ne_true))];exact ih vs (by solve_by_elim [Nat.le_refl,Nat.le_of_lt,Nat.lt_of_lt_of_le,Nat.le_trans,Nat.lt_of_le_of_lt,Nat.lt_trans]) fun y hy=>h y (List.mem_cons_of_mem _ hy)
noncomputable def Qg(R:RL d)(au:Scope)(env:af):∀(cs:List Expr) (H:AH),CM (Bool×AH) fun r=>B6 (d+1) au env cs H r.1 r.2|[],H=>.ret (true,H) .nil|c::cs,H=>.aL (R.t au env c H) fun a=>.aL (ask a.1) fun w=>match w with |true=>.map (Qg R au env cs a.2) (fun r=>r) fun r h3 h2 h1=>.t (h2▸h1) h3|false=>.ret (false,a.2) fun h2 h1=>.f (h2▸h1)
def Qh(R:RL d)(au:Scope)(out:Out)(env:af)(ac:Acc)(H:AH):CM (Acc×AH) fun r=>Ma (d+1) au out env ac H r.1 r.2:=match out,ac with
|.e x,.l vs=>.aL (R.e au env x H) fun a=>.aL (ask (Nat.blt (vs.length+1) ai)) fun w=>match w with |true=>.ret (.l (vs++[a.1]),a.2) fun h2 h1=>.e h1 (Cd h2)|false=>.nil
|.kv k x,.d kvs=>.aL (R.e au env k H) fun t=>match t with
 |(.str t,H)=>.aL (R.e au env x H) fun a=>.aL (ask (Nat.blt (kvs.length+1) ai)) fun w=>match w with |true=>.ret (.d (aP kvs t a.1),a.2) fun h3 h2 h1=>.kv h1 h2 (Cd h3)|false=>.nil
 |_=>.nil
|aK,bA=>.nil
def Qi(R:RL d)(au:Scope)(out:Out)(gs:List Comprehension)(env:af)(ac:Acc)(H:AH):CM (af×Acc×AH) fun r=>eu (d+1) au out gs env ac H r.1 r.2.1 r.2.2:=match gs with |[]=>.map (Qh R au out env ac H) (fun r=>(env,r)) fun r h=>⟨rfl,h⟩|g::gs=>.aL (cS (g.is_async==0)) fun a=>.aL (K6 R au env g.target g.iter H) fun r=>.map (.cmp (fun aj fN H'=>aG (d+1) au g (eu (d+1) au out gs) r.1.1 env ac r.2 aj fN H')) (fun q=>(q.1,q.2.1,tF r.1.2 q.2.2)) fun q h2 h1 h0=>.mk (eq_of_beq h0) h1.fold h1.src h2 (jN ..)
def Lf(R:RL d)(ks:List Str)(au:Scope)(g:Comprehension)(out:Out)(gs:List Comprehension)(x:V)(env:af)(ac:Acc)(H:AH):CM (af×Acc×AH) fun r=>gR (d+1) au g (eu (d+1) au out gs) x env ac H r.1 r.2.1 r.2.2:=
 .aL (R.a au env g.target x H) fun a=>.aL (Qg R au a.1 g.ifs a.2) fun b=>match b with |(true,H)=>.aL (Qi R au out gs a.1 ac H) fun r=>.map (cS (aY G.C au ks r.1)) (fun c=>(cU ks r.1,r.2)) fun c h4 h3 h2 h1=>.yes h1 h2 h3 h4|(false,H)=>.map (cS (aY G.C au ks a.1)) (fun c=>(cU ks a.1,ac,H)) fun c h3 h2 h1=>.no h1 h2 h3
theorem a_{x:V}{env aj:af}{ac fN:Acc}{H H':AH}{O:List vK}{c:Prop}(ks:List Str)(F:Fz O c)(h:(Lf (run (d:=d) 30) ks au g out gs x env ac H 0 O).map (fun r=>(r.a,r.c True))=some ((aj,fN,H'),c)):gR (d+1) au g (eu (d+1) au out gs) x env ac H aj fN H':=CM.ok (J:=fun r:af×Acc×AH=>gR (d+1) au g (eu (d+1) au out gs) x env ac H r.1 r.2.1 r.2.2) F.h h
end
end Mine
end
noncomputable section
open PySem PySem.W PySem.Builtin PySem.Builtin.Str
namespace Mine
abbrev E_(s:Stmt):Expr:=EY s
abbrev Fb(e:Expr):Expr:=rC e 0
noncomputable def H8:Expr→Scope|.ListComp _ _ s _=>s|.DictComp _ _ _ s _=>s|_=>default
noncomputable def RO:Expr→Out|.ListComp e _ _ _=>.e e|.DictComp k v _ _ _=>.kv k v|e=>.e e
noncomputable def Ck:Expr→List Comprehension|.ListComp _ g _ _=>g|.DictComp _ _ g _ _=>g|_=>[]
noncomputable def Ve(e:Expr):Comprehension:=(Ck e).headD default
abbrev dJ(d:Nat)(e:Expr)(xs:List V)(env:af)(ac:Acc)(H:AH)(fN:Acc)(H':AH):Prop:=aG d (H8 e) (Ve e) (eu d (H8 e) (RO e) (Ck e).tail) xs env ac H env fN H'
abbrev Mf(d:Nat)(e:Expr)(x:V)(env:af)(ac:Acc)(H:AH)(fN:Acc)(H':AH):Prop:=gR d (H8 e) (Ve e) (eu d (H8 e) (RO e) (Ck e).tail) x env ac H env fN H'
theorem nU:∀(i:Nat) (l:List Nat),bw (i:Int) (l.map cY)=(l.zipIdx i).map fun p=>.tup [.int p.2,cY p.1]|aK,[]=>rfl|i,c::r=>congrArg (V.tup [.int i,cY c]::·) (nU (i+1) r)
theorem nV(l:List Nat):(sL l).cps.toList.map (fun c=>V.str ⟨#[c]⟩)=l.map cY:=by rw[show(sL l).cps.toList=l from List.toList_toArray ..];rfl
theorem l5{n k:Nat}{i:Int}(e:i=k∨i+n=k∧i<0)(h:k<n)(hn:n<2^60):cB n i=some k:=by
 unfold cB;rw[if_pos (by simp only[Bool.and_eq_true,decide_eq_true_eq,decide_eq_true_eq];omega)];unfold seqIndex?;rcases e with rfl|⟨e,h0⟩
 ·obtain e1:¬(k:Int)<0:=by exact rQ (nat_lit 0x9096109079101) ae
  obtain e2:(decide (0≤(k:Int))&&decide ((k:Int)<(n:Int)))=true:=by simp only[Bool.and_eq_true,decide_eq_true_eq,decide_eq_true_eq];exact⟨rQ (nat_lit 118063360) ae,DA (nat_lit 25321265959169) ae h⟩
  simp only[e1,if_false];rw[if_pos e2];rfl
 ·obtain e2:(decide (0≤(k:Int))&&decide ((k:Int)<(n:Int)))=true:=by simp only[Bool.and_eq_true,decide_eq_true_eq,decide_eq_true_eq];exact⟨rQ (nat_lit 118063360) ae,DA (nat_lit 25321265959169) ae h⟩
  simp only[h0,if_true,e];rw[if_pos e2];rfl
theorem l6{l:List Nat}{k d:Nat}{i:Int}{H:AH}(e:i=k∨i+l.length=k∧i<0)(h:l[k]?=some d)(hn:l.length<2^60):item H (.str (sL l)) (.int i)=some (cY d):=by show((cB (sL l).length i).bind fun k=>(sL l).cps[k]?.map fun c=>V.str ⟨#[c]⟩)=_;rw[cR,l5 e (cV h).1 hn];show((sL l).cps[k]?.map fun c=>V.str ⟨#[c]⟩)=_;rw[show(sL l).cps[k]?=l[k]? from List.getElem?_toArray ..,h];rfl
theorem bj{a b:Nat}(h:a<b):Nat.blt a b=true:=Nat.ble_eq_true_of_le h
theorem eq_nil(H:AH)(xs:List V):dK H .Eq (.lst xs) (.lst [])=some (.bool xs.isEmpty):=by induction xs<;>rfl
abbrev WU:Expr:=Fb (E_ (bD (bd 17) 0))
noncomputable abbrev Fc(l:List Nat)(p:Nat×Nat):Bool:=!(some p.1==l[l.length-1-p.2]?)
theorem Fd{d:Nat}{H:AH}{l:List Nat}(hl:l.length<2^19)(p:Nat×Nat)(hp:p∈l.zipIdx 0)(vs:List V)(hz:vs.length+1<ai):Mf (d+1) WU (.tup [.int p.2,cY p.1]) [(T "text",.str (sL l))] (.l vs) H (.l (bif Fc l p then vs++[cY p.1] else vs)) H:=by
 obtain⟨c,i⟩:=p;obtain hi:=(List.mem_zipIdx hp).2.1;rw[Nat.zero_add] at hi;obtain⟨x,hx⟩:∃x,l[l.length-1-i]?=some x:=⟨_,List.getElem?_eq_getElem (by exact Ln.go (nat_lit 0x10111192821200102) [_,_,_,0] ae (Nat.sub_le (l.length-1) (i)) (Nat.sub_add_cancel (aE (nat_lit 1206903640321) ae hi:1≤l.length)))⟩;obtain e:=l6 (H:=H) (i:=-1-(i:Int)) (l:=l) (k:=l.length-1-i) (.inr (⟨NR (nat_lit 0x27170719dc8a51193834302834028301193810114) ae (Ln.aN (l.length) (1)) (Ln.aN (l.length-1) (i)) (Nat.sub_add_cancel (aQ (nat_lit 0x20011928101101102) ae hi (Ln.aN (l.length) (1)):i≤l.length-1)) (Nat.sub_add_cancel (aE (nat_lit 1206903640321) ae hi:1≤l.length)),rQ (nat_lit 9926103306496) ae⟩)) hx (aV (nat_lit 0x1000000000000000100f011800005f01101) ae hl);obtain eb:Fc l (c,i)=!(c==x):=by unfold Fc;refine hx▸?_;rfl
 simp only[eb];obtain et:(!(gQ c==gQ x))=!(c==x):=congrArg (!·) (cG c x);induction hb:c==x with |true=>exact a_ [T "text"] (.val 4 e (.no 6 (x:=false) (et.trans (congrArg (!·) hb)) .nil)) (by kernel_rfl)|false=>exact a_ [T "text"] (.val 4 e (.no 6 (x:=true) (et.trans (congrArg (!·) hb)) (.no 8 (bj hz) .nil))) (by kernel_rfl)
theorem Fe(l:List Nat):(((l.zipIdx 0).filter (Fc l)).map fun p=>cY p.1).isEmpty=decide (l.reverse=l):=by
 rw[List.isEmpty_map,Bool.eq_iff_iff,List.isEmpty_iff,List.filter_eq_nil_iff,decide_eq_true_iff];obtain key:(∀p∈l.zipIdx 0,¬Fc l p=true)↔∀i,i<l.length→l[i]?=l[l.length-1-i]?:=by
  constructor
  ·intro h i hi;obtain hm:(l[i],i)∈l.zipIdx 0:=List.mem_zipIdx_iff_getElem?.mpr (by simp);obtain q:=h _ hm;simp only[Bool.not_eq_true',Bool.not_eq_false,beq_iff_eq] at q;simp only[←q,List.getElem?_eq_getElem hi]
  ·intro h p hp hs;obtain q:=List.mem_zipIdx_iff_getElem?.mp hp;obtain hi:=(cV q).1;obtain e:=h p.2 hi;unfold Fc at hs;rw[←e,q] at hs;simp at hs
 refine key.trans ?_;constructor
 ·intro h;refine List.ext_getElem? fun i=>?_
  by_cases hi:i<l.length
  ·simp only[List.getElem?_reverse hi,h i hi]
  ·rw[List.getElem?_eq_none (by rw[List.length_reverse];exact aE (nat_lit 4312813825) ae hi),List.getElem?_eq_none (by exact aE (nat_lit 4312813825) ae hi)]
 ·intro h i hi;obtain e:=List.getElem?_reverse (l:=l) hi
  rwa [h] at e
theorem Cm{d:Nat}(l:List Nat)(H:AH)(hl:l.length<2^19):aD (d+2) (.fn 200) [.str (sL l)] H (.bool (decide (l.reverse=l))) H:=by
 obtain q:dJ (d+1) WU ((l.zipIdx 0).map fun p=>.tup [.int p.2,cY p.1]) [(T "text",.str (sL l))] (.l []) H (.l (((l.zipIdx 0).filter (Fc l)).map fun p=>cY p.1)) H:=aG.pick _ _ (Fc l) (l.zipIdx 0) [] (by simp only[List.length_zipIdx,List.length_nil];unfold ai;exact aV (nat_lit 0x1000006f009811800005f01101) ae hl) fun p hp vs hz=>Fd hl p hp vs hz
 rw[←nU,←nV] at q;obtain e:=eq_nil H (((l.zipIdx 0).filter (Fc l)).map fun p=>cY p.1);rw[Fe] at e;exact aZ (.cmp q (.val 2 e .nil)) (by kernel_rfl)
theorem Ff{α β:Type}(f:α→β)(xs:List α)(lo hi:Option Int):cut (xs.map f) lo hi=(cut xs lo hi).map f:=by unfold cut;rw[List.length_map,List.map_take,List.map_drop]
theorem tL{α:Type}(f:α→V):∀(i:Nat) (l:List α),bw (i:Int) (l.map f)=(l.zipIdx i).map fun p=>.tup [.int p.2,f p.1]|aK,[]=>rfl|i,c::r=>congrArg (V.tup [.int i,f c]::·) (tL f (i+1) r)
theorem xA{H:AH}{k:Nat}{xs:List V}(hk:H[k]?=some (.lst xs)):g_ "len" [.ref k] H=some (.int xs.length,H):=congrArg (fun v=>(Mt v).map fun(n:Nat)=>(V.int n,H)) (l0 hk)
section
variable{d k:Nat}{H:AH}{ns:List Int}{m:Nat}
abbrev Vf(k:Nat)(ns:List Int):af:=[(T "script",.lst (ns.map .int)),(T "cells",.ref k)]
theorem iE{xs:List V}{j:Nat}{i:Int}{v:V}(e:i=j∨i+xs.length=j∧i<0)(h:xs[j]?=some v)(hn:xs.length<2^60):lD (some (.lst xs)) (.int i)=some v:=by show(cB xs.length i).bind (fun k=>xs[k]?)=_;exact(l5 e (cV h).1 hn)▸(h)
theorem nW{X:AH}{xs:List V}{j:Nat}{i:Int}{v:V}(e:i=j∨i+xs.length=j∧i<0)(h:xs[j]?=some v)(hn:xs.length<2^60):item X (.lst xs) (.int i)=some v:=iE e h hn
theorem Cn{xs ys:List V}{i:Int}{k:Nat}{v:V}{H:AH}(hs:jc xs i v=some ys):wA k i v (.lst xs) H=some ((),H.set k (.lst ys)):=by show(match jc xs i v with |some ys=>fQ k (.lst ys)|none=>M.fail:M Unit) H=_;rw[hs];rfl
theorem yW{xs:List V}{i:Int}{j:Nat}{v:V}(e:i=j)(h:j<xs.length)(hn:xs.length<2^60):jc xs i v=some (xs.set j v):=by unfold jc;rw[if_pos (decide_eq_true (e▸Int.natCast_nonneg j)),l5 (.inl e) h hn];rfl
theorem vQ{xs:List V}{j k:Nat}{v:V}{H H':AH}(h:j<xs.length)(hn:xs.length<2^60)(e:H.set k (.lst (xs.set j v))=H'):wA k (j:Int) v (.lst xs) H=some ((),H'):=e▸Cn (yW rfl h hn)
theorem ZE:binop .Pow (.int 10) (.int 12)=some (.int 1000000000000):=by exact congrArg (fun x=>some (V.int x)) (by decide:(10:Int)^(12:Int).toNat=1000000000000)
noncomputable def tM(m:Nat)(s:List Int)(p:Int×Nat):List Int:=s.set (p.2 %m) (s.getD (p.2 %m) 0+p.1.fmod 1000000000000)
theorem Fg(hk:k<H.length)(h0:0<m)(h1:m<100)(s:List Int)(hs:s.length=m)(p:Int×Nat):
  Turn (d+1) (tH 13) (dI (bD (bd 13) 0)) (d_ (bD (bd 13) 0)) (.tup [.int p.2,.int p.1]) (Vf k ns) (H.set k (.lst (s.map .int))) .next (Vf k ns) (H.set k (.lst ((tM m s p).map .int))):=by
 obtain x:=p.1;obtain n:=p.2;obtain g:(H.set k (.lst (s.map .int)))[k]?=some (.lst (s.map .int)):=List.getElem?_set_self hk;obtain hl:(s.map V.int).length=m:=by simp only[List.length_map,hs]
 obtain e1:=xA g;rw[hl] at e1;obtain hm:n %m<m:=Nat.mod_lt _ h0;obtain ef:(n:Int).fmod (m:Int)=((n %m:Nat):Int):=by refine(Int.fmod_eq_emod_of_nonneg _ (Int.natCast_nonneg m)).trans ?_;rfl
 generalize n %m=i at hm ef;obtain e2:binop .Mod (.int n) (.int m)=some (.int (i:Int)):=by show(if((m:Int)!=0)=true then some (V.int ((n:Int).fmod m)) else none)=_;rw[if_pos (by simp only[bne_iff_ne];exact DA (nat_lit 0x909610917a1101102) ae hm),ef]
 obtain ei:(s.map V.int)[i]?=some (.int (s.getD i 0)):=by simp only[List.getElem?_map,List.getD_eq_getElem?_getD,List.getElem?_eq_getElem (by rw[hs];exact hm)];rfl
 obtain e3:=iE (i:=i) (.inl rfl) ei (by rw[hl];exact aV (nat_lit 0x1000000000000000100f01164e01101) ae h1);obtain e4:=vQ (k:=k) (H:=H.set k (.lst (s.map .int))) (v:=.int (s.getD i 0+x.fmod 1000000000000)) (j:=i) (xs:=s.map V.int) (by rw[hl];exact hm) (by rw[hl];exact aV (nat_lit 0x1000000000000000100f01164e01101) ae h1) rfl;rw[List.set_set,←List.map_set] at e4;exact av [T "script",T "cells"] (.upd 4 e1 (.val 5 e2 (.obj g (.val 6 e3 (.val 8 ZE (.obj g (.vL 11 e4 .nil))))))) (by kernel_rfl)
theorem tN(H:AH)(n:Nat):∀xs:List Int,eB (freeze (n+1)) (xs.map .int) H=some (xs.map .int,H)|[]=>rfl|x::xs=>by unfold eB;exact bC (a:=.int x) (H':=H) rfl (bC (tN H n xs) rfl)
theorem Fi{H:AH}{k n:Nat}{xs:List Int}(hk:H[k]?=some (.lst (xs.map .int))):freeze (n+2) (.ref k) H=some (.lst (xs.map .int),H.set k .gone):=bC (a:=az.lst (xs.map .int)) (H':=H) (by unfold hget;rw[hk]) (bC (m:=fQ k .gone) (a:=()) (H':=H.set k .gone) rfl (bC (tN _ n xs) rfl))
theorem p6(s:List Int)(p:Int×Nat):(tM m s p).length=s.length:=List.length_set ..
theorem Co{cs:List Int}(hk:k<H.length)(h0:0<m)(h1:m<100)(hc:cs.length=m):∃Mg:List Int,Mg.length=m∧aD (d+2) (.fn 176) [.lst (ns.map .int),.ref k] (H.set k (.lst (cs.map .int))) (.lst (Mg.map .int)) (H.set k .gone):=by
 obtain l:=bZ.fold (d:=d+1) (sc:=tH 13) (t:=dI (bD (bd 13) 0)) (body:=d_ (bD (bd 13) 0)) (fun p:Int×Nat=>V.tup [.int p.2,.int p.1]) (fun a=>Vf k ns) (fun s:List Int=>H.set k (.lst (s.map .int))) (tM m) (fun a s=>s.length=m) (fun a a s h=>(p6 s _).trans h) (fun p a s h=>Fg hk h0 h1 s h p) ((cut ns none (some 60)).zipIdx 0) cs hc;obtain hl:(((cut ns none (some 60)).zipIdx 0).foldl (tM m) cs).length=m:=by
  generalize (cut ns none (some 60)).zipIdx 0=ps;clear l;induction ps generalizing cs with |nil=>exact hc|cons p r ih=>exact ih ((p6 cs p).trans hc)
 rw[←tL,←Ff] at l
 revert hl l
 generalize ((cut ns none (some 60)).zipIdx 0).foldl (tM m) cs=Mg;intro l hl;obtain g:(H.set k (.lst (Mg.map .int)))[k]?=some (.lst (Mg.map .int)):=List.getElem?_set_self hk;refine⟨Mg,hl,?_⟩;obtain q:=Fi (n:=8) g;rw[List.set_set] at q;exact BS (aZ (.loop l .nil) (by kernel_rfl)) q
end
section
variable{d k ks j:Nat}{H:AH}{a:Lx}{v:V}{o:az}
theorem get_set{H:AH}{i j:Nat}{o:az}(h:i≠j):(H.set i o)[j]?=H[j]?:=List.getElem?_set_ne h
abbrev o1:az:=.inst 52 [(T "lineno",.int 1)]
abbrev o2(ks:Nat):az:=.inst 52 [(T "lineno",.int 1),(T "instream",.ref ks)]
abbrev o3(ks:Nat):az:=.inst 52 [(T "lineno",.int 1),(T "instream",.ref ks),(T "whitespace",.str (T "\n\t\r "))]
theorem Fj(hk:H[k]?=some (.inst 52 [])):aD (d+2) (.fn 28) [.ref k,.ref ks] H .none ((H++[az.lst []]).set k (kP 1 ks H.length)):=by
 obtain lt:=(cV hk).1;obtain k1:(H.set k o1)[k]?=some o1:=List.getElem?_set_self lt;obtain k2:((H.set k o1).set k (o2 ks))[k]?=some (o2 ks):=List.getElem?_set_self (by rw[List.length_set];exact lt);obtain k3:(((H.set k o1).set k (o2 ks)).set k (o3 ks)++[az.lst []])[k]?=some (o3 ks):=by rw[List.set_set,List.set_set,List.getElem?_append_left (by rw[List.length_set];exact lt)];exact List.getElem?_set_self lt
 refine(aZ (.obj hk (.obj k1 (.obj k2 (.obj k3 .nil)))) (by kernel_rfl)).hp (H₁:=(((H.set k o1).set k (o2 ks)).set k (o3 ks)++[az.lst []]).set k (kP 1 ks (((H.set k o1).set k (o2 ks)).set k (o3 ks)).length)) ?_;rw[List.set_set,List.set_set,List.length_set,List.set_append_left _ _ (by rw[List.length_set];exact lt),List.set_set,List.set_append_left _ _ lt]
theorem yX{g:V}:aD (d+3) (.cls 52) [.ref ks] H (.ref H.length) ((H++[kP 1 ks (H.length+1)])++[az.lst []]):=by obtain q:=Fj (d:=d) (ks:=ks) (H:=H++[az.inst 52 []]) (k:=H.length) cM;rw[List.set_append_left _ _ (by exact List.length_append▸(Nat.lt_succ_self _)),cN,List.length_append] at q;exact HM (fk:=28) (cd:=((G.C.gh.lookup 52).getD ⟨[],[]⟩)) (by kernel_rfl) (by kernel_rfl) q
theorem Cp(hv:qB v=true)(hk:H[k]?=some (.inst 80 [])):aD (d+2) (.fn 70) [.ref k,v] H .none (H.set k (.inst 80 [(T "comp_select_list",v)])):=aZ (.obj hk .nil) (by kernel_rfl)
theorem Lx.Cq{l:Int}{p:List V}{cs:List Nat}(h1:a.k≠j)(h2:a.kp≠j)(h3:a.kS≠j):(a.hp H l p cs).set j o=a.hp (H.set j o) l p cs:=by unfold Lx.hp;rw[List.set_comm _ _ h3,List.set_comm _ _ h2,List.set_comm _ _ h1]
theorem Lx.Ok.Cc(h:a.Ok H)(h4:a.ks≠j):a.Ok (H.set j o):=by
 have e:∀{i:Nat},i<H.length→i<(H.set j o).length:=fun q=>by rw[List.length_set];exact q
 exact⟨e h.lk,e h.lp,e h.lS,by rw[get_set (Ne.symm h4)];exact h.yS,h.d1,h.d2,h.d3,h.d4,h.d5,h.d6⟩
end
theorem nX(st:Nat→Bool):∀cs:List Nat,(tk st cs).2.1.length≤cs.length
|[]=>Nat.le_refl _|[c]=>by
 unfold tk;induction st c
 ·induction c==92<;>exact Nat.zero_le _
 ·exact Nat.zero_le _
|c::d::r=>by
 obtain h1:=nX st r;obtain h2:=nX st (d::r);simp only[tk];induction st c
 ·induction c==92
  ·exact Nat.le_succ_of_le h2
  ·exact Nat.le_succ_of_le (Nat.le_succ_of_le h1)
 ·exact Nat.le_succ _
theorem tO:∀cs:List Nat,(gTok cs).2.1.length≤cs.length
|[]=>Nat.le_refl _|c::r=>by
 unfold gTok;induction isWs c
 ·induction c==34
  ·induction c==92
   ·exact Nat.le_succ_of_le (nX _ r)
   ·exact Nat.le_succ_of_le (Nat.le_trans (nX _ r.tail) (by exact List.length_tail▸(Nat.sub_le ..)))
  ·exact Nat.le_succ_of_le (nX _ r)
 ·exact Nat.le_succ_of_le (tO r)
noncomputable def lexN:Nat→List Nat→List (List Nat)×List Nat|0,cs=>([],cs)|m+1,cs=>((gTok cs).1::(lexN m (gTok cs).2.1).1,(lexN m (gTok cs).2.1).2)
def aC(t:List Nat):V:=.str (sL t)
abbrev Qj(a:Lx)(kT:Nat)(l:List Nat)(m:Int):af:=[(T "text",.str (sL l)),(T "count",.int m),(T "signs",.ref a.kS),(T "tokens",.ref kT),(T "stream",.ref a.ks),(T "lexer",.ref a.k)]
abbrev ZF:List Str:=[T "text",T "count",T "signs",T "tokens",T "stream",T "lexer"]
structure i7(a:Lx)(B:AH)(kT:Nat):Prop where
 ok:a.Ok B
 lt:kT<B.length
 n1:a.k≠kT
 n2:a.kp≠kT
 n3:a.kS≠kT
 n4:a.ks≠kT
theorem i7.app{a:Lx}{B:AH}{kT:Nat}{o:az}(h:i7 a B kT):i7 a (B++[o]) kT:=⟨h.ok.app,by rw[List.length_append];exact Nat.lt_succ_of_lt h.lt,h.n1,h.n2,h.n3,h.n4⟩
abbrev uh(a:Lx)(kT:Nat)(L:Int)(B:AH)(ts:List (List Nat))(cs:List Nat):AH:=a.hl (B.set kT (.lst (ts.map aC))) L [] cs
section
variable{a:Lx}{B:AH}{kT d:Nat}{L m:Int}{l:List Nat}{ts:List (List Nat)}{cs:List Nat}
theorem Cs(i:Int)(h:i7 a B kT)(hz:cs.length+2<2^20)(ht:ts.length<1000):
  Turn (d+6) (tH 16) (dI (bD (bd 16) 3)) (d_ (bD (bd 16) 3)) (.int i) (Qj a kT l m) (uh a kT L B ts cs) .next (Qj a kT l m) (uh a kT L (B++[oH a.k (gTok cs).2.2]) (ts++[(gTok cs).1]) (gTok cs).2.1):=by
 obtain O1:=h.ok.Cc (o:=.lst (ts.map aC)) h.n4;obtain g:=yV (d:=d) (L:=L) cs O1 hz;obtain O2:=O1.app (o:=oH a.k (gTok cs).2.2);obtain eb:B.set kT (.lst (ts.map aC))++[oH a.k (gTok cs).2.2]=(B++[oH a.k (gTok cs).2.2]).set kT (.lst (ts.map aC)):=by rw[List.set_append_left _ _ h.lt]
 rw[eb] at g O2;obtain yY:=h.app (o:=oH a.k (gTok cs).2.2)
 revert g O2 yY
 generalize oH a.k (gTok cs).2.2=o;generalize gTok cs=z;obtain x:=z.1;obtain y:=z.2.1;intro g O2 yY;obtain k0:=O1.self (aJ:=L-cJ cs) (push:=[]) (cs:=cs);obtain k2:=O2.self (aJ:=L-cJ y) (push:=[aC x]) (cs:=y);obtain p:=xy (d:=d+4) (v:=aC x) (push:=[]) (cs:=y) (l:=L-cJ y) O2 (by decide);obtain q:=nT (d:=d+4) (x:=aC x) (p:=[]) (cs:=y) (l:=L-cJ y) O2;obtain kt:(a.hl ((B++[o]).set kT (.lst (ts.map aC))) L [] y)[kT]?=some (.lst (ts.map aC)):=(Lx.Cg yY.n1 yY.n2 yY.n3).trans (List.getElem?_set_self yY.lt);obtain e:=Ld (k:=kT) (v:=aC x) (xs:=ts.map aC) (H:=a.hl ((B++[o]).set kT (.lst (ts.map aC))) L [] y) (by rw[List.length_map];exact aV (nat_lit 0x1000006f1908113e83f01101) ae ht) rfl;rw[Lx.Cq yY.n1 yY.n2 yY.n3,List.set_set,←List.map_singleton,←List.map_append] at e;obtain ZG:(a.hl ((B++[o]).set kT (.lst (ts.map aC))) L [aC x] y)[kT]?=some (.lst (ts.map aC)):=(Lx.Cg yY.n1 yY.n2 yY.n3).trans (List.getElem?_set_self yY.lt);exact av ZF (.obj k0 (.obj k0 (.call g (.call p (.obj ZG (.obj k2 (.call q (.obj kt (.upd 4 e .nil))))))))) (by kernel_rfl)
abbrev RP:Type:=AH×List (List Nat)×List Nat
def RQ(k:Nat)(s:RP)(_:Nat):RP:=(s.1++[oH k (gTok s.2.2).2.2],s.2.1++[(gTok s.2.2).1],(gTok s.2.2).2.1)
theorem xB(k:Nat):∀(xs:List Nat) (s:RP),∃t,xs.foldl (RQ k) s=(s.1++t,s.2.1++(lexN xs.length s.2.2).1,(lexN xs.length s.2.2).2)|[],s=>⟨[],by rw[List.append_nil];exact congrArg (fun x=>(s.1,x,s.2.2)) (List.append_nil _).symm⟩|x::xs,s=>by obtain⟨t,h⟩:=xB k xs (RQ k s x);refine⟨oH k (gTok s.2.2).2.2::t,h.trans ?_⟩;show((s.1++[_])++t,(s.2.1++[_])++_,_)=_;simp only[List.append_assoc,List.append_assoc];rfl
theorem Ct(n:Nat)(h:i7 a B kT)(hz:cs.length+2<2^20)(ht:n<1000):∃t,bZ (d+6) (tH 16) (dI (bD (bd 16) 3)) (d_ (bD (bd 16) 3)) ((List.range n).map fun(i:Nat)=>.int (0+(i:Int))) (Qj a kT l m) (uh a kT L B [] cs) .next (Qj a kT l m) (uh a kT L (B++t) (lexN n cs).1 (lexN n cs).2):=by
 obtain q:=bZ.fold (d:=d+6) (sc:=tH 16) (t:=dI (bD (bd 16) 3)) (body:=d_ (bD (bd 16) 3)) (fun i:Nat=>V.int (0+(i:Int))) (fun b=>Qj a kT l m) (fun s:RP=>uh a kT L s.1 s.2.1 s.2.2) (RQ a.k) (fun xs s=>i7 a s.1 kT∧s.2.2.length+2<2^20∧s.2.1.length+xs.length<1000)
  (fun x xs s h=>⟨h.1.app,Nat.lt_of_le_of_lt (Nat.add_le_add_right (tO _) 2) h.2.1,by obtain this:=h.2.2;unfold RQ;rw[List.length_append];simp only[List.length_cons,List.length_nil] at this⊢;exact aE (nat_lit 0x3e83f119098088113e83f1918081101) ae this⟩)
  (fun x xs s h=>Cs _ h.1 h.2.1 (Nat.lt_of_le_of_lt (Nat.le_add_right _ _) h.2.2)) (List.range n) (B,[],cs) ⟨h,hz,by simp only[List.length_range,List.length_nil,Nat.zero_add];exact ht⟩
 refine(xB a.k (List.range n) (B,[],cs)).elim fun t e=>?_
 rw[e,List.length_range] at q;exact⟨t,q⟩
theorem xC{n:Int}{H:AH}(h:iK n=true):gj false "range" [.int n] H=some (.mj 0 n,H):=congrArg (fun c=>alt (bif c then some (V.mj 0 n,H) else none) none) h
theorem gC(n:Nat)(H:AH)(h:n<2^60):gj false "range" [.int n] H=some (.mj 0 n,H):=xC (decide_eq_true (by exact h))
theorem Lg(l:List Nat)(H:AH)(h:l.length<2^20):gj true "list" [.str (sL l)] H=some (.ref H.length,H++[.lst (l.map cY)]):=by show(bif sizeOk ((sL l).cps.toList.map fun c=>V.str ⟨#[c]⟩).length then gY (.lst ((sL l).cps.toList.map fun c=>V.str ⟨#[c]⟩)) H else none)=_;rw[nV,show sizeOk (l.map cY).length=true from decide_eq_true (by rw[List.length_map];exact h)];rfl
end
theorem set_same{H:AH}{j:Nat}{o:az}(h:H[j]?=some o):H.set j o=H:=by
 refine List.ext_getElem? fun i=>?_
 by_cases e:j=i
 ·subst e;rw[List.getElem?_set_self (cV h).1,h]
 ·exact List.getElem?_set_ne e
theorem Cu(H xs:AH)(i:Nat):(H++xs)[H.length+i]?=xs[i]?:=by rw[List.getElem?_append_right (Nat.le_add_right ..),Nat.add_sub_cancel_left]
abbrev Lh(e:Expr)(i:Nat):Expr:=rC e i
abbrev Qk:Expr:=Lh (jn (bD (bd 16) 0)) 2
abbrev g0:V:=.rO [] (E1 Qk) (E2 Qk) []
section
variable{d n:Nat}{l:List Nat}{H:AH}
abbrev Mh(H:AH)(l:List Nat):AH:=H++[.lst (l.map cY)]
abbrev Fo(H:AH)(l:List Nat):AH:=Mh H l++[.lst []]
abbrev DI(H:AH)(l:List Nat):AH:=(Fo H l++[az.o_ g0 []]).set (Fo H l).length (.o_ g0 [(T "read",p5 H.length)])
abbrev p7(H:AH)(l:List Nat):AH:=(DI H l++[kP 1 (Fo H l).length ((DI H l).length+1)])++[.lst []]
theorem vR:p7 H l=H++[.lst (l.map cY),.lst [],.o_ g0 [(T "read",p5 H.length)],kP 1 (H.length+2) (H.length+4),.lst []]:=by unfold p7 DI;rw[cN];simp only[List.length_append,List.length_cons,List.length_nil,List.append_assoc];rfl
theorem Vg:(Mh H l).length=H.length+1∧(Fo H l).length=H.length+2∧(DI H l).length=H.length+3:=by simp only[List.length_set,List.length_append,List.length_cons,List.length_nil,and_self,Nat.add_assoc]
theorem Cv(n:Nat)(hn:n<1000)(hz:l.length+2<2^20):∃(a:Lx) (kT:Nat) (B:AH),i7 a B kT∧(∀j,j<H.length→B[j]?=H[j]?)∧H.length≤a.k∧
  aD (d+8) (.fn 195) [.str (sL l),.int n] H (.tup [.ref a.k,.ref a.kS,.ref kT]) (uh a kT (1+cJ l) B (lexN n l).1 (lexN n l).2):=by
 obtain⟨e1,e2,e4⟩:=Vg (H:=H) (l:=l);let a:Lx:=⟨(DI H l).length,(Fo H l).length,(DI H l).length+1,H.length⟩
 have g:∀i,(p7 H l)[H.length+i]?=([.lst (l.map cY),.lst [],.o_ g0 [(T "read",p5 H.length)],kP 1 (H.length+2) (H.length+4),.lst []]:AH)[i]?:=fun i=>by rw[vR];exact Cu ..
 have Cw:(p7 H l).length=H.length+5:=by rw[vR,List.length_append];rfl
 have A:i7 a (p7 H l) (Mh H l).length:=by
  have h4:a.k=H.length+3:=e4;have h2:a.ks=H.length+2:=e2
  have hp:a.kp=H.length+4:=congrArg (·+1) e4;have hS:a.kS=H.length:=rfl
  refine⟨⟨?_,?_,?_,⟨g0,by rw[h2];exact g 2⟩,?_,?_,?_,?_,?_,?_⟩,?_,?_,?_,?_,?_⟩<;>(first|exact aQ (nat_lit 0x20115918231391802102) ae h4 Cw|exact aQ (nat_lit 0x20115918231491802102) ae hp Cw|exact aE (nat_lit 18784333082881) ae Cw|exact aQ (nat_lit 0x9096102213918231291802103) ae h2 h4|exact aQ (nat_lit 0x9096102313918221491803103) ae hp h4|exact aE (nat_lit 0x909611021391803102) ae h4|exact aQ (nat_lit 0x9096120212918221491803103) ae hp h2|exact aE (nat_lit 0x909610131291803102) ae h2|exact aE (nat_lit 0x909611021491803102) ae hp|exact aQ (nat_lit 0x2115918031191822102) ae e1 Cw|exact aQ (nat_lit 0x9096120211918221391803103) ae h4 e1|exact aQ (nat_lit 0x9096120211918221491803103) ae hp e1|exact aE (nat_lit 0x909610131191803102) ae e1|exact aQ (nat_lit 0x9096120211918221291803103) ae h2 e1)
 have eq:uh a (Mh H l).length (1+cJ l) (p7 H l) [] l=p7 H l:=by
  show a.hp ((p7 H l).set (Mh H l).length (.lst [])) (1+cJ l-cJ l) [] l=_;rw[set_same (by rw[e1];exact g 1),Int.add_sub_cancel];have s1:(p7 H l).set a.k (kP 1 a.ks a.kp)=p7 H l:=set_same (by show(p7 H l)[(DI H l).length]?=some (kP 1 (Fo H l).length ((DI H l).length+1));rw[e4,e2];exact g 3)
  have s2:(p7 H l).set a.kp (.lst [])=p7 H l:=set_same (by show(p7 H l)[(DI H l).length+1]?=_;rw[e4];exact g 4);have s3:(p7 H l).set a.kS (.lst (l.map cY))=p7 H l:=set_same (g 0)
  unfold Lx.hp;rw[s1,s2,s3]
 obtain⟨t,q⟩:=Ct (d:=d+1) (L:=1+cJ l) (l:=l) (m:=n) (cs:=l) n A hz hn;rw[eq] at q;refine⟨a,(Mh H l).length,p7 H l++t,?_,fun j hj=>?_,?_,?_⟩
 ·have le:∀{i},i<(p7 H l).length→i<(p7 H l++t).length:=fun q=>by rw[List.length_append];exact aQ (nat_lit 36833925796097) ae q
  obtain⟨f,hf⟩:=A.ok.yS;exact⟨⟨le A.ok.lk,le A.ok.lp,le A.ok.lS,⟨f,by rw[List.getElem?_append_left (cV hf).1];exact hf⟩,A.ok.d1,A.ok.d2,A.ok.d3,A.ok.d4,A.ok.d5,A.ok.d6⟩,le A.lt,A.n1,A.n2,A.n3,A.n4⟩
 ·rw[List.getElem?_append_left (by rw[Cw];exact aE (nat_lit 0x5918011101101) ae hj),vR,List.getElem?_append_left hj]
 ·dsimp only[a];rw[e4];exact aV (nat_lit 15309209856) ae
 ·have u0:=Lg l H (aV (nat_lit 0x1000006f0111000006f29081101) ae hz);have r0:=gC n (p7 H l) (aV (nat_lit 0x1000000000000000100f0113e83f01101) ae hn);have f0:(Fo H l++[az.o_ g0 []])[(Fo H l).length]?=some (.o_ g0 []):=cM
  have nw:=yX (d:=d+4) (ks:=(Fo H l).length) (H:=DI H l) (g:=.none);exact aZ (.upd 2 u0 (.obj f0 (.call nw (.upd 9 r0 (.loop q .nil))))) (by kernel_rfl)
end
noncomputable def iF(q:Bool)(i:Nat)(c:Nat):Bool:=bif q then c==34||c==92 else(c==32||(c==9||(c==13||(c==10||c==92))))||(i==0&&c==34)
noncomputable def escL(q all:Bool):Nat→List Nat→List Nat|aK,[]=>[]|i,c::r=>(bif iF q i c||all then [92,c] else [c])++escL q all (i+1) r
noncomputable def allB(way:Int):Bool:=(way.fdiv 2).fmod 2!=0
abbrev wE(raw:List Nat)(way e:Int)(q:Bool)(acc:List Nat):af:=[(T "raw",.str (sL raw)),(T "way",.int way),(T "end",.int e),(T "quoted",.bool q),(T "text",.str (sL acc))]
abbrev wK:List Str:=[T "raw",T "way",T "end",T "quoted",T "text"]
abbrev Ql:Expr:=dI (bD (bd 15) 2)
abbrev Qm:List Stmt:=d_ (bD (bd 15) 2)
section
variable{d:Nat}{H:AH}{raw acc:List Nat}{way e:Int}
theorem in_str{c:Nat}{x:Str}{b:Bool}(h:x.cps.toList.contains c=b):dK H .In (.str (gQ c)) (.str x)=some (.bool b):=congrArg (fun b=>some (V.bool b)) ((nS c x).trans h)
theorem eq_int{i j:Int}{b:Bool}(h:(i==j)=b):dK H .Eq (.int i) (.int j)=some (.bool b):=congrArg (fun b=>some (V.bool b)) h
theorem eq_str{x y:Str}{b:Bool}(h:(x==y)=b):dK H .Eq (.str x) (.str y)=some (.bool b):=congrArg (fun b=>some (V.bool b)) h
theorem Li(q:Bool)(i c:Nat)(hz:acc.length+2<2^20):Turn (d+1) (tH 15) Ql Qm (.tup [.int i,cY c]) (wE raw way e q acc) H .next (wE raw way e q (acc++(bif iF q i c||allB way then [92,c] else [c]))) H:=by
 obtain a2:=K9 (a:=acc) (b:=[92,c]) hz;have a1:=K9 (a:=acc) (b:=[c]) (Nat.lt_of_succ_lt hz)
 induction q with
 |true=>
  refine(?_:Turn (d+1) (tH 15) Ql Qm _ _ H .next (wE raw way e true (acc++(bif (c==34||c==92)||allB way then [92,c] else [c]))) H);have h0:(T "\"\\").cps.toList.contains c=(c==34||c==92):=by show((c==34)||((c==92)||false))=_;rw[Bool.or_false]
  induction hb:(c==34||c==92) with |true=>exact av wK (.val 3 (in_str (H:=H) (x:=T "\"\\") (h0.trans hb)) (.val 10 a2 .nil)) (by kernel_rfl)|false=>induction ha:allB way with |true=>exact av wK (.val 3 (in_str (H:=H) (x:=T "\"\\") (h0.trans hb)) (.no 10 (b:=(way.fdiv 2).fmod 2!=0) ha (.val 14 a2 .nil))) (by kernel_rfl)|false=>exact av wK (.val 3 (in_str (H:=H) (x:=T "\"\\") (h0.trans hb)) (.no 10 (b:=(way.fdiv 2).fmod 2!=0) ha (.val 13 a1 .nil))) (by kernel_rfl)
 |false=>
  refine(?_:Turn (d+1) (tH 15) Ql Qm _ _ H .next (wE raw way e false (acc++(bif ((c==32||(c==9||(c==13||(c==10||c==92))))||(i==0&&c==34))||allB way then [92,c] else [c]))) H);have h0:(T " \t\r\n\\").cps.toList.contains c=(c==32||(c==9||(c==13||(c==10||c==92)))):=by show((c==32)||((c==9)||((c==13)||((c==10)||((c==92)||false)))))=_;rw[Bool.or_false]
  induction hb:(c==32||(c==9||(c==13||(c==10||c==92)))) with
  |true=>exact av wK (.val 3 (in_str (H:=H) (x:=T " \t\r\n\\") (h0.trans hb)) (.val 11 a2 .nil)) (by kernel_rfl)|false=>
   have hi:((i:Int)==0)=(i==0):=by lia
   induction hp:i==0 with
   |false=>induction ha:allB way with |true=>exact av wK (.val 3 (in_str (H:=H) (x:=T " \t\r\n\\") (h0.trans hb)) (.val 6 (eq_int (H:=H) (i:=i) (j:=0) (hi.trans hp)) (.no 14 (b:=(way.fdiv 2).fmod 2!=0) ha (.val 18 a2 .nil)))) (by kernel_rfl)|false=>exact av wK (.val 3 (in_str (H:=H) (x:=T " \t\r\n\\") (h0.trans hb)) (.val 6 (eq_int (H:=H) (i:=i) (j:=0) (hi.trans hp)) (.no 14 (b:=(way.fdiv 2).fmod 2!=0) ha (.val 17 a1 .nil)))) (by kernel_rfl)
   |true=>induction hs:c==34 with |true=>exact av wK (.val 3 (in_str (H:=H) (x:=T " \t\r\n\\") (h0.trans hb)) (.val 6 (eq_int (H:=H) (i:=i) (j:=0) (hi.trans hp)) (.val 9 (eq_str (H:=H) (x:=gQ c) (y:=gQ 34) ((cG c 34).trans hs)) (.val 16 a2 .nil)))) (by kernel_rfl)|false=>induction ha:allB way with |true=>exact av wK (.val 3 (in_str (H:=H) (x:=T " \t\r\n\\") (h0.trans hb)) (.val 6 (eq_int (H:=H) (i:=i) (j:=0) (hi.trans hp)) (.val 9 (eq_str (H:=H) (x:=gQ c) (y:=gQ 34) ((cG c 34).trans hs)) (.no 16 (b:=(way.fdiv 2).fmod 2!=0) ha (.val 20 a2 .nil))))) (by kernel_rfl)|false=>exact av wK (.val 3 (in_str (H:=H) (x:=T " \t\r\n\\") (h0.trans hb)) (.val 6 (eq_int (H:=H) (i:=i) (j:=0) (hi.trans hp)) (.val 9 (eq_str (H:=H) (x:=gQ c) (y:=gQ 34) ((cG c 34).trans hs)) (.no 16 (b:=(way.fdiv 2).fmod 2!=0) ha (.val 19 a1 .nil))))) (by kernel_rfl)
end
noncomputable def endsL(q:Bool):Nat→List Nat|0=>bif q then [34] else [32]|1=>bif q then [34,32] else [10]|2=>bif q then [34,10] else [13]|_=>bif q then [34,9,13,10] else [9,32,10]
def Qn(q:Bool):V:=.lst (bif q then [.str (T "\""),.str (T "\" "),.str (T "\"\n"),.str (T "\"\t\r\n")] else [.str (T " "),.str (T "\n"),.str (T "\r"),.str (T "\t \n")])
noncomputable def Cy(way:Int):Nat:=((way.fdiv 4).fmod 4).toNat
def tailL(q:Bool)(way:Int):Nat→List Nat|0=>endsL q (Cy way)|1=>[]|_=>[92]
def f5(raw:List Nat)(way:Int):Bool:=(way.fmod 2==0)||(sL raw==T "")
def xD(raw:List Nat)(way:Int)(e:Nat):List Nat:=((bif f5 raw way then [34] else [])++escL (f5 raw way) (allB way) 0 raw)++tailL (f5 raw way) way e
theorem kQ(H:AH)(q:Bool)(way:Int):item H (Qn q) (.int ((way.fdiv 4).fmod 4))=some (.str (sL (endsL q (Cy way)))):=by
 have h0:0≤(way.fdiv 4).fmod 4:=Int.fmod_nonneg_of_pos _ (by decide);have h4:(way.fdiv 4).fmod 4<4:=Int.fmod_lt_of_pos _ (by decide)
 unfold Cy;generalize (way.fdiv 4).fmod 4=j at h0 h4;have :j=0∨j=1∨j=2∨j=3:=by lia
 induction q<;>rcases this with rfl|rfl|rfl|rfl<;>kernel_rfl
theorem nY(q a:Bool):∀(raw:List Nat) (i:Nat),(escL q a i raw).length≤2* raw.length
|[],i=>Nat.le_refl _|c::r,i=>by
 obtain ih:=nY q a r (i+1);unfold escL;simp only[List.length_append,List.length_cons];induction iF q i c||a
 ·refine(?_:1+_≤_);omega
 ·refine(?_:2+_≤_);omega
theorem tQ(q a:Bool):∀(raw acc:List Nat) (i:Nat),(raw.zipIdx i).foldl (fun acc p=>acc++(bif iF q p.2 p.1||a then [92,p.1] else [p.1])) acc=acc++escL q a i raw|[],acc,i=>(List.append_nil acc).symm|c::r,acc,i=>by simp only[List.zipIdx_cons,List.foldl_cons,tQ q a r];exact List.append_assoc ..
section
variable{d:Nat}{H:AH}{raw:List Nat}{way:Int}{e:Nat}
theorem vS(q:Bool)(b0:List Nat)(e:Int)(hb:b0.length≤1)(hr:raw.length<1000):bZ (d+1) (tH 15) Ql Qm (bw 0 ((sL raw).cps.toList.map fun c=>V.str ⟨#[c]⟩)) (wE raw way e q b0) H .next (wE raw way e q (b0++escL q (allB way) 0 raw)) H:=by
 obtain l:=bZ.fold (d:=d+1) (sc:=tH 15) (t:=Ql) (body:=Qm) (fun p:Nat×Nat=>V.tup [.int p.2,cY p.1]) (fun acc=>wE raw way e q acc) (fun a=>H) (fun acc p=>acc++(bif iF q p.2 p.1||allB way then [92,p.1] else [p.1])) (fun xs acc=>acc.length+2* xs.length<3000)
  (fun p xs acc h=>by
   rw[List.length_append];simp only[List.length_cons] at h;induction iF q p.2 p.1||allB way
   ·refine(?_:acc.length+1+_<_);omega
   ·refine(?_:acc.length+2+_<_);omega)
  (fun p xs acc h=>Li q p.2 p.1 (by simp only[List.length_cons] at h;exact aE (nat_lit 0x1000006f290811bb83f19182a081101) ae h)) (raw.zipIdx 0) b0 (by rw[List.length_zipIdx];exact aE (nat_lit 0xbb83f02a1811191013e83f01202) ae hr hb)
 rw[tQ,←nU,←nV] at l;exact l
theorem yZ{a b:List Nat}(h:a.length+b.length<2^20):binop .Add (.str (sL a)) (.str (sL b))=some (.str (sL (a++b))):=by show(if sizeOk ((sL a).length+(sL b).length) then some (V.str (sL a++sL b)) else none)=_;rw[cR,cR,show sizeOk (a.length+b.length)=true from decide_eq_true h,Ci];rfl
theorem vU(he:e<3)(hr:raw.length<1000):aD (d+2) (.fn 188) [.str (sL raw),.int way,.int e] H (.str (sL (xD raw way e))) H:=by
 have hlen:∀q b0,b0.length≤1→∀t:List Nat,t.length≤4→(b0++escL q (allB way) 0 raw).length+t.length<2^20:=fun q b0 hb t ht=>by obtain this:=nY q (allB way) raw 0;rw[List.length_append];exact gS (nat_lit 0x1000006f203881119301492013e83f11212a00104) ae this hr ht hb
 have ht:∀q,(tailL q way e).length≤4:=fun q=>by
  unfold tailL;split
  ·unfold endsL;split<;>induction q<;>decide
  ·decide
  ·decide
 unfold xD;induction hw:(way.fmod 2==0) with
 |true=>
  rw[show f5 raw way=true by unfold f5;rw[hw];rfl];have it:=kQ H true way
  have ad:=yZ (hlen true [34] (Nat.le_refl _) _ (ht true));have lp:=vS (d:=d) (H:=H) (raw:=raw) (way:=way) true [34] e (Nat.le_refl _) hr
  obtain rfl|rfl|rfl:e=0∨e=1∨e=2:=by omega
  ·exact aZ (.val 2 (eq_int (H:=H) (i:=way.fmod 2) (j:=0) hw) (.loop lp (.val 15 it (.val 18 ad .nil)))) (by kernel_rfl)
  ·exact aZ (.val 2 (eq_int (H:=H) (i:=way.fmod 2) (j:=0) hw) (.loop lp (.val 15 it (.val 18 ad .nil)))) (by kernel_rfl)
  ·exact aZ (.val 2 (eq_int (H:=H) (i:=way.fmod 2) (j:=0) hw) (.loop lp (.val 15 it (.val 18 ad .nil)))) (by kernel_rfl)
 |false=>
  induction hq:sL raw==T "" with
  |true=>
   rw[show f5 raw way=true by unfold f5;rw[hw,hq];rfl];have it:=kQ H true way
   have ad:=yZ (hlen true [34] (Nat.le_refl _) _ (ht true));have lp:=vS (d:=d) (H:=H) (raw:=raw) (way:=way) true [34] e (Nat.le_refl _) hr
   obtain rfl|rfl|rfl:e=0∨e=1∨e=2:=by omega
   ·exact aZ (.val 2 (eq_int (H:=H) (i:=way.fmod 2) (j:=0) hw) (.val 5 (eq_str (H:=H) hq) (.loop lp (.val 17 it (.val 20 ad .nil))))) (by kernel_rfl)
   ·exact aZ (.val 2 (eq_int (H:=H) (i:=way.fmod 2) (j:=0) hw) (.val 5 (eq_str (H:=H) hq) (.loop lp (.val 17 it (.val 20 ad .nil))))) (by kernel_rfl)
   ·exact aZ (.val 2 (eq_int (H:=H) (i:=way.fmod 2) (j:=0) hw) (.val 5 (eq_str (H:=H) hq) (.loop lp (.val 17 it (.val 20 ad .nil))))) (by kernel_rfl)
  |false=>
   rw[show f5 raw way=false by unfold f5;rw[hw,hq];rfl];have it:=kQ H false way
   have ad:=yZ (hlen false [] (Nat.zero_le _) _ (ht false));have lp:=vS (d:=d) (H:=H) (raw:=raw) (way:=way) false [] e (Nat.zero_le _) hr
   obtain rfl|rfl|rfl:e=0∨e=1∨e=2:=by omega
   ·exact aZ (.val 2 (eq_int (H:=H) (i:=way.fmod 2) (j:=0) hw) (.val 5 (eq_str (H:=H) hq) (.loop lp (.val 17 it (.val 20 ad .nil))))) (by kernel_rfl)
   ·exact aZ (.val 2 (eq_int (H:=H) (i:=way.fmod 2) (j:=0) hw) (.val 5 (eq_str (H:=H) hq) (.loop lp (.val 17 it (.val 20 ad .nil))))) (by kernel_rfl)
   ·exact aZ (.val 2 (eq_int (H:=H) (i:=way.fmod 2) (j:=0) hw) (.val 5 (eq_str (H:=H) hq) (.loop lp (.val 17 it (.val 20 ad .nil))))) (by kernel_rfl)
end
def GT(cs tok rest:List Nat):Prop:=(gTok cs).1=tok∧(gTok cs).2.1=rest
theorem rF{st:Nat→Bool}{q all b:Bool}{tl r:List Nat}(Lc:st 92=false)(hh:∀i c,(iF q i c||all)=false→st c=false∧(c==92)=false)(ht:tk st tl=([],r,b)):∀(raw:List Nat) (i:Nat),tk st (escL q all i raw++tl)=(raw,r,b)
|[],aK=>ht|c::raw,i=>by
 obtain ih:=rF Lc hh ht raw (i+1);unfold escL;induction hb:iF q i c||all with |true=>refine(?_:tk st (92::c::(escL q all (i+1) raw++tl))=_);rw[Qe Lc,ih]|false=>refine(?_:tk st (c::(escL q all (i+1) raw++tl))=_);rw[La (hh i c hb).1 (hh i c hb).2,ih]
theorem Lj{all:Bool}(i c:Nat)(h:(iF true i c||all)=false):(c==34)=false∧(c==92)=false:=oJ (oJ h).1
theorem Cz{all:Bool}(i c:Nat)(h:(iF false i c||all)=false):isWs c=false∧(c==92)=false:=by obtain h1:=oJ (oJ (oJ h).1).1;obtain h2:=oJ h1.2;obtain h3:=oJ h2.2;obtain h4:=oJ h3.2;refine⟨?_,h4.2⟩;unfold isWs;simp only[h4.1,h2.1,h3.1,h1.1];rfl
theorem CB{all b:Bool}{raw tl r:List Nat}(ht:tk (·==34) tl=([],r,b)):GT (34::(escL true all 0 raw++tl)) raw r:=by obtain e:gTok (34::(escL true all 0 raw++tl))=tk (·==34) (escL true all 0 raw++tl):=rfl;unfold GT;rw[e,rF rfl Lj ht];exact⟨rfl,rfl⟩
theorem Fp{all b:Bool}{c:Nat}{raw tl r:List Nat}(ht:tk isWs tl=([],r,b)):GT (escL false all 0 (c::raw)++tl) (c::raw) r:=by
 obtain ih:=rF (q:=false) (all:=all) rfl Cz ht raw 1;unfold escL GT;induction hb:iF false 0 c||all with
 |true=>obtain e:gTok ((92::c::[])++escL false all 1 raw++tl)=([c]++(tk isWs (escL false all 1 raw++tl)).1,(tk isWs (escL false all 1 raw++tl)).2):=rfl;rw[ih] at e;exact⟨congrArg (·.1) e,congrArg (·.2.1) e⟩
 |false=>
  obtain h:=Cz 0 c hb;obtain Me:(c==34)=false:=(oJ (oJ hb).1).2;obtain e:gTok (c::(escL false all 1 raw++tl))=(c::(tk isWs (escL false all 1 raw++tl)).1,(tk isWs (escL false all 1 raw++tl)).2):=by rw[gTok,h.1,Me,h.2];rfl
  rw[ih] at e;exact⟨congrArg (·.1) e,congrArg (·.2.1) e⟩
theorem p8(X:List Nat):∀(left:List Nat),left.all isWs=true→gTok (left++X)=gTok X|[],aK=>rfl|c::r,h=>by obtain h:=aW (show(isWs c&&r.all isWs)=true from h);refine(?_:gTok (c::(r++X))=_);rw[gTok,h.1];exact p8 X r h.2
theorem Lk(j:Nat):∃left,left.all isWs=true∧endsL true j=34::left:=by
 unfold endsL;split
 ·exact⟨[],rfl,rfl⟩
 ·exact⟨[32],rfl,rfl⟩
 ·exact⟨[10],rfl,rfl⟩
 ·exact⟨[9,13,10],rfl,rfl⟩
theorem Ll(j:Nat):∃w left,isWs w=true∧left.all isWs=true∧endsL false j=w::left:=by
 unfold endsL;split
 ·exact⟨32,[],rfl,rfl,rfl⟩
 ·exact⟨10,[],rfl,rfl,rfl⟩
 ·exact⟨13,[],rfl,rfl,rfl⟩
 ·exact⟨9,[32,10],rfl,rfl,rfl⟩
theorem rG{raw tl left r:List Nat}{way:Int}(hq:∀b,f5 raw way=b→∃c,tk (bif b then(·==34) else isWs) tl=([],r,c)):GT (((bif f5 raw way then [34] else [])++escL (f5 raw way) (allB way) 0 raw)++tl) raw r:=by
 induction hb:f5 raw way with
 |true=>exact(hq true hb).elim fun c h=>CB h|false=>
  induction raw with |nil=>exact nomatch (show f5 [] way=true by unfold f5;simp only[show(sL []==T "")=true by kernel_rfl,Bool.or_true]).symm.trans hb|cons c r'=>exact(hq false hb).elim fun c h=>Fp h
theorem p9(raw rest:List Nat)(way:Int):∃left,left.all isWs=true∧GT (xD raw way 0++rest) raw (left++rest):=by
 unfold xD;induction hq:f5 raw way with
 |true=>
  obtain⟨left,h1,h2⟩:=Lk (Cy way);refine⟨left,h1,?_⟩;obtain this:=rG (raw:=raw) (way:=way) (tl:=34::(left++rest)) (left:=left) (r:=left++rest) fun b hb=>⟨true,by rw[←hb,hq];exact E6 rfl⟩
  rw[hq] at this;rw[List.append_assoc,show tailL true way 0=34::left from h2];exact this
 |false=>
  refine(Ll (Cy way)).elim fun w ZH=>?_;refine ZH.elim fun left Vh=>?_;obtain h0:=Vh.1;obtain h1:=Vh.2.1;obtain h2:=Vh.2.2
  refine⟨left,h1,?_⟩;obtain this:=rG (raw:=raw) (way:=way) (tl:=w::(left++rest)) (left:=left) (r:=left++rest) fun b hb=>⟨true,by rw[←hb,hq];exact E6 h0⟩
  rw[hq] at this;rw[List.append_assoc,show tailL false way 0=w::left from h2];exact this
theorem Lm(raw:List Nat)(way:Int)(e:Nat)(he:e<3):∃left,left.all isWs=true∧GT (xD raw way e) raw left:=by
 obtain rfl|rfl|rfl:e=0∨e=1∨e=2:=by lia
 ·obtain⟨left,h1,h2⟩:=p9 raw [] way;rw[List.append_nil,List.append_nil] at h2;exact⟨left,h1,h2⟩
 ·exact⟨[],rfl,rG (left:=[]) fun b a=>⟨false,rfl⟩⟩
 ·exact⟨[],rfl,rG (left:=[]) fun b a=>⟨false,by induction b<;>exact H6 rfl⟩⟩
theorem kR(X left:List Nat)(h:left.all isWs=true)(m:Nat):lexN (m+1) (left++X)=lexN (m+1) X:=by unfold lexN;rw[p8 X left h]
theorem CC(m:Nat):lexN m []=(List.replicate m [],[]):=by
 induction m with |zero=>rfl|succ m ih=>show([]::(lexN m []).1,(lexN m []).2)=_;rw[ih];rfl
theorem CD(m:Nat)(left:List Nat)(h:left.all isWs=true):lexN (m+1) left=(List.replicate (m+1) [],[]):=by obtain e:=kR [] left h m;rw[List.append_nil] at e;simp only[e,CC]
theorem xE{m:Nat}{cs tok rest:List Nat}(h:GT cs tok rest):lexN (m+1) cs=(tok::(lexN m rest).1,(lexN m rest).2):=by show((gTok cs).1::(lexN m (gTok cs).2.1).1,(lexN m (gTok cs).2.1).2)=_;rw[h.1,h.2]
noncomputable def txtL:List (List Nat×Int)→Nat→List Nat|[],aK=>[]|[p],e=>xD p.1 p.2 e|p::q::rest,e=>xD p.1 p.2 0++txtL (q::rest) e
theorem xF(e:Nat)(he:e<3):∀(ws:List (List Nat×Int)),ws≠[]→∀left:List Nat,left.all isWs=true→lexN (ws.length+2) (left++txtL ws e)=(ws.map (·.1)++[[],[]],[])
|[],h,aK,bA=>absurd rfl h|[p],aK,left,hl=>by obtain⟨l2,h2,h3⟩:=Lm p.1 p.2 e he;refine(?_:lexN 3 (left++xD p.1 p.2 e)=_);rw[kR _ _ hl,xE h3,CD 1 l2 h2];rfl
|p::q::rest,aK,left,hl=>by
 refine(p9 p.1 (txtL (q::rest) e) p.2).elim fun l2 WV=>?_;obtain h2:=WV.1;obtain h3:=WV.2
 refine(?_:lexN ((q::rest).length+2+1) (left++(xD p.1 p.2 0++txtL (q::rest) e))=_);rw[kR _ _ hl,xE h3,xF e he (q::rest) (List.cons_ne_nil _ _) l2 h2];rfl
noncomputable def CF:List Nat:=[0,1,2,4,6,7,8,9,10,11,12].map fun k=>119816+52* k
noncomputable def l7:List Nat:=[173,847,6150,6155,6156,6157,8203,8204,8205,8288,65279,65024,65025,65026,65027,65028,65029,65030,65031,65032,65033,65034,65035,65036,65037,65038,65039]
noncomputable def l8:List Nat:=[172,174,846,848,6149,6151,6154,6158,8202,8206,8287,8289,65023,65040,65278,65280,11,12,28,160]
def nZ(p:Nat×List Nat):Bool:=Nat.ble p.2.length 3&&(bif cH.contains (p.1:Int) then p.2.isEmpty else lE p.1==sL p.2)
noncomputable def SG(m u o:Nat):List (Nat×List Nat):=[(102,[102]),(70,[102]),(73,[105]),(m,[105]),(64257,[102,105]),(64256,[102,102]),(64259,[102,102,105]),(105,[105]),(35,[35]),(32,[32]),(34,[34]),(92,[92]),(10,[10]),(u,[]),(o,[o]),(64258,[102,108])]
theorem vV:(CF.all fun m=>nZ (m,[105]))=true∧(l7.all fun u=>nZ (u,[]))=true∧(l8.all fun o=>nZ (o,[o]))=true∧((SG 102 173 172).all fun p=>nZ p||p.1==102)=true:=by refine⟨by kernel_rfl,by kernel_rfl,by kernel_rfl,by kernel_rfl⟩
theorem Fq:([(102,[102]),(70,[102]),(73,[105]),(64257,[102,105]),(64256,[102,102]),(64259,[102,102,105]),(105,[105]),(35,[35]),(32,[32]),(34,[34]),(92,[92]),(10,[10]),(64258,[102,108])]:List (Nat×List Nat)).all nZ=true:=by kernel_rfl
theorem Qo{m u o:Nat}(hm:m∈CF)(hu:u∈l7)(ho:o∈l8):(SG m u o).all nZ=true:=by obtain f:=Fq;obtain a:=cZ vV.1 m hm;obtain b:=cZ vV.2.1 u hu;obtain c:=cZ vV.2.2.1 o ho;unfold SG;simp only[List.all_cons,List.all_nil,Bool.and_true,Bool.and_eq_true] at f⊢;exact⟨f.1,f.2.1,f.2.2.1,a,f.2.2.2.1,f.2.2.2.2.1,f.2.2.2.2.2.1,f.2.2.2.2.2.2.1,f.2.2.2.2.2.2.2.1,f.2.2.2.2.2.2.2.2.1,f.2.2.2.2.2.2.2.2.2.1,f.2.2.2.2.2.2.2.2.2.2.1,f.2.2.2.2.2.2.2.2.2.2.2.1,b,c,f.2.2.2.2.2.2.2.2.2.2.2.2⟩
theorem n5(H:AH)(l:List Nat)(f:Nat→Int)(m:Nat)(x:Int)(hm:l.length=m)(h0:0<m)(h1:m<100):∃v∈l,item H (.lst (l.map fun c=>.int (f c))) (.int (x.fmod m))=some (.int (f v)):=by
 obtain a0:0≤x.fmod m:=Int.fmod_nonneg_of_pos _ (by simp_all);obtain a1:x.fmod m<m:=Int.fmod_lt_of_pos _ (rQ (nat_lit 0x709910091101) ae h0)
 revert a0 a1
 generalize x.fmod m=j;intro a0 a1;obtain bL:j.toNat<l.length:=by exact Iz.go (nat_lit 0x1211013107091027a103) [_,_,_] [_] ae (Int.toNat_of_nonneg (wV (nat_lit 653104087297) ae a0)) a1 hm
 refine⟨l[j.toNat],List.getElem_mem bL,?_⟩;show(cB (l.map fun c=>V.int (f c)).length j).bind (fun k=>(l.map fun c=>V.int (f c))[k]?)=_;rw[l5 (k:=j.toNat) (.inl (by exact D0 (nat_lit 7740873749777) ae (Int.toNat_of_nonneg (wV (nat_lit 653104087297) ae a0)))) (by rw[List.length_map];exact bL) (by rw[List.length_map];exact aE (nat_lit 0x1000000000000000100f11164e011012102) ae hm h1)];show(l.map fun c=>V.int (f c))[j.toNat]?=_;simp only[List.getElem?_map,List.getElem?_eq_getElem bL];rfl
theorem Qp{H:AH}{i:Int}(h0:0≤i)(h1:i<0x110000):g_ "chr" [.int i] H=some (.str ⟨#[i.toNat]⟩,H):=congrArg (fun c=>bif c then some (V.str ⟨#[i.toNat]⟩,H) else none) (jv ⟨decide_eq_true h0,decide_eq_true h1⟩)
theorem CG{H:AH}(c:Nat)(h:c<0x110000):g_ "chr" [.int c] H=some (.str (gQ c),H):=Qp (i:=c) (Int.natCast_nonneg c) (Int.ofNat_lt.mpr h)
theorem tR:∀(l:List (List Nat)) (acc:Array Nat),(l.map sL).foldl (fun acc p=>acc++(T "").cps++p.cps) acc=acc++l.flatten.toArray|[],acc=>(Array.append_empty ..).symm|q::r,acc=>by simp only[List.map_cons,List.foldl_cons,tR r];refine Array.append_assoc.trans ?_;exact congrArg (acc++·) (List.append_toArray ..)
theorem CH:∀l:List (List Nat),Txt.join (T "") (l.map sL)=sL l.flatten|[]=>rfl|q::r=>(congrArg Str.mk (tR r (sL q).cps)).trans (congrArg Str.mk (List.append_toArray ..))
theorem p_:∀l:List (List Nat),rW (l.map fun q=>.str (sL q))=some (l.map sL)|[]=>rfl|q::r=>congrArg (Option.map (sL q::·)) (p_ r)
theorem Ft(l:List (List Nat)):((l.map sL).map (·.length)).sum=l.flatten.length:=by simp only[List.map_map,List.length_flatten];exact congrArg List.sum (List.map_congr_left fun q a=>cR q)
theorem kU{H:AH}{l:List (List Nat)}(h:l.flatten.length<2^20):mC (T "") (T "join") [.lst (l.map fun q=>.str (sL q))] H=some (.str (sL l.flatten),H):=by show(rW (l.map fun q=>.str (sL q))).bind (fun ys=>bif sizeOk (ys.map (·.length)).sum&&sizeOk (Txt.join (T "") ys).length then some (V.str (Txt.join (T "") ys),H) else none)=_;rw[p_];show(bif sizeOk ((l.map sL).map (·.length)).sum&&sizeOk (Txt.join (T "") (l.map sL)).length then some (V.str (Txt.join (T "") (l.map sL)),H) else none)=_;simp only[Ft,CH,cR,show sizeOk l.flatten.length=true from decide_eq_true h];rfl
section
variable{d:Nat}{H:AH}
abbrev WW:Expr:=jn (bD (bd 14) 5)
noncomputable def Mi(x:Int)(i:Nat):Nat:=(((x.fdiv 4).fdiv (16^i)).fmod 16).toNat
theorem Qq(x:Int)(i:Nat):Mi x i<16:=by obtain h1:((x.fdiv 4).fdiv (16^i)).fmod 16<16:=Int.fmod_lt_of_pos _ (by simp_all);unfold Mi;exact D0 (nat_lit 0x10e0111002e091007a102) ae (Int.toNat_of_nonneg (wV (nat_lit 653104087297) ae (Int.fmod_nonneg_of_pos ((x.fdiv 4).fdiv (16^i)) (by decide:(0:Int)<16)))) h1
theorem Lo(x:Int)(i:Nat):binop .Mod (.int ((x.fdiv 4).fdiv (16^i))) (.int 16)=some (.int (Mi x i)):=by obtain h0:0≤((x.fdiv 4).fdiv (16^i)).fmod 16:=Int.fmod_nonneg_of_pos _ (by simp_all);show some (V.int (((x.fdiv 4).fdiv (16^i)).fmod 16))=_;unfold Mi;rw[Int.toNat_of_nonneg h0]
theorem Fv(x:Int)(i:Nat)(hi:i<4)(vs:List V)(hz:vs.length+1<ai):Mf (d+1) WW (.int (0+(i:Int))) [(T "number",.int x)] (.l vs) H (.l (vs++[.int (Mi x i)])) H:=by
 obtain e:=Lo x i;obtain rfl|rfl|rfl|rfl:i=0∨i=1∨i=2∨i=3:=by lia
 ·exact a_ [T "number"] (.val 5 e (.no 6 (bj hz) .nil)) (by kernel_rfl)
 ·exact a_ [T "number"] (.val 5 e (.no 6 (bj hz) .nil)) (by kernel_rfl)
 ·exact a_ [T "number"] (.val 5 e (.no 6 (bj hz) .nil)) (by kernel_rfl)
 ·exact a_ [T "number"] (.val 5 e (.no 6 (bj hz) .nil)) (by kernel_rfl)
end
abbrev jQ(e:Expr)(i:Nat):Expr:=rC e (i+1)
theorem aG.all{d:Nat}{au:Scope}{g:Comprehension}{T:jm}{α:Type}{env:af}{H:AH}(enc f:α→V)(xs:List α)(hz:xs.length<ai)(h:∀x∈xs,∀vs:List V,vs.length+1<ai→gR d au g T (enc x) env (.l vs) H env (.l (vs++[f x])) H):aG d au g T (xs.map enc) env (.l []) H env (.l (xs.map f)) H:=by obtain q:=aG.pick enc f (fun a=>true) xs [] (by simp only[List.length_nil,Nat.zero_add];exact hz) h;rw[List.filter_eq_self.mpr fun a a=>rfl,List.nil_append] at q;exact q
section
variable{d:Nat}{H:AH}{m u o:Nat}{x:Int}
abbrev WX(i:Nat):Expr:=jQ (Lh (E_ (bD (bd 14) 6)) i) 0
abbrev DJ(m u o:Nat):List Nat:=(SG m u o).map (·.1)
theorem CI(ps:List Nat)(h:∀p∈ps,p<16)(hz:ps.length<ai):dJ (d+1) (WX 0) (ps.map fun(p:Nat)=>.int p) [(T "signs",.str (sL (DJ m u o)))] (.l []) H (.l ((ps.map fun p=>[(DJ m u o).getD p 0]).map fun q=>.str (sL q))) H:=by
 rw[List.map_map];refine aG.all _ _ ps hz fun p hp vs hv=>?_
 obtain hl:p<(DJ m u o).length:=h p hp;obtain e:=l6 (H:=H) (i:=p) (l:=DJ m u o) (k:=p) (d:=(DJ m u o).getD p 0) (.inl rfl) (by rw[List.getD_eq_getElem?_getD,List.getElem?_eq_getElem hl];rfl) (show 16<2^60 by decide);exact a_ [T "signs"] (.val 2 e (.no 3 (bj hv) .nil)) (by kernel_rfl)
abbrev CJ(m u o:Nat):V:=.lst ((SG m u o).map fun p=>.str (sL p.2))
theorem y9(ps:List Nat)(h:∀p∈ps,p<16)(hz:ps.length<ai):dJ (d+1) (WX 1) (ps.map fun(p:Nat)=>.int p) [(T "folds",CJ m u o)] (.l []) H (.l ((ps.map fun p=>((SG m u o).getD p (0,[])).2).map fun q=>.str (sL q))) H:=by
 rw[List.map_map];refine aG.all _ _ ps hz fun p hp vs hv=>?_
 obtain hl:p<(SG m u o).length:=h p hp;obtain e:item H (CJ m u o) (.int p)=some (.str (sL ((SG m u o).getD p (0,[])).2)):=by
  have hz:(SG m u o).length<2^60:=(show 16<2^60 by decide);have key:∀L:List (Nat×List Nat),L.length<2^60→p<L.length→item H (.lst (L.map fun p=>.str (sL p.2))) (.int p)=some (.str (sL (L.getD p (0,[])).2)):=fun L h1 h2=>by refine nW (j:=p) (.inl rfl) ?_ (by rw[List.length_map];exact h1);rw[List.getElem?_map,List.getElem?_eq_getElem h2,List.getD_eq_getElem?_getD,List.getElem?_eq_getElem h2];rfl
  exact key _ hz hl
 exact a_ [T "folds"] (.val 2 e (.no 3 (bj hv) .nil)) (by kernel_rfl)
structure dw(raw fold:List Nat):Prop where
 WY:∃ps:List (Nat×List Nat),ps.length≤3∧raw=ps.map (·.1)∧fold=(ps.map (·.2)).flatten∧ps.all nZ=true
theorem Fw(x:Int):∃raw fold,dw raw fold∧aD (d+2) (.fn 181) [.int x] H (.tup [.str (sL raw),.str (sL fold)]) H:=by
 obtain⟨k,hk,im⟩:=n5 H [0,1,2,4,6,7,8,9,10,11,12] (fun c=>(c:Int)) 11 (x.fdiv 16384) rfl (by decide) (by decide);obtain⟨u,hu,iu⟩:=n5 H l7 (fun c=>(c:Int)) 27 (x.fdiv 16384) rfl (by decide) (by decide);obtain⟨o,ho,io⟩:=n5 H l8 (fun c=>(c:Int)) 20 (x.fdiv 16384) rfl (by decide) (by decide);have k12:k≤12:=(by decide:∀k∈[0,1,2,4,6,7,8,9,10,11,12],k≤12) k hk
 have uB:u<0x110000:=of_decide_eq_true (cZ (by kernel_rfl:(l7.all fun u=>decide (u<0x110000))=true) u hu);have oB:o<0x110000:=of_decide_eq_true (cZ (by kernel_rfl:(l8.all fun u=>decide (u<0x110000))=true) o ho)
 have hm:119816+52* k∈CF:=uq ⟨k,hk,rfl⟩;have ZI:binop .Mult (.int 52) (.int k)=some (.int ((52* k:Nat):Int)):=by show(if(small 52&&small k)=true then some (V.int (52* (k:Int))) else none)=_;rw[if_pos (by unfold small;rw[Bool.and_eq_true,decide_eq_true_eq,decide_eq_true_eq];omega),Int.natCast_mul];rfl
 have Vi:binop .Add (.int 119816) (.int ((52* k:Nat):Int))=some (.int ((119816+52* k:Nat):Int)):=congrArg (fun i=>some (V.int i)) (by rfl);have c1:=CG (H:=H) (119816+52* k) (by omega)
 have c2:=CG (H:=H) u uB;have c3:=CG (H:=H) o oB
 revert c1 Vi hm
 generalize 119816+52* k=m;intro hm Vi c1;have hS:=Qo hm hu ho
 have n0:0≤x.fmod 4:=Int.fmod_nonneg_of_pos _ (by decide);have n4:x.fmod 4<4:=Int.fmod_lt_of_pos _ (by decide)
 obtain⟨ps,Vj⟩:∃ps:List Nat,ps=(List.range (x.fmod 4-0).toNat).map (Mi x):=⟨_,rfl⟩;have wZ:∀p∈ps,p<16:=fun p hp=>by rw[Vj] at hp;obtain⟨i,_,rfl⟩:=F9 hp;exact Qq x i
 have Qs:ps.length≤3:=by rw[Vj,List.length_map,List.length_range];exact D0 (nat_lit 0x3900149091090c07a102) ae (Int.toNat_of_nonneg (wV (nat_lit 0x90c09810098101) ae n0)) n4
 have pk:dJ (d+1) WW ((List.range (x.fmod 4-0).toNat).map fun(i:Nat)=>.int (0+(i:Int))) [(T "number",.int x)] (.l []) H (.l (ps.map fun(p:Nat)=>.int p)) H:=by rw[Vj,List.map_map];exact aG.all _ _ _ (by rw[List.length_range];unfold ai;exact D0 (nat_lit 0x1000006f01149091090c07a102) ae (Int.toNat_of_nonneg (wV (nat_lit 0x90c09810098101) ae n0)) n4) fun i hi vs hv=>Fv x i (by have :=ur hi;exact Iz.go (nat_lit 0x4901149091090c17a1101103) [_,_] [_] ae this (Int.toNat_of_nonneg (wV (nat_lit 0x90c09810098101) ae n0)) n4) vs hv
 have r1:=CI (d:=d) (H:=H) (m:=m) (u:=u) (o:=o) ps wZ (Nat.lt_of_le_of_lt Qs (by decide));have r2:=y9 (d:=d) (H:=H) (m:=m) (u:=u) (o:=o) ps wZ (Nat.lt_of_le_of_lt Qs (by decide))
 have rg:gj false "range" [.int (x.fmod 4)] H=some (.mj 0 (x.fmod 4),H):=xC (decide_eq_true (by omega));have f3:∀l:List Nat,((l.map fun p=>((SG m u o).getD p (0,[])).2).flatten).length≤3* l.length:=fun l=>by
  induction l with
  |nil=>exact Nat.le_refl _|cons a r ih=>
   rw[List.map_cons,List.flatten_cons,List.length_append,List.length_cons];have :((SG m u o).getD a (0,[])).2.length≤3:=by
    rw[List.getD_eq_getElem?_getD];induction hq:(SG m u o)[a]? with |none=>exact Nat.zero_le _|some p=>exact Nat.le_of_ble_eq_true (aW (cZ hS p (List.mem_of_getElem? hq))).1
   exact aQ (nat_lit 0x19283a1080123a1013900102) ae this ih
 have f1:∀l:List Nat,(l.map fun p=>[(DJ m u o).getD p 0]).flatten=l.map fun p=>(DJ m u o).getD p 0:=fun l=>by
  induction l with |nil=>rfl|cons a r ih=>exact congrArg ((DJ m u o).getD a 0::·) ih
 have j1:=kU (H:=H) (l:=ps.map fun p=>[(DJ m u o).getD p 0]) (by rw[f1,List.length_map];exact aV (nat_lit 0x1000006f0113900101) ae Qs);have j2:=kU (H:=H) (l:=ps.map fun p=>((SG m u o).getD p (0,[])).2) (by have :=f3 ps;exact aE (nat_lit 0x1000006f0113910313a00102) ae this Qs)
 refine⟨(ps.map fun p=>[(DJ m u o).getD p 0]).flatten,(ps.map fun p=>((SG m u o).getD p (0,[])).2).flatten,⟨ps.map fun p=>(SG m u o).getD p (0,[]),by rw[List.length_map];exact Qs,?_,?_,?_⟩,aZ (.val 10 im (.val 11 ZI (.val 12 Vi (.upd 13 c1 (.val 20 iu (.upd 21 c2 (.val 27 io (.upd 28 c3 (.upd 36 rg (.cmp pk (.cmp r1 (.upd 38 j1 (.cmp r2 (.upd 40 j2 .nil)))))))))))))) (by kernel_rfl)⟩
 ·rw[f1,List.map_map];refine List.map_congr_left fun p b=>?_
  show((SG m u o).map (·.1)).getD p 0=((SG m u o).getD p (0,[])).1;rw[List.getD_eq_getElem?_getD,List.getD_eq_getElem?_getD,List.getElem?_map];induction (SG m u o)[p]?<;>rfl
 ·rw[List.map_map];rfl
 ·refine List.all_eq_true.mpr fun q hq=>?_
  obtain⟨p,hp,rfl⟩:=F9 hq;have hl:p<(SG m u o).length:=wZ p hp
  rw[List.getD_eq_getElem?_getD,List.getElem?_eq_getElem hl];exact cZ hS _ (List.getElem_mem hl)
end
theorem kW{β:Type}(d:List (Str×β))(x:Str)(v:β)(h:(d.map (·.1)).Nodup):((aP d x v).map (·.1)).Nodup:=by
 rw[r8];induction hl:d.lookup x with |some u=>exact h|none=>have :=(cT d x).mp hl;exact List.nodup_append.mpr ⟨h,by simp,fun a ha b hb=>by simp only[List.mem_singleton] at hb;subst hb;exact fun e=>this (e▸ha)⟩
theorem kX{a b:List Nat}(h:sL a=sL b):a=b:=by simpa [sL] using h
theorem dz(a b:List Nat):(sL a==sL b)=decide (a=b):=by rw[Bool.eq_iff_iff];simp only[beq_iff_eq,decide_eq_true_eq];exact⟨kX,fun e=>e▸rfl⟩
theorem CK(x:Str):x=sL x.cps.toList:=by induction x;simp[sL]
noncomputable def e6(f:Nat→Int)(P:Nat→Bool)(l:List Nat):Int:=((l.filter P).map f).sum
noncomputable abbrev f1:Nat→Int:=fun a=>1
noncomputable abbrev fi:Nat→Int:=fun j=>(j:Int)
noncomputable abbrev fq:Nat→Int:=fun j=>(j:Int)* (j:Int)
theorem xG(a b:List Int):(a++b).sum=a.sum+b.sum:=by simp[List.sum_append]
theorem n6(f:Nat→Int)(P:Nat→Bool)(a:Nat)(l:List Nat):e6 f P (a::l)=(if P a then f a else 0)+e6 f P l:=by unfold e6;refine List.filter_cons▸?_;induction P a<;>simp
theorem f6(f:Nat→Int)(P:Nat→Bool)(a:Nat)(l:List Nat):e6 f P (l++[a])=e6 f P l+(if P a then f a else 0):=by unfold e6;simp only[List.filter_append,List.map_append,xG];congr 1;refine List.filter_cons▸?_;induction P a<;>simp
theorem bq(f:Nat→Int){P Q:Nat→Bool}{l:List Nat}(h:∀j∈l,P j=Q j):e6 f P l=e6 f Q l:=by unfold e6;rw[List.filter_congr h]
theorem CN(f:Nat→Int){P Q:Nat→Bool}:∀{l:List Nat},(∀j∈l,P j=true→Q j=false)→e6 f (fun j=>P j||Q j) l=e6 f P l+e6 f Q l
|[],aK=>rfl|a::l,h=>by
 simp only[n6,n6,n6,CN f (fun j hj=>h j (.tail _ hj))];obtain ha:=h a (.head _);induction hp:P a with |true=>refine(ha hp)▸?_;lia|false=>induction Q a<;>lia
theorem l9(P:Nat→Bool)(l:List Nat):e6 f1 P l=((l.filter P).length:Int):=by
 unfold e6;induction l.filter P with |nil=>rfl|cons a r ih=>simp only[List.map_cons,List.sum_cons,ih,List.length_cons,f1];exact rQ (nat_lit 7046153452954896) ae
theorem jR{P:Nat→Bool}{l:List Nat}:e6 f1 P l=0↔∀j∈l,P j=false:=by
 rw[l9];constructor
 ·intro h j hj;have :(l.filter P).length=0:=by exact rQ (nat_lit 0x90250907a111) ae h
  have :=List.eq_nil_of_length_eq_zero this;induction hp:P j with |false=>rfl|true=>have :j∈l.filter P:=List.mem_filter.mpr ⟨hj,hp⟩;rw[‹l.filter P=[]›] at this;exact nomatch this
 ·intro h;rw[List.filter_eq_nil_iff.mpr (fun j hj=>by rw[h j hj];simp)];rfl
theorem jS(f:Nat→Int){P:Nat→Bool}{l:List Nat}(h:∀j∈l,P j=false):e6 f P l=0:=by unfold e6;rw[List.filter_eq_nil_iff.mpr (fun j hj=>by rw[h j hj];simp)];rfl
structure Ent(l:List Nat)(P:Nat→Bool)(cnt:List Nat→Int)(s:St):Prop where
 cc:s.cc=1
 nc:s.nc=e6 f1 P l
 tt:s.tt=e6 fi P l
 ct:s.ct=e6 fq P l
 nd:(s.cs.map (·.1)).Nodup
 lk:∀y,s.cs.lookup (sL y)=if cnt y=0 then none else some (cnt y)
 sum:(s.cs.map (·.2)).sum=s.nc
theorem qa:∀(t acc:List (Str×Int)),((acc++t).map (·.1)).Nodup→t.foldl o8 acc=acc++t
|[],acc,h=>by simp |(y,u)::r,acc,h=>by
 obtain hy:y∉acc.map (·.1):=by rw[List.map_append] at h;exact fun hm=>(ja h).2.2 y hm y (.head _) rfl
 show r.foldl o8 (aP acc y u)=_;rw[wC acc hy,qa r (acc++[(y,u)]) (by simpa using h)];simp
theorem CO{t:List (Str×Int)}{y:Str}{c:Int}(h:(t.map (·.1)).Nodup)(hy:y∉t.map (·.1)):tI t [(y,c)]=t++[(y,c)]:=by unfold tI;rw[qa t [] h];show aP t y (match t.lookup y with |some v=>v+c|none=>c)=_;exact((cT t y).mpr hy)▸(wC t hy)
noncomputable def dB(w:List Nat):List Nat:=List.range' 1 w.length
theorem dD{w:List Nat}{j:Nat}:j∈dB w↔1≤j∧j≤w.length:=by refine List.mem_range'_1.trans ?_;lia
def P1(w x:List Nat)(j:Nat):Bool:=decide (lastOf (w.take j)=x)
def vW(w x:List Nat)(k:Nat):Option St:=if e6 f1 (P1 w x) (List.range' 1 k)=0 then none else
 some ⟨1,e6 f1 (P1 w x) (List.range' 1 k),e6 fi (P1 w x) (List.range' 1 k),e6 fq (P1 w x) (List.range' 1 k),[(sL [],e6 f1 (P1 w x) (List.range' 1 k))]⟩
def Inv1(w:List Nat)(k:Nat)(B:List (Str×St)):Prop:=∀x,B.lookup (sL x)=vW w x k
noncomputable def iG:St:=⟨0,0,0,0,[]⟩
def y_(Qt:Bool)(place:Nat):St:=⟨if Qt then 1 else 0,1,place,(place:Int)* place,[(sL [],1)]⟩
def xH(w:List Nat)(B:List (Str×St))(k:Nat):List (Str×St):=aP B (sL (lastOf (w.take (k+1)))) (((B.lookup (sL (lastOf (w.take (k+1))))).getD iG).add (y_ (!(B.lookup (sL (lastOf (w.take (k+1))))).isSome) (k+1)))
theorem Lp(w:List Nat):Inv1 w 0 []:=fun x=>by rfl
theorem vX(P:Nat→Bool)(l:List Nat):0≤e6 f1 P l:=by rw[l9];exact rQ (nat_lit 118063360) ae
theorem jT{P:Nat→Bool}{l:List Nat}(h:e6 f1 P l=0)(f:Nat→Int):e6 f P l=0:=jS f (jR.mp h)
theorem za{w:List Nat}{B:List (Str×St)}{k:Nat}(h:Inv1 w k B):Inv1 w (k+1) (xH w B k):=by
 intro x;obtain hr:List.range' 1 (k+1)=List.range' 1 k++[k+1]:=by simp only[List.range'_concat,Nat.one_mul,Nat.add_comm 1 k]
 unfold xH;rw[c8,dz];by_cases hx:x=lastOf (w.take (k+1))
 ·rw[decide_eq_true hx,if_pos rfl,←hx,h x];obtain hP:P1 w x (k+1)=true:=by unfold P1;refine hx▸?_;simp
  unfold vW;rw[hr,f6,f6,f6,hP];simp only[if_true,f1,fi,fq];obtain nn:=vX (P1 w x) (List.range' 1 k);by_cases h0:e6 (fun a=>1) (P1 w x) (List.range' 1 k)=0
  ·rw[if_pos h0,h0,jT h0,jT h0];congr 1;dsimp only[Option.isSome_none,Option.getD_none,St.add,y_,iG,Bool.not_false,if_true];rw[St.mk.injEq];refine⟨by lia,Iz.go (nat_lit 7047322220930320) [] [] ae,rQ (nat_lit 0x1908709809190878a510) ae,wV (nat_lit 652986590480) ae,by first|rfl|trivial⟩
  ·obtain bV:¬(e6 (fun a=>1) (P1 w x) (List.range' 1 k)+1=0):=by unfold f1 at nn;exact wV (nat_lit 0x90961091908a10098102) ae nn
   rw[if_neg h0,if_neg bV];congr 1;dsimp only[Option.isSome_some,Option.getD_some,St.add,y_,Bool.not_true,if_false,Bool.false_eq_true];obtain e:tI [(sL [],e6 (fun a=>1) (P1 w x) (List.range' 1 k))] [(sL [],1)]=[(sL [],e6 (fun a=>1) (P1 w x) (List.range' 1 k)+1)]:=by rfl
   rw[St.mk.injEq];refine⟨by lia,wV (nat_lit 27522177213712) ae,D0 (nat_lit 0x19087080190878a510) ae,NS (nat_lit 6459794704) ae,by first|rfl|trivial⟩
 ·rw[decide_eq_false hx,h x];obtain hP:P1 w x (k+1)=false:=by exact decide_eq_false (fun e=>hx e.symm)
  unfold vW;rw[hr,f6,f6,f6,hP];simp
def i8(w x:List Nat):Prop:=∃j,j∈dB w∧x∈tailOf (w.take j)
theorem rH{w:List Nat}{j:Nat}(h:j∈dB w):w.take j≠[]:=by have :=dD.mp h;intro e;obtain this:=congrArg List.length e;simp only[List.length_take,List.length_nil] at this;lia
theorem occ_first{w x:List Nat}(h:i8 w x):∃j,j∈dB w∧lastOf (w.take j)=x:=by
 obtain⟨j,hj,hx⟩:=h;induction j using Nat.strongRecOn with
 |ind j ih=>
  by_cases e:lastOf (w.take j)=x
  ·exact⟨j,hj,e⟩
  ·obtain hm:=dD.mp hj;obtain hc:=(bP.mp hx);induction Fx:chainOf (w.take j) with
   |nil=>exact absurd Fx (iB _)|cons y r=>
    obtain hy:y≠x:=by unfold lastOf at e;rw[Fx] at e;exact e
    obtain hr:x∈r:=by
     obtain this:=hc.1;rw[Fx] at this;rcases bM this with q|q
     ·exact absurd q.symm hy
     ·exact q
    obtain⟨i,hi,WZ⟩:=rh hm.2 Fx hr;obtain ZJ:1≤i:=by
     rcases Nat.eq_zero_or_pos i with q|q
     ·subst q;have :x=[]:=by simpa [chainOf] using WZ
      exact absurd this hc.2
     ·exact q
    exact ih i hi (dD.mpr ⟨ZJ,aQ (nat_lit 9008440518119682) ae hi hm.2⟩) (bP.mpr ⟨WZ,hc.2⟩)
theorem tS{w:List Nat}{j:Nat}(h:j∈dB w):i8 w (lastOf (w.take j)):=⟨j,h,nI (rH h)⟩
abbrev rI(w x:List Nat)(j:Nat):List Nat:=prevIn [] (tailOf (w.take j)) x
abbrev tT(w x:List Nat)(j:Nat):Bool:=decide (x∈tailOf (w.take j))
def P3(w:List Nat)(done:List (List Nat))(x:List Nat)(j:Nat):Bool:=tT w x j&&(decide (rI w x j=[])||decide (rI w x j∈done))
def c3(w:List Nat)(done:List (List Nat))(x y:List Nat):Int:=e6 f1 (fun j=>tT w x j&&decide (rI w x j=y)&&(decide (y=[])||decide (y∈done))) (dB w)
structure tU(w:List Nat)(done:List (List Nat))(B:List (Str×St)):Prop where
 yes:∀x,i8 w x→∃s,B.lookup (sL x)=some s∧Ent (dB w) (P3 w done x) (c3 w done x) s
 no:∀x,¬i8 w x→B.lookup (sL x)=none
theorem Lq{w:List Nat}{B:List (Str×St)}(h:Inv1 w w.length B):tU w [] B:=by
 have same:∀x,x≠[]→∀j∈dB w,P3 w [] x j=P1 w x j:=fun x hx j hj=>by
  rw[Bool.eq_iff_iff];unfold P3 P1;simp only[Bool.and_eq_true,decide_eq_true_eq,Bool.or_eq_true,List.not_mem_nil,decide_false,Bool.false_eq_true,or_false];constructor
  ·exact fun h=>(nH h.1).mp h.2
  ·intro e;obtain this:=nI (rH hj);rw[e] at this;exact⟨this,(nH this).mpr e⟩
 constructor
 ·intro x hx;have bV:x≠[]:=by refine hx.elim fun j T6=>?_;obtain h:=T6.2;exact(bP.mp h).2
  obtain⟨j,hj,hl⟩:=occ_first hx;have Qu:e6 f1 (P1 w x) (dB w)≠0:=fun h0=>by have :=jR.mp h0 j hj;unfold P1 at this;rw[hl] at this;simp at this
  obtain hB:=h x;unfold vW at hB;rw[show List.range' 1 w.length=dB w from rfl,if_neg Qu] at hB;refine⟨_,hB,rfl,?_,?_,?_,by simp,fun y=>?_,by simp⟩
  ·exact(bq _ (same x bV)).symm
  ·exact(bq _ (same x bV)).symm
  ·exact(bq _ (same x bV)).symm
  ·simp only[List.lookup_cons,dz];unfold c3;by_cases hy:y=[]
   ·subst hy;have :e6 f1 (fun j=>tT w x j&&decide (rI w x j=[])&&(decide (([]:List Nat)=[])||decide (([]:List Nat)∈([]:List (List Nat))))) (dB w)=e6 f1 (P1 w x) (dB w):=bq _ fun j hj=>by rw[←same x bV j hj];unfold P3;simp
    rw[this,if_neg Qu];rfl
   ·obtain e0:e6 f1 (fun j=>tT w x j&&decide (rI w x j=y)&&(decide (y=[])||decide (y∈([]:List (List Nat))))) (dB w)=0:=jS _ fun j hj=>by simp[hy]
    rw[e0,decide_eq_false hy];rfl
 ·intro x hx;rw[h x];unfold vW;rw[if_pos];refine jR.mpr fun j hj=>?_
  exact decide_eq_false fun e=>hx (e▸tS hj)
def pass1(B:List (Str×St))(one:List Nat):List (Str×St):=
 if ay one=[] then B else
  match B.lookup (sL (ay one)),B.lookup (sL one) with |some t,some s=>aP B (sL (ay one)) (t.add ⟨0,s.nc,s.tt,s.ct,[(sL one,(s.cs.map (·.2)).sum)]⟩)|aK,bA=>B
theorem n7{w one:List Nat}(h:i8 w one)(hl:ay one≠[]):i8 w (ay one):=by obtain⟨j,hj,hm⟩:=h;exact⟨j,hj,(iC hm hl).1⟩
theorem zd{w:List Nat}{done:List (List Nat)}{B:List (Str×St)}{one:List Nat}(h:tU w done B)(ho:i8 w one)(hn:one∉done)(CP:∀y,i8 w y→one.length<y.length→y∈done):tU w (done++[one]) (pass1 B one):=by
 have CQ:one≠[]:=by refine ho.elim fun j ZK=>?_;obtain h:=ZK.2;exact(bP.mp h).2
 have Cg:∀x,x≠ay one→∀j∈dB w,tT w x j=true→rI w x j≠one:=fun x hx j hj hi e=>by obtain m8:x∈tailOf (w.take j):=of_decide_eq_true hi;obtain this:=cz m8 (by rw[show prevIn [] (tailOf (w.take j)) x=one from e];exact CQ);rw[show prevIn [] (tailOf (w.take j)) x=one from e] at this;exact hx this.2.symm
 have Lr:∀x,x≠ay one→∀j∈dB w,P3 w (done++[one]) x j=P3 w done x j:=fun x hx j hj=>by
  unfold P3;induction hi:tT w x j with |false=>rfl|true=>have :=Cg x hx j hj hi;congr 1;simp[this]
 have Vk:∀x,x≠ay one→∀y,c3 w (done++[one]) x y=c3 w done x y:=fun x hx y=>by
  refine bq _ fun j hj=>?_
  induction hi:tT w x j with
  |false=>rfl|true=>
   obtain this:=Cg x hx j hj hi;induction hc:decide (rI w x j=y) with |false=>rfl|true=>obtain Ls:rI w x j=y:=of_decide_eq_true hc;rw[Ls] at this;congr 1;simp[this]
 have cU:∀x s,x≠ay one→Ent (dB w) (P3 w done x) (c3 w done x) s→Ent (dB w) (P3 w (done++[one]) x) (c3 w (done++[one]) x) s:=fun x s hx e=>⟨e.cc,e.nc.trans (bq _ (Lr x hx)).symm,e.tt.trans (bq _ (Lr x hx)).symm,e.ct.trans (bq _ (Lr x hx)).symm,e.nd,fun y=>by rw[Vk x hx y];exact e.lk y,e.sum⟩
 unfold pass1;by_cases hl:ay one=[]
 ·rw[if_pos hl];refine⟨fun x hx=>?_,h.no⟩;have bV:x≠[]:=by obtain⟨j,_,h⟩:=hx;exact(bP.mp h).2
  obtain⟨s,h1,h2⟩:=h.yes x hx;exact⟨s,h1,cU x s (fun e=>bV (e.trans hl)) h2⟩
 ·rw[if_neg hl]
  obtain⟨t,ht,T⟩:=h.yes (ay one) (n7 ho hl);obtain⟨s,hs,S⟩:=h.yes one ho;rw[ht,hs];dsimp only;have Qv:∀j∈dB w,P3 w done one j=tT w one j:=fun j hj=>by
   unfold P3;induction hi:tT w one j with
   |false=>rfl|true=>
    obtain m8:one∈tailOf (w.take j):=of_decide_eq_true hi;by_cases hc:rI w one j=[]
    ·simp[hc]
    ·obtain hm:=(cz m8 hc).1;obtain this:=CP _ ⟨j,hj,hm⟩ (oY m8 hc);simp[show rI w one j∈done from this]
  have new:∀j∈dB w,(tT w (ay one) j&&decide (rI w (ay one) j=one))=P3 w done one j:=fun j hj=>by
   rw[Qv j hj,Bool.eq_iff_iff];simp only[Bool.and_eq_true,decide_eq_true_eq];constructor
   ·rintro⟨h1,h2⟩;obtain this:=(cz h1 (by rw[show prevIn [] (tailOf (w.take j)) (ay one)=one from h2];exact CQ)).1
    rwa [show prevIn [] (tailOf (w.take j)) (ay one)=one from h2] at this
   ·intro h1;exact iC h1 hl
  have split:∀j∈dB w,P3 w (done++[one]) (ay one) j=(P3 w done (ay one) j||P3 w done one j):=fun j hj=>by
   rw[←new j hj];unfold P3;rw[Bool.eq_iff_iff];simp only[Bool.and_eq_true,decide_eq_true_eq,Bool.or_eq_true,List.mem_append,List.mem_singleton];constructor
   ·rintro⟨h1,h2|h2|h2⟩
    ·exact .inl ⟨h1,.inl h2⟩
    ·exact .inl ⟨h1,.inr h2⟩
    ·exact .inr ⟨h1,h2⟩
   ·rintro(⟨h1,h2|h2⟩|⟨h1,h2⟩)
    ·exact⟨h1,.inl h2⟩
    ·exact⟨h1,.inr (.inl h2)⟩
    ·exact⟨h1,.inr (.inr h2)⟩
  have Vl:∀j∈dB w,P3 w done (ay one) j=true→P3 w done one j=false:=fun j hj hp=>by
   rw[←new j hj];unfold P3 at hp;simp only[Bool.and_eq_true,decide_eq_true_eq,Bool.or_eq_true] at hp;simp only[Bool.and_eq_false_iff,decide_eq_false_iff_not];right;rcases hp.2 with q|q
   ·rw[q];exact fun e=>CQ e.symm
   ·exact fun e=>hn (e▸q)
  have add:∀f,e6 f (P3 w (done++[one]) (ay one)) (dB w)=e6 f (P3 w done (ay one)) (dB w)+e6 f (P3 w done one) (dB w):=fun f=>by rw[bq f split,CN f Vl]
  obtain pos:e6 f1 (P3 w done one) (dB w)≠0:=fun h0=>by obtain⟨j,hj,hm⟩:=ho;obtain this:=jR.mp h0 j hj;rw[Qv j hj] at this;rw[show tT w one j=true from decide_eq_true hm] at this;exact nomatch this
  have fresh:sL one∉t.cs.map (·.1):=by rw[←cT,T.lk one,if_pos];exact jS _ fun j hj=>by simp[CQ,hn]
  refine⟨fun x hx=>?_,fun x hx=>?_⟩
  ·by_cases Vm:x=ay one
   ·subst Vm;refine⟨_,by rw[c8,beq_self_eq_true,if_pos rfl],?_⟩;obtain Vn:(t.add ⟨0,s.nc,s.tt,s.ct,[(sL one,(s.cs.map (·.2)).sum)]⟩).cs=t.cs++[(sL one,(s.cs.map (·.2)).sum)]:=CO T.nd fresh;refine⟨?_,?_,?_,?_,?_,fun y=>?_,?_⟩
    ·show 0+t.cc=1;rw[T.cc];rfl
    ·show s.nc+t.nc=_;rw[add,T.nc,S.nc];exact NS (nat_lit 6459794704) ae
    ·show s.tt+t.tt=_;rw[add,T.tt,S.tt];exact NS (nat_lit 6459794704) ae
    ·show s.ct+t.ct=_;rw[add,T.ct,S.ct];exact NS (nat_lit 6459794704) ae
    ·rw[Vn,List.map_append];exact List.nodup_append.mpr ⟨T.nd,by simp,fun a ha b hb=>by simp only[List.map_cons,List.map_nil,List.mem_singleton] at hb;subst hb;exact fun e=>fresh (e▸ha)⟩
    ·rw[Vn,List.lookup_append,T.lk y,List.lookup_cons,dz,S.sum,S.nc];by_cases hy:y=one
     ·subst hy;obtain e0:c3 w done (ay y) y=0:=jS _ fun j hj=>by simp[CQ,hn]
      obtain e1:c3 w (done++[y]) (ay y) y=e6 f1 (P3 w done y) (dB w):=bq _ fun j hj=>by rw[←new j hj];simp
      rw[e0,e1,if_pos rfl,if_neg pos,decide_eq_true rfl];rfl
     ·obtain e1:c3 w (done++[one]) (ay one) y=c3 w done (ay one) y:=bq _ fun j hj=>by
       congr 1;simp[hy]
      rw[e1,decide_eq_false hy];induction (if c3 w done (ay one) y=0 then none else some (c3 w done (ay one) y))<;>rfl
    ·rw[Vn,List.map_append,xG,T.sum];show t.nc+((s.cs.map (·.2)).sum+0)=s.nc+t.nc;rw[S.sum];exact NS (nat_lit 26427336992016) ae
   ·refine(h.yes x hx).elim fun u Qw=>?_;obtain h1:=Qw.1;obtain h2:=Qw.2
    refine⟨u,?_,cU x u Vm h2⟩;rw[c8,dz,decide_eq_false Vm,if_neg (by simp)];exact h1
  ·rw[c8,dz];have :x≠ay one:=fun e=>hx (e▸n7 ho hl)
   rw[decide_eq_false this,if_neg (by simp)];exact h.no x hx
def PW(w x:List Nat)(j:Nat):Bool:=tT w x j
def cW(w x y:List Nat):Int:=e6 f1 (fun j=>tT w x j&&decide (rI w x j=y)) (dB w)
theorem CR{w:List Nat}{done:List (List Nat)}{B:List (Str×St)}(h:tU w done B)(hd:∀x,i8 w x→x∈done):∀x,i8 w x→∃s,B.lookup (sL x)=some s∧Ent (dB w) (PW w x) (cW w x) s:=fun x hx=>by
 refine(h.yes x hx).elim fun s z=>z.elim fun h1 h2=>?_
 have call:∀j∈dB w,tT w x j=true→rI w x j=[]∨rI w x j∈done:=fun j hj hi=>by
  obtain m8:x∈tailOf (w.take j):=of_decide_eq_true hi;by_cases hc:rI w x j=[]
  ·exact .inl hc
  ·exact .inr (hd _ ⟨j,hj,(cz m8 hc).1⟩)
 obtain eP:∀j∈dB w,P3 w done x j=PW w x j:=fun j hj=>by
  unfold P3 PW;induction hi:tT w x j with |false=>rfl|true=>rcases call j hj hi with q|q<;>simp[q]
 have eC:∀y,c3 w done x y=cW w x y:=fun y=>bq _ fun j hj=>by
  induction hi:tT w x j with
  |false=>rfl|true=>
   by_cases hy:rI w x j=y
   ·subst hy;rcases call j hj hi with q|q<;>simp[q]
   ·simp[hy]
 exact⟨s,h1,h2.cc,h2.nc.trans (bq _ eP),h2.tt.trans (bq _ eP),h2.ct.trans (bq _ eP),h2.nd,fun y=>by refine(eC y)▸?_;exact h2.lk y,h2.sum⟩
abbrev qb:Scope:=tH 18
noncomputable abbrev kS(i:Nat):Stmt:=bD (bd 18) i
abbrev H9(k:Nat)(LV:V)(way:Int):af:=[(T "lexer",.ref k),(T "letters",LV),(T "way",.int way)]
abbrev kE(k:Nat)(LV:V)(way:Int)(t la:List Nat)(L:Nat):af:=[(T "lexer",.ref k),(T "letters",LV),(T "way",.int way),(T "text",aC t),(T "last",aC la),(T "calls",.ref L),(T "book",.ref (L+1)),(T "order",.ref (L+2))]
abbrev kK:List Str:=[T "lexer",T "letters",T "way",T "text",T "last",T "calls",T "book",T "order"]
theorem gU.hp{d:Nat}{sc:Scope}{env aj:af}{s:Stmt}{fl:Fl}{H H₁ H':AH}(h:gU d sc env s H fl aj H₁)(q:H₁=H'):gU d sc env s H fl aj H':=q▸h
abbrev Lx.bh(a:Lx)(B:AH)(aJ:Int)(cs:List Nat)(p:List V)(t:AH):AH:=a.hp (B++t) aJ p cs
section
variable{d:Nat}{a:Lx}{B t X:AH}{aJ:Int}{cs:List Nat}{p:List V}{LV:V}{way:Int}{l:List Nat}{o:az}
theorem Lx.Ok.rows(h:a.Ok B)(t:AH):a.Ok (B++t):=by
 have e:∀{i:Nat},i<B.length→i<(B++t).length:=fun q=>by rw[List.length_append];exact Nat.lt_of_lt_of_le q (Nat.le_add_right ..)
 obtain⟨g,hg⟩:=h.yS;exact⟨e h.lk,e h.lp,e h.lS,⟨g,by refine(List.getElem?_append_left (cV hg).1).trans ?_;exact hg⟩,h.d1,h.d2,h.d3,h.d4,h.d5,h.d6⟩
theorem dF(h:a.Ok B)(i:Nat):(a.bh B aJ cs p t)[B.length+i]?=t[i]?:=by
 obtain e:∀{j:Nat},j<B.length→j≠B.length+i:=fun q=>by exact aQ (nat_lit 0x90961218031101102) ae q
 rw[Lx.Cg (e h.lk) (e h.lp) (e h.lS),Cu]
theorem eS(h:a.Ok B)(i:Nat)(o:az):(a.bh B aJ cs p t).set (B.length+i) o=a.bh B aJ cs p (t.set i o):=by
 obtain e:∀{j:Nat},j<B.length→j≠B.length+i:=fun q=>by exact aQ (nat_lit 0x90961218031101102) ae q
 rw[Lx.Cq (e h.lk) (e h.lp) (e h.lS),List.set_append_right _ _ (Nat.le_add_right ..),Nat.add_sub_cancel_left]
theorem jr(h:a.Ok B):a.bh B aJ cs p t++[o]=a.bh B aJ cs p (t++[o]):=by rw[Lx.app (h.rows t),List.append_assoc]
theorem Lu:(a.bh B aJ cs p t).length=B.length+t.length:=by simp only[Lx.len,List.length_append]
theorem tV{α:Type}:∀l s:List α,l.foldl (fun s x=>s++[x]) s=s++l|[],s=>(List.append_nil s).symm|x::l,s=>(tV l _).trans (List.append_assoc ..)
theorem Fy(h:a.Ok B)(hl:l.length≤12):bZ (d+2) qb (dI (kS 0)) (d_ (kS 0)) (l.map cY) (H9 a.k LV way) (a.hp B aJ [] cs) .next (H9 a.k LV way) (a.hp B aJ (l.map cY) cs):=by
 obtain q:=bZ.fold (d:=d+2) (sc:=qb) (t:=dI (kS 0)) (body:=d_ (kS 0)) cY (fun b:List Nat=>H9 a.k LV way) (fun s=>a.hp B aJ (s.map cY) cs) (fun s x=>s++[x]) (fun xs s=>s.length+xs.length≤12)
  (fun x xs s hh=>by rw[List.length_append];simp only[List.length_cons,List.length_nil] at hh⊢;exact aE (nat_lit 0xc911909808801c91918080101) ae hh)
  (fun x xs s hh=>by obtain p:=xy (d:=d) (v:=cY x) (push:=s.map cY) (cs:=cs) (l:=aJ) h (by rw[List.length_map];simp only[List.length_cons] at hh;exact aE (nat_lit 0x1000006f190811c91918080101) ae hh);obtain p:=p.hp (show _=a.hp B aJ ((s++[x]).map cY) cs by rw[List.map_append];rfl);exact av [T "lexer",T "letters",T "way"] (.obj (h.self (aJ:=aJ) (push:=s.map cY) (cs:=cs)) (.call p .nil)) (by kernel_rfl)) l [] (by simp only[List.length_nil,Nat.zero_add];exact hl)
 simp only[tV,List.nil_append] at q;exact q
theorem Lv(h:a.Ok B):gU (d+1) qb (H9 a.k LV way) (kS 1) (a.hp B aJ p cs) .next (kE a.k LV way [] [] B.length) (a.bh B aJ cs p [.aF [],.aF [],.lst []]):=by
 obtain q:∀X:AH,gU (d+1) qb (H9 a.k LV way) (kS 1) X .next [(T "lexer",.ref a.k),(T "letters",LV),(T "way",.int way),(T "text",aC []),(T "last",aC []),(T "calls",.ref X.length),(T "book",.ref (X++[az.aF []]).length),(T "order",.ref ((X++[az.aF []])++[az.aF []]).length)] (((X++[az.aF []])++[az.aF []])++[az.lst []]):=fun X=>bK .nil (by kernel_rfl)
 obtain e:=q (a.hp B aJ p cs);rw[List.length_append,List.length_append,Lx.len,Lx.app h,Lx.len,Lx.app h.app,Lx.app h.app.app,List.length_append,List.append_assoc,List.append_assoc] at e;exact e
abbrev tB:List Stmt:=d_ (kS 2)
abbrev RT(k:Nat)(LV:V)(way:Int)(t la:List Nat)(L:Nat)(p:Int)(c ka:Nat):af:=[(T "lexer",.ref k),(T "letters",LV),(T "way",.int way),(T "text",aC t),(T "last",aC la),(T "calls",.ref L),(T "book",.ref (L+1)),(T "order",.ref (L+2)),(T "place",.int p),(T "letter",cY c),(T "chain",.ref ka)]
abbrev Vo:List Str:=[T "lexer",T "letters",T "way",T "text",T "last",T "calls",T "book",T "order",T "place",T "letter",T "chain"]
theorem dG:∀t:List Nat,(chainOf t).length≤t.length+1
|[]=>Nat.le_refl _|x::t=>by
 obtain this:=dG t;unfold chainOf;split
 ·exact Nat.succ_le_succ this
 ·exact Nat.le_succ_of_le this
variable{L k c:Nat}{i:Int}{w la:List Nat}{CL:List (Str×Str)}
theorem rJ(jd:X[L]?=some (.aF (aq V.str CL)))(hc:∀y z r pre,chainOf w=pre++y::z::r→CL.lookup (sL y)=some (sL z)):∀(xs:List Nat) (pre:List (List Nat)) (y:List Nat) (r:List (List Nat)),chainOf w=pre++y::r→r.length≤xs.length→pre.length+xs.length<1000→
  bZ (d+1) qb (dI (bD tB 1)) (d_ (bD tB 1)) (xs.map fun(i:Nat)=>.int (0+(i:Int))) (RT k LV way w la L i c X.length) (X++[.lst ((pre++[y]).map aC)]) .next (RT k LV way w la L i c X.length) (X++[.lst ((chainOf w).map aC)])
 |[],pre,y,r,h,hr,aK=>by
  induction r using List.casesOn with |nil=>rw[h];exact .nil|cons _ _=>exact absurd hr (Nat.not_succ_le_zero _)
 |x::xs,pre,y,r,h,hr,hz=>by
  simp only[List.length_cons] at hr hz;obtain g:=cM (H:=X) (o:=.lst ((pre++[y]).map aC));have hl:((pre++[y]).map aC).length=pre.length+1:=by rw[List.length_map,List.length_append];rfl
  have it:lD (some (.lst ((pre++[y]).map aC))) (.int (-1))=some (aC y):=iE (j:=pre.length) (.inr ⟨by rw[hl];exact rQ (nat_lit 0x71908719d8a510) ae,by decide⟩) (by rw[List.map_append,List.getElem?_append_right (by rw[List.length_map];exact Nat.le_refl _),List.length_map,Nat.sub_self];rfl) (aQ (nat_lit 0x1000000000000000100f0113e83f19281811191802102) ae hl hz);by_cases hy:y=[]
  ·subst hy;cases gB h;exact(av Vo (.obj g (.val 1 it .nil)) (by kernel_rfl)).next (.inl rfl) (rJ jd hc xs pre [] [] h (Nat.zero_le _) (aE (nat_lit 0x3e83f108113e83f1918081101) ae hz))
  ·obtain⟨z,s,rfl⟩:=i6 h hy;have UD:lD (some (.aF (aq V.str CL))) (aC y)=some (aC z):=(fF V.str CL (sL y)).trans (congrArg (Option.map V.str) (hc _ _ _ _ h));obtain Vp:(X++[az.lst ((pre++[y]).map aC)])[L]?=some (.aF (aq V.str CL)):=by rw[List.getElem?_append_left (cV jd).1];exact jd
   obtain ap:=Ld (k:=X.length) (v:=aC z) (xs:=(pre++[y]).map aC) (H:=X++[.lst ((pre++[y]).map aC)]) (aQ (nat_lit 0x1000006f1908113e83f19281811191802102) ae hl hz) cN;rw[←List.map_singleton,←List.map_append] at ap;obtain ny:(!(sL y==T ""))=true:=by rw[show T ""=sL [] by kernel_rfl,dz,decide_eq_false hy];rfl
   exact(av Vo (.obj g (.val 1 it (.no 3 ny (.obj g (.obj g (.val 7 it (.obj Vp (.val 8 UD (.obj g (.upd 9 ap .nil)))))))))) (by kernel_rfl)).next (.inl rfl) (rJ jd hc xs (pre++[y]) z s (by rw[h,List.append_assoc];rfl) (by simp only[List.length_cons] at hr;exact aE (nat_lit 0x1001191819080101) ae hr) (by rw[List.length_append];show pre.length+1+_<_;omega))
end
abbrev Qx(e:Expr):Expr:=rC e 0
abbrev W2:Expr:=Qx (jn (bD tB 2))
section
variable{d:Nat}{a:Lx}{B r X:AH}{aJ:Int}{cs:List Nat}{p:List V}{LV:V}{way:Int}{l t:List Nat}{o:az}{c:Nat}
theorem FA(ht:t.length<20)(e:List Nat)(he:e∈chainOf t)(vs:List V)(hz:vs.length+1<ai):Mf (d+1) W2 (aC e) [(T "letter",cY c),(T "text",aC t)] (.l vs) X (.l (bif cu t c e then vs++[aC (c::(e++[c]))] else vs)) X:=by
 obtain e1:decide (((sL e).length:Int)<((sL t).length:Int))=decide (e.length<t.length):=by simp only[cR,cR,Bool.eq_iff_iff,decide_eq_true_iff,decide_eq_true_iff,Int.ofNat_lt]
 unfold cu;induction bL:decide (e.length<t.length) with
 |false=>exact a_ [T "letter",T "text"] (.no 7 (e1.trans bL) .nil) (by kernel_rfl)|true=>
  obtain Lw:=of_decide_eq_true bL;obtain⟨x,hx⟩:∃x,t[t.length-e.length-1]?=some x:=⟨_,List.getElem?_eq_getElem (Ln.go (nat_lit 0x10111201219082102) [_,_,_,0] ae (Nat.sub_add_cancel (aQ (nat_lit 0x21901028101101102) ae Lw (Ln.aN (t.length) (e.length)):1≤t.length-e.length)) (Nat.sub_le (t.length) (e.length)))⟩;obtain it:=l6 (H:=X) (i:=((sL t).length:Int)-((sL e).length:Int)-1) (l:=t) (k:=t.length-e.length-1) (.inl (by simp only[cR,cR];exact NR (nat_lit 0x27191707cca53192834013834192830113800114) ae (Ln.aN (t.length) (e.length)) (Ln.aN (t.length-e.length) (1)) (Nat.sub_add_cancel (aE (nat_lit 68737306881) ae Lw:e.length≤t.length)) (Nat.sub_add_cancel (aQ (nat_lit 0x21901028101101102) ae Lw (Ln.aN (t.length) (e.length)):1≤t.length-e.length)))) hx (aV (nat_lit 0x1000000000000000100f01114e01101) ae ht);simp only[hx,show(some x==some c)=(x==c) from rfl];induction hb:x==c with |false=>exact a_ [T "letter",T "text"] (.no 7 (e1.trans bL) (.val 17 it (.no 20 (b:=gQ x==gQ c) ((cG x c).trans hb) .nil))) (by kernel_rfl)|true=>obtain b1:=yZ (a:=[c]) (b:=e) (by show 1+_<_;omega);obtain b2:=yZ (a:=c::e) (b:=[c]) (by refine(?_:e.length+1+1<_);omega);exact a_ [T "letter",T "text"] (.no 7 (e1.trans bL) (.val 17 it (.no 20 (b:=gQ x==gQ c) ((cG x c).trans hb) (.val 24 b1 (.val 26 b2 (.no 27 (bj hz) .nil)))))) (by kernel_rfl)
theorem FD(ht:t.length<20):dJ (d+1) W2 ((chainOf t).map aC) [(T "letter",cY c),(T "text",aC t)] (.l []) X (.l (((chainOf t).filter (cu t c)).map fun e=>aC (c::(e++[c])))) X:=aG.pick aC (fun e=>aC (c::(e++[c]))) (cu t c) (chainOf t) [] (by obtain this:=dG t;simp only[List.length_nil];unfold ai;exact aE (nat_lit 0x1000006f00981114e111191800102) ae this ht) fun e he vs hz=>FA ht e he vs hz
theorem CU{a b:List V}(h:a.length+b.length<2^20):binop .Add (.lst a) (.lst b)=some (.lst (a++b)):=by show(if sizeOk (a.length+b.length) then some (V.lst (a++b)) else none)=_;rw[show sizeOk (a.length+b.length)=true from decide_eq_true h];rfl
theorem Ly(ht:t.length<20):binop .Add (.lst (((chainOf t).filter (cu t c)).map fun e=>aC (c::(e++[c])))) (.lst [cY c,.str (T "")])=some (.lst ((chainOf (t++[c])).map aC)):=by obtain h1:=List.length_filter_le (cu t c) (chainOf t);obtain h2:=dG t;rw[CU (by rw[List.length_map];show _+2<_;lia),kJ,List.map_append,List.map_map];rfl
theorem n8{xs:List V}{i:Nat}{v:V}(h:xs[i]?=some v)(hn:xs.length<2^60):item X (.lst xs) (.int i)=some v:=nW (.inl rfl) h hn
theorem Lz{k:Nat}{x:Str}{kvs:List (Str×V)}(h:X[k]?=some (.aF kvs)):dK X .NotIn (.str x) (.ref k)=some (.bool !(kvs.lookup x).isSome):=by show(alt (gH (deref X (.ref k)) fun kvs=>some (kvs.lookup x).isSome) none).map (fun r=>V.bool !r)=_;rw[xu h];rfl
theorem LA{β:Type}(f:β→V)(o:Option β)(d:β):(o.map f).getD (f d)=f (o.getD d):=by induction o<;>rfl
theorem Qy(b:Bool):gj false "int" [.bool b] X=some (.int (if b then 1 else 0),X):=by induction b<;>kernel_rfl
theorem CV(j:Nat)(hj:j<100):binop .Mult (.int j) (.int j)=some (.int ((j:Int)* j)):=by obtain hs:small (j:Int)=true:=decide_eq_true (by simp only[Int.natAbs_natCast];exact aV (nat_lit 0x100000000000000000000000000000000210f01164e01101) ae hj);show(if small j&&small j then some (V.int ((j:Int)* j)) else none)=_;refine hs.symm▸?_;rfl
variable{CL:List (Str×Str)}{K:List (Str×St)}{O:List (List Nat)}{rest:List V}{x y:List Nat}{en:List (List Nat)}{j:Nat}
abbrev bR(CL:List (Str×Str))(K:List (Str×St))(O:List (List Nat))(r:AH):AH:=.aF (aq V.str CL)::.aF (aq St.enc K)::.lst (O.map aC)::r
theorem FE(h:a.Ok B)(ht:t.length<20)(hj:j<100)(hc:∀y z r pre,chainOf t=pre++y::z::r→CL.lookup (sL y)=some (sL z))(hx:chainOf (t++[c])=x::y::en)(ZL:CL.length<1000)(hK:K.length<1000)(hs:∀s,K.lookup (sL x)=some s→s.cs.length<1000):
  ∃o,Turn (d+4) qb (dI (kS 2)) tB (.int j) (kE a.k LV way t (lastOf t) B.length) (a.bh B aJ cs (cY c::rest) (bR CL K O r)) .next (kE a.k LV way (t++[c]) x B.length)
   (a.bh B aJ cs rest (bR (aP CL (sL x) (sL y)) (aP K (sL x) (((K.lookup (sL x)).getD iG).add (y_ (!(K.lookup (sL x)).isSome) j))) O (r++[o,.gone]))):=by
 let old:=(K.lookup (sL x)).getD iG;let new:=y_ (!(K.lookup (sL x)).isSome) j
 let X:AH:=a.bh B aJ cs rest (bR CL K O r);let ch:az:=.lst ((chainOf t).map aC)
 let Y:AH:=((X++[ch]).set X.length .gone).set X.length ch;let Z:AH:=a.bh B aJ cs rest (bR (aP CL (sL x) (sL y)) K O (r++[ch]))
 obtain eY:Y=a.bh B aJ cs rest (bR CL K O (r++[ch])):=by show((X++[ch]).set X.length .gone).set X.length ch=_;rw[List.set_set,cN];exact jr h
 obtain k0:=(h.rows (bR CL K O r)).self (aJ:=aJ) (push:=cY c::rest) (cs:=cs);obtain c0:=nT (d:=d+2) (x:=cY c) (p:=rest) (cs:=cs) (l:=aJ) (h.rows (bR CL K O r));obtain r0:=gC (sL t).length (X++[.lst [aC (lastOf t)]]) (by rw[cR];exact aV (nat_lit 0x1000000000000000100f01114e01101) ae ht);obtain lp:bZ (d+4) qb (dI (bD tB 1)) (d_ (bD tB 1)) ((List.range (sL t).length).map fun(i:Nat)=>.int (0+(i:Int))) (RT a.k LV way t (lastOf t) B.length j c X.length) (X++[.lst [aC (lastOf t)]]) .next (RT a.k LV way t (lastOf t) B.length j c X.length) (X++[ch]):=by
  induction Fx:chainOf t with
  |nil=>exact absurd Fx (iB t)|cons z s=>
   obtain e:lastOf t=z:=by unfold lastOf;rw[Fx];rfl
   obtain hl:=dG t;rw[Fx] at hl;obtain q:=rJ (d:=d+3) (LV:=LV) (way:=way) (X:=X) (L:=B.length) (k:=a.k) (c:=c) (i:=j) (w:=t) (la:=lastOf t) (CL:=CL) (dF h 0) hc (List.range (sL t).length) [] z s Fx (by rw[List.length_range,cR];exact Nat.le_of_succ_le_succ hl) (by rw[List.length_range,cR,List.length_nil];exact aV (nat_lit 0x3e83f00981114e01101) ae ht);rw[←e] at q;exact q
 obtain k1:=cM (H:=X) (o:=ch);obtain cp:=FD (d:=d+3) (X:=(X++[ch]).set X.length .gone) (c:=c) ht;obtain ad:=Ly (c:=c) ht;rw[hx] at ad;obtain a1:=yZ (a:=t) (b:=[c]) (by show _+1<_;omega);obtain hl:=dG (t++[c]);rw[hx,List.length_append] at hl;simp only[List.length_cons,List.length_nil] at hl;obtain i0:=n8 (X:=Y) (xs:=(x::y::en).map aC) (i:=0) (v:=aC x) rfl (by rw[List.length_map,List.length_cons,List.length_cons];exact aE (nat_lit 0x1000000000000000100f19190881114e111191909818819190880102) ae hl ht);obtain i1:=n8 (X:=Y) (xs:=(x::y::en).map aC) (i:=1) (v:=aC y) rfl (by rw[List.length_map,List.length_cons,List.length_cons];exact aE (nat_lit 0x1000000000000000100f19190881114e111191909818819190880102) ae hl ht);obtain k2:Y[B.length]?=some (.aF (aq V.str CL)):=by rw[eY];exact dF h 0
 obtain s1:mz B.length (sL x) (aC y) (.aF (aq V.str CL)) Y=some ((),Z):=E0 (by rw[dX];exact aV (nat_lit 0x1000006f1908113e83f01101) ae ZL) (by rw[eY,show aC y=V.str (sL y) from rfl,j6];exact eS h 0 _);obtain k3:Z[B.length+1]?=some (.aF (aq St.enc K)):=dF h 1;obtain g0:pn (aq St.enc K) "get" [aC x,iG.enc] Z=some (old.enc,Z):=by show some (((aq St.enc K).lookup (sL x)).getD iG.enc,Z)=_;rw[fF,LA]
 obtain ni:=Lz (x:=sL x) k3;rw[fF,Option.isSome_map] at ni;obtain ib:=Qy (X:=Z) (!(K.lookup (sL x)).isSome);obtain hold:old.cs.length<1000:=by
  show((K.lookup (sL x)).getD iG).cs.length<1000;induction e:K.lookup (sL x) with |none=>exact Nat.zero_lt_succ _|some s=>exact hs s e
 obtain st:=jP (d:=d+1) Z old new (by show old.cs.length+1+1<_;omega);obtain k4:(Z++[.gone])[B.length+1]?=some (.aF (aq St.enc K)):=by rw[show Z++[.gone]=_ from jr h];exact dF h 1
 obtain s2:mz (B.length+1) (sL x) (old.add new).enc (.aF (aq St.enc K)) (Z++[.gone])=some ((),a.bh B aJ cs rest (bR (aP CL (sL x) (sL y)) (aP K (sL x) (old.add new)) O (r++[ch,.gone]))):=E0 (by rw[dX];exact aV (nat_lit 0x1000006f1908113e83f01101) ae hK) (by rw[show Z++[.gone]=_ from jr h,eS h 1,j6];show a.bh B aJ cs rest (bR _ _ O ((r++[ch])++[.gone]))=_;rw[List.append_assoc];rfl);exact⟨ch,av kK (.obj k0 (.call c0 (.ks Vo (.upd 6 r0 (.loop lp (.obj k1 (.cmp cp (.val 9 ad (.val 12 a1 (.val 14 i0 (.val 16 i1 (.obj k2 (.vL 19 s1 (.obj k3 (.obj k3 (.upd 23 g0 (.val 27 ni (.upd 28 ib (.val 32 (CV j hj) (.call st (.obj k4 (.vL 35 s2 .nil)))))))))))))))))))))) (by kernel_rfl)⟩
end
section
variable{d:Nat}{a:Lx}{B r X:AH}{aJ:Int}{cs:List Nat}{LV:V}{way:Int}{l:List Nat}{CL:List (Str×Str)}{B0:List (Str×St)}
structure LB(l:List Nat)(j:Nat)(CL:List (Str×Str))(B:List (Str×St)):Prop where
 inv:Inv1 l j B
 call:∀i,1≤i→i≤j→CL.lookup (sL (lastOf (l.take i)))=some (sL (ay (lastOf (l.take i))))
 lc:CL.length≤j
 lb:B.length≤j
 nd:(B.map (·.1)).Nodup
theorem LB.next{j:Nat}{B:List (Str×St)}(A:LB l j CL B):LB l (j+1) (aP CL (sL (lastOf (l.take (j+1)))) (sL (ay (lastOf (l.take (j+1)))))) (xH l B j):=by
 refine⟨za A.inv,fun i h1 h2=>?_,?_,?_,kW _ _ _ A.nd⟩
 ·rw[c8,dz];by_cases hx:lastOf (l.take i)=lastOf (l.take (j+1))
  ·rw[decide_eq_true hx,if_pos rfl,hx]
  ·rw[decide_eq_false hx];have :i≠j+1:=fun e=>hx (by rw[e])
   exact A.call i h1 (aE (nat_lit 281550432243969) ae (Nat.lt_of_le_of_ne (aE (nat_lit 0x1918001191800101) ae h2) this))
 ·obtain this:=cC CL (sL (lastOf (l.take (j+1)))) (sL (ay (lastOf (l.take (j+1)))));obtain this:=A.lc;lia
 ·unfold xH;obtain this:=cC B (sL (lastOf (l.take (j+1)))) (((B.lookup (sL (lastOf (l.take (j+1))))).getD iG).add (y_ (!(B.lookup (sL (lastOf (l.take (j+1))))).isSome) (j+1)));obtain this:=A.lb;lia
theorem CW{j:Nat}(K:LB l j CL B0)(hj:j<l.length):∀y z r pre,chainOf (l.take j)=pre++y::z::r→CL.lookup (sL y)=some (sL z):=fun y z r pre h=>by
 have hy:y≠[]:=fun e=>by subst e;exact absurd (gB h) (fun e=>nomatch e)
 obtain hm:y∈tailOf (l.take j):=bP.mpr ⟨by rw[h];exact List.mem_append_right _ (.head _),hy⟩;have bV:l.take j≠[]:=fun e=>by rw[e] at hm;exact nomatch hm
 obtain ho:i8 (l.take j) y:=⟨(l.take j).length,dD.mpr ⟨List.length_pos_iff.mpr bV,Nat.le_refl _⟩,by rw[List.take_length];exact hm⟩;obtain⟨i,hi,he⟩:=occ_first ho;have m8:=dD.mp hi
 obtain gD:i≤j:=by obtain this:=m8.2;rw[List.length_take] at this;exact aQ (nat_lit 9008440518115586) ae this (Nat.min_le_left (j) (l.length))
 rw[List.take_take,Nat.min_eq_left gD] at he;obtain q:=K.call i m8.1 gD;rw[he] at q;refine q.trans ?_;unfold ay;rw[bT h];rfl
theorem xJ(hl:l.length≤12)(h:a.Ok B):∀(n j:Nat) (CL:List (Str×Str)) (K:List (Str×St)) (r:AH),j+n=l.length→LB l j CL K→∃LC K' r',LB l l.length LC K'∧
  bZ (d+4) qb (dI (kS 2)) tB ((List.range' j n).map fun(i:Nat)=>.int (1+(i:Int))) (kE a.k LV way (l.take j) (lastOf (l.take j)) B.length) (a.bh B aJ cs ((l.drop j).map cY) (bR CL K [] r)) .next (kE a.k LV way l (lastOf l) B.length) (a.bh B aJ cs [] (bR LC K' [] r'))
 |0,j,CL,K,r,hj,q=>by cases (show j=l.length from hj);rw[List.take_length,List.drop_length];exact⟨CL,K,r,q,.nil⟩
 |n+1,j,CL,K,r,hj,q=>by
  have rR:j<l.length:=by exact aQ (nat_lit 0x201121918082101) ae hj
  obtain hd:l.drop j=l[j]::l.drop (j+1):=List.drop_eq_getElem_cons rR;obtain ht:l.take j++[l[j]]=l.take (j+1):=by simp only[List.take_succ_eq_append_getElem rR]
  obtain⟨en,he⟩:=yM (t:=l.take (j+1)) (rH (dD.mpr ⟨aV (nat_lit 107510038784) ae,aE (nat_lit 308997144973569) ae rR⟩));obtain⟨o,tn⟩:=FE (d:=d) (r:=r) (aJ:=aJ) (cs:=cs) (LV:=LV) (way:=way) (t:=l.take j) (c:=l[j]) (CL:=CL) (K:=K) (O:=[]) (rest:=(l.drop (j+1)).map cY) (x:=lastOf (l.take (j+1))) (y:=ay (lastOf (l.take (j+1)))) (en:=en) (j:=j+1) h (by rw[List.length_take];exact aE (nat_lit 0x14e111c9001010102) ae (Nat.min_le_right (j) (l.length)) hl) (aE (nat_lit 0x64e190811c9101101102) ae rR hl) (CW q rR) (by refine ht.symm▸?_;exact he) (by obtain this:=q.lc;exact aQ (nat_lit 0x3e83f011c92012111100103) ae this rR hl) (by obtain this:=q.lb;exact aQ (nat_lit 0x3e83f011c92012111100103) ae this rR hl) (fun s e=>by
   have h1:=q.inv (lastOf (l.take (j+1)));rw[e] at h1;unfold vW at h1;split at h1
   ·exact nomatch h1
   ·obtain rfl:=Option.some.inj h1;exact Nat.succ_lt_succ (Nat.zero_lt_succ _))
  refine(xJ hl h n (j+1) _ _ (r++[o,.gone]) (aQ (nat_lit 0x21190882521918082511) ae hj) q.next).elim fun LC J8=>?_;refine J8.elim fun K' L6=>?_;refine L6.elim fun r' zw=>?_;obtain q':=zw.1;obtain lp:=zw.2
  refine⟨LC,K',r',q',?_⟩;rw[hd];simp only[ht] at tn;obtain e1:(1:Int)+(j:Int)=((j+1:Nat):Int):=by exact rQ (nat_lit 7046153452954896) ae
  show bZ (d+4) qb _ _ (.int (1+(j:Int))::_) _ _ _ _ _;refine e1▸?_;exact tn.next (.inl rfl) lp
end
end Mine
end
noncomputable section
open PySem PySem.W PySem.Builtin PySem.Builtin.Str PyProof.Rows
namespace Mine
theorem eU{α:Type}{gJ:Nat→Nat→Option Bool}{i j:Nat}{k:Bool→KasT α}{b:Bool}(h:gJ i j=some b):runK gJ (.ask i j k)=runK gJ (k b):=by rw[runK,h]
theorem qc{α:Type}{gJ:Nat→Nat→Option Bool}{i j:Nat}{k:Bool→KasT α}(h:gJ i j=none):runK gJ (.ask i j k)=none:=by rw[runK,h]
theorem qj{α β:Type}{gJ:Nat→Nat→Option Bool}{f:α→KasT β}:∀t:KasT α,runK gJ (t.bind f)=(runK gJ t).bind fun a=>runK gJ (f a)
|.ret a=>rfl|.ask i j k=>by
 refine(show(KasT.ask i j k).bind f=KasT.ask i j fun b=>(k b).bind f from rfl)▸?_;induction h:gJ i j with |none=>rw[qc h,qc h];rfl|some b=>rw[eU h,eU h];exact qj (k b)
theorem dH{α β:Type}{gJ:Nat→Nat→Option Bool}{f:α→KasT β}{t:KasT α}{a:α}(h:runK gJ t=some a):runK gJ (t.bind f)=runK gJ (f a):=by rw[qj,h];rfl
noncomputable def gp(p:Array Nat)(i:Nat):Nat:=p.getD i 0
theorem n9(p:Array Nat)(i:Nat):gp p i=(p[i]?).getD 0:=by simp[gp,Array.getD_eq_getD_getElem?]
theorem eW{p:Array Nat}{i j:Nat}(h:j≤p.size)(k:Nat):gp (kas_rev p i j) k=if i≤k∧k<j then gp p (i+j-1-k) else gp p k:=by rw[n9];unfold kas_rev;rw[getElem?_mirror_all h];split<;>simp only[n9]
theorem ze{p:Array Nat}{src d:Nat}(hs:src<p.size)(hd:d≤src)(k:Nat):gp (bubble p src d) k=if k=src-d then gp p src else if src-d<k∧k≤src then gp p (k-1) else gp p k:=by
 simp only[n9,getElem?_bubble hs d hd,n9,n9,n9];by_cases h1:k=src-d
 ·rw[if_pos h1,if_pos h1]
 ·rw[if_neg h1,if_neg h1];by_cases h2:src-d<k∧k≤src
  ·rw[if_pos h2,if_pos h2]
  ·rw[if_neg h2,if_neg h2]
structure W3(lt:Nat→Nat→Bool):Prop where
 RU:∀i,lt i i=false
 tr:∀i j k,lt i j=true→lt j k=true→lt i k=true
 nt:∀i j k,lt i j=false→lt j k=false→lt i k=false
section
variable{lt:Nat→Nat→Bool}(O:W3 lt){gJ:Nat→Nat→Option Bool}{N:Nat}(ha:∀i j,i<N→j<N→gJ i j=some (lt i j))
def CY(lt:Nat→Nat→Bool)(a b:Nat):Prop:=lt a b=true∨(lt b a=false∧a<b)
include O
theorem Qz{i j:Nat}(h:lt i j=true):lt j i=false:=by
 induction e:lt j i with |false=>rfl|true=>have :=O.tr i j i h e;rw[O.RU] at this;exact bE this
theorem jU{i j:Nat}(h:CY lt i j):lt j i=false:=h.elim (Qz O) (·.1)
theorem LD{i j k:Nat}(h:lt i j=true)(h2:lt k j=false):lt i k=true:=by
 induction e:lt i k with |true=>rfl|false=>have :=O.nt _ _ _ e h2;rw[h] at this;exact nomatch this
theorem Vq{i j k:Nat}(h:lt j i=false)(h2:lt j k=true):lt i k=true:=by
 induction e:lt i k with |true=>rfl|false=>have :=O.nt _ _ _ h e;rw[h2] at this;exact nomatch this
omit O
structure Cut(p:Array Nat)(N k:Nat):Prop where
 sz:p.size=N
 le:k≤N
 lo:∀i,i<k→gp p i<k
 hi:∀i,k≤i→i<N→gp p i=i
def i9(lt:Nat→Nat→Bool)(p:Array Nat)(k:Nat):Prop:=∀i j,i<j→j<k→CY lt (gp p i) (gp p j)
theorem Cut.aL{p:Array Nat}{k i:Nat}(C:Cut p N k)(h:i<N):gp p i<N:=by
 by_cases q:i<k
 ·have :=C.lo i q;have :=C.le;lia
 ·rw[C.hi i (aE (nat_lit 4312813825) ae q) h];exact h
theorem Cut.rev{p:Array Nat}{k i j:Nat}(C:Cut p N k)(h:j≤k):Cut (kas_rev p i j) N k:=by
 have hs:j≤p.size:=by rw[C.sz];obtain this:=C.le;exact aQ (nat_lit 5067717828804866) ae h this
 refine⟨by unfold kas_rev;rw[mirror_size];exact C.sz,C.le,fun a ha=>?_,fun a h1 h2=>?_⟩
 ·rw[eW hs];split
  ·exact C.lo _ (by omega)
  ·exact C.lo _ ha
 ·rw[eW hs,if_neg (fun x'=>aQ (nat_lit 0x9096102012101101103) ae x'.2 h h1)];exact C.hi a h1 h2
theorem Cut.succ{p:Array Nat}{k:Nat}(C:Cut p N k)(h:k<N):Cut p N (k+1):=by
 refine⟨C.sz,h,fun i hi=>?_,fun i h1 h2=>C.hi i (aE (nat_lit 281548411109633) ae h1) h2⟩;by_cases q:i<k
 ·obtain this:=C.lo i q;exact aE (nat_lit 441454204817665) ae this
 ·rw[C.hi i (aE (nat_lit 4312813825) ae q) (aQ (nat_lit 0x20112111191801102) ae hi h)];exact hi
include O ha
theorem vY{p:Array Nat}:∀(f n:Nat),1≤n→n+f=N→Cut p N n→i9 lt p n→∃m,n≤m∧runK gJ (kas_asc p f n)=some m∧Cut p N m∧i9 lt p m∧(m<N→lt (gp p m) (gp p (m-1))=true)
|0,n,h1,h2,C,S=>⟨n,Nat.le_refl _,rfl,C,S,fun h=>by lia⟩|f+1,n,h1,h2,C,S=>by
 obtain e:gJ (p.getD n 0) (p.getD (n-1) 0)=some (lt (gp p n) (gp p (n-1))):=ha _ _ (C.aL (by lia)) (C.aL (gS (nat_lit 0x2311219180821030102) ae (Nat.sub_le (n) (1)) h2));refine(eU e)▸?_;induction hc:lt (gp p n) (gp p (n-1)) with
 |true=>exact⟨n,Nat.le_refl _,rfl,C,S,fun a=>hc⟩|false=>
  obtain S':i9 lt p (n+1):=fun i j gD hj=>by
   by_cases q:j<n
   ·exact S i j gD q
   ·obtain ZM:j=n:=by exact aE (nat_lit 0x10251054191801112) ae hj q
    subst ZM;obtain hn:gp p j=j:=C.hi j (aV (nat_lit 256) ae) (by lia);obtain HE:=C.lo i gD;refine .inr ⟨?_,aQ (nat_lit 9025969084961026) ae HE hn⟩;by_cases q2:i=j-1
    ·exact q2▸(hc)
    ·exact O.nt _ _ _ hc (jU O (S i (j-1) (aE (nat_lit 69005742337) ae (Nat.lt_of_le_of_ne (aQ (nat_lit 0x20011928101101102) ae gD (Ln.aN (j) (1))) q2)) (aE (nat_lit 282647922745601) ae (Nat.sub_add_cancel (aE (nat_lit 1206903640321) ae HE:1≤j)))))
  obtain⟨m,h3,h4⟩:=vY f (n+1) (aV (nat_lit 107510038784) ae) (aQ (nat_lit 0x21190882521918082511) ae h2) (C.succ (by lia)) S';exact⟨m,aE (nat_lit 281548411109633) ae h3,h4⟩
omit O ha
structure LF(lt:Nat→Nat→Bool)(p:Array Nat)(n q:Nat):Prop where
 hq:q<n
 a:∀i j,i<j→j<n-1-q→CY lt (gp p j) (gp p i)
 b:∀i j,i<n-1-q→n-1-q≤j→j<n→lt (gp p j) (gp p i)=true
 c:∀i j,n-1-q≤i→i<j→j<n→CY lt (gp p i) (gp p j)∧lt (gp p i) (gp p j)=false
theorem LF.turned{p:Array Nat}{n q:Nat}(D:LF lt p n q)(hs:n≤p.size):∀i j,i<j→j<n→CY lt (gp (kas_rev p (n-(q+1)) n) j) (gp (kas_rev p (n-(q+1)) n) i):=by
 intro i j gD hj;simp only[eW hs,eW hs];by_cases h2:n-(q+1)≤j
 ·rw[if_pos ⟨h2,hj⟩];by_cases h1:n-(q+1)≤i
  ·rw[if_pos ⟨h1,aQ (nat_lit 5085310283288834) ae gD hj⟩];exact(D.c _ _ (by omega) (by exact Ln.go (nat_lit 0x3211101103840141282103) [_,_,_,_,_,0,0,0] ae (Nat.sub_add_cancel (Ln.go (nat_lit 0x2001192813801101102) [_,_,_,_,0] ae hj (Ln.aN (n-(q+1)+n) (1)):j≤n-(q+1)+n-1)) (Ln.aN (n-(q+1)+n-1) (i)) gD) (by exact Ln.go (nat_lit 0x3211100130819582151282103) [_,_,_,_,0,_] ae (Nat.sub_add_cancel (Ln.go (nat_lit 0x32011938148011011021103) [_,_,_,_,_,0] ae gD hj (Ln.aN (n-(q+1)+n) (1)):i≤n-(q+1)+n-1)) (Nat.sub_add_cancel (aQ (nat_lit 325562833834241) ae hj:1≤n-(q+1)+n)) h1)).1
  ·rw[if_neg (by lia)];exact .inl (D.b _ _ (by lia) (by omega) (Ln.go (nat_lit 0x3211100130819582151282103) [_,_,_,_,0,_] ae (Nat.sub_add_cancel (Ln.go (nat_lit 0x2001192813801101102) [_,_,_,_,0] ae hj (Ln.aN (n-(q+1)+n) (1)):j≤n-(q+1)+n-1)) (Nat.sub_add_cancel (aQ (nat_lit 571853438468353) ae h1:1≤n-(q+1)+n)) h2))
 ·rw[if_neg (by lia),if_neg (fun x'=>aQ (nat_lit 0x9096120412111100103) ae x'.1 gD h2)];exact D.a _ _ gD (by lia)
theorem LF.plain{p:Array Nat}{n:Nat}(D:LF lt p n 0):∀i j,i<j→j<n→CY lt (gp p j) (gp p i):=by
 intro i j gD hj;by_cases h:j<n-1-0
 ·exact D.a i j gD h
 ·exact .inl (D.b i j (uv (nat_lit 0x3211093840119481011011021104) ae gD hj (Ln.aN (n) (1)) (Ln.aN (n-1) (0))) (aE (nat_lit 4312813825) ae h) hj)
include O ha
theorem rK:∀(f:Nat) (p:Array Nat) (n q:Nat),1≤n→n+f=N→Cut p N n→LF lt p n q→∃p' n' q',runK gJ (kas_desc f p n q)=some (p',n',q')∧1≤n'∧n'≤N∧Cut p' N n'∧LF lt p' n' q'∧p'.Perm p
|0,p,n,q,h1,h2,C,D=>⟨p,n,q,rfl,h1,aE (nat_lit 281548142682369) ae h2,C,D,Array.Perm.refl _⟩|f+1,p,n,q,h1,h2,C,D=>by
 have e:gJ (p.getD n 0) (p.getD (n-1) 0)=some (lt (gp p n) (gp p (n-1))):=ha _ _ (C.aL (by exact aQ (nat_lit 0x201121918082101) ae h2)) (C.aL (by exact gS (nat_lit 0x2311219180821030102) ae (Nat.sub_le (n) (1)) h2));have e2:gJ (p.getD (n-1) 0) (p.getD n 0)=some (lt (gp p (n-1)) (gp p n)):=ha _ _ (C.aL (by exact gS (nat_lit 0x2311219180821030102) ae (Nat.sub_le (n) (1)) h2)) (C.aL (by exact aQ (nat_lit 0x201121918082101) ae h2))
 have hq:=D.hq;have hs:n≤p.size:=by rw[C.sz];exact aQ (nat_lit 0x200121918082101) ae h2
 unfold kas_desc;simp only[eU e];induction hc:lt (gp p n) (gp p (n-1)) with
 |true=>
  obtain low:∀i,i<n→lt (gp p n) (gp p i)=true:=fun i hi=>by
   by_cases q1:i=n-1
   ·refine q1▸?_;exact hc
   ·refine LD O hc ?_;by_cases q2:i<n-1-q
    ·exact Qz O (D.b i (n-1) q2 (by simp_all) (by exact aE (nat_lit 282647922745601) ae (Nat.sub_add_cancel (aE (nat_lit 1206903640321) ae hi:1≤n))))
    ·exact(D.c i (n-1) (aE (nat_lit 4312813825) ae q2) (by lia) (by exact aE (nat_lit 282647922745601) ae (Nat.sub_add_cancel (aE (nat_lit 1206903640321) ae hi:1≤n)))).2
  have mk:∀p':Array Nat,Cut p' N n→p'.Perm p→(∀i j,i<j→j<n→CY lt (gp p' j) (gp p' i))→(∀i,i<n→∃k,k<n∧gp p' i=gp p k)→∃Gb n' q',runK gJ (kas_desc f p' (n+1) 0)=some (Gb,n',q')∧1≤n'∧n'≤N∧Cut Gb N n'∧LF lt Gb n' q'∧Gb.Perm p:=fun p' C' hp hd hk=>by
   obtain e1:gp p' n=gp p n:=by simp only[C'.hi n (Nat.le_refl _) (by exact aQ (nat_lit 0x201121918082101) ae h2),C.hi n (Nat.le_refl _) (by exact aQ (nat_lit 0x201121918082101) ae h2)]
   obtain⟨Gb,n',q',a1,a2,a3,a4,a5,a6⟩:=rK f p' (n+1) 0 (by lia) (by lia) (C'.succ (by exact aQ (nat_lit 0x201121918082101) ae h2)) ⟨aV (nat_lit 107508994304) ae,fun i j gD hj=>hd i j gD (by assumption),fun i j hi hj Vr=>by
    have :j=n:=by exact gS (nat_lit 0x1025020409283041938191804191801114) ae Vr (Ln.aN (n+1) (1)) (Ln.aN (n+1-1) (0)) hj
    cases this;obtain⟨k,oG,zz⟩:=hk i (by assumption);simp only[e1,zz];exact low k oG,fun i j h1 h2 h3=>by lia⟩
   exact⟨Gb,n',q',a1,a2,a3,a4,a5,a6.trans hp⟩
  by_cases W4:q>0
  ·refine(if_pos W4)▸?_;refine mk _ (C.rev (Nat.le_refl _)) (mirror_perm _ _ _ _) (D.turned hs) (fun i hi=>?_);rw[eW hs];split
   ·exact⟨_,by omega,rfl⟩
   ·exact⟨i,hi,rfl⟩
  ·skip
   obtain Vs:q=0:=by exact aV (nat_lit 9905537372433) ae W4
   subst Vs;exact mk _ C (Array.Perm.refl _) D.plain (fun i hi=>⟨i,hi,rfl⟩)
 |false=>
  rw[if_neg (by decide),eU e2];induction hd:lt (gp p (n-1)) (gp p n) with
  |true=>exact⟨p,n,q,rfl,h1,by exact aQ (nat_lit 0x200121918082101) ae h2,C,D,Array.Perm.refl _⟩|false=>
   have hn:gp p n=n:=C.hi n (Nat.le_refl _) (by exact aQ (nat_lit 0x201121918082101) ae h2);have Vt:∀j,n-1-q≤j→j<n→lt (gp p j) (gp p n)=false∧lt (gp p n) (gp p j)=false:=fun j h3 h4=>by
    by_cases q1:j=n-1
    ·exact q1▸(⟨hd,hc⟩)
    ·obtain this:=D.c j (n-1) h3 (by lia) (by lia);exact⟨O.nt _ _ _ this.2 hd,O.nt _ _ _ hc (jU O this.1)⟩
   refine rK f p (n+1) (q+1) (by lia) (by lia) (C.succ (by exact aQ (nat_lit 0x201121918082101) ae h2)) ⟨aE (nat_lit 0x1918190811101101) ae hq,fun i j gD hj=>D.a i j gD (by lia),fun i j h3 h4 h5=>?_,fun i j h3 h4 h5=>?_⟩
   ·by_cases q1:j<n
    ·exact D.b i j (by lia) (by lia) q1
    ·have :j=n:=by omega
     subst this;exact Vq O hd (D.b i (j-1) (Ln.go (nat_lit 0x201142850119586011968193821319481821101105) [_,_,_,_,_,_,_] ae h3 (Nat.sub_add_cancel (aQ (nat_lit 0x21908011928191801101102) ae hq (Ln.aN (j+1) (1)):q+1≤j+1-1)) (Nat.sub_add_cancel (aV (nat_lit 107510038784) ae:1≤j+1)) (Ln.aN (j) (1)) (Ln.aN (j-1) (q))) (Ln.go (nat_lit 68737302785) [_,_,0,0] ae (Nat.sub_le (j-1) (q))) (by lia))
   ·by_cases q1:j<n
    ·exact D.c i j (by lia) h4 q1
    ·have :j=n:=by omega
     cases this;have :=Vt i (by lia) h4
     exact⟨.inr ⟨this.2,by obtain this:=C.lo i h4;exact aQ (nat_lit 9025969084961026) ae this hn⟩,this.1⟩
theorem tW{p:Array Nat}{n:Nat}(h1:1≤n)(hn:n≤N)(C:Cut p N n)(hd:∀i j,i<j→j<n→CY lt (gp p j) (gp p i)):∃m p',runK gJ (kas_tail3 n N p)=some (m,p')∧1≤m∧Cut p' N m∧i9 lt p' m∧p'.Perm p:=by
 obtain hs:n≤p.size:=by exact C.sz▸(hn)
 obtain⟨m,a1,a2,a3,a4,_⟩:=vY O ha (p:=kas_rev p 0 n) (N-n) n h1 (aQ (nat_lit 0x21082501820420182112) ae (Nat.sub_add_cancel (aE (nat_lit 68737302785) ae hn:n≤N)) (Ln.aN (N) (n))) (C.rev (Nat.le_refl _)) (fun i j gD hj=>by rw[eW hs,eW hs,if_pos ⟨by lia,aQ (nat_lit 5085310283288834) ae gD hj⟩,if_pos ⟨by lia,by omega⟩];exact hd _ _ (by omega) (Ln.go (nat_lit 0x10111098192821200102) [_,_,_,0] ae (Nat.sub_le (0+n-1) (i)) (Nat.sub_add_cancel (aE (nat_lit 4670832786804993) ae hj:1≤0+n))));refine⟨m,kas_rev p 0 n,?_,aE (nat_lit 0x1190110010190102) ae h1 a1,a3,a4,mirror_perm _ _ _ _⟩;refine(dH a2).trans ?_;rfl
theorem lF{p:Array Nat}{n:Nat}(h1:1≤n)(hn:n<N)(C:Cut p N n)(hd:∀i j,i<j→j<n→CY lt (gp p j) (gp p i))(hl:∀i,i<n→lt (gp p n) (gp p i)=true):∃m p',runK gJ (kas_descPart n N p)=some (m,p')∧1≤m∧Cut p' N m∧i9 lt p' m∧p'.Perm p:=by
 obtain⟨p',n',q',a1,a2,a3,a4,a5,a6⟩:=rK O ha (N-(n+1)) p (n+1) 0 (by lia) (by grind) (C.succ hn) ⟨aV (nat_lit 107508994304) ae,fun i j gD hj=>hd i j gD (by assumption),fun i j hi hj Vr=>by
  have :j=n:=by exact gS (nat_lit 0x1025020409283041938191804191801114) ae Vr (Ln.aN (n+1) (1)) (Ln.aN (n+1-1) (0)) hj
  cases this;exact hl i (by assumption),fun i j h1 h2 h3=>by lia⟩
 unfold kas_descPart;rw[dH a1];obtain hs:n'≤p'.size:=by exact a4.sz▸(a3)
 dsimp only;by_cases hq:q'>0
 ·rw[if_pos hq];refine(tW O ha a2 a3 (a4.rev (i:=n'-(q'+1)) (Nat.le_refl _)) (a5.turned hs)).elim fun m L6=>?_;refine L6.elim fun p2 zw=>?_;obtain b1:=zw.1;obtain b2:=zw.2.1;obtain b3:=zw.2.2.1;obtain b4:=zw.2.2.2.1;obtain b5:=zw.2.2.2.2
  exact⟨m,p2,b1,b2,b3,b4,b5.trans ((mirror_perm _ _ _ _).trans a6)⟩
 ·rw[if_neg hq];obtain Vs:q'=0:=by exact aV (nat_lit 9905537372433) ae hq
  subst Vs;refine(tW O ha a2 a3 a4 a5.plain).elim fun m Vu=>?_;refine Vu.elim fun p2 CZ=>?_;obtain b1:=CZ.1;obtain b2:=CZ.2.1;obtain b3:=CZ.2.2.1;obtain b4:=CZ.2.2.2.1;obtain b5:=CZ.2.2.2.2
  exact⟨m,p2,b1,b2,b3,b4,b5.trans a6⟩
theorem C0{p:Array Nat}(hN:1≤N)(C:Cut p N 1):∃m p',runK gJ (kas_count N p)=some (m,p')∧1≤m∧Cut p' N m∧i9 lt p' m∧p'.Perm p:=by
 obtain⟨n,a1,a2,a3,a4,a5⟩:=vY O ha (p:=p) (N-1) 1 (Nat.le_refl _) (by exact aE (nat_lit 0x10198251908104119082112) ae (Nat.sub_add_cancel (aV (nat_lit 1718256992513) ae hN:1≤N)) (Ln.aN (N) (1))) C (fun i j h1 h2=>by omega);unfold kas_count;simp only[dH a2];by_cases hn:n=N
 ·rw[if_pos (by simpa using hn)];exact⟨n,p,rfl,a1,a3,a4,Array.Perm.refl _⟩
 ·rw[if_neg (by simpa using hn)];obtain QA:n<N:=by obtain this:=a3.le;exact aE (nat_lit 69005742337) ae (Nat.lt_of_le_of_ne (aE (nat_lit 68737302785) ae this) hn)
  obtain hl:=a5 QA;by_cases h1:n>1
  ·refine(if_pos h1)▸?_;obtain e:gJ (p.getD 0 0) (p.getD (n-1) 0)=some (lt (gp p 0) (gp p (n-1))):=ha _ _ (a3.aL (by assumption)) (a3.aL (aQ (nat_lit 5085310283284738) ae (Nat.sub_le (n) (1)) QA));refine(eU e)▸?_;induction hc:lt (gp p 0) (gp p (n-1)) with
   |true=>exact⟨n,p,rfl,a1,a3,a4,Array.Perm.refl _⟩|false=>
    obtain le:∀i j,i≤j→j<n→lt (gp p j) (gp p i)=false:=fun i j gD hj=>by
     by_cases q:i=j
     ·refine q▸?_;exact O.RU _
     ·exact jU O (a4 i j (aE (nat_lit 69005742337) ae (Nat.lt_of_le_of_ne (aE (nat_lit 68737302785) ae gD) q)) hj)
    obtain hs:n≤p.size:=by refine a3.sz▸?_;exact aE (nat_lit 68737306881) ae QA
    obtain⟨m,p2,b1,b2,b3,b4,b5⟩:=lF O ha a1 QA (a3.rev (i:=0) (Nat.le_refl _)) (fun i j gD hj=>by
     rw[eW hs,eW hs,if_pos ⟨by lia,by omega⟩,if_pos ⟨by lia,aQ (nat_lit 5085310283288834) ae gD hj⟩];exact a4 _ _ (by omega) (Ln.go (nat_lit 0x10111098192821200102) [_,_,_,0] ae (Nat.sub_le (0+n-1) (i)) (Nat.sub_add_cancel (aE (nat_lit 4670832786804993) ae hj:1≤0+n)))) (fun i hi=>by
     rw[eW hs,eW hs,if_neg (fun x'=>aV (nat_lit 9935886749953) ae x'.2),if_pos ⟨by lia,by omega⟩];obtain h2:lt (gp p (0+n-1-i)) (gp p (n-1))=false:=O.nt _ _ _ (le 0 _ (aV (nat_lit 590080) ae) (Ln.go (nat_lit 0x10111098192821200102) [_,_,_,0] ae (Nat.sub_le (0+n-1) (i)) (Nat.sub_add_cancel (aE (nat_lit 4670832786804993) ae hi:1≤0+n)))) hc;exact LD O hl h2)
    exact⟨m,p2,b1,b2,b3,b4,b5.trans (mirror_perm _ _ _ _)⟩
  ·skip
   obtain ZN:n=1:=by exact aV (nat_lit 0x19025019040195112) ae h1 a1
   subst ZN;exact lF O ha a1 QA a3 (fun i j h1 h2=>by omega) (fun i hi=>by
    have :i=0:=by exact aV (nat_lit 9905562980625) ae hi
    subst this;exact hl)
theorem n_{p:Array Nat}{k:Nat}(hk:k<N)(C:Cut p N k)(S:i9 lt p k):∀(f l r:Nat),r-l≤f→l≤r→r≤k→(∀i,i<l→lt (gp p k) (gp p i)=false)→(∀i,r≤i→i<k→lt (gp p k) (gp p i)=true)→
  ∃m,runK gJ (kas_place p k f l r)=some m∧m≤k∧(∀i,i<m→lt (gp p k) (gp p i)=false)∧(∀i,m≤i→i<k→lt (gp p k) (gp p i)=true)
 |0,l,r,h1,h2,h3,h4,h5=>⟨l,rfl,aQ (nat_lit 5067717828804866) ae h2 h3,h4,fun i hi hk=>h5 i (gS (nat_lit 0x130109201100102830103) ae (Ln.aN (r) (l)) hi h1) hk⟩|f+1,l,r,h1,h2,h3,h4,h5=>by
  unfold kas_place;by_cases q:l≥r
  ·rw[if_pos q];exact⟨l,rfl,aQ (nat_lit 5067717828804866) ae h2 h3,h4,fun i hi hk=>h5 i (aQ (nat_lit 5067717828804866) ae q hi) hk⟩
  ·rw[if_neg q];obtain e:gJ (p.getD k 0) (p.getD ((l+r)/2) 0)=some (lt (gp p k) (gp p ((l+r)/2))):=ha _ _ (C.aL hk) (C.aL (Ln.go (nat_lit 0x3412104132122002018542a82104) [_,_,_,_,_,_] ae (Nat.div_add_mod (l+r) 2) h3 hk q));refine(eU e)▸?_;induction hc:lt (gp p k) (gp p ((l+r)/2)) with
   |true=>
    refine n_ hk C S f l ((l+r)/2) (Ln.go (nat_lit 0x12021918001408301348652a82154282204) [_,_,_,_,_,_,_] ae (Nat.sub_add_cancel (gS (nat_lit 0x210229311018322a831104103) ae q (Nat.div_add_mod (l+r) 2) (Nat.mod_lt (l+r) (by decide:0<2)):l≤(l+r)/2)) (Nat.div_add_mod (l+r) 2) (Ln.aN (r) (l)) h1) (gS (nat_lit 0x210229311018322a831104103) ae q (Nat.div_add_mod (l+r) 2) (Nat.mod_lt (l+r) (by decide:0<2))) (uv (nat_lit 0x230210412002018432a82103) ae (Nat.div_add_mod (l+r) 2) h3 q) h4 (fun i hi ZO=>?_);by_cases q2:i=(l+r)/2
    ·refine q2▸?_;exact hc
    ·exact LD O hc (jU O (S _ i (aE (nat_lit 4580249857) ae (Nat.lt_of_le_of_ne (aE (nat_lit 68737302785) ae hi) (Ne.symm q2))) ZO))
   |false=>
    refine n_ hk C S f ((l+r)/2+1) r (Ln.go (nat_lit 0x120129611348652a831191800140830131958282205) [_,_,_,_,_,_,_] ae (Nat.sub_add_cancel (gS (nat_lit 0x1928021041018322a82102) ae (Nat.div_add_mod (l+r) 2) q:(l+r)/2+1≤r)) (Ln.aN (r) (l)) h1 (Nat.div_add_mod (l+r) 2) (Nat.mod_lt (l+r) (by decide:0<2))) (gS (nat_lit 0x1928021041018322a82102) ae (Nat.div_add_mod (l+r) 2) q) h3 (fun i hi=>?_) h5;by_cases q2:i=(l+r)/2
    ·exact q2▸(hc)
    ·exact O.nt _ _ _ hc (jU O (S i _ (aE (nat_lit 69005742337) ae (Nat.lt_of_le_of_ne (aE (nat_lit 281550432243969) ae hi) q2)) (uv (nat_lit 0x231210412002018432a82103) ae (Nat.div_add_mod (l+r) 2) h3 q)))
theorem C1:∀(f:Nat) (p:Array Nat) (k:Nat),k+f=N→Cut p N k→i9 lt p k→∃p',runK gJ (kas_bin f p k)=some p'∧i9 lt p' N∧p'.Perm p
|0,p,k,h,C,S=>by
 have :k=N:=by omega
 subst this;exact⟨p,rfl,S,Array.Perm.refl _⟩
|f+1,p,k,h,C,S=>by
 have hk:k<N:=by lia
 obtain⟨l,a1,a2,a3,a4⟩:=n_ O ha hk C S k 0 k (aE (nat_lit 68737302785) ae (Nat.sub_le (k) (0))) (by lia) (Nat.le_refl _) (fun i hi=>by lia) (fun i h1 h2=>by lia);refine(dH a1)▸?_;obtain hs:k<p.size:=by exact C.sz▸(hk)
 have hb:=fun i=>ze (p:=p) (src:=k) (d:=k-l) hs (Ln.go (nat_lit 68737302785) [_,_,0] ae (Nat.sub_le (k) (l))) i
 have NW:gp p k=k:=C.hi k (Nat.le_refl _) hk;obtain⟨p',b1,b2,b3⟩:=C1 f (bubble p k (k-l)) (k+1) (by lia) ⟨by rw[bubble_size];exact C.sz,hk,fun i hi=>by
   rw[hb];split
   ·rw[NW];exact aV (nat_lit 6719279360) ae
   ·split
    ·have :=C.lo (i-1) (by lia);exact aE (nat_lit 441454204817665) ae this
    ·obtain this:=C.lo i (by lia);exact aE (nat_lit 441454204817665) ae this,fun i h1 h2=>by
   rw[hb,if_neg (by exact Ln.go (nat_lit 0x9096121210201119080103) [_,_,_,0,0] ae h1 (Nat.sub_le (k) (k-l))),if_neg (fun x'=>aE (nat_lit 0x909610191801100102) ae x'.2 h1)];exact C.hi i (aE (nat_lit 281548411109633) ae h1) h2⟩ (fun i j gD hj=>by
  obtain low:∀i,i<l→CY lt (gp p i) (gp p k):=fun i hi=>.inr ⟨a3 i hi,by have :=C.lo i (aQ (nat_lit 9026032704164098) ae hi a2);exact aQ (nat_lit 9025969084961026) ae this NW⟩
  obtain high:∀i,l≤i→i<k→CY lt (gp p k) (gp p i):=fun i h1 h2=>.inl (a4 i h1 h2)
  simp only[hb,hb];by_cases c1:i=k-(k-l)
  ·rw[if_pos c1,if_neg (by exact aQ (nat_lit 0x9096112212011103103) ae c1 gD),if_pos ⟨aQ (nat_lit 9307503654351106) ae c1 gD,aE (nat_lit 281550432243969) ae hj⟩];exact high _ (Ln.go (nat_lit 0x430119482012011103161850153682105) [_,_,_,_,_,_,_] ae (Nat.sub_add_cancel (aE (nat_lit 68737302785) ae a2:l≤k)) (Ln.aN (k) (k-l)) c1 gD (Ln.aN (j) (1))) (aQ (nat_lit 0x12111918011019282102) ae (Nat.sub_add_cancel (aE (nat_lit 1206903640321) ae gD:1≤j)) hj)
  ·rw[if_neg c1];by_cases c2:j=k-(k-l)
   ·rw[if_pos c2,if_neg (fun x'=>aE (nat_lit 0x909610111101102) ae x'.1 (Nat.lt_of_le_of_ne (aQ (nat_lit 5067718365679874) ae gD c2) c1))];exact low _ (uv (nat_lit 0x2011248301341821101103) ae (Nat.lt_of_le_of_ne (aQ (nat_lit 5067718365679874) ae gD c2) c1) (Nat.sub_add_cancel (Ln.go (nat_lit 68737302785) [_,_,0] ae (Nat.sub_le (k) (l)):k-l≤k)) (Ln.aN (k) (l)))
   ·skip
    repeat' split
    all_goals exact S _ _ (by(first|exact gS (nat_lit 0x321119381011011019282103) ae (Nat.sub_add_cancel (Ln.go (nat_lit 2306416316673) [_,0,_] ae ‹_›.1:1≤i)) gD (Ln.aN (j) (1))|exact aQ (nat_lit 5085310283284738) ae (Nat.sub_le (i) (1)) gD|exact aE (nat_lit 69005742337) ae gD|lia)) (by lia))
 exact⟨p',b1,b2,b3.trans (bubble_perm _ _ _)⟩
theorem FF(hN:1≤N):∃p',runK gJ (kas_sort N)=some p'∧i9 lt p' N∧p'.Perm (List.range N).toArray:=by
 have hg:∀i,i<N→gp (List.range N).toArray i=i:=fun i hi=>by simp[gp,hi]
 obtain⟨m,p,a1,a2,a3,a4,a5⟩:=C0 O ha (p:=(List.range N).toArray) hN ⟨by simp,hN,fun i hi=>by rw[hg i (aE (nat_lit 0x1011119011901102) ae hi hN)];exact hi,fun i a h=>hg i h⟩;refine(dH a1)▸?_;dsimp only;by_cases h:m<N
 ·rw[if_pos h,show max m 1=m by lia];refine(C1 O ha (N-m) p m (aQ (nat_lit 0x21082501820420182112) ae (Nat.sub_add_cancel (aE (nat_lit 68737306881) ae h:m≤N)) (Ln.aN (N) (m))) a3 a4).elim fun p' LG=>?_;obtain b1:=LG.1;obtain b2:=LG.2.1;obtain b3:=LG.2.2
  exact⟨p',b1,b2,b3.trans a5⟩
 ·rw[if_neg h];have :m=N:=by obtain this:=a3.le;exact aE (nat_lit 4544351687409938) ae this h
  subst this;exact⟨p,rfl,a4,a5⟩
end
theorem range_getD{α:Type}(as:List α)(d:α):(List.range as.length).map (fun i=>as.getD i d)=as:=by apply List.ext_getElem (by grind);intro i h1 h2;simp[h2]
theorem tX{α κ:Type}(as:List α)(enc:α→V)(key:α→κ)(vZ:κ→V)(lt:κ→κ→Bool)(hv:∀a∈as,∀b∈as,Rg bg (vZ (key a)) (vZ (key b))=some (lt (key a) (key b)))
  (RU:∀a,lt a a=false)(tr:∀a b c,lt a b=true→lt b c=true→lt a c=true)(nt:∀a b c,lt a b=false→lt b c=false→lt a c=false)
  (hs:sortable (as.map fun a=>vZ (key a))=true)(hl:as.length<64):
  ∃bs:List α,b8 (as.map fun a=>vZ (key a)) (as.map enc)=some (.lst (bs.map enc))∧bs.Perm as∧∀R:α→α→Prop,as.Pairwise R→bs.Pairwise (fun a b=>lt (key a) (key b)=true∨(lt (key b) (key a)=false∧R a b)):=by
 unfold b8;rw[List.length_map];by_cases h2:as.length<2
 ·rw[if_pos h2];refine⟨as,rfl,List.Perm.refl _,fun R d=>?_⟩;induction as using List.casesOn with |nil=>exact .nil|cons a r=>induction r using List.casesOn with |nil=>exact List.pairwise_singleton ..|cons _ _=>exact absurd h2 (Nat.not_lt_of_le (Nat.le_add_left ..))
 ·rw[if_neg h2,if_pos (by simp_all)];obtain⟨a0,Ul⟩:∃a0,a0∈as:=⟨as[0]'(aV (nat_lit 623081705729) ae h2),List.getElem_mem _⟩;let lt':Nat→Nat→Bool:=fun i j=>lt (key (as.getD i a0)) (key (as.getD j a0))
  obtain O:W3 lt':=⟨fun d=>RU _,fun d d d=>tr _ _ _,fun d d d=>nt _ _ _⟩;obtain mem:∀i,as.getD i a0∈as:=fun i=>by
   rw[List.getD_eq_getElem?_getD];cases h:as[i]? with |none=>exact Ul|some x=>exact List.mem_of_getElem? h
  obtain ha:∀i j,i<as.length→j<as.length→sortAns (as.map fun a=>vZ (key a)) i j=some (lt' i j):=fun i j hi hj=>by
   unfold sortAns;rw[List.getElem?_map,List.getElem?_map,List.getElem?_eq_getElem hi,List.getElem?_eq_getElem hj];obtain e1:as.getD i a0=as[i]:=by simp[hi]
   obtain e2:as.getD j a0=as[j]:=by simp[hj]
   show Rg bg (vZ (key as[i])) (vZ (key as[j]))=some (lt (key (as.getD i a0)) (key (as.getD j a0)));rw[e1,e2];exact hv _ (List.getElem_mem _) _ (List.getElem_mem _)
  refine(FF O ha (aV (nat_lit 1718298366209) ae h2)).elim fun p z2=>?_;obtain b1:=z2.1;obtain b2:=z2.2.1;obtain b3:=z2.2.2
  obtain hp:p.toList.Perm (List.range as.length):=by exact b3.toList
  have hm:∀i∈p.toList,i<as.length:=fun i hi=>by simpa using hp.mem_iff.mp hi
  refine⟨p.toList.map fun i=>as.getD i a0,?_,?_,fun R hR=>?_⟩
  ·rw[b1];show some (V.lst _)=_;congr 2;rw[List.map_map];refine List.map_congr_left fun i hi=>?_
   obtain this:=hm i hi;simp[this]
  ·obtain this:=hp.map fun i=>as.getD i a0
   rwa [range_getD] at this
  ·rw[List.pairwise_map,List.pairwise_iff_getElem];intro i j hi hj gD;obtain hz:p.toList.length=as.length:=by simpa using hp.length_eq
   obtain g:∀k (hk:k<p.toList.length),gp p k=p.toList[k]:=fun k hk=>by
    rw[n9];have :k<p.size:=by exact hk
    simp[this]
   obtain this:=b2 i j gD (aQ (nat_lit 5085310551724290) ae hj hz);rw[g i hi,g j hj] at this;rcases this with h|⟨h,h3⟩
   ·exact .inl h
   ·refine .inr ⟨h,?_⟩;have i1:=hm _ (List.getElem_mem hi);obtain j1:=hm _ (List.getElem_mem hj);obtain this:=List.pairwise_iff_getElem.mp hR _ _ i1 j1 h3;rw[show as.getD (p.toList[i]) a0=as[p.toList[i]] by simp only[List.getD_eq_getElem?_getD,List.getElem?_eq_getElem i1,Option.getD_some],show as.getD (p.toList[j]) a0=as[p.toList[j]] by simp only[List.getD_eq_getElem?_getD,List.getElem?_eq_getElem j1,Option.getD_some]];exact this
theorem iR(a:Str):strLt a a=false:=by unfold strLt;grind [List.lt_irrefl]
theorem jV(a b c:Str)(h:strLt a b=true)(k:strLt b c=true):strLt a c=true:=by unfold strLt at *;simp only[decide_eq_true_eq] at *;exact List.lt_trans h k
theorem C2(a b c:Str)(h:strLt a b=false)(k:strLt b c=false):strLt a c=false:=by
 unfold strLt at *;rw[decide_eq_false_iff_not] at *;intro hc;have h':b.cps.toList≤a.cps.toList:=h
 have k':c.cps.toList≤b.cps.toList:=k;exact(List.le_trans k' h') hc
theorem kY(a b:Str)(h:strLt a b=false)(k:strLt b a=false):a=b:=by
 unfold strLt at *;simp only[decide_eq_false_iff_not] at *;have h':b.cps.toList≤a.cps.toList:=h
 have k':a.cps.toList≤b.cps.toList:=k;obtain e:=List.le_antisymm k' h';induction a;induction b;simpa using e
theorem iS{α:Type}(R:α→α→Prop)(as:∀a b,R a b→R b a→False):∀{l k:List α},l.Perm k→l.Pairwise R→k.Pairwise R→l=k
|[],k,h,aK,bA=>by have :=h.length_eq;induction k with |nil=>rfl|cons _ _=>simp at this
|a::l,[],h,aK,bA=>by have :=h.length_eq;simp at this|a::l,b::k,h,h1,h2=>by
 obtain Rl:a=b:=by
  obtain ha:a∈b::k:=h.mem_iff.mp (.head _);obtain hb:b∈a::l:=h.mem_iff.mpr (.head _);rcases bM ha with e|ha
  ·exact e
  ·rcases bM hb with e|hb
   ·exact e.symm
   ·exact((as _ _ ((xX h1).1 b hb) ((xX h2).1 a ha))).elim
 subst Rl;exact congrArg _ (iS R as (h.cons_inv) (xX h1).2 (xX h2).2)
end Mine
end
noncomputable section
open PySem PySem.W PySem.Builtin PySem.Builtin.Str
namespace Mine
def Mj(way:Int)(s t:Str):Bool:=if way=1 then strLt s t else strLt t s
def cA(way:Int)(o x:List Nat):Prop:=x.length<o.length∨(o.length=x.length∧Mj way (sL o) (sL x)=true)
abbrev fE(way:Int)(o x:List Nat):Int:=vO way (o.length:Int) (sL o) (x.length:Int) (sL x)
theorem eX{a b:Str}(h:strLt a b=true):strLt b a=false:=by
 induction e:strLt b a with |false=>rfl|true=>have :=jV _ _ _ h e;rw[iR] at this;exact bE this
theorem iT{way:Int}{a b:List Nat}(h:cA way a b)(k:cA way b a):False:=by
 unfold cA Mj at *;rcases h with h|⟨h1,h2⟩
 ·rcases k with k|⟨k1,k2⟩<;>(first|exact aE (nat_lit 0x909610111101102) ae k h|exact aE (nat_lit 0x909611011103102) ae k1 h)
 ·rcases k with k|⟨k1,k2⟩
  ·exact aE (nat_lit 0x909611031101102) ae k h1
  ·by_cases hw:way=1
   ·rw[if_pos hw] at h2 k2;rw[eX h2] at k2;exact nomatch k2
   ·rw[if_neg hw] at h2 k2;rw[eX h2] at k2;exact nomatch k2
theorem FG{way:Int}{a b c:List Nat}(h:cA way a b)(k:cA way b c):cA way a c:=by
 unfold cA Mj at *;rcases h with h|⟨h1,h2⟩
 ·rcases k with k|⟨k1,k2⟩
  ·exact .inl (by solve_by_elim [Nat.le_refl,Nat.le_of_lt,Nat.lt_of_lt_of_le,Nat.le_trans,Nat.lt_of_le_of_lt,Nat.lt_trans])
  ·exact .inl (by simp_all)
 ·rcases k with k|⟨k1,k2⟩
  ·exact .inl (by simp_all)
  ·refine .inr ⟨aQ (nat_lit 5107300851393810) ae h1 k1,?_⟩;split at h2
   ·rw[if_pos ‹_›] at k2⊢;exact jV _ _ _ h2 k2
   ·rw[if_neg ‹_›] at k2⊢;exact jV _ _ _ k2 h2
theorem v5(way:Int){o x:List Nat}(h:o.length<x.length):fE way o x=1:=by exact if_pos (decide_eq_true (by simp_all))
theorem cmp_gt(way:Int){o x:List Nat}(h:x.length<o.length):fE way o x=-1:=by unfold fE vO;rw[if_neg (by rw[decide_eq_true_eq];exact DA (nat_lit 0x90961071791101102) ae h),if_pos (decide_eq_true (by simp_all))]
theorem v7(way:Int){o x:List Nat}(h:o.length=x.length):fE way o x=if strLt (sL o) (sL x) then -way else if strLt (sL x) (sL o) then way else 0:=by unfold fE vO;rw[if_neg (by rw[decide_eq_true_eq];exact DA (nat_lit 0x90961170791103102) ae h),if_neg (by rw[decide_eq_true_eq];exact DA (nat_lit 0x90961071791102102) ae h)]
theorem xK{way:Int}(hw:way=1∨way=-1)(o x:List Nat):fE way o x=-1↔cA way o x:=by
 unfold cA Mj;rcases Nat.lt_trichotomy o.length x.length with h|h|h
 ·rw[v5 way h];constructor
  ·intro q;lia
  ·rintro(q|q)<;>omega
 ·rw[v7 way h];induction h3:strLt (sL o) (sL x) with
  |true=>obtain h4:=eX h3;rcases hw with rfl|rfl<;>simp[h,h4]
  |false=>induction h4:strLt (sL x) (sL o)<;>rcases hw with rfl|rfl<;>simp[h]
 ·rw[cmp_gt way h];exact⟨fun a=>.inl h,fun a=>rfl⟩
theorem FH{way:Int}(hw:way=1∨way=-1)(o x:List Nat):fE way o x=1↔cA way x o:=by
 rw[←xK hw x o];rcases Nat.lt_trichotomy o.length x.length with h|h|h
 ·rw[v5 way h,cmp_gt way h];trivial
 ·simp only[v7 way h,v7 way h.symm];induction h3:strLt (sL o) (sL x) with
  |true=>refine(eX h3)▸?_;rcases hw with rfl|rfl<;>trivial
  |false=>induction h4:strLt (sL x) (sL o)<;>rcases hw with rfl|rfl<;>trivial
 ·rw[v5 way h,cmp_gt way h];trivial
theorem cmp_self{way:Int}(x:List Nat):fE way x x=0:=by unfold fE vO;simp[iR]
theorem C3{way:Int}{a b:List Nat}(h:¬a=b)(k:¬cA way a b):cA way b a:=by
 unfold cA Mj at *;rcases Nat.lt_trichotomy a.length b.length with h1|h1|h1
 ·exact .inl h1
 ·refine .inr ⟨h1.symm,?_⟩;obtain k2:¬(if way=1 then strLt (sL a) (sL b) else strLt (sL b) (sL a))=true:=fun q=>k (.inr ⟨h1,q⟩)
  split
  ·rw[if_pos ‹_›] at k2;induction h3:strLt (sL b) (sL a) with |true=>rfl|false=>exact absurd (kX (kY _ _ (by simpa using k2) h3)) h
  ·rw[if_neg ‹_›] at k2;induction h3:strLt (sL a) (sL b) with |true=>rfl|false=>exact absurd (kX (kY _ _ h3 (by simpa using k2))) h
 ·exact absurd (.inl h1) k
theorem lG{way:Int}(hw:way=1∨way=-1)(x:List Nat):∀O:List (List Nat),O.Pairwise (cA way)→x∉O→∃A B,O=A++B∧(∀o∈A,cA way o x)∧(∀o∈B,cA way x o)
|[],aK,bA=>⟨[],[],rfl,by simp,by simp⟩|o::O,h,hx=>by
 obtain⟨h1,h2⟩:=xX h;by_cases hb:cA way o x
 ·obtain⟨A,B,e,ha,ZP⟩:=lG hw x O h2 (fun hm=>hx (.tail _ hm));exact⟨o::A,B,by rw[e];rfl,fun q hq=>(bM hq).elim (fun e=>e▸hb) (fun hq=>ha q hq),ZP⟩
 ·have Rq:=C3 (fun e:o=x=>hx (by refine e▸?_;exact .head _)) hb;exact⟨[],o::O,rfl,by simp,fun q hq=>(bM hq).elim (fun e=>e▸Rq) (fun hq=>FG Rq (h1 q hq))⟩
theorem tY{way:Int}(hw:way=1∨way=-1){x:List Nat}{A B:List (List Nat)}(ha:∀o∈A,cA way o x)(hb:∀o∈B,cA way x o):(A++B).map (fun o=>V.int (fE way o x))=List.replicate A.length (.int (-1))++List.replicate B.length (.int 1):=by
 refine List.map_append.trans ?_;congr 1
 ·rw[List.eq_replicate_iff];refine⟨by simp,fun v hv=>?_⟩;obtain⟨o,ho,rfl⟩:=F9 hv;exact congrArg _ ((xK hw o x).mpr (ha o ho))
 ·rw[List.eq_replicate_iff];refine⟨by simp,fun v hv=>?_⟩;obtain⟨o,ho,rfl⟩:=F9 hv;exact congrArg _ ((FH hw o x).mpr (hb o ho))
theorem o9{way:Int}{x:List Nat}{A B:List (List Nat)}(h:(A++B).Pairwise (cA way))(ha:∀o∈A,cA way o x)(hb:∀o∈B,cA way x o):(A++x::B).Pairwise (cA way):=by
 obtain⟨h1,h2,h3⟩:=List.pairwise_append.mp h;refine List.pairwise_append.mpr ⟨h1,List.pairwise_cons.mpr ⟨hb,h2⟩,fun a Rz b Et=>?_⟩;rcases bM Et with rfl|Et
 ·exact ha a Rz
 ·exact h3 a Rz b Et
theorem jt(x:V)(y:V)(p:Bool)(h:LW y x=some p)(r:List V)(q:List Bool)(hr:eqRow x r=some q):∀a:Nat,eqRow x (List.replicate a y++r)=some (List.replicate a p++q)|0=>hr|a+1=>by show(match LW y x,eqRow x (List.replicate a y++r) with |some p,some q=>some (p::q)|_,_=>none)=_;rw[h,jt x y p h r q hr a];rfl
theorem rL(a b:Nat):eA (.int (-1)) (List.replicate a (.int (-1))++List.replicate b (.int 1))=some a:=by unfold eA;rw[jt _ (.int (-1)) true rfl _ (List.replicate b false++[]) (by have :=jt (.int (-1)) (.int 1) false rfl [] [] rfl b;rwa [List.append_nil] at this) a];simp[List.countP_replicate]
theorem ql(f:V→V→Option Bool):∀l:List V,(∀v∈l,f v v=some true)→gZ f l l=some true|[],aK=>rfl|x::xs,h=>by show(match f x x,gZ f xs xs with |some p,some q=>some (p&&q)|_,_=>none)=_;rw[h x (.head _),ql f xs (fun v hv=>h v (.tail _ hv))];rfl
theorem jW(H:AH)(l:List V)(h:∀v∈l,f_ 9 H v v=some true):f_ bg H (.lst l) (.lst l)=some true:=by show alt (bif l.length==l.length then gZ (f_ 9 H) l l else some false) none=_;rw[beq_self_eq_true,ql _ l h];rfl
theorem oh(H:AH)(i:Int):f_ 9 H (.int i) (.int i)=some true:=by show some (i==i)=_;simp
theorem C5(H:AH)(i:Str):f_ 9 H (.str i) (.str i)=some true:=by show some (i==i)=_;simp
abbrev um(way:Int):az:=.inst 80 [(T "comp_select_list",xw way)]
abbrev v8(k:Nat)(LV:V)(way:Int)(t la:List Nat)(L kq:Nat):af:=[(T "lexer",.ref k),(T "letters",LV),(T "way",.int way),(T "text",aC t),(T "last",aC la),(T "calls",.ref L),(T "book",.ref (L+1)),(T "order",.ref (L+2)),(T "comparer",.ref kq)]
abbrev Vv:List Str:=[T "lexer",T "letters",T "way",T "text",T "last",T "calls",T "book",T "order",T "comparer"]
abbrev Vw:List Stmt:=d_ (kS 4)
abbrev ZQ:Expr:=jn (bD Vw 0)
section
variable{d k kq:Nat}{a:Lx}{B r W X:AH}{aJ:Int}{cs:List Nat}{LV:V}{way:Int}{l t la:List Nat}{O:List (List Nat)}{x:List Nat}
theorem C6:aD (d+3) (.cls 80) [xw way] X (.ref X.length) (X++[um way]):=by obtain q:=Cp (d:=d) (v:=xw way) (H:=X++[az.inst 80 []]) (k:=X.length) rfl cM;simp only[cN] at q;exact HM (fk:=70) (cd:=((G.C.gh.lookup 80).getD ⟨[],[]⟩)) (by kernel_rfl) (by kernel_rfl) q
theorem LH:gU (d+3) qb (kE k LV way l la B.length) (kS 3) X .next (v8 k LV way l la B.length X.length) (X++[um way]):=bK (.call (C6 (d:=d) (way:=way) (X:=X)) .nil) (by kernel_rfl)
theorem Vx(hq:X[kq]?=some (um way))(o x:List Nat):aD (d+2) (.fn 77) [.ref kq,.tup [.int (sL o).length,aC o],.tup [.int (sL x).length,aC x]] X (.int (fE way o x)) X:=by obtain q:=nR (d:=d) (at2 ((sL o).length:Int) (sL o)) (at2 ((sL x).length:Int) (sL x)) hq;exact q
theorem Vy(hq:X[kq]?=some (um way))(x:List Nat):aD (d+2) (.fn 77) [.ref kq,.tup [.int (sL x).length,aC x,.int 0],.tup [.int (sL x).length,aC x,.int 1]] X (.int 0) X:=by obtain q:=nR (d:=d) (WS ((sL x).length:Int) (sL x) (.int 0)) (WS ((sL x).length:Int) (sL x) (.int 1)) hq;simp only[show vO way ((sL x).length:Int) (sL x) ((sL x).length:Int) (sL x)=0 by exact cmp_self x] at q;exact q
theorem FI(hq:X[kq]?=some (um way))(hO:O.length<1000):dJ (d+2) ZQ (O.map aC) [(T "comparer",.ref kq),(T "one",aC x)] (.l []) X (.l (O.map fun o=>.int (fE way o x))) X:=aG.all aC (fun o=>.int (fE way o x)) O (by unfold ai;exact aV (nat_lit 0x1000006f0113e83f01101) ae hO) fun o a vs hz=>a_ [T "comparer",T "one"] (.obj hq (.call (Vx (d:=d) hq o x) (.no 9 (bj hz) .nil))) (by kernel_rfl)
theorem oj(n:Nat)(v:V)(h:n<1000):binop .Mult (.lst [v]) (.int n)=some (.lst (List.replicate n v)):=by have e:(decide ((0:Int)≤(n:Int))&&decide ((n:Int)<1000))=true:=jv ⟨decide_eq_true (Int.natCast_nonneg n),decide_eq_true (Int.ofNat_lt.mpr h)⟩;show(if(decide ((0:Int)≤(n:Int))&&decide ((n:Int)<1000))=true then some (V.lst (List.replicate (n:Int).toNat v)) else none)=_;rw[e];rfl
theorem C7{k:Nat}{i:Int}{v:V}{xs:List V}{H:AH}:j5 k (T "insert") [.int i,v] (.lst xs) H=bif zJ i xs.length then some (.none,H.set k (.lst (xs.take i.toNat++v::xs.drop i.toNat))) else none:=by kernel_rfl
theorem Vz{k i:Nat}{v:V}{xs:List V}{H H':AH}(hz:xs.length+1<2^20)(hi:i<2^60)(e:H.set k (.lst (xs.take i++v::xs.drop i))=H'):j5 k (T "insert") [.int i,v] (.lst xs) H=some (.none,H'):=by have e1:zJ (i:Int) xs.length=true:=jv ⟨jv ⟨decide_eq_true (Int.natCast_nonneg i),decide_eq_true (rQ (nat_lit 0x800000000000000010e07911000000000000000100f01101) ae hi)⟩,decide_eq_true hz⟩;rw[C7,e1,Int.toNat_natCast,e];rfl
theorem xM{xs:List V}{v:V}{n:Nat}(h:eA v xs=some n):rZ xs (T "count") [v] X=some (.int n,X):=congrArg (Option.map fun(n:Nat)=>(V.int n,X)) h
theorem LI{L1:Nat}(hw:way=1∨way=-1)(hk:W[L1+2]?=some (.lst (O.map aC)))(hq:W[kq]?=some (um way))(bV:kq≠L1+2)(hO:O.length<500)(hs:O.Pairwise (cA way))(hx:x∉O):
  ∃O':List (List Nat),Turn (d+2) qb (dI (kS 4)) Vw (aC x) (v8 k LV way l la L1 kq) W .next (v8 k LV way l la L1 kq) (W.set (L1+2) (.lst (O'.map aC)))∧O'.Pairwise (cA way)∧O'.Perm (x::O):=by
 refine(lG hw x O hs hx).elim fun A z5=>?_;refine z5.elim fun C z6=>?_;obtain QB:=z6.1;obtain ha:=z6.2.1;obtain hb:=z6.2.2
 refine⟨A++x::C,?_,o9 (QB▸hs) ha hb,by rw[QB];exact List.perm_middle⟩;obtain hlen:A.length+C.length=O.length:=by rw[QB,List.length_append]
 let tl:List V:=List.replicate A.length (.int (-1))++List.replicate C.length (.int 1);let V2:AH:=(W.set (L1+2) .gone).set (L1+2) (.lst (O.map aC))
 obtain eV:V2=W:=by show(W.set _ _).set _ _=_;rw[List.set_set];exact set_same hk
 obtain te:=FI (d:=d) (X:=W.set (L1+2) .gone) (kq:=kq) (way:=way) (O:=O) (x:=x) (by rw[List.getElem?_set_ne bV.symm];exact hq) (aV (nat_lit 0x3e83f0111f43f01101) ae hO);rw[show(O.map fun o=>V.int (fE way o x))=tl by rw[QB];exact tY hw ha hb] at te;obtain W5:V2[kq]?=some (um way):=by rw[eV];exact hq
 obtain zz:V2[L1+2]?=some (.lst (O.map aC)):=by rw[eV];exact hk
 obtain cn:rZ tl (T "count") [.int (-1)] V2=some (.int A.length,V2):=xM (rL _ _);obtain m1:=oj A.length (.int (-1)) (aQ (nat_lit 0x3e83f0111f43f21121082102) ae hlen hO);obtain ln:=xA zz;rw[List.length_map] at ln;obtain sb:binop .Sub (.int O.length) (.int A.length)=some (.int C.length):=by show some (V.int ((O.length:Int)-(A.length:Int)))=_;rw[show(O.length:Int)-(A.length:Int)=(C.length:Int) by exact Iz.go (nat_lit 0x170727ca521083511) [_,_,_] [] ae hlen]
 obtain m2:=oj C.length (.int 1) (aQ (nat_lit 0x3e83f1111f43f21121082102) ae hlen hO);obtain ad:binop .Add (.lst (List.replicate A.length (.int (-1)))) (.lst (List.replicate C.length (.int 1)))=some (.lst tl):=CU (by rw[List.length_replicate,List.length_replicate];exact aQ (nat_lit 0x1000006f108111f43f21121082102) ae hlen hO);obtain eq:dK V2 .NotEq (.lst tl) (.lst tl)=some (.bool false):=by
  obtain hv:f_ bg V2 (.lst tl) (.lst tl)=some true:=jW V2 tl fun v hv=>by
   rcases List.mem_append.mp hv with h|h
   ·rw[List.eq_of_mem_replicate h];exact oh V2 _
   ·rw[List.eq_of_mem_replicate h];exact oh V2 _
  show(f_ bg V2 (.lst tl) (.lst tl)).map (fun r=>V.bool !r)=_;rw[hv];rfl
 obtain iv:j5 (L1+2) (T "insert") [.int A.length,aC x] (.lst (O.map aC)) V2=some (.none,W.set (L1+2) (.lst ((A++x::C).map aC))):=Vz (by rw[List.length_map];exact aV (nat_lit 0x1000006f1908111f43f01101) ae hO) (aQ (nat_lit 0x1000000000000000100f0111f43f21121082102) ae hlen hO) (by rw[eV,QB,←List.map_take,←List.map_drop,List.take_left,List.drop_left,List.map_append];rfl);exact av Vv (.obj hk (.cmp te (.upd 2 cn (.val 5 m1 (.upd 8 ln (.val 10 sb (.val 11 m2 (.val 12 ad (.val 13 eq (.obj W5 (.call (Vy (d:=d) W5 x) (.obj zz (.obj zz (.upd 30 iv .nil)))))))))))))) (by kernel_rfl)
end
theorem C8(t s:List (Str×Int)):(tI t s).length≤t.length+s.length:=by unfold tI;obtain h1:=jO (g:=o8) (fun d a=>cC d a.1 a.2) t [];obtain h2:=jO (g:=put2) (fun d a=>cC d a.1 _) s (t.foldl o8 []);simp only[List.length_nil] at h1;exact gS (nat_lit 0x238001309810121800102) ae h2 h1
set_option tactic.hygienic true in
theorem zf{B:List (Str×St)}{m:Nat}(h:∀x s,B.lookup (sL x)=some s→s.cs.length≤m)(one:List Nat):∀x s,(pass1 B one).lookup (sL x)=some s→s.cs.length≤m+1:=by
 intro x s hs;unfold pass1 at hs;split at hs
 ·have :=h x s hs;exact aE (nat_lit 441453936378113) ae this
 ·split at hs
  ·rename_i t s' h1 h2;rw[c8,dz] at hs;split at hs
   ·obtain rfl:=Option.some.inj hs;obtain ht:=h _ t h1;obtain this:=C8 t.cs [(sL one,(s'.cs.map (·.2)).sum)];simp only[List.length_cons,List.length_nil] at this;refine(?_:(tI t.cs [(sL one,(s'.cs.map (·.2)).sum)]).length≤_);exact aQ (nat_lit 0x19280012101190981800102) ae this ht
   ·have :=h x s hs;exact aE (nat_lit 441453936378113) ae this
  ·have :=h x s hs;exact aE (nat_lit 441453936378113) ae this
section
variable{d k kq:Nat}{a:Lx}{B r W X:AH}{aJ:Int}{cs:List Nat}{p:List V}{LV:V}{way:Int}{l t la:List Nat}{O:List (List Nat)}{x:List Nat}{CL:List (Str×Str)}{K:List (Str×St)}{g:az}
theorem om{L1:Nat}(hw:way=1∨way=-1)(hk:L1+2<W.length)(hq:W[kq]?=some (um way))(bV:kq≠L1+2):∀(xs O:List (List Nat)),(O++xs).length<500→O.Pairwise (cA way)→(O++xs).Nodup→
  ∃O':List (List Nat),bZ (d+2) qb (dI (kS 4)) Vw (xs.map aC) (v8 k LV way l la L1 kq) (W.set (L1+2) (.lst (O.map aC))) .next (v8 k LV way l la L1 kq) (W.set (L1+2) (.lst (O'.map aC)))∧O'.Pairwise (cA way)∧O'.Perm (O++xs)
 |[],O,aK,hs,bA=>⟨O,.nil,hs,by rw[List.append_nil]⟩|x::xs,O,hl,hs,hn=>by
  obtain hx:x∉O:=fun hm=>(ja hn).2.2 x hm x (.head _) rfl
  simp only[List.length_append,List.length_cons] at hl;refine(LI (d:=d) (k:=k) (LV:=LV) (l:=l) (la:=la) (W:=W.set (L1+2) (.lst (O.map aC))) hw (List.getElem?_set_self hk) (by refine(List.getElem?_set_ne bV.symm).trans ?_;exact hq) bV (aE (nat_lit 0x1f43f0111f43f1918081101) ae hl) hs hx).elim fun O1 z2=>?_;obtain tn:=z2.1;obtain ZR:=z2.2.1;obtain LY:=z2.2.2
  obtain VA:(O1++xs).Perm (O++x::xs):=(LY.append_right xs).trans List.perm_middle.symm;refine(om hw hk hq bV xs O1 (by simp only[VA.length_eq,List.length_append,List.length_cons];exact hl) ZR (VA.symm.nodup_iff.mp hn)).elim fun O2 J9=>?_;obtain lp:=J9.1;obtain RC:=J9.2.1;obtain Ri:=J9.2.2
  simp only[List.set_set] at tn;exact⟨O2,tn.next (.inl rfl) lp,RC,Ri.trans VA⟩
theorem C9{β:Type}(f:β→V)(K:List (Str×β))(Xs:List (List Nat))(h:K.map (·.1)=Xs.map sL):(aq f K).map (fun kv=>V.str kv.1)=Xs.map aC:=by
 obtain e:(aq f K).map (fun kv=>V.str kv.1)=(K.map (·.1)).map V.str:=by unfold aq;simp only[List.map_map,List.map_map];rfl
 simp only[e,h,List.map_map];rfl
theorem C_{Xs:List (List Nat)}(h:a.Ok B)(hw:way=1∨way=-1)(hX:K.map (·.1)=Xs.map sL)(hn:Xs.Nodup)(hl:Xs.length<500):∃O:List (List Nat),O.Pairwise (cA way)∧O.Perm Xs∧
  gU (d+2) qb (v8 a.k LV way l la B.length (B.length+(r.length+3))) (kS 4) (a.bh B aJ cs p (bR CL K [] (r++[um way]))) .next (v8 a.k LV way l la B.length (B.length+(r.length+3))) (a.bh B aJ cs p (bR CL K O (r++[um way]))):=by
 let o1:az:=.aF (aq V.str CL);let o2:az:=.aF (aq St.enc K)
 let W:AH:=a.bh B aJ cs p (o1::.gone::.lst []::(r++[um way]));obtain hq:W[B.length+(r.length+3)]?=some (um way):=(dF h (r.length+3)).trans cM;refine(om (d:=d) (k:=a.k) (LV:=LV) (l:=l) (la:=la) (W:=W) (L1:=B.length) hw (cV ((dF h 2).trans rfl:W[B.length+2]?=some (.lst []))).1 hq (aE (nat_lit 0x9096129083918082101) ae) Xs [] hl .nil hn).elim fun O NU=>?_;obtain lp:=NU.1;obtain hs:=NU.2.1;obtain hp:=NU.2.2
 obtain k0:(a.bh B aJ cs p (bR CL K [] (r++[um way])))[B.length+1]?=some o2:=dF h 1;obtain e0:W.set (B.length+2) (.lst (([]:List (List Nat)).map aC))=(a.bh B aJ cs p (bR CL K [] (r++[um way]))).set (B.length+1) .gone:=(eS h 2 _).trans (eS (t:=bR CL K [] (r++[um way])) h 1 .gone).symm;rw[←C9 St.enc K Xs hX,e0] at lp;refine⟨O,hs,hp,(bK (.obj k0 (.loop lp .nil)) (by kernel_rfl)).hp (H₁:=(W.set (B.length+2) (.lst (O.map aC))).set (B.length+1) o2) ?_⟩;rw[eS h 2,eS h 1];rfl
abbrev pB:List Stmt:=d_ (kS 5)
theorem FJ(h:a.Ok B)(DF:CL.lookup (sL x)=some (sL (ay x)))(hK:K.length<500)(hx:∃s,K.lookup (sL x)=some s)(JZ:ay x≠[]→∃t,K.lookup (sL (ay x))=some t∧t.cs.length<500):
  ∃r',Turn (d+4) qb (dI (kS 5)) pB (aC x) (v8 a.k LV way l la B.length kq) (a.bh B aJ cs p (.aF (aq V.str CL)::.aF (aq St.enc K)::g::r)) .next (v8 a.k LV way l la B.length kq) (a.bh B aJ cs p (.aF (aq V.str CL)::.aF (aq St.enc (pass1 K x))::g::r'))∧(pass1 K x).map (·.1)=K.map (·.1):=by
 refine hx.elim fun s hs=>?_
 let W:AH:=a.bh B aJ cs p (.aF (aq V.str CL)::.aF (aq St.enc K)::g::r);obtain k0:W[B.length]?=some (.aF (aq V.str CL)):=dF h 0;obtain k1:W[B.length+1]?=some (.aF (aq St.enc K)):=dF h 1;obtain i0:lD (some (.aF (aq V.str CL))) (aC x)=some (aC (ay x)):=(fF V.str CL (sL x)).trans (congrArg (Option.map V.str) DF);unfold pass1;by_cases hl:ay x=[]
 ·rw[if_pos hl];obtain ny:(!(sL (ay x)==T ""))=false:=by rw[hl];kernel_rfl
  exact⟨r,av Vv (.obj k0 (.val 2 i0 (.no 4 ny .nil))) (by kernel_rfl),rfl⟩
 ·rw[if_neg hl];refine(JZ hl).elim fun t z=>z.elim fun VB Mk=>?_
  rw[hs,VB];dsimp only;obtain ny:(!(sL (ay x)==T ""))=true:=by rw[show T ""=sL [] by kernel_rfl,dz,decide_eq_false hl];rfl
  obtain it:lD (some (.aF (aq St.enc K))) (aC (ay x))=some t.enc:=(fF St.enc K _).trans (congrArg (Option.map St.enc) VB);obtain is:lD (some (.aF (aq St.enc K))) (aC x)=some s.enc:=(fF St.enc K _).trans (congrArg (Option.map St.enc) hs);obtain cc:=nO (d:=d+2) (H:=W) s.cs;let new:St:=⟨0,s.nc,s.tt,s.ct,[(sL x,(s.cs.map (·.2)).sum)]⟩
  obtain st:=jP (d:=d+1) W t new (by show t.cs.length+1+1<_;omega);obtain k2:(W++[.gone])[B.length]?=some (.aF (aq V.str CL)):=by rw[show W++[.gone]=_ from jr h];exact dF h 0
  obtain k3:(W++[.gone])[B.length+1]?=some (.aF (aq St.enc K)):=by rw[show W++[.gone]=_ from jr h];exact dF h 1
  obtain s2:mz (B.length+1) (sL (ay x)) (t.add new).enc (.aF (aq St.enc K)) (W++[.gone])=some ((),a.bh B aJ cs p (.aF (aq V.str CL)::.aF (aq St.enc (aP K (sL (ay x)) (t.add new)))::g::(r++[.gone]))):=E0 (by rw[dX];exact aV (nat_lit 0x1000006f1908111f43f01101) ae hK) (by rw[show W++[.gone]=_ from jr h,eS h 1,j6];rfl);exact⟨r++[.gone],av Vv (.obj k0 (.val 2 i0 (.no 4 ny (.obj k0 (.val 9 i0 (.obj k1 (.val 10 it (.obj k1 (.val 13 is (.obj k1 (.val 20 is (.call cc (.call st (.obj k2 (.val 26 i0 (.obj k3 (.vL 27 s2 .nil))))))))))))))))) (by kernel_rfl),by rw[r8,VB];rfl⟩
end
structure iH(w:List Nat)(way:Int)(B:List (Str×St))(O:List (List Nat)):Prop where
 keys:∃X:List (List Nat),B.map (·.1)=X.map sL∧X.Nodup∧O.Perm X
 mem:∀x,x∈O↔i8 w x
 Dc:O.Pairwise (cA way)
 ent:∀x,i8 w x→∃s,B.lookup (sL x)=some s∧Ent (dB w) (PW w x) (cW w x) s
 len:O.length≤w.length
theorem oq(m:Nat)(H:AH):∀B:List (Str×St),e9 (freeze (m+3)) (aq St.enc B) H=some (aq St.enc B,H)|[]=>rfl|(y,u)::r=>by unfold e9;refine bC (a:=u.enc) (H':=H) rfl ?_;exact bC (oq m H r) rfl
theorem jX(m:Nat)(H:AH):∀O:List (List Nat),eB (freeze (m+1)) (O.map aC) H=some (O.map aC,H)|[]=>rfl|x::r=>by unfold eB;refine bC (a:=aC x) (H':=H) rfl ?_;exact bC (jX m H r) rfl
section
variable{H:AH}{L:Nat}{B:List (Str×St)}{O:List (List Nat)}
theorem v9(hb:H[L+1]?=some (.aF (aq St.enc B)))(ho:H[L+2]?=some (.lst (O.map aC))):freeze bg (.tup [.ref (L+1),.ref (L+2)]) H=some (.tup [.aF (aq St.enc B),.lst (O.map aC)],(H.set (L+1) .gone).set (L+2) .gone):=by
 obtain JQ:(H.set (L+1) .gone)[L+2]?=some (.lst (O.map aC)):=by refine(get_set (by exact aV (nat_lit 0x90961290819083101) ae)).trans ?_;exact ho
 obtain e1:freeze 9 (.ref (L+1)) H=some (.aF (aq St.enc B),H.set (L+1) .gone):=dU (o:=.aF (aq St.enc B)) hb rfl (bC (a:=()) (H':=H.set (L+1) .gone) rfl (bC (oq 5 _ B) rfl));obtain e2:freeze 9 (.ref (L+2)) (H.set (L+1) .gone)=some (.lst (O.map aC),(H.set (L+1) .gone).set (L+2) .gone):=dU (o:=.lst (O.map aC)) JQ rfl (bC (a:=()) (H':=(H.set (L+1) .gone).set (L+2) .gone) rfl (bC (jX 7 _ O) rfl));exact bC (a:=[.aF (aq St.enc B),.lst (O.map aC)]) (H':=(H.set (L+1) .gone).set (L+2) .gone) (bC e1 (bC (bC e2 (bC (a:=[]) (H':=(H.set (L+1) .gone).set (L+2) .gone) rfl rfl)) rfl)) rfl
end
section
variable{d kq:Nat}{a:Lx}{B r W X:AH}{aJ:Int}{cs:List Nat}{p:List V}{LV:V}{way:Int}{l t la:List Nat}{O:List (List Nat)}{x:List Nat}{CL:List (Str×Str)}{K:List (Str×St)}{g:az}
theorem qm(h:a.Ok B)(hO:∀x,x∈O↔i8 l x)(QC:O.Nodup)(hs:O.Pairwise (cA way))(DF:∀x,i8 l x→CL.lookup (sL x)=some (sL (ay x)))(LJ:O.length<400):∀(xs done:List (List Nat)) (K:List (Str×St)) (r:AH),O=done++xs→tU l done K→K.length<400→(∀x s,K.lookup (sL x)=some s→s.cs.length≤done.length+1)→
  ∃K' r',bZ (d+4) qb (dI (kS 5)) pB (xs.map aC) (v8 a.k LV way l la B.length kq) (a.bh B aJ cs p (.aF (aq V.str CL)::.aF (aq St.enc K)::g::r)) .next (v8 a.k LV way l la B.length kq) (a.bh B aJ cs p (.aF (aq V.str CL)::.aF (aq St.enc K')::g::r'))∧tU l O K'∧K'.map (·.1)=K.map (·.1)
 |[],done,K,r,hd,I,aK,bA=>by rw[List.append_nil] at hd;subst hd;exact⟨K,r,.nil,I,rfl⟩|x::xs,done,K,r,hd,I,hK,hc=>by
  have RV:i8 l x:=(hO x).mp (by exact hd▸(List.mem_append_right _ (.head _)));obtain T3:done.length<400:=by obtain this:=congrArg List.length hd;rw[List.length_append] at this;exact aQ (nat_lit 0x1903f1111903f01121803102) ae this LJ
  obtain⟨r1,tn,hk⟩:=FJ (d:=d) (LV:=LV) (way:=way) (l:=l) (la:=la) (kq:=kq) (aJ:=aJ) (cs:=cs) (p:=p) (g:=g) (r:=r) h (DF x RV) (aV (nat_lit 0x1f43f0111903f01101) ae hK) ((I.yes x RV).imp fun s h=>h.1) (fun hl=>by
   refine(I.yes _ (n7 RV hl)).elim fun t z2=>?_;obtain ht:=z2.1
   exact⟨t,ht,by have :=hc _ t ht;exact aE (nat_lit 0x1f43f0111903f111191800102) ae this T3⟩)
  have hn:x∉done:=fun hm=>by rw[hd] at QC;exact(ja QC).2.2 x hm x (.head _) rfl
  obtain CP:∀y,i8 l y→x.length<y.length→y∈done:=fun y hy bL=>by
   obtain hm:=(hO y).mpr hy;rw[hd] at hm hs;rcases List.mem_append.mp hm with h|h
   ·exact h
   ·exfalso;obtain h3:=(List.pairwise_append.mp hs).2.1;rcases bM h with rfl|h
    ·exact aV (nat_lit 9935886749953) ae bL
    ·have :=(xX h3).1 y h;unfold cA at this;lia
  obtain DC:(pass1 K x).length=K.length:=by obtain this:=congrArg List.length hk;rwa [List.length_map,List.length_map] at this
  refine(qm h hO QC hs DF LJ xs (done++[x]) (pass1 K x) r1 (by simp only[hd,List.append_assoc];rfl) (zd I RV hn CP) (DC▸hK) (by refine List.length_append▸?_;exact zf hc x)).elim fun K2 UY=>?_;refine UY.elim fun r2 zx=>?_;obtain lp:=zx.1;obtain I2:=zx.2.1;obtain zz:=zx.2.2
  exact⟨K2,r2,tn.next (.inl rfl) lp,I2,zz.trans hk⟩
theorem zg(h:a.Ok B)(hO:∀x,x∈O↔i8 l x)(QC:O.Nodup)(hs:O.Pairwise (cA way))(DF:∀x,i8 l x→CL.lookup (sL x)=some (sL (ay x)))(LJ:O.length<400)(I:tU l [] K)(hK:K.length<400)(hc:∀x s,K.lookup (sL x)=some s→s.cs.length≤1):
  ∃K' r',gU (d+4) qb (v8 a.k LV way l la B.length kq) (kS 5) (a.bh B aJ cs p (bR CL K O r)) .next (v8 a.k LV way l la B.length kq) (a.bh B aJ cs p (bR CL K' O r'))∧tU l O K'∧K'.map (·.1)=K.map (·.1):=by
 refine(qm (d:=d) (LV:=LV) (la:=la) (kq:=kq) (aJ:=aJ) (cs:=cs) (p:=p) (g:=.gone) h hO QC hs DF LJ O [] K r rfl I hK hc).elim fun K' HN=>?_;refine HN.elim fun r' PF=>?_;obtain lp:=PF.1;obtain I':=PF.2.1;obtain hk:=PF.2.2
 obtain k0:(a.bh B aJ cs p (bR CL K O r))[B.length+2]?=some (.lst (O.map aC)):=dF h 2;obtain e0:a.bh B aJ cs p (.aF (aq V.str CL)::.aF (aq St.enc K)::.gone::r)=(a.bh B aJ cs p (bR CL K O r)).set (B.length+2) .gone:=(eS (t:=bR CL K O r) h 2 .gone).symm;rw[e0] at lp;exact⟨K',r',(bK (.obj k0 (.loop lp .nil)) (by kernel_rfl)).hp (eS (t:=.aF (aq V.str CL)::.aF (aq St.enc K')::.gone::r') h 2 (.lst (O.map aC))),I',hk⟩
theorem ou(n:Nat)(H:AH)(h:n<2^59):gj false "range" [.int 1,.int ((n:Int)+1)] H=some (.mj 1 ((n:Int)+1),H):=congrArg (fun c=>bif c then some (V.mj 1 ((n:Int)+1),H) else none) (jv ⟨by decide,decide_eq_true (by omega)⟩)
theorem Dd(hl:l.length≤12)(h:a.Ok B)(RW:∀X,g_ "len" [LV] X=some (.int l.length,X)):∃LC K' r',LB l l.length LC K'∧
  gU (d+4) qb (kE a.k LV way [] [] B.length) (kS 2) (a.bh B aJ cs (l.map cY) (bR [] [] [] [])) .next (kE a.k LV way l (lastOf l) B.length) (a.bh B aJ cs [] (bR LC K' [] r')):=by
 refine(xJ (d:=d) (LV:=LV) (way:=way) (aJ:=aJ) (cs:=cs) hl h l.length 0 [] [] [] (Nat.zero_add _) ⟨Lp l,fun i h1 h2=>by lia,Nat.le_refl _,Nat.le_refl _,.nil⟩).elim fun CL ZS=>?_;refine ZS.elim fun K ZT=>?_;refine ZT.elim fun r W6=>?_;obtain q:=W6.1;obtain lp:=W6.2
 simp only[List.take_zero,List.drop_zero,←List.range_eq_range',show List.range l.length=List.range ((((l.length:Int)+1)-1).toNat) by simp only[Int.add_sub_cancel,Int.toNat_natCast]] at lp;obtain r0:=ou l.length (a.bh B aJ cs (l.map cY) (bR [] [] [] [])) (aV (nat_lit 0x800000000000000ff011c900101) ae hl);exact⟨CL,K,r,q,bK (.upd 3 (RW (a.bh B aJ cs (l.map cY) (bR [] [] [] []))) (.upd 5 r0 (.loop lp .nil))) (by kernel_rfl)⟩
theorem RX:bd 18=[kS 0,kS 1,kS 2,kS 3,kS 4,kS 5,kS 6]:=by kernel_rfl
theorem QD{v:V}{aj:af}(h:oX (d+1) qb (H9 a.k LV way) [kS 0,kS 1,kS 2,kS 3,kS 4,kS 5,kS 6] X (.ret v) aj W):aD (d+2) (.fn 205) [.ref a.k,LV,.int way] X v W:=
 by
 exact Kz (fk:=205) (dd:=dY (Hd.st 18)) (vs:=[.ref a.k,LV,.int way]) (fl:=.ret v) (by kernel_rfl) (by kernel_rfl) h
theorem qo(hl:l.length≤12)(hw:way=1∨way=-1)(RW:LV=aC l∨LV=.lst (l.map cY))(h:a.Ok B):∃K O t,iH l way K O∧
  aD (d+5) (.fn 205) [.ref a.k,LV,.int way] (a.hp B aJ [] cs) (.tup [.aF (aq St.enc K),.lst (O.map aC)]) (a.hp (B++t) aJ [] cs):=by
 have len:∀X,g_ "len" [LV] X=some (.int l.length,X):=fun X=>by
  rcases RW with rfl|rfl
  ·show some (V.int ((sL l).length:Int),X)=_;rfl
  ·refine(?_:some (V.int ((l.map cY).length:Int),X)=_);rw[List.length_map]
 obtain q0:=Fy (d:=d+2) (LV:=LV) (way:=way) (aJ:=aJ) (cs:=cs) h hl;have s0:gU (d+4) qb (H9 a.k LV way) (kS 0) (a.hp B aJ [] cs) .next (H9 a.k LV way) (a.hp B aJ (l.map cY) cs):=by
  rcases RW with rfl|rfl
  ·skip
   exact bK (.loop q0 .nil) (by kernel_rfl)
  ·exact bK (.loop q0 .nil) (by kernel_rfl)
 obtain s1:=Lv (d:=d+3) (aJ:=aJ) (cs:=cs) (p:=l.map cY) (LV:=LV) (way:=way) h;obtain⟨CL,K,r,q,s2⟩:=Dd (d:=d) (way:=way) (aJ:=aJ) (cs:=cs) hl h len;obtain s3:=LH (d:=d+1) (k:=a.k) (LV:=LV) (way:=way) (l:=l) (la:=lastOf l) (B:=B) (X:=a.bh B aJ cs [] (bR CL K [] r));rw[Lu,jr h] at s3;let Xs:List (List Nat):=K.map fun kv=>kv.1.cps.toList
 have RY:K.map (·.1)=Xs.map sL:=by rw[List.map_map];exact List.map_congr_left fun kv b=>CK kv.1
 have LK:Xs.Nodup:=by have :=q.nd;rw[RY] at this;exact(List.pairwise_map.mp this).imp fun h e=>h (by exact congrArg _ e)
 have QE:Xs.length≤l.length:=by rw[List.length_map];exact q.lb
 have I0:=Lq q.inv;obtain LL:∀x,x∈Xs↔i8 l x:=fun x=>by
  obtain h1:x∈Xs↔sL x∈K.map (·.1):=by rw[RY];exact⟨fun h=>uq ⟨x,h,rfl⟩,fun h=>by obtain⟨y,hy,e⟩:=F9 h;rwa [←kX e]⟩
  rw[h1];constructor
  ·intro h;apply Classical.byContradiction;intro hn;exact(cT K (sL x)).mp (I0.no x hn) h
  ·intro h;apply Classical.byContradiction;intro hn;obtain⟨s,hs,_⟩:=I0.yes x h;exact nomatch hs.symm.trans ((cT K (sL x)).mpr hn)
 refine(C_ (d:=d+2) (a:=a) (LV:=LV) (l:=l) (la:=lastOf l) (aJ:=aJ) (cs:=cs) (p:=[]) (CL:=CL) (r:=r) h hw RY LK (aE (nat_lit 0x1f43f011c9101100102) ae QE hl)).elim fun O LM=>?_;obtain hs:=LM.1;obtain hp:=LM.2.1;obtain s4:=LM.2.2
 have VC:∀x,x∈O↔i8 l x:=fun x=>hp.mem_iff.trans (LL x)
 obtain LJ:=hp.length_eq;obtain DF:∀x,i8 l x→CL.lookup (sL x)=some (sL (ay x)):=fun x hx=>by
  obtain⟨j,hj,e⟩:=occ_first hx;obtain rR:=dD.mp hj;obtain this:=q.call j rR.1 rR.2
  rwa [e] at this
 obtain Ht:∀x s,K.lookup (sL x)=some s→s.cs.length≤1:=fun x s h=>by
  rw[q.inv x] at h;unfold vW at h;split at h
  ·exact nE h
  ·obtain rfl:=Option.some.inj h;exact Nat.le_refl _
 refine(zg (d:=d) (LV:=LV) (la:=lastOf l) (kq:=B.length+(r.length+3)) (aJ:=aJ) (cs:=cs) (p:=[]) (r:=r++[um way]) h VC (hp.nodup_iff.mpr LK) hs DF (aQ (nat_lit 0x1903f011c92012101102103) ae LJ QE hl) I0 (by obtain this:=q.lb;exact aE (nat_lit 0x1903f011c9101100102) ae this hl) Ht).elim fun K' VD=>?_;refine VD.elim fun r' LN=>?_;obtain s5:=LN.1;obtain I':=LN.2.1;obtain k':=LN.2.2
 obtain s6:gU (d+4) qb (v8 a.k LV way l (lastOf l) B.length (B.length+(r.length+3))) (kS 6) (a.bh B aJ cs [] (bR CL K' O r')) (.ret (.tup [.ref (B.length+1),.ref (B.length+2)])) (v8 a.k LV way l (lastOf l) B.length (B.length+(r.length+3))) (a.bh B aJ cs [] (bR CL K' O r')):=bK .nil (by kernel_rfl);obtain fz:=v9 (H:=a.bh B aJ cs [] (bR CL K' O r')) (L:=B.length) (B:=K') (O:=O) (dF h 1) (dF h 2);rw[eS h 1,eS h 2] at fz;exact⟨K',O,_,⟨⟨Xs,k'.trans RY,LK,hp⟩,VC,hs,CR I' fun x hx=>(VC x).mpr hx,aQ (nat_lit 9008440518123778) ae LJ QE⟩,BS (QD (bu s0 (bu s1 (bu s2 (bu s3 (bu s4 (bu s5 (BQ s6)))))))) fz⟩
end
theorem gE(x:Str):∀ys:List Str,eqRow (.str x) (ys.map .str)=some (ys.map (·==x))|[]=>rfl|y::r=>congrArg (fun o=>match some (y==x),o with |some p,some q=>some (p::q)|_,_=>none) (gE x r)
theorem v_(x:Str)(ys:List Str):(eqRow (.str x) (ys.map .str)).map (·.any id)=some (ys.any (·==x)):=by rw[gE];exact congrArg some List.any_map
theorem rM(x:Str)(ys:List Str):eA (.str x) (ys.map .str)=some ((ys.filter (·==x)).length):=by unfold eA;rw[gE,←List.countP_eq_length_filter];exact congrArg some List.countP_map
theorem rN(x:Str)(ys:List Str):jy (.str x) (ys.map .str)=ys.findIdx? (·==x):=by unfold jy;rw[gE];exact List.findIdx?_map ..
theorem jY:∀l:List Int,sumInts (l.map .int)=some l.sum|[]=>rfl|i::r=>by show(sumInts (r.map .int)).map (i+·)=_;rw[jY r];rfl
def ez(t:List Nat):V:=.lst ((tailOf t).map aC)
def eZ(w:List Nat):V:=.lst ((dB w).map fun j=>ez (w.take j))
theorem tZ(f:Nat→V):∀(m i:Nat),bw (i:Int) ((List.range' (i+1) m).map f)=(List.range' (i+1) m).map fun(j:Nat)=>V.tup [.int ((j:Int)-1),f j]
|0,i=>rfl|m+1,i=>by
 refine(?_:V.tup [.int i,f (i+1)]::bw ((i:Int)+1) ((List.range' (i+1+1) m).map f)=_);obtain this:=tZ f m (i+1);congr 2;have :((i+1:Nat):Int)-1=i:=by exact rQ (nat_lit 0x71919087ca510) ae
 rw[this]
theorem t6(x:List Nat):∀(l:List (List Nat)) (p:List Nat),x∈l→∃i,(l.map sL).findIdx? (·==sL x)=some i∧(p::l)[i]?=some (prevIn p l x)
|[],p,h=>by exact nomatch h|y::r,p,h=>by
 simp only[List.map_cons,List.findIdx?_cons,dz];by_cases hy:y=x
 ·refine⟨0,by rw[decide_eq_true hy];rfl,?_⟩;simp[prevIn,hy]
 ·rw[decide_eq_false hy];obtain hr:x∈r:=(bM h).resolve_left (fun e=>hy e.symm);refine(t6 x r y hr).elim fun i z2=>?_;obtain h1:=z2.1;obtain h2:=z2.2
  refine⟨i+1,by simp[h1],?_⟩;simp only[List.getElem?_cons_succ,h2];simp[prevIn,hy]
section
variable{d:Nat}{H:AH}{w x:List Nat}
theorem FL(x:List Nat)(l:List (List Nat)):(l.map sL).any (·==sL x)=decide (x∈l):=by
 rw[Bool.eq_iff_iff];simp only[List.any_eq_true,List.mem_map,decide_eq_true_eq];constructor
 ·rintro⟨_,⟨y,hy,rfl⟩,h⟩;rw[dz] at h;refine(of_decide_eq_true h)▸?_;exact hy
 ·intro h;exact⟨sL x,⟨x,h,rfl⟩,by simp⟩
theorem xN(H:AH)(x:List Nat)(l:List (List Nat)):dK H .In (aC x) (.lst (l.map aC))=some (.bool (decide (x∈l))):=by have :dK H .In (aC x) (.lst (l.map aC))=((eqRow (aC x) (l.map aC)).map (·.any id)).map .bool:=rfl;rw[this,show l.map aC=(l.map sL).map .str by rw[List.map_map];rfl,show aC x=.str (sL x) from rfl,v_,FL];rfl
theorem FN{X:AH}{xs:List V}{v:V}{i:Nat}(hi:jy v xs=some i):rZ xs (T "index") [v] X=some (.int i,X):=congrArg (Option.map fun(n:Nat)=>(V.int n,X)) hi
theorem oz(t:List Nat):(tailOf t).length≤t.length:=by
 induction t with
 |nil=>simp[tailOf]|cons a t ih=>
  unfold tailOf;split
  ·simp;exact ih
  ·simp;exact aE (nat_lit 441453936378113) ae ih
abbrev W7:Expr:=jn (bD (bd 19) 0)
abbrev ZU:Expr:=jn (bD (bd 19) 1)
abbrev VE(i:Nat):Expr:=Lh (E_ (bD (bd 19) 2)) i
abbrev hs(w x:List Nat):List Nat:=(dB w).filter (PW w x)
abbrev bQ(w x:List Nat):List (List Nat):=(hs w x).map (rI w x)
abbrev hV(w x:List Nat)(j:Nat):V:=.tup [.int j,aC (rI w x j)]
theorem De(hw:w.length≤12)(j:Nat)(vs:List V)(hz:vs.length+1<ai):Mf (d+1) W7 (.tup [.int ((j:Int)-1),ez (w.take j)]) [(T "one",aC x)] (.l vs) H (.l (bif PW w x j then vs++[hV w x j] else vs)) H:=by
 obtain i0:=xN H x (tailOf (w.take j));unfold PW tT;induction hb:decide (x∈tailOf (w.take j)) with
 |false=>rw[hb] at i0;exact a_ [T "one"] (.val 2 i0 .nil) (by kernel_rfl)|true=>
  rw[hb] at i0;refine(t6 x (tailOf (w.take j)) [] (of_decide_eq_true hb)).elim fun i z=>z.elim fun hi ZV=>?_
  obtain QF:=(rN (sL x) ((tailOf (w.take j)).map sL)).trans hi;rw[List.map_map] at QF;obtain Mk:=oz (w.take j);obtain QG:(w.take j).length≤12:=by rw[List.length_take];exact aE (nat_lit 0xc9101c9001010102) ae (Nat.min_le_right (j) (w.length)) hw
  obtain ix:=FN (X:=H) (v:=aC x) QF;obtain ad:binop .Add (.int ((j:Int)-1)) (.int 1)=some (.int j):=by show some (V.int ((j:Int)-1+1))=_;rw[Int.sub_add_cancel]
  obtain al:=CU (a:=[.str (T "")]) (b:=(tailOf (w.take j)).map aC) (by rw[List.length_map];show 1+_<_;exact aE (nat_lit 0x1000006f119811c9001010102) ae Mk QG);obtain it:=n8 (X:=H) (xs:=[.str (T "")]++(tailOf (w.take j)).map aC) (i:=i) (v:=aC (rI w x j)) (by show((([]:List Nat)::tailOf (w.take j)).map aC)[i]?=_;simp only[List.getElem?_map,ZV];rfl) (by rw[List.length_append,List.length_map];show 1+_<_;exact aE (nat_lit 0x1000000000000000100f119811c9001010102) ae Mk QG);exact a_ [T "one"] (.val 2 i0 (.val 5 ad (.val 7 al (.upd 10 ix (.val 11 it (.no 12 (bj hz) .nil)))))) (by kernel_rfl)
theorem iU:(dB w).length=w.length:=List.length_range' ..
theorem Df(hw:w.length≤12):dJ (d+1) W7 (bw 0 ((dB w).map fun j=>ez (w.take j))) [(T "one",aC x)] (.l []) H (.l ((hs w x).map (hV w x))) H:=by rw[show bw 0 ((dB w).map fun j=>ez (w.take j))=_ from tZ (fun j=>ez (w.take j)) w.length 0];exact aG.pick (fun(j:Nat)=>.tup [.int ((j:Int)-1),ez (w.take j)]) (hV w x) (PW w x) (dB w) [] (by simp only[iU,List.length_nil];unfold ai;exact aV (nat_lit 0x1000006f009811c900101) ae hw) fun j a vs hz=>De hw j vs hz
theorem Dg(hw:w.length≤12):(hs w x).length≤12:=Nat.le_trans (List.length_filter_le ..) (by rw[iU];exact hw)
theorem t7(hl:(hs w x).length<ai):dJ (d+1) ZU ((hs w x).map (hV w x)) [] (.l []) H (.l ((bQ w x).map aC)) H:=by rw[List.map_map];exact aG.all (hV w x) _ (hs w x) hl fun j a vs hz=>a_ [] (.no 1 (bj hz) .nil) (by kernel_rfl)
theorem QH(hl:(hs w x).length<ai):dJ (d+1) (jQ (VE 2) 0) ((hs w x).map (hV w x)) [] (.l []) H (.l ((hs w x).map fun(j:Nat)=>.int j)) H:=aG.all (hV w x) _ (hs w x) hl fun j a vs hz=>a_ [] (.no 1 (bj hz) .nil) (by kernel_rfl)
theorem QI(hw:w.length≤12)(hl:(hs w x).length<ai):dJ (d+1) (jQ (VE 3) 0) ((hs w x).map (hV w x)) [] (.l []) H (.l ((hs w x).map fun(j:Nat)=>.int ((j:Int)* j))) H:=aG.all (hV w x) _ (hs w x) hl fun j hj vs hz=>a_ [] (.val 2 (CV j (by have :=(dD.mp (zD hj).1).2;exact aE (nat_lit 0x64e011c9101100102) ae this hw)) (.no 3 (bj hz) .nil)) (by kernel_rfl)
theorem H_{X:AH}(l:List Int):g_ "sum" [.lst (l.map .int)] X=some (.int l.sum,X):=congrArg (Option.map fun i=>(V.int i,X)) (jY l)
noncomputable def kZ(l:List (List Nat))(y:List Nat):Nat:=(l.filter (fun z=>decide (z=y))).length
theorem wc(l:List (List Nat))(y:List Nat):eA (aC y) (l.map aC)=some (kZ l y):=by
 rw[show l.map aC=(l.map sL).map .str by rw[List.map_map];rfl];show eA (.str (sL y)) _=_;simp only[rM,List.filter_map,List.length_map];congr 2;refine List.filter_congr fun z a=>?_
 refine(?_:(sL z==sL y)=_);rw[dz]
def qp(l:List (List Nat)):List (Str×Int):=l.foldl (fun d y=>aP d (sL y) ((kZ l y:Nat):Int)) []
theorem QJ(hl:(bQ w x).length<100):dJ (d+1) (VE 4) ((bQ w x).map aC) [(T "callers",.lst ((bQ w x).map aC))] (.d []) H (.d (aq V.int (qp (bQ w x)))) H:=
 aG.fold (σ:=List (Str×Int)) aC (fun s=>.d (aq V.int s)) (fun a=>H) (fun s y=>aP s (sL y) ((kZ (bQ w x) y:Nat):Int)) (fun xs s=>s.length+xs.length<200)
  (fun y ys s hh=>by obtain this:=cC s (sL y) ((kZ (bQ w x) y:Nat):Int);simp only[List.length_cons] at hh;exact aQ (nat_lit 0xc8e20811c8e19281811191800102) ae this hh)
  (fun y ys s hh=>by obtain c:=xM (X:=H) (v:=aC y) (wc (bQ w x) y);rw[←j6];exact a_ [T "callers"] (.upd 3 c (.no 4 (bj (show(aq V.int s).length+1<ai by rw[dX];unfold ai;exact aE (nat_lit 0x1000006f190811c8e1081101) ae hh)) .nil)) (by kernel_rfl)) (bQ w x) [] (by simp only[List.length_nil];exact aV (nat_lit 0xc8e00981164e01101) ae hl)
def QK(w x:List Nat):St:=⟨1,((hs w x).length:Int),((hs w x).map fun(j:Nat)=>(j:Int)).sum,((hs w x).map fun(j:Nat)=>(j:Int)* j).sum,qp (bQ w x)⟩
theorem Dh(hw:w.length≤12):aD (d+2) (.fn 210) [aC x,eZ w] H (QK w x).enc H:=by
 obtain hl:(hs w x).length<ai:=by obtain this:=Dg (x:=x) hw;unfold ai;exact aV (nat_lit 0x1000006f011c900101) ae this
 obtain ln:g_ "len" [.lst ((hs w x).map (hV w x))] H=some (.int (hs w x).length,H):=by show some (V.int (((hs w x).map (hV w x)).length:Int),H)=_;rw[List.length_map]
 obtain s1:=H_ (X:=H) ((hs w x).map fun(j:Nat)=>(j:Int));obtain s2:=H_ (X:=H) ((hs w x).map fun(j:Nat)=>(j:Int)* j);rw[List.map_map] at s1 s2;exact aZ (.cmp (Df (d:=d) (H:=H) (x:=x) hw) (.cmp (t7 (d:=d) (H:=H) hl) (.upd 5 ln (.cmp (QH (d:=d) (H:=H) hl) (.upd 8 s1 (.cmp (QI (d:=d) (H:=H) hw hl) (.upd 11 s2 (.cmp (QJ (d:=d) (H:=H) (w:=w) (x:=x) (by rw[List.length_map];obtain this:=Dg (x:=x) hw;exact aV (nat_lit 0x64e011c900101) ae this)) .nil)))))))) (by kernel_rfl)
end
theorem zh(l:List (List Nat))(y:List Nat):(qp l).lookup (sL y)=if kZ l y=0 then none else some ((kZ l y:Nat):Int):=by
 obtain key:∀(k:List (List Nat)) (d:List (Str×Int)),(k.foldl (fun d y=>aP d (sL y) ((kZ l y:Nat):Int)) d).lookup (sL y)=if y∈k then some ((kZ l y:Nat):Int) else d.lookup (sL y):=by
  intro k;induction k with
  |nil=>intro d;rfl|cons z r ih=>
   intro d;simp only[List.foldl_cons,ih,c8,dz];by_cases h1:y∈r
   ·simp[h1]
   ·by_cases h2:y=z
    ·subst h2;simp
    ·simp[h1,h2]
 unfold qp;simp only[key l []];unfold kZ;by_cases h:y∈l
 ·have :(l.filter fun z=>decide (z=y)).length≠0:=fun h0=>by
   obtain this:=List.eq_nil_of_length_eq_zero h0;obtain h1:y∈l.filter fun z=>decide (z=y):=List.mem_filter.mpr ⟨h,by simp⟩
   rw[this] at h1;exact nomatch h1
  rw[if_pos h,if_neg this]
 ·have :(l.filter fun z=>decide (z=y))=[]:=List.filter_eq_nil_iff.mpr fun z hz ZW=>h (of_decide_eq_true ZW▸hz)
  rw[if_neg h,this];rfl
theorem FO(l:List (List Nat)):((qp l).map (·.1)).Nodup:=by
 obtain key:∀(k:List (List Nat)) (d:List (Str×Int)),(d.map (·.1)).Nodup→((k.foldl (fun d y=>aP d (sL y) ((kZ l y:Nat):Int)) d).map (·.1)).Nodup:=by
  intro k;induction k with |nil=>intro d h;exact h|cons z r ih=>intro d h;exact ih _ (kW _ _ _ h)
 exact key l [] (by decide)
theorem gF{α:Type}[DecidableEq α]{a b:List α}(ha:a.Nodup)(hb:b.Nodup)(h:∀x,x∈a↔x∈b):a.Perm b:=by
 induction a generalizing b with
 |nil=>induction b with |nil=>exact .refl _|cons x r=>exact nomatch (h x).mpr (.head _)
 |cons x a ih=>obtain hx:x∈b:=(h x).mp (.head _);refine(List.Perm.cons x (ih (xW ha).2 (hb.erase x) fun y=>?_)).trans (List.perm_cons_erase hx).symm;rw[hb.mem_erase_iff,←h y,List.mem_cons];exact⟨fun hy=>⟨fun e=>(xW ha).1 (e▸hy),.inr hy⟩,fun hy=>hy.2.resolve_left hy.1⟩
theorem t8(f:V→V→Option Bool)(hf:∀i:Int,f (.int i) (.int i)=some true)(b:List (Str×Int)):∀a:List (Str×Int),(∀p∈a,b.lookup p.1=some p.2)→veqd f (aq V.int b) (aq V.int a)=some true
|[],aK=>rfl|(x,v)::r,h=>by
 show(match (aq V.int b).lookup x with |none=>some false|some u=>match f (.int v) u,veqd f (aq V.int b) (aq V.int r) with |some p,some q=>some (p&&q)|aK,bA=>none)=_
 rw[fF V.int,h (x,v) (.head _)];show(match f (.int v) (.int v),veqd f (aq V.int b) (aq V.int r) with |some p,some q=>some (p&&q)|aK,bA=>none)=_
 rw[hf,t8 f hf b r (fun p hp=>h p (.tail _ hp))];rfl
theorem Di{β:Type}{l:List (Str×β)}{p:Str×β}(hn:(l.map (·.1)).Nodup)(h:p∈l):l.lookup p.1=some p.2:=c9 hn h
theorem zj(f:V→V→Option Bool)(hf:∀i:Int,f (.int i) (.int i)=some true){a b:List (Str×Int)}(ha:(a.map (·.1)).Nodup)(hb:(b.map (·.1)).Nodup)(h:∀y,a.lookup (sL y)=b.lookup (sL y)):(aq V.int a).length=(aq V.int b).length∧veqd f (aq V.int b) (aq V.int a)=some true:=by
 obtain h':∀y:Str,a.lookup y=b.lookup y:=fun y=>by exact h _
 constructor
 ·simp only[dX,dX,←List.length_map (f:=(·.1)) (as:=a),←List.length_map (f:=(·.1)) (as:=b)];refine(gF ha hb fun y=>?_).length_eq;apply Classical.byContradiction;intro hn;obtain h1:=cT a y;obtain h2:=cT b y;rw[h'] at h1;exact hn (Decidable.not_iff_not.mp (h1.symm.trans h2))
 ·refine t8 f hf b a fun p hp=>?_
  rw[←h'];exact Di ha hp
theorem Dj(H:AH){l:List Nat}{P:Nat→Bool}{cnt:List Nat→Int}{s t:St}(S:Ent l P cnt s)(h1:t.cc=1)(h2:t.nc=e6 f1 P l)(h3:t.tt=e6 fi P l)(h4:t.ct=e6 fq P l)(h5:(t.cs.map (·.1)).Nodup)(h6:∀y,t.cs.lookup (sL y)=if cnt y=0 then none else some (cnt y)):f_ bg H s.enc t.enc=some true:=by
 refine(zj (f_ 8 H) (fun i=>by show some (i==i)=_;simp) S.nd h5 (fun y=>(S.lk y).trans (h6 y).symm)).elim fun d1 d2=>?_
 obtain hd:f_ 9 H (.aF (aq V.int s.cs)) (.aF (aq V.int t.cs))=some true:=by show(bif (aq V.int s.cs).length==(aq V.int t.cs).length then veqd (f_ 8 H) (aq V.int t.cs) (aq V.int s.cs) else some false)=_;simp only[d1,beq_self_eq_true,d2];rfl
 obtain e1:s.cc=t.cc:=S.cc.trans h1.symm;obtain e2:s.nc=t.nc:=S.nc.trans h2.symm;obtain e3:s.tt=t.tt:=S.tt.trans h3.symm;obtain e4:s.ct=t.ct:=S.ct.trans h4.symm
 suffices hk:gZ (f_ 9 H) [.int s.cc,.int s.nc,.int s.tt,.int s.ct,.aF (aq V.int s.cs)] [.int t.cc,.int t.nc,.int t.tt,.int t.ct,.aF (aq V.int t.cs)]=some true by exact congrArg (fun o=>alt o none) hk
 simp only[e1,e2,e3,e4];show(match f_ 9 H (.int t.cc) (.int t.cc),gZ (f_ 9 H) [.int t.nc,.int t.tt,.int t.ct,.aF (aq V.int s.cs)] [.int t.nc,.int t.tt,.int t.ct,.aF (aq V.int t.cs)] with |some p,some q=>some (p&&q)|_,_=>none)=_
 obtain r0:gZ (f_ 9 H) [.aF (aq V.int s.cs)] [.aF (aq V.int t.cs)]=some true:=by
  show(match f_ 9 H (.aF (aq V.int s.cs)) (.aF (aq V.int t.cs)),gZ (f_ 9 H) [] [] with |some p,some q=>some (p&&q)|_,_=>none)=_
  rw[hd];rfl
 obtain st:∀(i:Int) (a b:List V),gZ (f_ 9 H) a b=some true→gZ (f_ 9 H) (.int i::a) (.int i::b)=some true:=fun i a b h=>by
  show(match f_ 9 H (.int i) (.int i),gZ (f_ 9 H) a b with |some p,some q=>some (p&&q)|_,_=>none)=_
  rw[oh,h];rfl
 exact st _ _ _ (st _ _ _ (st _ _ _ (st _ _ _ r0)))
theorem t9(H:AH){w x:List Nat}{s:St}(S:Ent (dB w) (PW w x) (cW w x) s):f_ bg H s.enc (QK w x).enc=some true:=by
 refine Dj H S rfl ?_ rfl rfl (FO _) (fun y=>?_)
 ·show((hs w x).length:Int)=_;simp only[l9]
 ·refine(?_:(qp (bQ w x)).lookup (sL y)=_)
  rw[zh];have :((kZ (bQ w x) y:Nat):Int)=cW w x y:=by
   unfold cW kZ;simp only[l9,List.filter_map,List.length_map];congr 2;simp only[List.filter_filter];refine List.filter_congr fun j a=>?_
   simp only[Bool.and_comm];rfl
  rw[←this];by_cases h:kZ (bQ w x) y=0
  ·rw[if_pos h,if_pos (by exact rQ (nat_lit 0x907a50902111) ae h)]
  ·rw[if_neg h,if_neg (by lia)]
noncomputable def idxG{β:Type}:Nat→List β→List (Nat×β)|aK,[]=>[]|i,c::r=>(i,c)::idxG (i+1) r
theorem qq{β:Type}(f:β→V):∀(i:Nat) (l:List β),bw (i:Int) (l.map f)=(idxG i l).map fun(p:Nat×β)=>V.tup [.int (p.1:Int),f p.2]|aK,[]=>rfl|i,c::r=>by show V.tup [.int i,f c]::bw ((i:Int)+1) (r.map f)=_;obtain this:=qq f (i+1) r;rw[show(((i+1:Nat):Int))=(i:Int)+1 by exact rQ (nat_lit 7045127474750736) ae] at this;rw[this];rfl
theorem iI{β:Type}:∀(i:Nat) (l:List β),(idxG i l).length=l.length|aK,[]=>rfl|i,c::r=>by simp[idxG,iI (i+1) r]
theorem oA{β:Type}:∀{i:Nat} {l:List β} {p:Nat×β},p∈idxG i l→i≤p.1∧p.1<i+l.length∧p.2∈l∧l[p.1-i]?=some p.2
|i,c::r,p,h=>by
 rcases bM h with rfl|h
 ·simp
 ·obtain z1:=oA h;obtain h1:=z1.1;obtain h3:=z1.2.2.1;obtain h4:=z1.2.2.2;refine⟨by solve_by_elim [Nat.le_refl,Nat.le_of_lt,Nat.lt_of_lt_of_le,Nat.le_trans,Nat.lt_of_le_of_lt,Nat.lt_trans],by simp;exact aQ (nat_lit 0x19281801121918801101) ae z1.2.1,.tail _ h3,?_⟩;simp only[show p.1-i=(p.1-(i+1))+1 by exact gS (nat_lit 0x191802530820421938183419381820123082114) ae (Nat.sub_add_cancel (aE (nat_lit 281548411109633) ae h1:i≤p.fst)) (Ln.aN (p.fst) (i+1)) (Nat.sub_add_cancel (aE (nat_lit 0x1190801119080101) ae h1:i+1≤p.fst)) (Ln.aN (p.fst) (i)),List.getElem?_cons_succ];exact h4
section
variable{H:AH}
theorem f7(l:List (List Nat)):f_ bg H (.lst (l.map aC)) (.lst (l.map aC))=some true:=jW H _ fun v hv=>by obtain⟨x,_,rfl⟩:=F9 hv;exact C5 H _
theorem Dk{α:Type}(l:List α)(k:Nat):l.take (min k l.length)=l.take k:=by
 rcases Nat.le_total k l.length with h|h
 ·rw[Nat.min_eq_left h]
 ·rw[Nat.min_eq_right h,List.take_length,List.take_of_length_le h]
theorem t_{α:Type}(l:List α)(k:Nat):cut l none (some (k:Int))=l.take k:=by show(l.drop 0).take (clipAt l.length (k:Int)-0)=_;simp only[List.drop_zero,Nat.sub_zero,clipAt_nat,Dk]
theorem FP{α:Type}(l:List α)(a b:Nat):cut l (some (a:Int)) (some (b:Int))=(l.drop a).take (b-a):=by
 show(l.drop (clipAt l.length (a:Int))).take (clipAt l.length (b:Int)-clipAt l.length (a:Int))=_;rw[clipAt_nat,clipAt_nat];apply List.ext_getElem?;intro i;simp only[List.getElem?_take,List.getElem?_take,List.getElem?_drop,List.getElem?_drop];by_cases ha:a≤l.length
 ·rw[Nat.min_eq_left ha];by_cases hi:i<b-a
  ·rw[if_pos hi];by_cases h2:i<min b l.length-a
   ·exact if_pos h2
   ·rw[if_neg h2,List.getElem?_eq_none (by omega)]
  ·rw[if_neg hi,if_neg (by omega)]
 ·obtain hz:l[a+i]?=none:=List.getElem?_eq_none (aQ (nat_lit 35738440712449) ae ha);obtain hy:l[min a l.length+i]?=none:=List.getElem?_eq_none (by lia);rw[hz,hy];split<;>split<;>rfl
end
theorem ua(c6:Int)(e cnt:Nat):∀(ws:List (List Nat×List Nat)) (i:Nat),ws≠[]→i+ws.length=cnt→
  ((idxG i ws).map fun p=>xD p.2.1 (c6.fdiv (16^p.1)) (if p.1+1=cnt then e else 0)).flatten=txtL ((idxG i ws).map fun p=>(p.2.1,c6.fdiv (16^p.1))) e
 |[],i,h,aK=>absurd rfl h|[p],i,aK,h=>by simp only[idxG,List.map_cons,List.map_nil,List.flatten_cons,List.flatten_nil,List.append_nil,txtL];exact congrArg _ (if_pos (by exact h))|p::q::r,i,aK,h=>by obtain ih:=ua c6 e cnt (q::r) (i+1) (by simp) (by simp at h⊢;exact aQ (nat_lit 0x21918190882521919188082511) ae h);rw[show idxG i (p::q::r)=(i,p)::idxG (i+1) (q::r) from rfl,List.map_cons,List.flatten_cons,ih,if_neg (by simp at h⊢;exact aQ (nat_lit 0x90961219083121919188082102) ae h)];rfl
theorem Dl(q:Bool)(way:Int)(e:Nat):(tailL q way e).length≤4:=by
 unfold tailL;split
 ·unfold endsL;split<;>induction q<;>decide
 ·decide
 ·decide
theorem xO(raw:List Nat)(way:Int)(e:Nat):(xD raw way e).length≤2* raw.length+5:=by
 obtain h1:=nY (f5 raw way) (allB way) raw 0;obtain h2:=Dl (f5 raw way) way e;unfold xD;rw[List.length_append,List.length_append];obtain h3:(bif f5 raw way then [34] else([]:List Nat)).length≤1:=by induction f5 raw way<;>decide
 exact gS (nat_lit 0x5932a8120880132a201491011900103) ae h3 h2 h1
theorem FQ{p:Nat×List Nat}(h:nZ p=true):p.2.length≤3:=Nat.le_of_ble_eq_true (aW h).1
theorem l_{α:Type}(f:α→List Nat)(m:Nat):∀qs:List α,(∀p∈qs,(f p).length≤m)→((qs.map f).flatten).length≤m* qs.length
|[],aK=>Nat.zero_le _|p::r,h=>by
 obtain h1:=l_ f m r fun q hq=>h q (.tail _ hq)
 obtain h2:=h p (.head _);simp only[List.map_cons,List.flatten_cons,List.length_append,List.length_cons,Nat.mul_succ];exact gS (nat_lit 0x138208013201100102) ae h2 h1
theorem f9{raw fold:List Nat}(W:dw raw fold):raw.length≤3∧fold.length≤9:=by
 obtain⟨ps,h1,rfl,rfl,hg⟩:=W.WY;refine⟨by rw[List.length_map];exact h1,?_⟩;obtain this:=l_ (·.2) 3 ps fun p hp=>FQ (cZ hg p hp)
 exact aE (nat_lit 0x990013910313a00102) ae this h1
abbrev Ml(ws:List (List Nat×List Nat))(c6:Int):List (List Nat×Int):=(idxG 0 ws).map fun p=>(p.2.1,c6.fdiv (16^p.1))
theorem xP(e:Nat):∀(l:List (List Nat×Int)),(∀p∈l,p.1.length≤3)→(txtL l e).length≤11* l.length
|[],aK=>by simp[txtL]|[p],h=>by obtain h2:=h p (.head _);obtain this:=xO p.1 p.2 e;simp[txtL] at *;exact aE (nat_lit 0xb9101390025902a810102) ae this h
|p::q::r,h=>by
 obtain h1:=xP e (q::r) fun q hq=>h q (.tail _ hq)
 obtain h2:=h p (.head _);obtain this:=xO p.1 p.2 0;refine(?_:(xD p.1 p.2 0++txtL (q::r) e).length≤_);rw[List.length_append];simp only[List.length_cons] at *;exact gS (nat_lit 0x1919388ba208011938ba201391025912a800103) ae this h2 h1
theorem xQ{ws:List (List Nat×List Nat)}{c6:Int}{e:Nat}(hw:ws.length≤5)(hW:∀p∈ws,dw p.1 p.2):(txtL (Ml ws c6) e).length<100:=by
 obtain this:=xP e (Ml ws c6) fun q hq=>by obtain⟨p,hp,rfl⟩:=F9 hq;exact(f9 (hW _ (oA hp).2.2.1)).1
 simp only[List.length_map,iI] at this;omega
theorem FT(ws:List (List Nat×List Nat))(c6:Int):(Ml ws c6).map (·.1)=ws.map (·.1):=by
 have :∀i,((idxG i ws).map fun p=>(p.2.1,c6.fdiv (16^p.1))).map (·.1)=ws.map (·.1):=by
  induction ws with |nil=>intro i;rfl|cons p r ih=>intro i;simp[idxG,ih (i+1)]
 exact this 0
theorem wd{raw fold:List Nat}(W:dw raw fold):∃fs:List (List Nat),((raw.filter fun(c:Nat)=>!cH.contains (c:Int)).map fun c=>V.str (lE c))=fs.map (fun q=>.str (sL q))∧fs.flatten=fold:=by
 obtain⟨ps,_,rfl,rfl,hg⟩:=W.WY;obtain key:∀qs:List (Nat×List Nat),qs.all nZ=true→∃fs:List (List Nat),(((qs.map (·.1)).filter fun(c:Nat)=>!cH.contains (c:Int)).map fun c=>V.str (lE c))=fs.map (fun q=>.str (sL q))∧fs.flatten=(qs.map (·.2)).flatten:=by
  intro qs;induction qs with
  |nil=>intro _;exact⟨[],rfl,rfl⟩|cons p r ih=>
   intro h;obtain h:=aW (show(nZ p&&r.all nZ)=true from h);obtain⟨fs,h1,h2⟩:=ih h.2;obtain h3:=(aW h.1).2;simp only[List.map_cons,List.map_cons,List.flatten_cons];induction hc:cH.contains (p.1:Int) with |true=>rw[hc] at h3;rw[List.isEmpty_iff.mp h3,List.filter_cons_of_neg (by rw[hc];exact Bool.false_ne_true)];exact⟨fs,h1,h2⟩|false=>rw[hc] at h3;rw[List.filter_cons_of_pos (by rw[hc];rfl)];exact⟨p.2::fs,by rw[List.map_cons,List.map_cons,h1,eq_of_beq h3],by simp only[List.flatten_cons,h2]⟩
 exact key ps hg
noncomputable abbrev d8(ws:List (List Nat×List Nat)):List (List Nat):=ws.map Prod.fst++[[],[]]
theorem Dm{ws:List (List Nat×List Nat)}(hw:ws.length≤5)(hW:∀p∈ws,dw p.1 p.2):(d8 ws).flatten.length≤15:=by
 obtain this:=l_ Prod.fst 3 ws fun p hp=>(f9 (hW p hp)).1
 simp only[List.flatten_append,List.length_append];show _+0≤_;exact aE (nat_lit 0xf90908015910313a00102) ae this hw
theorem FU{ws:List (List Nat×List Nat)}(hw:ws.length≤5)(hW:∀p∈ws,dw p.1 p.2):(ws.map Prod.snd).flatten.length≤45:=by
 obtain this:=l_ Prod.snd 9 ws fun p hp=>(f9 (hW p hp)).2
 exact aE (nat_lit 0x2de0015910919a00102) ae this hw
noncomputable abbrev FW(ws:List (List Nat×List Nat)):List Nat:=((ws.map Prod.snd).flatten).take 12
theorem tail_range:∀t:List Nat,tailOf t=((List.range t.length).filter fun b=>gX (t.drop b)).map fun b=>t.drop b
|[]=>rfl|a::t=>by
 simp only[List.length_cons,List.range_succ_eq_map,List.filter_cons];obtain e:((List.range t.length).map Nat.succ).filter (fun b=>gX ((a::t).drop b))=((List.range t.length).filter fun b=>gX (t.drop b)).map Nat.succ:=by refine List.filter_map.trans ?_;rfl
 simp only[e,tailOf.eq_2,List.drop_zero];obtain e2:(((List.range t.length).filter fun b=>gX (t.drop b)).map Nat.succ).map (fun b=>(a::t).drop b)=tailOf t:=by simp only[tail_range t,List.map_map];rfl
 induction gX (a::t) with |true=>rw[if_pos rfl,if_pos rfl,List.map_cons,e2];rfl|false=>rw[if_neg (by simp),if_neg (by simp),e2]
theorem i_(l:List Nat)(b j:Nat):(l.drop b).take (j-b)=(l.take j).drop b:=by rw[List.drop_take]
theorem uc{α:Type}[DecidableEq α]:∀{a b:List α},a.Nodup→(∀x∈a,x∈b)→a.length≤b.length
|[],b,aK,bA=>by simp |x::a,b,h,hs=>by
 obtain hx:=hs x (.head _);obtain this:=uc (a:=a) (b:=b.erase x) (xW h).2 fun y hy=>(List.mem_erase_of_ne (fun e:y=x=>(xW h).1 (by refine e▸?_;exact hy))).mpr (hs y (.tail _ hy))
 rw[List.length_erase_of_mem hx] at this;obtain this:=List.length_pos_of_mem hx;simp only[List.length_cons];omega
set_option tactic.hygienic true in
theorem qu(X:List (List Nat))(hn:X.Nodup)(hl:X.length<64):∃ev:List (List Nat),b8 (X.map aC) (X.map aC)=some (.lst (ev.map aC))∧ev.Perm X∧ev.Pairwise (fun a b=>strLt (sL a) (sL b)=true):=by
 obtain⟨bs,h1,h2,h3⟩:=tX X aC sL (fun s=>V.str s) strLt (fun a c b c=>rfl) iR jV C2 (by
  have :(X.map fun a=>V.str (sL a)).all DP=true:=by rw[List.all_map];exact List.all_eq_true.mpr fun c c=>rfl
  unfold sortable;rw[this];simp) hl
 refine⟨bs,h1,h2,(h3 (·≠·) hn).imp fun h=>?_⟩;rcases h with h|⟨h4,h5⟩
 ·exact h
 ·rename_i a b;induction h6:strLt (sL a) (sL b) with |true=>rfl|false=>exact absurd (kX (kY _ _ h6 h4)) h5
def Dp(l:List Nat):List (List Nat):=(dB l).flatMap fun j=>tailOf (l.take j)
theorem LO{l x:List Nat}:x∈Dp l↔i8 l x:=by exact List.mem_flatMap
def setG(ys:List (List Nat)):List (Str×Int):=ys.foldl (fun d y=>aP d (sL y) (1:Int)) []
def zl(ys:List (List Nat)):List (List Nat):=(setG ys).map fun kv=>kv.1.cps.toList
theorem k6(ys:List (List Nat)):(setG ys).map (·.1)=(zl ys).map sL:=by unfold zl;rw[List.map_map];exact List.map_congr_left fun kv a=>CK kv.1
theorem we(ys:List (List Nat)):(zl ys).Nodup:=by
 obtain key:∀(k:List (List Nat)) (d:List (Str×Int)),(d.map (·.1)).Nodup→((k.foldl (fun d y=>aP d (sL y) (1:Int)) d).map (·.1)).Nodup:=by
  intro k;induction k with |nil=>intro d h;exact h|cons z r ih=>intro d h;exact ih _ (kW _ _ _ h)
 obtain h:((setG ys).map (·.1)).Nodup:=key ys [] (by decide);rw[k6] at h;exact(List.pairwise_map.mp h).imp fun h e=>h (by rw[e])
theorem Dq(ys:List (List Nat))(x:List Nat):x∈zl ys↔x∈ys:=by
 obtain key:∀(k:List (List Nat)) (d:List (Str×Int)),((k.foldl (fun d y=>aP d (sL y) (1:Int)) d).lookup (sL x)).isSome=(decide (x∈k)||(d.lookup (sL x)).isSome):=by
  intro k;induction k with
  |nil=>intro d;rfl|cons z r ih=>
   intro d;simp only[List.foldl_cons,ih,c8,dz];by_cases h1:x∈r
   ·simp[h1]
   ·by_cases h2:x=z
    ·subst h2;simp
    ·simp[h1,h2]
 obtain h1:=key ys [];obtain h2:x∈zl ys↔sL x∈(setG ys).map (·.1):=by rw[k6];exact⟨fun h=>uq ⟨x,h,rfl⟩,fun h=>by obtain⟨y,hy,e⟩:=F9 h;rwa [←kX e]⟩
 refine h2.trans ?_;obtain h3:=cT (setG ys) (sL x);have JI:((setG ys).lookup (sL x)).isSome=decide (x∈ys):=by have :=h1;simp only[List.lookup_nil,Option.isSome_none,Bool.or_false] at this;exact this
 induction hl:(setG ys).lookup (sL x) with
 |none=>
  rw[hl] at JI h3;have :x∉ys:=by simpa using JI
  exact⟨fun h=>absurd h (h3.mp rfl),fun h=>absurd h this⟩
 |some v=>
  rw[hl] at JI h3;have :x∈ys:=by simpa using JI
  exact⟨fun a=>this,fun a=>Decidable.by_contra fun h=>by cases h3.mpr h⟩
theorem gG(l:List Nat)(X:List (List Nat))(hn:X.Nodup)(hm:∀x∈X,i8 l x):X.length≤l.length:=by
 have :=uc (b:=(dB l).map fun j=>lastOf (l.take j)) hn fun x hx=>by obtain⟨j,hj,e⟩:=occ_first (hm x hx);exact uq ⟨j,hj,e⟩
 rw[List.length_map] at this;have hp:(dB l).length=l.length:=by simp[dB]
 exact aQ (nat_lit 5067718365675778) ae this hp
structure lH(l:List Nat)(ev:List (List Nat)):Prop where
 mem:∀x,x∈ev↔i8 l x
 Dc:ev.Pairwise (fun a b=>strLt (sL a) (sL b)=true)
theorem lH.nodup{l:List Nat}{ev:List (List Nat)}(E:lH l ev):ev.Nodup:=E.Dc.imp fun h e=>by subst e;rw[iR] at h;exact bE h
theorem lH.len{l:List Nat}{ev:List (List Nat)}(E:lH l ev):ev.length≤l.length:=gG l ev E.nodup fun x hx=>(E.mem x).mp hx
theorem qw{α:Type}(l:List α)(d:α):(List.range l.length).map (fun i=>l.getD (l.length-1-i) d)=l.reverse:=by
 apply List.ext_getElem (by simp);intro i h1 h2;have :i<l.length:=by simpa using h1
 simp[show l.length-1-i<l.length by exact Ln.go (nat_lit 0x10111192821200102) [_,_,_,0] ae (Nat.sub_le (l.length-1) (i)) (Nat.sub_add_cancel (aE (nat_lit 1206903640321) ae this:1≤l.length))]
section
variable{l:List Nat}{ev O:List (List Nat)}{B:List (Str×St)}
theorem Dr{way:Int}(hw:way=1∨way=-1)(E:lH l ev)(hl:l.length≤12)(K:iH l way B O)(uo:List (List Nat))(VF:uo=if decide (way>0) then ev else ev.reverse):b8 (uo.map fun x=>V.int (-(x.length:Int))) (uo.map aC)=some (.lst (O.map aC)):=by
 obtain RZ:=E.len;obtain hlen:uo.length<64:=by subst VF;split<;>first|exact aE (nat_lit 0x40e011c9101100102) ae RZ hl|(rw[List.length_reverse];exact aE (nat_lit 0x40e011c9101100102) ae RZ hl)
 obtain⟨bs,h1,h2,h3⟩:=tX uo aC (fun x=>-(x.length:Int)) V.int (fun a b=>decide (a<b)) (fun a d b d=>rfl) (by simp) (by intro a b c h k;simp only[decide_eq_true_eq] at *;exact Iz.go (nat_lit 5225989790535938) [] [_,_,_] ae k h) (by intro a b c h k;simp only[decide_eq_false_iff_not] at *;exact Iz.go (nat_lit 0x90961129102d110d103) [] [_,_,_] ae k h) (by
  have :(uo.map fun a=>V.int (-(a.length:Int))).all DO=true:=by rw[List.all_map];exact List.all_eq_true.mpr fun d d=>rfl
  unfold sortable;refine this.symm▸?_;rfl) hlen
 obtain hR:uo.Pairwise (fun a b=>Mj way (sL a) (sL b)=true):=by
  rw[VF];rcases hw with rfl|rfl
  ·skip
   exact E.Dc.imp fun h=>by exact h
  ·rw[if_neg (by decide),List.pairwise_reverse];exact E.Dc.imp fun h=>by exact h
 obtain hb:bs.Pairwise (cA way):=(h3 _ hR).imp fun{a b} h=>by
  rcases h with h|⟨h4,h5⟩
  ·exact .inl (by lia)
  ·by_cases h6:b.length<a.length
   ·exact .inl h6
   ·exact .inr ⟨by lia,h5⟩
 obtain vp:∀x,x∈uo↔x∈ev:=fun x=>by refine VF▸?_;split<;>simp
 obtain hn:O.Nodup:=K.Dc.imp fun{a b} h e=>by subst e;exact iT h h
 obtain ZX:bs.Nodup:=hb.imp fun{a b} h e=>by subst e;exact iT h h
 have :bs=O:=iS (cA way) (fun a b=>iT) (gF ZX hn fun x=>by simp only[h2.mem_iff,vp,E.mem,K.mem]) hb K.Dc;refine this▸?_;exact h1
end
theorem FY(x:List Nat):gX x.reverse=gX x:=by rw[Bool.eq_iff_iff,iO,iO,List.reverse_reverse];exact eq_comm
theorem Ds(l:List Nat)(j:Nat)(hj:j≤l.length):tailOf (l.reverse.take j)=((List.range j).filter fun c=>gX ((l.drop (l.length-j)).take (j-c))).map fun c=>(l.drop (l.length-j)).take (j-c):=by
 obtain hu:(l.drop (l.length-j)).length=j:=by simp;exact gS (nat_lit 0x102530820421383413820123082114) ae (Nat.sub_add_cancel (Ln.go (nat_lit 68737302785) [_,_,0] ae (Nat.sub_le (l.length) (j)):l.length-j≤l.length)) (Ln.aN (l.length) (j)) (Nat.sub_add_cancel (aE (nat_lit 68737302785) ae hj:j≤l.length)) (Ln.aN (l.length) (l.length-j))
 simp only[List.take_reverse,tail_range,List.length_reverse,hu];obtain e:∀c,(l.drop (l.length-j)).reverse.drop c=((l.drop (l.length-j)).take (j-c)).reverse:=fun c=>by rw[List.drop_reverse,hu]
 obtain ef:((List.range j).filter fun b=>gX ((l.drop (l.length-j)).reverse.drop b))=(List.range j).filter fun c=>gX ((l.drop (l.length-j)).take (j-c)):=List.filter_congr fun c a=>by rw[e,FY]
 rw[ef];refine List.map_congr_left fun c hc=>?_
 obtain this:=(zD hc).2;rw[e];exact(iO _).mp this
theorem qx{w x:List Nat}:i8 w x↔(∃p s,w=p++x++s)∧gX x=true∧x≠[]:=by
 constructor
 ·rintro⟨j,hj,hx⟩;obtain⟨h1,h2⟩:=bP.mp hx;obtain⟨⟨p,hp⟩,h3⟩:=bz.mp h1;exact⟨⟨p,w.drop j,by simp only[hp,List.take_append_drop]⟩,h3,h2⟩
 ·rintro⟨⟨p,s,rfl⟩,h2,h3⟩;refine⟨(p++x).length,dD.mpr ⟨?_,by simp⟩,bP.mpr ⟨bz.mpr ⟨?_,h2⟩,h3⟩⟩
  ·obtain this:=List.length_pos_iff.mpr h3;simp;exact aE (nat_lit 423930721014017) ae this
  ·rw[List.take_left']
   ·exact⟨p,rfl⟩
   ·rfl
theorem FZ{w x:List Nat}:i8 w.reverse x↔i8 w x:=by
 have key:∀w:List Nat,i8 w x→i8 w.reverse x:=fun w h=>by obtain⟨⟨p,s,hp⟩,h2,h3⟩:=qx.mp h;refine qx.mpr ⟨⟨s.reverse,p.reverse,?_⟩,h2,h3⟩;simp only[hp,List.reverse_append,List.reverse_append,(iO x).mp h2,List.append_assoc]
 exact⟨fun h=>by have :=key _ h;rwa [List.reverse_reverse] at this,key w⟩
abbrev o6:Scope:=tH 20
abbrev lS(i:Nat):Stmt:=bD (bd 20) i
abbrev LX(d:Nat)(i:Nat)(env:af)(H:AH)(fl:Fl)(aj:af)(H':AH):Prop:=gU (d+8) o6 env (lS i) H fl aj H'
abbrev W8(ns:List Int):af:=[(T "script",.lst (ns.map .int))]
noncomputable abbrev lQ(c0 c1 c2 c3 c4 c5 c6:Int):List Int:=[c0,c1,c2,c3,c4,c5,c6]
abbrev W9(ns cs:List Int):af:=[(T "script",.lst (ns.map .int)),(T "cells",.lst (cs.map .int))]
abbrev Mm(ns cs:List Int)(cnt:Nat)(way:Int):af:=[(T "script",.lst (ns.map .int)),(T "cells",.lst (cs.map .int)),(T "count",.int cnt),(T "way",.int way)]
abbrev zB(p:List Nat×List Nat):V:=.tup [aC p.1,aC p.2]
abbrev W_(ns cs:List Int)(cnt:Nat)(way:Int)(ws:List (List Nat×List Nat)):af:=Mm ns cs cnt way++[(T "drawn",.lst (ws.map zB))]
noncomputable abbrev qy(cnt e:Nat):V:=.lst (List.replicate (cnt-1) (.int 0)++[.int e])
abbrev Xa(ns cs:List Int)(cnt:Nat)(way:Int)(ws:List (List Nat×List Nat))(e:Nat):af:=Mm ns cs cnt way++[(T "drawn",.lst (ws.map zB)),(T "ends",qy cnt e)]
abbrev Xb(ns cs:List Int)(cnt:Nat)(way:Int)(ws:List (List Nat×List Nat))(e:Nat)(t:List Nat):af:=Mm ns cs cnt way++[(T "drawn",.lst (ws.map zB)),(T "ends",qy cnt e),(T "text",aC t)]
section
variable{d:Nat}{H:AH}{ns cs:List Int}{c0 c1 c2 c3 c4 c5 c6 way:Int}{cnt e:Nat}{ws:List (List Nat×List Nat)}
theorem oE{l:List Int}{n:Nat}(h:l.length=n+1):∃a r,l=a::r∧r.length=n:=by
 induction l with |nil=>exact nomatch h|cons a r=>exact⟨a,r,rfl,Nat.succ.inj h⟩
theorem QL{l:List Int}(h:l.length=7):∃a b c d e f g,l=[a,b,c,d,e,f,g]:=(oE h).elim fun a z=>z.elim fun i h0=>(oE h0.2).elim fun b z=>z.elim fun i h1=>(oE h1.2).elim fun c z=>z.elim fun i h2=>(oE h2.2).elim fun d z=>z.elim fun i h3=>(oE h3.2).elim fun e z=>z.elim fun i h4=>(oE h4.2).elim fun f z=>z.elim fun i h5=>(oE h5.2).elim fun g z=>z.elim fun i h6=>⟨a,b,c,d,e,f,g,by rw[h0.1,h1.1,h2.1,h3.1,h4.1,h5.1,h6.1,List.length_eq_zero_iff.mp h6.2]⟩
theorem VG:∃c0 c1 c2 c3 c4 c5 c6:Int,LX d 0 (W8 ns) H .next (W9 ns (lQ c0 c1 c2 c3 c4 c5 c6)) (H++[.gone]):=by obtain⟨cs,hl,hc⟩:=Co (d:=d+6) (ns:=ns) (m:=7) (k:=H.length) (H:=H++[.gone]) (cs:=[531,470,843,10347,7087,4,1262881]) (by exact List.length_append▸(Nat.lt_succ_self _)) (Nat.succ_pos _) (by simp_all) rfl;simp only[cN,cN] at hc;obtain⟨c0,c1,c2,c3,c4,c5,c6,rfl⟩:=QL hl;exact⟨c0,c1,c2,c3,c4,c5,c6,bK (.call hc .nil) (by kernel_rfl)⟩
theorem QM(a b:Int)(h:(small a&&small b)=true):binop .Mult (.int a) (.int b)=some (.int (a* b)):=by show(if small a&&small b then some (V.int (a* b)) else none)=_;refine h.symm▸?_;rfl
theorem VH:∃(cnt:Nat) (way:Int),3≤cnt∧cnt≤5∧(way=1∨way=-1)∧LX d 1 (W9 ns (lQ c0 c1 c2 c3 c4 c5 c6)) H .next (Mm ns (lQ c0 c1 c2 c3 c4 c5 c6) cnt way) H:=by
 obtain h0:0≤c5.fmod 3:=Int.fmod_nonneg_of_pos _ (by decide);obtain h3:c5.fmod 3<3:=Int.fmod_lt_of_pos _ (by decide);obtain w0:0≤(c5.fdiv 3).fmod 2:=Int.fmod_nonneg_of_pos _ (by decide);obtain w2:(c5.fdiv 3).fmod 2<2:=Int.fmod_lt_of_pos _ (by decide);refine⟨(c5.fmod 3+3).toNat,1-(c5.fdiv 3).fmod 2* 2,D0 (nat_lit 0x390100981390807b102) ae (Int.toNat_of_nonneg (wV (nat_lit 0x390809810098101) ae h0)) h0,D0 (nat_lit 0x5900139091390807a102) ae (Int.toNat_of_nonneg (wV (nat_lit 0x390809810098101) ae h0)) h3,by omega,?_⟩;obtain a:binop .Add (.int (c5.fmod 3)) (.int 3)=some (.int ((c5.fmod 3+3).toNat:Nat)):=by rw[Int.toNat_of_nonneg (by exact wV (nat_lit 0x390809810098101) ae h0)];rfl
 obtain m:=QM ((c5.fdiv 3).fmod 2) 2 (by rw[Bool.and_eq_true];exact⟨decide_eq_true (by omega),by kernel_rfl⟩);exact bK (.val 3 a (.val 8 m .nil)) (by kernel_rfl)
abbrev Xc:Expr:=jn (lS 2)
theorem xR{X:AH}{xs:List V}{i:Int}{k:Nat}{v:V}(e:i=k)(h:xs[k]?=some v)(hn:xs.length<2^60):item X (.lst xs) (.int i)=some v:=e▸n8 h hn
theorem xS(hc:cs.length<100):∀(is:List Nat) (vs:List V),(∀i∈is,i<cs.length)→vs.length+is.length<200→∃ws:List (List Nat×List Nat),ws.length=is.length∧(∀p∈ws,dw p.1 p.2)∧
  dJ (d+8) Xc (is.map fun(i:Nat)=>.int (0+(i:Int))) [(T "cells",.lst (cs.map .int))] (.l vs) H (.l (vs++ws.map zB)) H
 |[],vs,aK,bA=>⟨[],rfl,(fun a h=>nomatch h),by rw[show vs++([]:List (List Nat×List Nat)).map zB=vs from List.append_nil vs];exact .nil⟩|i::is,vs,hi,hz=>by
  simp only[List.length_cons] at hz;obtain ZY:=hi i (.head _);obtain⟨raw,fold,W,q⟩:=Fw (d:=d+6) (H:=H) cs[i];refine(xS hc is (vs++[zB (raw,fold)]) (fun j h=>hi j (.tail _ h)) (by rw[List.length_append];show vs.length+1+_<_;exact aE (nat_lit 0xc8e11908811c8e1918081101) ae hz)).elim fun ws VI=>?_;obtain hl:=VI.1;obtain hW:=VI.2.1;obtain lp:=VI.2.2
  obtain it:=xR (X:=H) (xs:=cs.map V.int) (i:=0+(i:Int)) (k:=i) (v:=.int cs[i]) (Int.zero_add _) (by simp only[List.getElem?_map,List.getElem?_eq_getElem ZY];rfl) (by rw[List.length_map];exact aV (nat_lit 0x1000000000000000100f01164e01101) ae hc);refine⟨(raw,fold)::ws,congrArg (·+1) hl,fun p hp=>(bM hp).elim (fun e=>e▸W) (hW p),?_⟩;obtain tn:Mf (d+8) Xc (.int (0+(i:Int))) [(T "cells",.lst (cs.map .int))] (.l vs) H (.l (vs++[zB (raw,fold)])) H:=a_ [T "cells"] (.val 3 it (.call q (.no 4 (bj (show vs.length+1<ai by unfold ai;exact aE (nat_lit 0x1000006f190811c8e1918081101) ae hz)) .nil))) (by kernel_rfl);rw[List.append_assoc] at lp;exact tn.go lp
theorem VJ(Ht:cs.length=7)(h:cnt≤5):∃ws:List (List Nat×List Nat),ws.length=cnt∧(∀p∈ws,dw p.1 p.2)∧LX d 2 (Mm ns cs cnt way) H .next (W_ ns cs cnt way ws) H:=by
 refine(xS (d:=d) (H:=H) (cs:=cs) (by simp_all) (List.range cnt) [] (fun i hi=>by have :=ur hi;exact aQ (nat_lit 0x20117923159101101103) ae this h Ht) (by simp only[List.length_range,List.length_nil];exact aV (nat_lit 0xc8e0098115900101) ae h)).elim fun ws OE=>?_;obtain hl:=OE.1;obtain hW:=OE.2.1;obtain lp:=OE.2.2
 rw[List.length_range] at hl;exact⟨ws,hl,hW,bK (.upd 2 (gC cnt H (aV (nat_lit 0x1000000000000000100f0115900101) ae h)) (.cmp lp .nil)) (by kernel_rfl)⟩
theorem VK(h3:3≤cnt)(h5:cnt≤5):∃e,e<3∧LX d 3 (W_ ns (lQ c0 c1 c2 c3 c4 c5 c6) cnt way ws) H .next (Xa ns (lQ c0 c1 c2 c3 c4 c5 c6) cnt way ws e) H:=by
 obtain h0:0≤(c6.fdiv (16^5)).fmod 3:=Int.fmod_nonneg_of_pos _ (by decide);obtain h2:(c6.fdiv (16^5)).fmod 3<3:=Int.fmod_lt_of_pos _ (by decide);refine⟨((c6.fdiv (16^5)).fmod 3).toNat,D0 (nat_lit 0x3901139091007a102) ae (Int.toNat_of_nonneg (wV (nat_lit 653104087297) ae h0)) h2,?_⟩;obtain sb:binop .Sub (.int cnt) (.int 1)=some (.int ((cnt-1:Nat):Int)):=by rw[show((cnt-1:Nat):Int)=(cnt:Int)-1 by exact DA (nat_lit 0x1917c07a51908104119082112) ae (Nat.sub_add_cancel (aV (nat_lit 1718259089665) ae h3:1≤cnt)) (Ln.aN (cnt) (1))];rfl
 obtain m:=oj (cnt-1) (.int 0) (aE (nat_lit 0x3e83f11159001010102) ae (Nat.sub_le (cnt) (1)) h5);obtain md:binop .Mod (.int (c6.fdiv (16^5))) (.int 3)=some (.int (((c6.fdiv (16^5)).fmod 3).toNat:Nat)):=by rw[Int.toNat_of_nonneg h0];rfl
 obtain ad:=CU (a:=List.replicate (cnt-1) (.int 0)) (b:=[.int (((c6.fdiv (16^5)).fmod 3).toNat:Nat)]) (by rw[List.length_replicate];show _+1<_;omega);exact bK (.val 1 sb (.val 2 m (.val 7 md (.val 8 ad .nil)))) (by kernel_rfl)
end
abbrev QN(s:Stmt):Expr:=EY s
abbrev QO(e:Expr)(i:Nat):Expr:=rC e i
abbrev LP(e:Expr):Expr:=rC e 1
abbrev Xd:Expr:=jQ (jn (lS 4)) 0
section
variable{d:Nat}{H X:AH}{ns cs:List Int}{c0 c1 c2 c3 c4 c5 c6 way:Int}{cnt e:Nat}{ws:List (List Nat×List Nat)}{t:List Nat}
abbrev QS(c6:Int)(e cnt:Nat)(p:Nat×(List Nat×List Nat)):List Nat:=xD p.2.1 (c6.fdiv (16^p.1)) (if p.1+1=cnt then e else 0)
theorem F0(h5:cnt≤5)(hw:ws.length=cnt)(hW:∀p∈ws,dw p.1 p.2)(he:e<3)(p:Nat×(List Nat×List Nat))(hp:p∈idxG 0 ws)(vs:List V)(hz:vs.length+1<ai):Mf (d+8) Xd (.tup [.int (p.1:Int),zB p.2]) [(T "cells",.lst ((lQ c0 c1 c2 c3 c4 c5 c6).map .int)),(T "ends",qy cnt e)] (.l vs) H (.l (vs++[aC (QS c6 e cnt p)])) H:=by
 obtain z1:=oA hp;obtain hm:=z1.2.2.1;obtain VL:=(f9 (hW _ hm)).1;obtain BK:(if p.1+1=cnt then e else 0)<3:=by split<;>(first|exact aV (nat_lit 62676785959169) ae he|exact Ln.go (nat_lit 956895488) [] ae)
 obtain ZZ:=vU (d:=d+6) (H:=H) (raw:=p.2.1) (way:=c6.fdiv (16^p.1)) BK (aV (nat_lit 0x3e83f0113900101) ae VL);obtain Xe:p.1=0∨p.1=1∨p.1=2∨p.1=3∨p.1=4:=by lia
 obtain pw:binop .Pow (.int 16) (.int (p.1:Int))=some (.int (16^p.1)):=by rcases Xe with h|h|h|h|h<;>rw[h]<;>kernel_rfl
 obtain dv:binop .FloorDiv (.int c6) (.int (16^p.1))=some (.int (c6.fdiv (16^p.1))):=by rcases Xe with h|h|h|h|h<;>rw[h]<;>kernel_rfl
 obtain en:item H (qy cnt e) (.int (p.1:Int))=some (.int ((if p.1+1=cnt then e else 0:Nat):Int)):=by
  refine n8 ?_ (by rw[List.length_append,List.length_replicate];show _+1<_;lia);by_cases hl:p.1+1=cnt
  ·rw[if_pos hl,List.getElem?_append_right (by rw[List.length_replicate];exact aQ (nat_lit 0x2011190831119282102) ae (Nat.sub_add_cancel (aE (nat_lit 4943477712888065) ae hl:1≤cnt)) hl),List.length_replicate,show p.1-(cnt-1)=0 by omega];rfl
  ·rw[if_neg hl,List.getElem?_append_left (by rw[List.length_replicate];exact Ln.go (nat_lit 0x20111928101119081102) [p.fst,cnt,cnt-1] ae (Nat.lt_of_le_of_ne (aQ (nat_lit 0x21908012121109801102) ae z1.2.1 hw) hl) (Ln.aN (cnt) (1))),List.getElem?_replicate_of_lt (by exact Ln.go (nat_lit 0x20111928101119081102) [p.fst,cnt,cnt-1] ae (Nat.lt_of_le_of_ne (aQ (nat_lit 0x21908012121109801102) ae z1.2.1 hw) hl) (Ln.aN (cnt) (1)))];rfl
 exact a_ [T "cells",T "ends"] (.val 6 pw (.val 7 dv (.val 10 en (.call ZZ (.no 11 (bj hz) .nil))))) (by kernel_rfl)
theorem VM(h3:3≤cnt)(h5:cnt≤5)(hw:ws.length=cnt)(hW:∀p∈ws,dw p.1 p.2)(he:e<3):LX d 4 (Xa ns (lQ c0 c1 c2 c3 c4 c5 c6) cnt way ws e) H .next (Xb ns (lQ c0 c1 c2 c3 c4 c5 c6) cnt way ws e (txtL (Ml ws c6) e)) H:=by
 obtain lp:dJ (d+8) Xd (bw ((0:Nat):Int) (ws.map zB)) [(T "cells",.lst ((lQ c0 c1 c2 c3 c4 c5 c6).map .int)),(T "ends",qy cnt e)] (.l []) H (.l (((idxG 0 ws).map (QS c6 e cnt)).map aC)) H:=by simp only[qq,List.map_map];exact aG.all _ _ (idxG 0 ws) (by rw[iI];unfold ai;exact aE (nat_lit 0x1000006f01159101102102) ae hw h5) fun p hp vs hz=>F0 h5 hw hW he p hp vs hz
 obtain fl:=ua c6 e cnt ws 0 (fun h=>by rw[h] at hw;exact absurd hw (by show ¬0=cnt;exact aV (nat_lit 0x90961009310390102) ae h3)) (aE (nat_lit 282128433554705) ae hw);obtain j:=kU (H:=H) (l:=(idxG 0 ws).map (QS c6 e cnt)) (by rw[show((idxG 0 ws).map (QS c6 e cnt)).flatten=_ from fl];exact Nat.lt_trans (xQ (by simp_all) hW) (by simp_all));rw[show((idxG 0 ws).map (QS c6 e cnt)).flatten=_ from fl] at j;exact bK (.cmp lp (.upd 2 j .nil)) (by kernel_rfl)
abbrev Mn(ns cs:List Int)(cnt:Nat)(way:Int)(ws:List (List Nat×List Nat))(e:Nat)(t:List Nat)(a:Lx)(kT:Nat):af:=Mm ns cs cnt way++[(T "drawn",.lst (ws.map zB)),(T "ends",qy cnt e),(T "text",aC t),(T "lexer",.ref a.k),(T "signs",.ref a.kS),(T "tokens",.ref kT)]
theorem VN(ht:t.length<1000)(hc:cnt≤5):∃(a:Lx) (kT:Nat) (B:AH),i7 a B kT∧LX d 5 (Xb ns cs cnt way ws e t) H .next (Mn ns cs cnt way ws e t a kT) (uh a kT (1+cJ t) B (lexN (cnt+2) t).1 (lexN (cnt+2) t).2):=by
 refine(Cv (d:=d) (H:=H) (l:=t) (cnt+2) (aV (nat_lit 0x3e83f2908115900101) ae hc) (aV (nat_lit 0x1000006f2908113e83f01101) ae ht)).elim fun a L6=>?_;refine L6.elim fun kT zw=>?_;refine zw.elim fun B J9=>?_;obtain hT:=J9.1;obtain q:=J9.2.2.2
 obtain ad:binop .Add (.int cnt) (.int 2)=some (.int ((cnt+2:Nat):Int)):=by rfl
 exact⟨a,kT,B,hT,bK (.val 3 ad (.call q .nil)) (by kernel_rfl)⟩
theorem d9{a b:V}(h:f_ bg X a b=some true):dK X .NotEq a b=some (.bool false):=by show(f_ bg X a b).map (fun r=>V.bool !r)=_;rw[h];rfl
theorem eq_true{a b:V}(h:f_ bg X a b=some true):dK X .Eq a b=some (.bool true):=by show(f_ bg X a b).map V.bool=_;rw[h];rfl
theorem ud{k:Nat}{xs ys:List V}(h:X[k]?=some (.lst xs)):f_ bg X (.ref k) (.lst ys)=f_ bg X (.lst xs) (.lst ys):=congrArg (fun v=>alt (eg v fun xs=>eg (V.lst ys) fun ys=>bif xs.length==ys.length then gZ (f_ 9 X) xs ys else some false) (gH v fun kx=>gH (V.lst ys) fun ky=>bif kx.length==ky.length then veqd (f_ 9 X) ky kx else some false)) (l0 h)
theorem Dt(x:List Nat):mC (sL x) (T "count") [.str (T "\n")] X=some (.int (cJ x),X):=by
 obtain e:∀o,rY (T "\n")=o→mC (sL x) (T "count") [.str (T "\n")] X=(match o with |some c=>pure (V.int (mq c (sL x)))|none=>M.fail:M V) X:=fun o h=>by cases h;kernel_rfl
 show some (V.int (mq 10 (sL x)),X)=_;rfl
theorem VO{a:Lx}{kT:Nat}{B:AH}(hw:ws.length≤5)(hT:i7 a B kT):LX d 6 (Mn ns cs cnt way ws e t a kT) (uh a kT (1+cJ t) B (d8 ws) []) .next (Mn ns cs cnt way ws e t a kT) (uh a kT (1+cJ t) B (d8 ws) []):=by
 let X:AH:=uh a kT (1+cJ t) B (d8 ws) [];obtain ok:=hT.ok.Cc (o:=.lst ((d8 ws).map aC)) hT.n4;obtain kt:X[kT]?=some (.lst ((d8 ws).map aC)):=(Lx.Cg hT.n1 hT.n2 hT.n3).trans (List.getElem?_set_self hT.lt);obtain ks:X[a.kS]?=some (.lst []):=ok.signs;obtain kl:X[a.k]?=some (kP (1+cJ t-cJ []) a.ks a.kp):=ok.self;obtain lp:dJ (d+8) (Qx (LP (QO (QN (lS 6)) 0))) (ws.map zB) [] (.l []) X (.l ((ws.map Prod.fst).map aC)) X:=by rw[List.map_map];exact aG.all _ _ ws (by unfold ai;exact aV (nat_lit 0x1000006f0115900101) ae hw) fun p hp vs hz=>a_ [] (.no 2 (bj hz) .nil) (by kernel_rfl)
 obtain ad:=CU (a:=(ws.map Prod.fst).map aC) (b:=[.str (T ""),.str (T "")]) (by rw[List.length_map,List.length_map];show _+2<_;exact aV (nat_lit 0x1000006f2908115900101) ae hw);obtain n1:dK X .NotEq (.ref kT) (.lst ((ws.map Prod.fst).map aC++[.str (T ""),.str (T "")]))=some (.bool false):=by exact(show(ws.map Prod.fst).map aC++[V.str (T ""),.str (T "")]=(d8 ws).map aC by simp only[List.map_append];rfl)▸(d9 ((ud kt).trans (f7 _)))
 obtain n2:dK X .NotEq (.ref a.kS) (.lst [])=some (.bool false):=d9 ((ud ks).trans rfl);obtain n3:dK X .NotEq (.int (1+cJ t-cJ [])) (.int (cJ t+1))=some (.bool false):=d9 (by show some (1+cJ t-cJ []==cJ t+1)=_;simp only[show 1+cJ t-cJ []=cJ t+1 by show 1+cJ t-0=_;exact wV (nat_lit 0x1908090198ca510) ae,beq_self_eq_true]);exact bK (.cmp lp (.val 2 ad (.val 3 n1 (.val 6 n2 (.obj kl (.upd 11 (Dt (X:=X) t) (.val 13 n3 .nil))))))) (by kernel_rfl)
end
section
variable{d:Nat}{H X:AH}{ns cs:List Int}{way:Int}{cnt e:Nat}{ws:List (List Nat×List Nat)}{t:List Nat}{a:Lx}{kT:Nat}{B:AH}
theorem aG.skip{au:Scope}{g:Comprehension}{Tl:jm}{α:Type}{env:af}(enc:α→V):∀(xs:List α),(∀x∈xs,gR d au g Tl (enc x) env (.l []) H env (.l []) H)→aG d au g Tl (xs.map enc) env (.l []) H env (.l []) H|[],aK=>.nil|x::xs,h=>(h x (.head _)).go (aG.skip enc xs fun y hy=>h y (.tail _ hy))
theorem joinR{k:Nat}{l:List (List Nat)}(hk:X[k]?=some (.lst (l.map aC)))(h:l.flatten.length<2^20):mC (T "") (T "join") [.ref k] X=some (.str (sL l.flatten),X):=by exact(show pg (T "") (.ref k) X=pg (T "") (.lst (l.map aC)) X by unfold pg;rw[l0 hk];rfl).trans (kU h)
abbrev QT(J:List Nat):V:=.lst (J.map fun(c:Nat)=>.bool (cH.contains (c:Int)))
abbrev Xf(ns cs:List Int)(cnt:Nat)(way:Int)(ws:List (List Nat×List Nat))(e:Nat)(t:List Nat)(a:Lx)(kT:Nat):af:=Mn ns cs cnt way ws e t a kT++[(T "flags",QT (d8 ws).flatten)]
abbrev Z1:Expr:=jn (lS 7)
theorem VP(hw:ws.length≤5)(hW:∀p∈ws,dw p.1 p.2)(kt:X[kT]?=some (.lst ((d8 ws).map aC))):LX d 7 (Mn ns cs cnt way ws e t a kT) X .next (Xf ns cs cnt way ws e t a kT) X:=by
 obtain hl:=Dm hw hW;obtain j:=joinR kt (by exact aV (nat_lit 0x1000006f011f900101) ae hl);obtain lp:dJ (d+8) Z1 ((d8 ws).flatten.map cY) [] (.l []) X (.l ((d8 ws).flatten.map fun(c:Nat)=>.bool (cH.contains (c:Int)))) X:=aG.all cY _ _ (by unfold ai;exact aV (nat_lit 0x1000006f011f900101) ae hl) fun c b vs hz=>a_ [] (.call (H7 (d:=d+6) c X) (.no 2 (bj hz) .nil)) (by kernel_rfl)
 exact bK (.upd 1 j (.cmp lp .nil)) (by kernel_rfl)
abbrev VQ(ws:List (List Nat×List Nat)):V:=.lst (ws.map fun p=>aC p.2)
abbrev Mp(ns cs:List Int)(cnt:Nat)(way:Int)(ws:List (List Nat×List Nat))(e:Nat)(t:List Nat)(a:Lx)(kT:Nat):af:=Mn ns cs cnt way ws e t a kT++[(T "flags",QT (d8 ws).flatten),(T "names",VQ ws)]
abbrev Xg:Expr:=jn (lS 8)
abbrev VR(e:Expr):Expr:=rC e 0
abbrev Z2:Expr:=jQ (VR Xg) 0
theorem F1{raw fold:List Nat}(W:dw raw fold):dJ (d+8) Z2 (raw.map cY) [] (.l []) X (.l ((raw.filter fun(c:Nat)=>!cH.contains (c:Int)).map fun c=>.str (lE c))) X:=by
 obtain hl:=(f9 W).1;refine aG.pick cY (fun c=>.str (lE c)) (fun(c:Nat)=>!cH.contains (c:Int)) raw [] (by rw[List.length_nil];unfold ai;exact aV (nat_lit 0x1000006f0098113900101) ae hl) fun c a vs hz=>?_
 obtain q:=H7 (d:=d+6) c X;induction hb:cH.contains (c:Int) with |true=>rw[hb] at q;exact a_ [] (.call q .nil) (by kernel_rfl)|false=>rw[hb] at q;exact a_ [] (.call q (.call (Qf (d:=d+6) c X) (.no 5 (bj hz) .nil))) (by kernel_rfl)
theorem wg{k:Nat}{xs:List V}{lo hi:Option Int}(h:X[k]?=some (.lst xs)):slice X (.ref k) lo hi=some (.lst (cut xs lo hi)):=by unfold slice;rw[l0 h]
theorem VS(hw:ws.length≤5)(hc:ws.length=cnt)(hW:∀p∈ws,dw p.1 p.2)(kt:X[kT]?=some (.lst ((d8 ws).map aC))):LX d 8 (Xf ns cs cnt way ws e t a kT) X .next (Mp ns cs cnt way ws e t a kT) X:=by
 obtain sl:=wg (lo:=none) (hi:=some (cnt:Int)) kt;rw[t_,←List.map_take,List.take_append_of_le_length (by rw[List.length_map,hc];exact Nat.le_refl _),List.take_of_length_le (by rw[List.length_map,hc];exact Nat.le_refl _),List.map_map] at sl;obtain lp:dJ (d+8) Xg (ws.map (aC∘Prod.fst)) [] (.l []) X (.l (ws.map fun p=>aC p.2)) X:=aG.all _ _ ws (by unfold ai;exact aV (nat_lit 0x1000006f0115900101) ae hw) fun p hp vs hz=>by
  obtain W:=hW p hp;obtain j:mC (T "") (T "join") [.lst ((p.1.filter fun(c:Nat)=>!cH.contains (c:Int)).map fun c=>.str (lE c))] X=some (.str (sL p.2),X):=by
   refine(wd W).elim fun fs z=>z.elim fun e1 e2=>?_
   rw[e1,←e2];exact kU (by refine e2▸?_;obtain this:=(f9 W).2;exact aV (nat_lit 0x1000006f0119900101) ae this)
  obtain ni:=F1 (d:=d) (X:=X) W;exact a_ [] (.cmp ni (.upd 1 j (.no 2 (bj hz) .nil))) (by kernel_rfl)
 exact bK (.val 2 sl (.cmp lp .nil)) (by kernel_rfl)
theorem VT(hw:ws.length≤5):LX d 9 (Mp ns cs cnt way ws e t a kT) X .next (Mp ns cs cnt way ws e t a kT) X:=by
 obtain l1:dJ (d+8) (LP (QO (QN (lS 9)) 0)) (ws.map zB) [] (.l []) X (.l (ws.map fun p=>aC p.2)) X:=aG.all _ _ ws (by unfold ai;exact aV (nat_lit 0x1000006f0115900101) ae hw) fun p hp vs hz=>a_ [] (.no 2 (bj hz) .nil) (by kernel_rfl)
 have n1:dK X .NotEq (VQ ws) (VQ ws)=some (.bool false):=d9 (by obtain this:=f7 (H:=X) (ws.map Prod.snd);obtain this:=List.map_map▸this;exact this);have l2:dJ (d+8) (Fb (QO (QN (lS 9)) 1)) ((d8 ws).flatten.map fun(c:Nat)=>.bool (cH.contains (c:Int))) [] (.l []) X (.l []) X:=aG.skip _ _ fun c b=>by induction cH.contains (c:Int)<;>exact a_ [] .nil (by kernel_rfl)
 exact bK (.cmp l1 (.val 2 n1 (.cmp l2 .nil))) (by kernel_rfl)
abbrev mE(cs:List Int)(k:Nat)(way:Int)(l:List Nat):af:=[(T "cells",.lst (cs.map .int)),(T "way",.int way),(T "lexer",.ref k),(T "letters",aC l)]
theorem xT{l:List Nat}{lo hi:Option Int}:slice X (aC l) lo hi=some (aC (cut l lo hi)):=rfl
theorem QU(hw:ws.length≤5)(hW:∀p∈ws,dw p.1 p.2):LX d 10 (Mp ns cs cnt way ws e t a kT) X .next (mE cs a.k way (FW ws)) X:=by obtain hl:=FU hw hW;obtain j:=kU (H:=X) (l:=ws.map Prod.snd) (aV (nat_lit 0x1000006f0112de00101) ae hl);rw[List.map_map] at j;obtain sl:=xT (X:=X) (l:=(ws.map Prod.snd).flatten) (lo:=none) (hi:=some ((12:Nat):Int));rw[t_] at sl;obtain q:LX d 10 (Mp ns cs cnt way ws e t a kT) X .next (Mp ns cs cnt way ws e t a kT++[(T "letters",aC (FW ws))]) X:=bK (.upd 1 j (.val 2 sl .nil)) (by kernel_rfl);obtain q:=q.keep (ks:=[T "cells",T "way",T "lexer",T "letters"]) (by kernel_rfl);exact q
end
section
variable{d:Nat}{X:AH}{cs:List Int}{way:Int}{k:Nat}{l:List Nat}
theorem xU:((List.range (((((sL l).length:Nat):Int)+1)-1).toNat).map fun(i:Nat)=>V.int (1+(i:Int)))=(dB l).map fun(j:Nat)=>V.int j:=by rw[Int.add_sub_cancel];unfold dB;simp only[List.range'_eq_map_range,List.map_map];exact List.map_congr_left fun i a=>congrArg V.int (Int.natCast_add 1 i).symm
abbrev Xh:Expr:=jn (lS 11)
abbrev Z3:Expr:=VR Xh
theorem slice_N(a b:Nat){i:Int}(h:i=a){j:Int}(h2:j=b):slice X (aC l) (some i) (some j)=some (aC ((l.drop a).take (b-a))):=by simp only[h,h2,xT,FP]
theorem F2(hl:l.length≤12)(j:Nat)(hj:j≤12):dJ (d+8) Z3 ((List.range j).map fun(b:Nat)=>.int (0+(b:Int))) [(T "end",.int j),(T "letters",aC l)] (.l []) X (.l (((List.range j).filter fun b=>gX ((l.drop b).take (j-b))).map fun b=>aC ((l.drop b).take (j-b)))) X:=by
 refine aG.pick _ _ (fun b=>gX ((l.drop b).take (j-b))) (List.range j) [] (by simp only[List.length_range,List.length_nil];unfold ai;exact aV (nat_lit 0x1000006f009811c900101) ae hj) fun b hb vs hz=>?_
 obtain sl:=slice_N (X:=X) (l:=l) b j (i:=0+(b:Int)) (Int.zero_add _) rfl;obtain q:aD (d+8) (.fn 200) [aC ((l.drop b).take (j-b))] X (.bool (gX ((l.drop b).take (j-b)))) X:=Cm (d:=d+6) _ X (by simp only[List.length_take,List.length_drop];exact Ln.go (nat_lit 0x800005f111c90010201210103) [_,_,_,0] ae (Nat.min_le_left (j-b) (l.length-b)) (Nat.sub_le (j) (b)) hj);induction hp:gX ((l.drop b).take (j-b)) with |true=>rw[hp] at q;exact a_ [T "end",T "letters"] (.val 4 sl (.call q (.val 9 sl (.no 10 (bj hz) .nil)))) (by kernel_rfl)|false=>rw[hp] at q;exact a_ [T "end",T "letters"] (.val 4 sl (.call q .nil)) (by kernel_rfl)
theorem Du{j:Nat}(hj:j≤l.length):ez (l.take j)=.lst (((List.range j).filter fun b=>gX ((l.drop b).take (j-b))).map fun b=>aC ((l.drop b).take (j-b))):=by
 unfold ez;simp only[tail_range,List.length_take,Nat.min_eq_left hj,List.map_map];obtain e:∀b,(l.take j).drop b=(l.drop b).take (j-b):=fun b=>(i_ l b j).symm
 exact(show(fun b=>gX ((l.take j).drop b))=fun b=>gX ((l.drop b).take (j-b)) from funext fun b=>by rw[e])▸(congrArg V.lst (List.map_congr_left fun b a=>congrArg aC (e b)))
abbrev Xi(cs:List Int)(k:Nat)(way:Int)(l:List Nat):af:=[(T "cells",.lst (cs.map .int)),(T "way",.int way),(T "lexer",.ref k),(T "letters",aC l),(T "tails",eZ l)]
theorem QV(hl:l.length≤12):LX d 11 (mE cs k way l) X .next (Xi cs k way l) X:=by
 obtain lp:dJ (d+8) Xh ((dB l).map fun(j:Nat)=>.int j) [(T "letters",aC l)] (.l []) X (.l ((dB l).map fun j=>ez (l.take j))) X:=aG.all _ _ (dB l) (by rw[iU];unfold ai;exact aV (nat_lit 0x1000006f011c900101) ae hl) fun j hj vs hz=>by obtain rR:=(dD.mp hj).2;obtain ti:=F2 (d:=d) (X:=X) hl j (aE (nat_lit 0xc9001c9101100102) ae rR hl);refine(Du rR)▸?_;exact a_ [T "letters"] (.upd 2 (gC j X (aE (nat_lit 0x1000000000000000100f011c9101100102) ae rR hl)) (.cmp ti (.no 3 (bj hz) .nil))) (by kernel_rfl)
 obtain lp:=(xU).symm▸lp;exact bK (.upd 5 (ou (sL l).length X (by rw[cR];exact aV (nat_lit 0x800000000000000ff011c900101) ae hl)) (.cmp lp .nil)) (by kernel_rfl)
abbrev DK:Expr:=jQ (jn (lS 12)) 0
def wh(s:List (Str×Int))(y:List Nat):List (Str×Int):=aP s (sL y) 1
theorem ue:∀(ys:List (List Nat)) (s:List (Str×Int)),(ys.foldl wh s).length≤s.length+ys.length|[],s=>Nat.le_refl _|y::ys,s=>Nat.le_trans (ue ys _) (by have :=cC s (sL y) (1:Int);unfold wh;rw[List.length_cons];exact aQ (nat_lit 0x19281820801191800101) ae this)
theorem QW{tv:V}(ys:List (List Nat))(s:List (Str×Int))(hz:s.length+ys.length<1000):aG (d+8) (H8 DK) ((Ck DK).tail.headD default) (eu (d+8) (H8 DK) (RO DK) []) (ys.map aC) [(T "tail",tv)] (.d (aq V.int s)) X [(T "tail",tv)] (.d (aq V.int (ys.foldl wh s))) X:=
 aG.fold aC (fun s=>.d (aq V.int s)) (fun a=>X) wh (fun xs s=>s.length+xs.length<1000)
  (fun y ys s hh=>by have :=cC s (sL y) (1:Int);simp only[List.length_cons] at hh;unfold wh;exact aQ (nat_lit 0x3e83f208113e83f19281811191800102) ae this hh)
  (fun y ys s hh=>by unfold wh;rw[←j6];exact a_ [T "tail"] (.no 1 (bj (show(aq V.int s).length+1<ai by rw[dX];unfold ai;exact aE (nat_lit 0x1000006f1908113e83f1081101) ae hh)) .nil) (by kernel_rfl)) ys s hz
theorem F3(hl:l.length≤12):dJ (d+8) DK ((dB l).map fun j=>ez (l.take j)) [] (.d []) X (.d (aq V.int (setG (Dp l)))) X:=by
 obtain q:=aG.fold (d:=d+8) (au:=H8 DK) (g:=Ve DK) (T:=eu (d+8) (H8 DK) (RO DK) (Ck DK).tail) (env:=[]) (fun j:Nat=>ez (l.take j)) (fun s=>.d (aq V.int s)) (fun a=>X) (fun s j=>(tailOf (l.take j)).foldl wh s) (fun xs s=>s.length+12* xs.length<1000)
  (fun j xs s hh=>by obtain h1:=ue (tailOf (l.take j)) s;obtain h2:=oz (l.take j);rw[List.length_take] at h2;rw[List.length_cons] at hh;exact Ln.go (nat_lit 0x3e83f4ca2811c95013e83f1948ca38115101100103820105) [_,_,_,_,_,_] ae h1 h2 (Nat.min_le_right (j) (l.length)) hh hl)
  (fun j xs s hh=>by obtain h2:=oz (l.take j);rw[List.length_take] at h2;rw[List.length_cons] at hh;exact a_ [] (.cmp (QW (d:=d) (X:=X) (tv:=ez (l.take j)) (tailOf (l.take j)) s (uv (nat_lit 0x3e83f02811c94013e83f1938ca28114101100104) ae h2 (Nat.min_le_right (j) (l.length)) hh hl)) .nil) (by kernel_rfl)) (dB l) [] (by simp only[iU,List.length_nil];exact aV (nat_lit 0x3e83f0ca09811c900c01) ae hl)
 obtain q:=(List.foldl_flatMap).symm▸q;exact q
abbrev Xj(cs:List Int)(k:Nat)(way:Int)(l:List Nat)(ev:List (List Nat)):af:=[(T "cells",.lst (cs.map .int)),(T "way",.int way),(T "lexer",.ref k),(T "letters",aC l),(T "tails",eZ l),(T "every",.lst (ev.map aC))]
theorem uf{β:Type}{f:β→V}{K:List (Str×β)}{Xs ev:List (List Nat)}(hX:K.map (·.1)=Xs.map sL)(h:b8 (Xs.map aC) (Xs.map aC)=some (.lst (ev.map aC))):lR [.aF (aq f K)] X=some (.lst (ev.map aC),X):=by obtain e:=C9 f K Xs hX;show opt (b8 ((aq f K).map fun kv=>V.str kv.1) ((aq f K).map fun kv=>V.str kv.1)) X=_;rw[e,h];rfl
theorem QX(hl:l.length≤12):∃ev,lH l ev∧LX d 12 (Xi cs k way l) X .next (Xj cs k way l ev) X:=by
 obtain hX:=we (Dp l);obtain LL:∀x,x∈zl (Dp l)↔i8 l x:=fun x=>(Dq _ x).trans LO
 obtain QE:=gG l _ hX fun x hx=>(LL x).mp hx
 refine(qu _ hX (aE (nat_lit 0x40e011c9101100102) ae QE hl)).elim fun ev z2=>?_;obtain h1:=z2.1;obtain h2:=z2.2.1;obtain h3:=z2.2.2
 obtain so:=uf (X:=X) (f:=V.int) (k6 (Dp l)) h1;exact⟨ev,⟨fun x=>h2.mem_iff.trans (LL x),h3⟩,bK (.cmp (F3 (d:=d) (X:=X) hl) (.upd 2 so .nil)) (by kernel_rfl)⟩
end
section
variable{d:Nat}{X B:AH}{cs:List Int}{way aJ:Int}{k:Nat}{l w:List Nat}{a:Lx}{ev O:List (List Nat)}{K:List (Str×St)}
abbrev zC(cs:List Int)(k:Nat)(way:Int)(l:List Nat)(ev:List (List Nat))(K:List (Str×St))(O:List (List Nat)):af:=[(T "cells",.lst (cs.map .int)),(T "way",.int way),(T "lexer",.ref k),(T "letters",aC l),(T "tails",eZ l),(T "every",.lst (ev.map aC)),(T "book",.aF (aq St.enc K)),(T "order",.lst (O.map aC))]
theorem QY(hl:l.length≤12)(hw:way=1∨way=-1)(h:a.Ok B):∃K O t,iH l way K O∧LX d 13 (Xj cs a.k way l ev) (a.hp B aJ [] []) .next (zC cs a.k way l ev K O) (a.hp (B++t) aJ [] []):=by
 refine(qo (d:=d+3) (aJ:=aJ) (cs:=[]) hl hw (.inl rfl) h).elim fun K D_=>?_;refine D_.elim fun O Ox=>?_;refine Ox.elim fun t DG=>?_;obtain q:=DG.1;obtain c:=DG.2
 exact⟨K,O,t,q,bK (.call c .nil) (by kernel_rfl)⟩
theorem F4(hw:w.length≤12)(hK:∀x∈ev,∃s,K.lookup (sL x)=some s∧Ent (dB w) (PW w x) (cW w x) s):dJ (d+8) (Fb (QO (QN (lS 14)) 1)) (ev.map aC) [(T "book",.aF (aq St.enc K)),(T "tails",eZ w)] (.l []) X (.l []) X:=aG.skip aC ev fun x hx=>by obtain⟨s,h1,h2⟩:=hK x hx;obtain it:item X (.aF (aq St.enc K)) (aC x)=some s.enc:=(fF St.enc K _).trans (congrArg (Option.map St.enc) h1);exact a_ [T "book",T "tails"] (.val 2 it (.call (Dh (d:=d+6) (H:=X) (x:=x) hw) (.val 6 (d9 (t9 X h2)) .nil))) (by kernel_rfl)
theorem QZ(hl:l.length≤12)(E:lH l ev)(q:iH l way K O):LX d 14 (zC cs k way l ev K O) X .next (zC cs k way l ev K O) X:=by
 obtain⟨Xs,hX,LK,hp⟩:=q.keys;have LL:∀x,x∈Xs↔i8 l x:=fun x=>hp.symm.mem_iff.trans (q.mem x)
 obtain⟨Z4,h1,h2,h3⟩:=qu Xs LK (by have :=gG l Xs LK fun x hx=>(LL x).mp hx;exact aE (nat_lit 0x40e011c9101100102) ae this hl);cases (iS (fun a b=>strLt (sL a) (sL b)=true) (fun a b h k=>by rw[eX h] at k;exact bE k) (h2.trans (gF LK E.nodup fun x=>(LL x).trans (E.mem x).symm)) h3 E.Dc:Z4=ev);obtain so:=uf (X:=X) (f:=St.enc) hX h1;exact bK (.upd 2 so (.val 4 (d9 (X:=X) (f7 (H:=X) ev)) (.cmp (F4 (d:=d) (X:=X) hl fun x hx=>q.ent x ((E.mem x).mp hx)) .nil))) (by kernel_rfl)
noncomputable def Q0(e:Expr):Expr:=by induction e using Expr.casesOn with |Call f as ks p=>exact(ks.head?.map (·.value)).getD f|_=>exact .Constant .none 0 default
abbrev Z5(e:Expr):Expr:=rC e 2
abbrev LQ:Expr:=LP (QN (lS 15))
abbrev VU:V:=.rO [T "one"] (E1 (Q0 LQ)) (E2 (Q0 LQ)) []
theorem Dv(x:List Nat):aD (d+2) VU [aC x] X (.int (-(x.length:Int))) X:=by obtain q:bS (d+1) (gi (E2 (Q0 LQ))) ([T "one"].zip [aC x]++[]) (E1 (Q0 LQ)) X (.int (-((sL x).length:Int))) X:=nN .nil (by kernel_rfl);exact HG (by kernel_rfl) (by kernel_rfl) q
theorem xV:∀xs:List (List Nat),kN (d+2) VU (xs.map aC) X (xs.map fun x=>.int (-(x.length:Int))) X|[]=>.nil|x::xs=>.cons (Dv x) (xV xs)
theorem zo{xs:List V}{i:Int}{j:Nat}{v:V}(e:i+xs.length=j)(h0:i<0)(h:xs[j]?=some v)(hn:xs.length<2^60):item X (.lst xs) (.int i)=some v:=nW (.inr ⟨e,h0⟩) h hn
theorem F5(hl:ev.length≤12):dJ (d+1) (Z5 (jQ LQ 0)) ((List.range (ev.map aC).length).map fun(i:Nat)=>.int (0+(i:Int))) [(T "every",.lst (ev.map aC))] (.l []) X (.l (ev.reverse.map aC)) X:=by
 simp only[←qw ev [],List.map_map,List.length_map];refine aG.all _ _ (List.range ev.length) (by rw[List.length_range];unfold ai;exact aV (nat_lit 0x1000006f011c900101) ae hl) fun i hi vs hz=>?_
 obtain m8:=ur hi;obtain it:=zo (X:=X) (xs:=ev.map aC) (i:=-1-(0+(i:Int))) (j:=ev.length-1-i) (v:=aC (ev.getD (ev.length-1-i) [])) (by rw[List.length_map];exact NR (nat_lit 0x27170709819dc8a51193834302834028301193810114) ae (Ln.aN (ev.length) (1)) (Ln.aN (ev.length-1) (i)) (Nat.sub_add_cancel (aQ (nat_lit 0x20011928101101102) ae m8 (Ln.aN (ev.length) (1)):i≤ev.length-1)) (Nat.sub_add_cancel (aE (nat_lit 1206903640321) ae m8:1≤ev.length))) (rQ (nat_lit 0x90709819dc9100) ae) (by rw[List.getElem?_map,List.getD_eq_getElem?_getD,List.getElem?_eq_getElem (by exact Ln.go (nat_lit 0x10111192821200102) [_,_,_,0] ae (Nat.sub_le (ev.length-1) (i)) (Nat.sub_add_cancel (aE (nat_lit 1206903640321) ae m8:1≤ev.length)))];rfl) (by rw[List.length_map];exact aV (nat_lit 0x1000000000000000100f011c900101) ae hl);exact a_ [T "every"] (.val 3 it (.no 4 (bj hz) .nil)) (by kernel_rfl)
theorem Q2(hl:l.length≤12)(hw:way=1∨way=-1)(E:lH l ev)(q:iH l way K O):LX d 15 (zC cs k way l ev K O) X .next (zC cs k way l ev K O) X:=by
 obtain RZ:=E.len;obtain⟨uo,e1⟩:∃uo,uo=if decide (way>0) then ev else ev.reverse:=⟨_,rfl⟩
 obtain arg:bS (d+7) o6 (zC cs k way l ev K O) (jQ LQ 0) X (.lst (uo.map aC)) X:=by
  refine e1▸?_;rcases hw with rfl|rfl
  ·exact nN .nil (by kernel_rfl)
  ·obtain lp:=F5 (d:=d+6) (X:=X) (ev:=ev) (by solve_by_elim [Nat.le_refl,Nat.le_of_lt,Nat.lt_of_lt_of_le,Nat.le_trans,Nat.lt_of_le_of_lt,Nat.lt_trans]);exact nN (.upd 7 (gC (ev.map aC).length X (by rw[List.length_map];exact aE (nat_lit 0x1000000000000000100f011c9101100102) ae RZ hl)) (.cmp lp .nil)) (by kernel_rfl)
 obtain nm:bS (d+7) o6 (zC cs k way l ev K O) (.Name (T "sorted") ⟨170,16,170,22⟩) X (.blt "sorted") X:=nN .nil (by kernel_rfl);obtain kf:bS (d+7) o6 (zC cs k way l ev K O) (Q0 LQ) X VU X:=nN .nil (by kernel_rfl);obtain so:=ET (kp:=⟨170,95,170,120⟩) (p:=⟨170,16,170,121⟩) (by kernel_rfl) nm arg kf rfl (show iL (.lst (uo.map aC)) X=some (uo.map aC,X) from rfl) (xV (d:=d+5) uo) (Dr hw E hl q uo e1);exact bK (.ev so (.val 1 (d9 (X:=X) (f7 (H:=X) O)) .nil)) (by kernel_rfl)
end
section
variable{d:Nat}{X B:AH}{cs ns:List Int}{way aJ:Int}{k:Nat}{l w:List Nat}{a:Lx}{ev O O':List (List Nat)}{K K':List (Str×St)}
abbrev Xk(cs:List Int)(k:Nat)(way:Int)(l:List Nat)(ev:List (List Nat))(K:List (Str×St))(O:List (List Nat)):af:=zC cs k way l ev K O++[(T "size",.int l.length)]
theorem Q6:LX d 16 (zC cs k way l ev K O) X .next (Xk cs k way l ev K O) X:=by
 obtain ln:g_ "len" [aC l] X=some (.int l.length,X):=by rfl
 exact bK (.upd 2 ln .nil) (by kernel_rfl)
abbrev Xl:Expr:=jn (lS 17)
theorem F6(hl:l.length≤12)(j:Nat)(hj:j≤l.length):dJ (d+8) (VR Xl) ((List.range j).map fun(c:Nat)=>.int (0+(c:Int))) [(T "letters",aC l),(T "place",.int j),(T "size",.int l.length),(T "tails",eZ l)] (.l []) X (.l (((List.range j).filter fun c=>gX ((l.drop (l.length-j)).take (j-c))).map fun c=>aC ((l.drop (l.length-j)).take (j-c)))) X:=by
 refine aG.pick _ _ (fun c=>gX ((l.drop (l.length-j)).take (j-c))) (List.range j) [] (by rw[List.length_range,List.length_nil];unfold ai;exact aE (nat_lit 0x1000006f009811c9101100102) ae hj hl) fun c hc vs hz=>?_
 have Ls:=ur hc;obtain sl:=slice_N (X:=X) (l:=l) (l.length-j) (l.length-c) (i:=(l.length:Int)-(j:Int)) (Iz.go (nat_lit 0x271707ca501283412800112) [_,_,_] [] ae (Ln.aN (l.length) (j)) (Nat.sub_add_cancel (aE (nat_lit 68737302785) ae hj:j≤l.length))) (j:=(l.length:Int)-(0+(c:Int))) (Iz.go (nat_lit 0x271709807ca501283412800112) [_,_,_] [] ae (Ln.aN (l.length) (c)) (Nat.sub_add_cancel (aQ (nat_lit 9008440518119682) ae Ls hj:c≤l.length)));rw[show l.length-c-(l.length-j)=j-c by omega] at sl;obtain it:item X (eZ l) (.int ((l.length:Int)-(0+(c:Int))-1))=some (ez (l.take (l.length-c))):=by
  refine xR (k:=l.length-c-1) (NR (nat_lit 0x27191709807cca53192834013834192830113800114) ae (Ln.aN (l.length) (c)) (Ln.aN (l.length-c) (1)) (Nat.sub_add_cancel (aQ (nat_lit 9008440518119682) ae Ls hj:c≤l.length)) (Nat.sub_add_cancel (gS (nat_lit 0x319010382012101101103) ae Ls hj (Ln.aN (l.length) (c)):1≤l.length-c))) ?_ (by rw[List.length_map,iU];exact aV (nat_lit 0x1000000000000000100f011c900101) ae hl);obtain e:(dB l)[l.length-c-1]?=some (l.length-c):=by unfold dB;refine(List.getElem?_range' (Ln.go (nat_lit 0x10111201219082102) [_,_,_,0] ae (Nat.sub_add_cancel (gS (nat_lit 0x319010382012101101103) ae Ls hj (Ln.aN (l.length) (c)):1≤l.length-c)) (Nat.sub_le (l.length) (c)))).trans ?_;exact congrArg some (Ln.go (nat_lit 0x101a198251908104119082112) [_,_,0,0] ae (Nat.sub_add_cancel (gS (nat_lit 0x319010382012101101103) ae Ls hj (Ln.aN (l.length) (c)):1≤l.length-c)) (Ln.aN (l.length-c) (1)))
  simp only[List.getElem?_map,e];rfl
 obtain vp:decide ((l.drop (l.length-j)).take (j-c)∈tailOf (l.take (l.length-c)))=gX ((l.drop (l.length-j)).take (j-c)):=by
  rw[Bool.eq_iff_iff,decide_eq_true_eq,bP,bz];refine⟨fun h=>h.1.2,fun h=>⟨⟨?_,h⟩,fun h0=>?_⟩⟩
  ·obtain e:=i_ l (l.length-j) (l.length-c);rw[show l.length-c-(l.length-j)=j-c by omega] at e;rw[e];exact List.drop_suffix _ _
  ·obtain this:=congrArg List.length h0;simp only[List.length_take,List.length_drop,List.length_nil] at this;omega
 obtain ins:=xN X ((l.drop (l.length-j)).take (j-c)) (tailOf (l.take (l.length-c)));rw[vp] at ins;induction hp:gX ((l.drop (l.length-j)).take (j-c)) with |true=>rw[hp] at ins;exact a_ [T "letters",T "place",T "size",T "tails"] (.val 7 sl (.val 13 it (.val 14 ins (.val 23 sl (.no 24 (bj hz) .nil))))) (by kernel_rfl)|false=>rw[hp] at ins;exact a_ [T "letters",T "place",T "size",T "tails"] (.val 7 sl (.val 13 it (.val 14 ins .nil))) (by kernel_rfl)
theorem F7:dB l.reverse=dB l:=by unfold dB;rw[List.length_reverse]
abbrev Xm(cs:List Int)(k:Nat)(way:Int)(l:List Nat)(ev:List (List Nat))(K:List (Str×St))(O:List (List Nat)):af:=zC cs k way l ev K O++[(T "size",.int l.length),(T "heads",eZ l.reverse)]
theorem Q7(hl:l.length≤12):LX d 17 (Xk cs k way l ev K O) X .next (Xm cs k way l ev K O) X:=by
 obtain lp:dJ (d+8) Xl ((dB l).map fun(j:Nat)=>.int j) [(T "letters",aC l),(T "size",.int l.length),(T "tails",eZ l)] (.l []) X (.l ((dB l.reverse).map fun j=>ez (l.reverse.take j))) X:=by
  rw[F7];refine aG.all _ _ (dB l) (by rw[iU];unfold ai;exact aV (nat_lit 0x1000006f011c900101) ae hl) fun j hj vs hz=>?_
  obtain rR:=(dD.mp hj).2;obtain ti:=F6 (d:=d) (X:=X) hl j rR;obtain e:ez (l.reverse.take j)=.lst (((List.range j).filter fun c=>gX ((l.drop (l.length-j)).take (j-c))).map fun c=>aC ((l.drop (l.length-j)).take (j-c))):=by unfold ez;simp only[Ds l j rR,List.map_map];rfl
  exact e▸(a_ [T "letters",T "size",T "tails"] (.upd 2 (gC j X (aE (nat_lit 0x1000000000000000100f011c9101100102) ae rR hl)) (.cmp ti (.no 3 (bj hz) .nil))) (by kernel_rfl))
 obtain e:=xU (l:=l);rw[←e] at lp;exact bK (.upd 3 (ou l.length X (aV (nat_lit 0x800000000000000ff011c900101) ae hl)) (.cmp lp .nil)) (by kernel_rfl)
abbrev VV(cs:List Int)(k:Nat)(way:Int)(l:List Nat)(ev:List (List Nat))(K:List (Str×St))(O:List (List Nat))(K':List (Str×St))(O':List (List Nat)):af:=zC cs k way l ev K O++[(T "size",.int l.length),(T "heads",eZ l.reverse),(T "again",.aF (aq St.enc K')),(T "back",.lst (O'.map aC))]
theorem Q_(hl:l.length≤12)(hw:way=1∨way=-1)(h:a.Ok B):∃K' O' t,iH l.reverse way K' O'∧LX d 18 (Xm cs a.k way l ev K O) (a.hp B aJ [] []) .next (VV cs a.k way l ev K O K' O') (a.hp (B++t) aJ [] []):=by
 refine(qo (d:=d+3) (aJ:=aJ) (cs:=[]) (l:=l.reverse) (by rw[List.length_reverse];exact hl) hw (.inr rfl) h).elim fun K' D_=>?_;refine D_.elim fun O' Ox=>?_;refine Ox.elim fun t DG=>?_;obtain q:=DG.1;obtain c:=DG.2
 obtain lp:dJ (d+8) (jQ (jn (lS 18)) 1) ((List.range l.length).map fun(i:Nat)=>.int (0+(i:Int))) [(T "letters",aC l)] (.l []) (a.hp B aJ [] []) (.l (l.reverse.map cY)) (a.hp B aJ [] []):=by
  simp only[←qw l 0,List.map_map];refine aG.all _ _ (List.range l.length) (by rw[List.length_range];unfold ai;exact aV (nat_lit 0x1000006f011c900101) ae hl) fun i hi vs hz=>?_
  obtain m8:=ur hi;obtain it:=l6 (H:=a.hp B aJ [] []) (l:=l) (i:=-1-(0+(i:Int))) (k:=l.length-1-i) (d:=l.getD (l.length-1-i) 0) (.inr ⟨NR (nat_lit 0x27170709819dc8a51193834302834028301193810114) ae (Ln.aN (l.length) (1)) (Ln.aN (l.length-1) (i)) (Nat.sub_add_cancel (aQ (nat_lit 0x20011928101101102) ae m8 (Ln.aN (l.length) (1)):i≤l.length-1)) (Nat.sub_add_cancel (aE (nat_lit 1206903640321) ae m8:1≤l.length)),rQ (nat_lit 0x90709819dc9100) ae⟩) (by rw[List.getD_eq_getElem?_getD,List.getElem?_eq_getElem (by exact Ln.go (nat_lit 0x10111192821200102) [_,_,_,0] ae (Nat.sub_le (l.length-1) (i)) (Nat.sub_add_cancel (aE (nat_lit 1206903640321) ae m8:1≤l.length)))];rfl) (aV (nat_lit 0x1000000000000000100f011c900101) ae hl);exact a_ [T "letters"] (.val 3 it (.no 4 (bj hz) .nil)) (by kernel_rfl)
 exact⟨K',O',t,q,bK (.upd 4 (gC l.length (a.hp B aJ [] []) (aV (nat_lit 0x1000000000000000100f011c900101) ae hl)) (.cmp lp (.call c .nil))) (by kernel_rfl)⟩
theorem F8(hw:w.length≤12)(hK:∀x∈ev,∃s,K.lookup (sL x)=some s∧Ent (dB w) (PW w x) (cW w x) s):dJ (d+8) (Fb (QO (E_ (lS 19)) 1)) (ev.map aC) [(T "again",.aF (aq St.enc K)),(T "heads",eZ w)] (.l []) X (.l []) X:=aG.skip aC ev fun x hx=>by
 obtain⟨s,h1,h2⟩:=hK x hx;have it:item X (.aF (aq St.enc K)) (aC x)=some s.enc:=(fF St.enc K _).trans (congrArg (Option.map St.enc) h1)
 exact a_ [T "again",T "heads"] (.val 2 it (.call (Dh (d:=d+6) (H:=X) (x:=x) hw) (.val 6 (d9 (t9 X h2)) .nil))) (by kernel_rfl)
theorem Ra(hl:l.length≤12)(q:iH l way K O)(q':iH l.reverse way K' O'):LX d 19 (VV cs k way l ev K O K' O') X (.ret (.bool true)) (VV cs k way l ev K O K' O') X:=by
 have hn:O.Nodup:=q.Dc.imp fun{a b} h e=>by subst e;exact iT h h
 have Rp:O'.Nodup:=q'.Dc.imp fun{a b} h e=>by subst e;exact iT h h
 cases (iS (cA way) (fun a b=>iT) (gF Rp hn fun x=>by grind [q'.mem,q.mem,FZ]) q'.Dc q.Dc:O'=O);obtain Z6:=F8 (d:=d) (X:=X) (w:=l.reverse) (ev:=O) (K:=K') (by rw[List.length_reverse];exact hl) fun x hx=>q'.ent x ((q'.mem x).mp hx)
 exact bK (.val 2 (eq_true (X:=X) (f7 (H:=X) O)) (.cmp Z6 .nil)) (by kernel_rfl)
theorem R0:bd 20=[lS 0,lS 1,lS 2,lS 3,lS 4,lS 5,lS 6,lS 7,lS 8,lS 9,lS 10,lS 11,lS 12,lS 13,lS 14,lS 15,lS 16,lS 17,lS 18,lS 19]:=by kernel_rfl
theorem LR{W:AH}{v:V}{aj:af}(h:oX (d+8) o6 (W8 ns) [lS 0,lS 1,lS 2,lS 3,lS 4,lS 5,lS 6,lS 7,lS 8,lS 9,lS 10,lS 11,lS 12,lS 13,lS 14,lS 15,lS 16,lS 17,lS 18,lS 19] X (.ret v) aj W):aD (d+9) (.fn 215) [.lst (ns.map .int)] X v W:=by exact Kz (fk:=215) (dd:=dY (Hd.st 20)) (vs:=[.lst (ns.map .int)]) (fl:=.ret v) (by kernel_rfl) (by kernel_rfl) h
theorem LS(ns:List Int)(X:AH):∃H',aD (d+9) (.fn 215) [.lst (ns.map .int)] X (.bool true) H':=by
 obtain⟨c0,c1,c2,c3,c4,c5,c6,g0⟩:=VG (d:=d) (H:=X) (ns:=ns);obtain⟨cnt,way,h3,h5,hw,g1⟩:=VH (d:=d) (H:=X++[.gone]) (ns:=ns) (c0:=c0) (c1:=c1) (c2:=c2) (c3:=c3) (c4:=c4) (c5:=c5) (c6:=c6);obtain⟨ws,Rb,hW,g2⟩:=VJ (d:=d) (H:=X++[.gone]) (ns:=ns) (cs:=lQ c0 c1 c2 c3 c4 c5 c6) (cnt:=cnt) (way:=way) rfl h5;refine(VK (d:=d) (H:=X++[.gone]) (ns:=ns) (c0:=c0) (c1:=c1) (c2:=c2) (c3:=c3) (c4:=c4) (c5:=c5) (c6:=c6) (cnt:=cnt) (way:=way) (ws:=ws) h3 h5).elim fun e Rc=>?_;obtain he:=Rc.1;obtain g3:=Rc.2
 obtain g4:=VM (d:=d) (H:=X++[.gone]) (ns:=ns) (c0:=c0) (c1:=c1) (c2:=c2) (c3:=c3) (c4:=c4) (c5:=c5) (c6:=c6) (way:=way) h3 h5 Rb hW he;have Mq:ws.length≤5:=Rb▸h5
 obtain Mk:=xQ (c6:=c6) (e:=e) Mq hW;obtain LU:=xF e he (Ml ws c6) (fun h=>by have :=congrArg List.length h;rw[List.length_map,iI] at this;obtain h0:ws.length=0:=this;exact aE (nat_lit 0x909611031139010902103) ae this h3 Rb) [] rfl;rw[List.nil_append,List.length_map,iI,Rb,FT] at LU;generalize txtL (Ml ws c6) e=t at g4 Mk LU;obtain⟨a,kT,B,hT,g5⟩:=VN (d:=d) (H:=X++[.gone]) (ns:=ns) (cs:=lQ c0 c1 c2 c3 c4 c5 c6) (cnt:=cnt) (way:=way) (ws:=ws) (e:=e) (t:=t) (aV (nat_lit 0x3e83f01164e01101) ae Mk) h5;rw[LU] at g5;obtain g6:=VO (d:=d) (ns:=ns) (cs:=lQ c0 c1 c2 c3 c4 c5 c6) (cnt:=cnt) (way:=way) (e:=e) (t:=t) Mq hT;have kt:(uh a kT (1+cJ t) B (d8 ws) [])[kT]?=some (.lst ((d8 ws).map aC)):=(Lx.Cg hT.n1 hT.n2 hT.n3).trans (List.getElem?_set_self hT.lt)
 obtain g7:=VP (d:=d) (ns:=ns) (cs:=lQ c0 c1 c2 c3 c4 c5 c6) (cnt:=cnt) (way:=way) (e:=e) (t:=t) (a:=a) Mq hW kt;obtain g8:=VS (d:=d) (ns:=ns) (cs:=lQ c0 c1 c2 c3 c4 c5 c6) (way:=way) (e:=e) (t:=t) (a:=a) Mq Rb hW kt;obtain g9:=VT (d:=d) (X:=uh a kT (1+cJ t) B (d8 ws) []) (ns:=ns) (cs:=lQ c0 c1 c2 c3 c4 c5 c6) (cnt:=cnt) (way:=way) (e:=e) (t:=t) (a:=a) (kT:=kT) Mq;obtain L2:=QU (d:=d) (X:=uh a kT (1+cJ t) B (d8 ws) []) (ns:=ns) (cs:=lQ c0 c1 c2 c3 c4 c5 c6) (cnt:=cnt) (way:=way) (e:=e) (t:=t) (a:=a) (kT:=kT) Mq hW;have hl:(FW ws).length≤12:=by rw[List.length_take];exact Nat.min_le_left ..
 generalize FW ws=l at L2 hl;have ok:=hT.ok.Cc (o:=.lst ((d8 ws).map aC)) hT.n4
 obtain Z7:=QV (d:=d) (X:=uh a kT (1+cJ t) B (d8 ws) []) (cs:=lQ c0 c1 c2 c3 c4 c5 c6) (way:=way) (k:=a.k) hl;obtain⟨ev,E,Z8⟩:=QX (d:=d) (X:=uh a kT (1+cJ t) B (d8 ws) []) (cs:=lQ c0 c1 c2 c3 c4 c5 c6) (way:=way) (k:=a.k) hl;obtain⟨K,O,t1,q,Z9⟩:=QY (d:=d) (aJ:=1+cJ t-cJ []) (cs:=lQ c0 c1 c2 c3 c4 c5 c6) (ev:=ev) hl hw ok;obtain Z_:=QZ (d:=d) (X:=a.hp (B.set kT (.lst ((d8 ws).map aC))++t1) (1+cJ t-cJ []) [] []) (cs:=lQ c0 c1 c2 c3 c4 c5 c6) (k:=a.k) hl E q;obtain g15:=Q2 (d:=d) (X:=a.hp (B.set kT (.lst ((d8 ws).map aC))++t1) (1+cJ t-cJ []) [] []) (cs:=lQ c0 c1 c2 c3 c4 c5 c6) (k:=a.k) hl hw E q;obtain g16:=Q6 (d:=d) (X:=a.hp (B.set kT (.lst ((d8 ws).map aC))++t1) (1+cJ t-cJ []) [] []) (cs:=lQ c0 c1 c2 c3 c4 c5 c6) (way:=way) (k:=a.k) (l:=l) (ev:=ev) (K:=K) (O:=O);obtain g17:=Q7 (d:=d) (X:=a.hp (B.set kT (.lst ((d8 ws).map aC))++t1) (1+cJ t-cJ []) [] []) (cs:=lQ c0 c1 c2 c3 c4 c5 c6) (way:=way) (k:=a.k) (ev:=ev) (K:=K) (O:=O) hl;obtain⟨K',O',t2,q',g18⟩:=Q_ (d:=d) (aJ:=1+cJ t-cJ []) (cs:=lQ c0 c1 c2 c3 c4 c5 c6) (ev:=ev) (K:=K) (O:=O) hl hw (ok.rows t1);obtain g19:=Ra (d:=d) (X:=a.hp ((B.set kT (.lst ((d8 ws).map aC))++t1)++t2) (1+cJ t-cJ []) [] []) (cs:=lQ c0 c1 c2 c3 c4 c5 c6) (k:=a.k) (ev:=ev) hl q q';exact⟨_,LR (bu g0 (bu g1 (bu g2 (bu g3 (bu g4 (bu g5 (bu g6 (bu g7 (bu g8 (bu g9 (bu L2 (bu Z7 (bu Z8 (bu Z9 (bu Z_ (bu g15 (bu g16 (bu g17 (bu g18 (BQ g19))))))))))))))))))))⟩
end
end Mine
end
noncomputable section
open PySem PySem.W PySem.Calls PyProof.Rows
def Mine.dL:DefRec:=(DefRec.ofStmt? (Hd.st 20)).get (by kernel_rfl)
theorem Mine.good0:Mine.Good Mine.w0:=by intro s p loose sj mg mb fa a vs ns m E X₀ TT T hf g hI hl;obtain⟨H',run⟩:=Mine.LS (d:=0) ns [];exact Mine.EJ X₀ TT T hf g hI hl run
theorem Mine.Dw(w:World):Mine.Good w:=by apply Classical.byContradiction (p:=Mine.Good w);intro h;exact Classical.epsilon_spec (p:=fun w=>¬Mine.Good w) ⟨w,h⟩ Mine.good0
set_option tactic.hygienic true in
theorem PySem.Challenge.cw_xb0034_04_holds : PySem.Challenge.rw_xb0034_04.Holds := by
 refine PySem.W.holds_law (by kernel_rfl) fun aag=>?_
 refine PySem.W.holds_open (d:=Mine.dL) (kwd:=[]) (q:=Hd.qv) (loose:=Hd.qF) (Xt:=Hd.SA) (XP:=XL Hd.qv []) (Yf:=Hook.obs Hd.hk) (Ya:=Hook.val Hd.hk) (YP:=Hook.says Hd.hk) Hd.Nu (Hook.of Hd.hk) (Hook.keeps Hd.hk) (fun s e=>xl_of s (Mine.aW e).1) XL.keeps (by kernel_rfl) (by kernel_rfl) (by kernel_rfl) (fun s e=>recFacts_of (Mine.aW e).2) (by rfl) (by assumption) (by decide+kernel) ⟨rfl,rfl,rfl,rfl,rfl,by decide+kernel⟩ ?hw ?hc
 case hw=>w_witness2
 intro w s₀ s₁ mg mb G Y fa o pm cd doc dV kV ho hd N6 hD hmg hg args vals as yk VW hrd hwl HE;have X₀:(Hd.kF w.params).In s₁.heap:=km_in_of Y
 have TT:=km_tabs_of Y;refine Ground.open G ?_;intro T B D TE TW
 wrow_args yk VW hrd hwl HE
 rename_i ns _ _ _ _ _ _ _ a vs _ hL _ w1 _ hI _ Xn _;have hlen:ns.length<64:=by omega
 have g:=Mine.EI w1 hL;refine wpAny_mono (Mine.Dw w X₀ TT T hmg g hI hlen) (fun v s' h=>?_) fun b b e=>e
 obtain⟨rfl,hold,rP,Rd⟩:=h;refine⟨.inl ⟨_,.bool true,[],rfl,fun b=>rfl,.bool true,?_,fun b=>⟨List.nodup_nil,fun a ha=>by cases ha⟩⟩,hold,rP,.of_eq (Rd.trans hg)⟩
 first|rfl|kernel_rfl|(unfold rw_xb0034_04;rfl)
end
